/-
  'laws.FnOrdered': THE WALK (laid by gen_fnordered.py).
-/
import Derived.Test.YtpmfjbmfjfhghaaGreatOrdered
namespace Go.Proofs.YtpmfjbmfjfhghaaGreat
open Go.RowKit

theorem leaf_of {t : Tr} (h : ProperT t) (hk : t.kind ≤ 4) : Leaf t := by
  cases t with
  | mk k ks l m =>
    simp only [ProperT] at h
    simp only [Tr.kind] at hk
    obtain ⟨hs, hks, _⟩ := h
    simp only [Shaped] at hs
    rcases hs with ⟨_, h1, h2⟩ | ⟨h, _⟩ | ⟨h, _⟩ | ⟨h, _⟩ | ⟨h, _⟩
    · exact ⟨hks (by omega), h1, h2⟩
    all_goals omega

theorem leaf_norm {t : Tr} (h : Leaf t) (hk : t.kind ≤ 4) : norm t = t := by
  cases t with
  | mk k ks l m =>
    obtain ⟨h1, h2, h3⟩ := h
    simp only [Tr.keys, Tr.kids, Tr.more, Tr.kind] at h1 h2 h3 hk
    subst h1 h2 h3
    simp only [norm, norms]
    rw [if_neg (by omega), if_neg (by omega)]

theorem normal_ordered {a : Tr} {cs : List Value} {w W : World} (h : TA w a cs) (n : Nice a) (hk : a.kind = 8) (hl : ∀ t ∈ a.kids, t.kind ≤ 4) (hW : Below w.heap.size w W) :
    Calls Tryz.prog 27 #[.agg cs.toArray] W fun e w' => ∃ cs' : List Value, e = .returned (.agg cs'.toArray) ∧ Calls Tryz.prog 28 #[.agg cs'.toArray] w' (BoolAt true w') ∧ Below W.heap.size W w' := by
  refine (implNormal_any a cs W _ (h.up hW).rep (fun _ h => h) n).mono ?_
  rintro e w' ⟨cs', rfl, hr, hB⟩
  refine ⟨cs', rfl, ?_, hB⟩
  cases a with
  | mk k ks l m =>
    have hn := n
    obtain ⟨hp, hb⟩ := n
    simp only [ProperT, ProperTs_iff] at hp
    simp only [Tr.kind] at hk
    simp only [Tr.kids] at hl
    subst hk
    obtain ⟨hs, hks, _, hpl, _⟩ := hp
    simp only [Shaped] at hs
    obtain ⟨-, rfl⟩ : True ∧ m = [] := by
      rcases hs with ⟨h, _⟩ | ⟨h, _⟩ | ⟨h, _⟩ | ⟨h, _⟩ | ⟨_, _, h, _⟩
      · omega
      · omega
      · omega
      · omega
      · exact ⟨trivial, h⟩
    obtain rfl := hks (by omega)
    have hlf : ∀ t ∈ l, Leaf t := fun t ht => leaf_of (hpl t ht) (hl t ht)
    have hnl : norms l = l := by
      rw [norms_map]
      exact (List.map_congr_left fun t ht => leaf_norm (hlf t ht) (hl t ht)).trans (List.map_id l)
    have hmem : ∀ t, t ∈ sortT l ↔ t ∈ l := fun t => (isort_perm leT l).mem_iff
    simp only [Tr.bulk] at hb
    have hbl := Tr.length_bulks l
    have hgood : ∀ t ∈ l, t.good := fun t ht => (hpl t ht).good
    have hso := sortT_sorted hgood
    have e0 : norm (.mk 8 [] l []) = .mk 8 [] (sortT l) [] := by simp only [norm, norms, if_pos trivial, hnl]
    rw [e0] at hr
    simp only [repI] at hr
    obtain ⟨nm, tx, A1, c1, A2, c2, A3, c3, xs, ys, rfl, _, h1, h2, h3, h4, h5⟩ := hr
    have hlen : (sortT l).length ≤ 1048576 := by rw [sortT, isort_length]; omega
    refine ordered_any8 (sortT l) nm tx A1 A2 A3 c1 c2 c3 xs w' _ h3 h2 (fun b hb => hb.2) hlen (fun t ht => hlf t ((hmem t).1 ht)) (fun t ht => ⟨hpl t ((hmem t).1 ht), by have := Tr.bulk_mem ((hmem t).1 ht); omega⟩) fun i hi => ?_
    have hm0 := (hmem _).1 (List.getElem_mem (show i < (sortT l).length by omega))
    have hm1 := (hmem _).1 (List.getElem_mem hi)
    rw [leaf_norm (hlf _ hm0) (hl _ hm0), leaf_norm (hlf _ hm1) (hl _ hm1)]
    have := List.pairwise_iff_getElem.1 hso i (i + 1) (by omega) hi (by omega)
    simpa [leT] using this

set_option maxHeartbeats 4000000 in
set_option maxRecDepth 100000 in
theorem fnOrdered_walk (a : Tr) (ca : List Value) (w : World) (ha : TA w a ca) :
    Calls Tryz.prog 8 #[.agg ca.toArray] w (TruePost w) := by
  have ha0 := ha
  obtain ⟨xs0, hxr, hxw⟩ : ∃ xs, repIs w (fun b => b < w.heap.size) a.kids xs ∧ ∃ A2 n c2, ca[4]? = some (.slice A2 n c2) ∧ rowAt w (fun b => b < w.heap.size) A2 xs := by
    obtain ⟨hr, _⟩ := ha0
    cases a with
    | mk k ks l m =>
      simp only [repI] at hr
      obtain ⟨nm, tx, A1, c1, A2, c2, A3, c3, xs, ys, rfl, _, h1, h2, h3, h4, h5⟩ := hr
      exact ⟨xs, h3, A2, _, c2, rfl, h2⟩
  clear ha0
  obtain ⟨na, ta, A1, a1, A2, a2, A3, a3, rfl⟩ := ha.rep.shape
  obtain ⟨A2', n', c2', hA2', hxw⟩ := hxw
  obtain ⟨rfl, rfl, rfl⟩ : A2 = A2' ∧ a.kids.length = n' ∧ a2 = c2' := by simpa using hA2'
  clear hA2'
  have hA0 : Blk (w.alloc (.cells #[.int .i64 a.kind, .string na, .string ta, .slice A1 a.keys.length a1, .slice A2 a.kids.length a2, .slice A3 a.more.length a3] 25)) (w.heap.size) 25 #[.int .i64 a.kind, .string na, .string ta, .slice A1 a.keys.length a1, .slice A2 a.kids.length a2, .slice A3 a.more.length a3] := by simpa using (Blk.new (w) _ _)
  have hl0 : Below w.heap.size w (w.alloc (.cells #[.int .i64 a.kind, .string na, .string ta, .slice A1 a.keys.length a1, .slice A2 a.kids.length a2, .slice A3 a.more.length a3] 25)) := (Below.refl w.heap.size w).alloc (Nat.le_refl _) _
  go_enter Tryz.func8, Tryz.ntmps8
  go_wp2_with fail
  refine (ha.fits hl0).mono ?_
  rintro e w1 ⟨rfl, h1⟩
  have hA1 := hA0.below h1 hA0.lt
  have hl1 := hl0.trans (h1.mono hl0.size)
  clear hA0 hl0 h1
  obtain ⟨q0, q1, q2, q3, q4, q5, q6⟩ := hA1.six
  have hp := ha.proper1 (c := 1) (hl1.alloc hl1.size (.cells #[.int .i64 a.kind, .string na, .string ta, .slice A1 a.keys.length a1, .slice A2 a.kids.length a2, .slice A3 a.more.length a3] 25)) (new_row [.int .i64 a.kind, .string na, .string ta, .slice A1 a.keys.length a1, .slice A2 a.kids.length a2, .slice A3 a.more.length a3] _)
  have hA2 := hA1.alloc (.cells #[.int .i64 a.kind, .string na, .string ta, .slice A1 a.keys.length a1, .slice A2 a.kids.length a2, .slice A3 a.more.length a3] 25)
  have hl2 := hl1.alloc hl1.size  (.cells #[.int .i64 a.kind, .string na, .string ta, .slice A1 a.keys.length a1, .slice A2 a.kids.length a2, .slice A3 a.more.length a3] 25)
  go_wp2_with fail
  refine (hp).mono ?_
  rintro e w3 ⟨bp, rfl, hbp, h3⟩
  have HBP := Lib.hid hbp
  clear hp hbp hA1 hl1
  have hA3 := hA2.below h3 hA2.lt
  have hl3 := hl2.trans (h3.mono hl2.size)
  clear q0 q1 q2 q3 q4 q5 q6
  clear hA2 hl2 h3
  cases bp with
  | false =>
    go_wp2_with fail
    refine (works_any _).mono ?_
    rintro e wz ⟨rfl, hz⟩
    go_wp2
    go_ret
    exact ⟨rfl, hl3.trans (hz.mono hl3.size)⟩
  | true =>
    have n1 : Nice a := (HBP.out.1 rfl).nice ha.bulk
    clear HBP
    by_cases hk : a.kind = 8
    rotate_left
    · have HK := Lib.hid hk
      have hk' : (a.kind == 8) = false := by simpa using hk
      clear hk
      obtain ⟨q0, q1, q2, q3, q4, q5, q6⟩ := hA3.six
      go_wp2_with fail
      refine (works_any _).mono ?_
      rintro e wz ⟨rfl, hz⟩
      go_wp2
      go_ret
      exact ⟨rfl, hl3.trans (hz.mono hl3.size)⟩
    · have HK := Lib.hid hk
      have hk' : (a.kind == 8) = true := by simpa using hk
      clear hk
      obtain ⟨q0, q1, q2, q3, q4, q5, q6⟩ := hA3.six
      have hkl : a.kids.length ≤ 1048576 := by have h1 := Tr.length_bulks a.kids; have h2 := ha.bulk; cases a; simp only [Tr.bulk, Tr.kids] at *; omega
      go_wp2
      clear q0 q1 q2 q3 q4 q5 q6
      go_loopw [21] (fun i wr => ∃ j : Nat, j ≤ a.kids.length ∧ i = .int .i64 j ∧ Below w3.heap.size w3 wr ∧ ∀ q (h : q < a.kids.length), q < j → a.kids[q].kind ≤ 4) (fun i _ => a.kids.length - (intOf i).toNat)
      case atStart => exact ⟨0, Nat.zero_le _, rfl, Below.refl _ _, fun q _ h => absurd h (Nat.not_lt_zero q)⟩
      case round =>
        obtain ⟨j, hj, rfl, hbel, hall⟩ := hrel
        have HALL := Lib.hid hall
        clear hall
        have hA9 := hA3.below hbel hA3.lt
        have hl9 := hl3.trans (hbel.mono hl3.size)
        have hs9 := hbel.size
        by_cases hlt : j < a.kids.length
        · obtain ⟨b, off, nm', tx', B1, d1, B2, d2, B3, d3, hA2, hbb, _, q0, q1, q2, q3, q4, q5⟩ := hxr.at_ hxw j hlt
          rw [← hl9.cell (by exact hbb)] at q0 q1 q2 q3 q4 q5
          have hbb' := Nat.lt_of_lt_of_le hbb hl9.size
          subst hA2
          by_cases h4 : a.kids[j].kind ≤ 4
          · have hg : ¬ 4 < a.kids[j].kind := by omega
            have hg' : decide (4 < a.kids[j].kind) = false := decide_eq_false hg
            clear hA9 hA3
            go_wp2
            go_roundw
            case rel => exact ⟨j + 1, by omega, by go_num, hbel.alloc hs9 _, fun q h hq => by
              rcases Nat.lt_or_ge q j with h' | h'
              · exact HALL.out q h h'
              · obtain rfl : q = j := by omega
                exact h4⟩
            case measure => simp [intOf]; omega
          · have hg : 4 < a.kids[j].kind := by omega
            have hg' : decide (4 < a.kids[j].kind) = true := decide_eq_true hg
            have hl10 := hl9.alloc hl9.size (.cells #[.int .i64 a.kids[j].kind, .string nm', .string tx', .slice B1 a.kids[j].keys.length d1, .slice B2 a.kids[j].kids.length d2, .slice B3 a.kids[j].more.length d3] 25)
            clear hA9 hA3
            go_wp2_with fail
            refine (works_any _).mono ?_
            rintro e wz ⟨rfl, hz⟩
            go_wp2
            go_ret
            exact ⟨rfl, hl10.trans (hz.mono hl10.size)⟩
        · have ej : j = a.kids.length := by omega
          subst ej
          have hk4 : ∀ t ∈ a.kids, t.kind ≤ 4 := fun t ht => by
            obtain ⟨q, hq, rfl⟩ := List.getElem_of_mem ht
            exact HALL.out q hq hq
          have hnorm := normal_ordered ha n1 HK.out hk4 hl9
          obtain ⟨q0, q1, q2, q3, q4, q5, q6⟩ := hA9.six
          clear hA3 hk4
          go_wp2_with fail
          refine hnorm.mono ?_
          rintro e w10 ⟨cs', rfl, ho, h10⟩
          have hl10 := hl9.trans (h10.mono hl9.size)
          clear q0 q1 q2 q3 q4 q5 q6 hnorm
          go_wp2_with fail
          refine ho.mono ?_
          rintro e w11 ⟨rfl, h11⟩
          have hl11 := hl10.trans (h11.mono hl10.size)
          go_wp2_with fail
          refine (works_any _).mono ?_
          rintro e wz ⟨rfl, hz⟩
          go_wp2
          go_ret
          exact ⟨rfl, hl11.trans (hz.mono hl11.size)⟩

end Go.Proofs.YtpmfjbmfjfhghaaGreat
