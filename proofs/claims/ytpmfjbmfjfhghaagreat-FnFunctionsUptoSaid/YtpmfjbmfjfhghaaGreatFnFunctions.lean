/-
  'laws.FnFunctions': THE WALK (laid by gen_functions.py).
-/
import Derived.Test.YtpmfjbmfjfhghaaGreatFuncAll2
namespace Go.Proofs.YtpmfjbmfjfhghaaGreat
open Go.RowKit

/-- What 'function' answers. -/
def FunPost (A : Option Addr) (n c : Nat) (cs : List Value) (w : World) (e : Ending) (w' : World) : Prop :=
  ∃ g, e = .returned (.agg #[.int .i64 9, .string ⟨#[]⟩, .string ⟨#[]⟩, .slice none 0 0, .slice A n c, .slice (some ⟨g, 0, none⟩) 1 1]) ∧ w.heap.size ≤ g ∧ Blk w' g 25 cs.toArray ∧ Below w.heap.size w w'

set_option maxRecDepth 100000 in
theorem function_any (A : Option Addr) (n c : Nat) (k : Int) (nm tx : ByteArray) (A1 A2 A3 : Option Addr) (n1 c1 n2 c2 n3 c3 : Nat) (w : World) :
    Calls Tryz.prog 31 #[.slice A n c, .agg #[.int .i64 k, .string nm, .string tx, .slice A1 n1 c1, .slice A2 n2 c2, .slice A3 n3 c3]] w (FunPost A n c [.int .i64 k, .string nm, .string tx, .slice A1 n1 c1, .slice A2 n2 c2, .slice A3 n3 c3] w) := by
  go_enter Tryz.func31, Tryz.ntmps31
  go_wp2
  have hb := Blk.new ((w.alloc (.cells #[.int .i64 k, .string nm, .string tx, .slice A1 n1 c1, .slice A2 n2 c2, .slice A3 n3 c3] 25)).alloc (.cells #[.int .i64 9, .string ⟨#[]⟩, .string ⟨#[]⟩, .slice none 0 0, .slice A n c, .slice (some ⟨w.heap.size + 1 + 1, 0, none⟩) 1 1] 25)) 25 #[.int .i64 k, .string nm, .string tx, .slice A1 n1 c1, .slice A2 n2 c2, .slice A3 n3 c3]
  refine bodyPost_ret (v := .agg #[.int .i64 9, .string ⟨#[]⟩, .string ⟨#[]⟩, .slice none 0 0, .slice A n c, .slice (some ⟨w.heap.size + 1 + 1, 0, none⟩) 1 1]) (by simp [results, Tryz.results31, go_sem]) rfl ?_
  exact ⟨w.heap.size + 1 + 1, rfl, by omega, by simpa using hb, (((Below.refl _ _).alloc (Nat.le_refl _) _).alloc (by simp) _).alloc (by simp; omega) _⟩

set_option maxHeartbeats 8000000 in
set_option maxRecDepth 100000 in
theorem fnFunctions_walk (A : Option Addr) (l : List Tr) (c : Nat) (xs : List Value) (a b : Tr) (ca cb : List Value) (s : Bool) (w : World) (hlc : l.length ≤ c) (hr : repIs w (fun b => b < w.heap.size) l xs) (hrow : rowAt w (fun b => b < w.heap.size) A xs) (ha : TA w a ca) (hb : TA w b cb) (hbl : Tr.bulks l + 5 * l.length + 1 ≤ 1048576) (bs : a.bulk + b.bulk ≤ 1048576) :
    Calls Tryz.prog 10 #[.slice A l.length c, .agg ca.toArray, .bool s, .agg cb.toArray] w (TruePost w) := by
  obtain ⟨na, ta, A1, a1, A2, a2, A3, a3, rfl⟩ := ha.rep.shape
  obtain ⟨nb, tb, B1, b1, B2, b2, B3, b3, rfl⟩ := hb.rep.shape
  have hA0 : Blk ((w.alloc (.cells #[.int .i64 a.kind, .string na, .string ta, .slice A1 a.keys.length a1, .slice A2 a.kids.length a2, .slice A3 a.more.length a3] 25)).alloc (.cells #[.int .i64 b.kind, .string nb, .string tb, .slice B1 b.keys.length b1, .slice B2 b.kids.length b2, .slice B3 b.more.length b3] 25)) (w.heap.size) 25 #[.int .i64 a.kind, .string na, .string ta, .slice A1 a.keys.length a1, .slice A2 a.kids.length a2, .slice A3 a.more.length a3] := by simpa using ((Blk.new (w) _ _)).alloc _
  have hB0 : Blk ((w.alloc (.cells #[.int .i64 a.kind, .string na, .string ta, .slice A1 a.keys.length a1, .slice A2 a.kids.length a2, .slice A3 a.more.length a3] 25)).alloc (.cells #[.int .i64 b.kind, .string nb, .string tb, .slice B1 b.keys.length b1, .slice B2 b.kids.length b2, .slice B3 b.more.length b3] 25)) (w.heap.size + 1) 25 #[.int .i64 b.kind, .string nb, .string tb, .slice B1 b.keys.length b1, .slice B2 b.kids.length b2, .slice B3 b.more.length b3] := by simpa using (Blk.new (w.alloc _) _ _)
  have hl0 : Below w.heap.size w ((w.alloc (.cells #[.int .i64 a.kind, .string na, .string ta, .slice A1 a.keys.length a1, .slice A2 a.kids.length a2, .slice A3 a.more.length a3] 25)).alloc (.cells #[.int .i64 b.kind, .string nb, .string tb, .slice B1 b.keys.length b1, .slice B2 b.kids.length b2, .slice B3 b.more.length b3] 25)) := ((Below.refl w.heap.size w).alloc (Nat.le_refl _) _).alloc (by simp) _
  have hlen : (l.length : Int) ≤ 1048576 := by omega
  have HB := Lib.hid hbl
  clear hbl
  go_enter Tryz.func10, Tryz.ntmps10
  go_wp2_with fail
  refine (ha.fits hl0).mono ?_
  rintro e w1 ⟨rfl, h1⟩
  have hA1 := hA0.below h1 hA0.lt
  have hB1 := hB0.below h1 hB0.lt
  have hl1 := hl0.trans (h1.mono hl0.size)
  clear hA0 hB0 hl0 h1
  obtain ⟨q0, q1, q2, q3, q4, q5, q6⟩ := hB1.six
  go_wp2_with fail
  refine (hb.fits hl1).mono ?_
  rintro e w2 ⟨rfl, h2⟩
  have hA2 := hA1.below h2 hA1.lt
  have hB2 := hB1.below h2 hB1.lt
  have hl2 := hl1.trans (h2.mono hl1.size)
  clear q0 q1 q2 q3 q4 q5 q6
  clear hA1 hB1 hl1 h2
  by_cases h12 : 12 < (l.length : Int)
  · skip
    go_wp2_with fail
    refine (works_any _).mono ?_
    rintro e wz ⟨rfl, hz⟩
    go_wp2
    go_ret
    exact ⟨rfl, hl2.trans (hz.mono hl2.size)⟩
  have hr1 := hr.kept (Kept.of_below (X := fun b => b < w.heap.size) hl2 fun _ h => h) (fun _ h => h) (upB hl2)
  have hrow1 := rowAt_up hrow hl2
  have hp := lawProper_any l A c xs w2 _ hr1 hrow1 (by have := HB.out; omega) fun _ h => h
  clear hr1 hrow1
  go_wp2_with fail
  refine (hp).mono ?_
  rintro e w3 ⟨bp, rfl, hbp, h3⟩
  have HBP := Lib.hid hbp
  clear hp hbp
  have hA3 := hA2.below h3 hA2.lt
  have hB3 := hB2.below h3 hB2.lt
  have hl3 := hl2.trans (h3.mono hl2.size)
  clear hA2 hB2 hl2 h3
  cases bp with
  | false =>
    go_wp2_with fail
    refine (works_any _).mono ?_
    rintro e wz ⟨rfl, hz⟩
    go_wp2
    go_ret
    exact ⟨rfl, hl3.trans (hz.mono hl3.size)⟩
  | true =>
    have HF := Lib.hid (HBP.out.1 rfl)
    clear HBP
    obtain ⟨q0, q1, q2, q3, q4, q5, q6⟩ := hA3.six
    obtain ⟨q7, q8, q9, q10, q11, q12, q13⟩ := hB3.six
    have hp := ha.proper2 hb bs (c := 2) (hl3.alloc hl3.size (.cells #[.int .i64 a.kind, .string na, .string ta, .slice A1 a.keys.length a1, .slice A2 a.kids.length a2, .slice A3 a.more.length a3, .int .i64 b.kind, .string nb, .string tb, .slice B1 b.keys.length b1, .slice B2 b.kids.length b2, .slice B3 b.more.length b3] 25)) (new_row [.int .i64 a.kind, .string na, .string ta, .slice A1 a.keys.length a1, .slice A2 a.kids.length a2, .slice A3 a.more.length a3, .int .i64 b.kind, .string nb, .string tb, .slice B1 b.keys.length b1, .slice B2 b.kids.length b2, .slice B3 b.more.length b3] _)
    have hA4 := hA3.alloc (.cells #[.int .i64 a.kind, .string na, .string ta, .slice A1 a.keys.length a1, .slice A2 a.kids.length a2, .slice A3 a.more.length a3, .int .i64 b.kind, .string nb, .string tb, .slice B1 b.keys.length b1, .slice B2 b.kids.length b2, .slice B3 b.more.length b3] 25)
    have hB4 := hB3.alloc (.cells #[.int .i64 a.kind, .string na, .string ta, .slice A1 a.keys.length a1, .slice A2 a.kids.length a2, .slice A3 a.more.length a3, .int .i64 b.kind, .string nb, .string tb, .slice B1 b.keys.length b1, .slice B2 b.kids.length b2, .slice B3 b.more.length b3] 25)
    have hl4 := hl3.alloc hl3.size  (.cells #[.int .i64 a.kind, .string na, .string ta, .slice A1 a.keys.length a1, .slice A2 a.kids.length a2, .slice A3 a.more.length a3, .int .i64 b.kind, .string nb, .string tb, .slice B1 b.keys.length b1, .slice B2 b.kids.length b2, .slice B3 b.more.length b3] 25)
    go_wp2_with fail
    refine (hp).mono ?_
    rintro e w5 ⟨bq, rfl, hbq, h5⟩
    have HBQ := Lib.hid hbq
    clear hp hbq hA3 hB3 hl3
    have hA5 := hA4.below h5 hA4.lt
    have hB5 := hB4.below h5 hB4.lt
    have hl5 := hl4.trans (h5.mono hl4.size)
    clear q0 q1 q2 q3 q4 q5 q6 q7 q8 q9 q10 q11 q12 q13
    clear hA4 hB4 hl4 h5
    cases bq with
    | false =>
      go_wp2_with fail
      refine (works_any _).mono ?_
      rintro e wz ⟨rfl, hz⟩
      go_wp2
      go_ret
      exact ⟨rfl, hl5.trans (hz.mono hl5.size)⟩
    | true =>
      have n1 : Nice a := (HBQ.out.1 rfl).1.nice ha.bulk
      have n2 : Nice b := (HBQ.out.1 rfl).2.nice hb.bulk
      clear HBQ
      cases s with
      | false =>
        obtain ⟨q0, q1, q2, q3, q4, q5, q6⟩ := hA5.six
        go_wp2_with fail
        refine (function_any A l.length c _ _ _ _ _ _ _ _ _ _ _ _ _).mono ?_
        have hl5' := hl5
        have hB5' := hB5
        clear hA5 hB5 hl5 q0 q1 q2 q3 q4 q5 q6
        rintro e wf ⟨g, rfl, hgn, hgb, hfb⟩
        have hlf := hl5'.trans (hfb.mono hl5'.size)
        have hBf := hB5'.below hfb hB5'.lt
        clear hgn hfb hB5' hl5'
        obtain ⟨q0, q1, q2, q3, q4, q5, q6⟩ := hBf.six
        go_wp2_with fail
        clear q0 q1 q2 q3 q4 q5 q6
        have hlg : Below w.heap.size w (wf.alloc (.cells #[.int .i64 9, .string ⟨#[]⟩, .string ⟨#[]⟩, .slice none 0 0, .slice A l.length c, .slice (some ⟨g, 0, none⟩) 1 1] 25)) := hlf.alloc hlf.size _
        have hBg := hBf.alloc (.cells #[.int .i64 9, .string ⟨#[]⟩, .string ⟨#[]⟩, .slice none 0 0, .slice A l.length c, .slice (some ⟨g, 0, none⟩) 1 1] 25)
        have hFg := Blk.new wf 25 #[.int .i64 9, .string ⟨#[]⟩, .string ⟨#[]⟩, .slice none 0 0, .slice A l.length c, .slice (some ⟨g, 0, none⟩) 1 1]
        have hfr : repI (wf.alloc (.cells #[.int .i64 9, .string ⟨#[]⟩, .string ⟨#[]⟩, .slice none 0 0, .slice A l.length c, .slice (some ⟨g, 0, none⟩) 1 1] 25)) (fun b => b < (wf.alloc (.cells #[.int .i64 9, .string ⟨#[]⟩, .string ⟨#[]⟩, .slice none 0 0, .slice A l.length c, .slice (some ⟨g, 0, none⟩) 1 1] 25)).heap.size) (.mk 9 [] l [a]) [.int .i64 9, .string ⟨#[]⟩, .string ⟨#[]⟩, .slice none 0 0, .slice A l.length c, .slice (some ⟨g, 0, none⟩) 1 1] := by
          have hup : Below wf.heap.size wf (wf.alloc (.cells #[.int .i64 9, .string ⟨#[]⟩, .string ⟨#[]⟩, .slice none 0 0, .slice A l.length c, .slice (some ⟨g, 0, none⟩) 1 1] 25)) := (Below.refl _ _).alloc (Nat.le_refl _) _
          simp only [repI, List.length_nil, List.length_cons]
          refine ⟨_, _, none, 0, A, c, some ⟨g, 0, none⟩, 1, xs, [.int .i64 a.kind, .string na, .string ta, .slice A1 a.keys.length a1, .slice A2 a.kids.length a2, .slice A3 a.more.length a3], rfl, ⟨by decide, by decide, Nat.le_refl _, hlc, Nat.le_refl _⟩, rowAt.nil, rowAt_up hrow hlg, hr.kept (Kept.of_below (X := fun b => b < w.heap.size) hlg fun _ h => h) (fun _ h => h) (upB hlg), fun j u hu => ⟨g, 0, rfl, Nat.lt_of_lt_of_le hgb.lt hup.size, by have := (hgb.below hup hgb.lt).cell (0 + j); refine this.trans ?_; simpa using hu⟩, ?_⟩
          simp only [repIs]
          exact ⟨[.int .i64 a.kind, .string na, .string ta, .slice A1 a.keys.length a1, .slice A2 a.kids.length a2, .slice A3 a.more.length a3], [], by simp, (ha.up hlg).rep, rfl⟩
        have hil : ∀ t ∈ l, Nice t := fun t ht => (HF.out t ht).nice (by have := Tr.bulk_mem ht; have := HB.out; omega)
        have hll : l.length ≤ 1048576 := by omega
        have hrb : BuiltOk a := built_any a n1.1 n1.2
        have hrk : false = true ↔ (a).kind = 0 := ⟨(fun h => absurd h (by decide)), (fun h => absurd h (by have := n1.kind; rwa [norm_kind] at this))⟩
        have c1 := implArity_any (l.length : Int) 9 ⟨#[]⟩ ⟨#[]⟩ none A (some ⟨g, 0, none⟩) 0 0 l.length c 1 1 (wf.alloc (.cells #[.int .i64 9, .string ⟨#[]⟩, .string ⟨#[]⟩, .slice none 0 0, .slice A l.length c, .slice (some ⟨g, 0, none⟩) 1 1] 25)) (arity_fn9 l a hll hil hrb _ _ _ hfr fun _ h => h)
        clear hgb hBf hlf
        have HFR := Lib.hid hfr
        have HIL := Lib.hid hil
        have HRB := Lib.hid hrb
        have HRK := Lib.hid hrk
        clear hfr hil hrb hrk
        refine c1.mono ?_
        rintro e u1 ⟨rfl, k1⟩
        have hl1 := hlg.trans (k1.mono hlg.size)
        have hB1 := hBg.below k1 hBg.lt
        have hF1 := hFg.below k1 hFg.lt
        have hr1 := Lib.hid (repI_up HFR.out k1)
        clear c1 hlg hBg hFg HFR k1
        obtain ⟨q0, q1, q2, q3, q4, q5, q6⟩ := hB1.six
        obtain ⟨p0, p1, p2, p3, p4, p5, p6⟩ := hF1.six
        go_wp2_with fail
        have c2 := implVoid_any false 9 ⟨#[]⟩ ⟨#[]⟩ none A (some ⟨g, 0, none⟩) 0 0 l.length c 1 1 u1 (void_fn9 l a hll HIL.out HRB.out false HRK.out _ _ _ hr1.out fun _ h => h)
        refine c2.mono ?_
        rintro e u2 ⟨rfl, k2⟩
        have hl2 := hl1.trans (k2.mono hl1.size)
        have hB2 := hB1.below k2 hB1.lt
        have hF2 := hF1.below k2 hF1.lt
        have hr2 := Lib.hid (repI_up hr1.out k2)
        clear c2 hl1 hB1 hF1 hr1 k2 q0 q1 q2 q3 q4 q5 q6 p0 p1 p2 p3 p4 p5 p6
        obtain ⟨q0, q1, q2, q3, q4, q5, q6⟩ := hB2.six
        go_wp2_with fail
        have c3 := implArity_any 0 _ _ _ _ _ _ _ _ _ _ _ _ u2 (arity_ty (hb.up hl2) n2)
        refine c3.mono ?_
        rintro e u3 ⟨rfl, k3⟩
        have hl3 := hl2.trans (k3.mono hl2.size)
        have hB3 := hB2.below k3 hB2.lt
        have hF3 := hF2.below k3 hF2.lt
        have hr3 := Lib.hid (repI_up hr2.out k3)
        clear c3 hl2 hB2 hF2 hr2 k3 q0 q1 q2 q3 q4 q5 q6
        obtain ⟨q0, q1, q2, q3, q4, q5, q6⟩ := hB3.six
        go_wp2_with fail
        have c4 := implVoid_any false _ _ _ _ _ _ _ _ _ _ _ _ u3 (void_ty (hb.up hl3) n2)
        refine c4.mono ?_
        rintro e u4 ⟨rfl, k4⟩
        have hl4 := hl3.trans (k4.mono hl3.size)
        have hB4 := hB3.below k4 hB3.lt
        have hF4 := hF3.below k4 hF3.lt
        have hr4 := Lib.hid (repI_up hr3.out k4)
        clear c4 hl3 hB3 hF3 hr3 k4 q0 q1 q2 q3 q4 q5 q6
        go_wp2_with fail
        have c5 := implArity_any (-1) _ _ _ _ _ _ _ _ _ _ _ _ u4 (arity_none u4)
        refine c5.mono ?_
        rintro e u5 ⟨rfl, k5⟩
        have hl5 := hl4.trans (k5.mono hl4.size)
        have hB5 := hB4.below k5 hB4.lt
        have hF5 := hF4.below k5 hF4.lt
        have hr5 := Lib.hid (repI_up hr4.out k5)
        clear c5 hl4 hB4 hF4 hr4 k5
        go_wp2
        go_loopw [77] (fun i wr => ∃ j : Nat, j ≤ l.length ∧ i = .int .i64 j ∧ Below u5.heap.size u5 wr) (fun i _ => l.length - (intOf i).toNat)
        case atStart => exact ⟨0, Nat.zero_le _, rfl, Below.refl _ _⟩
        case round =>
          obtain ⟨j, hj, rfl, hbel⟩ := hrel
          have hl9 := hl5.trans (hbel.mono hl5.size)
          have hB9 := hB5.below hbel hB5.lt
          have hF9 := hF5.below hbel hF5.lt
          have hr9 := Lib.hid (repI_up hr5.out hbel)
          have hs9 := hbel.size
          by_cases hlt : j < l.length
          · obtain ⟨b', off, nm', tx', D1, d1, D2, d2, D3, d3, hA2, hbb, hrj, k0, k1, k2, k3, k4, k5⟩ := hr.at_ hrow j hlt
            rw [← hl9.cell (by exact hbb)] at k0 k1 k2 k3 k4 k5
            have hbb' := Nat.lt_of_lt_of_le hbb hl9.size
            subst hA2
            have nj : Nice l[j] := HIL.out _ (List.getElem_mem hlt)
            have tj : TA w l[j] [.int .i64 l[j].kind, .string nm', .string tx', .slice D1 l[j].keys.length d1, .slice D2 l[j].kids.length d2, .slice D3 l[j].more.length d3] := ⟨hrj, nj.2⟩
            have hK := Blk.new wr 25 #[.int .i64 l[j].kind, .string nm', .string tx', .slice D1 l[j].keys.length d1, .slice D2 l[j].kids.length d2, .slice D3 l[j].more.length d3]
            have hlk := hl9.alloc hl9.size (.cells #[.int .i64 l[j].kind, .string nm', .string tx', .slice D1 l[j].keys.length d1, .slice D2 l[j].kids.length d2, .slice D3 l[j].more.length d3] 25)
            have hbk := hbel.alloc hs9 (.cells #[.int .i64 l[j].kind, .string nm', .string tx', .slice D1 l[j].keys.length d1, .slice D2 l[j].kids.length d2, .slice D3 l[j].more.length d3] 25)
            have hrk := Lib.hid (repI_up hr9.out ((Below.refl wr.heap.size wr).alloc (Nat.le_refl _) (.cells #[.int .i64 l[j].kind, .string nm', .string tx', .slice D1 l[j].keys.length d1, .slice D2 l[j].kids.length d2, .slice D3 l[j].more.length d3] 25)))
            have hfn := arg_fn l a hll HIL.out HRB.out j hlt _ _ _ hrk.out (fun _ h => h)
            have harg := argument_any (norm l[j]) 9 ⟨#[]⟩ ⟨#[]⟩ none (some ⟨b', off, none⟩) (some ⟨g, 0, none⟩) 0 0 l.length c 1 1 (j : Int) _ (by omega) hfn
            have hg := nj.1.good
            have nn : Nice (norm l[j]) := ⟨norm_proper l[j] nj.1, by rw [norm_bulk l[j] hg]; exact nj.2⟩
            have hz : cmp (norm (norm l[j])) (norm l[j]) = 0 := by rw [norm_norm l[j] hg]; exact cmp_self (norm_good l[j] hg).1
            have HZ := Lib.hid hz
            obtain ⟨p0, p1, p2, p3, p4, p5, p6⟩ := hF9.six
            clear hfn hrk hr9 hr5 hrj hB9 hB5 hF5 hg hz hbb
            go_wp2_with fail
            refine harg.mono ?_
            rintro e wx ⟨cs', rfl, hx, hxb⟩
            obtain ⟨nx, tx, X1, x1, X2, x2, X3, x3, rfl⟩ := hx.shape
            have hlx := hlk.trans (hxb.mono hlk.size)
            have hbx := hbk.trans (hxb.mono hbk.size)
            have hKx := hK.below hxb hK.lt
            have htx : TA wx (norm l[j]) [.int .i64 (norm l[j]).kind, .string nx, .string tx, .slice X1 (norm l[j]).keys.length x1, .slice X2 (norm l[j]).kids.length x2, .slice X3 (norm l[j]).more.length x3] := ⟨hx.kept (Kept.refl (fun _ => True) _) (fun _ _ => trivial) fun _ hb => hb.2, nn.2⟩
            have htj := tj.up hlx
            have hby : Below wx.heap.size wx (wx.alloc (.cells #[.int .i64 (norm l[j]).kind, .string nx, .string tx, .slice X1 (norm l[j]).keys.length x1, .slice X2 (norm l[j]).kids.length x2, .slice X3 (norm l[j]).more.length x3] 25)) := (Below.refl _ _).alloc (Nat.le_refl _) _
            have hcmp := int_to (htx.cmp htj nn nj hby) HZ.out
            have hsx := hbx.size
            clear harg hxb hx hK hlk hbk hlx htx htj tj p0 p1 p2 p3 p4 p5 p6 k0 k1 k2 k3 k4 k5 hF9 hby
            obtain ⟨q0, q1, q2, q3, q4, q5, q6⟩ := hKx.six
            clear hKx
            go_wp2_with fail
            refine hcmp.mono ?_
            rintro e wy ⟨rfl, hyb⟩
            clear hcmp q0 q1 q2 q3 q4 q5 q6
            have hbr := (hbx.alloc hsx (.cells #[.int .i64 (norm l[j]).kind, .string nx, .string tx, .slice X1 (norm l[j]).keys.length x1, .slice X2 (norm l[j]).kids.length x2, .slice X3 (norm l[j]).more.length x3] 25)).trans (hyb.mono (by simp; omega))
            go_wp2
            go_roundw
            case rel => exact ⟨j + 1, by omega, by go_num, hbr⟩
            case measure => simp [intOf]; omega
          · obtain rfl : j = l.length := by omega
            have hno := argument_no b.kind nb tb B1 B2 B3 b.keys.length b1 b.kids.length b2 b.more.length b3 0 wr (fun W hW => built_nofn (hb.up hl9) n2 W hW)
            obtain ⟨q0, q1, q2, q3, q4, q5, q6⟩ := hB9.six
            clear hB5 hF5 hr5 hF9 hr9 hB9
            go_wp2_with fail
            refine hno.mono ?_
            rintro e w10 ⟨rfl, h10⟩
            clear hno q0 q1 q2 q3 q4 q5 q6
            have hl10 := hl9.trans (h10.mono hl9.size)
            have hl11 := hl10.alloc hl10.size (.cells zeroT 25)
            go_wp2_with fail
            refine (works_any _).mono ?_
            rintro e wz ⟨rfl, hz⟩
            go_wp2
            go_ret
            exact ⟨rfl, hl11.trans (hz.mono hl11.size)⟩
      | true =>
        obtain ⟨q0, q1, q2, q3, q4, q5, q6⟩ := hA5.six
        have f0 := hA5.frozen 0
        have f1 := hA5.frozen 1
        have f2 := hA5.frozen 2
        have f3 := hA5.frozen 3
        have f4 := hA5.frozen 4
        have f5 := hA5.frozen 5
        go_upto_region 7 with fail
        obtain ⟨hq, hkq⟩ := place6 hA5 (.int .i64 0) (.string ⟨#[]⟩) (.string ⟨#[]⟩) (.slice none 0 0) (.slice none 0 0) (.slice none 0 0)
        have hl5' := hl5.trans (hkq.below fun b hb => by omega)
        have hB5' := hB5.kept hkq (by omega)
        clear hkq hA5 hB5 hl5 f0 f1 f2 f3 f4 f5 q0 q1 q2 q3 q4 q5 q6
        generalize ((((((w5.setCell ⟨w.heap.size, 0, none⟩ (.int .i64 0)).setCell ⟨w.heap.size, 1, none⟩ (.string ⟨#[]⟩)).setCell ⟨w.heap.size, 2, none⟩ (.string ⟨#[]⟩)).setCell ⟨w.heap.size, 3, none⟩ (.slice none 0 0)).setCell ⟨w.heap.size, 4, none⟩ (.slice none 0 0)).setCell ⟨w.heap.size, 5, none⟩ (.slice none 0 0)) = wq at *
        obtain ⟨q0, q1, q2, q3, q4, q5, q6⟩ := hq.six
        clear hq
        go_wp2_with fail
        refine (function_any A l.length c _ _ _ _ _ _ _ _ _ _ _ _ _).mono ?_
        clear q0 q1 q2 q3 q4 q5 q6
        rintro e wf ⟨g, rfl, hgn, hgb, hfb⟩
        have hlf := hl5'.trans (hfb.mono hl5'.size)
        have hBf := hB5'.below hfb hB5'.lt
        clear hgn hfb hB5' hl5'
        obtain ⟨q0, q1, q2, q3, q4, q5, q6⟩ := hBf.six
        go_wp2_with fail
        clear q0 q1 q2 q3 q4 q5 q6
        have hlg : Below w.heap.size w (wf.alloc (.cells #[.int .i64 9, .string ⟨#[]⟩, .string ⟨#[]⟩, .slice none 0 0, .slice A l.length c, .slice (some ⟨g, 0, none⟩) 1 1] 25)) := hlf.alloc hlf.size _
        have hBg := hBf.alloc (.cells #[.int .i64 9, .string ⟨#[]⟩, .string ⟨#[]⟩, .slice none 0 0, .slice A l.length c, .slice (some ⟨g, 0, none⟩) 1 1] 25)
        have hFg := Blk.new wf 25 #[.int .i64 9, .string ⟨#[]⟩, .string ⟨#[]⟩, .slice none 0 0, .slice A l.length c, .slice (some ⟨g, 0, none⟩) 1 1]
        have hfr : repI (wf.alloc (.cells #[.int .i64 9, .string ⟨#[]⟩, .string ⟨#[]⟩, .slice none 0 0, .slice A l.length c, .slice (some ⟨g, 0, none⟩) 1 1] 25)) (fun b => b < (wf.alloc (.cells #[.int .i64 9, .string ⟨#[]⟩, .string ⟨#[]⟩, .slice none 0 0, .slice A l.length c, .slice (some ⟨g, 0, none⟩) 1 1] 25)).heap.size) (.mk 9 [] l [(Tr.mk 0 [] [] [])]) [.int .i64 9, .string ⟨#[]⟩, .string ⟨#[]⟩, .slice none 0 0, .slice A l.length c, .slice (some ⟨g, 0, none⟩) 1 1] := by
          have hup : Below wf.heap.size wf (wf.alloc (.cells #[.int .i64 9, .string ⟨#[]⟩, .string ⟨#[]⟩, .slice none 0 0, .slice A l.length c, .slice (some ⟨g, 0, none⟩) 1 1] 25)) := (Below.refl _ _).alloc (Nat.le_refl _) _
          simp only [repI, List.length_nil, List.length_cons]
          refine ⟨_, _, none, 0, A, c, some ⟨g, 0, none⟩, 1, xs, [.int .i64 0, .string ⟨#[]⟩, .string ⟨#[]⟩, .slice none 0 0, .slice none 0 0, .slice none 0 0], rfl, ⟨by decide, by decide, Nat.le_refl _, hlc, Nat.le_refl _⟩, rowAt.nil, rowAt_up hrow hlg, hr.kept (Kept.of_below (X := fun b => b < w.heap.size) hlg fun _ h => h) (fun _ h => h) (upB hlg), fun j u hu => ⟨g, 0, rfl, Nat.lt_of_lt_of_le hgb.lt hup.size, by have := (hgb.below hup hgb.lt).cell (0 + j); refine this.trans ?_; simpa using hu⟩, ?_⟩
          simp only [repIs]
          exact ⟨[.int .i64 0, .string ⟨#[]⟩, .string ⟨#[]⟩, .slice none 0 0, .slice none 0 0, .slice none 0 0], [], by simp, (none_rep0 _).keep (fun _ h => h.elim) fun _ _ => rfl, rfl⟩
        have hil : ∀ t ∈ l, Nice t := fun t ht => (HF.out t ht).nice (by have := Tr.bulk_mem ht; have := HB.out; omega)
        have hll : l.length ≤ 1048576 := by omega
        have hrb : BuiltOk (Tr.mk 0 [] [] []) := built_none [] [] []
        have hrk : true = true ↔ ((Tr.mk 0 [] [] [])).kind = 0 := ⟨fun _ => rfl, fun _ => rfl⟩
        have c1 := implArity_any (l.length : Int) 9 ⟨#[]⟩ ⟨#[]⟩ none A (some ⟨g, 0, none⟩) 0 0 l.length c 1 1 (wf.alloc (.cells #[.int .i64 9, .string ⟨#[]⟩, .string ⟨#[]⟩, .slice none 0 0, .slice A l.length c, .slice (some ⟨g, 0, none⟩) 1 1] 25)) (arity_fn9 l (Tr.mk 0 [] [] []) hll hil hrb _ _ _ hfr fun _ h => h)
        clear hgb hBf hlf
        have HFR := Lib.hid hfr
        have HIL := Lib.hid hil
        have HRB := Lib.hid hrb
        have HRK := Lib.hid hrk
        clear hfr hil hrb hrk
        refine c1.mono ?_
        rintro e u1 ⟨rfl, k1⟩
        have hl1 := hlg.trans (k1.mono hlg.size)
        have hB1 := hBg.below k1 hBg.lt
        have hF1 := hFg.below k1 hFg.lt
        have hr1 := Lib.hid (repI_up HFR.out k1)
        clear c1 hlg hBg hFg HFR k1
        obtain ⟨q0, q1, q2, q3, q4, q5, q6⟩ := hB1.six
        obtain ⟨p0, p1, p2, p3, p4, p5, p6⟩ := hF1.six
        go_wp2_with fail
        have c2 := implVoid_any true 9 ⟨#[]⟩ ⟨#[]⟩ none A (some ⟨g, 0, none⟩) 0 0 l.length c 1 1 u1 (void_fn9 l (Tr.mk 0 [] [] []) hll HIL.out HRB.out true ⟨fun _ => rfl, fun _ => rfl⟩ _ _ _ hr1.out fun _ h => h)
        refine c2.mono ?_
        rintro e u2 ⟨rfl, k2⟩
        have hl2 := hl1.trans (k2.mono hl1.size)
        have hB2 := hB1.below k2 hB1.lt
        have hF2 := hF1.below k2 hF1.lt
        have hr2 := Lib.hid (repI_up hr1.out k2)
        clear c2 hl1 hB1 hF1 hr1 k2 q0 q1 q2 q3 q4 q5 q6 p0 p1 p2 p3 p4 p5 p6
        obtain ⟨q0, q1, q2, q3, q4, q5, q6⟩ := hB2.six
        go_wp2_with fail
        have c3 := implArity_any 0 _ _ _ _ _ _ _ _ _ _ _ _ u2 (arity_ty (hb.up hl2) n2)
        refine c3.mono ?_
        rintro e u3 ⟨rfl, k3⟩
        have hl3 := hl2.trans (k3.mono hl2.size)
        have hB3 := hB2.below k3 hB2.lt
        have hF3 := hF2.below k3 hF2.lt
        have hr3 := Lib.hid (repI_up hr2.out k3)
        clear c3 hl2 hB2 hF2 hr2 k3 q0 q1 q2 q3 q4 q5 q6
        obtain ⟨q0, q1, q2, q3, q4, q5, q6⟩ := hB3.six
        go_wp2_with fail
        have c4 := implVoid_any false _ _ _ _ _ _ _ _ _ _ _ _ u3 (void_ty (hb.up hl3) n2)
        refine c4.mono ?_
        rintro e u4 ⟨rfl, k4⟩
        have hl4 := hl3.trans (k4.mono hl3.size)
        have hB4 := hB3.below k4 hB3.lt
        have hF4 := hF3.below k4 hF3.lt
        have hr4 := Lib.hid (repI_up hr3.out k4)
        clear c4 hl3 hB3 hF3 hr3 k4 q0 q1 q2 q3 q4 q5 q6
        go_wp2_with fail
        have c5 := implArity_any (-1) _ _ _ _ _ _ _ _ _ _ _ _ u4 (arity_none u4)
        refine c5.mono ?_
        rintro e u5 ⟨rfl, k5⟩
        have hl5 := hl4.trans (k5.mono hl4.size)
        have hB5 := hB4.below k5 hB4.lt
        have hF5 := hF4.below k5 hF4.lt
        have hr5 := Lib.hid (repI_up hr4.out k5)
        clear c5 hl4 hB4 hF4 hr4 k5
        go_wp2
        go_loopw [77] (fun i wr => ∃ j : Nat, j ≤ l.length ∧ i = .int .i64 j ∧ Below u5.heap.size u5 wr) (fun i _ => l.length - (intOf i).toNat)
        case atStart => exact ⟨0, Nat.zero_le _, rfl, Below.refl _ _⟩
        case round =>
          obtain ⟨j, hj, rfl, hbel⟩ := hrel
          have hl9 := hl5.trans (hbel.mono hl5.size)
          have hB9 := hB5.below hbel hB5.lt
          have hF9 := hF5.below hbel hF5.lt
          have hr9 := Lib.hid (repI_up hr5.out hbel)
          have hs9 := hbel.size
          by_cases hlt : j < l.length
          · obtain ⟨b', off, nm', tx', D1, d1, D2, d2, D3, d3, hA2, hbb, hrj, k0, k1, k2, k3, k4, k5⟩ := hr.at_ hrow j hlt
            rw [← hl9.cell (by exact hbb)] at k0 k1 k2 k3 k4 k5
            have hbb' := Nat.lt_of_lt_of_le hbb hl9.size
            subst hA2
            have nj : Nice l[j] := HIL.out _ (List.getElem_mem hlt)
            have tj : TA w l[j] [.int .i64 l[j].kind, .string nm', .string tx', .slice D1 l[j].keys.length d1, .slice D2 l[j].kids.length d2, .slice D3 l[j].more.length d3] := ⟨hrj, nj.2⟩
            have hK := Blk.new wr 25 #[.int .i64 l[j].kind, .string nm', .string tx', .slice D1 l[j].keys.length d1, .slice D2 l[j].kids.length d2, .slice D3 l[j].more.length d3]
            have hlk := hl9.alloc hl9.size (.cells #[.int .i64 l[j].kind, .string nm', .string tx', .slice D1 l[j].keys.length d1, .slice D2 l[j].kids.length d2, .slice D3 l[j].more.length d3] 25)
            have hbk := hbel.alloc hs9 (.cells #[.int .i64 l[j].kind, .string nm', .string tx', .slice D1 l[j].keys.length d1, .slice D2 l[j].kids.length d2, .slice D3 l[j].more.length d3] 25)
            have hrk := Lib.hid (repI_up hr9.out ((Below.refl wr.heap.size wr).alloc (Nat.le_refl _) (.cells #[.int .i64 l[j].kind, .string nm', .string tx', .slice D1 l[j].keys.length d1, .slice D2 l[j].kids.length d2, .slice D3 l[j].more.length d3] 25)))
            have hfn := arg_fn l (Tr.mk 0 [] [] []) hll HIL.out HRB.out j hlt _ _ _ hrk.out (fun _ h => h)
            have harg := argument_any (norm l[j]) 9 ⟨#[]⟩ ⟨#[]⟩ none (some ⟨b', off, none⟩) (some ⟨g, 0, none⟩) 0 0 l.length c 1 1 (j : Int) _ (by omega) hfn
            have hg := nj.1.good
            have nn : Nice (norm l[j]) := ⟨norm_proper l[j] nj.1, by rw [norm_bulk l[j] hg]; exact nj.2⟩
            have hz : cmp (norm (norm l[j])) (norm l[j]) = 0 := by rw [norm_norm l[j] hg]; exact cmp_self (norm_good l[j] hg).1
            have HZ := Lib.hid hz
            obtain ⟨p0, p1, p2, p3, p4, p5, p6⟩ := hF9.six
            clear hfn hrk hr9 hr5 hrj hB9 hB5 hF5 hg hz hbb
            go_wp2_with fail
            refine harg.mono ?_
            rintro e wx ⟨cs', rfl, hx, hxb⟩
            obtain ⟨nx, tx, X1, x1, X2, x2, X3, x3, rfl⟩ := hx.shape
            have hlx := hlk.trans (hxb.mono hlk.size)
            have hbx := hbk.trans (hxb.mono hbk.size)
            have hKx := hK.below hxb hK.lt
            have htx : TA wx (norm l[j]) [.int .i64 (norm l[j]).kind, .string nx, .string tx, .slice X1 (norm l[j]).keys.length x1, .slice X2 (norm l[j]).kids.length x2, .slice X3 (norm l[j]).more.length x3] := ⟨hx.kept (Kept.refl (fun _ => True) _) (fun _ _ => trivial) fun _ hb => hb.2, nn.2⟩
            have htj := tj.up hlx
            have hby : Below wx.heap.size wx (wx.alloc (.cells #[.int .i64 (norm l[j]).kind, .string nx, .string tx, .slice X1 (norm l[j]).keys.length x1, .slice X2 (norm l[j]).kids.length x2, .slice X3 (norm l[j]).more.length x3] 25)) := (Below.refl _ _).alloc (Nat.le_refl _) _
            have hcmp := int_to (htx.cmp htj nn nj hby) HZ.out
            have hsx := hbx.size
            clear harg hxb hx hK hlk hbk hlx htx htj tj p0 p1 p2 p3 p4 p5 p6 k0 k1 k2 k3 k4 k5 hF9 hby
            obtain ⟨q0, q1, q2, q3, q4, q5, q6⟩ := hKx.six
            clear hKx
            go_wp2_with fail
            refine hcmp.mono ?_
            rintro e wy ⟨rfl, hyb⟩
            clear hcmp q0 q1 q2 q3 q4 q5 q6
            have hbr := (hbx.alloc hsx (.cells #[.int .i64 (norm l[j]).kind, .string nx, .string tx, .slice X1 (norm l[j]).keys.length x1, .slice X2 (norm l[j]).kids.length x2, .slice X3 (norm l[j]).more.length x3] 25)).trans (hyb.mono (by simp; omega))
            go_wp2
            go_roundw
            case rel => exact ⟨j + 1, by omega, by go_num, hbr⟩
            case measure => simp [intOf]; omega
          · obtain rfl : j = l.length := by omega
            have hno := argument_no b.kind nb tb B1 B2 B3 b.keys.length b1 b.kids.length b2 b.more.length b3 0 wr (fun W hW => built_nofn (hb.up hl9) n2 W hW)
            obtain ⟨q0, q1, q2, q3, q4, q5, q6⟩ := hB9.six
            clear hB5 hF5 hr5 hF9 hr9 hB9
            go_wp2_with fail
            refine hno.mono ?_
            rintro e w10 ⟨rfl, h10⟩
            clear hno q0 q1 q2 q3 q4 q5 q6
            have hl10 := hl9.trans (h10.mono hl9.size)
            have hl11 := hl10.alloc hl10.size (.cells zeroT 25)
            go_wp2_with fail
            refine (works_any _).mono ?_
            rintro e wz ⟨rfl, hz⟩
            go_wp2
            go_ret
            exact ⟨rfl, hl11.trans (hz.mono hl11.size)⟩

end Go.Proofs.YtpmfjbmfjfhghaaGreat
