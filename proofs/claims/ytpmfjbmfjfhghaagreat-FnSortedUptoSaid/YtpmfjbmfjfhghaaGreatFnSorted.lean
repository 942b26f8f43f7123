/-
  'laws.FnSorted': THE WALK (laid by gen_sorted.py).
-/
import Derived.Test.YtpmfjbmfjfhghaaGreatStab
import Derived.Test.YtpmfjbmfjfhghaaGreatLaw
import Derived.Test.YtpmfjbmfjfhghaaGreatReg2
namespace Go.Proofs.YtpmfjbmfjfhghaaGreat
open Go.RowKit

theorem int_at {P : Program} {f : FuncId} {args : Array Value} {W : World} {c d : Int} (h : Calls P f args W (IntPost d W)) (e : d = c) : Calls P f args W (IntPost c W) := e ▸ h

/-- How many of the first q types are equal to T. -/
def eqs (T : Tr) (L : List Tr) (q : Nat) : Nat := (L.take q).countP fun t => decide (cmp T t = 0)

theorem eqs_zero (T : Tr) (L : List Tr) : eqs T L 0 = 0 := by simp [eqs]
theorem eqs_yes {T : Tr} {L : List Tr} {q : Nat} (hq : q < L.length) (h : cmp T L[q] = 0) : eqs T L (q + 1) = eqs T L q + 1 := by
  unfold eqs
  rw [List.take_succ_eq_append_getElem hq, List.countP_append]
  simp [h]
theorem eqs_no {T : Tr} {L : List Tr} {q : Nat} (hq : q < L.length) (h : cmp T L[q] ≠ 0) : eqs T L (q + 1) = eqs T L q := by
  unfold eqs
  rw [List.take_succ_eq_append_getElem hq, List.countP_append]
  simp [h]
theorem eqs_le (T : Tr) (L : List Tr) (q : Nat) : eqs T L q ≤ q := Nat.le_trans List.countP_le_length (by rw [List.length_take]; omega)
theorem eqs_perm {T : Tr} {L M : List Tr} (h : L.Perm M) {n : Nat} (hn : L.length = n) : eqs T L n = eqs T M n := by
  subst hn
  simp only [eqs]
  rw [List.take_length, h.length_eq, List.take_length]
  exact h.countP_eq _

set_option maxHeartbeats 16000000 in
set_option maxRecDepth 100000 in
theorem fnSorted_walk (A : Option Addr) (l : List Tr) (c : Nat) (xs : List Value) (w : World) (_hlc : l.length ≤ c) (hr : repIs w (fun b => b < w.heap.size) l xs) (hrow : rowAt w (fun b => b < w.heap.size) A xs) (hb : Tr.bulks l + 5 * l.length + 1 ≤ 1048576) :
    Calls Tryz.prog 12 #[.slice A l.length c] w (TruePost w) := by
  have hlen : (l.length : Int) ≤ 1048576 := by omega
  have HB := Lib.hid hb
  clear hb
  go_enter Tryz.func12, Tryz.ntmps12
  by_cases h12 : 12 < (l.length : Int)
  · skip
    go_wp2_with fail
    refine (works_any _).mono ?_
    rintro e wz ⟨rfl, hz⟩
    go_wp2
    go_ret
    exact ⟨rfl, hz⟩
  have hp := lawProper_any l A c xs w _ hr hrow (by have := HB.out; omega) fun _ h => h
  go_wp2_with fail
  refine hp.mono ?_
  rintro e w1 ⟨bp, rfl, hbp, h1⟩
  have HBP := Lib.hid hbp
  clear hp hbp
  cases bp with
  | false =>
    go_wp2_with fail
    refine (works_any _).mono ?_
    rintro e wz ⟨rfl, hz⟩
    go_wp2
    go_ret
    exact ⟨rfl, h1.trans (hz.mono h1.size)⟩
  | true =>
    have HF := HBP.out.1 rfl
    have hn : ∀ t ∈ l, Nice t := fun t ht => (HF t ht).nice (by have := Tr.bulk_mem ht; have := HB.out; omega)
    have hr1 := hr.kept (Kept.of_below (X := fun b => b < w.heap.size) h1 fun _ h => h) (fun _ h => h) (upB h1)
    have hs := implSorted_any l A c xs w1 _ hr1 (rowAt_up hrow h1) (fun _ h => h) hn (by omega)
    have hnm : ∀ t ∈ norms l, Nice t ∧ norm t = t := fun t ht => by
      rw [norms_map] at ht
      obtain ⟨s, hs, rfl⟩ := List.mem_map.1 ht
      have hg := (hn s hs).1.good
      exact ⟨⟨norm_proper s (hn s hs).1, by rw [norm_bulk s hg]; exact (hn s hs).2⟩, norm_norm s hg⟩
    have hgood : ∀ t ∈ norms l, t.good := fun t ht => (hnm t ht).1.1.good
    have HN := Lib.hid hn
    clear HF hr1 hn HBP
    go_wp2_with fail
    refine hs.mono ?_
    rintro e w2 ⟨A', c', ys, rfl, hc', hrow2, hrep2, h2⟩
    have hl2 := h1.trans (h2.mono h1.size)
    obtain ⟨S, hS⟩ : ∃ S, S = sortT (norms l) := ⟨_, rfl⟩
    have hso := sortT_sorted hgood
    have hpm : (sortT (norms l)).Perm (norms l) := isort_perm leT _
    rw [← hS] at hrep2 hso hpm
    have hSl : S.length = l.length := by rw [hpm.length_eq, norms_map, List.length_map]
    have hSn : ∀ t ∈ S, Nice t ∧ norm t = t := fun t ht => hnm t (hpm.mem_iff.1 ht)
    have hnl : (norms l).length = l.length := by rw [norms_map, List.length_map]
    have HSL := Lib.hid hSl
    have HSN := Lib.hid hSn
    have HSO := Lib.hid hso
    have HPM := Lib.hid hpm
    have HNL := Lib.hid hnl
    clear hs hnm hgood hS hSl hSn hso hpm hnl h1 h2
    go_wp2
    go_loopw [31] (fun i wr => ∃ j : Nat, j ≤ l.length ∧ i = .int .i64 j ∧ Below w2.heap.size w2 wr) (fun i _ => l.length - (intOf i).toNat)
    case atStart => exact ⟨0, Nat.zero_le _, rfl, Below.refl _ _⟩
    case round =>
      obtain ⟨j, hj, rfl, hbel⟩ := hrel
      obtain ⟨wo, rfl⟩ : ∃ x, x = wr := ⟨_, rfl⟩
      have hl3 := hl2.trans (hbel.mono hl2.size)
      have hs3 := hbel.size
      by_cases hlt : j < l.length
      · have hjS : j < S.length := by rw [HSL.out]; exact hlt
        obtain ⟨b, off, nT, tT, D1, d1, D2, d2, D3, d3, hA2, hbb, hrj, k0, k1, k2, k3, k4, k5⟩ := hrep2.at_ hrow2 j hjS
        obtain ⟨niT, fiT⟩ := HSN.out _ (List.getElem_mem hjS)
        rw [← hbel.cell (by exact hbb)] at k0 k1 k2 k3 k4 k5
        have hbb3 := Nat.lt_of_lt_of_le hbb hs3
        subst hA2
        obtain ⟨T, hT⟩ : ∃ T, T = S[j] := ⟨_, rfl⟩
        rw [← hT] at niT fiT hrj k0 k3 k4 k5
        have hTA : TA w2 T [.int .i64 T.kind, .string nT, .string tT, .slice D1 T.keys.length d1, .slice D2 T.kids.length d2, .slice D3 T.more.length d3] := ⟨hrj, niT.2⟩
        have HT := Lib.hid hT
        have HFT := Lib.hid fiT
        have hB3 := Blk.new wo 25 #[.int .i64 T.kind, .string nT, .string tT, .slice D1 T.keys.length d1, .slice D2 T.kids.length d2, .slice D3 T.more.length d3]
        have hl4 := hl3.alloc hl3.size (.cells #[.int .i64 T.kind, .string nT, .string tT, .slice D1 T.keys.length d1, .slice D2 T.kids.length d2, .slice D3 T.more.length d3] 25)
        have hbel4 := hbel.alloc hs3 (.cells #[.int .i64 T.kind, .string nT, .string tT, .slice D1 T.keys.length d1, .slice D2 T.kids.length d2, .slice D3 T.more.length d3] 25)
        have hs4 := hbel4.size
        clear hrj hT fiT
        go_wp2
        clear k0 k1 k2 k3 k4 k5
        go_loopw [38, 6, 7] (fun i x y wr => ∃ q : Nat, q ≤ l.length ∧ i = .int .i64 q ∧ x = .int .i64 (eqs T (norms l) q) ∧ y = .int .i64 (eqs T S q) ∧ Below (wo.alloc (.cells #[.int .i64 T.kind, .string nT, .string tT, .slice D1 T.keys.length d1, .slice D2 T.kids.length d2, .slice D3 T.more.length d3] 25)).heap.size (wo.alloc (.cells #[.int .i64 T.kind, .string nT, .string tT, .slice D1 T.keys.length d1, .slice D2 T.kids.length d2, .slice D3 T.more.length d3] 25)) wr) (fun i _ _ _ => l.length - (intOf i).toNat)
        case atStart => exact ⟨0, Nat.zero_le _, rfl, by rw [eqs_zero]; rfl, by rw [eqs_zero]; rfl, Below.refl _ _⟩
        case round =>
          obtain ⟨q, hq, rfl, rfl, rfl, hbi⟩ := hrel
          have hl5 := hl4.trans (hbi.mono hl4.size)
          have hbel5 := hbel4.trans (hbi.mono hs4)
          have hB5 := hB3.below hbi hB3.lt
          have hs5 := hbel5.size
          have hle1 := eqs_le T (norms l) q
          have hle2 := eqs_le T S q
          by_cases hqt : q < l.length
          · have hqS : q < S.length := by rw [HSL.out]; exact hqt
            have hqN : q < (norms l).length := by rw [HNL.out]; exact hqt
            obtain ⟨b2, off2, nU, tU, E1, e1, E2, e2, E3, e3, hA3, -, hrq, k0, k1, k2, k3, k4, k5⟩ := hrep2.at_ hrow2 q hqS
            obtain ⟨rfl, rfl⟩ : b = b2 ∧ off = off2 := by
              injection hA3 with hA3
              injection hA3 with e1 e2
              exact ⟨e1, e2⟩
            obtain ⟨b4, off4, nV, tV, G1, g1, G2, g2, G3, g3, hA4, hbb4, hrv, m0, m1, m2, m3, m4, m5⟩ := hr.at_ hrow q hqt
            rw [← hbel5.cell (by exact hbb)] at k0 k1 k2 k3 k4 k5
            have hbb5 := Nat.lt_of_lt_of_le hbb hs5
            have hbb6 := Nat.lt_of_lt_of_le hbb4 hl5.size
            obtain ⟨niU, fiU⟩ := HSN.out _ (List.getElem_mem hqS)
            have niV := HN.out _ (List.getElem_mem hqt)
            have y1 := fun h => eqs_yes (T := T) hqS h
            have z1 := fun h => eqs_no (T := T) hqS h
            have y2 := fun h => eqs_yes (T := T) hqN h
            have z2 := fun h => eqs_no (T := T) hqN h
            have hgn : (norms l)[q] = norm l[q] := by simp [norms_map]
            rw [hgn] at y2 z2
            obtain ⟨U, hU⟩ : ∃ U, U = S[q] := ⟨_, rfl⟩
            rw [← hU] at niU fiU hrq k0 k3 k4 k5 y1 z1
            obtain ⟨V, hV⟩ : ∃ V, V = l[q] := ⟨_, rfl⟩
            rw [← hV] at niV hrv m0 m3 m4 m5 y2 z2
            have M0 := Lib.hid m0
            have M1 := Lib.hid m1
            have M2 := Lib.hid m2
            have M3 := Lib.hid m3
            have M4 := Lib.hid m4
            have M5 := Lib.hid m5
            rw [← hl5.cell (by exact hbb4)] at m0 m1 m2 m3 m4 m5
            have hUA : TA w2 U [.int .i64 U.kind, .string nU, .string tU, .slice E1 U.keys.length e1, .slice E2 U.kids.length e2, .slice E3 U.more.length e3] := ⟨hrq, niU.2⟩
            have hVA : TA w V [.int .i64 V.kind, .string nV, .string tV, .slice G1 V.keys.length g1, .slice G2 V.kids.length g2, .slice G3 V.more.length g3] := ⟨hrv, niV.2⟩
            have nnV : Nice (norm V) := ⟨norm_proper V niV.1, by rw [norm_bulk V niV.1.good]; exact niV.2⟩
            have hl6 := hl5.alloc hl5.size (.cells #[.int .i64 U.kind, .string nU, .string tU, .slice E1 U.keys.length e1, .slice E2 U.kids.length e2, .slice E3 U.more.length e3] 25)
            have hbel6 := hbel5.alloc hs5 (.cells #[.int .i64 U.kind, .string nU, .string tU, .slice E1 U.keys.length e1, .slice E2 U.kids.length e2, .slice E3 U.more.length e3] 25)
            have hB6 := hB5.alloc (.cells #[.int .i64 U.kind, .string nU, .string tU, .slice E1 U.keys.length e1, .slice E2 U.kids.length e2, .slice E3 U.more.length e3] 25)
            have hcmp : Calls Tryz.prog 30 #[.agg #[.int .i64 T.kind, .string nT, .string tT, .slice D1 T.keys.length d1, .slice D2 T.kids.length d2, .slice D3 T.more.length d3], .agg #[.int .i64 U.kind, .string nU, .string tU, .slice E1 U.keys.length e1, .slice E2 U.kids.length e2, .slice E3 U.more.length e3]] (wr.alloc (.cells #[.int .i64 U.kind, .string nU, .string tU, .slice E1 U.keys.length e1, .slice E2 U.kids.length e2, .slice E3 U.more.length e3] 25)) (IntPost (cmp T U) (wr.alloc (.cells #[.int .i64 U.kind, .string nU, .string tU, .slice E1 U.keys.length e1, .slice E2 U.kids.length e2, .slice E3 U.more.length e3] 25))) := int_at (hTA.cmp hUA niT niU hbel6) (by rw [HFT.out, fiU])
            have hnrm : ∀ W, Below w.heap.size w W → Calls Tryz.prog 27 #[.agg #[.int .i64 V.kind, .string nV, .string tV, .slice G1 V.keys.length g1, .slice G2 V.kids.length g2, .slice G3 V.more.length g3]] W (PlainPost (norm V) W) := fun W hW => implNormal_any V [.int .i64 V.kind, .string nV, .string tV, .slice G1 V.keys.length g1, .slice G2 V.kids.length g2, .slice G3 V.more.length g3] W _ (hVA.up hW).rep (fun _ h => h) niV
            have hcmn : ∀ W cs', Below w2.heap.size w2 W → TA W (norm V) cs' → Calls Tryz.prog 30 #[.agg #[.int .i64 T.kind, .string nT, .string tT, .slice D1 T.keys.length d1, .slice D2 T.kids.length d2, .slice D3 T.more.length d3], .agg cs'.toArray] W (IntPost (cmp T (norm V)) W) := fun W cs' hW hc => int_at ((hTA.up hW).cmp hc niT nnV (Below.refl _ _)) (by rw [HFT.out, norm_norm V niV.1.good])
            have HY1 := Lib.hid y1
            have HZ1 := Lib.hid z1
            have HY2 := Lib.hid y2
            have HZ2 := Lib.hid z2
            obtain ⟨q0, q1, q2, q3, q4, q5, q6⟩ := hB5.six
            subst hA4
            clear y1 z1 y2 z2 hgn hrq hrv hU hV fiU hUA hA3
            obtain ⟨d, hd⟩ : ∃ d, d = cmp T U := ⟨_, rfl⟩
            obtain ⟨d', hd'⟩ : ∃ d', d' = cmp T (norm V) := ⟨_, rfl⟩
            rw [← hd] at hcmp HY1 HZ1
            rw [← hd'] at hcmn HY2 HZ2
            clear hd hd'
            by_cases hz1 : d = 0
            · have e1 : eqs T S (q + 1) = eqs T S q + 1 := HY1.out hz1
              have HE1 := Lib.hid e1
              subst hz1
              clear e1
              by_cases hz2 : d' = 0
              · have e2 : eqs T (norms l) (q + 1) = eqs T (norms l) q + 1 := HY2.out hz2
                have HE2 := Lib.hid e2
                subst hz2
                clear e2
                go_wp2_with fail
                refine hcmp.mono ?_
                rintro e w7 ⟨rfl, h7⟩
                have hl7 := (hl6.trans (h7.mono hl6.size)).drew
                have hbel7 := (hbel6.trans (h7.mono hbel6.size)).drew
                have hB7 := (hB6.below h7 hB6.lt).drew
                have hs7 := hbel7.size
                have hv7 := hl7.size
                clear hcmp k0 k1 k2 k3 k4 k5 q0 q1 q2 q3 q4 q5 q6
                have c0 := (hl7.cell (by exact hbb4)).trans M0.out
                have c1 := (hl7.cell (by exact hbb4)).trans M1.out
                have c2 := (hl7.cell (by exact hbb4)).trans M2.out
                have c3 := (hl7.cell (by exact hbb4)).trans M3.out
                have c4 := (hl7.cell (by exact hbb4)).trans M4.out
                have c5 := (hl7.cell (by exact hbb4)).trans M5.out
                clear m0 m1 m2 m3 m4 m5
                have hlt4 := Nat.lt_of_lt_of_le hbb4 hv7
                go_wp2_with fail
                refine wp_region_held_drew (S := (fun W => Blk W wo.heap.size 25 #[.int .i64 T.kind, .string nT, .string tT, .slice D1 T.keys.length d1, .slice D2 T.kids.length d2, .slice D3 T.more.length d3] ∧ b4 < W.heap.size ∧ W.cell? ⟨b4, off4 + q * 6, none⟩ = some (.int .i64 V.kind) ∧ W.cell? ⟨b4, off4 + q * 6 + 1, none⟩ = some (.string nV) ∧ W.cell? ⟨b4, off4 + q * 6 + 2, none⟩ = some (.string tV) ∧ W.cell? ⟨b4, off4 + q * 6 + 3, none⟩ = some (.slice G1 V.keys.length g1) ∧ W.cell? ⟨b4, off4 + q * 6 + 4, none⟩ = some (.slice G2 V.kids.length g2) ∧ W.cell? ⟨b4, off4 + q * 6 + 5, none⟩ = some (.slice G3 V.more.length g3))) (by kernel_rfl) (⟨hB7, hlt4, c0, c1, c2, c3, c4, c5⟩) (fun hHeld => ?_)
                refine take_yes (i := 0) (v := ?_) rfl (by kernel_rfl) (by kernel_rfl) (by kernel_rfl) (fun _ _ _ h => h) (by rfl) ?_ hHeld ?_
                rotate_left
                · (intro w hSw; obtain ⟨S0, sl, s0, s1, s2, s3, s4, s5⟩ := hSw; obtain ⟨z0, z1, z2, z3, z4, z5, z6⟩ := S0.six; go_simp; (try with_reducible rfl))
                (try simp only [Act.put, List.setIfInBounds_toArray, List.set_cons_zero, List.set_cons_succ])
                refine take_yes (i := 1) (v := ?_) rfl (by kernel_rfl) (by kernel_rfl) (by kernel_rfl) (fun _ _ _ h => h) (by rfl) ?_ hHeld ?_
                rotate_left
                · (intro w hSw; obtain ⟨S0, sl, s0, s1, s2, s3, s4, s5⟩ := hSw; obtain ⟨z0, z1, z2, z3, z4, z5, z6⟩ := S0.six; go_simp; (try with_reducible rfl))
                (try simp only [Act.put, List.setIfInBounds_toArray, List.set_cons_zero, List.set_cons_succ])
                refine take_yes (i := 2) (v := ?_) rfl (by kernel_rfl) (by kernel_rfl) (by kernel_rfl) (fun _ _ _ h => h) (by rfl) ?_ hHeld ?_
                rotate_left
                · (intro w hSw; obtain ⟨S0, sl, s0, s1, s2, s3, s4, s5⟩ := hSw; obtain ⟨z0, z1, z2, z3, z4, z5, z6⟩ := S0.six; go_simp; (try with_reducible rfl))
                (try simp only [Act.put, List.setIfInBounds_toArray, List.set_cons_zero, List.set_cons_succ])
                refine take_yes (i := 3) (v := ?_) rfl (by kernel_rfl) (by kernel_rfl) (by kernel_rfl) (fun _ _ _ h => h) (by rfl) ?_ hHeld ?_
                rotate_left
                · (intro w hSw; obtain ⟨S0, sl, s0, s1, s2, s3, s4, s5⟩ := hSw; obtain ⟨z0, z1, z2, z3, z4, z5, z6⟩ := S0.six; go_simp; (try with_reducible rfl))
                (try simp only [Act.put, List.setIfInBounds_toArray, List.set_cons_zero, List.set_cons_succ])
                refine take_yes (i := 4) (v := ?_) rfl (by kernel_rfl) (by kernel_rfl) (by kernel_rfl) (fun _ _ _ h => h) (by rfl) ?_ hHeld ?_
                rotate_left
                · (intro w hSw; obtain ⟨S0, sl, s0, s1, s2, s3, s4, s5⟩ := hSw; obtain ⟨z0, z1, z2, z3, z4, z5, z6⟩ := S0.six; go_simp; (try with_reducible rfl))
                (try simp only [Act.put, List.setIfInBounds_toArray, List.set_cons_zero, List.set_cons_succ])
                refine take_step (i := 5) rfl (by kernel_rfl) (fun K hK => ?_)
                go_simp
                (go_at_call 27; refine (hnrm _ hl7).mono ?_; rintro e w8 ⟨cs', rfl, hx, h8⟩; obtain ⟨nN, tN, H1, h1, H2, h2, H3, h3, rfl⟩ := hx.shape; have hB8 := hB7.below h8 hB7.lt; have hl8 := hl7.trans (h8.mono hl7.size); have hbel8 := hbel7.trans (h8.mono hbel7.size); have hNA : TA w8 (norm V) [.int .i64 (norm V).kind, .string nN, .string tN, .slice H1 (norm V).keys.length h1, .slice H2 (norm V).kids.length h2, .slice H3 (norm V).more.length h3] := ⟨hx.kept (Kept.refl (fun _ => True) _) (fun _ _ => trivial) fun _ hb => hb.2, nnV.2⟩)
                (try go_wp2_with fail)
                refine hK.out _ _ (⟨hB8, Nat.lt_of_lt_of_le hlt4 h8.size, (h8.cell (by exact hlt4)).trans c0, (h8.cell (by exact hlt4)).trans c1, (h8.cell (by exact hlt4)).trans c2, (h8.cell (by exact hlt4)).trans c3, (h8.cell (by exact hlt4)).trans c4, (h8.cell (by exact hlt4)).trans c5⟩) (fun hHeld => ?_)
                clear hK K
                (try simp only [Act.put, List.setIfInBounds_toArray, List.set_cons_zero, List.set_cons_succ])
                refine take_step (i := 6) rfl (by kernel_rfl) (fun K hK => ?_)
                go_simp
                (go_at_call 30; refine (hcmn _ _ hbel8 hNA).mono ?_; rintro e w9 ⟨rfl, h9⟩; have hB9 := hB8.below h9 hB8.lt; have h89 := h8.trans (h9.mono h8.size); have hbel9 := hbel8.trans (h9.mono hbel8.size))
                (try go_wp2_with fail)
                refine hK.out _ _ (⟨hB9, Nat.lt_of_lt_of_le hlt4 h89.size, (h89.cell (by exact hlt4)).trans c0, (h89.cell (by exact hlt4)).trans c1, (h89.cell (by exact hlt4)).trans c2, (h89.cell (by exact hlt4)).trans c3, (h89.cell (by exact hlt4)).trans c4, (h89.cell (by exact hlt4)).trans c5⟩) (fun hHeld => ?_)
                clear hK K
                (try simp only [Act.put, List.setIfInBounds_toArray, List.set_cons_zero, List.set_cons_succ])
                refine take_yes (i := 7) (v := ?_) rfl (by kernel_rfl) (by kernel_rfl) (by kernel_rfl) (fun _ _ _ h => h) (by rfl) ?_ hHeld ?_
                rotate_left
                · (intro w hSw; obtain ⟨S0, sl, s0, s1, s2, s3, s4, s5⟩ := hSw; obtain ⟨z0, z1, z2, z3, z4, z5, z6⟩ := S0.six; go_simp; (try with_reducible rfl))
                (try simp only [Act.put, List.setIfInBounds_toArray, List.set_cons_zero, List.set_cons_succ])
                refine wpAnyH_done (by kernel_rfl) ?_ _
                have hbi' : Below (wo.alloc (.cells #[.int .i64 T.kind, .string nT, .string tT, .slice D1 T.keys.length d1, .slice D2 T.kids.length d2, .slice D3 T.more.length d3] 25)).heap.size (wo.alloc (.cells #[.int .i64 T.kind, .string nT, .string tT, .slice D1 T.keys.length d1, .slice D2 T.kids.length d2, .slice D3 T.more.length d3] 25)) w9 := ((hbi.alloc hbi.size _).trans (h7.mono (by have := hbi.size; simp at this ⊢; omega))).drew.trans (h89.mono (by have := hbi.size; have := h7.size; simp at *; omega))
                have r1 := HY1.out
                have r2 := HY2.out
                have r3 := HZ1.out
                have r4 := HZ2.out
                clear hl6 hbel6 hB6 hl7 hbel7 hB7 hl8 hbel8 hB8 hB9 hbel9 h7 h8 h9 h89 hx hNA hnrm hcmn c0 c1 c2 c3 c4 c5 hHeld HY1 HY2 HZ1 HZ2 r1 r2 r3 r4
                go_wp2
                go_roundw
                case rel => exact ⟨q + 1, by omega, by go_num, by rw [HE2.out]; go_num, by rw [HE1.out]; go_num, hbi'⟩
                case measure => simp [intOf]; omega
              · have e2 : eqs T (norms l) (q + 1) = eqs T (norms l) q := HZ2.out hz2
                have HE2 := Lib.hid e2
                have hz2' : (d' == 0) = false := by simpa using hz2
                clear e2
                go_wp2_with fail
                refine hcmp.mono ?_
                rintro e w7 ⟨rfl, h7⟩
                have hl7 := (hl6.trans (h7.mono hl6.size)).drew
                have hbel7 := (hbel6.trans (h7.mono hbel6.size)).drew
                have hB7 := (hB6.below h7 hB6.lt).drew
                have hs7 := hbel7.size
                have hv7 := hl7.size
                clear hcmp k0 k1 k2 k3 k4 k5 q0 q1 q2 q3 q4 q5 q6
                have c0 := (hl7.cell (by exact hbb4)).trans M0.out
                have c1 := (hl7.cell (by exact hbb4)).trans M1.out
                have c2 := (hl7.cell (by exact hbb4)).trans M2.out
                have c3 := (hl7.cell (by exact hbb4)).trans M3.out
                have c4 := (hl7.cell (by exact hbb4)).trans M4.out
                have c5 := (hl7.cell (by exact hbb4)).trans M5.out
                clear m0 m1 m2 m3 m4 m5
                have hlt4 := Nat.lt_of_lt_of_le hbb4 hv7
                go_wp2_with fail
                refine wp_region_held_drew (S := (fun W => Blk W wo.heap.size 25 #[.int .i64 T.kind, .string nT, .string tT, .slice D1 T.keys.length d1, .slice D2 T.kids.length d2, .slice D3 T.more.length d3] ∧ b4 < W.heap.size ∧ W.cell? ⟨b4, off4 + q * 6, none⟩ = some (.int .i64 V.kind) ∧ W.cell? ⟨b4, off4 + q * 6 + 1, none⟩ = some (.string nV) ∧ W.cell? ⟨b4, off4 + q * 6 + 2, none⟩ = some (.string tV) ∧ W.cell? ⟨b4, off4 + q * 6 + 3, none⟩ = some (.slice G1 V.keys.length g1) ∧ W.cell? ⟨b4, off4 + q * 6 + 4, none⟩ = some (.slice G2 V.kids.length g2) ∧ W.cell? ⟨b4, off4 + q * 6 + 5, none⟩ = some (.slice G3 V.more.length g3))) (by kernel_rfl) (⟨hB7, hlt4, c0, c1, c2, c3, c4, c5⟩) (fun hHeld => ?_)
                refine take_yes (i := 0) (v := ?_) rfl (by kernel_rfl) (by kernel_rfl) (by kernel_rfl) (fun _ _ _ h => h) (by rfl) ?_ hHeld ?_
                rotate_left
                · (intro w hSw; obtain ⟨S0, sl, s0, s1, s2, s3, s4, s5⟩ := hSw; obtain ⟨z0, z1, z2, z3, z4, z5, z6⟩ := S0.six; go_simp; (try with_reducible rfl))
                (try simp only [Act.put, List.setIfInBounds_toArray, List.set_cons_zero, List.set_cons_succ])
                refine take_yes (i := 1) (v := ?_) rfl (by kernel_rfl) (by kernel_rfl) (by kernel_rfl) (fun _ _ _ h => h) (by rfl) ?_ hHeld ?_
                rotate_left
                · (intro w hSw; obtain ⟨S0, sl, s0, s1, s2, s3, s4, s5⟩ := hSw; obtain ⟨z0, z1, z2, z3, z4, z5, z6⟩ := S0.six; go_simp; (try with_reducible rfl))
                (try simp only [Act.put, List.setIfInBounds_toArray, List.set_cons_zero, List.set_cons_succ])
                refine take_yes (i := 2) (v := ?_) rfl (by kernel_rfl) (by kernel_rfl) (by kernel_rfl) (fun _ _ _ h => h) (by rfl) ?_ hHeld ?_
                rotate_left
                · (intro w hSw; obtain ⟨S0, sl, s0, s1, s2, s3, s4, s5⟩ := hSw; obtain ⟨z0, z1, z2, z3, z4, z5, z6⟩ := S0.six; go_simp; (try with_reducible rfl))
                (try simp only [Act.put, List.setIfInBounds_toArray, List.set_cons_zero, List.set_cons_succ])
                refine take_yes (i := 3) (v := ?_) rfl (by kernel_rfl) (by kernel_rfl) (by kernel_rfl) (fun _ _ _ h => h) (by rfl) ?_ hHeld ?_
                rotate_left
                · (intro w hSw; obtain ⟨S0, sl, s0, s1, s2, s3, s4, s5⟩ := hSw; obtain ⟨z0, z1, z2, z3, z4, z5, z6⟩ := S0.six; go_simp; (try with_reducible rfl))
                (try simp only [Act.put, List.setIfInBounds_toArray, List.set_cons_zero, List.set_cons_succ])
                refine take_yes (i := 4) (v := ?_) rfl (by kernel_rfl) (by kernel_rfl) (by kernel_rfl) (fun _ _ _ h => h) (by rfl) ?_ hHeld ?_
                rotate_left
                · (intro w hSw; obtain ⟨S0, sl, s0, s1, s2, s3, s4, s5⟩ := hSw; obtain ⟨z0, z1, z2, z3, z4, z5, z6⟩ := S0.six; go_simp; (try with_reducible rfl))
                (try simp only [Act.put, List.setIfInBounds_toArray, List.set_cons_zero, List.set_cons_succ])
                refine take_step (i := 5) rfl (by kernel_rfl) (fun K hK => ?_)
                go_simp
                (go_at_call 27; refine (hnrm _ hl7).mono ?_; rintro e w8 ⟨cs', rfl, hx, h8⟩; obtain ⟨nN, tN, H1, h1, H2, h2, H3, h3, rfl⟩ := hx.shape; have hB8 := hB7.below h8 hB7.lt; have hl8 := hl7.trans (h8.mono hl7.size); have hbel8 := hbel7.trans (h8.mono hbel7.size); have hNA : TA w8 (norm V) [.int .i64 (norm V).kind, .string nN, .string tN, .slice H1 (norm V).keys.length h1, .slice H2 (norm V).kids.length h2, .slice H3 (norm V).more.length h3] := ⟨hx.kept (Kept.refl (fun _ => True) _) (fun _ _ => trivial) fun _ hb => hb.2, nnV.2⟩)
                (try go_wp2_with fail)
                refine hK.out _ _ (⟨hB8, Nat.lt_of_lt_of_le hlt4 h8.size, (h8.cell (by exact hlt4)).trans c0, (h8.cell (by exact hlt4)).trans c1, (h8.cell (by exact hlt4)).trans c2, (h8.cell (by exact hlt4)).trans c3, (h8.cell (by exact hlt4)).trans c4, (h8.cell (by exact hlt4)).trans c5⟩) (fun hHeld => ?_)
                clear hK K
                (try simp only [Act.put, List.setIfInBounds_toArray, List.set_cons_zero, List.set_cons_succ])
                refine take_step (i := 6) rfl (by kernel_rfl) (fun K hK => ?_)
                go_simp
                (go_at_call 30; refine (hcmn _ _ hbel8 hNA).mono ?_; rintro e w9 ⟨rfl, h9⟩; have hB9 := hB8.below h9 hB8.lt; have h89 := h8.trans (h9.mono h8.size); have hbel9 := hbel8.trans (h9.mono hbel8.size))
                (try go_wp2_with fail)
                refine hK.out _ _ (⟨hB9, Nat.lt_of_lt_of_le hlt4 h89.size, (h89.cell (by exact hlt4)).trans c0, (h89.cell (by exact hlt4)).trans c1, (h89.cell (by exact hlt4)).trans c2, (h89.cell (by exact hlt4)).trans c3, (h89.cell (by exact hlt4)).trans c4, (h89.cell (by exact hlt4)).trans c5⟩) (fun hHeld => ?_)
                clear hK K
                (try simp only [Act.put, List.setIfInBounds_toArray, List.set_cons_zero, List.set_cons_succ])
                refine take_yes (i := 7) (v := ?_) rfl (by kernel_rfl) (by kernel_rfl) (by kernel_rfl) (fun _ _ _ h => h) (by rfl) ?_ hHeld ?_
                rotate_left
                · (intro w hSw; obtain ⟨S0, sl, s0, s1, s2, s3, s4, s5⟩ := hSw; obtain ⟨z0, z1, z2, z3, z4, z5, z6⟩ := S0.six; go_simp; (try with_reducible rfl))
                (try simp only [Act.put, List.setIfInBounds_toArray, List.set_cons_zero, List.set_cons_succ])
                refine wpAnyH_done (by kernel_rfl) ?_ _
                have hbi' : Below (wo.alloc (.cells #[.int .i64 T.kind, .string nT, .string tT, .slice D1 T.keys.length d1, .slice D2 T.kids.length d2, .slice D3 T.more.length d3] 25)).heap.size (wo.alloc (.cells #[.int .i64 T.kind, .string nT, .string tT, .slice D1 T.keys.length d1, .slice D2 T.kids.length d2, .slice D3 T.more.length d3] 25)) w9 := ((hbi.alloc hbi.size _).trans (h7.mono (by have := hbi.size; simp at this ⊢; omega))).drew.trans (h89.mono (by have := hbi.size; have := h7.size; simp at *; omega))
                have r1 := HY1.out
                have r2 := HY2.out
                have r3 := HZ1.out
                have r4 := HZ2.out
                clear hl6 hbel6 hB6 hl7 hbel7 hB7 hl8 hbel8 hB8 hB9 hbel9 h7 h8 h9 h89 hx hNA hnrm hcmn c0 c1 c2 c3 c4 c5 hHeld HY1 HY2 HZ1 HZ2 r1 r2 r3 r4
                go_wp2
                go_roundw
                case rel => exact ⟨q + 1, by omega, by go_num, by rw [HE2.out], by rw [HE1.out]; go_num, hbi'⟩
                case measure => simp [intOf]; omega
            · have e1 : eqs T S (q + 1) = eqs T S q := HZ1.out hz1
              have HE1 := Lib.hid e1
              have hz1' : (d == 0) = false := by simpa using hz1
              clear e1
              by_cases hz2 : d' = 0
              · have e2 : eqs T (norms l) (q + 1) = eqs T (norms l) q + 1 := HY2.out hz2
                have HE2 := Lib.hid e2
                subst hz2
                clear e2
                go_wp2_with fail
                refine hcmp.mono ?_
                rintro e w7 ⟨rfl, h7⟩
                have hl7 := (hl6.trans (h7.mono hl6.size)).drew
                have hbel7 := (hbel6.trans (h7.mono hbel6.size)).drew
                have hB7 := (hB6.below h7 hB6.lt).drew
                have hs7 := hbel7.size
                have hv7 := hl7.size
                clear hcmp k0 k1 k2 k3 k4 k5 q0 q1 q2 q3 q4 q5 q6
                have c0 := (hl7.cell (by exact hbb4)).trans M0.out
                have c1 := (hl7.cell (by exact hbb4)).trans M1.out
                have c2 := (hl7.cell (by exact hbb4)).trans M2.out
                have c3 := (hl7.cell (by exact hbb4)).trans M3.out
                have c4 := (hl7.cell (by exact hbb4)).trans M4.out
                have c5 := (hl7.cell (by exact hbb4)).trans M5.out
                clear m0 m1 m2 m3 m4 m5
                have hlt4 := Nat.lt_of_lt_of_le hbb4 hv7
                go_wp2_with fail
                refine wp_region_held_drew (S := (fun W => Blk W wo.heap.size 25 #[.int .i64 T.kind, .string nT, .string tT, .slice D1 T.keys.length d1, .slice D2 T.kids.length d2, .slice D3 T.more.length d3] ∧ b4 < W.heap.size ∧ W.cell? ⟨b4, off4 + q * 6, none⟩ = some (.int .i64 V.kind) ∧ W.cell? ⟨b4, off4 + q * 6 + 1, none⟩ = some (.string nV) ∧ W.cell? ⟨b4, off4 + q * 6 + 2, none⟩ = some (.string tV) ∧ W.cell? ⟨b4, off4 + q * 6 + 3, none⟩ = some (.slice G1 V.keys.length g1) ∧ W.cell? ⟨b4, off4 + q * 6 + 4, none⟩ = some (.slice G2 V.kids.length g2) ∧ W.cell? ⟨b4, off4 + q * 6 + 5, none⟩ = some (.slice G3 V.more.length g3))) (by kernel_rfl) (⟨hB7, hlt4, c0, c1, c2, c3, c4, c5⟩) (fun hHeld => ?_)
                refine take_yes (i := 0) (v := ?_) rfl (by kernel_rfl) (by kernel_rfl) (by kernel_rfl) (fun _ _ _ h => h) (by rfl) ?_ hHeld ?_
                rotate_left
                · (intro w hSw; obtain ⟨S0, sl, s0, s1, s2, s3, s4, s5⟩ := hSw; obtain ⟨z0, z1, z2, z3, z4, z5, z6⟩ := S0.six; go_simp; (try with_reducible rfl))
                (try simp only [Act.put, List.setIfInBounds_toArray, List.set_cons_zero, List.set_cons_succ])
                refine take_yes (i := 1) (v := ?_) rfl (by kernel_rfl) (by kernel_rfl) (by kernel_rfl) (fun _ _ _ h => h) (by rfl) ?_ hHeld ?_
                rotate_left
                · (intro w hSw; obtain ⟨S0, sl, s0, s1, s2, s3, s4, s5⟩ := hSw; obtain ⟨z0, z1, z2, z3, z4, z5, z6⟩ := S0.six; go_simp; (try with_reducible rfl))
                (try simp only [Act.put, List.setIfInBounds_toArray, List.set_cons_zero, List.set_cons_succ])
                refine take_yes (i := 2) (v := ?_) rfl (by kernel_rfl) (by kernel_rfl) (by kernel_rfl) (fun _ _ _ h => h) (by rfl) ?_ hHeld ?_
                rotate_left
                · (intro w hSw; obtain ⟨S0, sl, s0, s1, s2, s3, s4, s5⟩ := hSw; obtain ⟨z0, z1, z2, z3, z4, z5, z6⟩ := S0.six; go_simp; (try with_reducible rfl))
                (try simp only [Act.put, List.setIfInBounds_toArray, List.set_cons_zero, List.set_cons_succ])
                refine take_yes (i := 3) (v := ?_) rfl (by kernel_rfl) (by kernel_rfl) (by kernel_rfl) (fun _ _ _ h => h) (by rfl) ?_ hHeld ?_
                rotate_left
                · (intro w hSw; obtain ⟨S0, sl, s0, s1, s2, s3, s4, s5⟩ := hSw; obtain ⟨z0, z1, z2, z3, z4, z5, z6⟩ := S0.six; go_simp; (try with_reducible rfl))
                (try simp only [Act.put, List.setIfInBounds_toArray, List.set_cons_zero, List.set_cons_succ])
                refine take_yes (i := 4) (v := ?_) rfl (by kernel_rfl) (by kernel_rfl) (by kernel_rfl) (fun _ _ _ h => h) (by rfl) ?_ hHeld ?_
                rotate_left
                · (intro w hSw; obtain ⟨S0, sl, s0, s1, s2, s3, s4, s5⟩ := hSw; obtain ⟨z0, z1, z2, z3, z4, z5, z6⟩ := S0.six; go_simp; (try with_reducible rfl))
                (try simp only [Act.put, List.setIfInBounds_toArray, List.set_cons_zero, List.set_cons_succ])
                refine take_step (i := 5) rfl (by kernel_rfl) (fun K hK => ?_)
                go_simp
                (go_at_call 27; refine (hnrm _ hl7).mono ?_; rintro e w8 ⟨cs', rfl, hx, h8⟩; obtain ⟨nN, tN, H1, h1, H2, h2, H3, h3, rfl⟩ := hx.shape; have hB8 := hB7.below h8 hB7.lt; have hl8 := hl7.trans (h8.mono hl7.size); have hbel8 := hbel7.trans (h8.mono hbel7.size); have hNA : TA w8 (norm V) [.int .i64 (norm V).kind, .string nN, .string tN, .slice H1 (norm V).keys.length h1, .slice H2 (norm V).kids.length h2, .slice H3 (norm V).more.length h3] := ⟨hx.kept (Kept.refl (fun _ => True) _) (fun _ _ => trivial) fun _ hb => hb.2, nnV.2⟩)
                (try go_wp2_with fail)
                refine hK.out _ _ (⟨hB8, Nat.lt_of_lt_of_le hlt4 h8.size, (h8.cell (by exact hlt4)).trans c0, (h8.cell (by exact hlt4)).trans c1, (h8.cell (by exact hlt4)).trans c2, (h8.cell (by exact hlt4)).trans c3, (h8.cell (by exact hlt4)).trans c4, (h8.cell (by exact hlt4)).trans c5⟩) (fun hHeld => ?_)
                clear hK K
                (try simp only [Act.put, List.setIfInBounds_toArray, List.set_cons_zero, List.set_cons_succ])
                refine take_step (i := 6) rfl (by kernel_rfl) (fun K hK => ?_)
                go_simp
                (go_at_call 30; refine (hcmn _ _ hbel8 hNA).mono ?_; rintro e w9 ⟨rfl, h9⟩; have hB9 := hB8.below h9 hB8.lt; have h89 := h8.trans (h9.mono h8.size); have hbel9 := hbel8.trans (h9.mono hbel8.size))
                (try go_wp2_with fail)
                refine hK.out _ _ (⟨hB9, Nat.lt_of_lt_of_le hlt4 h89.size, (h89.cell (by exact hlt4)).trans c0, (h89.cell (by exact hlt4)).trans c1, (h89.cell (by exact hlt4)).trans c2, (h89.cell (by exact hlt4)).trans c3, (h89.cell (by exact hlt4)).trans c4, (h89.cell (by exact hlt4)).trans c5⟩) (fun hHeld => ?_)
                clear hK K
                (try simp only [Act.put, List.setIfInBounds_toArray, List.set_cons_zero, List.set_cons_succ])
                refine take_yes (i := 7) (v := ?_) rfl (by kernel_rfl) (by kernel_rfl) (by kernel_rfl) (fun _ _ _ h => h) (by rfl) ?_ hHeld ?_
                rotate_left
                · (intro w hSw; obtain ⟨S0, sl, s0, s1, s2, s3, s4, s5⟩ := hSw; obtain ⟨z0, z1, z2, z3, z4, z5, z6⟩ := S0.six; go_simp; (try with_reducible rfl))
                (try simp only [Act.put, List.setIfInBounds_toArray, List.set_cons_zero, List.set_cons_succ])
                refine wpAnyH_done (by kernel_rfl) ?_ _
                have hbi' : Below (wo.alloc (.cells #[.int .i64 T.kind, .string nT, .string tT, .slice D1 T.keys.length d1, .slice D2 T.kids.length d2, .slice D3 T.more.length d3] 25)).heap.size (wo.alloc (.cells #[.int .i64 T.kind, .string nT, .string tT, .slice D1 T.keys.length d1, .slice D2 T.kids.length d2, .slice D3 T.more.length d3] 25)) w9 := ((hbi.alloc hbi.size _).trans (h7.mono (by have := hbi.size; simp at this ⊢; omega))).drew.trans (h89.mono (by have := hbi.size; have := h7.size; simp at *; omega))
                have r1 := HY1.out
                have r2 := HY2.out
                have r3 := HZ1.out
                have r4 := HZ2.out
                clear hl6 hbel6 hB6 hl7 hbel7 hB7 hl8 hbel8 hB8 hB9 hbel9 h7 h8 h9 h89 hx hNA hnrm hcmn c0 c1 c2 c3 c4 c5 hHeld HY1 HY2 HZ1 HZ2 r1 r2 r3 r4
                go_wp2
                go_roundw
                case rel => exact ⟨q + 1, by omega, by go_num, by rw [HE2.out]; go_num, by rw [HE1.out], hbi'⟩
                case measure => simp [intOf]; omega
              · have e2 : eqs T (norms l) (q + 1) = eqs T (norms l) q := HZ2.out hz2
                have HE2 := Lib.hid e2
                have hz2' : (d' == 0) = false := by simpa using hz2
                clear e2
                go_wp2_with fail
                refine hcmp.mono ?_
                rintro e w7 ⟨rfl, h7⟩
                have hl7 := (hl6.trans (h7.mono hl6.size)).drew
                have hbel7 := (hbel6.trans (h7.mono hbel6.size)).drew
                have hB7 := (hB6.below h7 hB6.lt).drew
                have hs7 := hbel7.size
                have hv7 := hl7.size
                clear hcmp k0 k1 k2 k3 k4 k5 q0 q1 q2 q3 q4 q5 q6
                have c0 := (hl7.cell (by exact hbb4)).trans M0.out
                have c1 := (hl7.cell (by exact hbb4)).trans M1.out
                have c2 := (hl7.cell (by exact hbb4)).trans M2.out
                have c3 := (hl7.cell (by exact hbb4)).trans M3.out
                have c4 := (hl7.cell (by exact hbb4)).trans M4.out
                have c5 := (hl7.cell (by exact hbb4)).trans M5.out
                clear m0 m1 m2 m3 m4 m5
                have hlt4 := Nat.lt_of_lt_of_le hbb4 hv7
                go_wp2_with fail
                refine wp_region_held_drew (S := (fun W => Blk W wo.heap.size 25 #[.int .i64 T.kind, .string nT, .string tT, .slice D1 T.keys.length d1, .slice D2 T.kids.length d2, .slice D3 T.more.length d3] ∧ b4 < W.heap.size ∧ W.cell? ⟨b4, off4 + q * 6, none⟩ = some (.int .i64 V.kind) ∧ W.cell? ⟨b4, off4 + q * 6 + 1, none⟩ = some (.string nV) ∧ W.cell? ⟨b4, off4 + q * 6 + 2, none⟩ = some (.string tV) ∧ W.cell? ⟨b4, off4 + q * 6 + 3, none⟩ = some (.slice G1 V.keys.length g1) ∧ W.cell? ⟨b4, off4 + q * 6 + 4, none⟩ = some (.slice G2 V.kids.length g2) ∧ W.cell? ⟨b4, off4 + q * 6 + 5, none⟩ = some (.slice G3 V.more.length g3))) (by kernel_rfl) (⟨hB7, hlt4, c0, c1, c2, c3, c4, c5⟩) (fun hHeld => ?_)
                refine take_yes (i := 0) (v := ?_) rfl (by kernel_rfl) (by kernel_rfl) (by kernel_rfl) (fun _ _ _ h => h) (by rfl) ?_ hHeld ?_
                rotate_left
                · (intro w hSw; obtain ⟨S0, sl, s0, s1, s2, s3, s4, s5⟩ := hSw; obtain ⟨z0, z1, z2, z3, z4, z5, z6⟩ := S0.six; go_simp; (try with_reducible rfl))
                (try simp only [Act.put, List.setIfInBounds_toArray, List.set_cons_zero, List.set_cons_succ])
                refine take_yes (i := 1) (v := ?_) rfl (by kernel_rfl) (by kernel_rfl) (by kernel_rfl) (fun _ _ _ h => h) (by rfl) ?_ hHeld ?_
                rotate_left
                · (intro w hSw; obtain ⟨S0, sl, s0, s1, s2, s3, s4, s5⟩ := hSw; obtain ⟨z0, z1, z2, z3, z4, z5, z6⟩ := S0.six; go_simp; (try with_reducible rfl))
                (try simp only [Act.put, List.setIfInBounds_toArray, List.set_cons_zero, List.set_cons_succ])
                refine take_yes (i := 2) (v := ?_) rfl (by kernel_rfl) (by kernel_rfl) (by kernel_rfl) (fun _ _ _ h => h) (by rfl) ?_ hHeld ?_
                rotate_left
                · (intro w hSw; obtain ⟨S0, sl, s0, s1, s2, s3, s4, s5⟩ := hSw; obtain ⟨z0, z1, z2, z3, z4, z5, z6⟩ := S0.six; go_simp; (try with_reducible rfl))
                (try simp only [Act.put, List.setIfInBounds_toArray, List.set_cons_zero, List.set_cons_succ])
                refine take_yes (i := 3) (v := ?_) rfl (by kernel_rfl) (by kernel_rfl) (by kernel_rfl) (fun _ _ _ h => h) (by rfl) ?_ hHeld ?_
                rotate_left
                · (intro w hSw; obtain ⟨S0, sl, s0, s1, s2, s3, s4, s5⟩ := hSw; obtain ⟨z0, z1, z2, z3, z4, z5, z6⟩ := S0.six; go_simp; (try with_reducible rfl))
                (try simp only [Act.put, List.setIfInBounds_toArray, List.set_cons_zero, List.set_cons_succ])
                refine take_yes (i := 4) (v := ?_) rfl (by kernel_rfl) (by kernel_rfl) (by kernel_rfl) (fun _ _ _ h => h) (by rfl) ?_ hHeld ?_
                rotate_left
                · (intro w hSw; obtain ⟨S0, sl, s0, s1, s2, s3, s4, s5⟩ := hSw; obtain ⟨z0, z1, z2, z3, z4, z5, z6⟩ := S0.six; go_simp; (try with_reducible rfl))
                (try simp only [Act.put, List.setIfInBounds_toArray, List.set_cons_zero, List.set_cons_succ])
                refine take_step (i := 5) rfl (by kernel_rfl) (fun K hK => ?_)
                go_simp
                (go_at_call 27; refine (hnrm _ hl7).mono ?_; rintro e w8 ⟨cs', rfl, hx, h8⟩; obtain ⟨nN, tN, H1, h1, H2, h2, H3, h3, rfl⟩ := hx.shape; have hB8 := hB7.below h8 hB7.lt; have hl8 := hl7.trans (h8.mono hl7.size); have hbel8 := hbel7.trans (h8.mono hbel7.size); have hNA : TA w8 (norm V) [.int .i64 (norm V).kind, .string nN, .string tN, .slice H1 (norm V).keys.length h1, .slice H2 (norm V).kids.length h2, .slice H3 (norm V).more.length h3] := ⟨hx.kept (Kept.refl (fun _ => True) _) (fun _ _ => trivial) fun _ hb => hb.2, nnV.2⟩)
                (try go_wp2_with fail)
                refine hK.out _ _ (⟨hB8, Nat.lt_of_lt_of_le hlt4 h8.size, (h8.cell (by exact hlt4)).trans c0, (h8.cell (by exact hlt4)).trans c1, (h8.cell (by exact hlt4)).trans c2, (h8.cell (by exact hlt4)).trans c3, (h8.cell (by exact hlt4)).trans c4, (h8.cell (by exact hlt4)).trans c5⟩) (fun hHeld => ?_)
                clear hK K
                (try simp only [Act.put, List.setIfInBounds_toArray, List.set_cons_zero, List.set_cons_succ])
                refine take_step (i := 6) rfl (by kernel_rfl) (fun K hK => ?_)
                go_simp
                (go_at_call 30; refine (hcmn _ _ hbel8 hNA).mono ?_; rintro e w9 ⟨rfl, h9⟩; have hB9 := hB8.below h9 hB8.lt; have h89 := h8.trans (h9.mono h8.size); have hbel9 := hbel8.trans (h9.mono hbel8.size))
                (try go_wp2_with fail)
                refine hK.out _ _ (⟨hB9, Nat.lt_of_lt_of_le hlt4 h89.size, (h89.cell (by exact hlt4)).trans c0, (h89.cell (by exact hlt4)).trans c1, (h89.cell (by exact hlt4)).trans c2, (h89.cell (by exact hlt4)).trans c3, (h89.cell (by exact hlt4)).trans c4, (h89.cell (by exact hlt4)).trans c5⟩) (fun hHeld => ?_)
                clear hK K
                (try simp only [Act.put, List.setIfInBounds_toArray, List.set_cons_zero, List.set_cons_succ])
                refine take_yes (i := 7) (v := ?_) rfl (by kernel_rfl) (by kernel_rfl) (by kernel_rfl) (fun _ _ _ h => h) (by rfl) ?_ hHeld ?_
                rotate_left
                · (intro w hSw; obtain ⟨S0, sl, s0, s1, s2, s3, s4, s5⟩ := hSw; obtain ⟨z0, z1, z2, z3, z4, z5, z6⟩ := S0.six; go_simp; (try with_reducible rfl))
                (try simp only [Act.put, List.setIfInBounds_toArray, List.set_cons_zero, List.set_cons_succ])
                refine wpAnyH_done (by kernel_rfl) ?_ _
                have hbi' : Below (wo.alloc (.cells #[.int .i64 T.kind, .string nT, .string tT, .slice D1 T.keys.length d1, .slice D2 T.kids.length d2, .slice D3 T.more.length d3] 25)).heap.size (wo.alloc (.cells #[.int .i64 T.kind, .string nT, .string tT, .slice D1 T.keys.length d1, .slice D2 T.kids.length d2, .slice D3 T.more.length d3] 25)) w9 := ((hbi.alloc hbi.size _).trans (h7.mono (by have := hbi.size; simp at this ⊢; omega))).drew.trans (h89.mono (by have := hbi.size; have := h7.size; simp at *; omega))
                have r1 := HY1.out
                have r2 := HY2.out
                have r3 := HZ1.out
                have r4 := HZ2.out
                clear hl6 hbel6 hB6 hl7 hbel7 hB7 hl8 hbel8 hB8 hB9 hbel9 h7 h8 h9 h89 hx hNA hnrm hcmn c0 c1 c2 c3 c4 c5 hHeld HY1 HY2 HZ1 HZ2 r1 r2 r3 r4
                go_wp2
                go_roundw
                case rel => exact ⟨q + 1, by omega, by go_num, by rw [HE2.out], by rw [HE1.out], hbi'⟩
                case measure => simp [intOf]; omega
          · obtain rfl : q = l.length := by omega
            have hperm := eqs_perm (T := T) HPM.out HSL.out
            obtain ⟨n0, hn0⟩ : ∃ n0, n0 = eqs T S l.length := ⟨_, rfl⟩
            rw [← hperm, ← hn0]
            rw [← hn0] at hle2
            clear hperm hn0 hle1
            have hbd := hbel5.drew
            have hBd := hB5.drew
            have hld := hl5.drew
            cases j with
            | zero =>
              go_wp2_with fail
              refine wp_region_held_drew (S := (fun W => Blk W wo.heap.size 25 #[.int .i64 T.kind, .string nT, .string tT, .slice D1 T.keys.length d1, .slice D2 T.kids.length d2, .slice D3 T.more.length d3])) (by kernel_rfl) (hBd) (fun hHeld => ?_)
              refine take_yes (i := 0) (v := ?_) rfl (by kernel_rfl) (by kernel_rfl) (by kernel_rfl) (fun _ _ _ h => h) (by rfl) ?_ hHeld ?_
              rotate_left
              · (intro w hSw; obtain ⟨z0, z1, z2, z3, z4, z5, z6⟩ := Blk.six (by exact hSw); go_simp; (try with_reducible rfl))
              (try simp only [Act.put, List.setIfInBounds_toArray, List.set_cons_zero, List.set_cons_succ])
              refine take_yes (i := 1) (v := ?_) rfl (by kernel_rfl) (by kernel_rfl) (by kernel_rfl) (fun _ _ _ h => h) (by rfl) ?_ hHeld ?_
              rotate_left
              · (intro w hSw; obtain ⟨z0, z1, z2, z3, z4, z5, z6⟩ := Blk.six (by exact hSw); go_simp; (try with_reducible rfl))
              (try simp only [Act.put, List.setIfInBounds_toArray, List.set_cons_zero, List.set_cons_succ])
              refine take_yes (i := 2) (v := ?_) rfl (by kernel_rfl) (by kernel_rfl) (by kernel_rfl) (fun _ _ _ h => h) (by rfl) ?_ hHeld ?_
              rotate_left
              · (intro w hSw; obtain ⟨z0, z1, z2, z3, z4, z5, z6⟩ := Blk.six (by exact hSw); go_simp; (try with_reducible rfl))
              (try simp only [Act.put, List.setIfInBounds_toArray, List.set_cons_zero, List.set_cons_succ])
              refine take_yes (i := 3) (v := ?_) rfl (by kernel_rfl) (by kernel_rfl) (by kernel_rfl) (fun _ _ _ h => h) (by rfl) ?_ hHeld ?_
              rotate_left
              · (intro w hSw; obtain ⟨z0, z1, z2, z3, z4, z5, z6⟩ := Blk.six (by exact hSw); go_simp; (try with_reducible rfl))
              (try simp only [Act.put, List.setIfInBounds_toArray, List.set_cons_zero, List.set_cons_succ])
              refine take_yes (i := 4) (v := ?_) rfl (by kernel_rfl) (by kernel_rfl) (by kernel_rfl) (fun _ _ _ h => h) (by rfl) ?_ hHeld ?_
              rotate_left
              · (intro w hSw; obtain ⟨z0, z1, z2, z3, z4, z5, z6⟩ := Blk.six (by exact hSw); go_simp; (try with_reducible rfl))
              (try simp only [Act.put, List.setIfInBounds_toArray, List.set_cons_zero, List.set_cons_succ])
              refine take_yes (i := 5) (v := ?_) rfl (by kernel_rfl) (by kernel_rfl) (by kernel_rfl) (fun _ _ _ h => h) (by rfl) ?_ hHeld ?_
              rotate_left
              · (intro w hSw; obtain ⟨z0, z1, z2, z3, z4, z5, z6⟩ := Blk.six (by exact hSw); go_simp; (try with_reducible rfl))
              (try simp only [Act.put, List.setIfInBounds_toArray, List.set_cons_zero, List.set_cons_succ])
              refine take_yes (i := 6) (v := ?_) rfl (by kernel_rfl) (by kernel_rfl) (by kernel_rfl) (fun _ _ _ h => h) (by rfl) ?_ hHeld ?_
              rotate_left
              · (intro w hSw; obtain ⟨z0, z1, z2, z3, z4, z5, z6⟩ := Blk.six (by exact hSw); go_simp; (try with_reducible rfl))
              (try simp only [Act.put, List.setIfInBounds_toArray, List.set_cons_zero, List.set_cons_succ])
              refine take_no (i := 7) rfl (by kernel_rfl) (by kernel_rfl) (by kernel_rfl) (fun _ _ _ h => h) (by rfl) hHeld ?_
              (try simp only [Act.put, List.setIfInBounds_toArray, List.set_cons_zero, List.set_cons_succ])
              refine take_no (i := 8) rfl (by kernel_rfl) (by kernel_rfl) (by kernel_rfl) (fun _ _ _ h => h) (by rfl) hHeld ?_
              (try simp only [Act.put, List.setIfInBounds_toArray, List.set_cons_zero, List.set_cons_succ])
              refine take_no (i := 9) rfl (by kernel_rfl) (by kernel_rfl) (by kernel_rfl) (fun _ _ _ h => h) (by rfl) hHeld ?_
              (try simp only [Act.put, List.setIfInBounds_toArray, List.set_cons_zero, List.set_cons_succ])
              refine take_no (i := 10) rfl (by kernel_rfl) (by kernel_rfl) (by kernel_rfl) (fun _ _ _ h => h) (by rfl) hHeld ?_
              (try simp only [Act.put, List.setIfInBounds_toArray, List.set_cons_zero, List.set_cons_succ])
              refine take_no (i := 11) rfl (by kernel_rfl) (by kernel_rfl) (by kernel_rfl) (fun _ _ _ h => h) (by rfl) hHeld ?_
              (try simp only [Act.put, List.setIfInBounds_toArray, List.set_cons_zero, List.set_cons_succ])
              refine take_no (i := 12) rfl (by kernel_rfl) (by kernel_rfl) (by kernel_rfl) (fun _ _ _ h => h) (by rfl) hHeld ?_
              (try simp only [Act.put, List.setIfInBounds_toArray, List.set_cons_zero, List.set_cons_succ])
              refine take_no (i := 13) rfl (by kernel_rfl) (by kernel_rfl) (by kernel_rfl) (fun _ _ _ h => h) (by rfl) hHeld ?_
              (try simp only [Act.put, List.setIfInBounds_toArray, List.set_cons_zero, List.set_cons_succ])
              refine take_no (i := 14) rfl (by kernel_rfl) (by kernel_rfl) (by kernel_rfl) (fun _ _ _ h => h) (by rfl) hHeld ?_
              (try simp only [Act.put, List.setIfInBounds_toArray, List.set_cons_zero, List.set_cons_succ])
              refine take_yes (i := 15) (v := ?_) rfl (by kernel_rfl) (by kernel_rfl) (by kernel_rfl) (fun _ _ _ h => h) (by rfl) ?_ hHeld ?_
              rotate_left
              · (intro w hSw; obtain ⟨z0, z1, z2, z3, z4, z5, z6⟩ := Blk.six (by exact hSw); go_simp; (try with_reducible rfl))
              (try simp only [Act.put, List.setIfInBounds_toArray, List.set_cons_zero, List.set_cons_succ])
              refine take_yes (i := 16) (v := ?_) rfl (by kernel_rfl) (by kernel_rfl) (by kernel_rfl) (fun _ _ _ h => h) (by rfl) ?_ hHeld ?_
              rotate_left
              · (intro w hSw; obtain ⟨z0, z1, z2, z3, z4, z5, z6⟩ := Blk.six (by exact hSw); go_simp; (try with_reducible rfl))
              (try simp only [Act.put, List.setIfInBounds_toArray, List.set_cons_zero, List.set_cons_succ])
              refine wpAnyH_done (by kernel_rfl) ?_ _
              clear hB5 hBd hl5 hHeld
              go_wp2
              go_roundw
              case rel => exact ⟨0 + 1, by omega, by go_num, hbd⟩
              case measure => simp [intOf]; omega
            | succ m =>
              have hm : m < S.length := by omega
              obtain ⟨b2, off2, nR, tR, J1, j1, J2, j2, J3, j3, hA3, -, hrm, k0, k1, k2, k3, k4, k5⟩ := hrep2.at_ hrow2 m hm
              obtain ⟨rfl, rfl⟩ : b = b2 ∧ off = off2 := by
                injection hA3 with hA3
                injection hA3 with e1 e2
                exact ⟨e1, e2⟩
              have hle := List.pairwise_iff_getElem.1 HSO.out m (m + 1) hm hjS (by omega)
              obtain ⟨niR, fiR⟩ := HSN.out _ (List.getElem_mem hm)
              rw [← HT.out] at hle
              obtain ⟨R, hR⟩ : ∃ R, R = S[m] := ⟨_, rfl⟩
              rw [← hR] at hle niR fiR hrm k0 k3 k4 k5
              have hRA : TA w2 R [.int .i64 R.kind, .string nR, .string tR, .slice J1 R.keys.length j1, .slice J2 R.kids.length j2, .slice J3 R.more.length j3] := ⟨hrm, niR.2⟩
              obtain ⟨d, hd⟩ : ∃ d, d = cmp R T := ⟨_, rfl⟩
              have hcmp : Calls Tryz.prog 30 #[.agg #[.int .i64 R.kind, .string nR, .string tR, .slice J1 R.keys.length j1, .slice J2 R.kids.length j2, .slice J3 R.more.length j3], .agg #[.int .i64 T.kind, .string nT, .string tT, .slice D1 T.keys.length d1, .slice D2 T.kids.length d2, .slice D3 T.more.length d3]] wr.drew (IntPost d wr.drew) := int_at (hRA.cmp hTA niR niT hbd) (by rw [HFT.out, fiR, hd])
              have hd0 : ¬ 0 < d := by
                have : cmp R T ≤ 0 := by simpa [leT] using hle
                omega
              have hdd : decide (0 < d) = false := decide_eq_false hd0
              rw [← hbd.cell (by exact hbb)] at k0 k1 k2 k3 k4 k5
              have hsb := Nat.lt_of_lt_of_le hbb hbd.size
              have hmm : ((m + 1 : Nat) : Int) - 1 = (m : Int) := by omega
              have hgt : decide (0 < ((m + 1 : Nat) : Int)) = true := decide_eq_true (by omega)
              have hwr : IntKind.i64.wrap (m : Int) = (m : Int) := by simp [IntKind.wrap, IntKind.bits, IntKind.signed]; omega
              have hml : (m : Int) < (l.length : Int) := by omega
              clear hle hR hrm hd hA3 fiR
              go_wp2_with fail
              refine wp_region_held_drew (S := (fun W => Blk W wo.heap.size 25 #[.int .i64 T.kind, .string nT, .string tT, .slice D1 T.keys.length d1, .slice D2 T.kids.length d2, .slice D3 T.more.length d3] ∧ b < W.heap.size ∧ W.cell? ⟨b, off + m * 6, none⟩ = some (.int .i64 R.kind) ∧ W.cell? ⟨b, off + m * 6 + 1, none⟩ = some (.string nR) ∧ W.cell? ⟨b, off + m * 6 + 2, none⟩ = some (.string tR) ∧ W.cell? ⟨b, off + m * 6 + 3, none⟩ = some (.slice J1 R.keys.length j1) ∧ W.cell? ⟨b, off + m * 6 + 4, none⟩ = some (.slice J2 R.kids.length j2) ∧ W.cell? ⟨b, off + m * 6 + 5, none⟩ = some (.slice J3 R.more.length j3))) (by kernel_rfl) (⟨hBd, hsb, k0, k1, k2, k3, k4, k5⟩) (fun hHeld => ?_)
              refine take_yes (i := 0) (v := ?_) rfl (by kernel_rfl) (by kernel_rfl) (by kernel_rfl) (fun _ _ _ h => h) (by rfl) ?_ hHeld ?_
              rotate_left
              · (intro w hSw; obtain ⟨S0, sl, s0, s1, s2, s3, s4, s5⟩ := hSw; obtain ⟨z0, z1, z2, z3, z4, z5, z6⟩ := S0.six; go_simp; (try with_reducible rfl))
              (try simp only [Act.put, List.setIfInBounds_toArray, List.set_cons_zero, List.set_cons_succ])
              refine take_yes (i := 1) (v := ?_) rfl (by kernel_rfl) (by kernel_rfl) (by kernel_rfl) (fun _ _ _ h => h) (by rfl) ?_ hHeld ?_
              rotate_left
              · (intro w hSw; obtain ⟨S0, sl, s0, s1, s2, s3, s4, s5⟩ := hSw; obtain ⟨z0, z1, z2, z3, z4, z5, z6⟩ := S0.six; go_simp; (try with_reducible rfl))
              (try simp only [Act.put, List.setIfInBounds_toArray, List.set_cons_zero, List.set_cons_succ])
              refine take_yes (i := 2) (v := ?_) rfl (by kernel_rfl) (by kernel_rfl) (by kernel_rfl) (fun _ _ _ h => h) (by rfl) ?_ hHeld ?_
              rotate_left
              · (intro w hSw; obtain ⟨S0, sl, s0, s1, s2, s3, s4, s5⟩ := hSw; obtain ⟨z0, z1, z2, z3, z4, z5, z6⟩ := S0.six; go_simp; (try with_reducible rfl))
              (try simp only [Act.put, List.setIfInBounds_toArray, List.set_cons_zero, List.set_cons_succ])
              refine take_yes (i := 3) (v := ?_) rfl (by kernel_rfl) (by kernel_rfl) (by kernel_rfl) (fun _ _ _ h => h) (by rfl) ?_ hHeld ?_
              rotate_left
              · (intro w hSw; obtain ⟨S0, sl, s0, s1, s2, s3, s4, s5⟩ := hSw; obtain ⟨z0, z1, z2, z3, z4, z5, z6⟩ := S0.six; go_simp; (try with_reducible rfl))
              (try simp only [Act.put, List.setIfInBounds_toArray, List.set_cons_zero, List.set_cons_succ])
              refine take_yes (i := 4) (v := ?_) rfl (by kernel_rfl) (by kernel_rfl) (by kernel_rfl) (fun _ _ _ h => h) (by rfl) ?_ hHeld ?_
              rotate_left
              · (intro w hSw; obtain ⟨S0, sl, s0, s1, s2, s3, s4, s5⟩ := hSw; obtain ⟨z0, z1, z2, z3, z4, z5, z6⟩ := S0.six; go_simp; (try with_reducible rfl))
              (try simp only [Act.put, List.setIfInBounds_toArray, List.set_cons_zero, List.set_cons_succ])
              refine take_yes (i := 5) (v := ?_) rfl (by kernel_rfl) (by kernel_rfl) (by kernel_rfl) (fun _ _ _ h => h) (by rfl) ?_ hHeld ?_
              rotate_left
              · (intro w hSw; obtain ⟨S0, sl, s0, s1, s2, s3, s4, s5⟩ := hSw; obtain ⟨z0, z1, z2, z3, z4, z5, z6⟩ := S0.six; go_simp; (try with_reducible rfl))
              (try simp only [Act.put, List.setIfInBounds_toArray, List.set_cons_zero, List.set_cons_succ])
              refine take_yes (i := 6) (v := ?_) rfl (by kernel_rfl) (by kernel_rfl) (by kernel_rfl) (fun _ _ _ h => h) (by rfl) ?_ hHeld ?_
              rotate_left
              · (intro w hSw; obtain ⟨S0, sl, s0, s1, s2, s3, s4, s5⟩ := hSw; obtain ⟨z0, z1, z2, z3, z4, z5, z6⟩ := S0.six; go_simp; (try with_reducible rfl))
              (try simp only [Act.put, List.setIfInBounds_toArray, List.set_cons_zero, List.set_cons_succ])
              refine take_yes (i := 7) (v := ?_) rfl (by kernel_rfl) (by kernel_rfl) (by kernel_rfl) (fun _ _ _ h => h) (by rfl) ?_ hHeld ?_
              rotate_left
              · (intro w hSw; obtain ⟨S0, sl, s0, s1, s2, s3, s4, s5⟩ := hSw; obtain ⟨z0, z1, z2, z3, z4, z5, z6⟩ := S0.six; go_simp; (try with_reducible rfl))
              (try simp only [Act.put, List.setIfInBounds_toArray, List.set_cons_zero, List.set_cons_succ])
              refine take_yes (i := 8) (v := ?_) rfl (by kernel_rfl) (by kernel_rfl) (by kernel_rfl) (fun _ _ _ h => h) (by rfl) ?_ hHeld ?_
              rotate_left
              · (intro w hSw; obtain ⟨S0, sl, s0, s1, s2, s3, s4, s5⟩ := hSw; obtain ⟨z0, z1, z2, z3, z4, z5, z6⟩ := S0.six; go_simp; (try with_reducible rfl))
              (try simp only [Act.put, List.setIfInBounds_toArray, List.set_cons_zero, List.set_cons_succ])
              refine take_yes (i := 9) (v := ?_) rfl (by kernel_rfl) (by kernel_rfl) (by kernel_rfl) (fun _ _ _ h => h) (by rfl) ?_ hHeld ?_
              rotate_left
              · (intro w hSw; obtain ⟨S0, sl, s0, s1, s2, s3, s4, s5⟩ := hSw; obtain ⟨z0, z1, z2, z3, z4, z5, z6⟩ := S0.six; go_simp; (try with_reducible rfl))
              (try simp only [Act.put, List.setIfInBounds_toArray, List.set_cons_zero, List.set_cons_succ])
              refine take_yes (i := 10) (v := ?_) rfl (by kernel_rfl) (by kernel_rfl) (by kernel_rfl) (fun _ _ _ h => h) (by rfl) ?_ hHeld ?_
              rotate_left
              · (intro w hSw; obtain ⟨S0, sl, s0, s1, s2, s3, s4, s5⟩ := hSw; obtain ⟨z0, z1, z2, z3, z4, z5, z6⟩ := S0.six; go_simp; (try with_reducible rfl))
              (try simp only [Act.put, List.setIfInBounds_toArray, List.set_cons_zero, List.set_cons_succ])
              refine take_yes (i := 11) (v := ?_) rfl (by kernel_rfl) (by kernel_rfl) (by kernel_rfl) (fun _ _ _ h => h) (by rfl) ?_ hHeld ?_
              rotate_left
              · (intro w hSw; obtain ⟨S0, sl, s0, s1, s2, s3, s4, s5⟩ := hSw; obtain ⟨z0, z1, z2, z3, z4, z5, z6⟩ := S0.six; go_simp; (try with_reducible rfl))
              (try simp only [Act.put, List.setIfInBounds_toArray, List.set_cons_zero, List.set_cons_succ])
              refine take_yes (i := 12) (v := ?_) rfl (by kernel_rfl) (by kernel_rfl) (by kernel_rfl) (fun _ _ _ h => h) (by rfl) ?_ hHeld ?_
              rotate_left
              · (intro w hSw; obtain ⟨S0, sl, s0, s1, s2, s3, s4, s5⟩ := hSw; obtain ⟨z0, z1, z2, z3, z4, z5, z6⟩ := S0.six; go_simp; (try with_reducible rfl))
              (try simp only [Act.put, List.setIfInBounds_toArray, List.set_cons_zero, List.set_cons_succ])
              refine take_step (i := 13) rfl (by kernel_rfl) (fun K hK => ?_)
              go_simp
              (go_at_call 30; refine hcmp.mono ?_; rintro e w9 ⟨rfl, h9⟩; have hB9 := hBd.below h9 hBd.lt; have hbel9 := hbd.trans (h9.mono hbd.size))
              (try go_wp2_with fail)
              refine hK.out _ _ (⟨hB9, Nat.lt_of_lt_of_le hsb h9.size, (h9.cell (by exact hsb)).trans k0, (h9.cell (by exact hsb)).trans k1, (h9.cell (by exact hsb)).trans k2, (h9.cell (by exact hsb)).trans k3, (h9.cell (by exact hsb)).trans k4, (h9.cell (by exact hsb)).trans k5⟩) (fun hHeld => ?_)
              clear hK K
              (try simp only [Act.put, List.setIfInBounds_toArray, List.set_cons_zero, List.set_cons_succ])
              refine take_yes (i := 14) (v := ?_) rfl (by kernel_rfl) (by kernel_rfl) (by kernel_rfl) (fun _ _ _ h => h) (by rfl) ?_ hHeld ?_
              rotate_left
              · (intro w hSw; obtain ⟨S0, sl, s0, s1, s2, s3, s4, s5⟩ := hSw; obtain ⟨z0, z1, z2, z3, z4, z5, z6⟩ := S0.six; go_simp; (try with_reducible rfl))
              (try simp only [Act.put, List.setIfInBounds_toArray, List.set_cons_zero, List.set_cons_succ])
              refine take_yes (i := 15) (v := ?_) rfl (by kernel_rfl) (by kernel_rfl) (by kernel_rfl) (fun _ _ _ h => h) (by rfl) ?_ hHeld ?_
              rotate_left
              · (intro w hSw; obtain ⟨S0, sl, s0, s1, s2, s3, s4, s5⟩ := hSw; obtain ⟨z0, z1, z2, z3, z4, z5, z6⟩ := S0.six; go_simp; (try with_reducible rfl))
              (try simp only [Act.put, List.setIfInBounds_toArray, List.set_cons_zero, List.set_cons_succ])
              refine take_yes (i := 16) (v := ?_) rfl (by kernel_rfl) (by kernel_rfl) (by kernel_rfl) (fun _ _ _ h => h) (by rfl) ?_ hHeld ?_
              rotate_left
              · (intro w hSw; obtain ⟨S0, sl, s0, s1, s2, s3, s4, s5⟩ := hSw; obtain ⟨z0, z1, z2, z3, z4, z5, z6⟩ := S0.six; go_simp; (try with_reducible rfl))
              (try simp only [Act.put, List.setIfInBounds_toArray, List.set_cons_zero, List.set_cons_succ])
              refine wpAnyH_done (by kernel_rfl) ?_ _
              clear hB5 hBd hl5 hHeld hcmp k0 k1 k2 k3 k4 k5 hB9
              go_wp2
              go_roundw
              case rel => exact ⟨m + 1 + 1, by omega, by go_num, hbel9⟩
              case measure => simp [intOf]; omega
      · obtain rfl : j = l.length := by omega
        go_wp2_with fail
        refine (works_any _).mono ?_
        rintro e wz ⟨rfl, hz⟩
        go_wp2
        go_ret
        exact ⟨rfl, hl3.trans (hz.mono hl3.size)⟩

end Go.Proofs.YtpmfjbmfjfhghaaGreat
