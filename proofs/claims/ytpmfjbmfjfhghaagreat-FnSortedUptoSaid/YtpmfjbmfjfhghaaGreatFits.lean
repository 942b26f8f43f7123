/-
  'laws.zzFits1' at types of a bounded bulk; 'laws.works'.
-/
import Derived.Test.YtpmfjbmfjfhghaaGreatBuiltAny
namespace Go.Proofs.YtpmfjbmfjfhghaaGreat
open Go.RowKit

theorem fits3_any (k : Int) (s : ByteArray) (w : World) (hs : s.size ≤ 1048576) :
    Calls Tryz.prog 58 #[.agg #[.int .i64 k, .string s]] w fun e w' => e = .returned (.bool true) ∧ Below w.heap.size w w' := by
  go_enter Tryz.func58, Tryz.ntmps58
  go_wp2
  all_goals go_ret
  all_goals exact ⟨rfl, (Below.refl _ _).alloc (Nat.le_refl _) _⟩

theorem fits2_any (A : Option Addr) (n c : Nat) (w : World) (hn : n ≤ 1048576) (hk : ∀ i, i < n → ∃ b off k s, A = some ⟨b, off, none⟩ ∧ b < w.heap.size ∧ w.cell? ⟨b, off + i * 2, none⟩ = some (.int .i64 k) ∧ w.cell? ⟨b, off + i * 2 + 1, none⟩ = some (.string s) ∧ s.size ≤ 1048576) :
    Calls Tryz.prog 37 #[.slice A n c] w fun e w' => e = .returned (.bool true) ∧ Below w.heap.size w w' := by
  go_enter Tryz.func37, Tryz.ntmps37
  go_wp2
  go_loopw [10] (fun i wr => ∃ k : Nat, k ≤ n ∧ i = .int .i64 k ∧ Below w.heap.size w wr) (fun i _ => n - (intOf i).toNat)
  case atStart => exact ⟨0, Nat.zero_le _, rfl, Below.refl _ _⟩
  case round =>
    obtain ⟨k, hkn, rfl, hb⟩ := hrel
    by_cases hlt : k < n
    · obtain ⟨b, off, kk, s, rfl, hbl, h1, h2, hs⟩ := hk k hlt
      rw [← hb.cell (by exact hbl)] at h1 h2
      have hsz := hb.size
      clear hk
      go_wp2_with (go_at_call 58; refine (fits3_any _ _ _ hs).mono ?_; rintro e w1 ⟨rfl, hb1⟩)
      go_roundw
      case rel => exact ⟨k + 1, by omega, by go_num, hb.trans (((Below.refl _ _).alloc hsz _).trans (hb1.mono (by simp; omega)))⟩
      case measure => simp [intOf]; omega
    · go_wp2
      go_ret
      exact ⟨rfl, hb⟩

/-- true comes back; what was there is as it was. -/
def TruePost (w : World) (e : Ending) (w' : World) : Prop := e = .returned (.bool true) ∧ Below w.heap.size w w'

set_option maxHeartbeats 1000000 in
set_option maxRecDepth 100000 in
theorem fits1_any (t : Tr) (cs : List Value) (w : World) (B : Nat → Prop) (hr : repI w B t cs) (hB : ∀ b, B b → b < w.heap.size) (hb : t.bulk ≤ 1048576) :
    Calls Tryz.prog 17 #[.agg cs.toArray] w (TruePost w) := by
  cases t with
  | mk k ks l m =>
    simp only [repI] at hr
    obtain ⟨nm, tx, A1, c1, A2, c2, A3, c3, xs, ys, rfl, ⟨hn, hx, _⟩, h1, h2, h3, h4, h5⟩ := hr
    simp only [Tr.bulk] at hb
    have b1 := length_kyBulk ks
    have b2 := Tr.length_bulks l
    have b3 := Tr.length_bulks m
    have hl0 : Below w.heap.size w (w.alloc (.cells #[.int .i64 k, .string nm, .string tx, .slice A1 ks.length c1, .slice A2 l.length c2, .slice A3 m.length c3] 25)) := (Below.refl _ _).alloc (Nat.le_refl _) _
    have hf := fits2_any A1 ks.length c1 (w.alloc (.cells #[.int .i64 k, .string nm, .string tx, .slice A1 ks.length c1, .slice A2 l.length c2, .slice A3 m.length c3] 25)) (by omega) (fun i hi => by
      obtain ⟨b, off, hA, hb', q1, q2⟩ := h1.key i hi
      have hlt := hB b hb'
      rw [← hl0.cell (by exact hlt)] at q1 q2
      have := kyBulk_mem (List.getElem_mem hi)
      exact ⟨b, off, _, _, hA, Nat.lt_of_lt_of_le hlt hl0.size, q1, q2, by omega⟩)
    have hx0 : Blk (w.alloc (.cells #[.int .i64 k, .string nm, .string tx, .slice A1 ks.length c1, .slice A2 l.length c2, .slice A3 m.length c3] 25)) w.heap.size 25 #[.int .i64 k, .string nm, .string tx, .slice A1 ks.length c1, .slice A2 l.length c2, .slice A3 m.length c3] := Blk.new _ _ _
    have e1 : decide (2147483647 < (nm.size : Int)) = false := decide_eq_false (by omega)
    have e2 : decide (2147483647 < (tx.size : Int)) = false := decide_eq_false (by omega)
    have e3 : decide (2147483647 < (l.length : Int)) = false := decide_eq_false (by omega)
    have e4 : decide (2147483647 < (m.length : Int)) = false := decide_eq_false (by omega)
    clear h1 h2 h3 h4 h5
    go_enter Tryz.func17, Tryz.ntmps17
    go_wp2_with fail
    refine hf.mono ?_
    rintro e w1 ⟨rfl, hb1⟩
    have hx1 := hx0.below hb1 hx0.lt
    have k4 := hx1.cell 4
    have k5 := hx1.cell 5
    simp at k4 k5
    have hbw := hl0.trans (hb1.mono hl0.size)
    clear hf hx0 hx1 hl0 hb1
    go_wp2
    go_ret
    exact ⟨rfl, hbw⟩

theorem leaf_nice {k : Int} (h : k = 1 ∨ k = 2 ∨ k = 3 ∨ k = 4) : Nice (.mk k [] [] []) := by
  refine ⟨?_, by simp [Tr.bulk, Tr.bulks, kyBulk]⟩
  simp only [ProperT, Shaped, ProperTs]
  exact ⟨.inl ⟨h, trivial, trivial⟩, fun _ => trivial, fun i hi => absurd hi (by simp), trivial, trivial⟩

theorem leaf_rep (k : Int) (w : World) : repI w (fun _ => False) (.mk k [] [] []) [.int .i64 k, .string ⟨#[]⟩, .string ⟨#[]⟩, .slice none 0 0, .slice none 0 0, .slice none 0 0] := by
  simp only [repI]
  exact ⟨⟨#[]⟩, ⟨#[]⟩, none, 0, none, 0, none, 0, [], [], rfl, ⟨by decide, by decide, by simp, by simp, by simp⟩, rowAt.nil, rowAt.nil, by simp [repIs], rowAt.nil, by simp [repIs]⟩

set_option maxHeartbeats 1000000 in
set_option maxRecDepth 100000 in
/-- The package answers. -/
theorem works_any (w : World) : Calls Tryz.prog 23 #[] w (TruePost w) := by
  have hc := implCompare_any (.mk 1 [] [] []) (.mk 4 [] [] []) _ _ w _ _ (leaf_rep 1 w) (leaf_rep 4 w) (by simp) (by simp) (leaf_nice (by simp)) (leaf_nice (by simp))
  have e : cmp (norm (.mk 1 [] [] [])) (norm (.mk 4 [] [] [])) = -1 := by simp [norm, norms, cmp]
  rw [e] at hc
  clear e
  go_enter Tryz.func23, Tryz.ntmps23
  go_wp2_with fail
  refine hc.mono ?_
  rintro e w1 ⟨rfl, hb1⟩
  clear hc
  go_wp2
  go_ret
  exact ⟨rfl, hb1⟩

end Go.Proofs.YtpmfjbmfjfhghaaGreat
