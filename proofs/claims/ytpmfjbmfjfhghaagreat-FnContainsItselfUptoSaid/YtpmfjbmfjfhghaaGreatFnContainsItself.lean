/-
  'laws.FnContainsItself': THE WALK (laid by gen_itself.py).
-/
import Derived.Test.YtpmfjbmfjfhghaaGreatLaw
namespace Go.Proofs.YtpmfjbmfjfhghaaGreat
open Go.RowKit

theorem any_nice : Nice (.mk 8 [] [] []) := by
  refine ⟨?_, by simp [Tr.bulk, Tr.bulks, kyBulk]⟩
  simp only [ProperT, Shaped, ProperTs]
  exact ⟨.inr (.inr (.inr (.inr ⟨trivial, by simp, trivial, by simp⟩))), fun _ => trivial, fun i hi => absurd hi (by simp), trivial, trivial⟩

theorem any_TA (w : World) : TA w (.mk 8 [] [] []) [.int .i64 8, .string ⟨#[]⟩, .string ⟨#[]⟩, .slice none 0 0, .slice none 0 0, .slice none 0 0] :=
  ⟨(leaf_rep 8 w).keep (fun _ h => h.elim) fun _ _ => rfl, any_nice.2⟩

theorem norm_all : norm (.mk 8 [] [] []) = .mk 8 [] [] [] := by simp [norm, norms, sortT, isort]

set_option maxHeartbeats 4000000 in
set_option maxRecDepth 100000 in
theorem fnContainsItself_walk (a : Tr) (ca : List Value) (w : World) (ha : TA w a ca) :
    Calls Tryz.prog 4 #[.agg ca.toArray] w (TruePost w) := by
  obtain ⟨na, ta, A1, a1, A2, a2, A3, a3, rfl⟩ := ha.rep.shape
  have hA0 : Blk (w.alloc (.cells #[.int .i64 a.kind, .string na, .string ta, .slice A1 a.keys.length a1, .slice A2 a.kids.length a2, .slice A3 a.more.length a3] 25)) (w.heap.size) 25 #[.int .i64 a.kind, .string na, .string ta, .slice A1 a.keys.length a1, .slice A2 a.kids.length a2, .slice A3 a.more.length a3] := by simpa using (Blk.new (w) _ _)
  have hl0 : Below w.heap.size w (w.alloc (.cells #[.int .i64 a.kind, .string na, .string ta, .slice A1 a.keys.length a1, .slice A2 a.kids.length a2, .slice A3 a.more.length a3] 25)) := (Below.refl w.heap.size w).alloc (Nat.le_refl _) _
  go_enter Tryz.func4, Tryz.ntmps4
  go_wp2_with fail
  refine (ha.fits hl0).mono ?_
  rintro e w1 ⟨rfl, h1⟩
  have hA1 := hA0.below h1 hA0.lt
  have hl1 := hl0.trans (h1.mono hl0.size)
  clear hA0 hl0 h1
  obtain ⟨q0, q1, q2, q3, q4, q5, q6⟩ := hA1.six
  have hp := ha.proper1 (c := 1) (hl1.alloc hl1.size (.cells #[.int .i64 a.kind, .string na, .string ta, .slice A1 a.keys.length a1, .slice A2 a.kids.length a2, .slice A3 a.more.length a3] 25)) (new_row [.int .i64 a.kind, .string na, .string ta, .slice A1 a.keys.length a1, .slice A2 a.kids.length a2, .slice A3 a.more.length a3] _)
  have hA2 := hA1.alloc (.cells #[.int .i64 a.kind, .string na, .string ta, .slice A1 a.keys.length a1, .slice A2 a.kids.length a2, .slice A3 a.more.length a3] 25)
  have hl2 := hl1.alloc hl1.size  (.cells #[.int .i64 a.kind, .string na, .string ta, .slice A1 a.keys.length a1, .slice A2 a.kids.length a2, .slice A3 a.more.length a3] 25)
  go_wp2_with fail
  refine (hp).mono ?_
  rintro e w3 ⟨bp, rfl, hbp, h3⟩
  have HBP := Lib.hid hbp
  clear hp hbp hA1 hl1
  have hA3 := hA2.below h3 hA2.lt
  have hl3 := hl2.trans (h3.mono hl2.size)
  clear q0 q1 q2 q3 q4 q5 q6
  clear hA2 hl2 h3
  cases bp with
  | false =>
    go_wp2_with fail
    refine (works_any _).mono ?_
    rintro e wz ⟨rfl, hz⟩
    go_wp2
    go_ret
    exact ⟨rfl, hl3.trans (hz.mono hl3.size)⟩
  | true =>
    have n1 : Nice a := (HBP.out.1 rfl).nice ha.bulk
    clear HBP
    by_cases hk : a.kind = 8
    · have HK := Lib.hid hk
      have hk' : (a.kind == 8) = true := by simpa using hk
      clear hk
      obtain ⟨q0, q1, q2, q3, q4, q5, q6⟩ := hA3.six
      go_wp2_with fail
      refine (works_any _).mono ?_
      rintro e wz ⟨rfl, hz⟩
      go_wp2
      go_ret
      exact ⟨rfl, hl3.trans (hz.mono hl3.size)⟩
    · have HK := Lib.hid hk
      have hk' : (a.kind == 8) = false := by simpa using hk
      clear hk
      obtain ⟨q0, q1, q2, q3, q4, q5, q6⟩ := hA3.six
      have e1 : containsB (norm a) (norm a) = true := (containsB_iff n1.kpt n1.kpt).2 (containsT_self (by rw [norm_kind]; exact HK.out))
      have e2 : containsB (norm (.mk 8 [] [] [])) (norm a) = true := (containsB_iff any_nice.kpt n1.kpt).2 (by rw [norm_all]; exact containsT_all _)
      have h1 := ha.has ha n1 n1 hl3
      rw [e1] at h1
      clear e1
      go_wp2_with fail
      refine (h1).mono ?_
      rintro e w4 ⟨rfl, h9⟩
      have h4 := h9
      clear h1
      have hA4 := hA3.below h4 hA3.lt
      have hl4 := hl3.trans (h4.mono hl3.size)
      clear q0 q1 q2 q3 q4 q5 q6
      clear hA3 hl3 h4
      obtain ⟨q0, q1, q2, q3, q4, q5, q6⟩ := hA4.six
      have h2 := (any_TA w).has ha any_nice n1 hl4
      rw [e2] at h2
      clear e2
      go_wp2_with fail
      refine (h2).mono ?_
      rintro e w5 ⟨rfl, h9⟩
      have h5 := h9
      clear h2
      have hA5 := hA4.below h5 hA4.lt
      have hl5 := hl4.trans (h5.mono hl4.size)
      clear q0 q1 q2 q3 q4 q5 q6
      clear hA4 hl4 h5
      go_wp2_with fail
      refine (works_any _).mono ?_
      rintro e wz ⟨rfl, hz⟩
      go_wp2
      go_ret
      exact ⟨rfl, hl5.trans (hz.mono hl5.size)⟩

end Go.Proofs.YtpmfjbmfjfhghaaGreat
