/-
  'laws.FnOrContains': THE WALK (laid by gen_or.py).
-/
import Derived.Test.YtpmfjbmfjfhghaaGreatOrAll
namespace Go.Proofs.YtpmfjbmfjfhghaaGreat
open Go.RowKit

set_option maxHeartbeats 4000000 in
set_option maxRecDepth 100000 in
theorem fnOrContains_walk (a b : Tr) (ca cb : List Value) (w : World) (ha : TA w a ca) (hb : TA w b cb) (bs : a.bulk + b.bulk + 1 ≤ 1048576) :
    Calls Tryz.prog 15 #[.agg ca.toArray, .agg cb.toArray] w (TruePost w) := by
  obtain ⟨na, ta, A1, a1, A2, a2, A3, a3, rfl⟩ := ha.rep.shape
  obtain ⟨nb, tb, B1, b1, B2, b2, B3, b3, rfl⟩ := hb.rep.shape
  have hA0 : Blk ((w.alloc (.cells #[.int .i64 a.kind, .string na, .string ta, .slice A1 a.keys.length a1, .slice A2 a.kids.length a2, .slice A3 a.more.length a3] 25)).alloc (.cells #[.int .i64 b.kind, .string nb, .string tb, .slice B1 b.keys.length b1, .slice B2 b.kids.length b2, .slice B3 b.more.length b3] 25)) (w.heap.size) 25 #[.int .i64 a.kind, .string na, .string ta, .slice A1 a.keys.length a1, .slice A2 a.kids.length a2, .slice A3 a.more.length a3] := by simpa using ((Blk.new (w) _ _)).alloc _
  have hB0 : Blk ((w.alloc (.cells #[.int .i64 a.kind, .string na, .string ta, .slice A1 a.keys.length a1, .slice A2 a.kids.length a2, .slice A3 a.more.length a3] 25)).alloc (.cells #[.int .i64 b.kind, .string nb, .string tb, .slice B1 b.keys.length b1, .slice B2 b.kids.length b2, .slice B3 b.more.length b3] 25)) (w.heap.size + 1) 25 #[.int .i64 b.kind, .string nb, .string tb, .slice B1 b.keys.length b1, .slice B2 b.kids.length b2, .slice B3 b.more.length b3] := by simpa using (Blk.new (w.alloc _) _ _)
  have hl0 : Below w.heap.size w ((w.alloc (.cells #[.int .i64 a.kind, .string na, .string ta, .slice A1 a.keys.length a1, .slice A2 a.kids.length a2, .slice A3 a.more.length a3] 25)).alloc (.cells #[.int .i64 b.kind, .string nb, .string tb, .slice B1 b.keys.length b1, .slice B2 b.kids.length b2, .slice B3 b.more.length b3] 25)) := ((Below.refl w.heap.size w).alloc (Nat.le_refl _) _).alloc (by simp) _
  go_enter Tryz.func15, Tryz.ntmps15
  go_wp2_with fail
  refine (ha.fits hl0).mono ?_
  rintro e w1 ⟨rfl, h1⟩
  have hA1 := hA0.below h1 hA0.lt
  have hB1 := hB0.below h1 hB0.lt
  have hl1 := hl0.trans (h1.mono hl0.size)
  clear hA0 hB0 hl0 h1
  obtain ⟨q0, q1, q2, q3, q4, q5, q6⟩ := hB1.six
  go_wp2_with fail
  refine (hb.fits hl1).mono ?_
  rintro e w2 ⟨rfl, h2⟩
  have hA2 := hA1.below h2 hA1.lt
  have hB2 := hB1.below h2 hB1.lt
  have hl2 := hl1.trans (h2.mono hl1.size)
  clear q0 q1 q2 q3 q4 q5 q6
  clear hA1 hB1 hl1 h2
  obtain ⟨q0, q1, q2, q3, q4, q5, q6⟩ := hA2.six
  obtain ⟨q7, q8, q9, q10, q11, q12, q13⟩ := hB2.six
  have hp := ha.proper2 hb (by omega) (c := 2) (hl2.alloc hl2.size (.cells #[.int .i64 a.kind, .string na, .string ta, .slice A1 a.keys.length a1, .slice A2 a.kids.length a2, .slice A3 a.more.length a3, .int .i64 b.kind, .string nb, .string tb, .slice B1 b.keys.length b1, .slice B2 b.kids.length b2, .slice B3 b.more.length b3] 25)) (new_row [.int .i64 a.kind, .string na, .string ta, .slice A1 a.keys.length a1, .slice A2 a.kids.length a2, .slice A3 a.more.length a3, .int .i64 b.kind, .string nb, .string tb, .slice B1 b.keys.length b1, .slice B2 b.kids.length b2, .slice B3 b.more.length b3] _)
  have hA3 := hA2.alloc (.cells #[.int .i64 a.kind, .string na, .string ta, .slice A1 a.keys.length a1, .slice A2 a.kids.length a2, .slice A3 a.more.length a3, .int .i64 b.kind, .string nb, .string tb, .slice B1 b.keys.length b1, .slice B2 b.kids.length b2, .slice B3 b.more.length b3] 25)
  have hB3 := hB2.alloc (.cells #[.int .i64 a.kind, .string na, .string ta, .slice A1 a.keys.length a1, .slice A2 a.kids.length a2, .slice A3 a.more.length a3, .int .i64 b.kind, .string nb, .string tb, .slice B1 b.keys.length b1, .slice B2 b.kids.length b2, .slice B3 b.more.length b3] 25)
  have hl3 := hl2.alloc hl2.size  (.cells #[.int .i64 a.kind, .string na, .string ta, .slice A1 a.keys.length a1, .slice A2 a.kids.length a2, .slice A3 a.more.length a3, .int .i64 b.kind, .string nb, .string tb, .slice B1 b.keys.length b1, .slice B2 b.kids.length b2, .slice B3 b.more.length b3] 25)
  go_wp2_with fail
  refine (hp).mono ?_
  rintro e w4 ⟨bp, rfl, hbp, h4⟩
  have HBP := Lib.hid hbp
  clear hp hbp hA2 hB2 hl2
  have hA4 := hA3.below h4 hA3.lt
  have hB4 := hB3.below h4 hB3.lt
  have hl4 := hl3.trans (h4.mono hl3.size)
  clear q0 q1 q2 q3 q4 q5 q6 q7 q8 q9 q10 q11 q12 q13
  clear hA3 hB3 hl3 h4
  cases bp with
  | false =>
    go_wp2_with fail
    refine (works_any _).mono ?_
    rintro e wz ⟨rfl, hz⟩
    go_wp2
    go_ret
    exact ⟨rfl, hl4.trans (hz.mono hl4.size)⟩
  | true =>
    have f1 : Fine a := (HBP.out.1 rfl).1
    have f2 : Fine b := (HBP.out.1 rfl).2
    have n1 : Nice a := f1.nice ha.bulk
    have n2 : Nice b := f2.nice hb.bulk
    have on := or_nice n1 n2 bs
    clear HBP
    by_cases hka : a.kind = 8
    · have HKa := Lib.hid hka
      have hka' : (a.kind == 8) = true := by simpa using hka
      clear hka
      obtain ⟨q0, q1, q2, q3, q4, q5, q6⟩ := hA4.six
      obtain ⟨q7, q8, q9, q10, q11, q12, q13⟩ := hB4.six
      go_wp2_with fail
      refine (works_any _).mono ?_
      rintro e wz ⟨rfl, hz⟩
      go_wp2
      go_ret
      exact ⟨rfl, hl4.trans (hz.mono hl4.size)⟩
    have HKa := Lib.hid hka
    have hka' : (a.kind == 8) = false := by simpa using hka
    clear hka
    by_cases hkb : b.kind = 8
    · have HKb := Lib.hid hkb
      have hkb' : (b.kind == 8) = true := by simpa using hkb
      clear hkb
      obtain ⟨q0, q1, q2, q3, q4, q5, q6⟩ := hA4.six
      obtain ⟨q7, q8, q9, q10, q11, q12, q13⟩ := hB4.six
      go_wp2_with fail
      refine (works_any _).mono ?_
      rintro e wz ⟨rfl, hz⟩
      go_wp2
      go_ret
      exact ⟨rfl, hl4.trans (hz.mono hl4.size)⟩
    have HKb := Lib.hid hkb
    have hkb' : (b.kind == 8) = false := by simpa using hkb
    clear hkb
    have hc := orT_contains on.left on.right (by rw [norm_kind]; exact HKa.out) (by rw [norm_kind]; exact HKb.out)
    have c1 : containsB (norm (orT (norm a) (norm b))) (norm a) = true := (containsB_iff on.nice.kpt on.left).2 (by rw [on.kept]; exact hc.1)
    have c2 : containsB (norm (orT (norm a) (norm b))) (norm b) = true := (containsB_iff on.nice.kpt on.right).2 (by rw [on.kept]; exact hc.2)
    clear hc
    obtain ⟨q0, q1, q2, q3, q4, q5, q6⟩ := hA4.six
    obtain ⟨q7, q8, q9, q10, q11, q12, q13⟩ := hB4.six
    go_wp2_with fail
    refine (or_at ha hb f1 f2 on hl4).mono ?_
    rintro e w5 ⟨cu, rfl, hu, h5⟩
    obtain ⟨nu, tu, U1, u1, U2, u2, U3, u3, rfl⟩ := hu.rep.shape
    have hA5 := hA4.below h5 hA4.lt
    have hB5 := hB4.below h5 hB4.lt
    have hl5 := hl4.trans (h5.mono hl4.size)
    clear q0 q1 q2 q3 q4 q5 q6 q7 q8 q9 q10 q11 q12 q13
    clear hA4 hB4 hl4 h5
    obtain ⟨q0, q1, q2, q3, q4, q5, q6⟩ := hA5.six
    obtain ⟨q7, q8, q9, q10, q11, q12, q13⟩ := hB5.six
    have hU := Blk.new w5 25 #[.int .i64 (orT (norm a) (norm b)).kind, .string nu, .string tu, .slice U1 (orT (norm a) (norm b)).keys.length u1, .slice U2 (orT (norm a) (norm b)).kids.length u2, .slice U3 (orT (norm a) (norm b)).more.length u3]
    have bU : Below w5.heap.size w5 (w5.alloc (.cells #[.int .i64 (orT (norm a) (norm b)).kind, .string nu, .string tu, .slice U1 (orT (norm a) (norm b)).keys.length u1, .slice U2 (orT (norm a) (norm b)).kids.length u2, .slice U3 (orT (norm a) (norm b)).more.length u3] 25)) := (Below.refl _ _).alloc (Nat.le_refl _) _
    have hua := ha.up hl5
    have hub := hb.up hl5
    have hA6 := hA5.alloc (.cells #[.int .i64 (orT (norm a) (norm b)).kind, .string nu, .string tu, .slice U1 (orT (norm a) (norm b)).keys.length u1, .slice U2 (orT (norm a) (norm b)).kids.length u2, .slice U3 (orT (norm a) (norm b)).more.length u3] 25)
    have hB6 := hB5.alloc (.cells #[.int .i64 (orT (norm a) (norm b)).kind, .string nu, .string tu, .slice U1 (orT (norm a) (norm b)).keys.length u1, .slice U2 (orT (norm a) (norm b)).kids.length u2, .slice U3 (orT (norm a) (norm b)).more.length u3] 25)
    have hl6 := hl5.alloc hl5.size  (.cells #[.int .i64 (orT (norm a) (norm b)).kind, .string nu, .string tu, .slice U1 (orT (norm a) (norm b)).keys.length u1, .slice U2 (orT (norm a) (norm b)).kids.length u2, .slice U3 (orT (norm a) (norm b)).more.length u3] 25)
    go_wp2_with fail
    refine (to_bool (hu.has hua on.nice n1 bU) c1).mono ?_
    rintro e w7 ⟨rfl, h7⟩
    have hU' := hU.below h7 hU.lt
    have bU' := bU.trans (h7.mono bU.size)
    clear hA5 hB5 hl5
    have hA7 := hA6.below h7 hA6.lt
    have hB7 := hB6.below h7 hB6.lt
    have hl7 := hl6.trans (h7.mono hl6.size)
    clear q0 q1 q2 q3 q4 q5 q6 q7 q8 q9 q10 q11 q12 q13
    clear hA6 hB6 hl6 h7
    obtain ⟨q0, q1, q2, q3, q4, q5, q6⟩ := hA7.six
    obtain ⟨q7, q8, q9, q10, q11, q12, q13⟩ := hB7.six
    obtain ⟨g0, g1, g2, g3, g4, g5, g6⟩ := hU'.six
    go_wp2_with fail
    refine (to_bool (hu.has hub on.nice n2 bU') c2).mono ?_
    rintro e w8 ⟨rfl, h8⟩
    clear g0 g1 g2 g3 g4 g5 g6
    have hA8 := hA7.below h8 hA7.lt
    have hB8 := hB7.below h8 hB7.lt
    have hl8 := hl7.trans (h8.mono hl7.size)
    clear q0 q1 q2 q3 q4 q5 q6 q7 q8 q9 q10 q11 q12 q13
    clear hA7 hB7 hl7 h8
    go_wp2_with fail
    refine (works_any _).mono ?_
    rintro e wz ⟨rfl, hz⟩
    go_wp2
    go_ret
    exact ⟨rfl, hl8.trans (hz.mono hl8.size)⟩

end Go.Proofs.YtpmfjbmfjfhghaaGreat
