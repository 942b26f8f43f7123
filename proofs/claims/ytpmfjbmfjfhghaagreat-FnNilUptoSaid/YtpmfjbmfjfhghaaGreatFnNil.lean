/-
  'laws.FnNil': THE WALK (laid by gen_fnnil.py).
-/
import Derived.Test.YtpmfjbmfjfhghaaGreatLaw
import Derived.Test.YtpmfjbmfjfhghaaGreatNil3
namespace Go.Proofs.YtpmfjbmfjfhghaaGreat
open Go.RowKit

set_option maxHeartbeats 4000000 in
set_option maxRecDepth 100000 in
theorem fnNil_walk (a : Tr) (ca : List Value) (w : World) (ha : TA w a ca) :
    Calls Tryz.prog 5 #[.agg ca.toArray] w (TruePost w) := by
  obtain ⟨na, ta, A1, a1, A2, a2, A3, a3, rfl⟩ := ha.rep.shape
  have hA0 : Blk (w.alloc (.cells #[.int .i64 a.kind, .string na, .string ta, .slice A1 a.keys.length a1, .slice A2 a.kids.length a2, .slice A3 a.more.length a3] 25)) (w.heap.size) 25 #[.int .i64 a.kind, .string na, .string ta, .slice A1 a.keys.length a1, .slice A2 a.kids.length a2, .slice A3 a.more.length a3] := by simpa using (Blk.new (w) _ _)
  have hl0 : Below w.heap.size w (w.alloc (.cells #[.int .i64 a.kind, .string na, .string ta, .slice A1 a.keys.length a1, .slice A2 a.kids.length a2, .slice A3 a.more.length a3] 25)) := (Below.refl w.heap.size w).alloc (Nat.le_refl _) _
  go_enter Tryz.func5, Tryz.ntmps5
  go_wp2_with fail
  refine (ha.fits hl0).mono ?_
  rintro e w1 ⟨rfl, h1⟩
  have hA1 := hA0.below h1 hA0.lt
  have hl1 := hl0.trans (h1.mono hl0.size)
  clear hA0 hl0 h1
  go_wp2_with fail
  refine (implNil_none _).mono ?_
  rintro e w2 ⟨rfl, h2⟩
  have hA2 := hA1.below h2 hA1.lt
  have hl2 := hl1.trans (h2.mono hl1.size)
  clear hA1 hl1 h2
  obtain ⟨q0, q1, q2, q3, q4, q5, q6⟩ := hA2.six
  have hp := ha.proper1 (c := 1) (hl2.alloc hl2.size (.cells #[.int .i64 a.kind, .string na, .string ta, .slice A1 a.keys.length a1, .slice A2 a.kids.length a2, .slice A3 a.more.length a3] 25)) (new_row [.int .i64 a.kind, .string na, .string ta, .slice A1 a.keys.length a1, .slice A2 a.kids.length a2, .slice A3 a.more.length a3] _)
  have hA3 := hA2.alloc (.cells #[.int .i64 a.kind, .string na, .string ta, .slice A1 a.keys.length a1, .slice A2 a.kids.length a2, .slice A3 a.more.length a3] 25)
  have hl3 := hl2.alloc hl2.size  (.cells #[.int .i64 a.kind, .string na, .string ta, .slice A1 a.keys.length a1, .slice A2 a.kids.length a2, .slice A3 a.more.length a3] 25)
  go_wp2_with fail
  refine (hp).mono ?_
  rintro e w4 ⟨bp, rfl, hbp, h4⟩
  have HBP := Lib.hid hbp
  clear hp hbp hA2 hl2
  have hA4 := hA3.below h4 hA3.lt
  have hl4 := hl3.trans (h4.mono hl3.size)
  clear q0 q1 q2 q3 q4 q5 q6
  clear hA3 hl3 h4
  cases bp with
  | false =>
    go_wp2_with fail
    refine (works_any _).mono ?_
    rintro e wz ⟨rfl, hz⟩
    go_wp2
    go_ret
    exact ⟨rfl, hl4.trans (hz.mono hl4.size)⟩
  | true =>
    have n1 : Nice a := (HBP.out.1 rfl).nice ha.bulk
    clear HBP
    obtain ⟨q0, q1, q2, q3, q4, q5, q6⟩ := hA4.six
    have hn := implNil_any a _ _ _ (ha.up hl4).rep (fun _ h => h) n1
    go_wp2_with fail
    refine (hn).mono ?_
    rintro e w5 ⟨rfl, h5⟩
    clear hn
    have hA5 := hA4.below h5 hA4.lt
    have hl5 := hl4.trans (h5.mono hl4.size)
    clear q0 q1 q2 q3 q4 q5 q6
    clear hA4 hl4 h5
    go_wp2_with fail
    refine (works_any _).mono ?_
    rintro e wz ⟨rfl, hz⟩
    go_wp2
    go_ret
    exact ⟨rfl, hl5.trans (hz.mono hl5.size)⟩

end Go.Proofs.YtpmfjbmfjfhghaaGreat
