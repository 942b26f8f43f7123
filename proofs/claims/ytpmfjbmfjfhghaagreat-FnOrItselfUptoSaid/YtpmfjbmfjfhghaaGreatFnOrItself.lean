/-
  'laws.FnOrItself': THE WALK (laid by gen_or.py).
-/
import Derived.Test.YtpmfjbmfjfhghaaGreatOrAll
namespace Go.Proofs.YtpmfjbmfjfhghaaGreat
open Go.RowKit

set_option maxHeartbeats 4000000 in
set_option maxRecDepth 100000 in
theorem fnOrItself_walk (a : Tr) (ca : List Value) (w : World) (ha : TA w a ca) :
    Calls Tryz.prog 14 #[.agg ca.toArray] w (TruePost w) := by
  obtain ⟨na, ta, A1, a1, A2, a2, A3, a3, rfl⟩ := ha.rep.shape
  have hA0 : Blk (w.alloc (.cells #[.int .i64 a.kind, .string na, .string ta, .slice A1 a.keys.length a1, .slice A2 a.kids.length a2, .slice A3 a.more.length a3] 25)) (w.heap.size) 25 #[.int .i64 a.kind, .string na, .string ta, .slice A1 a.keys.length a1, .slice A2 a.kids.length a2, .slice A3 a.more.length a3] := by simpa using (Blk.new (w) _ _)
  have hl0 : Below w.heap.size w (w.alloc (.cells #[.int .i64 a.kind, .string na, .string ta, .slice A1 a.keys.length a1, .slice A2 a.kids.length a2, .slice A3 a.more.length a3] 25)) := (Below.refl w.heap.size w).alloc (Nat.le_refl _) _
  go_enter Tryz.func14, Tryz.ntmps14
  go_wp2_with fail
  refine (ha.fits hl0).mono ?_
  rintro e w1 ⟨rfl, h1⟩
  have hA1 := hA0.below h1 hA0.lt
  have hl1 := hl0.trans (h1.mono hl0.size)
  clear hA0 hl0 h1
  obtain ⟨q0, q1, q2, q3, q4, q5, q6⟩ := hA1.six
  have hp := ha.proper1 (c := 1) (hl1.alloc hl1.size (.cells #[.int .i64 a.kind, .string na, .string ta, .slice A1 a.keys.length a1, .slice A2 a.kids.length a2, .slice A3 a.more.length a3] 25)) (new_row [.int .i64 a.kind, .string na, .string ta, .slice A1 a.keys.length a1, .slice A2 a.kids.length a2, .slice A3 a.more.length a3] _)
  have hA2 := hA1.alloc (.cells #[.int .i64 a.kind, .string na, .string ta, .slice A1 a.keys.length a1, .slice A2 a.kids.length a2, .slice A3 a.more.length a3] 25)
  have hl2 := hl1.alloc hl1.size  (.cells #[.int .i64 a.kind, .string na, .string ta, .slice A1 a.keys.length a1, .slice A2 a.kids.length a2, .slice A3 a.more.length a3] 25)
  go_wp2_with fail
  refine (hp).mono ?_
  rintro e w3 ⟨bp, rfl, hbp, h3⟩
  have HBP := Lib.hid hbp
  clear hp hbp hA1 hl1
  have hA3 := hA2.below h3 hA2.lt
  have hl3 := hl2.trans (h3.mono hl2.size)
  clear q0 q1 q2 q3 q4 q5 q6
  clear hA2 hl2 h3
  cases bp with
  | false =>
    go_wp2_with fail
    refine (works_any _).mono ?_
    rintro e wz ⟨rfl, hz⟩
    go_wp2
    go_ret
    exact ⟨rfl, hl3.trans (hz.mono hl3.size)⟩
  | true =>
    have f1 : Fine a := HBP.out.1 rfl
    have n1 : Nice a := f1.nice ha.bulk
    have on := or_nice_self n1
    have hz : cmp (norm (orT (norm a) (norm a))) (norm a) = 0 := by rw [on.kept, orT_self on.left]; exact cmp_self on.left.good
    clear HBP
    have hA4 := hA3.drew
    have hl4 := hl3.drew
    go_wp2_with fail
    refine wp_region_held_drew (S := (fun W => Blk W (w.heap.size) 25 #[.int .i64 a.kind, .string na, .string ta, .slice A1 a.keys.length a1, .slice A2 a.kids.length a2, .slice A3 a.more.length a3])) (by kernel_rfl) (hA4) (fun hHeld => ?_)
    refine take_yes (i := 0) (v := ?_) rfl (by kernel_rfl) (by kernel_rfl) (by kernel_rfl) (fun _ _ _ h => h) (by rfl) ?_ hHeld ?_
    rotate_left
    · (intro w hSw; have hS0 := hSw; obtain ⟨z0, z1, z2, z3, z4, z5, z6⟩ := Blk.six (by exact hS0); go_simp; (try with_reducible rfl))
    (try simp only [Act.put, List.setIfInBounds_toArray, List.set_cons_zero, List.set_cons_succ])
    refine take_yes (i := 1) (v := ?_) rfl (by kernel_rfl) (by kernel_rfl) (by kernel_rfl) (fun _ _ _ h => h) (by rfl) ?_ hHeld ?_
    rotate_left
    · (intro w hSw; have hS0 := hSw; obtain ⟨z0, z1, z2, z3, z4, z5, z6⟩ := Blk.six (by exact hS0); go_simp; (try with_reducible rfl))
    (try simp only [Act.put, List.setIfInBounds_toArray, List.set_cons_zero, List.set_cons_succ])
    refine take_yes (i := 3) (v := ?_) rfl (by kernel_rfl) (by kernel_rfl) (by kernel_rfl) (fun _ _ _ h => h) (by rfl) ?_ hHeld ?_
    rotate_left
    · (intro w hSw; have hS0 := hSw; obtain ⟨z0, z1, z2, z3, z4, z5, z6⟩ := Blk.six (by exact hS0); go_simp; (try with_reducible rfl))
    (try simp only [Act.put, List.setIfInBounds_toArray, List.set_cons_zero, List.set_cons_succ])
    refine take_step (i := 2) rfl (by kernel_rfl) (fun K hK => ?_)
    go_simp
    (go_at_call 36; refine (or_at ha ha f1 f1 on hl4).mono ?_; rintro e w5 ⟨cu, rfl, hu, h5⟩; have hA5 := hA4.below h5 hA4.lt; have hl5 := hl4.trans (h5.mono hl4.size); obtain ⟨nu, tu, U1, u1, U2, u2, U3, u3, rfl⟩ := hu.rep.shape)
    (try go_wp2_with fail)
    refine hK.out _ _ (hA5) (fun hHeld => ?_)
    clear hK K
    (try simp only [Act.put, List.setIfInBounds_toArray, List.set_cons_zero, List.set_cons_succ])
    refine take_step (i := 4) rfl (by kernel_rfl) (fun K hK => ?_)
    go_simp
    (go_at_call 30; refine (to_int (hu.cmp (ha.up hl5) on.nice n1 (Below.refl _ _)) hz).mono ?_; rintro e w6 ⟨rfl, h6⟩; have hA6 := hA5.below h6 hA5.lt; have hl6 := hl5.trans (h6.mono hl5.size))
    (try go_wp2_with fail)
    refine hK.out _ _ (hA6) (fun hHeld => ?_)
    clear hK K
    (try simp only [Act.put, List.setIfInBounds_toArray, List.set_cons_zero, List.set_cons_succ])
    refine take_yes (i := 5) (v := ?_) rfl (by kernel_rfl) (by kernel_rfl) (by kernel_rfl) (fun _ _ _ h => h) (by rfl) ?_ hHeld ?_
    rotate_left
    · (intro w hSw; have hS0 := hSw; obtain ⟨z0, z1, z2, z3, z4, z5, z6⟩ := Blk.six (by exact hS0); go_simp; (try with_reducible rfl))
    (try simp only [Act.put, List.setIfInBounds_toArray, List.set_cons_zero, List.set_cons_succ])
    refine take_yes (i := 6) (v := ?_) rfl (by kernel_rfl) (by kernel_rfl) (by kernel_rfl) (fun _ _ _ h => h) (by rfl) ?_ hHeld ?_
    rotate_left
    · (intro w hSw; have hS0 := hSw; obtain ⟨z0, z1, z2, z3, z4, z5, z6⟩ := Blk.six (by exact hS0); go_simp; (try with_reducible rfl))
    (try simp only [Act.put, List.setIfInBounds_toArray, List.set_cons_zero, List.set_cons_succ])
    refine take_step (i := 7) rfl (by kernel_rfl) (fun K hK => ?_)
    go_simp
    (go_at_call 23; refine (works_any _).mono ?_; rintro e w7 ⟨rfl, h7⟩; have hA7 := hA6.below h7 hA6.lt; have hl7 := hl6.trans (h7.mono hl6.size))
    (try go_wp2_with fail)
    refine hK.out _ _ (hA7) (fun hHeld => ?_)
    clear hK K
    (try simp only [Act.put, List.setIfInBounds_toArray, List.set_cons_zero, List.set_cons_succ])
    refine take_yes (i := 8) (v := ?_) rfl (by kernel_rfl) (by kernel_rfl) (by kernel_rfl) (fun _ _ _ h => h) (by rfl) ?_ hHeld ?_
    rotate_left
    · (intro w hSw; have hS0 := hSw; obtain ⟨z0, z1, z2, z3, z4, z5, z6⟩ := Blk.six (by exact hS0); go_simp; (try with_reducible rfl))
    (try simp only [Act.put, List.setIfInBounds_toArray, List.set_cons_zero, List.set_cons_succ])
    refine take_yes (i := 9) (v := ?_) rfl (by kernel_rfl) (by kernel_rfl) (by kernel_rfl) (fun _ _ _ h => h) (by rfl) ?_ hHeld ?_
    rotate_left
    · (intro w hSw; have hS0 := hSw; obtain ⟨z0, z1, z2, z3, z4, z5, z6⟩ := Blk.six (by exact hS0); go_simp; (try with_reducible rfl))
    (try simp only [Act.put, List.setIfInBounds_toArray, List.set_cons_zero, List.set_cons_succ])
    refine wpAnyH_done (by kernel_rfl) ?_ _
    go_wp2
    go_ret
    exact ⟨rfl, hl7⟩

end Go.Proofs.YtpmfjbmfjfhghaaGreat
