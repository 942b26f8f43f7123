/-
  'laws.FnOrSuperset': THE WALK (laid by gen_or.py).
-/
import Derived.Test.YtpmfjbmfjfhghaaGreatOrAll
namespace Go.Proofs.YtpmfjbmfjfhghaaGreat
open Go.RowKit

set_option maxHeartbeats 4000000 in
set_option maxRecDepth 100000 in
theorem fnOrSuperset_walk (a b : Tr) (ca cb : List Value) (w : World) (ha : TA w a ca) (hb : TA w b cb) (bs : a.bulk + b.bulk + 1 ≤ 1048576) :
    Calls Tryz.prog 16 #[.agg ca.toArray, .agg cb.toArray] w (TruePost w) := by
  obtain ⟨na, ta, A1, a1, A2, a2, A3, a3, rfl⟩ := ha.rep.shape
  obtain ⟨nb, tb, B1, b1, B2, b2, B3, b3, rfl⟩ := hb.rep.shape
  have hA0 : Blk ((w.alloc (.cells #[.int .i64 a.kind, .string na, .string ta, .slice A1 a.keys.length a1, .slice A2 a.kids.length a2, .slice A3 a.more.length a3] 25)).alloc (.cells #[.int .i64 b.kind, .string nb, .string tb, .slice B1 b.keys.length b1, .slice B2 b.kids.length b2, .slice B3 b.more.length b3] 25)) (w.heap.size) 25 #[.int .i64 a.kind, .string na, .string ta, .slice A1 a.keys.length a1, .slice A2 a.kids.length a2, .slice A3 a.more.length a3] := by simpa using ((Blk.new (w) _ _)).alloc _
  have hB0 : Blk ((w.alloc (.cells #[.int .i64 a.kind, .string na, .string ta, .slice A1 a.keys.length a1, .slice A2 a.kids.length a2, .slice A3 a.more.length a3] 25)).alloc (.cells #[.int .i64 b.kind, .string nb, .string tb, .slice B1 b.keys.length b1, .slice B2 b.kids.length b2, .slice B3 b.more.length b3] 25)) (w.heap.size + 1) 25 #[.int .i64 b.kind, .string nb, .string tb, .slice B1 b.keys.length b1, .slice B2 b.kids.length b2, .slice B3 b.more.length b3] := by simpa using (Blk.new (w.alloc _) _ _)
  have hl0 : Below w.heap.size w ((w.alloc (.cells #[.int .i64 a.kind, .string na, .string ta, .slice A1 a.keys.length a1, .slice A2 a.kids.length a2, .slice A3 a.more.length a3] 25)).alloc (.cells #[.int .i64 b.kind, .string nb, .string tb, .slice B1 b.keys.length b1, .slice B2 b.kids.length b2, .slice B3 b.more.length b3] 25)) := ((Below.refl w.heap.size w).alloc (Nat.le_refl _) _).alloc (by simp) _
  go_enter Tryz.func16, Tryz.ntmps16
  go_wp2_with fail
  refine (ha.fits hl0).mono ?_
  rintro e w1 ⟨rfl, h1⟩
  have hA1 := hA0.below h1 hA0.lt
  have hB1 := hB0.below h1 hB0.lt
  have hl1 := hl0.trans (h1.mono hl0.size)
  clear hA0 hB0 hl0 h1
  obtain ⟨q0, q1, q2, q3, q4, q5, q6⟩ := hB1.six
  go_wp2_with fail
  refine (hb.fits hl1).mono ?_
  rintro e w2 ⟨rfl, h2⟩
  have hA2 := hA1.below h2 hA1.lt
  have hB2 := hB1.below h2 hB1.lt
  have hl2 := hl1.trans (h2.mono hl1.size)
  clear q0 q1 q2 q3 q4 q5 q6
  clear hA1 hB1 hl1 h2
  obtain ⟨q0, q1, q2, q3, q4, q5, q6⟩ := hA2.six
  obtain ⟨q7, q8, q9, q10, q11, q12, q13⟩ := hB2.six
  have hp := ha.proper2 hb (by omega) (c := 2) (hl2.alloc hl2.size (.cells #[.int .i64 a.kind, .string na, .string ta, .slice A1 a.keys.length a1, .slice A2 a.kids.length a2, .slice A3 a.more.length a3, .int .i64 b.kind, .string nb, .string tb, .slice B1 b.keys.length b1, .slice B2 b.kids.length b2, .slice B3 b.more.length b3] 25)) (new_row [.int .i64 a.kind, .string na, .string ta, .slice A1 a.keys.length a1, .slice A2 a.kids.length a2, .slice A3 a.more.length a3, .int .i64 b.kind, .string nb, .string tb, .slice B1 b.keys.length b1, .slice B2 b.kids.length b2, .slice B3 b.more.length b3] _)
  have hA3 := hA2.alloc (.cells #[.int .i64 a.kind, .string na, .string ta, .slice A1 a.keys.length a1, .slice A2 a.kids.length a2, .slice A3 a.more.length a3, .int .i64 b.kind, .string nb, .string tb, .slice B1 b.keys.length b1, .slice B2 b.kids.length b2, .slice B3 b.more.length b3] 25)
  have hB3 := hB2.alloc (.cells #[.int .i64 a.kind, .string na, .string ta, .slice A1 a.keys.length a1, .slice A2 a.kids.length a2, .slice A3 a.more.length a3, .int .i64 b.kind, .string nb, .string tb, .slice B1 b.keys.length b1, .slice B2 b.kids.length b2, .slice B3 b.more.length b3] 25)
  have hl3 := hl2.alloc hl2.size  (.cells #[.int .i64 a.kind, .string na, .string ta, .slice A1 a.keys.length a1, .slice A2 a.kids.length a2, .slice A3 a.more.length a3, .int .i64 b.kind, .string nb, .string tb, .slice B1 b.keys.length b1, .slice B2 b.kids.length b2, .slice B3 b.more.length b3] 25)
  go_wp2_with fail
  refine (hp).mono ?_
  rintro e w4 ⟨bp, rfl, hbp, h4⟩
  have HBP := Lib.hid hbp
  clear hp hbp hA2 hB2 hl2
  have hA4 := hA3.below h4 hA3.lt
  have hB4 := hB3.below h4 hB3.lt
  have hl4 := hl3.trans (h4.mono hl3.size)
  clear q0 q1 q2 q3 q4 q5 q6 q7 q8 q9 q10 q11 q12 q13
  clear hA3 hB3 hl3 h4
  cases bp with
  | false =>
    go_wp2_with fail
    refine (works_any _).mono ?_
    rintro e wz ⟨rfl, hz⟩
    go_wp2
    go_ret
    exact ⟨rfl, hl4.trans (hz.mono hl4.size)⟩
  | true =>
    have f1 : Fine a := (HBP.out.1 rfl).1
    have f2 : Fine b := (HBP.out.1 rfl).2
    have n1 : Nice a := f1.nice ha.bulk
    have n2 : Nice b := f2.nice hb.bulk
    have on := or_nice n1 n2 bs
    clear HBP
    obtain ⟨q0, q1, q2, q3, q4, q5, q6⟩ := hA4.six
    obtain ⟨q7, q8, q9, q10, q11, q12, q13⟩ := hB4.six
    obtain ⟨Xa, eXa⟩ : ∃ X, X = containsB (norm a) (norm b) := ⟨_, rfl⟩
    have hXa := ha.has hb n1 n2 hl4
    rw [← eXa] at hXa
    have EXa := Lib.hid eXa
    clear eXa
    go_wp2_with fail
    refine (hXa).mono ?_
    rintro e w5 ⟨rfl, h5⟩
    clear hXa
    have hA5 := hA4.below h5 hA4.lt
    have hB5 := hB4.below h5 hB4.lt
    have hl5 := hl4.trans (h5.mono hl4.size)
    clear q0 q1 q2 q3 q4 q5 q6 q7 q8 q9 q10 q11 q12 q13
    clear hA4 hB4 hl4 h5
    cases Xa with
    | false =>
      go_wp2_with fail
      refine (works_any _).mono ?_
      rintro e wz ⟨rfl, hz⟩
      go_wp2
      go_ret
      exact ⟨rfl, hl5.trans (hz.mono hl5.size)⟩
    | true =>
      obtain ⟨Xb, eXb⟩ : ∃ X, X = containsB (norm b) (norm a) := ⟨_, rfl⟩
      have hXb := hb.has ha n2 n1 hl5
      rw [← eXb] at hXb
      have EXb := Lib.hid eXb
      clear eXb
      obtain ⟨q0, q1, q2, q3, q4, q5, q6⟩ := hA5.six
      obtain ⟨q7, q8, q9, q10, q11, q12, q13⟩ := hB5.six
      go_wp2_with fail
      refine (hXb).mono ?_
      rintro e w6 ⟨rfl, h6⟩
      clear hXb
      have hA6 := hA5.below h6 hA5.lt
      have hB6 := hB5.below h6 hB5.lt
      have hl6 := hl5.trans (h6.mono hl5.size)
      clear q0 q1 q2 q3 q4 q5 q6 q7 q8 q9 q10 q11 q12 q13
      clear hA5 hB5 hl5 h6
      cases Xb with
      | true =>
        go_wp2_with fail
        refine (works_any _).mono ?_
        rintro e wz ⟨rfl, hz⟩
        go_wp2
        go_ret
        exact ⟨rfl, hl6.trans (hz.mono hl6.size)⟩
      | false =>
        have hs := orT_superset on.left on.right ((containsB_iff on.left on.right).1 EXa.out.symm) (fun h => by have := (containsB_iff on.right on.left).2 h; rw [← EXb.out] at this; cases this)
        have on' := or_nice n2 n1 (by omega)
        have z1 : cmp (norm (orT (norm a) (norm b))) (norm a) = 0 := by rw [on.kept, hs.1]; exact cmp_self on.left.good
        have z2 : cmp (norm (orT (norm b) (norm a))) (norm a) = 0 := by rw [on'.kept, hs.2]; exact cmp_self on.left.good
        clear hs EXa EXb
        have hA7 := hA6.drew
        have hB7 := hB6.drew
        have hl7 := hl6.drew
        go_wp2_with fail
        refine wp_region_held_drew (S := (fun W => Blk W (w.heap.size) 25 #[.int .i64 a.kind, .string na, .string ta, .slice A1 a.keys.length a1, .slice A2 a.kids.length a2, .slice A3 a.more.length a3] ∧ Blk W (w.heap.size + 1) 25 #[.int .i64 b.kind, .string nb, .string tb, .slice B1 b.keys.length b1, .slice B2 b.kids.length b2, .slice B3 b.more.length b3])) (by kernel_rfl) (⟨hA7, hB7⟩) (fun hHeld => ?_)
        refine take_yes (i := 0) (v := ?_) rfl (by kernel_rfl) (by kernel_rfl) (by kernel_rfl) (fun _ _ _ h => h) (by rfl) ?_ hHeld ?_
        rotate_left
        · (intro w hSw; obtain ⟨hS0, hS1⟩ := hSw; obtain ⟨z0, z1, z2, z3, z4, z5, z6⟩ := Blk.six (by exact hS0); obtain ⟨z7, z8, z9, z10, z11, z12, z13⟩ := Blk.six (by exact hS1); go_simp; (try with_reducible rfl))
        (try simp only [Act.put, List.setIfInBounds_toArray, List.set_cons_zero, List.set_cons_succ])
        refine take_yes (i := 1) (v := ?_) rfl (by kernel_rfl) (by kernel_rfl) (by kernel_rfl) (fun _ _ _ h => h) (by rfl) ?_ hHeld ?_
        rotate_left
        · (intro w hSw; obtain ⟨hS0, hS1⟩ := hSw; obtain ⟨z0, z1, z2, z3, z4, z5, z6⟩ := Blk.six (by exact hS0); obtain ⟨z7, z8, z9, z10, z11, z12, z13⟩ := Blk.six (by exact hS1); go_simp; (try with_reducible rfl))
        (try simp only [Act.put, List.setIfInBounds_toArray, List.set_cons_zero, List.set_cons_succ])
        refine take_yes (i := 3) (v := ?_) rfl (by kernel_rfl) (by kernel_rfl) (by kernel_rfl) (fun _ _ _ h => h) (by rfl) ?_ hHeld ?_
        rotate_left
        · (intro w hSw; obtain ⟨hS0, hS1⟩ := hSw; obtain ⟨z0, z1, z2, z3, z4, z5, z6⟩ := Blk.six (by exact hS0); obtain ⟨z7, z8, z9, z10, z11, z12, z13⟩ := Blk.six (by exact hS1); go_simp; (try with_reducible rfl))
        (try simp only [Act.put, List.setIfInBounds_toArray, List.set_cons_zero, List.set_cons_succ])
        refine take_step (i := 2) rfl (by kernel_rfl) (fun K hK => ?_)
        go_simp
        (go_at_call 36; refine (or_at ha hb f1 f2 on hl7).mono ?_; rintro e w8 ⟨cu, rfl, hu, h8⟩; have hA8 := hA7.below h8 hA7.lt; have hB8 := hB7.below h8 hB7.lt; have hl8 := hl7.trans (h8.mono hl7.size); obtain ⟨nu, tu, U1, u1, U2, u2, U3, u3, rfl⟩ := hu.rep.shape)
        (try go_wp2_with fail)
        refine hK.out _ _ (⟨hA8, hB8⟩) (fun hHeld => ?_)
        clear hK K
        (try simp only [Act.put, List.setIfInBounds_toArray, List.set_cons_zero, List.set_cons_succ])
        refine take_step (i := 4) rfl (by kernel_rfl) (fun K hK => ?_)
        go_simp
        (go_at_call 30; refine (to_int (hu.cmp (ha.up hl8) on.nice n1 (Below.refl _ _)) z1).mono ?_; rintro e w9 ⟨rfl, h9⟩; have hA9 := hA8.below h9 hA8.lt; have hB9 := hB8.below h9 hB8.lt; have hl9 := hl8.trans (h9.mono hl8.size))
        (try go_wp2_with fail)
        refine hK.out _ _ (⟨hA9, hB9⟩) (fun hHeld => ?_)
        clear hK K
        (try simp only [Act.put, List.setIfInBounds_toArray, List.set_cons_zero, List.set_cons_succ])
        refine take_yes (i := 5) (v := ?_) rfl (by kernel_rfl) (by kernel_rfl) (by kernel_rfl) (fun _ _ _ h => h) (by rfl) ?_ hHeld ?_
        rotate_left
        · (intro w hSw; obtain ⟨hS0, hS1⟩ := hSw; obtain ⟨z0, z1, z2, z3, z4, z5, z6⟩ := Blk.six (by exact hS0); obtain ⟨z7, z8, z9, z10, z11, z12, z13⟩ := Blk.six (by exact hS1); go_simp; (try with_reducible rfl))
        (try simp only [Act.put, List.setIfInBounds_toArray, List.set_cons_zero, List.set_cons_succ])
        refine take_yes (i := 6) (v := ?_) rfl (by kernel_rfl) (by kernel_rfl) (by kernel_rfl) (fun _ _ _ h => h) (by rfl) ?_ hHeld ?_
        rotate_left
        · (intro w hSw; obtain ⟨hS0, hS1⟩ := hSw; obtain ⟨z0, z1, z2, z3, z4, z5, z6⟩ := Blk.six (by exact hS0); obtain ⟨z7, z8, z9, z10, z11, z12, z13⟩ := Blk.six (by exact hS1); go_simp; (try with_reducible rfl))
        (try simp only [Act.put, List.setIfInBounds_toArray, List.set_cons_zero, List.set_cons_succ])
        refine take_yes (i := 7) (v := ?_) rfl (by kernel_rfl) (by kernel_rfl) (by kernel_rfl) (fun _ _ _ h => h) (by rfl) ?_ hHeld ?_
        rotate_left
        · (intro w hSw; obtain ⟨hS0, hS1⟩ := hSw; obtain ⟨z0, z1, z2, z3, z4, z5, z6⟩ := Blk.six (by exact hS0); obtain ⟨z7, z8, z9, z10, z11, z12, z13⟩ := Blk.six (by exact hS1); go_simp; (try with_reducible rfl))
        (try simp only [Act.put, List.setIfInBounds_toArray, List.set_cons_zero, List.set_cons_succ])
        refine take_yes (i := 8) (v := ?_) rfl (by kernel_rfl) (by kernel_rfl) (by kernel_rfl) (fun _ _ _ h => h) (by rfl) ?_ hHeld ?_
        rotate_left
        · (intro w hSw; obtain ⟨hS0, hS1⟩ := hSw; obtain ⟨z0, z1, z2, z3, z4, z5, z6⟩ := Blk.six (by exact hS0); obtain ⟨z7, z8, z9, z10, z11, z12, z13⟩ := Blk.six (by exact hS1); go_simp; (try with_reducible rfl))
        (try simp only [Act.put, List.setIfInBounds_toArray, List.set_cons_zero, List.set_cons_succ])
        refine take_yes (i := 10) (v := ?_) rfl (by kernel_rfl) (by kernel_rfl) (by kernel_rfl) (fun _ _ _ h => h) (by rfl) ?_ hHeld ?_
        rotate_left
        · (intro w hSw; obtain ⟨hS0, hS1⟩ := hSw; obtain ⟨z0, z1, z2, z3, z4, z5, z6⟩ := Blk.six (by exact hS0); obtain ⟨z7, z8, z9, z10, z11, z12, z13⟩ := Blk.six (by exact hS1); go_simp; (try with_reducible rfl))
        (try simp only [Act.put, List.setIfInBounds_toArray, List.set_cons_zero, List.set_cons_succ])
        refine take_step (i := 9) rfl (by kernel_rfl) (fun K hK => ?_)
        go_simp
        (go_at_call 36; refine (or_at hb ha f2 f1 on' hl9).mono ?_; rintro e w10 ⟨cx, rfl, hx, h10⟩; have hA10 := hA9.below h10 hA9.lt; have hB10 := hB9.below h10 hB9.lt; have hl10 := hl9.trans (h10.mono hl9.size); obtain ⟨nx, tx, X1, x1, X2, x2, X3, x3, rfl⟩ := hx.rep.shape)
        (try go_wp2_with fail)
        refine hK.out _ _ (⟨hA10, hB10⟩) (fun hHeld => ?_)
        clear hK K
        (try simp only [Act.put, List.setIfInBounds_toArray, List.set_cons_zero, List.set_cons_succ])
        refine take_step (i := 11) rfl (by kernel_rfl) (fun K hK => ?_)
        go_simp
        (go_at_call 30; refine (to_int (hx.cmp (ha.up hl10) on'.nice n1 (Below.refl _ _)) z2).mono ?_; rintro e w11 ⟨rfl, h11⟩; have hA11 := hA10.below h11 hA10.lt; have hB11 := hB10.below h11 hB10.lt; have hl11 := hl10.trans (h11.mono hl10.size))
        (try go_wp2_with fail)
        refine hK.out _ _ (⟨hA11, hB11⟩) (fun hHeld => ?_)
        clear hK K
        (try simp only [Act.put, List.setIfInBounds_toArray, List.set_cons_zero, List.set_cons_succ])
        refine take_yes (i := 12) (v := ?_) rfl (by kernel_rfl) (by kernel_rfl) (by kernel_rfl) (fun _ _ _ h => h) (by rfl) ?_ hHeld ?_
        rotate_left
        · (intro w hSw; obtain ⟨hS0, hS1⟩ := hSw; obtain ⟨z0, z1, z2, z3, z4, z5, z6⟩ := Blk.six (by exact hS0); obtain ⟨z7, z8, z9, z10, z11, z12, z13⟩ := Blk.six (by exact hS1); go_simp; (try with_reducible rfl))
        (try simp only [Act.put, List.setIfInBounds_toArray, List.set_cons_zero, List.set_cons_succ])
        refine take_yes (i := 13) (v := ?_) rfl (by kernel_rfl) (by kernel_rfl) (by kernel_rfl) (fun _ _ _ h => h) (by rfl) ?_ hHeld ?_
        rotate_left
        · (intro w hSw; obtain ⟨hS0, hS1⟩ := hSw; obtain ⟨z0, z1, z2, z3, z4, z5, z6⟩ := Blk.six (by exact hS0); obtain ⟨z7, z8, z9, z10, z11, z12, z13⟩ := Blk.six (by exact hS1); go_simp; (try with_reducible rfl))
        (try simp only [Act.put, List.setIfInBounds_toArray, List.set_cons_zero, List.set_cons_succ])
        refine take_yes (i := 14) (v := ?_) rfl (by kernel_rfl) (by kernel_rfl) (by kernel_rfl) (fun _ _ _ h => h) (by rfl) ?_ hHeld ?_
        rotate_left
        · (intro w hSw; obtain ⟨hS0, hS1⟩ := hSw; obtain ⟨z0, z1, z2, z3, z4, z5, z6⟩ := Blk.six (by exact hS0); obtain ⟨z7, z8, z9, z10, z11, z12, z13⟩ := Blk.six (by exact hS1); go_simp; (try with_reducible rfl))
        (try simp only [Act.put, List.setIfInBounds_toArray, List.set_cons_zero, List.set_cons_succ])
        refine take_step (i := 15) rfl (by kernel_rfl) (fun K hK => ?_)
        go_simp
        (go_at_call 23; refine (works_any _).mono ?_; rintro e w12 ⟨rfl, h12⟩; have hA12 := hA11.below h12 hA11.lt; have hB12 := hB11.below h12 hB11.lt; have hl12 := hl11.trans (h12.mono hl11.size))
        (try go_wp2_with fail)
        refine hK.out _ _ (⟨hA12, hB12⟩) (fun hHeld => ?_)
        clear hK K
        (try simp only [Act.put, List.setIfInBounds_toArray, List.set_cons_zero, List.set_cons_succ])
        refine take_yes (i := 16) (v := ?_) rfl (by kernel_rfl) (by kernel_rfl) (by kernel_rfl) (fun _ _ _ h => h) (by rfl) ?_ hHeld ?_
        rotate_left
        · (intro w hSw; obtain ⟨hS0, hS1⟩ := hSw; obtain ⟨z0, z1, z2, z3, z4, z5, z6⟩ := Blk.six (by exact hS0); obtain ⟨z7, z8, z9, z10, z11, z12, z13⟩ := Blk.six (by exact hS1); go_simp; (try with_reducible rfl))
        (try simp only [Act.put, List.setIfInBounds_toArray, List.set_cons_zero, List.set_cons_succ])
        refine take_yes (i := 17) (v := ?_) rfl (by kernel_rfl) (by kernel_rfl) (by kernel_rfl) (fun _ _ _ h => h) (by rfl) ?_ hHeld ?_
        rotate_left
        · (intro w hSw; obtain ⟨hS0, hS1⟩ := hSw; obtain ⟨z0, z1, z2, z3, z4, z5, z6⟩ := Blk.six (by exact hS0); obtain ⟨z7, z8, z9, z10, z11, z12, z13⟩ := Blk.six (by exact hS1); go_simp; (try with_reducible rfl))
        (try simp only [Act.put, List.setIfInBounds_toArray, List.set_cons_zero, List.set_cons_succ])
        refine wpAnyH_done (by kernel_rfl) ?_ _
        go_wp2
        go_ret
        exact ⟨rfl, hl12⟩

end Go.Proofs.YtpmfjbmfjfhghaaGreat
