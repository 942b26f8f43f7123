/-
  'laws.FnPrint': THE WALK (laid by gen_print.py).
-/
import Derived.Test.YtpmfjbmfjfhghaaGreatPrint
import Derived.Test.YtpmfjbmfjfhghaaGreatReg2
namespace Go.Proofs.YtpmfjbmfjfhghaaGreat
open Go.RowKit

theorem int_at {P : Program} {f : FuncId} {args : Array Value} {W : World} {c d : Int} (h : Calls P f args W (IntPost d W)) (e : d = c) : Calls P f args W (IntPost c W) := e ▸ h

set_option maxHeartbeats 4000000 in
set_option maxRecDepth 100000 in
theorem fnPrint_walk (a b : Tr) (ca cb : List Value) (w : World) (ha : TA w a ca) (hb : TA w b cb) (bs : a.bulk + b.bulk ≤ 1048576) :
    Calls Tryz.prog 11 #[.agg ca.toArray, .agg cb.toArray] w (TruePost w) := by
  obtain ⟨na, ta, A1, a1, A2, a2, A3, a3, rfl⟩ := ha.rep.shape
  obtain ⟨nb, tb, B1, b1, B2, b2, B3, b3, rfl⟩ := hb.rep.shape
  have hA0 : Blk ((w.alloc (.cells #[.int .i64 a.kind, .string na, .string ta, .slice A1 a.keys.length a1, .slice A2 a.kids.length a2, .slice A3 a.more.length a3] 25)).alloc (.cells #[.int .i64 b.kind, .string nb, .string tb, .slice B1 b.keys.length b1, .slice B2 b.kids.length b2, .slice B3 b.more.length b3] 25)) (w.heap.size) 25 #[.int .i64 a.kind, .string na, .string ta, .slice A1 a.keys.length a1, .slice A2 a.kids.length a2, .slice A3 a.more.length a3] := by simpa using ((Blk.new (w) _ _)).alloc _
  have hB0 : Blk ((w.alloc (.cells #[.int .i64 a.kind, .string na, .string ta, .slice A1 a.keys.length a1, .slice A2 a.kids.length a2, .slice A3 a.more.length a3] 25)).alloc (.cells #[.int .i64 b.kind, .string nb, .string tb, .slice B1 b.keys.length b1, .slice B2 b.kids.length b2, .slice B3 b.more.length b3] 25)) (w.heap.size + 1) 25 #[.int .i64 b.kind, .string nb, .string tb, .slice B1 b.keys.length b1, .slice B2 b.kids.length b2, .slice B3 b.more.length b3] := by simpa using (Blk.new (w.alloc _) _ _)
  have hl0 : Below w.heap.size w ((w.alloc (.cells #[.int .i64 a.kind, .string na, .string ta, .slice A1 a.keys.length a1, .slice A2 a.kids.length a2, .slice A3 a.more.length a3] 25)).alloc (.cells #[.int .i64 b.kind, .string nb, .string tb, .slice B1 b.keys.length b1, .slice B2 b.kids.length b2, .slice B3 b.more.length b3] 25)) := ((Below.refl w.heap.size w).alloc (Nat.le_refl _) _).alloc (by simp) _
  go_enter Tryz.func11, Tryz.ntmps11
  go_wp2_with fail
  refine (ha.fits hl0).mono ?_
  rintro e w1 ⟨rfl, h1⟩
  have hA1 := hA0.below h1 hA0.lt
  have hB1 := hB0.below h1 hB0.lt
  have hl1 := hl0.trans (h1.mono hl0.size)
  clear hA0 hB0 hl0 h1
  obtain ⟨q0, q1, q2, q3, q4, q5, q6⟩ := hB1.six
  go_wp2_with fail
  refine (hb.fits hl1).mono ?_
  rintro e w2 ⟨rfl, h2⟩
  have hA2 := hA1.below h2 hA1.lt
  have hB2 := hB1.below h2 hB1.lt
  have hl2 := hl1.trans (h2.mono hl1.size)
  clear q0 q1 q2 q3 q4 q5 q6
  clear hA1 hB1 hl1 h2
  obtain ⟨q0, q1, q2, q3, q4, q5, q6⟩ := hA2.six
  obtain ⟨q7, q8, q9, q10, q11, q12, q13⟩ := hB2.six
  have hp := ha.proper2 hb bs (c := 2) (hl2.alloc hl2.size (.cells #[.int .i64 a.kind, .string na, .string ta, .slice A1 a.keys.length a1, .slice A2 a.kids.length a2, .slice A3 a.more.length a3, .int .i64 b.kind, .string nb, .string tb, .slice B1 b.keys.length b1, .slice B2 b.kids.length b2, .slice B3 b.more.length b3] 25)) (new_row [.int .i64 a.kind, .string na, .string ta, .slice A1 a.keys.length a1, .slice A2 a.kids.length a2, .slice A3 a.more.length a3, .int .i64 b.kind, .string nb, .string tb, .slice B1 b.keys.length b1, .slice B2 b.kids.length b2, .slice B3 b.more.length b3] _)
  have hA3 := hA2.alloc (.cells #[.int .i64 a.kind, .string na, .string ta, .slice A1 a.keys.length a1, .slice A2 a.kids.length a2, .slice A3 a.more.length a3, .int .i64 b.kind, .string nb, .string tb, .slice B1 b.keys.length b1, .slice B2 b.kids.length b2, .slice B3 b.more.length b3] 25)
  have hB3 := hB2.alloc (.cells #[.int .i64 a.kind, .string na, .string ta, .slice A1 a.keys.length a1, .slice A2 a.kids.length a2, .slice A3 a.more.length a3, .int .i64 b.kind, .string nb, .string tb, .slice B1 b.keys.length b1, .slice B2 b.kids.length b2, .slice B3 b.more.length b3] 25)
  have hl3 := hl2.alloc hl2.size  (.cells #[.int .i64 a.kind, .string na, .string ta, .slice A1 a.keys.length a1, .slice A2 a.kids.length a2, .slice A3 a.more.length a3, .int .i64 b.kind, .string nb, .string tb, .slice B1 b.keys.length b1, .slice B2 b.kids.length b2, .slice B3 b.more.length b3] 25)
  go_wp2_with fail
  refine (hp).mono ?_
  rintro e w4 ⟨bp, rfl, hbp, h4⟩
  have HBP := Lib.hid hbp
  clear hp hbp hA2 hB2 hl2
  have hA4 := hA3.below h4 hA3.lt
  have hB4 := hB3.below h4 hB3.lt
  have hl4 := hl3.trans (h4.mono hl3.size)
  clear q0 q1 q2 q3 q4 q5 q6 q7 q8 q9 q10 q11 q12 q13
  clear hA3 hB3 hl3 h4
  cases bp with
  | false =>
    go_wp2_with fail
    refine (works_any _).mono ?_
    rintro e wz ⟨rfl, hz⟩
    go_wp2_with fail
    refine (print_null _).mono ?_
    rintro e wy ⟨rfl, hy⟩
    go_wp2
    go_ret
    exact ⟨rfl, (hl4.trans (hz.mono hl4.size)).trans (hy.mono (hl4.trans (hz.mono hl4.size)).size)⟩
  | true =>
    have n1 : Nice a := (HBP.out.1 rfl).1.nice ha.bulk
    have n2 : Nice b := (HBP.out.1 rfl).2.nice hb.bulk
    clear HBP
    by_cases hc : cmp (norm a) (norm b) = 0
    · have e0 : norm b = norm a := ((cmp_linear.eq _ _ n1.norm_good n2.norm_good).1 hc).symm
      have e1 : text (norm b) = text (norm a) := by rw [e0]
      have hcmp := int_at (ha.cmp hb n1 n2 hl4) hc
      obtain ⟨s, hs⟩ : ∃ s, s = text (norm a) := ⟨_, rfl⟩
      rw [← hs] at e1
      have HA := Lib.hid hs.symm
      have HB := Lib.hid e1
      clear hc e0 e1 hs
      obtain ⟨q0, q1, q2, q3, q4, q5, q6⟩ := hA4.six
      obtain ⟨q7, q8, q9, q10, q11, q12, q13⟩ := hB4.six
      go_wp2_with fail
      refine (hcmp).mono ?_
      rintro e w5 ⟨rfl, h5⟩
      clear hcmp
      have hA5 := hA4.below h5 hA4.lt
      have hB5 := hB4.below h5 hB4.lt
      have hl5 := hl4.trans (h5.mono hl4.size)
      clear q0 q1 q2 q3 q4 q5 q6 q7 q8 q9 q10 q11 q12 q13
      clear hA4 hB4 hl4 h5
      have hA6 := hA5.drew
      have hB6 := hB5.drew
      have hl6 := hl5.drew
      go_wp2_with fail
      refine wp_region_held_drew (S := (fun W => Blk W (w.heap.size) 25 #[.int .i64 a.kind, .string na, .string ta, .slice A1 a.keys.length a1, .slice A2 a.kids.length a2, .slice A3 a.more.length a3] ∧ Blk W (w.heap.size + 1) 25 #[.int .i64 b.kind, .string nb, .string tb, .slice B1 b.keys.length b1, .slice B2 b.kids.length b2, .slice B3 b.more.length b3])) (by kernel_rfl) (⟨hA6, hB6⟩) (fun hHeld => ?_)
      refine take_yes (i := 0) (v := ?_) rfl (by kernel_rfl) (by kernel_rfl) (by kernel_rfl) (fun _ _ _ h => h) (by rfl) ?_ hHeld ?_
      rotate_left
      · (intro w hSw; obtain ⟨hS0, hS1⟩ := hSw; obtain ⟨z0, z1, z2, z3, z4, z5, z6⟩ := Blk.six (by exact hS0); obtain ⟨z7, z8, z9, z10, z11, z12, z13⟩ := Blk.six (by exact hS1); go_simp; (try with_reducible rfl))
      (try simp only [Act.put, List.setIfInBounds_toArray, List.set_cons_zero, List.set_cons_succ])
      refine take_yes (i := 2) (v := ?_) rfl (by kernel_rfl) (by kernel_rfl) (by kernel_rfl) (fun _ _ _ h => h) (by rfl) ?_ hHeld ?_
      rotate_left
      · (intro w hSw; obtain ⟨hS0, hS1⟩ := hSw; obtain ⟨z0, z1, z2, z3, z4, z5, z6⟩ := Blk.six (by exact hS0); obtain ⟨z7, z8, z9, z10, z11, z12, z13⟩ := Blk.six (by exact hS1); go_simp; (try with_reducible rfl))
      (try simp only [Act.put, List.setIfInBounds_toArray, List.set_cons_zero, List.set_cons_succ])
      refine take_step (i := 1) rfl (by kernel_rfl) (fun K hK => ?_)
      go_simp
      (go_at_call 34; refine (ha.print n1 hl6 HA.out).mono ?_; rintro e w7 ⟨rfl, h7⟩; have hA7 := hA6.below h7 hA6.lt; have hB7 := hB6.below h7 hB6.lt; have hl7 := hl6.trans (h7.mono hl6.size))
      (try go_wp2_with fail)
      refine hK.out _ _ (⟨hA7, hB7⟩) (fun hHeld => ?_)
      clear hK K
      (try simp only [Act.put, List.setIfInBounds_toArray, List.set_cons_zero, List.set_cons_succ])
      refine take_step (i := 3) rfl (by kernel_rfl) (fun K hK => ?_)
      go_simp
      (go_at_call 34; refine (hb.print n2 hl7 HB.out).mono ?_; rintro e w8 ⟨rfl, h8⟩; have hA8 := hA7.below h8 hA7.lt; have hB8 := hB7.below h8 hB7.lt; have hl8 := hl7.trans (h8.mono hl7.size))
      (try go_wp2_with fail)
      refine hK.out _ _ (⟨hA8, hB8⟩) (fun hHeld => ?_)
      clear hK K
      (try simp only [Act.put, List.setIfInBounds_toArray, List.set_cons_zero, List.set_cons_succ])
      refine take_yes (i := 4) (v := ?_) rfl (by kernel_rfl) (by kernel_rfl) (by kernel_rfl) (fun _ _ _ h => h) (by rfl) ?_ hHeld ?_
      rotate_left
      · (intro w hSw; obtain ⟨hS0, hS1⟩ := hSw; obtain ⟨z0, z1, z2, z3, z4, z5, z6⟩ := Blk.six (by exact hS0); obtain ⟨z7, z8, z9, z10, z11, z12, z13⟩ := Blk.six (by exact hS1); go_simp; (try with_reducible rfl))
      (try simp only [Act.put, List.setIfInBounds_toArray, List.set_cons_zero, List.set_cons_succ])
      refine take_yes (i := 5) (v := ?_) rfl (by kernel_rfl) (by kernel_rfl) (by kernel_rfl) (fun _ _ _ h => h) (by rfl) ?_ hHeld ?_
      rotate_left
      · (intro w hSw; obtain ⟨hS0, hS1⟩ := hSw; obtain ⟨z0, z1, z2, z3, z4, z5, z6⟩ := Blk.six (by exact hS0); obtain ⟨z7, z8, z9, z10, z11, z12, z13⟩ := Blk.six (by exact hS1); go_simp; (try with_reducible rfl))
      (try simp only [Act.put, List.setIfInBounds_toArray, List.set_cons_zero, List.set_cons_succ])
      refine take_yes (i := 6) (v := ?_) rfl (by kernel_rfl) (by kernel_rfl) (by kernel_rfl) (fun _ _ _ h => h) (by rfl) ?_ hHeld ?_
      rotate_left
      · (intro w hSw; obtain ⟨hS0, hS1⟩ := hSw; obtain ⟨z0, z1, z2, z3, z4, z5, z6⟩ := Blk.six (by exact hS0); obtain ⟨z7, z8, z9, z10, z11, z12, z13⟩ := Blk.six (by exact hS1); go_simp; (try with_reducible rfl))
      (try simp only [Act.put, List.setIfInBounds_toArray, List.set_cons_zero, List.set_cons_succ])
      refine take_step (i := 7) rfl (by kernel_rfl) (fun K hK => ?_)
      go_simp
      (go_at_call 34; refine (print_null _).mono ?_; rintro e w9 ⟨rfl, h9⟩; have hA9 := hA8.below h9 hA8.lt; have hB9 := hB8.below h9 hB8.lt; have hl9 := hl8.trans (h9.mono hl8.size))
      (try go_wp2_with fail)
      refine hK.out _ _ (⟨hA9, hB9⟩) (fun hHeld => ?_)
      clear hK K
      (try simp only [Act.put, List.setIfInBounds_toArray, List.set_cons_zero, List.set_cons_succ])
      refine take_yes (i := 8) (v := ?_) rfl (by kernel_rfl) (by kernel_rfl) (by kernel_rfl) (fun _ _ _ h => h) (by rfl) ?_ hHeld ?_
      rotate_left
      · (intro w hSw; obtain ⟨hS0, hS1⟩ := hSw; obtain ⟨z0, z1, z2, z3, z4, z5, z6⟩ := Blk.six (by exact hS0); obtain ⟨z7, z8, z9, z10, z11, z12, z13⟩ := Blk.six (by exact hS1); go_simp; (try with_reducible rfl))
      (try simp only [Act.put, List.setIfInBounds_toArray, List.set_cons_zero, List.set_cons_succ])
      refine take_yes (i := 9) (v := ?_) rfl (by kernel_rfl) (by kernel_rfl) (by kernel_rfl) (fun _ _ _ h => h) (by rfl) ?_ hHeld ?_
      rotate_left
      · (intro w hSw; obtain ⟨hS0, hS1⟩ := hSw; obtain ⟨z0, z1, z2, z3, z4, z5, z6⟩ := Blk.six (by exact hS0); obtain ⟨z7, z8, z9, z10, z11, z12, z13⟩ := Blk.six (by exact hS1); go_simp; (try with_reducible rfl))
      (try simp only [Act.put, List.setIfInBounds_toArray, List.set_cons_zero, List.set_cons_succ])
      refine take_yes (i := 10) (v := ?_) rfl (by kernel_rfl) (by kernel_rfl) (by kernel_rfl) (fun _ _ _ h => h) (by rfl) ?_ hHeld ?_
      rotate_left
      · (intro w hSw; obtain ⟨hS0, hS1⟩ := hSw; obtain ⟨z0, z1, z2, z3, z4, z5, z6⟩ := Blk.six (by exact hS0); obtain ⟨z7, z8, z9, z10, z11, z12, z13⟩ := Blk.six (by exact hS1); go_simp; (try with_reducible rfl))
      (try simp only [Act.put, List.setIfInBounds_toArray, List.set_cons_zero, List.set_cons_succ])
      refine wpAnyH_done (by kernel_rfl) ?_ _
      go_wp2
      go_ret
      exact ⟨rfl, hl9⟩
    · obtain ⟨d, hd⟩ : ∃ d, d = cmp (norm a) (norm b) := ⟨_, rfl⟩
      have hcmp := ha.cmp hb n1 n2 hl4
      rw [← hd] at hc hcmp
      clear hd
      have hd' : (d == 0) = false := by simpa using hc
      obtain ⟨q0, q1, q2, q3, q4, q5, q6⟩ := hA4.six
      obtain ⟨q7, q8, q9, q10, q11, q12, q13⟩ := hB4.six
      go_wp2_with fail
      refine (hcmp).mono ?_
      rintro e w5 ⟨rfl, h5⟩
      clear hcmp
      have hA5 := hA4.below h5 hA4.lt
      have hB5 := hB4.below h5 hB4.lt
      have hl5 := hl4.trans (h5.mono hl4.size)
      clear q0 q1 q2 q3 q4 q5 q6 q7 q8 q9 q10 q11 q12 q13
      clear hA4 hB4 hl4 h5
      go_wp2_with fail
      refine (works_any _).mono ?_
      rintro e wz ⟨rfl, hz⟩
      go_wp2_with fail
      refine (print_null _).mono ?_
      rintro e wy ⟨rfl, hy⟩
      go_wp2
      go_ret
      exact ⟨rfl, (hl5.trans (hz.mono hl5.size)).trans (hy.mono (hl5.trans (hz.mono hl5.size)).size)⟩

end Go.Proofs.YtpmfjbmfjfhghaaGreat
