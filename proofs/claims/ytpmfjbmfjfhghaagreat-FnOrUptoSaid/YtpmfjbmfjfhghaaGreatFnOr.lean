/-
  'laws.FnOr': THE WALK (laid by gen_or.py).
-/
import Derived.Test.YtpmfjbmfjfhghaaGreatOrAll
namespace Go.Proofs.YtpmfjbmfjfhghaaGreat
open Go.RowKit

set_option maxHeartbeats 4000000 in
set_option maxRecDepth 100000 in
theorem fnOr_walk (a b : Tr) (v : Vl) (ca cb cv : List Value) (w : World) (ha : TA w a ca) (hb : TA w b cb) (hv : VA w v cv) (bs : a.bulk + b.bulk + 1 ≤ 1048576) :
    Calls Tryz.prog 13 #[.agg ca.toArray, .agg cb.toArray, .agg cv.toArray] w (TruePost w) := by
  obtain ⟨na, ta, A1, a1, A2, a2, A3, a3, rfl⟩ := ha.rep.shape
  obtain ⟨nb, tb, B1, b1, B2, b2, B3, b3, rfl⟩ := hb.rep.shape
  obtain ⟨V1, v1, V2, v2, rfl⟩ := hv.rep.shape
  have hA0 : Blk (((w.alloc (.cells #[.int .i64 a.kind, .string na, .string ta, .slice A1 a.keys.length a1, .slice A2 a.kids.length a2, .slice A3 a.more.length a3] 25)).alloc (.cells #[.int .i64 b.kind, .string nb, .string tb, .slice B1 b.keys.length b1, .slice B2 b.kids.length b2, .slice B3 b.more.length b3] 25)).alloc (.cells #[.int .i64 v.kind, .string v.text, .slice V1 v.keys.length v1, .slice V2 v.kids.length v2] 29)) (w.heap.size) 25 #[.int .i64 a.kind, .string na, .string ta, .slice A1 a.keys.length a1, .slice A2 a.kids.length a2, .slice A3 a.more.length a3] := by simpa using (((Blk.new (w) _ _)).alloc _).alloc _
  have hB0 : Blk (((w.alloc (.cells #[.int .i64 a.kind, .string na, .string ta, .slice A1 a.keys.length a1, .slice A2 a.kids.length a2, .slice A3 a.more.length a3] 25)).alloc (.cells #[.int .i64 b.kind, .string nb, .string tb, .slice B1 b.keys.length b1, .slice B2 b.kids.length b2, .slice B3 b.more.length b3] 25)).alloc (.cells #[.int .i64 v.kind, .string v.text, .slice V1 v.keys.length v1, .slice V2 v.kids.length v2] 29)) (w.heap.size + 1) 25 #[.int .i64 b.kind, .string nb, .string tb, .slice B1 b.keys.length b1, .slice B2 b.kids.length b2, .slice B3 b.more.length b3] := by simpa using ((Blk.new (w.alloc _) _ _)).alloc _
  have hV0 : Blk (((w.alloc (.cells #[.int .i64 a.kind, .string na, .string ta, .slice A1 a.keys.length a1, .slice A2 a.kids.length a2, .slice A3 a.more.length a3] 25)).alloc (.cells #[.int .i64 b.kind, .string nb, .string tb, .slice B1 b.keys.length b1, .slice B2 b.kids.length b2, .slice B3 b.more.length b3] 25)).alloc (.cells #[.int .i64 v.kind, .string v.text, .slice V1 v.keys.length v1, .slice V2 v.kids.length v2] 29)) (w.heap.size + 1 + 1) 29 #[.int .i64 v.kind, .string v.text, .slice V1 v.keys.length v1, .slice V2 v.kids.length v2] := by simpa using (Blk.new ((w.alloc _).alloc _) _ _)
  have hl0 : Below w.heap.size w (((w.alloc (.cells #[.int .i64 a.kind, .string na, .string ta, .slice A1 a.keys.length a1, .slice A2 a.kids.length a2, .slice A3 a.more.length a3] 25)).alloc (.cells #[.int .i64 b.kind, .string nb, .string tb, .slice B1 b.keys.length b1, .slice B2 b.kids.length b2, .slice B3 b.more.length b3] 25)).alloc (.cells #[.int .i64 v.kind, .string v.text, .slice V1 v.keys.length v1, .slice V2 v.kids.length v2] 29)) := (((Below.refl w.heap.size w).alloc (Nat.le_refl _) _).alloc (by simp) _).alloc (by simp; omega) _
  go_enter Tryz.func13, Tryz.ntmps13
  go_wp2_with fail
  refine (ha.fits hl0).mono ?_
  rintro e w1 ⟨rfl, h1⟩
  have hA1 := hA0.below h1 hA0.lt
  have hB1 := hB0.below h1 hB0.lt
  have hV1 := hV0.below h1 hV0.lt
  have hl1 := hl0.trans (h1.mono hl0.size)
  clear hA0 hB0 hV0 hl0 h1
  obtain ⟨q0, q1, q2, q3, q4, q5, q6⟩ := hB1.six
  go_wp2_with fail
  refine (hb.fits hl1).mono ?_
  rintro e w2 ⟨rfl, h2⟩
  have hA2 := hA1.below h2 hA1.lt
  have hB2 := hB1.below h2 hB1.lt
  have hV2 := hV1.below h2 hV1.lt
  have hl2 := hl1.trans (h2.mono hl1.size)
  clear q0 q1 q2 q3 q4 q5 q6
  clear hA1 hB1 hV1 hl1 h2
  obtain ⟨q0, q1, q2, q3, q4⟩ := hV2.four
  go_wp2_with fail
  refine (hv.fits hl2).mono ?_
  rintro e w3 ⟨rfl, h3⟩
  have hA3 := hA2.below h3 hA2.lt
  have hB3 := hB2.below h3 hB2.lt
  have hV3 := hV2.below h3 hV2.lt
  have hl3 := hl2.trans (h3.mono hl2.size)
  clear q0 q1 q2 q3 q4
  clear hA2 hB2 hV2 hl2 h3
  obtain ⟨q0, q1, q2, q3, q4, q5, q6⟩ := hA3.six
  obtain ⟨q7, q8, q9, q10, q11, q12, q13⟩ := hB3.six
  have hp := ha.proper2 hb (by omega) (c := 2) (hl3.alloc hl3.size (.cells #[.int .i64 a.kind, .string na, .string ta, .slice A1 a.keys.length a1, .slice A2 a.kids.length a2, .slice A3 a.more.length a3, .int .i64 b.kind, .string nb, .string tb, .slice B1 b.keys.length b1, .slice B2 b.kids.length b2, .slice B3 b.more.length b3] 25)) (new_row [.int .i64 a.kind, .string na, .string ta, .slice A1 a.keys.length a1, .slice A2 a.kids.length a2, .slice A3 a.more.length a3, .int .i64 b.kind, .string nb, .string tb, .slice B1 b.keys.length b1, .slice B2 b.kids.length b2, .slice B3 b.more.length b3] _)
  have hA4 := hA3.alloc (.cells #[.int .i64 a.kind, .string na, .string ta, .slice A1 a.keys.length a1, .slice A2 a.kids.length a2, .slice A3 a.more.length a3, .int .i64 b.kind, .string nb, .string tb, .slice B1 b.keys.length b1, .slice B2 b.kids.length b2, .slice B3 b.more.length b3] 25)
  have hB4 := hB3.alloc (.cells #[.int .i64 a.kind, .string na, .string ta, .slice A1 a.keys.length a1, .slice A2 a.kids.length a2, .slice A3 a.more.length a3, .int .i64 b.kind, .string nb, .string tb, .slice B1 b.keys.length b1, .slice B2 b.kids.length b2, .slice B3 b.more.length b3] 25)
  have hV4 := hV3.alloc (.cells #[.int .i64 a.kind, .string na, .string ta, .slice A1 a.keys.length a1, .slice A2 a.kids.length a2, .slice A3 a.more.length a3, .int .i64 b.kind, .string nb, .string tb, .slice B1 b.keys.length b1, .slice B2 b.kids.length b2, .slice B3 b.more.length b3] 25)
  have hl4 := hl3.alloc hl3.size  (.cells #[.int .i64 a.kind, .string na, .string ta, .slice A1 a.keys.length a1, .slice A2 a.kids.length a2, .slice A3 a.more.length a3, .int .i64 b.kind, .string nb, .string tb, .slice B1 b.keys.length b1, .slice B2 b.kids.length b2, .slice B3 b.more.length b3] 25)
  go_wp2_with fail
  refine (hp).mono ?_
  rintro e w5 ⟨bp, rfl, hbp, h5⟩
  have HBP := Lib.hid hbp
  clear hp hbp hA3 hB3 hl3 hV3
  have hA5 := hA4.below h5 hA4.lt
  have hB5 := hB4.below h5 hB4.lt
  have hV5 := hV4.below h5 hV4.lt
  have hl5 := hl4.trans (h5.mono hl4.size)
  clear q0 q1 q2 q3 q4 q5 q6 q7 q8 q9 q10 q11 q12 q13
  clear hA4 hB4 hV4 hl4 h5
  cases bp with
  | false =>
    go_wp2_with fail
    refine (works_any _).mono ?_
    rintro e wz ⟨rfl, hz⟩
    go_wp2
    go_ret
    exact ⟨rfl, hl5.trans (hz.mono hl5.size)⟩
  | true =>
    have f1 : Fine a := (HBP.out.1 rfl).1
    have f2 : Fine b := (HBP.out.1 rfl).2
    have n1 : Nice a := f1.nice ha.bulk
    have n2 : Nice b := f2.nice hb.bulk
    have on := or_nice n1 n2 bs
    clear HBP
    obtain ⟨q0, q1, q2, q3, q4⟩ := hV5.four
    go_wp2_with fail
    refine (hv.value hl5).mono ?_
    rintro e w6 ⟨vc, rfl, hvc, h6⟩
    have hA6 := hA5.below h6 hA5.lt
    have hB6 := hB5.below h6 hB5.lt
    have hV6 := hV5.below h6 hV5.lt
    have hl6 := hl5.trans (h6.mono hl5.size)
    clear q0 q1 q2 q3 q4
    clear hA5 hB5 hV5 hl5 h6
    go_wp2_with fail
    refine (pv_at hvc hv.bulk).mono ?_
    rintro e w7 ⟨bq, rfl, hbq, h7⟩
    have HBQ := Lib.hid hbq
    clear hbq
    have hA7 := hA6.below h7 hA6.lt
    have hB7 := hB6.below h7 hB6.lt
    have hV7 := hV6.below h7 hV6.lt
    have hl7 := hl6.trans (h7.mono hl6.size)
    clear hA6 hB6 hV6 hl6 h7
    clear hvc
    cases bq with
    | false =>
      go_wp2_with fail
      refine (works_any _).mono ?_
      rintro e wz ⟨rfl, hz⟩
      go_wp2
      go_ret
      exact ⟨rfl, hl7.trans (hz.mono hl7.size)⟩
    | true =>
      have hok : VOk v := HBQ.out rfl
      clear HBQ
      have hin : InT (orT (norm a) (norm b)) v ↔ InT a v ∨ InT b v := by
        rw [orT_in on.left on.right, InT_norm, InT_norm]
      have HIN := Lib.hid hin
      clear hin
      by_cases ia : InT a v
      · skip
        have hu : InT (orT (norm a) (norm b)) v := HIN.out.2 (.inl ia)
        have hA8 := hA7.drew
        have hB8 := hB7.drew
        have hV8 := hV7.drew
        have hl8 := hl7.drew
        go_wp2_with fail
        refine wp_region_held_drew (S := (fun W => Blk W (w.heap.size) 25 #[.int .i64 a.kind, .string na, .string ta, .slice A1 a.keys.length a1, .slice A2 a.kids.length a2, .slice A3 a.more.length a3] ∧ Blk W (w.heap.size + 1) 25 #[.int .i64 b.kind, .string nb, .string tb, .slice B1 b.keys.length b1, .slice B2 b.kids.length b2, .slice B3 b.more.length b3] ∧ Blk W (w.heap.size + 1 + 1) 29 #[.int .i64 v.kind, .string v.text, .slice V1 v.keys.length v1, .slice V2 v.kids.length v2])) (by kernel_rfl) (⟨hA8, hB8, hV8⟩) (fun hHeld => ?_)
        refine take_yes (i := 0) (v := ?_) rfl (by kernel_rfl) (by kernel_rfl) (by kernel_rfl) (fun _ _ _ h => h) (by rfl) ?_ hHeld ?_
        rotate_left
        · (intro w hSw; obtain ⟨hS0, hS1, hS2⟩ := hSw; obtain ⟨z0, z1, z2, z3, z4, z5, z6⟩ := Blk.six (by exact hS0); obtain ⟨z7, z8, z9, z10, z11, z12, z13⟩ := Blk.six (by exact hS1); obtain ⟨z14, z15, z16, z17, z18⟩ := Blk.four (by exact hS2); go_simp; (try with_reducible rfl))
        (try simp only [Act.put, List.setIfInBounds_toArray, List.set_cons_zero, List.set_cons_succ])
        refine take_yes (i := 2) (v := ?_) rfl (by kernel_rfl) (by kernel_rfl) (by kernel_rfl) (fun _ _ _ h => h) (by rfl) ?_ hHeld ?_
        rotate_left
        · (intro w hSw; obtain ⟨hS0, hS1, hS2⟩ := hSw; obtain ⟨z0, z1, z2, z3, z4, z5, z6⟩ := Blk.six (by exact hS0); obtain ⟨z7, z8, z9, z10, z11, z12, z13⟩ := Blk.six (by exact hS1); obtain ⟨z14, z15, z16, z17, z18⟩ := Blk.four (by exact hS2); go_simp; (try with_reducible rfl))
        (try simp only [Act.put, List.setIfInBounds_toArray, List.set_cons_zero, List.set_cons_succ])
        refine take_yes (i := 3) (v := ?_) rfl (by kernel_rfl) (by kernel_rfl) (by kernel_rfl) (fun _ _ _ h => h) (by rfl) ?_ hHeld ?_
        rotate_left
        · (intro w hSw; obtain ⟨hS0, hS1, hS2⟩ := hSw; obtain ⟨z0, z1, z2, z3, z4, z5, z6⟩ := Blk.six (by exact hS0); obtain ⟨z7, z8, z9, z10, z11, z12, z13⟩ := Blk.six (by exact hS1); obtain ⟨z14, z15, z16, z17, z18⟩ := Blk.four (by exact hS2); go_simp; (try with_reducible rfl))
        (try simp only [Act.put, List.setIfInBounds_toArray, List.set_cons_zero, List.set_cons_succ])
        refine take_yes (i := 7) (v := ?_) rfl (by kernel_rfl) (by kernel_rfl) (by kernel_rfl) (fun _ _ _ h => h) (by rfl) ?_ hHeld ?_
        rotate_left
        · (intro w hSw; obtain ⟨hS0, hS1, hS2⟩ := hSw; obtain ⟨z0, z1, z2, z3, z4, z5, z6⟩ := Blk.six (by exact hS0); obtain ⟨z7, z8, z9, z10, z11, z12, z13⟩ := Blk.six (by exact hS1); obtain ⟨z14, z15, z16, z17, z18⟩ := Blk.four (by exact hS2); go_simp; (try with_reducible rfl))
        (try simp only [Act.put, List.setIfInBounds_toArray, List.set_cons_zero, List.set_cons_succ])
        refine take_yes (i := 9) (v := ?_) rfl (by kernel_rfl) (by kernel_rfl) (by kernel_rfl) (fun _ _ _ h => h) (by rfl) ?_ hHeld ?_
        rotate_left
        · (intro w hSw; obtain ⟨hS0, hS1, hS2⟩ := hSw; obtain ⟨z0, z1, z2, z3, z4, z5, z6⟩ := Blk.six (by exact hS0); obtain ⟨z7, z8, z9, z10, z11, z12, z13⟩ := Blk.six (by exact hS1); obtain ⟨z14, z15, z16, z17, z18⟩ := Blk.four (by exact hS2); go_simp; (try with_reducible rfl))
        (try simp only [Act.put, List.setIfInBounds_toArray, List.set_cons_zero, List.set_cons_succ])
        refine take_step (i := 1) rfl (by kernel_rfl) (fun K hK => ?_)
        go_simp
        (go_at_call 21; refine (hv.value hl8).mono ?_; rintro e w9 ⟨c1, rfl, r1, h9⟩; have hA9 := hA8.below h9 hA8.lt; have hB9 := hB8.below h9 hB8.lt; have hV9 := hV8.below h9 hV8.lt; have hl9 := hl8.trans (h9.mono hl8.size))
        (try go_wp2_with fail)
        refine hK.out _ _ (⟨hA9, hB9, hV9⟩) (fun hHeld => ?_)
        clear hK K
        (try simp only [Act.put, List.setIfInBounds_toArray, List.set_cons_zero, List.set_cons_succ])
        refine take_step (i := 4) rfl (by kernel_rfl) (fun K hK => ?_)
        go_simp
        (go_at_call 36; refine (or_at ha hb f1 f2 on hl9).mono ?_; rintro e w10 ⟨c2, rfl, r2, h10⟩; have hA10 := hA9.below h10 hA9.lt; have hB10 := hB9.below h10 hB9.lt; have hV10 := hV9.below h10 hV9.lt; have hl10 := hl9.trans (h10.mono hl9.size); obtain ⟨nu, tu, U1, u1, U2, u2, U3, u3, rfl⟩ := r2.rep.shape; have r1' := repV_up r1 h10)
        (try go_wp2_with fail)
        refine hK.out _ _ (⟨hA10, hB10, hV10⟩) (fun hHeld => ?_)
        clear hK K
        (try simp only [Act.put, List.setIfInBounds_toArray, List.set_cons_zero, List.set_cons_succ])
        refine take_step (i := 5) rfl (by kernel_rfl) (fun K hK => ?_)
        go_simp
        (go_at_call 25; refine (kind_at r2.rep on.bulk).mono ?_; rintro e w11 ⟨c3, rfl, r3, h11⟩; have hA11 := hA10.below h11 hA10.lt; have hB11 := hB10.below h11 hB10.lt; have hV11 := hV10.below h11 hV10.lt; have hl11 := hl10.trans (h11.mono hl10.size); have r1'' := repV_up r1' h11)
        (try go_wp2_with fail)
        refine hK.out _ _ (⟨hA11, hB11, hV11⟩) (fun hHeld => ?_)
        clear hK K
        (try simp only [Act.put, List.setIfInBounds_toArray, List.set_cons_zero, List.set_cons_succ])
        refine take_step (i := 6) rfl (by kernel_rfl) (fun K hK => ?_)
        go_simp
        (go_at_call 24; refine ((in_at r1'' r3 hok hv.bulk on.kpt.proper on.bulk).mono fun _ _ h => h.sure hu).mono ?_; rintro e w12 ⟨rfl, h12⟩; have hA12 := hA11.below h12 hA11.lt; have hB12 := hB11.below h12 hB11.lt; have hV12 := hV11.below h12 hV11.lt; have hl12 := hl11.trans (h12.mono hl11.size))
        (try go_wp2_with fail)
        refine hK.out _ _ (⟨hA12, hB12, hV12⟩) (fun hHeld => ?_)
        clear hK K
        (try simp only [Act.put, List.setIfInBounds_toArray, List.set_cons_zero, List.set_cons_succ])
        refine take_step (i := 8) rfl (by kernel_rfl) (fun K hK => ?_)
        go_simp
        (go_at_call 21; refine (hv.value hl12).mono ?_; rintro e w13 ⟨c4, rfl, r4, h13⟩; have hA13 := hA12.below h13 hA12.lt; have hB13 := hB12.below h13 hB12.lt; have hV13 := hV12.below h13 hV12.lt; have hl13 := hl12.trans (h13.mono hl12.size))
        (try go_wp2_with fail)
        refine hK.out _ _ (⟨hA13, hB13, hV13⟩) (fun hHeld => ?_)
        clear hK K
        (try simp only [Act.put, List.setIfInBounds_toArray, List.set_cons_zero, List.set_cons_succ])
        refine take_step (i := 10) rfl (by kernel_rfl) (fun K hK => ?_)
        go_simp
        (go_at_call 25; refine (ha.kind hl13).mono ?_; rintro e w14 ⟨c5, rfl, r5, h14⟩; have hA14 := hA13.below h14 hA13.lt; have hB14 := hB13.below h14 hB13.lt; have hV14 := hV13.below h14 hV13.lt; have hl14 := hl13.trans (h14.mono hl13.size); have r4' := repV_up r4 h14)
        (try go_wp2_with fail)
        refine hK.out _ _ (⟨hA14, hB14, hV14⟩) (fun hHeld => ?_)
        clear hK K
        (try simp only [Act.put, List.setIfInBounds_toArray, List.set_cons_zero, List.set_cons_succ])
        refine take_step (i := 11) rfl (by kernel_rfl) (fun K hK => ?_)
        go_simp
        (go_at_call 24; refine ((in_at r4' r5 hok hv.bulk n1.1 ha.bulk).mono fun _ _ h => h.sure ia).mono ?_; rintro e w15 ⟨rfl, h15⟩; have hA15 := hA14.below h15 hA14.lt; have hB15 := hB14.below h15 hB14.lt; have hV15 := hV14.below h15 hV14.lt; have hl15 := hl14.trans (h15.mono hl14.size))
        (try go_wp2_with fail)
        refine hK.out _ _ (⟨hA15, hB15, hV15⟩) (fun hHeld => ?_)
        clear hK K
        (try simp only [Act.put, List.setIfInBounds_toArray, List.set_cons_zero, List.set_cons_succ])
        refine take_yes (i := 12) (v := ?_) rfl (by kernel_rfl) (by kernel_rfl) (by kernel_rfl) (fun _ _ _ h => h) (by rfl) ?_ hHeld ?_
        rotate_left
        · (intro w hSw; obtain ⟨hS0, hS1, hS2⟩ := hSw; obtain ⟨z0, z1, z2, z3, z4, z5, z6⟩ := Blk.six (by exact hS0); obtain ⟨z7, z8, z9, z10, z11, z12, z13⟩ := Blk.six (by exact hS1); obtain ⟨z14, z15, z16, z17, z18⟩ := Blk.four (by exact hS2); go_simp; (try with_reducible rfl))
        (try simp only [Act.put, List.setIfInBounds_toArray, List.set_cons_zero, List.set_cons_succ])
        refine take_no (i := 13) rfl (by kernel_rfl) (by kernel_rfl) (by kernel_rfl) (fun _ _ _ h => h) (by rfl) hHeld ?_
        (try simp only [Act.put, List.setIfInBounds_toArray, List.set_cons_zero, List.set_cons_succ])
        refine take_no (i := 15) rfl (by kernel_rfl) (by kernel_rfl) (by kernel_rfl) (fun _ _ _ h => h) (by rfl) hHeld ?_
        (try simp only [Act.put, List.setIfInBounds_toArray, List.set_cons_zero, List.set_cons_succ])
        refine take_no (i := 14) rfl (by kernel_rfl) (by kernel_rfl) (by kernel_rfl) (fun _ _ _ h => h) (by rfl) hHeld ?_
        (try simp only [Act.put, List.setIfInBounds_toArray, List.set_cons_zero, List.set_cons_succ])
        refine take_no (i := 16) rfl (by kernel_rfl) (by kernel_rfl) (by kernel_rfl) (fun _ _ _ h => h) (by rfl) hHeld ?_
        (try simp only [Act.put, List.setIfInBounds_toArray, List.set_cons_zero, List.set_cons_succ])
        refine take_no (i := 17) rfl (by kernel_rfl) (by kernel_rfl) (by kernel_rfl) (fun _ _ _ h => h) (by rfl) hHeld ?_
        (try simp only [Act.put, List.setIfInBounds_toArray, List.set_cons_zero, List.set_cons_succ])
        refine take_yes (i := 18) (v := ?_) rfl (by kernel_rfl) (by kernel_rfl) (by kernel_rfl) (fun _ _ _ h => h) (by rfl) ?_ hHeld ?_
        rotate_left
        · (intro w hSw; obtain ⟨hS0, hS1, hS2⟩ := hSw; obtain ⟨z0, z1, z2, z3, z4, z5, z6⟩ := Blk.six (by exact hS0); obtain ⟨z7, z8, z9, z10, z11, z12, z13⟩ := Blk.six (by exact hS1); obtain ⟨z14, z15, z16, z17, z18⟩ := Blk.four (by exact hS2); go_simp; (try with_reducible rfl))
        (try simp only [Act.put, List.setIfInBounds_toArray, List.set_cons_zero, List.set_cons_succ])
        refine take_yes (i := 19) (v := ?_) rfl (by kernel_rfl) (by kernel_rfl) (by kernel_rfl) (fun _ _ _ h => h) (by rfl) ?_ hHeld ?_
        rotate_left
        · (intro w hSw; obtain ⟨hS0, hS1, hS2⟩ := hSw; obtain ⟨z0, z1, z2, z3, z4, z5, z6⟩ := Blk.six (by exact hS0); obtain ⟨z7, z8, z9, z10, z11, z12, z13⟩ := Blk.six (by exact hS1); obtain ⟨z14, z15, z16, z17, z18⟩ := Blk.four (by exact hS2); go_simp; (try with_reducible rfl))
        (try simp only [Act.put, List.setIfInBounds_toArray, List.set_cons_zero, List.set_cons_succ])
        refine take_yes (i := 20) (v := ?_) rfl (by kernel_rfl) (by kernel_rfl) (by kernel_rfl) (fun _ _ _ h => h) (by rfl) ?_ hHeld ?_
        rotate_left
        · (intro w hSw; obtain ⟨hS0, hS1, hS2⟩ := hSw; obtain ⟨z0, z1, z2, z3, z4, z5, z6⟩ := Blk.six (by exact hS0); obtain ⟨z7, z8, z9, z10, z11, z12, z13⟩ := Blk.six (by exact hS1); obtain ⟨z14, z15, z16, z17, z18⟩ := Blk.four (by exact hS2); go_simp; (try with_reducible rfl))
        (try simp only [Act.put, List.setIfInBounds_toArray, List.set_cons_zero, List.set_cons_succ])
        refine take_step (i := 21) rfl (by kernel_rfl) (fun K hK => ?_)
        go_simp
        (go_at_call 23; refine (works_any _).mono ?_; rintro e w16 ⟨rfl, h16⟩; have hA16 := hA15.below h16 hA15.lt; have hB16 := hB15.below h16 hB15.lt; have hV16 := hV15.below h16 hV15.lt; have hl16 := hl15.trans (h16.mono hl15.size))
        (try go_wp2_with fail)
        refine hK.out _ _ (⟨hA16, hB16, hV16⟩) (fun hHeld => ?_)
        clear hK K
        (try simp only [Act.put, List.setIfInBounds_toArray, List.set_cons_zero, List.set_cons_succ])
        refine take_yes (i := 22) (v := ?_) rfl (by kernel_rfl) (by kernel_rfl) (by kernel_rfl) (fun _ _ _ h => h) (by rfl) ?_ hHeld ?_
        rotate_left
        · (intro w hSw; obtain ⟨hS0, hS1, hS2⟩ := hSw; obtain ⟨z0, z1, z2, z3, z4, z5, z6⟩ := Blk.six (by exact hS0); obtain ⟨z7, z8, z9, z10, z11, z12, z13⟩ := Blk.six (by exact hS1); obtain ⟨z14, z15, z16, z17, z18⟩ := Blk.four (by exact hS2); go_simp; (try with_reducible rfl))
        (try simp only [Act.put, List.setIfInBounds_toArray, List.set_cons_zero, List.set_cons_succ])
        refine take_yes (i := 23) (v := ?_) rfl (by kernel_rfl) (by kernel_rfl) (by kernel_rfl) (fun _ _ _ h => h) (by rfl) ?_ hHeld ?_
        rotate_left
        · (intro w hSw; obtain ⟨hS0, hS1, hS2⟩ := hSw; obtain ⟨z0, z1, z2, z3, z4, z5, z6⟩ := Blk.six (by exact hS0); obtain ⟨z7, z8, z9, z10, z11, z12, z13⟩ := Blk.six (by exact hS1); obtain ⟨z14, z15, z16, z17, z18⟩ := Blk.four (by exact hS2); go_simp; (try with_reducible rfl))
        (try simp only [Act.put, List.setIfInBounds_toArray, List.set_cons_zero, List.set_cons_succ])
        refine wpAnyH_done (by kernel_rfl) ?_ _
        go_wp2
        go_ret
        exact ⟨rfl, hl16⟩
      · by_cases ib : InT b v
        · skip
          have hu : InT (orT (norm a) (norm b)) v := HIN.out.2 (.inr ib)
          have hA8 := hA7.drew
          have hB8 := hB7.drew
          have hV8 := hV7.drew
          have hl8 := hl7.drew
          go_wp2_with fail
          refine wp_region_held_drew (S := (fun W => Blk W (w.heap.size) 25 #[.int .i64 a.kind, .string na, .string ta, .slice A1 a.keys.length a1, .slice A2 a.kids.length a2, .slice A3 a.more.length a3] ∧ Blk W (w.heap.size + 1) 25 #[.int .i64 b.kind, .string nb, .string tb, .slice B1 b.keys.length b1, .slice B2 b.kids.length b2, .slice B3 b.more.length b3] ∧ Blk W (w.heap.size + 1 + 1) 29 #[.int .i64 v.kind, .string v.text, .slice V1 v.keys.length v1, .slice V2 v.kids.length v2])) (by kernel_rfl) (⟨hA8, hB8, hV8⟩) (fun hHeld => ?_)
          refine take_yes (i := 0) (v := ?_) rfl (by kernel_rfl) (by kernel_rfl) (by kernel_rfl) (fun _ _ _ h => h) (by rfl) ?_ hHeld ?_
          rotate_left
          · (intro w hSw; obtain ⟨hS0, hS1, hS2⟩ := hSw; obtain ⟨z0, z1, z2, z3, z4, z5, z6⟩ := Blk.six (by exact hS0); obtain ⟨z7, z8, z9, z10, z11, z12, z13⟩ := Blk.six (by exact hS1); obtain ⟨z14, z15, z16, z17, z18⟩ := Blk.four (by exact hS2); go_simp; (try with_reducible rfl))
          (try simp only [Act.put, List.setIfInBounds_toArray, List.set_cons_zero, List.set_cons_succ])
          refine take_yes (i := 2) (v := ?_) rfl (by kernel_rfl) (by kernel_rfl) (by kernel_rfl) (fun _ _ _ h => h) (by rfl) ?_ hHeld ?_
          rotate_left
          · (intro w hSw; obtain ⟨hS0, hS1, hS2⟩ := hSw; obtain ⟨z0, z1, z2, z3, z4, z5, z6⟩ := Blk.six (by exact hS0); obtain ⟨z7, z8, z9, z10, z11, z12, z13⟩ := Blk.six (by exact hS1); obtain ⟨z14, z15, z16, z17, z18⟩ := Blk.four (by exact hS2); go_simp; (try with_reducible rfl))
          (try simp only [Act.put, List.setIfInBounds_toArray, List.set_cons_zero, List.set_cons_succ])
          refine take_yes (i := 3) (v := ?_) rfl (by kernel_rfl) (by kernel_rfl) (by kernel_rfl) (fun _ _ _ h => h) (by rfl) ?_ hHeld ?_
          rotate_left
          · (intro w hSw; obtain ⟨hS0, hS1, hS2⟩ := hSw; obtain ⟨z0, z1, z2, z3, z4, z5, z6⟩ := Blk.six (by exact hS0); obtain ⟨z7, z8, z9, z10, z11, z12, z13⟩ := Blk.six (by exact hS1); obtain ⟨z14, z15, z16, z17, z18⟩ := Blk.four (by exact hS2); go_simp; (try with_reducible rfl))
          (try simp only [Act.put, List.setIfInBounds_toArray, List.set_cons_zero, List.set_cons_succ])
          refine take_yes (i := 7) (v := ?_) rfl (by kernel_rfl) (by kernel_rfl) (by kernel_rfl) (fun _ _ _ h => h) (by rfl) ?_ hHeld ?_
          rotate_left
          · (intro w hSw; obtain ⟨hS0, hS1, hS2⟩ := hSw; obtain ⟨z0, z1, z2, z3, z4, z5, z6⟩ := Blk.six (by exact hS0); obtain ⟨z7, z8, z9, z10, z11, z12, z13⟩ := Blk.six (by exact hS1); obtain ⟨z14, z15, z16, z17, z18⟩ := Blk.four (by exact hS2); go_simp; (try with_reducible rfl))
          (try simp only [Act.put, List.setIfInBounds_toArray, List.set_cons_zero, List.set_cons_succ])
          refine take_yes (i := 9) (v := ?_) rfl (by kernel_rfl) (by kernel_rfl) (by kernel_rfl) (fun _ _ _ h => h) (by rfl) ?_ hHeld ?_
          rotate_left
          · (intro w hSw; obtain ⟨hS0, hS1, hS2⟩ := hSw; obtain ⟨z0, z1, z2, z3, z4, z5, z6⟩ := Blk.six (by exact hS0); obtain ⟨z7, z8, z9, z10, z11, z12, z13⟩ := Blk.six (by exact hS1); obtain ⟨z14, z15, z16, z17, z18⟩ := Blk.four (by exact hS2); go_simp; (try with_reducible rfl))
          (try simp only [Act.put, List.setIfInBounds_toArray, List.set_cons_zero, List.set_cons_succ])
          refine take_step (i := 1) rfl (by kernel_rfl) (fun K hK => ?_)
          go_simp
          (go_at_call 21; refine (hv.value hl8).mono ?_; rintro e w9 ⟨c1, rfl, r1, h9⟩; have hA9 := hA8.below h9 hA8.lt; have hB9 := hB8.below h9 hB8.lt; have hV9 := hV8.below h9 hV8.lt; have hl9 := hl8.trans (h9.mono hl8.size))
          (try go_wp2_with fail)
          refine hK.out _ _ (⟨hA9, hB9, hV9⟩) (fun hHeld => ?_)
          clear hK K
          (try simp only [Act.put, List.setIfInBounds_toArray, List.set_cons_zero, List.set_cons_succ])
          refine take_step (i := 4) rfl (by kernel_rfl) (fun K hK => ?_)
          go_simp
          (go_at_call 36; refine (or_at ha hb f1 f2 on hl9).mono ?_; rintro e w10 ⟨c2, rfl, r2, h10⟩; have hA10 := hA9.below h10 hA9.lt; have hB10 := hB9.below h10 hB9.lt; have hV10 := hV9.below h10 hV9.lt; have hl10 := hl9.trans (h10.mono hl9.size); obtain ⟨nu, tu, U1, u1, U2, u2, U3, u3, rfl⟩ := r2.rep.shape; have r1' := repV_up r1 h10)
          (try go_wp2_with fail)
          refine hK.out _ _ (⟨hA10, hB10, hV10⟩) (fun hHeld => ?_)
          clear hK K
          (try simp only [Act.put, List.setIfInBounds_toArray, List.set_cons_zero, List.set_cons_succ])
          refine take_step (i := 5) rfl (by kernel_rfl) (fun K hK => ?_)
          go_simp
          (go_at_call 25; refine (kind_at r2.rep on.bulk).mono ?_; rintro e w11 ⟨c3, rfl, r3, h11⟩; have hA11 := hA10.below h11 hA10.lt; have hB11 := hB10.below h11 hB10.lt; have hV11 := hV10.below h11 hV10.lt; have hl11 := hl10.trans (h11.mono hl10.size); have r1'' := repV_up r1' h11)
          (try go_wp2_with fail)
          refine hK.out _ _ (⟨hA11, hB11, hV11⟩) (fun hHeld => ?_)
          clear hK K
          (try simp only [Act.put, List.setIfInBounds_toArray, List.set_cons_zero, List.set_cons_succ])
          refine take_step (i := 6) rfl (by kernel_rfl) (fun K hK => ?_)
          go_simp
          (go_at_call 24; refine ((in_at r1'' r3 hok hv.bulk on.kpt.proper on.bulk).mono fun _ _ h => h.sure hu).mono ?_; rintro e w12 ⟨rfl, h12⟩; have hA12 := hA11.below h12 hA11.lt; have hB12 := hB11.below h12 hB11.lt; have hV12 := hV11.below h12 hV11.lt; have hl12 := hl11.trans (h12.mono hl11.size))
          (try go_wp2_with fail)
          refine hK.out _ _ (⟨hA12, hB12, hV12⟩) (fun hHeld => ?_)
          clear hK K
          (try simp only [Act.put, List.setIfInBounds_toArray, List.set_cons_zero, List.set_cons_succ])
          refine take_step (i := 8) rfl (by kernel_rfl) (fun K hK => ?_)
          go_simp
          (go_at_call 21; refine (hv.value hl12).mono ?_; rintro e w13 ⟨c4, rfl, r4, h13⟩; have hA13 := hA12.below h13 hA12.lt; have hB13 := hB12.below h13 hB12.lt; have hV13 := hV12.below h13 hV12.lt; have hl13 := hl12.trans (h13.mono hl12.size))
          (try go_wp2_with fail)
          refine hK.out _ _ (⟨hA13, hB13, hV13⟩) (fun hHeld => ?_)
          clear hK K
          (try simp only [Act.put, List.setIfInBounds_toArray, List.set_cons_zero, List.set_cons_succ])
          refine take_step (i := 10) rfl (by kernel_rfl) (fun K hK => ?_)
          go_simp
          (go_at_call 25; refine (ha.kind hl13).mono ?_; rintro e w14 ⟨c5, rfl, r5, h14⟩; have hA14 := hA13.below h14 hA13.lt; have hB14 := hB13.below h14 hB13.lt; have hV14 := hV13.below h14 hV13.lt; have hl14 := hl13.trans (h14.mono hl13.size); have r4' := repV_up r4 h14)
          (try go_wp2_with fail)
          refine hK.out _ _ (⟨hA14, hB14, hV14⟩) (fun hHeld => ?_)
          clear hK K
          (try simp only [Act.put, List.setIfInBounds_toArray, List.set_cons_zero, List.set_cons_succ])
          refine take_step (i := 11) rfl (by kernel_rfl) (fun K hK => ?_)
          go_simp
          (go_at_call 24; refine ((in_at r4' r5 hok hv.bulk n1.1 ha.bulk).mono fun _ _ h => h.never ia).mono ?_; rintro e w15 ⟨rfl, h15⟩; have hA15 := hA14.below h15 hA14.lt; have hB15 := hB14.below h15 hB14.lt; have hV15 := hV14.below h15 hV14.lt; have hl15 := hl14.trans (h15.mono hl14.size))
          (try go_wp2_with fail)
          refine hK.out _ _ (⟨hA15, hB15, hV15⟩) (fun hHeld => ?_)
          clear hK K
          (try simp only [Act.put, List.setIfInBounds_toArray, List.set_cons_zero, List.set_cons_succ])
          refine take_yes (i := 12) (v := ?_) rfl (by kernel_rfl) (by kernel_rfl) (by kernel_rfl) (fun _ _ _ h => h) (by rfl) ?_ hHeld ?_
          rotate_left
          · (intro w hSw; obtain ⟨hS0, hS1, hS2⟩ := hSw; obtain ⟨z0, z1, z2, z3, z4, z5, z6⟩ := Blk.six (by exact hS0); obtain ⟨z7, z8, z9, z10, z11, z12, z13⟩ := Blk.six (by exact hS1); obtain ⟨z14, z15, z16, z17, z18⟩ := Blk.four (by exact hS2); go_simp; (try with_reducible rfl))
          (try simp only [Act.put, List.setIfInBounds_toArray, List.set_cons_zero, List.set_cons_succ])
          refine take_yes (i := 13) (v := ?_) rfl (by kernel_rfl) (by kernel_rfl) (by kernel_rfl) (fun _ _ _ h => h) (by rfl) ?_ hHeld ?_
          rotate_left
          · (intro w hSw; obtain ⟨hS0, hS1, hS2⟩ := hSw; obtain ⟨z0, z1, z2, z3, z4, z5, z6⟩ := Blk.six (by exact hS0); obtain ⟨z7, z8, z9, z10, z11, z12, z13⟩ := Blk.six (by exact hS1); obtain ⟨z14, z15, z16, z17, z18⟩ := Blk.four (by exact hS2); go_simp; (try with_reducible rfl))
          (try simp only [Act.put, List.setIfInBounds_toArray, List.set_cons_zero, List.set_cons_succ])
          refine take_yes (i := 15) (v := ?_) rfl (by kernel_rfl) (by kernel_rfl) (by kernel_rfl) (fun _ _ _ h => h) (by rfl) ?_ hHeld ?_
          rotate_left
          · (intro w hSw; obtain ⟨hS0, hS1, hS2⟩ := hSw; obtain ⟨z0, z1, z2, z3, z4, z5, z6⟩ := Blk.six (by exact hS0); obtain ⟨z7, z8, z9, z10, z11, z12, z13⟩ := Blk.six (by exact hS1); obtain ⟨z14, z15, z16, z17, z18⟩ := Blk.four (by exact hS2); go_simp; (try with_reducible rfl))
          (try simp only [Act.put, List.setIfInBounds_toArray, List.set_cons_zero, List.set_cons_succ])
          refine take_step (i := 14) rfl (by kernel_rfl) (fun K hK => ?_)
          go_simp
          (go_at_call 21; refine (hv.value hl15).mono ?_; rintro e w16 ⟨c6, rfl, r6, h16⟩; have hA16 := hA15.below h16 hA15.lt; have hB16 := hB15.below h16 hB15.lt; have hV16 := hV15.below h16 hV15.lt; have hl16 := hl15.trans (h16.mono hl15.size))
          (try go_wp2_with fail)
          refine hK.out _ _ (⟨hA16, hB16, hV16⟩) (fun hHeld => ?_)
          clear hK K
          (try simp only [Act.put, List.setIfInBounds_toArray, List.set_cons_zero, List.set_cons_succ])
          refine take_step (i := 16) rfl (by kernel_rfl) (fun K hK => ?_)
          go_simp
          (go_at_call 25; refine (hb.kind hl16).mono ?_; rintro e w17 ⟨c7, rfl, r7, h17⟩; have hA17 := hA16.below h17 hA16.lt; have hB17 := hB16.below h17 hB16.lt; have hV17 := hV16.below h17 hV16.lt; have hl17 := hl16.trans (h17.mono hl16.size); have r6' := repV_up r6 h17)
          (try go_wp2_with fail)
          refine hK.out _ _ (⟨hA17, hB17, hV17⟩) (fun hHeld => ?_)
          clear hK K
          (try simp only [Act.put, List.setIfInBounds_toArray, List.set_cons_zero, List.set_cons_succ])
          refine take_step (i := 17) rfl (by kernel_rfl) (fun K hK => ?_)
          go_simp
          (go_at_call 24; refine ((in_at r6' r7 hok hv.bulk n2.1 hb.bulk).mono fun _ _ h => h.sure ib).mono ?_; rintro e w18 ⟨rfl, h18⟩; have hA18 := hA17.below h18 hA17.lt; have hB18 := hB17.below h18 hB17.lt; have hV18 := hV17.below h18 hV17.lt; have hl18 := hl17.trans (h18.mono hl17.size))
          (try go_wp2_with fail)
          refine hK.out _ _ (⟨hA18, hB18, hV18⟩) (fun hHeld => ?_)
          clear hK K
          (try simp only [Act.put, List.setIfInBounds_toArray, List.set_cons_zero, List.set_cons_succ])
          refine take_yes (i := 18) (v := ?_) rfl (by kernel_rfl) (by kernel_rfl) (by kernel_rfl) (fun _ _ _ h => h) (by rfl) ?_ hHeld ?_
          rotate_left
          · (intro w hSw; obtain ⟨hS0, hS1, hS2⟩ := hSw; obtain ⟨z0, z1, z2, z3, z4, z5, z6⟩ := Blk.six (by exact hS0); obtain ⟨z7, z8, z9, z10, z11, z12, z13⟩ := Blk.six (by exact hS1); obtain ⟨z14, z15, z16, z17, z18⟩ := Blk.four (by exact hS2); go_simp; (try with_reducible rfl))
          (try simp only [Act.put, List.setIfInBounds_toArray, List.set_cons_zero, List.set_cons_succ])
          refine take_yes (i := 19) (v := ?_) rfl (by kernel_rfl) (by kernel_rfl) (by kernel_rfl) (fun _ _ _ h => h) (by rfl) ?_ hHeld ?_
          rotate_left
          · (intro w hSw; obtain ⟨hS0, hS1, hS2⟩ := hSw; obtain ⟨z0, z1, z2, z3, z4, z5, z6⟩ := Blk.six (by exact hS0); obtain ⟨z7, z8, z9, z10, z11, z12, z13⟩ := Blk.six (by exact hS1); obtain ⟨z14, z15, z16, z17, z18⟩ := Blk.four (by exact hS2); go_simp; (try with_reducible rfl))
          (try simp only [Act.put, List.setIfInBounds_toArray, List.set_cons_zero, List.set_cons_succ])
          refine take_yes (i := 20) (v := ?_) rfl (by kernel_rfl) (by kernel_rfl) (by kernel_rfl) (fun _ _ _ h => h) (by rfl) ?_ hHeld ?_
          rotate_left
          · (intro w hSw; obtain ⟨hS0, hS1, hS2⟩ := hSw; obtain ⟨z0, z1, z2, z3, z4, z5, z6⟩ := Blk.six (by exact hS0); obtain ⟨z7, z8, z9, z10, z11, z12, z13⟩ := Blk.six (by exact hS1); obtain ⟨z14, z15, z16, z17, z18⟩ := Blk.four (by exact hS2); go_simp; (try with_reducible rfl))
          (try simp only [Act.put, List.setIfInBounds_toArray, List.set_cons_zero, List.set_cons_succ])
          refine take_step (i := 21) rfl (by kernel_rfl) (fun K hK => ?_)
          go_simp
          (go_at_call 23; refine (works_any _).mono ?_; rintro e w19 ⟨rfl, h19⟩; have hA19 := hA18.below h19 hA18.lt; have hB19 := hB18.below h19 hB18.lt; have hV19 := hV18.below h19 hV18.lt; have hl19 := hl18.trans (h19.mono hl18.size))
          (try go_wp2_with fail)
          refine hK.out _ _ (⟨hA19, hB19, hV19⟩) (fun hHeld => ?_)
          clear hK K
          (try simp only [Act.put, List.setIfInBounds_toArray, List.set_cons_zero, List.set_cons_succ])
          refine take_yes (i := 22) (v := ?_) rfl (by kernel_rfl) (by kernel_rfl) (by kernel_rfl) (fun _ _ _ h => h) (by rfl) ?_ hHeld ?_
          rotate_left
          · (intro w hSw; obtain ⟨hS0, hS1, hS2⟩ := hSw; obtain ⟨z0, z1, z2, z3, z4, z5, z6⟩ := Blk.six (by exact hS0); obtain ⟨z7, z8, z9, z10, z11, z12, z13⟩ := Blk.six (by exact hS1); obtain ⟨z14, z15, z16, z17, z18⟩ := Blk.four (by exact hS2); go_simp; (try with_reducible rfl))
          (try simp only [Act.put, List.setIfInBounds_toArray, List.set_cons_zero, List.set_cons_succ])
          refine take_yes (i := 23) (v := ?_) rfl (by kernel_rfl) (by kernel_rfl) (by kernel_rfl) (fun _ _ _ h => h) (by rfl) ?_ hHeld ?_
          rotate_left
          · (intro w hSw; obtain ⟨hS0, hS1, hS2⟩ := hSw; obtain ⟨z0, z1, z2, z3, z4, z5, z6⟩ := Blk.six (by exact hS0); obtain ⟨z7, z8, z9, z10, z11, z12, z13⟩ := Blk.six (by exact hS1); obtain ⟨z14, z15, z16, z17, z18⟩ := Blk.four (by exact hS2); go_simp; (try with_reducible rfl))
          (try simp only [Act.put, List.setIfInBounds_toArray, List.set_cons_zero, List.set_cons_succ])
          refine wpAnyH_done (by kernel_rfl) ?_ _
          go_wp2
          go_ret
          exact ⟨rfl, hl19⟩
        · skip
          have hu : ¬ InT (orT (norm a) (norm b)) v := fun h => (HIN.out.1 h).elim ia ib
          have hA8 := hA7.drew
          have hB8 := hB7.drew
          have hV8 := hV7.drew
          have hl8 := hl7.drew
          go_wp2_with fail
          refine wp_region_held_drew (S := (fun W => Blk W (w.heap.size) 25 #[.int .i64 a.kind, .string na, .string ta, .slice A1 a.keys.length a1, .slice A2 a.kids.length a2, .slice A3 a.more.length a3] ∧ Blk W (w.heap.size + 1) 25 #[.int .i64 b.kind, .string nb, .string tb, .slice B1 b.keys.length b1, .slice B2 b.kids.length b2, .slice B3 b.more.length b3] ∧ Blk W (w.heap.size + 1 + 1) 29 #[.int .i64 v.kind, .string v.text, .slice V1 v.keys.length v1, .slice V2 v.kids.length v2])) (by kernel_rfl) (⟨hA8, hB8, hV8⟩) (fun hHeld => ?_)
          refine take_yes (i := 0) (v := ?_) rfl (by kernel_rfl) (by kernel_rfl) (by kernel_rfl) (fun _ _ _ h => h) (by rfl) ?_ hHeld ?_
          rotate_left
          · (intro w hSw; obtain ⟨hS0, hS1, hS2⟩ := hSw; obtain ⟨z0, z1, z2, z3, z4, z5, z6⟩ := Blk.six (by exact hS0); obtain ⟨z7, z8, z9, z10, z11, z12, z13⟩ := Blk.six (by exact hS1); obtain ⟨z14, z15, z16, z17, z18⟩ := Blk.four (by exact hS2); go_simp; (try with_reducible rfl))
          (try simp only [Act.put, List.setIfInBounds_toArray, List.set_cons_zero, List.set_cons_succ])
          refine take_yes (i := 2) (v := ?_) rfl (by kernel_rfl) (by kernel_rfl) (by kernel_rfl) (fun _ _ _ h => h) (by rfl) ?_ hHeld ?_
          rotate_left
          · (intro w hSw; obtain ⟨hS0, hS1, hS2⟩ := hSw; obtain ⟨z0, z1, z2, z3, z4, z5, z6⟩ := Blk.six (by exact hS0); obtain ⟨z7, z8, z9, z10, z11, z12, z13⟩ := Blk.six (by exact hS1); obtain ⟨z14, z15, z16, z17, z18⟩ := Blk.four (by exact hS2); go_simp; (try with_reducible rfl))
          (try simp only [Act.put, List.setIfInBounds_toArray, List.set_cons_zero, List.set_cons_succ])
          refine take_yes (i := 3) (v := ?_) rfl (by kernel_rfl) (by kernel_rfl) (by kernel_rfl) (fun _ _ _ h => h) (by rfl) ?_ hHeld ?_
          rotate_left
          · (intro w hSw; obtain ⟨hS0, hS1, hS2⟩ := hSw; obtain ⟨z0, z1, z2, z3, z4, z5, z6⟩ := Blk.six (by exact hS0); obtain ⟨z7, z8, z9, z10, z11, z12, z13⟩ := Blk.six (by exact hS1); obtain ⟨z14, z15, z16, z17, z18⟩ := Blk.four (by exact hS2); go_simp; (try with_reducible rfl))
          (try simp only [Act.put, List.setIfInBounds_toArray, List.set_cons_zero, List.set_cons_succ])
          refine take_yes (i := 7) (v := ?_) rfl (by kernel_rfl) (by kernel_rfl) (by kernel_rfl) (fun _ _ _ h => h) (by rfl) ?_ hHeld ?_
          rotate_left
          · (intro w hSw; obtain ⟨hS0, hS1, hS2⟩ := hSw; obtain ⟨z0, z1, z2, z3, z4, z5, z6⟩ := Blk.six (by exact hS0); obtain ⟨z7, z8, z9, z10, z11, z12, z13⟩ := Blk.six (by exact hS1); obtain ⟨z14, z15, z16, z17, z18⟩ := Blk.four (by exact hS2); go_simp; (try with_reducible rfl))
          (try simp only [Act.put, List.setIfInBounds_toArray, List.set_cons_zero, List.set_cons_succ])
          refine take_yes (i := 9) (v := ?_) rfl (by kernel_rfl) (by kernel_rfl) (by kernel_rfl) (fun _ _ _ h => h) (by rfl) ?_ hHeld ?_
          rotate_left
          · (intro w hSw; obtain ⟨hS0, hS1, hS2⟩ := hSw; obtain ⟨z0, z1, z2, z3, z4, z5, z6⟩ := Blk.six (by exact hS0); obtain ⟨z7, z8, z9, z10, z11, z12, z13⟩ := Blk.six (by exact hS1); obtain ⟨z14, z15, z16, z17, z18⟩ := Blk.four (by exact hS2); go_simp; (try with_reducible rfl))
          (try simp only [Act.put, List.setIfInBounds_toArray, List.set_cons_zero, List.set_cons_succ])
          refine take_step (i := 1) rfl (by kernel_rfl) (fun K hK => ?_)
          go_simp
          (go_at_call 21; refine (hv.value hl8).mono ?_; rintro e w9 ⟨c1, rfl, r1, h9⟩; have hA9 := hA8.below h9 hA8.lt; have hB9 := hB8.below h9 hB8.lt; have hV9 := hV8.below h9 hV8.lt; have hl9 := hl8.trans (h9.mono hl8.size))
          (try go_wp2_with fail)
          refine hK.out _ _ (⟨hA9, hB9, hV9⟩) (fun hHeld => ?_)
          clear hK K
          (try simp only [Act.put, List.setIfInBounds_toArray, List.set_cons_zero, List.set_cons_succ])
          refine take_step (i := 4) rfl (by kernel_rfl) (fun K hK => ?_)
          go_simp
          (go_at_call 36; refine (or_at ha hb f1 f2 on hl9).mono ?_; rintro e w10 ⟨c2, rfl, r2, h10⟩; have hA10 := hA9.below h10 hA9.lt; have hB10 := hB9.below h10 hB9.lt; have hV10 := hV9.below h10 hV9.lt; have hl10 := hl9.trans (h10.mono hl9.size); obtain ⟨nu, tu, U1, u1, U2, u2, U3, u3, rfl⟩ := r2.rep.shape; have r1' := repV_up r1 h10)
          (try go_wp2_with fail)
          refine hK.out _ _ (⟨hA10, hB10, hV10⟩) (fun hHeld => ?_)
          clear hK K
          (try simp only [Act.put, List.setIfInBounds_toArray, List.set_cons_zero, List.set_cons_succ])
          refine take_step (i := 5) rfl (by kernel_rfl) (fun K hK => ?_)
          go_simp
          (go_at_call 25; refine (kind_at r2.rep on.bulk).mono ?_; rintro e w11 ⟨c3, rfl, r3, h11⟩; have hA11 := hA10.below h11 hA10.lt; have hB11 := hB10.below h11 hB10.lt; have hV11 := hV10.below h11 hV10.lt; have hl11 := hl10.trans (h11.mono hl10.size); have r1'' := repV_up r1' h11)
          (try go_wp2_with fail)
          refine hK.out _ _ (⟨hA11, hB11, hV11⟩) (fun hHeld => ?_)
          clear hK K
          (try simp only [Act.put, List.setIfInBounds_toArray, List.set_cons_zero, List.set_cons_succ])
          refine take_step (i := 6) rfl (by kernel_rfl) (fun K hK => ?_)
          go_simp
          (go_at_call 24; refine ((in_at r1'' r3 hok hv.bulk on.kpt.proper on.bulk).mono fun _ _ h => h.never hu).mono ?_; rintro e w12 ⟨rfl, h12⟩; have hA12 := hA11.below h12 hA11.lt; have hB12 := hB11.below h12 hB11.lt; have hV12 := hV11.below h12 hV11.lt; have hl12 := hl11.trans (h12.mono hl11.size))
          (try go_wp2_with fail)
          refine hK.out _ _ (⟨hA12, hB12, hV12⟩) (fun hHeld => ?_)
          clear hK K
          (try simp only [Act.put, List.setIfInBounds_toArray, List.set_cons_zero, List.set_cons_succ])
          refine take_step (i := 8) rfl (by kernel_rfl) (fun K hK => ?_)
          go_simp
          (go_at_call 21; refine (hv.value hl12).mono ?_; rintro e w13 ⟨c4, rfl, r4, h13⟩; have hA13 := hA12.below h13 hA12.lt; have hB13 := hB12.below h13 hB12.lt; have hV13 := hV12.below h13 hV12.lt; have hl13 := hl12.trans (h13.mono hl12.size))
          (try go_wp2_with fail)
          refine hK.out _ _ (⟨hA13, hB13, hV13⟩) (fun hHeld => ?_)
          clear hK K
          (try simp only [Act.put, List.setIfInBounds_toArray, List.set_cons_zero, List.set_cons_succ])
          refine take_step (i := 10) rfl (by kernel_rfl) (fun K hK => ?_)
          go_simp
          (go_at_call 25; refine (ha.kind hl13).mono ?_; rintro e w14 ⟨c5, rfl, r5, h14⟩; have hA14 := hA13.below h14 hA13.lt; have hB14 := hB13.below h14 hB13.lt; have hV14 := hV13.below h14 hV13.lt; have hl14 := hl13.trans (h14.mono hl13.size); have r4' := repV_up r4 h14)
          (try go_wp2_with fail)
          refine hK.out _ _ (⟨hA14, hB14, hV14⟩) (fun hHeld => ?_)
          clear hK K
          (try simp only [Act.put, List.setIfInBounds_toArray, List.set_cons_zero, List.set_cons_succ])
          refine take_step (i := 11) rfl (by kernel_rfl) (fun K hK => ?_)
          go_simp
          (go_at_call 24; refine ((in_at r4' r5 hok hv.bulk n1.1 ha.bulk).mono fun _ _ h => h.never ia).mono ?_; rintro e w15 ⟨rfl, h15⟩; have hA15 := hA14.below h15 hA14.lt; have hB15 := hB14.below h15 hB14.lt; have hV15 := hV14.below h15 hV14.lt; have hl15 := hl14.trans (h15.mono hl14.size))
          (try go_wp2_with fail)
          refine hK.out _ _ (⟨hA15, hB15, hV15⟩) (fun hHeld => ?_)
          clear hK K
          (try simp only [Act.put, List.setIfInBounds_toArray, List.set_cons_zero, List.set_cons_succ])
          refine take_yes (i := 12) (v := ?_) rfl (by kernel_rfl) (by kernel_rfl) (by kernel_rfl) (fun _ _ _ h => h) (by rfl) ?_ hHeld ?_
          rotate_left
          · (intro w hSw; obtain ⟨hS0, hS1, hS2⟩ := hSw; obtain ⟨z0, z1, z2, z3, z4, z5, z6⟩ := Blk.six (by exact hS0); obtain ⟨z7, z8, z9, z10, z11, z12, z13⟩ := Blk.six (by exact hS1); obtain ⟨z14, z15, z16, z17, z18⟩ := Blk.four (by exact hS2); go_simp; (try with_reducible rfl))
          (try simp only [Act.put, List.setIfInBounds_toArray, List.set_cons_zero, List.set_cons_succ])
          refine take_yes (i := 13) (v := ?_) rfl (by kernel_rfl) (by kernel_rfl) (by kernel_rfl) (fun _ _ _ h => h) (by rfl) ?_ hHeld ?_
          rotate_left
          · (intro w hSw; obtain ⟨hS0, hS1, hS2⟩ := hSw; obtain ⟨z0, z1, z2, z3, z4, z5, z6⟩ := Blk.six (by exact hS0); obtain ⟨z7, z8, z9, z10, z11, z12, z13⟩ := Blk.six (by exact hS1); obtain ⟨z14, z15, z16, z17, z18⟩ := Blk.four (by exact hS2); go_simp; (try with_reducible rfl))
          (try simp only [Act.put, List.setIfInBounds_toArray, List.set_cons_zero, List.set_cons_succ])
          refine take_yes (i := 15) (v := ?_) rfl (by kernel_rfl) (by kernel_rfl) (by kernel_rfl) (fun _ _ _ h => h) (by rfl) ?_ hHeld ?_
          rotate_left
          · (intro w hSw; obtain ⟨hS0, hS1, hS2⟩ := hSw; obtain ⟨z0, z1, z2, z3, z4, z5, z6⟩ := Blk.six (by exact hS0); obtain ⟨z7, z8, z9, z10, z11, z12, z13⟩ := Blk.six (by exact hS1); obtain ⟨z14, z15, z16, z17, z18⟩ := Blk.four (by exact hS2); go_simp; (try with_reducible rfl))
          (try simp only [Act.put, List.setIfInBounds_toArray, List.set_cons_zero, List.set_cons_succ])
          refine take_step (i := 14) rfl (by kernel_rfl) (fun K hK => ?_)
          go_simp
          (go_at_call 21; refine (hv.value hl15).mono ?_; rintro e w16 ⟨c6, rfl, r6, h16⟩; have hA16 := hA15.below h16 hA15.lt; have hB16 := hB15.below h16 hB15.lt; have hV16 := hV15.below h16 hV15.lt; have hl16 := hl15.trans (h16.mono hl15.size))
          (try go_wp2_with fail)
          refine hK.out _ _ (⟨hA16, hB16, hV16⟩) (fun hHeld => ?_)
          clear hK K
          (try simp only [Act.put, List.setIfInBounds_toArray, List.set_cons_zero, List.set_cons_succ])
          refine take_step (i := 16) rfl (by kernel_rfl) (fun K hK => ?_)
          go_simp
          (go_at_call 25; refine (hb.kind hl16).mono ?_; rintro e w17 ⟨c7, rfl, r7, h17⟩; have hA17 := hA16.below h17 hA16.lt; have hB17 := hB16.below h17 hB16.lt; have hV17 := hV16.below h17 hV16.lt; have hl17 := hl16.trans (h17.mono hl16.size); have r6' := repV_up r6 h17)
          (try go_wp2_with fail)
          refine hK.out _ _ (⟨hA17, hB17, hV17⟩) (fun hHeld => ?_)
          clear hK K
          (try simp only [Act.put, List.setIfInBounds_toArray, List.set_cons_zero, List.set_cons_succ])
          refine take_step (i := 17) rfl (by kernel_rfl) (fun K hK => ?_)
          go_simp
          (go_at_call 24; refine ((in_at r6' r7 hok hv.bulk n2.1 hb.bulk).mono fun _ _ h => h.never ib).mono ?_; rintro e w18 ⟨rfl, h18⟩; have hA18 := hA17.below h18 hA17.lt; have hB18 := hB17.below h18 hB17.lt; have hV18 := hV17.below h18 hV17.lt; have hl18 := hl17.trans (h18.mono hl17.size))
          (try go_wp2_with fail)
          refine hK.out _ _ (⟨hA18, hB18, hV18⟩) (fun hHeld => ?_)
          clear hK K
          (try simp only [Act.put, List.setIfInBounds_toArray, List.set_cons_zero, List.set_cons_succ])
          refine take_yes (i := 18) (v := ?_) rfl (by kernel_rfl) (by kernel_rfl) (by kernel_rfl) (fun _ _ _ h => h) (by rfl) ?_ hHeld ?_
          rotate_left
          · (intro w hSw; obtain ⟨hS0, hS1, hS2⟩ := hSw; obtain ⟨z0, z1, z2, z3, z4, z5, z6⟩ := Blk.six (by exact hS0); obtain ⟨z7, z8, z9, z10, z11, z12, z13⟩ := Blk.six (by exact hS1); obtain ⟨z14, z15, z16, z17, z18⟩ := Blk.four (by exact hS2); go_simp; (try with_reducible rfl))
          (try simp only [Act.put, List.setIfInBounds_toArray, List.set_cons_zero, List.set_cons_succ])
          refine take_yes (i := 19) (v := ?_) rfl (by kernel_rfl) (by kernel_rfl) (by kernel_rfl) (fun _ _ _ h => h) (by rfl) ?_ hHeld ?_
          rotate_left
          · (intro w hSw; obtain ⟨hS0, hS1, hS2⟩ := hSw; obtain ⟨z0, z1, z2, z3, z4, z5, z6⟩ := Blk.six (by exact hS0); obtain ⟨z7, z8, z9, z10, z11, z12, z13⟩ := Blk.six (by exact hS1); obtain ⟨z14, z15, z16, z17, z18⟩ := Blk.four (by exact hS2); go_simp; (try with_reducible rfl))
          (try simp only [Act.put, List.setIfInBounds_toArray, List.set_cons_zero, List.set_cons_succ])
          refine take_yes (i := 20) (v := ?_) rfl (by kernel_rfl) (by kernel_rfl) (by kernel_rfl) (fun _ _ _ h => h) (by rfl) ?_ hHeld ?_
          rotate_left
          · (intro w hSw; obtain ⟨hS0, hS1, hS2⟩ := hSw; obtain ⟨z0, z1, z2, z3, z4, z5, z6⟩ := Blk.six (by exact hS0); obtain ⟨z7, z8, z9, z10, z11, z12, z13⟩ := Blk.six (by exact hS1); obtain ⟨z14, z15, z16, z17, z18⟩ := Blk.four (by exact hS2); go_simp; (try with_reducible rfl))
          (try simp only [Act.put, List.setIfInBounds_toArray, List.set_cons_zero, List.set_cons_succ])
          refine take_step (i := 21) rfl (by kernel_rfl) (fun K hK => ?_)
          go_simp
          (go_at_call 23; refine (works_any _).mono ?_; rintro e w19 ⟨rfl, h19⟩; have hA19 := hA18.below h19 hA18.lt; have hB19 := hB18.below h19 hB18.lt; have hV19 := hV18.below h19 hV18.lt; have hl19 := hl18.trans (h19.mono hl18.size))
          (try go_wp2_with fail)
          refine hK.out _ _ (⟨hA19, hB19, hV19⟩) (fun hHeld => ?_)
          clear hK K
          (try simp only [Act.put, List.setIfInBounds_toArray, List.set_cons_zero, List.set_cons_succ])
          refine take_yes (i := 22) (v := ?_) rfl (by kernel_rfl) (by kernel_rfl) (by kernel_rfl) (fun _ _ _ h => h) (by rfl) ?_ hHeld ?_
          rotate_left
          · (intro w hSw; obtain ⟨hS0, hS1, hS2⟩ := hSw; obtain ⟨z0, z1, z2, z3, z4, z5, z6⟩ := Blk.six (by exact hS0); obtain ⟨z7, z8, z9, z10, z11, z12, z13⟩ := Blk.six (by exact hS1); obtain ⟨z14, z15, z16, z17, z18⟩ := Blk.four (by exact hS2); go_simp; (try with_reducible rfl))
          (try simp only [Act.put, List.setIfInBounds_toArray, List.set_cons_zero, List.set_cons_succ])
          refine take_yes (i := 23) (v := ?_) rfl (by kernel_rfl) (by kernel_rfl) (by kernel_rfl) (fun _ _ _ h => h) (by rfl) ?_ hHeld ?_
          rotate_left
          · (intro w hSw; obtain ⟨hS0, hS1, hS2⟩ := hSw; obtain ⟨z0, z1, z2, z3, z4, z5, z6⟩ := Blk.six (by exact hS0); obtain ⟨z7, z8, z9, z10, z11, z12, z13⟩ := Blk.six (by exact hS1); obtain ⟨z14, z15, z16, z17, z18⟩ := Blk.four (by exact hS2); go_simp; (try with_reducible rfl))
          (try simp only [Act.put, List.setIfInBounds_toArray, List.set_cons_zero, List.set_cons_succ])
          refine wpAnyH_done (by kernel_rfl) ?_ _
          go_wp2
          go_ret
          exact ⟨rfl, hl19⟩

end Go.Proofs.YtpmfjbmfjfhghaaGreat
