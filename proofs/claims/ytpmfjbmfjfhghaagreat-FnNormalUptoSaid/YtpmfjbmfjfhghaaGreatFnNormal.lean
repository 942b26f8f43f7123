/-
  'laws.FnNormal': THE WALK (laid by gen_normal.py).
-/
import Derived.Test.YtpmfjbmfjfhghaaGreatLaw
import Derived.Test.YtpmfjbmfjfhghaaGreatPl
namespace Go.Proofs.YtpmfjbmfjfhghaaGreat
open Go.RowKit

theorem normal_at {t : Tr} {cs : List Value} {w W : World} (h : TA w t cs) (n : Nice t) (hW : Below w.heap.size w W) :
    Calls Tryz.prog 27 #[.agg cs.toArray] W fun e w' => ∃ cs', e = .returned (.agg cs'.toArray) ∧ repI w' (fun b => b < w'.heap.size) (norm t) cs' ∧ Below W.heap.size W w' :=
  (implNormal_any t cs W _ (h.up hW).rep (fun _ h => h) n).mono fun _ _ ⟨cs', he, hr, hB⟩ => ⟨cs', he, hr.kept (Kept.refl (fun _ => True) _) (fun _ _ => trivial) fun _ hb => hb.2, hB⟩

set_option maxHeartbeats 4000000 in
set_option maxRecDepth 100000 in
theorem fnNormal_walk (a : Tr) (v : Vl) (ca cv : List Value) (w : World) (ha : TA w a ca) (hv : VA w v cv) :
    Calls Tryz.prog 7 #[.agg ca.toArray, .agg cv.toArray] w (TruePost w) := by
  obtain ⟨na, ta, A1, a1, A2, a2, A3, a3, rfl⟩ := ha.rep.shape
  obtain ⟨V1, v1, V2, v2, rfl⟩ := hv.rep.shape
  have hA0 : Blk ((w.alloc (.cells #[.int .i64 a.kind, .string na, .string ta, .slice A1 a.keys.length a1, .slice A2 a.kids.length a2, .slice A3 a.more.length a3] 25)).alloc (.cells #[.int .i64 v.kind, .string v.text, .slice V1 v.keys.length v1, .slice V2 v.kids.length v2] 29)) (w.heap.size) 25 #[.int .i64 a.kind, .string na, .string ta, .slice A1 a.keys.length a1, .slice A2 a.kids.length a2, .slice A3 a.more.length a3] := by simpa using ((Blk.new (w) _ _)).alloc _
  have hV0 : Blk ((w.alloc (.cells #[.int .i64 a.kind, .string na, .string ta, .slice A1 a.keys.length a1, .slice A2 a.kids.length a2, .slice A3 a.more.length a3] 25)).alloc (.cells #[.int .i64 v.kind, .string v.text, .slice V1 v.keys.length v1, .slice V2 v.kids.length v2] 29)) (w.heap.size + 1) 29 #[.int .i64 v.kind, .string v.text, .slice V1 v.keys.length v1, .slice V2 v.kids.length v2] := by simpa using (Blk.new (w.alloc _) _ _)
  have hl0 : Below w.heap.size w ((w.alloc (.cells #[.int .i64 a.kind, .string na, .string ta, .slice A1 a.keys.length a1, .slice A2 a.kids.length a2, .slice A3 a.more.length a3] 25)).alloc (.cells #[.int .i64 v.kind, .string v.text, .slice V1 v.keys.length v1, .slice V2 v.kids.length v2] 29)) := ((Below.refl w.heap.size w).alloc (Nat.le_refl _) _).alloc (by simp) _
  go_enter Tryz.func7, Tryz.ntmps7
  go_wp2_with fail
  refine (ha.fits hl0).mono ?_
  rintro e w1 ⟨rfl, h1⟩
  have hA1 := hA0.below h1 hA0.lt
  have hV1 := hV0.below h1 hV0.lt
  have hl1 := hl0.trans (h1.mono hl0.size)
  clear hA0 hV0 hl0 h1
  obtain ⟨q0, q1, q2, q3, q4⟩ := hV1.four
  go_wp2_with fail
  refine (hv.fits hl1).mono ?_
  rintro e w2 ⟨rfl, h2⟩
  have hA2 := hA1.below h2 hA1.lt
  have hV2 := hV1.below h2 hV1.lt
  have hl2 := hl1.trans (h2.mono hl1.size)
  clear q0 q1 q2 q3 q4
  clear hA1 hV1 hl1 h2
  obtain ⟨q0, q1, q2, q3, q4, q5, q6⟩ := hA2.six
  have hp := ha.proper1 (c := 1) (hl2.alloc hl2.size (.cells #[.int .i64 a.kind, .string na, .string ta, .slice A1 a.keys.length a1, .slice A2 a.kids.length a2, .slice A3 a.more.length a3] 25)) (new_row [.int .i64 a.kind, .string na, .string ta, .slice A1 a.keys.length a1, .slice A2 a.kids.length a2, .slice A3 a.more.length a3] _)
  have hA3 := hA2.alloc (.cells #[.int .i64 a.kind, .string na, .string ta, .slice A1 a.keys.length a1, .slice A2 a.kids.length a2, .slice A3 a.more.length a3] 25)
  have hV3 := hV2.alloc (.cells #[.int .i64 a.kind, .string na, .string ta, .slice A1 a.keys.length a1, .slice A2 a.kids.length a2, .slice A3 a.more.length a3] 25)
  have hl3 := hl2.alloc hl2.size  (.cells #[.int .i64 a.kind, .string na, .string ta, .slice A1 a.keys.length a1, .slice A2 a.kids.length a2, .slice A3 a.more.length a3] 25)
  go_wp2_with fail
  refine (hp).mono ?_
  rintro e w4 ⟨bp, rfl, hbp, h4⟩
  have HBP := Lib.hid hbp
  clear hp hbp hA2 hV2 hl2
  have hA4 := hA3.below h4 hA3.lt
  have hV4 := hV3.below h4 hV3.lt
  have hl4 := hl3.trans (h4.mono hl3.size)
  clear q0 q1 q2 q3 q4 q5 q6
  clear hA3 hV3 hl3 h4
  cases bp with
  | false =>
    go_wp2_with fail
    refine (works_any _).mono ?_
    rintro e wz ⟨rfl, hz⟩
    go_wp2
    go_ret
    exact ⟨rfl, hl4.trans (hz.mono hl4.size)⟩
  | true =>
    have n1 : Nice a := (HBP.out.1 rfl).nice ha.bulk
    clear HBP
    obtain ⟨q0, q1, q2, q3, q4⟩ := hV4.four
    go_wp2_with fail
    refine (hv.value hl4).mono ?_
    rintro e w5 ⟨vc, rfl, hvc, h5⟩
    have hA5 := hA4.below h5 hA4.lt
    have hV5 := hV4.below h5 hV4.lt
    have hl5 := hl4.trans (h5.mono hl4.size)
    clear q0 q1 q2 q3 q4
    clear hA4 hV4 hl4 h5
    go_wp2_with fail
    refine (pv_at hvc hv.bulk).mono ?_
    rintro e w6 ⟨bq, rfl, hbq, h6⟩
    have HBQ := Lib.hid hbq
    clear hbq
    have hA6 := hA5.below h6 hA5.lt
    have hV6 := hV5.below h6 hV5.lt
    have hl6 := hl5.trans (h6.mono hl5.size)
    clear hA5 hV5 hl5 h6
    clear hvc
    cases bq with
    | false =>
      go_wp2_with fail
      refine (works_any _).mono ?_
      rintro e wz ⟨rfl, hz⟩
      go_wp2
      go_ret
      exact ⟨rfl, hl6.trans (hz.mono hl6.size)⟩
    | true =>
      have hok : VOk v := HBQ.out rfl
      clear HBQ
      have n2 : ProperT (norm a) := norm_proper a n1.1
      have n3 : (norm a).bulk ≤ 1048576 := by rw [norm_bulk a n1.1.good]; exact n1.2
      by_cases hin : InT a v
      · have hin' : InT (norm a) v := by rw [InT_norm]; exact hin
        have hA7 := hA6.drew
        have hV7 := hV6.drew
        have hl7 := hl6.drew
        go_wp2_with fail
        refine wp_region_held_drew (S := (fun W => Blk W (w.heap.size) 25 #[.int .i64 a.kind, .string na, .string ta, .slice A1 a.keys.length a1, .slice A2 a.kids.length a2, .slice A3 a.more.length a3] ∧ Blk W (w.heap.size + 1) 29 #[.int .i64 v.kind, .string v.text, .slice V1 v.keys.length v1, .slice V2 v.kids.length v2])) (by kernel_rfl) (⟨hA7, hV7⟩) (fun hHeld => ?_)
        refine take_yes (i := 0) (v := ?_) rfl (by kernel_rfl) (by kernel_rfl) (by kernel_rfl) (fun _ _ _ h => h) (by rfl) ?_ hHeld ?_
        rotate_left
        · (intro w hSw; obtain ⟨hS0, hS1⟩ := hSw; obtain ⟨z0, z1, z2, z3, z4, z5, z6⟩ := Blk.six (by exact hS0); obtain ⟨z7, z8, z9, z10, z11⟩ := Blk.four (by exact hS1); go_simp; (try with_reducible rfl))
        (try simp only [Act.put, List.setIfInBounds_toArray, List.set_cons_zero, List.set_cons_succ])
        refine take_yes (i := 2) (v := ?_) rfl (by kernel_rfl) (by kernel_rfl) (by kernel_rfl) (fun _ _ _ h => h) (by rfl) ?_ hHeld ?_
        rotate_left
        · (intro w hSw; obtain ⟨hS0, hS1⟩ := hSw; obtain ⟨z0, z1, z2, z3, z4, z5, z6⟩ := Blk.six (by exact hS0); obtain ⟨z7, z8, z9, z10, z11⟩ := Blk.four (by exact hS1); go_simp; (try with_reducible rfl))
        (try simp only [Act.put, List.setIfInBounds_toArray, List.set_cons_zero, List.set_cons_succ])
        refine take_yes (i := 6) (v := ?_) rfl (by kernel_rfl) (by kernel_rfl) (by kernel_rfl) (fun _ _ _ h => h) (by rfl) ?_ hHeld ?_
        rotate_left
        · (intro w hSw; obtain ⟨hS0, hS1⟩ := hSw; obtain ⟨z0, z1, z2, z3, z4, z5, z6⟩ := Blk.six (by exact hS0); obtain ⟨z7, z8, z9, z10, z11⟩ := Blk.four (by exact hS1); go_simp; (try with_reducible rfl))
        (try simp only [Act.put, List.setIfInBounds_toArray, List.set_cons_zero, List.set_cons_succ])
        refine take_yes (i := 8) (v := ?_) rfl (by kernel_rfl) (by kernel_rfl) (by kernel_rfl) (fun _ _ _ h => h) (by rfl) ?_ hHeld ?_
        rotate_left
        · (intro w hSw; obtain ⟨hS0, hS1⟩ := hSw; obtain ⟨z0, z1, z2, z3, z4, z5, z6⟩ := Blk.six (by exact hS0); obtain ⟨z7, z8, z9, z10, z11⟩ := Blk.four (by exact hS1); go_simp; (try with_reducible rfl))
        (try simp only [Act.put, List.setIfInBounds_toArray, List.set_cons_zero, List.set_cons_succ])
        refine take_step (i := 1) rfl (by kernel_rfl) (fun K hK => ?_)
        go_simp
        (go_at_call 21; refine (hv.value hl7).mono ?_; rintro e w8 ⟨c1, rfl, r1, h8⟩; have hA8 := hA7.below h8 hA7.lt; have hV8 := hV7.below h8 hV7.lt; have hl8 := hl7.trans (h8.mono hl7.size))
        (try go_wp2_with fail)
        refine hK.out _ _ (⟨hA8, hV8⟩) (fun hHeld => ?_)
        clear hK K
        (try simp only [Act.put, List.setIfInBounds_toArray, List.set_cons_zero, List.set_cons_succ])
        refine take_step (i := 3) rfl (by kernel_rfl) (fun K hK => ?_)
        go_simp
        (go_at_call 27; refine (normal_at ha n1 hl8).mono ?_; rintro e w9 ⟨c2, rfl, r2, h9⟩; have hA9 := hA8.below h9 hA8.lt; have hV9 := hV8.below h9 hV8.lt; have hl9 := hl8.trans (h9.mono hl8.size); obtain ⟨nn, tn, N1, m1, N2, m2, N3, m3, rfl⟩ := r2.shape; have r1' := repV_up r1 h9)
        (try go_wp2_with fail)
        refine hK.out _ _ (⟨hA9, hV9⟩) (fun hHeld => ?_)
        clear hK K
        (try simp only [Act.put, List.setIfInBounds_toArray, List.set_cons_zero, List.set_cons_succ])
        refine take_step (i := 4) rfl (by kernel_rfl) (fun K hK => ?_)
        go_simp
        (go_at_call 25; refine (kind_at r2 n3).mono ?_; rintro e w10 ⟨c3, rfl, r3, h10⟩; have hA10 := hA9.below h10 hA9.lt; have hV10 := hV9.below h10 hV9.lt; have hl10 := hl9.trans (h10.mono hl9.size); have r1'' := repV_up r1' h10)
        (try go_wp2_with fail)
        refine hK.out _ _ (⟨hA10, hV10⟩) (fun hHeld => ?_)
        clear hK K
        (try simp only [Act.put, List.setIfInBounds_toArray, List.set_cons_zero, List.set_cons_succ])
        refine take_step (i := 5) rfl (by kernel_rfl) (fun K hK => ?_)
        go_simp
        (go_at_call 24; refine ((in_at r1'' r3 hok hv.bulk n2 n3).mono fun _ _ h => h.sure hin').mono ?_; rintro e w11 ⟨rfl, h11⟩; have hA11 := hA10.below h11 hA10.lt; have hV11 := hV10.below h11 hV10.lt; have hl11 := hl10.trans (h11.mono hl10.size))
        (try go_wp2_with fail)
        refine hK.out _ _ (⟨hA11, hV11⟩) (fun hHeld => ?_)
        clear hK K
        (try simp only [Act.put, List.setIfInBounds_toArray, List.set_cons_zero, List.set_cons_succ])
        refine take_step (i := 7) rfl (by kernel_rfl) (fun K hK => ?_)
        go_simp
        (go_at_call 21; refine (hv.value hl11).mono ?_; rintro e w12 ⟨c4, rfl, r4, h12⟩; have hA12 := hA11.below h12 hA11.lt; have hV12 := hV11.below h12 hV11.lt; have hl12 := hl11.trans (h12.mono hl11.size))
        (try go_wp2_with fail)
        refine hK.out _ _ (⟨hA12, hV12⟩) (fun hHeld => ?_)
        clear hK K
        (try simp only [Act.put, List.setIfInBounds_toArray, List.set_cons_zero, List.set_cons_succ])
        refine take_step (i := 9) rfl (by kernel_rfl) (fun K hK => ?_)
        go_simp
        (go_at_call 25; refine (ha.kind hl12).mono ?_; rintro e w13 ⟨c5, rfl, r5, h13⟩; have hA13 := hA12.below h13 hA12.lt; have hV13 := hV12.below h13 hV12.lt; have hl13 := hl12.trans (h13.mono hl12.size); have r4' := repV_up r4 h13)
        (try go_wp2_with fail)
        refine hK.out _ _ (⟨hA13, hV13⟩) (fun hHeld => ?_)
        clear hK K
        (try simp only [Act.put, List.setIfInBounds_toArray, List.set_cons_zero, List.set_cons_succ])
        refine take_step (i := 10) rfl (by kernel_rfl) (fun K hK => ?_)
        go_simp
        (go_at_call 24; refine ((in_at r4' r5 hok hv.bulk n1.1 ha.bulk).mono fun _ _ h => h.sure hin).mono ?_; rintro e w14 ⟨rfl, h14⟩; have hA14 := hA13.below h14 hA13.lt; have hV14 := hV13.below h14 hV13.lt; have hl14 := hl13.trans (h14.mono hl13.size))
        (try go_wp2_with fail)
        refine hK.out _ _ (⟨hA14, hV14⟩) (fun hHeld => ?_)
        clear hK K
        (try simp only [Act.put, List.setIfInBounds_toArray, List.set_cons_zero, List.set_cons_succ])
        refine take_yes (i := 11) (v := ?_) rfl (by kernel_rfl) (by kernel_rfl) (by kernel_rfl) (fun _ _ _ h => h) (by rfl) ?_ hHeld ?_
        rotate_left
        · (intro w hSw; obtain ⟨hS0, hS1⟩ := hSw; obtain ⟨z0, z1, z2, z3, z4, z5, z6⟩ := Blk.six (by exact hS0); obtain ⟨z7, z8, z9, z10, z11⟩ := Blk.four (by exact hS1); go_simp; (try with_reducible rfl))
        (try simp only [Act.put, List.setIfInBounds_toArray, List.set_cons_zero, List.set_cons_succ])
        refine take_yes (i := 12) (v := ?_) rfl (by kernel_rfl) (by kernel_rfl) (by kernel_rfl) (fun _ _ _ h => h) (by rfl) ?_ hHeld ?_
        rotate_left
        · (intro w hSw; obtain ⟨hS0, hS1⟩ := hSw; obtain ⟨z0, z1, z2, z3, z4, z5, z6⟩ := Blk.six (by exact hS0); obtain ⟨z7, z8, z9, z10, z11⟩ := Blk.four (by exact hS1); go_simp; (try with_reducible rfl))
        (try simp only [Act.put, List.setIfInBounds_toArray, List.set_cons_zero, List.set_cons_succ])
        refine take_step (i := 13) rfl (by kernel_rfl) (fun K hK => ?_)
        go_simp
        (go_at_call 23; refine (works_any _).mono ?_; rintro e w15 ⟨rfl, h15⟩; have hA15 := hA14.below h15 hA14.lt; have hV15 := hV14.below h15 hV14.lt; have hl15 := hl14.trans (h15.mono hl14.size))
        (try go_wp2_with fail)
        refine hK.out _ _ (⟨hA15, hV15⟩) (fun hHeld => ?_)
        clear hK K
        (try simp only [Act.put, List.setIfInBounds_toArray, List.set_cons_zero, List.set_cons_succ])
        refine take_yes (i := 14) (v := ?_) rfl (by kernel_rfl) (by kernel_rfl) (by kernel_rfl) (fun _ _ _ h => h) (by rfl) ?_ hHeld ?_
        rotate_left
        · (intro w hSw; obtain ⟨hS0, hS1⟩ := hSw; obtain ⟨z0, z1, z2, z3, z4, z5, z6⟩ := Blk.six (by exact hS0); obtain ⟨z7, z8, z9, z10, z11⟩ := Blk.four (by exact hS1); go_simp; (try with_reducible rfl))
        (try simp only [Act.put, List.setIfInBounds_toArray, List.set_cons_zero, List.set_cons_succ])
        refine take_yes (i := 15) (v := ?_) rfl (by kernel_rfl) (by kernel_rfl) (by kernel_rfl) (fun _ _ _ h => h) (by rfl) ?_ hHeld ?_
        rotate_left
        · (intro w hSw; obtain ⟨hS0, hS1⟩ := hSw; obtain ⟨z0, z1, z2, z3, z4, z5, z6⟩ := Blk.six (by exact hS0); obtain ⟨z7, z8, z9, z10, z11⟩ := Blk.four (by exact hS1); go_simp; (try with_reducible rfl))
        (try simp only [Act.put, List.setIfInBounds_toArray, List.set_cons_zero, List.set_cons_succ])
        refine wpAnyH_done (by kernel_rfl) ?_ _
        go_wp2
        go_ret
        exact ⟨rfl, hl15⟩
      · have hin' : ¬ InT (norm a) v := by rw [InT_norm]; exact hin
        have hA7 := hA6.drew
        have hV7 := hV6.drew
        have hl7 := hl6.drew
        go_wp2_with fail
        refine wp_region_held_drew (S := (fun W => Blk W (w.heap.size) 25 #[.int .i64 a.kind, .string na, .string ta, .slice A1 a.keys.length a1, .slice A2 a.kids.length a2, .slice A3 a.more.length a3] ∧ Blk W (w.heap.size + 1) 29 #[.int .i64 v.kind, .string v.text, .slice V1 v.keys.length v1, .slice V2 v.kids.length v2])) (by kernel_rfl) (⟨hA7, hV7⟩) (fun hHeld => ?_)
        refine take_yes (i := 0) (v := ?_) rfl (by kernel_rfl) (by kernel_rfl) (by kernel_rfl) (fun _ _ _ h => h) (by rfl) ?_ hHeld ?_
        rotate_left
        · (intro w hSw; obtain ⟨hS0, hS1⟩ := hSw; obtain ⟨z0, z1, z2, z3, z4, z5, z6⟩ := Blk.six (by exact hS0); obtain ⟨z7, z8, z9, z10, z11⟩ := Blk.four (by exact hS1); go_simp; (try with_reducible rfl))
        (try simp only [Act.put, List.setIfInBounds_toArray, List.set_cons_zero, List.set_cons_succ])
        refine take_yes (i := 2) (v := ?_) rfl (by kernel_rfl) (by kernel_rfl) (by kernel_rfl) (fun _ _ _ h => h) (by rfl) ?_ hHeld ?_
        rotate_left
        · (intro w hSw; obtain ⟨hS0, hS1⟩ := hSw; obtain ⟨z0, z1, z2, z3, z4, z5, z6⟩ := Blk.six (by exact hS0); obtain ⟨z7, z8, z9, z10, z11⟩ := Blk.four (by exact hS1); go_simp; (try with_reducible rfl))
        (try simp only [Act.put, List.setIfInBounds_toArray, List.set_cons_zero, List.set_cons_succ])
        refine take_yes (i := 6) (v := ?_) rfl (by kernel_rfl) (by kernel_rfl) (by kernel_rfl) (fun _ _ _ h => h) (by rfl) ?_ hHeld ?_
        rotate_left
        · (intro w hSw; obtain ⟨hS0, hS1⟩ := hSw; obtain ⟨z0, z1, z2, z3, z4, z5, z6⟩ := Blk.six (by exact hS0); obtain ⟨z7, z8, z9, z10, z11⟩ := Blk.four (by exact hS1); go_simp; (try with_reducible rfl))
        (try simp only [Act.put, List.setIfInBounds_toArray, List.set_cons_zero, List.set_cons_succ])
        refine take_yes (i := 8) (v := ?_) rfl (by kernel_rfl) (by kernel_rfl) (by kernel_rfl) (fun _ _ _ h => h) (by rfl) ?_ hHeld ?_
        rotate_left
        · (intro w hSw; obtain ⟨hS0, hS1⟩ := hSw; obtain ⟨z0, z1, z2, z3, z4, z5, z6⟩ := Blk.six (by exact hS0); obtain ⟨z7, z8, z9, z10, z11⟩ := Blk.four (by exact hS1); go_simp; (try with_reducible rfl))
        (try simp only [Act.put, List.setIfInBounds_toArray, List.set_cons_zero, List.set_cons_succ])
        refine take_step (i := 1) rfl (by kernel_rfl) (fun K hK => ?_)
        go_simp
        (go_at_call 21; refine (hv.value hl7).mono ?_; rintro e w8 ⟨c1, rfl, r1, h8⟩; have hA8 := hA7.below h8 hA7.lt; have hV8 := hV7.below h8 hV7.lt; have hl8 := hl7.trans (h8.mono hl7.size))
        (try go_wp2_with fail)
        refine hK.out _ _ (⟨hA8, hV8⟩) (fun hHeld => ?_)
        clear hK K
        (try simp only [Act.put, List.setIfInBounds_toArray, List.set_cons_zero, List.set_cons_succ])
        refine take_step (i := 3) rfl (by kernel_rfl) (fun K hK => ?_)
        go_simp
        (go_at_call 27; refine (normal_at ha n1 hl8).mono ?_; rintro e w9 ⟨c2, rfl, r2, h9⟩; have hA9 := hA8.below h9 hA8.lt; have hV9 := hV8.below h9 hV8.lt; have hl9 := hl8.trans (h9.mono hl8.size); obtain ⟨nn, tn, N1, m1, N2, m2, N3, m3, rfl⟩ := r2.shape; have r1' := repV_up r1 h9)
        (try go_wp2_with fail)
        refine hK.out _ _ (⟨hA9, hV9⟩) (fun hHeld => ?_)
        clear hK K
        (try simp only [Act.put, List.setIfInBounds_toArray, List.set_cons_zero, List.set_cons_succ])
        refine take_step (i := 4) rfl (by kernel_rfl) (fun K hK => ?_)
        go_simp
        (go_at_call 25; refine (kind_at r2 n3).mono ?_; rintro e w10 ⟨c3, rfl, r3, h10⟩; have hA10 := hA9.below h10 hA9.lt; have hV10 := hV9.below h10 hV9.lt; have hl10 := hl9.trans (h10.mono hl9.size); have r1'' := repV_up r1' h10)
        (try go_wp2_with fail)
        refine hK.out _ _ (⟨hA10, hV10⟩) (fun hHeld => ?_)
        clear hK K
        (try simp only [Act.put, List.setIfInBounds_toArray, List.set_cons_zero, List.set_cons_succ])
        refine take_step (i := 5) rfl (by kernel_rfl) (fun K hK => ?_)
        go_simp
        (go_at_call 24; refine ((in_at r1'' r3 hok hv.bulk n2 n3).mono fun _ _ h => h.never hin').mono ?_; rintro e w11 ⟨rfl, h11⟩; have hA11 := hA10.below h11 hA10.lt; have hV11 := hV10.below h11 hV10.lt; have hl11 := hl10.trans (h11.mono hl10.size))
        (try go_wp2_with fail)
        refine hK.out _ _ (⟨hA11, hV11⟩) (fun hHeld => ?_)
        clear hK K
        (try simp only [Act.put, List.setIfInBounds_toArray, List.set_cons_zero, List.set_cons_succ])
        refine take_step (i := 7) rfl (by kernel_rfl) (fun K hK => ?_)
        go_simp
        (go_at_call 21; refine (hv.value hl11).mono ?_; rintro e w12 ⟨c4, rfl, r4, h12⟩; have hA12 := hA11.below h12 hA11.lt; have hV12 := hV11.below h12 hV11.lt; have hl12 := hl11.trans (h12.mono hl11.size))
        (try go_wp2_with fail)
        refine hK.out _ _ (⟨hA12, hV12⟩) (fun hHeld => ?_)
        clear hK K
        (try simp only [Act.put, List.setIfInBounds_toArray, List.set_cons_zero, List.set_cons_succ])
        refine take_step (i := 9) rfl (by kernel_rfl) (fun K hK => ?_)
        go_simp
        (go_at_call 25; refine (ha.kind hl12).mono ?_; rintro e w13 ⟨c5, rfl, r5, h13⟩; have hA13 := hA12.below h13 hA12.lt; have hV13 := hV12.below h13 hV12.lt; have hl13 := hl12.trans (h13.mono hl12.size); have r4' := repV_up r4 h13)
        (try go_wp2_with fail)
        refine hK.out _ _ (⟨hA13, hV13⟩) (fun hHeld => ?_)
        clear hK K
        (try simp only [Act.put, List.setIfInBounds_toArray, List.set_cons_zero, List.set_cons_succ])
        refine take_step (i := 10) rfl (by kernel_rfl) (fun K hK => ?_)
        go_simp
        (go_at_call 24; refine ((in_at r4' r5 hok hv.bulk n1.1 ha.bulk).mono fun _ _ h => h.never hin).mono ?_; rintro e w14 ⟨rfl, h14⟩; have hA14 := hA13.below h14 hA13.lt; have hV14 := hV13.below h14 hV13.lt; have hl14 := hl13.trans (h14.mono hl13.size))
        (try go_wp2_with fail)
        refine hK.out _ _ (⟨hA14, hV14⟩) (fun hHeld => ?_)
        clear hK K
        (try simp only [Act.put, List.setIfInBounds_toArray, List.set_cons_zero, List.set_cons_succ])
        refine take_yes (i := 11) (v := ?_) rfl (by kernel_rfl) (by kernel_rfl) (by kernel_rfl) (fun _ _ _ h => h) (by rfl) ?_ hHeld ?_
        rotate_left
        · (intro w hSw; obtain ⟨hS0, hS1⟩ := hSw; obtain ⟨z0, z1, z2, z3, z4, z5, z6⟩ := Blk.six (by exact hS0); obtain ⟨z7, z8, z9, z10, z11⟩ := Blk.four (by exact hS1); go_simp; (try with_reducible rfl))
        (try simp only [Act.put, List.setIfInBounds_toArray, List.set_cons_zero, List.set_cons_succ])
        refine take_yes (i := 12) (v := ?_) rfl (by kernel_rfl) (by kernel_rfl) (by kernel_rfl) (fun _ _ _ h => h) (by rfl) ?_ hHeld ?_
        rotate_left
        · (intro w hSw; obtain ⟨hS0, hS1⟩ := hSw; obtain ⟨z0, z1, z2, z3, z4, z5, z6⟩ := Blk.six (by exact hS0); obtain ⟨z7, z8, z9, z10, z11⟩ := Blk.four (by exact hS1); go_simp; (try with_reducible rfl))
        (try simp only [Act.put, List.setIfInBounds_toArray, List.set_cons_zero, List.set_cons_succ])
        refine take_step (i := 13) rfl (by kernel_rfl) (fun K hK => ?_)
        go_simp
        (go_at_call 23; refine (works_any _).mono ?_; rintro e w15 ⟨rfl, h15⟩; have hA15 := hA14.below h15 hA14.lt; have hV15 := hV14.below h15 hV14.lt; have hl15 := hl14.trans (h15.mono hl14.size))
        (try go_wp2_with fail)
        refine hK.out _ _ (⟨hA15, hV15⟩) (fun hHeld => ?_)
        clear hK K
        (try simp only [Act.put, List.setIfInBounds_toArray, List.set_cons_zero, List.set_cons_succ])
        refine take_yes (i := 14) (v := ?_) rfl (by kernel_rfl) (by kernel_rfl) (by kernel_rfl) (fun _ _ _ h => h) (by rfl) ?_ hHeld ?_
        rotate_left
        · (intro w hSw; obtain ⟨hS0, hS1⟩ := hSw; obtain ⟨z0, z1, z2, z3, z4, z5, z6⟩ := Blk.six (by exact hS0); obtain ⟨z7, z8, z9, z10, z11⟩ := Blk.four (by exact hS1); go_simp; (try with_reducible rfl))
        (try simp only [Act.put, List.setIfInBounds_toArray, List.set_cons_zero, List.set_cons_succ])
        refine take_yes (i := 15) (v := ?_) rfl (by kernel_rfl) (by kernel_rfl) (by kernel_rfl) (fun _ _ _ h => h) (by rfl) ?_ hHeld ?_
        rotate_left
        · (intro w hSw; obtain ⟨hS0, hS1⟩ := hSw; obtain ⟨z0, z1, z2, z3, z4, z5, z6⟩ := Blk.six (by exact hS0); obtain ⟨z7, z8, z9, z10, z11⟩ := Blk.four (by exact hS1); go_simp; (try with_reducible rfl))
        (try simp only [Act.put, List.setIfInBounds_toArray, List.set_cons_zero, List.set_cons_succ])
        refine wpAnyH_done (by kernel_rfl) ?_ _
        go_wp2
        go_ret
        exact ⟨rfl, hl15⟩

end Go.Proofs.YtpmfjbmfjfhghaaGreat
