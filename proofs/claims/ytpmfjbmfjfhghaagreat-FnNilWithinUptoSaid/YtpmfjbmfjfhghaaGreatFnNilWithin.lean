/-
  'laws.FnNilWithin': THE WALK (laid by gen_nilw.py).
-/
import Derived.Test.YtpmfjbmfjfhghaaGreatLaw
import Derived.Test.YtpmfjbmfjfhghaaGreatNil4
import Derived.Test.YtpmfjbmfjfhghaaGreatReg2
import Derived.Test.YtpmfjbmfjfhghaaGreatCut
namespace Go.Proofs.YtpmfjbmfjfhghaaGreat
open Go.RowKit

theorem rowAt.past {w : World} {F : Nat → Prop} {A : Option Addr} {ys : List Value} (h : rowAt w F A ys) (j : Nat) : rowAt w F (Option.map (fun x => x.add j) A) (ys.drop j) := fun q u hu => by
  rw [List.getElem?_drop] at hu
  obtain ⟨b, off, rfl, hb, hc⟩ := h (j + q) u hu
  exact ⟨b, off + j, by simp [Addr.add], hb, by rw [Nat.add_assoc]; exact hc⟩

set_option maxHeartbeats 16000000 in
set_option maxRecDepth 100000 in
theorem fnNilWithin_walk (A : Option Addr) (l : List Tr) (c : Nat) (xs : List Value) (i : Int) (w : World) (hlc : l.length ≤ c) (hnone : A = none → l = [] ∧ c = 0)
    (hr : repIs w (fun b => b < w.heap.size) l xs) (hrow : rowAt w (fun b => b < w.heap.size) A xs) (hb : Tr.bulks l + 5 * l.length + 1 ≤ 1048576) :
    Calls Tryz.prog 6 #[.slice A l.length c, .int .i64 i] w (TruePost w) := by
  have hp := lawProper_any l A c xs w _ hr hrow (by omega) fun _ h => h
  have hlen : (l.length : Int) ≤ 1048576 := by omega
  have HB := Lib.hid hb
  have HN := Lib.hid hnone
  have HR := Lib.hid hr
  have HW := Lib.hid hrow
  clear hb hnone hr hrow
  by_cases h12 : 12 < (l.length : Int)
  · go_enter Tryz.func6, Tryz.ntmps6
    go_wp2_with fail
    refine (works_any _).mono ?_
    rintro e wz ⟨rfl, hz⟩
    go_wp2
    go_ret
    exact ⟨rfl, hz⟩
  by_cases hi : i < 0
  · go_enter Tryz.func6, Tryz.ntmps6
    go_wp2_with fail
    refine hp.mono ?_
    rintro e w1 ⟨bp, rfl, hbp, h1⟩
    have HBP := Lib.hid hbp
    clear hbp hp
    cases bp <;>
    · go_wp2_with fail
      refine (works_any _).mono ?_
      rintro e wz ⟨rfl, hz⟩
      go_wp2
      go_ret
      exact ⟨rfl, h1.trans (hz.mono h1.size)⟩
  obtain ⟨n, rfl⟩ := Int.eq_ofNat_of_zero_le (by omega : 0 ≤ i)
  by_cases hn : l.length < n
  · go_enter Tryz.func6, Tryz.ntmps6
    go_wp2_with fail
    refine hp.mono ?_
    rintro e w1 ⟨bp, rfl, hbp, h1⟩
    have HBP := Lib.hid hbp
    clear hbp hp
    cases bp <;>
    · go_wp2_with fail
      refine (works_any _).mono ?_
      rintro e wz ⟨rfl, hz⟩
      go_wp2
      go_ret
      exact ⟨rfl, h1.trans (hz.mono h1.size)⟩
  have hn0 : (0 : Int) ≤ n := by omega
  have hnc : n ≤ c := by omega
  have hnl : n ≤ l.length := by omega
  go_enter Tryz.func6, Tryz.ntmps6
  go_wp2_with fail
  refine hp.mono ?_
  rintro e w1 ⟨bp, rfl, hbp, h1⟩
  have HBP := Lib.hid hbp
  clear hbp hp
  cases bp with
  | false =>
    go_wp2_with fail
    refine (works_any _).mono ?_
    rintro e wz ⟨rfl, hz⟩
    go_wp2
    go_ret
    exact ⟨rfl, h1.trans (hz.mono h1.size)⟩
  | true =>
    have hr1 := HR.out.kept (Kept.of_below (X := fun b => b < w.heap.size) h1 fun _ h => h) (fun _ h => h) (B' := fun b => b < w1.heap.size) fun _ h => Nat.lt_of_lt_of_le h h1.size
    have hw1 := HW.out.kept (Kept.of_below (X := fun b => b < w.heap.size) h1 fun _ h => h) (fun _ h => h) (B' := fun b => b < w1.heap.size) fun _ h => Nat.lt_of_lt_of_le h h1.size
    have HF := Lib.hid (HBP.out.1 rfl)
    clear HBP HR HW
    go_upto_region 5 with fail
    go_cut [5] (fun s5 wx => MadeW l n w1 s5 wx)
    case first =>
      have HL := Lib.hid hlc
      clear h12 hi hn hlen
      obtain ⟨ys, zs, hxs, hyl, hr3, hr10⟩ := hr1.cut n hnl
      have hzl := hr10.length
      have ho3 := hr3.oneCell
      have ho10 := hr10.oneCell
      obtain ⟨i25, gi, ge⟩ := Option.map_eq_some_iff.1 info25
      have gz0 : i25.zero = some _ := congrArg (fun x => x.1) ge
      have gz1 : i25.size = 6 := congrArg (fun x => x.2.1) ge
      have gz2 : i25.bytes = 112 := congrArg (fun x => x.2.2) ge
      have hbase : w1.heap.size ≤ w1.heap.size := Nat.le_refl _
      have hrA : rowAt w1 (fun b => b < w1.heap.size) A ys := by rw [hxs] at hw1; exact hw1.left
      have hrB : rowAt w1 (fun b => b < w1.heap.size) (Option.map (fun x => x.add (n * 6)) A) zs := by
        have h := hw1.past (n * 6)
        rw [hxs, List.drop_append_of_le_length (by omega), List.drop_of_length_le (by omega), List.nil_append] at h
        exact h
      by_cases hcn : c = n
      · have hcn' := hcn.symm
        subst hcn'
        clear hcn
        have hz0 : zs = [] := List.eq_nil_of_length_eq_zero (by rw [hzl, List.length_drop]; omega)
        have hrC : rowAt w1 (fun b => b < w1.heap.size) A zs := by rw [hz0]; exact rowAt.nil
        clear hzl
        have hzl : zs.length = 0 * 6 := by rw [hz0]; rfl
        have hln : l.length = n := by omega
        have HLN := Lib.hid hln
        clear hrB hw1 hn0 hln
        refine wp_region_held_drew (S := (fun W => Kept (fun b => b < w1.heap.size) w1 W)) (by kernel_rfl) ((Kept.refl _ _).drew) (fun hHeld => ?_)
        refine take_yes (i := 1) (v := ?_) rfl (by kernel_rfl) (by kernel_rfl) (by kernel_rfl) (fun _ _ _ h => h) (by rfl) ?_ hHeld ?_
        rotate_left
        · (intro w hSw; (try dsimp only at hSw); go_simp; (try simp only [if_pos hnc, if_pos hnl]); (try with_reducible rfl))
        (try simp only [Act.put, List.setIfInBounds_toArray, List.set_cons_zero, List.set_cons_succ])
        refine take_yes (i := 2) (v := ?_) rfl (by kernel_rfl) (by kernel_rfl) (by kernel_rfl) (fun _ _ _ h => h) (by rfl) ?_ hHeld ?_
        rotate_left
        · (intro w hSw; (try dsimp only at hSw); go_simp; (try simp only [if_pos hnc, if_pos hnl]); (try with_reducible rfl))
        (try simp only [Act.put, List.setIfInBounds_toArray, List.set_cons_zero, List.set_cons_succ])
        refine take_yes (i := 3) (v := ?_) rfl (by kernel_rfl) (by kernel_rfl) (by kernel_rfl) (fun _ _ _ h => h) (by rfl) ?_ hHeld ?_
        rotate_left
        · (intro w hSw; (try dsimp only at hSw); go_simp; (try simp only [if_pos hnc, if_pos hnl]); (try with_reducible rfl))
        (try simp only [Act.put, List.setIfInBounds_toArray, List.set_cons_zero, List.set_cons_succ])
        refine take_yes (i := 5) (v := ?_) rfl (by kernel_rfl) (by kernel_rfl) (by kernel_rfl) (fun _ _ _ h => h) (by rfl) ?_ hHeld ?_
        rotate_left
        · (intro w hSw; (try dsimp only at hSw); go_simp; (try simp only [if_pos hnc, if_pos hnl]); (try with_reducible rfl))
        (try simp only [Act.put, List.setIfInBounds_toArray, List.set_cons_zero, List.set_cons_succ])
        refine take_yes (i := 8) (v := ?_) rfl (by kernel_rfl) (by kernel_rfl) (by kernel_rfl) (fun _ _ _ h => h) (by rfl) ?_ hHeld ?_
        rotate_left
        · (intro w hSw; (try dsimp only at hSw); go_simp; (try simp only [if_pos hnc, if_pos hnl]); (try with_reducible rfl))
        (try simp only [Act.put, List.setIfInBounds_toArray, List.set_cons_zero, List.set_cons_succ])
        refine take_yes (i := 9) (v := ?_) rfl (by kernel_rfl) (by kernel_rfl) (by kernel_rfl) (fun _ _ _ h => h) (by rfl) ?_ hHeld ?_
        rotate_left
        · (intro w hSw; (try dsimp only at hSw); go_simp; (try simp only [if_pos hnc, if_pos hnl]); (try with_reducible rfl))
        (try simp only [Act.put, List.setIfInBounds_toArray, List.set_cons_zero, List.set_cons_succ])
        refine take_yes (i := 10) (v := ?_) rfl (by kernel_rfl) (by kernel_rfl) (by kernel_rfl) (fun _ _ _ h => h) (by rfl) ?_ hHeld ?_
        rotate_left
        · (intro w hSw; (try dsimp only at hSw); go_simp; (try simp only [if_pos hnc, if_pos hnl]); (try with_reducible rfl))
        (try simp only [Act.put, List.setIfInBounds_toArray, List.set_cons_zero, List.set_cons_succ])
        refine take_two (i := 0) (j := 6) rfl rfl (by kernel_rfl) (fun K hK => ?_) (fun K hK => ?_)
        · have hX := hHeld
          go_simp
          have hoA : World.ownsRow (w1.alloc (.cells #[] 25)).drew w1.heap.size 25 6 (.slice (some ⟨w1.heap.size, 0, none⟩) 0 0) 0 [] := own_empty w1.drew _ _ 6 rfl (by simp) (by omega)
          refine hK.out _ _ (hHeld.alloc (fun b hb => Nat.lt_of_lt_of_le hb hHeld.size) _) (fun hHeld => ?_)
          clear hK K
          (try simp only [Act.put, List.setIfInBounds_toArray, List.set_cons_zero, List.set_cons_succ])
          refine take_two (i := 4) (j := 6) rfl rfl (by kernel_rfl) (fun K hK => ?_) (fun K hK => ?_)
          · have hX := hHeld
            have hsz := hHeld.size
            refine step_append_row _ (by rfl) (.tmp 28) (.tmp 31) _ (by rfl) w1.heap.size 25 i25 _ 6 112 Tryz.underlying23 gi gz0 gz1 gz2 rfl (by omega) (Value.slice (some ⟨w1.heap.size, 0, none⟩) 0 0) (0) ([]) (by rfl) hoA _ A (n) (n) ys (by rfl) hyl ((hrA).kept hHeld (fun _ h => h) (fun _ h => h)) ho3 (by unfold maxLen; omega) (by omega) hsz ?_
            intro v4 W4 hown4 hg4 hat4
            refine hK.out _ _ (hHeld.grown hg4 (fun b hb => by have := hHeld.size; omega) (fun q hq hX => own_ne hoA (by omega) hq.symm)) (fun hHeld => ?_)
            clear hK K
            (try simp only [Act.put, List.setIfInBounds_toArray, List.set_cons_zero, List.set_cons_succ])
            refine take_step (i := 6) rfl (by kernel_rfl) (fun K hK => ?_)
            go_simp
            have hzB : Blk (W4.alloc (.cells zeroCells.toArray 25)) (W4.heap.size) 25 zeroCells.toArray := Blk.new' 25 zeroCells (by simp)
            have hoB : World.ownsRow (W4.alloc (.cells zeroCells.toArray 25)) w1.heap.size 25 6 (v4) (0 + (n)) ([] ++ ys) := own_below hown4 ((Below.refl _ _).alloc (Nat.le_refl _) _) (Nat.le_refl _)
            have hne : some (W4.heap.size) ≠ (v4).ownBlock := own_ne' hown4 (by simp)
            refine hK.out _ _ (hHeld.alloc (fun b hb => Nat.lt_of_lt_of_le hb hHeld.size) _) (fun hHeld => ?_)
            clear hK K
            (try simp only [Act.put, List.setIfInBounds_toArray, List.set_cons_zero, List.set_cons_succ])
            refine take_step (i := 7) rfl (by kernel_rfl) (fun K hK => ?_)
            have hsz := hHeld.size
            refine step_append_row _ (by rfl) (.tmp 32) (.tmp 34) _ (by rfl) w1.heap.size 25 i25 _ 6 112 Tryz.underlying23 gi gz0 gz1 gz2 rfl (by omega) (v4) (0 + (n)) ([] ++ ys) (by rfl) hoB _ (some ⟨W4.heap.size, 0, none⟩) (1) (1) zeroCells (by rfl) rfl (hzB.row) (by decide) (by unfold maxLen; omega) (by omega) hsz ?_
            intro v7 W7 hown7 hg7 hat7
            refine hK.out _ _ (hHeld.grown hg7 (fun b hb => by have := hHeld.size; omega) (fun q hq hX => own_ne hoB (by omega) hq.symm)) (fun hHeld => ?_)
            clear hK K
            (try simp only [Act.put, List.setIfInBounds_toArray, List.set_cons_zero, List.set_cons_succ])
            refine take_step (i := 11) rfl (by kernel_rfl) (fun K hK => ?_)
            have hsz := hHeld.size
            refine step_append_row _ (by rfl) (.tmp 35) (.tmp 38) _ (by rfl) w1.heap.size 25 i25 _ 6 112 Tryz.underlying23 gi gz0 gz1 gz2 rfl (by omega) (v7) (0 + (n) + (1)) ([] ++ ys ++ zeroCells) (by rfl) hown7 _ A (0) (0) zs (by rfl) hzl ((hrC).kept hHeld (fun _ h => h) (fun _ h => h)) ho10 (by unfold maxLen; omega) (by omega) hsz ?_
            intro v11 W11 hown11 hg11 hat11
            refine hK.out _ _ (hHeld.grown hg11 (fun b hb => by have := hHeld.size; omega) (fun q hq hX => own_ne hown7 (by omega) hq.symm)) (fun hHeld => ?_)
            clear hK K
            (try simp only [Act.put, List.setIfInBounds_toArray, List.set_cons_zero, List.set_cons_succ])
            refine take_yes (i := 12) (v := ?_) rfl (by kernel_rfl) (by kernel_rfl) (by kernel_rfl) (fun _ _ _ h => h) (by rfl) ?_ hHeld ?_
            rotate_left
            · (intro w hSw; (try dsimp only at hSw); go_simp; (try with_reducible rfl))
            (try simp only [Act.put, List.setIfInBounds_toArray, List.set_cons_zero, List.set_cons_succ])
            refine wpAnyH_done (by kernel_rfl) ?_ _
            go_wp2_with fail
            go_meet
            exact madeW hHeld hr3 hr10 (by have := HLN.out; simp; try omega) (by simp) hown11
          · have hX := hHeld
            go_simp
            have hzB : Blk ((w1.alloc (.cells #[] 25)).alloc (.cells zeroCells.toArray 25)).drew (w1.heap.size + 1) 25 zeroCells.toArray := Blk.new' 25 zeroCells (by simp)
            have hoB : World.ownsRow ((w1.alloc (.cells #[] 25)).alloc (.cells zeroCells.toArray 25)).drew w1.heap.size 25 6 (Value.slice (some ⟨w1.heap.size, 0, none⟩) 0 0) (0) ([]) := own_below hoA ((Below.refl _ _).alloc (Nat.le_refl _) _) (Nat.le_refl _)
            have hne : some (w1.heap.size + 1) ≠ (Value.slice (some ⟨w1.heap.size, 0, none⟩) 0 0).ownBlock := own_ne' hoA (by simp)
            refine hK.out _ _ (hHeld.alloc (fun b hb => Nat.lt_of_lt_of_le hb hHeld.size) _) (fun hHeld => ?_)
            clear hK K
            (try simp only [Act.put, List.setIfInBounds_toArray, List.set_cons_zero, List.set_cons_succ])
            refine take_step (i := 4) rfl (by kernel_rfl) (fun K hK => ?_)
            have hsz := hHeld.size
            refine step_append_row _ (by rfl) (.tmp 28) (.tmp 31) _ (by rfl) w1.heap.size 25 i25 _ 6 112 Tryz.underlying23 gi gz0 gz1 gz2 rfl (by omega) (Value.slice (some ⟨w1.heap.size, 0, none⟩) 0 0) (0) ([]) (by rfl) hoB _ A (n) (n) ys (by rfl) hyl ((hrA).kept hHeld (fun _ h => h) (fun _ h => h)) ho3 (by unfold maxLen; omega) (by omega) hsz ?_
            intro v4 W4 hown4 hg4 hat4
            have hzC := hzB.grown hg4 hne
            refine hK.out _ _ (hHeld.grown hg4 (fun b hb => by have := hHeld.size; omega) (fun q hq hX => own_ne hoB (by omega) hq.symm)) (fun hHeld => ?_)
            clear hK K
            (try simp only [Act.put, List.setIfInBounds_toArray, List.set_cons_zero, List.set_cons_succ])
            refine take_step (i := 7) rfl (by kernel_rfl) (fun K hK => ?_)
            have hsz := hHeld.size
            refine step_append_row _ (by rfl) (.tmp 32) (.tmp 34) _ (by rfl) w1.heap.size 25 i25 _ 6 112 Tryz.underlying23 gi gz0 gz1 gz2 rfl (by omega) (v4) (0 + (n)) ([] ++ ys) (by rfl) hown4 _ (some ⟨w1.heap.size + 1, 0, none⟩) (1) (1) zeroCells (by rfl) rfl (hzC.row) (by decide) (by unfold maxLen; omega) (by omega) hsz ?_
            intro v7 W7 hown7 hg7 hat7
            refine hK.out _ _ (hHeld.grown hg7 (fun b hb => by have := hHeld.size; omega) (fun q hq hX => own_ne hown4 (by omega) hq.symm)) (fun hHeld => ?_)
            clear hK K
            (try simp only [Act.put, List.setIfInBounds_toArray, List.set_cons_zero, List.set_cons_succ])
            refine take_step (i := 11) rfl (by kernel_rfl) (fun K hK => ?_)
            have hsz := hHeld.size
            refine step_append_row _ (by rfl) (.tmp 35) (.tmp 38) _ (by rfl) w1.heap.size 25 i25 _ 6 112 Tryz.underlying23 gi gz0 gz1 gz2 rfl (by omega) (v7) (0 + (n) + (1)) ([] ++ ys ++ zeroCells) (by rfl) hown7 _ A (0) (0) zs (by rfl) hzl ((hrC).kept hHeld (fun _ h => h) (fun _ h => h)) ho10 (by unfold maxLen; omega) (by omega) hsz ?_
            intro v11 W11 hown11 hg11 hat11
            refine hK.out _ _ (hHeld.grown hg11 (fun b hb => by have := hHeld.size; omega) (fun q hq hX => own_ne hown7 (by omega) hq.symm)) (fun hHeld => ?_)
            clear hK K
            (try simp only [Act.put, List.setIfInBounds_toArray, List.set_cons_zero, List.set_cons_succ])
            refine take_yes (i := 12) (v := ?_) rfl (by kernel_rfl) (by kernel_rfl) (by kernel_rfl) (fun _ _ _ h => h) (by rfl) ?_ hHeld ?_
            rotate_left
            · (intro w hSw; (try dsimp only at hSw); go_simp; (try with_reducible rfl))
            (try simp only [Act.put, List.setIfInBounds_toArray, List.set_cons_zero, List.set_cons_succ])
            refine wpAnyH_done (by kernel_rfl) ?_ _
            go_wp2_with fail
            go_meet
            exact madeW hHeld hr3 hr10 (by have := HLN.out; simp; try omega) (by simp) hown11
        · have hX := hHeld
          go_simp
          have hzB : Blk (w1.alloc (.cells zeroCells.toArray 25)).drew (w1.heap.size) 25 zeroCells.toArray := Blk.new' 25 zeroCells (by simp)
          refine hK.out _ _ (hHeld.alloc (fun b hb => Nat.lt_of_lt_of_le hb hHeld.size) _) (fun hHeld => ?_)
          clear hK K
          (try simp only [Act.put, List.setIfInBounds_toArray, List.set_cons_zero, List.set_cons_succ])
          refine take_step (i := 0) rfl (by kernel_rfl) (fun K hK => ?_)
          go_simp
          have hoA : World.ownsRow ((w1.alloc (.cells zeroCells.toArray 25)).alloc (.cells #[] 25)).drew w1.heap.size 25 6 (.slice (some ⟨w1.heap.size + 1, 0, none⟩) 0 0) 0 [] := own_empty (w1.alloc (.cells zeroCells.toArray 25)).drew _ _ 6 rfl (by simp) (by omega)
          have hzA : Blk ((w1.alloc (.cells zeroCells.toArray 25)).alloc (.cells #[] 25)).drew (w1.heap.size) 25 zeroCells.toArray := hzB.alloc _
          have hne : some (w1.heap.size) ≠ (Value.slice (some ⟨w1.heap.size + 1, 0, none⟩) 0 0).ownBlock := by simp [Value.ownBlock]
          refine hK.out _ _ (hHeld.alloc (fun b hb => Nat.lt_of_lt_of_le hb hHeld.size) _) (fun hHeld => ?_)
          clear hK K
          (try simp only [Act.put, List.setIfInBounds_toArray, List.set_cons_zero, List.set_cons_succ])
          refine take_step (i := 4) rfl (by kernel_rfl) (fun K hK => ?_)
          have hsz := hHeld.size
          refine step_append_row _ (by rfl) (.tmp 28) (.tmp 31) _ (by rfl) w1.heap.size 25 i25 _ 6 112 Tryz.underlying23 gi gz0 gz1 gz2 rfl (by omega) (Value.slice (some ⟨w1.heap.size + 1, 0, none⟩) 0 0) (0) ([]) (by rfl) hoA _ A (n) (n) ys (by rfl) hyl ((hrA).kept hHeld (fun _ h => h) (fun _ h => h)) ho3 (by unfold maxLen; omega) (by omega) hsz ?_
          intro v4 W4 hown4 hg4 hat4
          have hzC := hzA.grown hg4 hne
          refine hK.out _ _ (hHeld.grown hg4 (fun b hb => by have := hHeld.size; omega) (fun q hq hX => own_ne hoA (by omega) hq.symm)) (fun hHeld => ?_)
          clear hK K
          (try simp only [Act.put, List.setIfInBounds_toArray, List.set_cons_zero, List.set_cons_succ])
          refine take_step (i := 7) rfl (by kernel_rfl) (fun K hK => ?_)
          have hsz := hHeld.size
          refine step_append_row _ (by rfl) (.tmp 32) (.tmp 34) _ (by rfl) w1.heap.size 25 i25 _ 6 112 Tryz.underlying23 gi gz0 gz1 gz2 rfl (by omega) (v4) (0 + (n)) ([] ++ ys) (by rfl) hown4 _ (some ⟨w1.heap.size, 0, none⟩) (1) (1) zeroCells (by rfl) rfl (hzC.row) (by decide) (by unfold maxLen; omega) (by omega) hsz ?_
          intro v7 W7 hown7 hg7 hat7
          refine hK.out _ _ (hHeld.grown hg7 (fun b hb => by have := hHeld.size; omega) (fun q hq hX => own_ne hown4 (by omega) hq.symm)) (fun hHeld => ?_)
          clear hK K
          (try simp only [Act.put, List.setIfInBounds_toArray, List.set_cons_zero, List.set_cons_succ])
          refine take_step (i := 11) rfl (by kernel_rfl) (fun K hK => ?_)
          have hsz := hHeld.size
          refine step_append_row _ (by rfl) (.tmp 35) (.tmp 38) _ (by rfl) w1.heap.size 25 i25 _ 6 112 Tryz.underlying23 gi gz0 gz1 gz2 rfl (by omega) (v7) (0 + (n) + (1)) ([] ++ ys ++ zeroCells) (by rfl) hown7 _ A (0) (0) zs (by rfl) hzl ((hrC).kept hHeld (fun _ h => h) (fun _ h => h)) ho10 (by unfold maxLen; omega) (by omega) hsz ?_
          intro v11 W11 hown11 hg11 hat11
          refine hK.out _ _ (hHeld.grown hg11 (fun b hb => by have := hHeld.size; omega) (fun q hq hX => own_ne hown7 (by omega) hq.symm)) (fun hHeld => ?_)
          clear hK K
          (try simp only [Act.put, List.setIfInBounds_toArray, List.set_cons_zero, List.set_cons_succ])
          refine take_yes (i := 12) (v := ?_) rfl (by kernel_rfl) (by kernel_rfl) (by kernel_rfl) (fun _ _ _ h => h) (by rfl) ?_ hHeld ?_
          rotate_left
          · (intro w hSw; (try dsimp only at hSw); go_simp; (try with_reducible rfl))
          (try simp only [Act.put, List.setIfInBounds_toArray, List.set_cons_zero, List.set_cons_succ])
          refine wpAnyH_done (by kernel_rfl) ?_ _
          go_wp2_with fail
          go_meet
          exact madeW hHeld hr3 hr10 (by have := HLN.out; simp; try omega) (by simp) hown11
      · have hm6 : l.length - n + n = l.length := by omega
        have HLN := Lib.hid hm6
        rw [List.length_drop] at hzl
        clear hw1 hn0 hm6
        refine wp_region_held_drew (S := (fun W => Kept (fun b => b < w1.heap.size) w1 W)) (by kernel_rfl) ((Kept.refl _ _).drew) (fun hHeld => ?_)
        refine take_yes (i := 1) (v := ?_) rfl (by kernel_rfl) (by kernel_rfl) (by kernel_rfl) (fun _ _ _ h => h) (by rfl) ?_ hHeld ?_
        rotate_left
        · (intro w hSw; (try dsimp only at hSw); go_simp; (try simp only [if_pos hnc, if_pos hnl, if_neg hcn]); (try with_reducible rfl))
        (try simp only [Act.put, List.setIfInBounds_toArray, List.set_cons_zero, List.set_cons_succ])
        refine take_yes (i := 2) (v := ?_) rfl (by kernel_rfl) (by kernel_rfl) (by kernel_rfl) (fun _ _ _ h => h) (by rfl) ?_ hHeld ?_
        rotate_left
        · (intro w hSw; (try dsimp only at hSw); go_simp; (try simp only [if_pos hnc, if_pos hnl, if_neg hcn]); (try with_reducible rfl))
        (try simp only [Act.put, List.setIfInBounds_toArray, List.set_cons_zero, List.set_cons_succ])
        refine take_yes (i := 3) (v := ?_) rfl (by kernel_rfl) (by kernel_rfl) (by kernel_rfl) (fun _ _ _ h => h) (by rfl) ?_ hHeld ?_
        rotate_left
        · (intro w hSw; (try dsimp only at hSw); go_simp; (try simp only [if_pos hnc, if_pos hnl, if_neg hcn]); (try with_reducible rfl))
        (try simp only [Act.put, List.setIfInBounds_toArray, List.set_cons_zero, List.set_cons_succ])
        refine take_yes (i := 5) (v := ?_) rfl (by kernel_rfl) (by kernel_rfl) (by kernel_rfl) (fun _ _ _ h => h) (by rfl) ?_ hHeld ?_
        rotate_left
        · (intro w hSw; (try dsimp only at hSw); go_simp; (try simp only [if_pos hnc, if_pos hnl, if_neg hcn]); (try with_reducible rfl))
        (try simp only [Act.put, List.setIfInBounds_toArray, List.set_cons_zero, List.set_cons_succ])
        refine take_yes (i := 8) (v := ?_) rfl (by kernel_rfl) (by kernel_rfl) (by kernel_rfl) (fun _ _ _ h => h) (by rfl) ?_ hHeld ?_
        rotate_left
        · (intro w hSw; (try dsimp only at hSw); go_simp; (try simp only [if_pos hnc, if_pos hnl, if_neg hcn]); (try with_reducible rfl))
        (try simp only [Act.put, List.setIfInBounds_toArray, List.set_cons_zero, List.set_cons_succ])
        refine take_yes (i := 9) (v := ?_) rfl (by kernel_rfl) (by kernel_rfl) (by kernel_rfl) (fun _ _ _ h => h) (by rfl) ?_ hHeld ?_
        rotate_left
        · (intro w hSw; (try dsimp only at hSw); go_simp; (try simp only [if_pos hnc, if_pos hnl, if_neg hcn]); (try with_reducible rfl))
        (try simp only [Act.put, List.setIfInBounds_toArray, List.set_cons_zero, List.set_cons_succ])
        refine take_yes (i := 10) (v := ?_) rfl (by kernel_rfl) (by kernel_rfl) (by kernel_rfl) (fun _ _ _ h => h) (by rfl) ?_ hHeld ?_
        rotate_left
        · (intro w hSw; (try dsimp only at hSw); go_simp; (try simp only [if_pos hnc, if_pos hnl, if_neg hcn]); (try with_reducible rfl))
        (try simp only [Act.put, List.setIfInBounds_toArray, List.set_cons_zero, List.set_cons_succ])
        refine take_two (i := 0) (j := 6) rfl rfl (by kernel_rfl) (fun K hK => ?_) (fun K hK => ?_)
        · have hX := hHeld
          go_simp
          have hoA : World.ownsRow (w1.alloc (.cells #[] 25)).drew w1.heap.size 25 6 (.slice (some ⟨w1.heap.size, 0, none⟩) 0 0) 0 [] := own_empty w1.drew _ _ 6 rfl (by simp) (by omega)
          refine hK.out _ _ (hHeld.alloc (fun b hb => Nat.lt_of_lt_of_le hb hHeld.size) _) (fun hHeld => ?_)
          clear hK K
          (try simp only [Act.put, List.setIfInBounds_toArray, List.set_cons_zero, List.set_cons_succ])
          refine take_two (i := 4) (j := 6) rfl rfl (by kernel_rfl) (fun K hK => ?_) (fun K hK => ?_)
          · have hX := hHeld
            have hsz := hHeld.size
            refine step_append_row _ (by rfl) (.tmp 28) (.tmp 31) _ (by rfl) w1.heap.size 25 i25 _ 6 112 Tryz.underlying23 gi gz0 gz1 gz2 rfl (by omega) (Value.slice (some ⟨w1.heap.size, 0, none⟩) 0 0) (0) ([]) (by rfl) hoA _ A (n) (c) ys (by rfl) hyl ((hrA).kept hHeld (fun _ h => h) (fun _ h => h)) ho3 (by unfold maxLen; omega) (by omega) hsz ?_
            intro v4 W4 hown4 hg4 hat4
            refine hK.out _ _ (hHeld.grown hg4 (fun b hb => by have := hHeld.size; omega) (fun q hq hX => own_ne hoA (by omega) hq.symm)) (fun hHeld => ?_)
            clear hK K
            (try simp only [Act.put, List.setIfInBounds_toArray, List.set_cons_zero, List.set_cons_succ])
            refine take_step (i := 6) rfl (by kernel_rfl) (fun K hK => ?_)
            go_simp
            have hzB : Blk (W4.alloc (.cells zeroCells.toArray 25)) (W4.heap.size) 25 zeroCells.toArray := Blk.new' 25 zeroCells (by simp)
            have hoB : World.ownsRow (W4.alloc (.cells zeroCells.toArray 25)) w1.heap.size 25 6 (v4) (0 + (n)) ([] ++ ys) := own_below hown4 ((Below.refl _ _).alloc (Nat.le_refl _) _) (Nat.le_refl _)
            have hne : some (W4.heap.size) ≠ (v4).ownBlock := own_ne' hown4 (by simp)
            refine hK.out _ _ (hHeld.alloc (fun b hb => Nat.lt_of_lt_of_le hb hHeld.size) _) (fun hHeld => ?_)
            clear hK K
            (try simp only [Act.put, List.setIfInBounds_toArray, List.set_cons_zero, List.set_cons_succ])
            refine take_step (i := 7) rfl (by kernel_rfl) (fun K hK => ?_)
            have hsz := hHeld.size
            refine step_append_row _ (by rfl) (.tmp 32) (.tmp 34) _ (by rfl) w1.heap.size 25 i25 _ 6 112 Tryz.underlying23 gi gz0 gz1 gz2 rfl (by omega) (v4) (0 + (n)) ([] ++ ys) (by rfl) hoB _ (some ⟨W4.heap.size, 0, none⟩) (1) (1) zeroCells (by rfl) rfl (hzB.row) (by decide) (by unfold maxLen; omega) (by omega) hsz ?_
            intro v7 W7 hown7 hg7 hat7
            refine hK.out _ _ (hHeld.grown hg7 (fun b hb => by have := hHeld.size; omega) (fun q hq hX => own_ne hoB (by omega) hq.symm)) (fun hHeld => ?_)
            clear hK K
            (try simp only [Act.put, List.setIfInBounds_toArray, List.set_cons_zero, List.set_cons_succ])
            refine take_step (i := 11) rfl (by kernel_rfl) (fun K hK => ?_)
            have hsz := hHeld.size
            refine step_append_row _ (by rfl) (.tmp 35) (.tmp 38) _ (by rfl) w1.heap.size 25 i25 _ 6 112 Tryz.underlying23 gi gz0 gz1 gz2 rfl (by omega) (v7) (0 + (n) + (1)) ([] ++ ys ++ zeroCells) (by rfl) hown7 _ (Option.map (fun x => x.add (n * 6)) A) ((l.length - n)) ((c - n)) zs (by rfl) hzl ((hrB).kept hHeld (fun _ h => h) (fun _ h => h)) ho10 (by unfold maxLen; omega) (by omega) hsz ?_
            intro v11 W11 hown11 hg11 hat11
            refine hK.out _ _ (hHeld.grown hg11 (fun b hb => by have := hHeld.size; omega) (fun q hq hX => own_ne hown7 (by omega) hq.symm)) (fun hHeld => ?_)
            clear hK K
            (try simp only [Act.put, List.setIfInBounds_toArray, List.set_cons_zero, List.set_cons_succ])
            refine take_yes (i := 12) (v := ?_) rfl (by kernel_rfl) (by kernel_rfl) (by kernel_rfl) (fun _ _ _ h => h) (by rfl) ?_ hHeld ?_
            rotate_left
            · (intro w hSw; (try dsimp only at hSw); go_simp; (try with_reducible rfl))
            (try simp only [Act.put, List.setIfInBounds_toArray, List.set_cons_zero, List.set_cons_succ])
            refine wpAnyH_done (by kernel_rfl) ?_ _
            go_wp2_with fail
            go_meet
            exact madeW hHeld hr3 hr10 (by have := HLN.out; simp; try omega) (by simp) hown11
          · have hX := hHeld
            go_simp
            have hzB : Blk ((w1.alloc (.cells #[] 25)).alloc (.cells zeroCells.toArray 25)).drew (w1.heap.size + 1) 25 zeroCells.toArray := Blk.new' 25 zeroCells (by simp)
            have hoB : World.ownsRow ((w1.alloc (.cells #[] 25)).alloc (.cells zeroCells.toArray 25)).drew w1.heap.size 25 6 (Value.slice (some ⟨w1.heap.size, 0, none⟩) 0 0) (0) ([]) := own_below hoA ((Below.refl _ _).alloc (Nat.le_refl _) _) (Nat.le_refl _)
            have hne : some (w1.heap.size + 1) ≠ (Value.slice (some ⟨w1.heap.size, 0, none⟩) 0 0).ownBlock := own_ne' hoA (by simp)
            refine hK.out _ _ (hHeld.alloc (fun b hb => Nat.lt_of_lt_of_le hb hHeld.size) _) (fun hHeld => ?_)
            clear hK K
            (try simp only [Act.put, List.setIfInBounds_toArray, List.set_cons_zero, List.set_cons_succ])
            refine take_step (i := 4) rfl (by kernel_rfl) (fun K hK => ?_)
            have hsz := hHeld.size
            refine step_append_row _ (by rfl) (.tmp 28) (.tmp 31) _ (by rfl) w1.heap.size 25 i25 _ 6 112 Tryz.underlying23 gi gz0 gz1 gz2 rfl (by omega) (Value.slice (some ⟨w1.heap.size, 0, none⟩) 0 0) (0) ([]) (by rfl) hoB _ A (n) (c) ys (by rfl) hyl ((hrA).kept hHeld (fun _ h => h) (fun _ h => h)) ho3 (by unfold maxLen; omega) (by omega) hsz ?_
            intro v4 W4 hown4 hg4 hat4
            have hzC := hzB.grown hg4 hne
            refine hK.out _ _ (hHeld.grown hg4 (fun b hb => by have := hHeld.size; omega) (fun q hq hX => own_ne hoB (by omega) hq.symm)) (fun hHeld => ?_)
            clear hK K
            (try simp only [Act.put, List.setIfInBounds_toArray, List.set_cons_zero, List.set_cons_succ])
            refine take_step (i := 7) rfl (by kernel_rfl) (fun K hK => ?_)
            have hsz := hHeld.size
            refine step_append_row _ (by rfl) (.tmp 32) (.tmp 34) _ (by rfl) w1.heap.size 25 i25 _ 6 112 Tryz.underlying23 gi gz0 gz1 gz2 rfl (by omega) (v4) (0 + (n)) ([] ++ ys) (by rfl) hown4 _ (some ⟨w1.heap.size + 1, 0, none⟩) (1) (1) zeroCells (by rfl) rfl (hzC.row) (by decide) (by unfold maxLen; omega) (by omega) hsz ?_
            intro v7 W7 hown7 hg7 hat7
            refine hK.out _ _ (hHeld.grown hg7 (fun b hb => by have := hHeld.size; omega) (fun q hq hX => own_ne hown4 (by omega) hq.symm)) (fun hHeld => ?_)
            clear hK K
            (try simp only [Act.put, List.setIfInBounds_toArray, List.set_cons_zero, List.set_cons_succ])
            refine take_step (i := 11) rfl (by kernel_rfl) (fun K hK => ?_)
            have hsz := hHeld.size
            refine step_append_row _ (by rfl) (.tmp 35) (.tmp 38) _ (by rfl) w1.heap.size 25 i25 _ 6 112 Tryz.underlying23 gi gz0 gz1 gz2 rfl (by omega) (v7) (0 + (n) + (1)) ([] ++ ys ++ zeroCells) (by rfl) hown7 _ (Option.map (fun x => x.add (n * 6)) A) ((l.length - n)) ((c - n)) zs (by rfl) hzl ((hrB).kept hHeld (fun _ h => h) (fun _ h => h)) ho10 (by unfold maxLen; omega) (by omega) hsz ?_
            intro v11 W11 hown11 hg11 hat11
            refine hK.out _ _ (hHeld.grown hg11 (fun b hb => by have := hHeld.size; omega) (fun q hq hX => own_ne hown7 (by omega) hq.symm)) (fun hHeld => ?_)
            clear hK K
            (try simp only [Act.put, List.setIfInBounds_toArray, List.set_cons_zero, List.set_cons_succ])
            refine take_yes (i := 12) (v := ?_) rfl (by kernel_rfl) (by kernel_rfl) (by kernel_rfl) (fun _ _ _ h => h) (by rfl) ?_ hHeld ?_
            rotate_left
            · (intro w hSw; (try dsimp only at hSw); go_simp; (try with_reducible rfl))
            (try simp only [Act.put, List.setIfInBounds_toArray, List.set_cons_zero, List.set_cons_succ])
            refine wpAnyH_done (by kernel_rfl) ?_ _
            go_wp2_with fail
            go_meet
            exact madeW hHeld hr3 hr10 (by have := HLN.out; simp; try omega) (by simp) hown11
        · have hX := hHeld
          go_simp
          have hzB : Blk (w1.alloc (.cells zeroCells.toArray 25)).drew (w1.heap.size) 25 zeroCells.toArray := Blk.new' 25 zeroCells (by simp)
          refine hK.out _ _ (hHeld.alloc (fun b hb => Nat.lt_of_lt_of_le hb hHeld.size) _) (fun hHeld => ?_)
          clear hK K
          (try simp only [Act.put, List.setIfInBounds_toArray, List.set_cons_zero, List.set_cons_succ])
          refine take_step (i := 0) rfl (by kernel_rfl) (fun K hK => ?_)
          go_simp
          have hoA : World.ownsRow ((w1.alloc (.cells zeroCells.toArray 25)).alloc (.cells #[] 25)).drew w1.heap.size 25 6 (.slice (some ⟨w1.heap.size + 1, 0, none⟩) 0 0) 0 [] := own_empty (w1.alloc (.cells zeroCells.toArray 25)).drew _ _ 6 rfl (by simp) (by omega)
          have hzA : Blk ((w1.alloc (.cells zeroCells.toArray 25)).alloc (.cells #[] 25)).drew (w1.heap.size) 25 zeroCells.toArray := hzB.alloc _
          have hne : some (w1.heap.size) ≠ (Value.slice (some ⟨w1.heap.size + 1, 0, none⟩) 0 0).ownBlock := by simp [Value.ownBlock]
          refine hK.out _ _ (hHeld.alloc (fun b hb => Nat.lt_of_lt_of_le hb hHeld.size) _) (fun hHeld => ?_)
          clear hK K
          (try simp only [Act.put, List.setIfInBounds_toArray, List.set_cons_zero, List.set_cons_succ])
          refine take_step (i := 4) rfl (by kernel_rfl) (fun K hK => ?_)
          have hsz := hHeld.size
          refine step_append_row _ (by rfl) (.tmp 28) (.tmp 31) _ (by rfl) w1.heap.size 25 i25 _ 6 112 Tryz.underlying23 gi gz0 gz1 gz2 rfl (by omega) (Value.slice (some ⟨w1.heap.size + 1, 0, none⟩) 0 0) (0) ([]) (by rfl) hoA _ A (n) (c) ys (by rfl) hyl ((hrA).kept hHeld (fun _ h => h) (fun _ h => h)) ho3 (by unfold maxLen; omega) (by omega) hsz ?_
          intro v4 W4 hown4 hg4 hat4
          have hzC := hzA.grown hg4 hne
          refine hK.out _ _ (hHeld.grown hg4 (fun b hb => by have := hHeld.size; omega) (fun q hq hX => own_ne hoA (by omega) hq.symm)) (fun hHeld => ?_)
          clear hK K
          (try simp only [Act.put, List.setIfInBounds_toArray, List.set_cons_zero, List.set_cons_succ])
          refine take_step (i := 7) rfl (by kernel_rfl) (fun K hK => ?_)
          have hsz := hHeld.size
          refine step_append_row _ (by rfl) (.tmp 32) (.tmp 34) _ (by rfl) w1.heap.size 25 i25 _ 6 112 Tryz.underlying23 gi gz0 gz1 gz2 rfl (by omega) (v4) (0 + (n)) ([] ++ ys) (by rfl) hown4 _ (some ⟨w1.heap.size, 0, none⟩) (1) (1) zeroCells (by rfl) rfl (hzC.row) (by decide) (by unfold maxLen; omega) (by omega) hsz ?_
          intro v7 W7 hown7 hg7 hat7
          refine hK.out _ _ (hHeld.grown hg7 (fun b hb => by have := hHeld.size; omega) (fun q hq hX => own_ne hown4 (by omega) hq.symm)) (fun hHeld => ?_)
          clear hK K
          (try simp only [Act.put, List.setIfInBounds_toArray, List.set_cons_zero, List.set_cons_succ])
          refine take_step (i := 11) rfl (by kernel_rfl) (fun K hK => ?_)
          have hsz := hHeld.size
          refine step_append_row _ (by rfl) (.tmp 35) (.tmp 38) _ (by rfl) w1.heap.size 25 i25 _ 6 112 Tryz.underlying23 gi gz0 gz1 gz2 rfl (by omega) (v7) (0 + (n) + (1)) ([] ++ ys ++ zeroCells) (by rfl) hown7 _ (Option.map (fun x => x.add (n * 6)) A) ((l.length - n)) ((c - n)) zs (by rfl) hzl ((hrB).kept hHeld (fun _ h => h) (fun _ h => h)) ho10 (by unfold maxLen; omega) (by omega) hsz ?_
          intro v11 W11 hown11 hg11 hat11
          refine hK.out _ _ (hHeld.grown hg11 (fun b hb => by have := hHeld.size; omega) (fun q hq hX => own_ne hown7 (by omega) hq.symm)) (fun hHeld => ?_)
          clear hK K
          (try simp only [Act.put, List.setIfInBounds_toArray, List.set_cons_zero, List.set_cons_succ])
          refine take_yes (i := 12) (v := ?_) rfl (by kernel_rfl) (by kernel_rfl) (by kernel_rfl) (fun _ _ _ h => h) (by rfl) ?_ hHeld ?_
          rotate_left
          · (intro w hSw; (try dsimp only at hSw); go_simp; (try with_reducible rfl))
          (try simp only [Act.put, List.setIfInBounds_toArray, List.set_cons_zero, List.set_cons_succ])
          refine wpAnyH_done (by kernel_rfl) ?_ _
          go_wp2_with fail
          go_meet
          exact madeW hHeld hr3 hr10 (by have := HLN.out; simp; try omega) (by simp) hown11
    case rest =>
      obtain ⟨A5, c5, ys, rfl, hc5, hrow5, hrep5, hb5⟩ := hcut
      have hsz := hb5.size
      have hmem : ∀ t ∈ l, Nice t := fun t ht => (HF.out t ht).nice (by have := Tr.bulk_mem ht; have := HB.out; omega)
      have hlt : (l.take n).length = n := by rw [List.length_take]; omega
      have hld : (l.drop n).length = l.length - n := List.length_drop
      have hl5 : (l.take n ++ .mk 0 [] [] [] :: l.drop n).length = l.length + 1 := by rw [List.length_append, List.length_cons, hlt, hld]; omega
      have h63 : l.length ≤ 1000000 := by have := HB.out; omega
      have hrA : repI wc (fun b => b < wc.heap.size) (.mk 5 [] (l.take n ++ .mk 0 [] [] [] :: l.drop n) []) [.int .i64 5, .string ⟨#[]⟩, .string ⟨#[]⟩, .slice none 0 0, .slice A5 (l.length + 1) c5, .slice none 0 0] := by
        simp only [repI, hl5]
        exact ⟨_, _, none, 0, A5, c5, none, 0, ys, [], rfl, ⟨by decide, by decide, Nat.le_refl _, hc5, Nat.le_refl _⟩, rowAt.nil, hrow5, hrep5, rowAt.nil, by simp only [repIs]⟩
      have hn1 := implNil_arr (l.take n) (l.drop n) _ wc _ hrA (fun _ h => h) (fun t ht => hmem t (List.mem_of_mem_take ht)) (fun t ht => hmem t (List.mem_of_mem_drop ht)) (by rw [hlt, hld]; omega)
      have hnl5 : Nice (.mk 5 [] l []) := by
        refine ⟨?_, by simp only [Tr.bulk, Tr.bulks, kyBulk]; have := HB.out; omega⟩
        simp only [ProperT, Shaped, ProperTs_iff]
        exact ⟨.inr (.inl ⟨trivial, by simp⟩), fun _ => trivial, fun i hi => absurd hi (by simp), fun t ht => (hmem t ht).1, fun t ht => absurd ht (by simp)⟩
      have hn2 : ∀ W, Below w1.heap.size w1 W → Calls Tryz.prog 26 #[.agg #[.int .i64 5, .string ⟨#[]⟩, .string ⟨#[]⟩, .slice none 0 0, .slice A l.length c, .slice none 0 0]] W (BoolAt false W) := fun W hW => by
        have hu : ∀ b, b < w1.heap.size → b < W.heap.size := fun b hb => Nat.lt_of_lt_of_le hb hW.size
        have K := Kept.of_below (X := fun b => b < w1.heap.size) hW fun _ h => h
        refine implNil_any (.mk 5 [] l []) [_, _, _, _, _, _] W (fun b => b < W.heap.size) ?_ (fun _ h => h) hnl5
        simp only [repI]
        exact ⟨_, _, none, 0, A, c, none, 0, xs, [], rfl, ⟨by decide, by decide, Nat.le_refl _, hlc, Nat.le_refl _⟩, rowAt.nil, hw1.kept K (fun _ h => h) hu, hr1.kept K (fun _ h => h) hu, rowAt.nil, by simp only [repIs]⟩
      have hn3 : ∀ W : World, Calls Tryz.prog 26 #[.agg #[.int .i64 7, .string ⟨#[]⟩, .string ⟨#[]⟩, .slice none 0 0, .slice (some ⟨W.heap.size, 0, none⟩) 1 1, .slice none 0 0]] (W.alloc (.cells zeroCells.toArray 25)) (BoolAt true (W.alloc (.cells zeroCells.toArray 25))) := fun W => by
        refine implNil_set [_, _, _, _, _, _] _ (fun b => b < (W.alloc (.cells zeroCells.toArray 25)).heap.size) ?_ (fun _ h => h)
        simp only [repI]
        refine ⟨_, _, none, 0, some ⟨W.heap.size, 0, none⟩, 1, none, 0, zeroCells, [], rfl, ⟨by decide, by decide, Nat.le_refl _, Nat.le_refl _, Nat.le_refl _⟩, rowAt.nil, new_row zeroCells _, ?_, rowAt.nil, by simp only [repIs]⟩
        simp only [repIs]
        exact ⟨zeroCells, [], rfl, (none_rep _).keep (fun _ h => h.elim) fun _ _ => rfl, rfl⟩
      clear hrA hrep5 hrow5 hr1 hw1 hnl5 hl5 hlt hld hmem HF HN
      go_wp2_with fail
      refine hn1.mono ?_
      rintro e w2 ⟨rfl, h2⟩
      have hb2 := hb5.trans (h2.mono hsz)
      clear hn1
      go_wp2_with fail
      refine (hn2 _ hb2).mono ?_
      rintro e w3 ⟨rfl, h3⟩
      have hb3 := hb2.trans (h3.mono hb2.size)
      clear hn2
      go_wp2_with fail
      refine (hn3 _).mono ?_
      rintro e w4 ⟨rfl, h4⟩
      have hb4 := (hb3.alloc hb3.size (.cells zeroCells.toArray 25)).trans (h4.mono (by have := hb3.size; simp; omega))
      clear hn3
      go_wp2_with fail
      refine (works_any _).mono ?_
      rintro e wz ⟨rfl, hz⟩
      go_wp2
      go_ret
      exact ⟨rfl, h1.trans ((hb4.trans (hz.mono hb4.size)).mono h1.size)⟩

end Go.Proofs.YtpmfjbmfjfhghaaGreat
