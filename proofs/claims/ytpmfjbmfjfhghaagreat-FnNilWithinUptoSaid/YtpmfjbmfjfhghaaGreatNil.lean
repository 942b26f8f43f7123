/-
  'nilRec': which types are not known (laid by gen_nil.py).
-/
import Derived.Test.YtpmfjbmfjfhghaaGreatIdx
import Derived.Test.YtpmfjbmfjfhghaaGreatReg
namespace Go.Proofs.YtpmfjbmfjfhghaaGreat
open Go.RowKit

theorem nilRec2_any (x s : Value) (cs : Nat) (r : Bool) (W : World) (hi : Ifc x) (hb : Blk W cs 155 #[s]) (hc : Calls Tryz.prog 79 #[x, s] W (NilPost r s W)) (hs : SeenOk W s) :
    Calls Tryz.prog 105 #[x, ptr cs] W (NilPost r s W) := by
  have q0 := hb.cell 0
  have ql := hb.lt
  simp at q0
  have HC := Lib.hid hc
  clear hc hb
  rcases hs with rfl | ⟨g, rfl, _⟩ <;> rcases hi with rfl | ⟨T, y, rfl⟩
  all_goals
    go_enter Tryz.func105, Tryz.ntmps105
    go_wp2_with fail
    refine HC.out.mono ?_
    rintro e w1 ⟨rfl, h1⟩
    go_wp2
    go_ret
    exact ⟨rfl, h1⟩

/-- As a call begins: the box of 'seen'. -/
theorem NilR.start {w : World} {s : Value} (hs : SeenOk w s) : NilR w s w.heap.size s (w.alloc (.cells #[s] 155)) :=
  ⟨(Kept.refl _ _).alloc (fun _ hb => hb.1) _, hs.below ((Below.refl _ _).alloc (Nat.le_refl _) _), Blk.new _ _ _, fun _ _ h => h, .inl rfl⟩

set_option maxRecDepth 100000 in
theorem nilRec_nil (s : Value) (w : World) (hs : SeenOk w s) : Calls Tryz.prog 79 #[.nilIface, s] w (NilPost true s w) := by
  have hst := NilR.start hs
  rcases hs with rfl | ⟨g, rfl, _⟩
  all_goals
    go_enter Tryz.func79, Tryz.ntmps79
    go_wp2_with fail
    refine (unwrap_nil _).mono ?_
    rintro e w' ⟨rfl, rfl⟩
    go_wp2_with fail
    refine (unwrapRec_nil _).mono ?_
    rintro e w' ⟨rfl, rfl⟩
    go_wp2
    go_ret
    exact hst.post

set_option maxHeartbeats 1000000 in
set_option maxRecDepth 100000 in
/-- Null, boolean, number, string, any types. -/
theorem nilRec_leaf (T : TypeId) (n : Int) (x s : Value) (w : World) (hs : SeenOk w s) (hd : Dyn T n) (hT : T ≠ 102 ∧ T ≠ 109 ∧ T ≠ 113 ∧ T ≠ 75) : Calls Tryz.prog 79 #[.iface T x, s] w (NilPost false s w) := by
  have hst := NilR.start hs
  have h1 := fun W => unwrap_any T n x W hd
  have h2 := fun W => unwrapRec_any T n x W hd
  obtain ⟨n1, n2, n3, n4⟩ := hT
  rcases hs with rfl | ⟨g, rfl, _⟩ <;> rcases hd with ⟨rfl, _⟩ | ⟨rfl, _⟩ | ⟨rfl, _⟩ | ⟨rfl, _⟩ | ⟨rfl, _⟩ | ⟨rfl, _⟩ | ⟨rfl, _⟩ | ⟨rfl, _⟩ | ⟨rfl, _⟩
  case inl.inr.inr.inr.inr.inl => exact absurd rfl n1
  case inl.inr.inr.inr.inr.inr.inl => exact absurd rfl n2
  case inl.inr.inr.inr.inr.inr.inr.inl => exact absurd rfl n3
  case inl.inr.inr.inr.inr.inr.inr.inr.inr => exact absurd rfl n4
  case inr.inr.inr.inr.inr.inl => exact absurd rfl n1
  case inr.inr.inr.inr.inr.inr.inl => exact absurd rfl n2
  case inr.inr.inr.inr.inr.inr.inr.inl => exact absurd rfl n3
  case inr.inr.inr.inr.inr.inr.inr.inr.inr => exact absurd rfl n4
  all_goals
    clear n1 n2 n3 n4
    go_enter Tryz.func79, Tryz.ntmps79
    go_wp2_with fail
    refine (h1 _).mono ?_
    rintro e w' ⟨rfl, rfl⟩
    go_wp2_with fail
    refine (h2 _).mono ?_
    rintro e w' ⟨rfl, rfl⟩
    go_wp2
    go_ret
    exact hst.post


set_option maxHeartbeats 1000000 in
set_option maxRecDepth 100000 in
/-- Set types. -/
theorem nilRec_set (g : Nat) (x s : Value) (w : World) (r : Bool) (hs : SeenOk w s) (hb : Blk w g 145 #[x]) (hg : NilX w s g) (hx : Ifc x) (hkid : ∀ W, NilR w s w.heap.size s W → Calls Tryz.prog 79 #[x, s] W (NilPost r s W)) :
    Calls Tryz.prog 79 #[.iface 113 (ptr g), s] w (NilPost r s w) := by
  have hst := NilR.start hs
  have hd : Dyn 113 6 := by simp [Dyn]
  have h1 := fun W => unwrap_any 113 6 (ptr g) W hd
  have h2 := fun W => unwrapRec_any 113 6 (ptr g) W hd
  have q0 := hb.cell 0
  simp at q0
  have hgl := hg.1
  clear hd hb
  rcases hs with rfl | ⟨g', rfl, _⟩ <;> rcases hx with rfl | ⟨T, y, rfl⟩

  · go_enter Tryz.func79, Tryz.ntmps79
    go_wp2_with fail
    refine (h1 _).mono ?_
    rintro e w' ⟨rfl, rfl⟩
    go_wp2_with fail
    refine (h2 _).mono ?_
    rintro e w' ⟨rfl, rfl⟩
    have hR0 := hst.drew
    go_wp2_with fail
    refine wp_region_held_drew (S := (fun W => W.cell? ⟨g, 0, none⟩ = some (.nilIface) ∧ W.cell? ⟨w.heap.size, 0, none⟩ = some (.map none))) (by kernel_rfl) (⟨(hR0.cell hg).trans q0, hR0.box.cell 0⟩) (fun hHeld => ?_)
    refine take_yes (i := 0) (v := ?_) rfl (by kernel_rfl) (by kernel_rfl) (by kernel_rfl) (fun _ _ _ h => h) (by rfl) ?_ hHeld ?_
    rotate_left
    · (intro w hSw; (try dsimp only at hSw); go_simp; (try with_reducible rfl))
    (try simp only [Act.put, List.setIfInBounds_toArray, List.set_cons_zero, List.set_cons_succ])
    refine take_yes (i := 1) (v := ?_) rfl (by kernel_rfl) (by kernel_rfl) (by kernel_rfl) (fun _ _ _ h => h) (by rfl) ?_ hHeld ?_
    rotate_left
    · (intro w hSw; (try dsimp only at hSw); go_simp; (try with_reducible rfl))
    (try simp only [Act.put, List.setIfInBounds_toArray, List.set_cons_zero, List.set_cons_succ])
    refine take_yes (i := 2) (v := ?_) rfl (by kernel_rfl) (by kernel_rfl) (by kernel_rfl) (fun _ _ _ h => h) (by rfl) ?_ hHeld ?_
    rotate_left
    · (intro w hSw; (try dsimp only at hSw); go_simp; (try with_reducible rfl))
    (try simp only [Act.put, List.setIfInBounds_toArray, List.set_cons_zero, List.set_cons_succ])
    refine take_yes (i := 3) (v := ?_) rfl (by kernel_rfl) (by kernel_rfl) (by kernel_rfl) (fun _ _ _ h => h) (by rfl) ?_ hHeld ?_
    rotate_left
    · (intro w hSw; (try dsimp only at hSw); go_simp; (try with_reducible rfl))
    (try simp only [Act.put, List.setIfInBounds_toArray, List.set_cons_zero, List.set_cons_succ])
    refine take_yes (i := 4) (v := ?_) rfl (by kernel_rfl) (by kernel_rfl) (by kernel_rfl) (fun _ _ _ h => h) (by rfl) ?_ hHeld ?_
    rotate_left
    · (intro w hSw; (try dsimp only at hSw); go_simp; (try with_reducible rfl))
    (try simp only [Act.put, List.setIfInBounds_toArray, List.set_cons_zero, List.set_cons_succ])
    refine take_step (i := 5) rfl (by kernel_rfl) (fun K hK => ?_)
    go_simp
    (go_at_call 79; refine (hkid _ hR0).mono ?_; rintro e w1 hp; have hR1 := hR0.next hp; obtain ⟨rfl, _⟩ := hp)
    (try go_wp2_with fail)
    refine hK.out _ _ (⟨(hR1.cell hg).trans q0, hR1.box.cell 0⟩) (fun hHeld => ?_)
    clear hK K
    (try simp only [Act.put, List.setIfInBounds_toArray, List.set_cons_zero, List.set_cons_succ])
    refine take_yes (i := 6) (v := ?_) rfl (by kernel_rfl) (by kernel_rfl) (by kernel_rfl) (fun _ _ _ h => h) (by rfl) ?_ hHeld ?_
    rotate_left
    · (intro w hSw; (try dsimp only at hSw); go_simp; (try with_reducible rfl))
    (try simp only [Act.put, List.setIfInBounds_toArray, List.set_cons_zero, List.set_cons_succ])
    refine wpAnyH_done (by kernel_rfl) ?_ _
    go_wp2
    go_ret
    exact hR1.post
  · go_enter Tryz.func79, Tryz.ntmps79
    go_wp2_with fail
    refine (h1 _).mono ?_
    rintro e w' ⟨rfl, rfl⟩
    go_wp2_with fail
    refine (h2 _).mono ?_
    rintro e w' ⟨rfl, rfl⟩
    have hR0 := hst.drew
    go_wp2_with fail
    refine wp_region_held_drew (S := (fun W => W.cell? ⟨g, 0, none⟩ = some (.iface T y) ∧ W.cell? ⟨w.heap.size, 0, none⟩ = some (.map none))) (by kernel_rfl) (⟨(hR0.cell hg).trans q0, hR0.box.cell 0⟩) (fun hHeld => ?_)
    refine take_yes (i := 0) (v := ?_) rfl (by kernel_rfl) (by kernel_rfl) (by kernel_rfl) (fun _ _ _ h => h) (by rfl) ?_ hHeld ?_
    rotate_left
    · (intro w hSw; (try dsimp only at hSw); go_simp; (try with_reducible rfl))
    (try simp only [Act.put, List.setIfInBounds_toArray, List.set_cons_zero, List.set_cons_succ])
    refine take_yes (i := 1) (v := ?_) rfl (by kernel_rfl) (by kernel_rfl) (by kernel_rfl) (fun _ _ _ h => h) (by rfl) ?_ hHeld ?_
    rotate_left
    · (intro w hSw; (try dsimp only at hSw); go_simp; (try with_reducible rfl))
    (try simp only [Act.put, List.setIfInBounds_toArray, List.set_cons_zero, List.set_cons_succ])
    refine take_yes (i := 2) (v := ?_) rfl (by kernel_rfl) (by kernel_rfl) (by kernel_rfl) (fun _ _ _ h => h) (by rfl) ?_ hHeld ?_
    rotate_left
    · (intro w hSw; (try dsimp only at hSw); go_simp; (try with_reducible rfl))
    (try simp only [Act.put, List.setIfInBounds_toArray, List.set_cons_zero, List.set_cons_succ])
    refine take_yes (i := 3) (v := ?_) rfl (by kernel_rfl) (by kernel_rfl) (by kernel_rfl) (fun _ _ _ h => h) (by rfl) ?_ hHeld ?_
    rotate_left
    · (intro w hSw; (try dsimp only at hSw); go_simp; (try with_reducible rfl))
    (try simp only [Act.put, List.setIfInBounds_toArray, List.set_cons_zero, List.set_cons_succ])
    refine take_yes (i := 4) (v := ?_) rfl (by kernel_rfl) (by kernel_rfl) (by kernel_rfl) (fun _ _ _ h => h) (by rfl) ?_ hHeld ?_
    rotate_left
    · (intro w hSw; (try dsimp only at hSw); go_simp; (try with_reducible rfl))
    (try simp only [Act.put, List.setIfInBounds_toArray, List.set_cons_zero, List.set_cons_succ])
    refine take_step (i := 5) rfl (by kernel_rfl) (fun K hK => ?_)
    go_simp
    (go_at_call 79; refine (hkid _ hR0).mono ?_; rintro e w1 hp; have hR1 := hR0.next hp; obtain ⟨rfl, _⟩ := hp)
    (try go_wp2_with fail)
    refine hK.out _ _ (⟨(hR1.cell hg).trans q0, hR1.box.cell 0⟩) (fun hHeld => ?_)
    clear hK K
    (try simp only [Act.put, List.setIfInBounds_toArray, List.set_cons_zero, List.set_cons_succ])
    refine take_yes (i := 6) (v := ?_) rfl (by kernel_rfl) (by kernel_rfl) (by kernel_rfl) (fun _ _ _ h => h) (by rfl) ?_ hHeld ?_
    rotate_left
    · (intro w hSw; (try dsimp only at hSw); go_simp; (try with_reducible rfl))
    (try simp only [Act.put, List.setIfInBounds_toArray, List.set_cons_zero, List.set_cons_succ])
    refine wpAnyH_done (by kernel_rfl) ?_ _
    go_wp2
    go_ret
    exact hR1.post
  · go_enter Tryz.func79, Tryz.ntmps79
    go_wp2_with fail
    refine (h1 _).mono ?_
    rintro e w' ⟨rfl, rfl⟩
    go_wp2_with fail
    refine (h2 _).mono ?_
    rintro e w' ⟨rfl, rfl⟩
    have hR0 := hst.drew
    go_wp2_with fail
    refine wp_region_held_drew (S := (fun W => W.cell? ⟨g, 0, none⟩ = some (.nilIface) ∧ W.cell? ⟨w.heap.size, 0, none⟩ = some ((.map (some g'))))) (by kernel_rfl) (⟨(hR0.cell hg).trans q0, hR0.box.cell 0⟩) (fun hHeld => ?_)
    refine take_yes (i := 0) (v := ?_) rfl (by kernel_rfl) (by kernel_rfl) (by kernel_rfl) (fun _ _ _ h => h) (by rfl) ?_ hHeld ?_
    rotate_left
    · (intro w hSw; (try dsimp only at hSw); go_simp; (try with_reducible rfl))
    (try simp only [Act.put, List.setIfInBounds_toArray, List.set_cons_zero, List.set_cons_succ])
    refine take_yes (i := 1) (v := ?_) rfl (by kernel_rfl) (by kernel_rfl) (by kernel_rfl) (fun _ _ _ h => h) (by rfl) ?_ hHeld ?_
    rotate_left
    · (intro w hSw; (try dsimp only at hSw); go_simp; (try with_reducible rfl))
    (try simp only [Act.put, List.setIfInBounds_toArray, List.set_cons_zero, List.set_cons_succ])
    refine take_yes (i := 2) (v := ?_) rfl (by kernel_rfl) (by kernel_rfl) (by kernel_rfl) (fun _ _ _ h => h) (by rfl) ?_ hHeld ?_
    rotate_left
    · (intro w hSw; (try dsimp only at hSw); go_simp; (try with_reducible rfl))
    (try simp only [Act.put, List.setIfInBounds_toArray, List.set_cons_zero, List.set_cons_succ])
    refine take_yes (i := 3) (v := ?_) rfl (by kernel_rfl) (by kernel_rfl) (by kernel_rfl) (fun _ _ _ h => h) (by rfl) ?_ hHeld ?_
    rotate_left
    · (intro w hSw; (try dsimp only at hSw); go_simp; (try with_reducible rfl))
    (try simp only [Act.put, List.setIfInBounds_toArray, List.set_cons_zero, List.set_cons_succ])
    refine take_yes (i := 4) (v := ?_) rfl (by kernel_rfl) (by kernel_rfl) (by kernel_rfl) (fun _ _ _ h => h) (by rfl) ?_ hHeld ?_
    rotate_left
    · (intro w hSw; (try dsimp only at hSw); go_simp; (try with_reducible rfl))
    (try simp only [Act.put, List.setIfInBounds_toArray, List.set_cons_zero, List.set_cons_succ])
    refine take_step (i := 5) rfl (by kernel_rfl) (fun K hK => ?_)
    go_simp
    (go_at_call 79; refine (hkid _ hR0).mono ?_; rintro e w1 hp; have hR1 := hR0.next hp; obtain ⟨rfl, _⟩ := hp)
    (try go_wp2_with fail)
    refine hK.out _ _ (⟨(hR1.cell hg).trans q0, hR1.box.cell 0⟩) (fun hHeld => ?_)
    clear hK K
    (try simp only [Act.put, List.setIfInBounds_toArray, List.set_cons_zero, List.set_cons_succ])
    refine take_yes (i := 6) (v := ?_) rfl (by kernel_rfl) (by kernel_rfl) (by kernel_rfl) (fun _ _ _ h => h) (by rfl) ?_ hHeld ?_
    rotate_left
    · (intro w hSw; (try dsimp only at hSw); go_simp; (try with_reducible rfl))
    (try simp only [Act.put, List.setIfInBounds_toArray, List.set_cons_zero, List.set_cons_succ])
    refine wpAnyH_done (by kernel_rfl) ?_ _
    go_wp2
    go_ret
    exact hR1.post
  · go_enter Tryz.func79, Tryz.ntmps79
    go_wp2_with fail
    refine (h1 _).mono ?_
    rintro e w' ⟨rfl, rfl⟩
    go_wp2_with fail
    refine (h2 _).mono ?_
    rintro e w' ⟨rfl, rfl⟩
    have hR0 := hst.drew
    go_wp2_with fail
    refine wp_region_held_drew (S := (fun W => W.cell? ⟨g, 0, none⟩ = some (.iface T y) ∧ W.cell? ⟨w.heap.size, 0, none⟩ = some ((.map (some g'))))) (by kernel_rfl) (⟨(hR0.cell hg).trans q0, hR0.box.cell 0⟩) (fun hHeld => ?_)
    refine take_yes (i := 0) (v := ?_) rfl (by kernel_rfl) (by kernel_rfl) (by kernel_rfl) (fun _ _ _ h => h) (by rfl) ?_ hHeld ?_
    rotate_left
    · (intro w hSw; (try dsimp only at hSw); go_simp; (try with_reducible rfl))
    (try simp only [Act.put, List.setIfInBounds_toArray, List.set_cons_zero, List.set_cons_succ])
    refine take_yes (i := 1) (v := ?_) rfl (by kernel_rfl) (by kernel_rfl) (by kernel_rfl) (fun _ _ _ h => h) (by rfl) ?_ hHeld ?_
    rotate_left
    · (intro w hSw; (try dsimp only at hSw); go_simp; (try with_reducible rfl))
    (try simp only [Act.put, List.setIfInBounds_toArray, List.set_cons_zero, List.set_cons_succ])
    refine take_yes (i := 2) (v := ?_) rfl (by kernel_rfl) (by kernel_rfl) (by kernel_rfl) (fun _ _ _ h => h) (by rfl) ?_ hHeld ?_
    rotate_left
    · (intro w hSw; (try dsimp only at hSw); go_simp; (try with_reducible rfl))
    (try simp only [Act.put, List.setIfInBounds_toArray, List.set_cons_zero, List.set_cons_succ])
    refine take_yes (i := 3) (v := ?_) rfl (by kernel_rfl) (by kernel_rfl) (by kernel_rfl) (fun _ _ _ h => h) (by rfl) ?_ hHeld ?_
    rotate_left
    · (intro w hSw; (try dsimp only at hSw); go_simp; (try with_reducible rfl))
    (try simp only [Act.put, List.setIfInBounds_toArray, List.set_cons_zero, List.set_cons_succ])
    refine take_yes (i := 4) (v := ?_) rfl (by kernel_rfl) (by kernel_rfl) (by kernel_rfl) (fun _ _ _ h => h) (by rfl) ?_ hHeld ?_
    rotate_left
    · (intro w hSw; (try dsimp only at hSw); go_simp; (try with_reducible rfl))
    (try simp only [Act.put, List.setIfInBounds_toArray, List.set_cons_zero, List.set_cons_succ])
    refine take_step (i := 5) rfl (by kernel_rfl) (fun K hK => ?_)
    go_simp
    (go_at_call 79; refine (hkid _ hR0).mono ?_; rintro e w1 hp; have hR1 := hR0.next hp; obtain ⟨rfl, _⟩ := hp)
    (try go_wp2_with fail)
    refine hK.out _ _ (⟨(hR1.cell hg).trans q0, hR1.box.cell 0⟩) (fun hHeld => ?_)
    clear hK K
    (try simp only [Act.put, List.setIfInBounds_toArray, List.set_cons_zero, List.set_cons_succ])
    refine take_yes (i := 6) (v := ?_) rfl (by kernel_rfl) (by kernel_rfl) (by kernel_rfl) (fun _ _ _ h => h) (by rfl) ?_ hHeld ?_
    rotate_left
    · (intro w hSw; (try dsimp only at hSw); go_simp; (try with_reducible rfl))
    (try simp only [Act.put, List.setIfInBounds_toArray, List.set_cons_zero, List.set_cons_succ])
    refine wpAnyH_done (by kernel_rfl) ?_ _
    go_wp2
    go_ret
    exact hR1.post

/-- What is asked of a part of a type. -/
def KidOk (w0 : World) (s0 : Value) (x : Value) (r : Bool) : Prop := ∀ s cs W, NilR w0 s0 cs s W → Calls Tryz.prog 79 #[x, s] W (NilPost r s W)

set_option maxHeartbeats 4000000 in
set_option maxRecDepth 100000 in
/-- Array types: the first k static types are known, the next one, if there is one, is not. -/
theorem nilRec_arr (g : Nat) (A : Option Addr) (c k : Nat) (dyn : Value) (xs : List Value) (F : Nat → Prop) (s : Value) (w : World) (hs : SeenOk w s) (hb : Blk w g 139 #[.slice A xs.length c, dyn]) (hg : NilX w s g) (hrow : rowAt w F A xs) (hF : ∀ b, F b → NilX w s b)
    (hifc : ∀ x ∈ xs, Ifc x) (hlen : xs.length ≤ 1048576) (hle : k ≤ xs.length) (hno : ∀ i (hi : i < xs.length), i < k → KidOk w s xs[i] false) (hyes : ∀ hk : k < xs.length, KidOk w s xs[k] true)
    (hd : dyn = .nilIface ∨ (∃ T y, dyn = .iface T y) ∧ KidOk w s dyn false) (hk : s = .map none ∨ k = xs.length) :
    Calls Tryz.prog 79 #[.iface 102 (ptr g), s] w (NilPost (decide (k < xs.length)) s w) := by
  have hdy : Dyn 102 4 := by simp [Dyn]
  have h1 := fun W => unwrap_any 102 4 (ptr g) W hdy
  have h2 := fun W => unwrapRec_any 102 4 (ptr g) W hdy
  have q0 := hb.cell 0
  have q1 := hb.cell 1
  simp at q0 q1
  have hgl := hg.1
  have hbb : w.heap[g]? = some (.cells #[.slice A xs.length c, dyn] 139 (0, 0)) := hb
  have hcf : ∀ s' W, NilR w s w.heap.size s' W → Calls Tryz.prog 103 #[.slice A xs.length c, .func (.func 105) #[] #[ptr w.heap.size]] W (BoolR (decide (k < xs.length)) (NilR w s w.heap.size s')) := fun s' W hR =>
    containsFunc_any xs A c F w.heap.size k (NilR w s w.heap.size s') W ⟨fun W hW => hrow.keep (fun _ h => h) fun p hp => hW.kept.cell (hF _ hp), hifc, hlen, hle, fun i hi W hik hW => (nilRec2_any xs[i] s' w.heap.size false W (hifc _ (List.getElem_mem hi)) hW.box (hno i hi hik s' _ W hW) hW.seen).mono fun _ _ h => ⟨h.1, hW.next h⟩,
      fun hk W hW => (nilRec2_any xs[k] s' w.heap.size true W (hifc _ (List.getElem_mem hk)) hW.box (hyes hk s' _ W hW) hW.seen).mono fun _ _ h => ⟨h.1, hW.next h⟩⟩ hR
  have HCF := Lib.hid hcf
  have HK := Lib.hid hk
  obtain ⟨bk, ebk⟩ : ∃ bk, bk = decide (k < xs.length) := ⟨_, rfl⟩
  rw [← ebk] at HCF ⊢
  have EBK := Lib.hid ebk
  have hkey : ∀ W, Kept (NilX w s) w W → SeenKey W (.iface 102 (ptr g)) := fun W hW => ⟨g, _, _, .inl rfl, (hW.block g hg).trans hbb⟩
  have hst := NilR.start hs
  have hs1 := hs
  have hmn : ∀ (W : World) (r : Option Nat), Sem.run Tryz.prog (binOp .eql 155 (.map r) (.map none)) W = .ok (.bool r.isNone) W := fun W r => run_eql_map_nil W 155 _ _ r Tryz.underlying155
  clear hdy hb hrow hF hifc hno hyes hcf hk ebk hbb hle

  rcases hs with rfl | ⟨g', rfl, hm0⟩ <;> rcases hd with rfl | ⟨⟨T, y, rfl⟩, hdk⟩
  · go_enter Tryz.func79, Tryz.ntmps79
    go_wp2_with fail
    refine (h1 _).mono ?_
    rintro e w' ⟨rfl, rfl⟩
    go_wp2_with fail
    refine (h2 _).mono ?_
    rintro e w' ⟨rfl, rfl⟩
    go_upto_region 13 with (at_lookup; go_must (refine wpList_lookup_seen (by rfl) _ _ (by rfl) (.map none) _ (by rfl) (by rfl) (hkey _ hst.kept) hst.seen ?_); intro bf hbf)
    obtain rfl : bf = false := by simpa using hbf
    clear hbf
    have hmm := @run_makeMap Tryz.prog
    have hbx : Blk (((w.alloc (.cells #[.map (some (w.heap.size + 1 + 1))] 155)).alloc (.cells #[] 93)).alloc (.map #[] 0)) w.heap.size 155 #[.map (some (w.heap.size + 1 + 1))] := ((Blk.new w 155 _).alloc _).alloc _
    have hkw : Kept (NilX w (.map none)) w (((w.alloc (.cells #[.map (some (w.heap.size + 1 + 1))] 155)).alloc (.cells #[] 93)).alloc (.map #[] 0)) := (((Kept.refl _ w).alloc (fun b hb => hb.1) _).alloc (fun b hb => by have := hb.1; simp; omega) _).alloc (fun b hb => by have := hb.1; simp; omega) _
    have hM : SeenMap (((w.alloc (.cells #[.map (some (w.heap.size + 1 + 1))] 155)).alloc (.cells #[] 93)).alloc (.map #[] 0)) (w.heap.size + 1 + 1) := SeenMap.empty (by simpa using heap_alloc_new ((w.alloc (.cells #[.map (some (w.heap.size + 1 + 1))] 155)).alloc (.cells #[] 93)) (.map #[] 0))
    clear hst hs1
    go_upto_region 18 with (at_mapUpdate; go_must (refine wpList_store_seen (by rfl) _ _ _ (by rfl) (w.heap.size + 1 + 1) _ (by rfl) (by rfl) (by rfl) (hkey _ hkw) hM ?_); intro w1 hm1 hk1 hz1)
    have hR : NilR w (.map none) w.heap.size (.map (some (w.heap.size + 1 + 1))) w1 := ⟨hkw.trans (hk1.mono fun b hb => by have := hb.1; omega), .inr ⟨_, rfl, hm1⟩, hbx.kept hk1 (by omega), fun b hb e => by simp at e; omega, .inr rfl⟩
    have z5 := hR.box.cell 0
    simp at z5
    have z6 := hR.box.lt
    have z7 := (hR.cell (o := 0) hg).trans q0
    have z8 : g < w1.heap.size := by omega
    clear hbx hkw hM hm1 hk1 hz1 hmm
    go_wp2_with fail
    refine (HCF.out _ _ hR).mono ?_
    rintro e w2 ⟨rfl, hR2⟩
    have z0 := (hR2.cell (o := 0) hg).trans q0
    have z1 := (hR2.cell (o := 1) hg).trans q1
    have z2 := hR2.box.cell 0
    simp at z2
    have z3 := hR2.box.lt
    have z4 : g < w2.heap.size := by omega
    clear hR
    cases bk with
    | true =>
      go_wp2
      go_ret
      exact hR2.post
    | false =>
      go_wp2
      go_ret
      exact hR2.post
  · go_enter Tryz.func79, Tryz.ntmps79
    go_wp2_with fail
    refine (h1 _).mono ?_
    rintro e w' ⟨rfl, rfl⟩
    go_wp2_with fail
    refine (h2 _).mono ?_
    rintro e w' ⟨rfl, rfl⟩
    go_upto_region 13 with (at_lookup; go_must (refine wpList_lookup_seen (by rfl) _ _ (by rfl) (.map none) _ (by rfl) (by rfl) (hkey _ hst.kept) hst.seen ?_); intro bf hbf)
    obtain rfl : bf = false := by simpa using hbf
    clear hbf
    have hmm := @run_makeMap Tryz.prog
    have hbx : Blk (((w.alloc (.cells #[.map (some (w.heap.size + 1 + 1))] 155)).alloc (.cells #[] 93)).alloc (.map #[] 0)) w.heap.size 155 #[.map (some (w.heap.size + 1 + 1))] := ((Blk.new w 155 _).alloc _).alloc _
    have hkw : Kept (NilX w (.map none)) w (((w.alloc (.cells #[.map (some (w.heap.size + 1 + 1))] 155)).alloc (.cells #[] 93)).alloc (.map #[] 0)) := (((Kept.refl _ w).alloc (fun b hb => hb.1) _).alloc (fun b hb => by have := hb.1; simp; omega) _).alloc (fun b hb => by have := hb.1; simp; omega) _
    have hM : SeenMap (((w.alloc (.cells #[.map (some (w.heap.size + 1 + 1))] 155)).alloc (.cells #[] 93)).alloc (.map #[] 0)) (w.heap.size + 1 + 1) := SeenMap.empty (by simpa using heap_alloc_new ((w.alloc (.cells #[.map (some (w.heap.size + 1 + 1))] 155)).alloc (.cells #[] 93)) (.map #[] 0))
    clear hst hs1
    go_upto_region 18 with (at_mapUpdate; go_must (refine wpList_store_seen (by rfl) _ _ _ (by rfl) (w.heap.size + 1 + 1) _ (by rfl) (by rfl) (by rfl) (hkey _ hkw) hM ?_); intro w1 hm1 hk1 hz1)
    have hR : NilR w (.map none) w.heap.size (.map (some (w.heap.size + 1 + 1))) w1 := ⟨hkw.trans (hk1.mono fun b hb => by have := hb.1; omega), .inr ⟨_, rfl, hm1⟩, hbx.kept hk1 (by omega), fun b hb e => by simp at e; omega, .inr rfl⟩
    have z5 := hR.box.cell 0
    simp at z5
    have z6 := hR.box.lt
    have z7 := (hR.cell (o := 0) hg).trans q0
    have z8 : g < w1.heap.size := by omega
    clear hbx hkw hM hm1 hk1 hz1 hmm
    go_wp2_with fail
    refine (HCF.out _ _ hR).mono ?_
    rintro e w2 ⟨rfl, hR2⟩
    have z0 := (hR2.cell (o := 0) hg).trans q0
    have z1 := (hR2.cell (o := 1) hg).trans q1
    have z2 := hR2.box.cell 0
    simp at z2
    have z3 := hR2.box.lt
    have z4 : g < w2.heap.size := by omega
    clear hR
    cases bk with
    | true =>
      go_wp2
      go_ret
      exact hR2.post
    | false =>
      have hR3 := hR2.drew
      go_wp2_with fail
      refine wp_region_held_drew (S := (fun W => W.cell? ⟨g, 1, none⟩ = some (.iface T y) ∧ W.cell? ⟨w.heap.size, 0, none⟩ = some (.map (some (w.heap.size + 1 + 1))))) (by kernel_rfl) (⟨(hR3.cell hg).trans q1, hR3.box.cell 0⟩) (fun hHeld => ?_)
      refine take_yes (i := 0) (v := ?_) rfl (by kernel_rfl) (by kernel_rfl) (by kernel_rfl) (fun _ _ _ h => h) (by rfl) ?_ hHeld ?_
      rotate_left
      · (intro w hSw; (try dsimp only at hSw); go_simp; (try with_reducible rfl))
      (try simp only [Act.put, List.setIfInBounds_toArray, List.set_cons_zero, List.set_cons_succ])
      refine take_yes (i := 1) (v := ?_) rfl (by kernel_rfl) (by kernel_rfl) (by kernel_rfl) (fun _ _ _ h => h) (by rfl) ?_ hHeld ?_
      rotate_left
      · (intro w hSw; (try dsimp only at hSw); go_simp; (try with_reducible rfl))
      (try simp only [Act.put, List.setIfInBounds_toArray, List.set_cons_zero, List.set_cons_succ])
      refine take_yes (i := 2) (v := ?_) rfl (by kernel_rfl) (by kernel_rfl) (by kernel_rfl) (fun _ _ _ h => h) (by rfl) ?_ hHeld ?_
      rotate_left
      · (intro w hSw; (try dsimp only at hSw); go_simp; (try with_reducible rfl))
      (try simp only [Act.put, List.setIfInBounds_toArray, List.set_cons_zero, List.set_cons_succ])
      refine take_yes (i := 3) (v := ?_) rfl (by kernel_rfl) (by kernel_rfl) (by kernel_rfl) (fun _ _ _ h => h) (by rfl) ?_ hHeld ?_
      rotate_left
      · (intro w hSw; (try dsimp only at hSw); go_simp; (try with_reducible rfl))
      (try simp only [Act.put, List.setIfInBounds_toArray, List.set_cons_zero, List.set_cons_succ])
      refine take_yes (i := 4) (v := ?_) rfl (by kernel_rfl) (by kernel_rfl) (by kernel_rfl) (fun _ _ _ h => h) (by rfl) ?_ hHeld ?_
      rotate_left
      · (intro w hSw; (try dsimp only at hSw); go_simp; (try with_reducible rfl))
      (try simp only [Act.put, List.setIfInBounds_toArray, List.set_cons_zero, List.set_cons_succ])
      refine take_step (i := 5) rfl (by kernel_rfl) (fun K hK => ?_)
      go_simp
      (go_at_call 79; refine (hdk _ _ _ hR3).mono ?_; rintro e w4 hp; have hR4 := hR3.next hp; obtain ⟨rfl, _⟩ := hp)
      (try go_wp2_with fail)
      refine hK.out _ _ (⟨(hR4.cell hg).trans q1, hR4.box.cell 0⟩) (fun hHeld => ?_)
      clear hK K
      (try simp only [Act.put, List.setIfInBounds_toArray, List.set_cons_zero, List.set_cons_succ])
      refine take_yes (i := 6) (v := ?_) rfl (by kernel_rfl) (by kernel_rfl) (by kernel_rfl) (fun _ _ _ h => h) (by rfl) ?_ hHeld ?_
      rotate_left
      · (intro w hSw; (try dsimp only at hSw); go_simp; (try with_reducible rfl))
      (try simp only [Act.put, List.setIfInBounds_toArray, List.set_cons_zero, List.set_cons_succ])
      refine wpAnyH_done (by kernel_rfl) ?_ _
      go_wp2
      go_ret
      exact hR4.post
  · go_enter Tryz.func79, Tryz.ntmps79
    go_wp2_with fail
    refine (h1 _).mono ?_
    rintro e w' ⟨rfl, rfl⟩
    go_wp2_with fail
    refine (h2 _).mono ?_
    rintro e w' ⟨rfl, rfl⟩
    go_upto_region 13 with (at_lookup; go_must (refine wpList_lookup_seen (by rfl) _ _ (by rfl) (.map (some g')) _ (by rfl) (by rfl) (hkey _ hst.kept) hst.seen ?_); intro bf hbf)
    cases bf with
    | true =>
      go_wp2
      go_ret
      have e0 : bk = false := by rw [EBK.out]; exact decide_eq_false (by rcases HK.out with h | h <;> first | omega | cases h)
      subst e0
      exact NilR.post ⟨(hst.kept.alloc (fun b hb => by have := hb.1; simp; omega) _), hst.seen.below ((Below.refl _ _).alloc (Nat.le_refl _) _), hst.box.alloc _, hst.old, hst.fin⟩
    | false =>
    clear hbf
    have hbx : Blk ((w.alloc (.cells #[.map (some g')] 155)).alloc (.cells #[] 93)) w.heap.size 155 #[.map (some g')] := (Blk.new w 155 _).alloc _
    have hkw : Kept (NilX w (.map (some g'))) w ((w.alloc (.cells #[.map (some g')] 155)).alloc (.cells #[] 93)) := ((Kept.refl _ w).alloc (fun b hb => hb.1) _).alloc (fun b hb => by have := hb.1; simp; omega) _
    have hM : SeenMap ((w.alloc (.cells #[.map (some g')] 155)).alloc (.cells #[] 93)) g' := hm0.below (((Below.refl _ w).alloc (Nat.le_refl _) _).alloc (by simp) _)
    have hgl' := hm0.lt
    clear hst hs1
    go_upto_region 18 with (at_mapUpdate; go_must (refine wpList_store_seen (by rfl) _ _ _ (by rfl) g' _ (by rfl) (by rfl) (by rfl) (hkey _ hkw) hM ?_); intro w1 hm1 hk1 hz1)
    have hR : NilR w (.map (some g')) w.heap.size (.map (some g')) w1 := ⟨hkw.trans (hk1.mono fun b hb e => hb.2 (by rw [e])), .inr ⟨_, rfl, hm1⟩, hbx.kept hk1 (by omega), fun b hb e => e, .inl rfl⟩
    have z5 := hR.box.cell 0
    simp at z5
    have z6 := hR.box.lt
    have z7 := (hR.cell (o := 0) hg).trans q0
    have z8 : g < w1.heap.size := by omega
    clear hbx hkw hM hm1 hk1 hz1
    go_wp2_with fail
    refine (HCF.out _ _ hR).mono ?_
    rintro e w2 ⟨rfl, hR2⟩
    have z0 := (hR2.cell (o := 0) hg).trans q0
    have z1 := (hR2.cell (o := 1) hg).trans q1
    have z2 := hR2.box.cell 0
    simp at z2
    have z3 := hR2.box.lt
    have z4 : g < w2.heap.size := by omega
    clear hR
    cases bk with
    | true =>
      go_wp2
      go_ret
      exact hR2.post
    | false =>
      go_wp2
      go_ret
      exact hR2.post
  · go_enter Tryz.func79, Tryz.ntmps79
    go_wp2_with fail
    refine (h1 _).mono ?_
    rintro e w' ⟨rfl, rfl⟩
    go_wp2_with fail
    refine (h2 _).mono ?_
    rintro e w' ⟨rfl, rfl⟩
    go_upto_region 13 with (at_lookup; go_must (refine wpList_lookup_seen (by rfl) _ _ (by rfl) (.map (some g')) _ (by rfl) (by rfl) (hkey _ hst.kept) hst.seen ?_); intro bf hbf)
    cases bf with
    | true =>
      go_wp2
      go_ret
      have e0 : bk = false := by rw [EBK.out]; exact decide_eq_false (by rcases HK.out with h | h <;> first | omega | cases h)
      subst e0
      exact NilR.post ⟨(hst.kept.alloc (fun b hb => by have := hb.1; simp; omega) _), hst.seen.below ((Below.refl _ _).alloc (Nat.le_refl _) _), hst.box.alloc _, hst.old, hst.fin⟩
    | false =>
    clear hbf
    have hbx : Blk ((w.alloc (.cells #[.map (some g')] 155)).alloc (.cells #[] 93)) w.heap.size 155 #[.map (some g')] := (Blk.new w 155 _).alloc _
    have hkw : Kept (NilX w (.map (some g'))) w ((w.alloc (.cells #[.map (some g')] 155)).alloc (.cells #[] 93)) := ((Kept.refl _ w).alloc (fun b hb => hb.1) _).alloc (fun b hb => by have := hb.1; simp; omega) _
    have hM : SeenMap ((w.alloc (.cells #[.map (some g')] 155)).alloc (.cells #[] 93)) g' := hm0.below (((Below.refl _ w).alloc (Nat.le_refl _) _).alloc (by simp) _)
    have hgl' := hm0.lt
    clear hst hs1
    go_upto_region 18 with (at_mapUpdate; go_must (refine wpList_store_seen (by rfl) _ _ _ (by rfl) g' _ (by rfl) (by rfl) (by rfl) (hkey _ hkw) hM ?_); intro w1 hm1 hk1 hz1)
    have hR : NilR w (.map (some g')) w.heap.size (.map (some g')) w1 := ⟨hkw.trans (hk1.mono fun b hb e => hb.2 (by rw [e])), .inr ⟨_, rfl, hm1⟩, hbx.kept hk1 (by omega), fun b hb e => e, .inl rfl⟩
    have z5 := hR.box.cell 0
    simp at z5
    have z6 := hR.box.lt
    have z7 := (hR.cell (o := 0) hg).trans q0
    have z8 : g < w1.heap.size := by omega
    clear hbx hkw hM hm1 hk1 hz1
    go_wp2_with fail
    refine (HCF.out _ _ hR).mono ?_
    rintro e w2 ⟨rfl, hR2⟩
    have z0 := (hR2.cell (o := 0) hg).trans q0
    have z1 := (hR2.cell (o := 1) hg).trans q1
    have z2 := hR2.box.cell 0
    simp at z2
    have z3 := hR2.box.lt
    have z4 : g < w2.heap.size := by omega
    clear hR
    cases bk with
    | true =>
      go_wp2
      go_ret
      exact hR2.post
    | false =>
      have hR3 := hR2.drew
      go_wp2_with fail
      refine wp_region_held_drew (S := (fun W => W.cell? ⟨g, 1, none⟩ = some (.iface T y) ∧ W.cell? ⟨w.heap.size, 0, none⟩ = some (.map (some g')))) (by kernel_rfl) (⟨(hR3.cell hg).trans q1, hR3.box.cell 0⟩) (fun hHeld => ?_)
      refine take_yes (i := 0) (v := ?_) rfl (by kernel_rfl) (by kernel_rfl) (by kernel_rfl) (fun _ _ _ h => h) (by rfl) ?_ hHeld ?_
      rotate_left
      · (intro w hSw; (try dsimp only at hSw); go_simp; (try with_reducible rfl))
      (try simp only [Act.put, List.setIfInBounds_toArray, List.set_cons_zero, List.set_cons_succ])
      refine take_yes (i := 1) (v := ?_) rfl (by kernel_rfl) (by kernel_rfl) (by kernel_rfl) (fun _ _ _ h => h) (by rfl) ?_ hHeld ?_
      rotate_left
      · (intro w hSw; (try dsimp only at hSw); go_simp; (try with_reducible rfl))
      (try simp only [Act.put, List.setIfInBounds_toArray, List.set_cons_zero, List.set_cons_succ])
      refine take_yes (i := 2) (v := ?_) rfl (by kernel_rfl) (by kernel_rfl) (by kernel_rfl) (fun _ _ _ h => h) (by rfl) ?_ hHeld ?_
      rotate_left
      · (intro w hSw; (try dsimp only at hSw); go_simp; (try with_reducible rfl))
      (try simp only [Act.put, List.setIfInBounds_toArray, List.set_cons_zero, List.set_cons_succ])
      refine take_yes (i := 3) (v := ?_) rfl (by kernel_rfl) (by kernel_rfl) (by kernel_rfl) (fun _ _ _ h => h) (by rfl) ?_ hHeld ?_
      rotate_left
      · (intro w hSw; (try dsimp only at hSw); go_simp; (try with_reducible rfl))
      (try simp only [Act.put, List.setIfInBounds_toArray, List.set_cons_zero, List.set_cons_succ])
      refine take_yes (i := 4) (v := ?_) rfl (by kernel_rfl) (by kernel_rfl) (by kernel_rfl) (fun _ _ _ h => h) (by rfl) ?_ hHeld ?_
      rotate_left
      · (intro w hSw; (try dsimp only at hSw); go_simp; (try with_reducible rfl))
      (try simp only [Act.put, List.setIfInBounds_toArray, List.set_cons_zero, List.set_cons_succ])
      refine take_step (i := 5) rfl (by kernel_rfl) (fun K hK => ?_)
      go_simp
      (go_at_call 79; refine (hdk _ _ _ hR3).mono ?_; rintro e w4 hp; have hR4 := hR3.next hp; obtain ⟨rfl, _⟩ := hp)
      (try go_wp2_with fail)
      refine hK.out _ _ (⟨(hR4.cell hg).trans q1, hR4.box.cell 0⟩) (fun hHeld => ?_)
      clear hK K
      (try simp only [Act.put, List.setIfInBounds_toArray, List.set_cons_zero, List.set_cons_succ])
      refine take_yes (i := 6) (v := ?_) rfl (by kernel_rfl) (by kernel_rfl) (by kernel_rfl) (fun _ _ _ h => h) (by rfl) ?_ hHeld ?_
      rotate_left
      · (intro w hSw; (try dsimp only at hSw); go_simp; (try with_reducible rfl))
      (try simp only [Act.put, List.setIfInBounds_toArray, List.set_cons_zero, List.set_cons_succ])
      refine wpAnyH_done (by kernel_rfl) ?_ _
      go_wp2
      go_ret
      exact hR4.post

end Go.Proofs.YtpmfjbmfjfhghaaGreat
