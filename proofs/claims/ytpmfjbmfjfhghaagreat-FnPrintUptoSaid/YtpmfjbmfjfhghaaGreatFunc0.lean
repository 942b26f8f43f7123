/-
  Function types (1): 'zzMap' of 'unwrap', 'Args', 'FuncArgs', 'Arg', the constructors.
-/
import Derived.Test.YtpmfjbmfjfhghaaGreatNewAny
import Derived.Lib.SliceRun
import Derived.Test.YtpmfjbmfjfhghaaGreatReg
namespace Go.Proofs.YtpmfjbmfjfhghaaGreat
open Go.RowKit

theorem slice_nil (W : World) (a : Option Addr) (n c : Nat) : (binOp .eql 77 (.slice a n c) (.slice none 0 0)).run Tryz.prog W = .ok (.bool a.isNone) W := by
  have h := Lib.run_eql_slice_nil (P := Tryz.prog) W 77 68 a n c 0 0 Tryz.underlying77
  exact h

/-- Values that are types. -/
def TyVal (x : Value) : Prop := ∃ T n y, x = .iface T y ∧ Dyn T n

theorem repPs.tys {w : World} {F : Nat → Prop} {l : List Tr} {xs : List Value} (h : repPs w F l xs) : ∀ x ∈ xs, TyVal x := fun x hx => by
  obtain ⟨j, hj, rfl⟩ := List.getElem_of_mem hx
  obtain ⟨x, hx, hh⟩ := h.get j (by rw [← h.length]; exact hj)
  obtain ⟨T, y, rfl, hd⟩ := hh.dyn
  rw [List.getElem?_eq_getElem hj] at hx
  exact ⟨T, _, y, Option.some.inj hx, hd⟩

set_option maxRecDepth 100000 in
theorem zzMap_none (w : World) : Calls Tryz.prog 107 #[.slice none 0 0, .func (.func 60) #[] #[]] w (Same (.slice none 0 0) w) := by
  have hsn := slice_nil
  go_enter Tryz.func107, Tryz.ntmps107
  go_wp2
  go_ret
  exact ⟨rfl, rfl⟩

theorem fill_next {α : Type} (xs Z : List α) (j : Nat) (hj : j < xs.length) (hz : Z.length = xs.length) : (xs.take j ++ Z.drop j).set j xs[j] = xs.take (j + 1) ++ Z.drop (j + 1) := by
  have hl : (xs.take j).length = j := by rw [List.length_take]; omega
  rw [List.set_append_right _ _ (by omega), hl, Nat.sub_self, List.drop_eq_getElem_cons (show j < Z.length by omega), List.set_cons_zero, List.take_succ_eq_append_getElem hj, List.append_assoc]
  rfl

set_option maxHeartbeats 1000000 in
set_option maxRecDepth 100000 in
theorem zzMap_some (xs : List Value) (b off c : Nat) (F : Nat → Prop) (w : World) (hx : rowAt w F (some ⟨b, off, none⟩) xs) (hF : ∀ b, F b → b < w.heap.size) (ht : ∀ x ∈ xs, TyVal x) (hlen : xs.length ≤ 1048576) :
    Calls Tryz.prog 107 #[.slice (some ⟨b, off, none⟩) xs.length c, .func (.func 60) #[] #[]] w fun e w' =>
      e = .returned (.slice (some ⟨w.heap.size, 0, none⟩) xs.length xs.length) ∧ Blk w' w.heap.size 68 xs.toArray ∧ Below w.heap.size w w' := by
  obtain ⟨i, hi, hi3, hi1, hi2⟩ := info_parts infoT
  have hmk := run_makeSlice (P := Tryz.prog) (w := w) 77 68 i .nilIface Tryz.underlying77 hi hi3 .i64 .i64 xs.length xs.length (by omega) (by omega) (by rw [hi1, Int.toNat_natCast]; omega) (by rw [hi2]; omega) (by omega)
  rw [hi1, Int.toNat_natCast, Nat.mul_one] at hmk
  obtain ⟨Z, hZ⟩ : ∃ Z : List Value, Z = (madeCells Value.nilIface.cells xs.length).toList := ⟨_, rfl⟩
  have hZl : Z.length = xs.length := by rw [hZ]; simp [size_madeCells]
  have e0 : madeCells Value.nilIface.cells xs.length = Z.toArray := by rw [hZ]
  rw [e0] at hmk
  have hb0 : Blk (w.alloc (.cells Z.toArray 68)) w.heap.size 68 (xs.take 0 ++ Z.drop 0).toArray := Blk.new _ _ _
  have hk0 : Kept (fun b => b < w.heap.size) w (w.alloc (.cells Z.toArray 68)) := (Kept.refl _ _).alloc (fun _ h => h) _
  clear e0 hZ hi hi1 hi2 hi3
  have hsn := slice_nil
  go_enter Tryz.func107, Tryz.ntmps107
  go_wp2
  clear hmk
  go_loopw [15] (fun i wr => ∃ j : Nat, j ≤ xs.length ∧ i = .int .i64 j ∧ Below w.heap.size w wr ∧ Blk wr w.heap.size 68 (xs.take j ++ Z.drop j).toArray) (fun i _ => xs.length - (intOf i).toNat)
  case atStart => exact ⟨0, Nat.zero_le _, rfl, hk0.below fun _ h => h, hb0⟩
  case round =>
    obtain ⟨j, hj, rfl, hbel, hblk⟩ := hrel
    clear hb0 hk0
    by_cases hlt : j < xs.length
    · obtain ⟨b', off', e, hFb, q0⟩ := hx j xs[j] (List.getElem?_eq_getElem hlt)
      obtain ⟨rfl, rfl⟩ : b = b' ∧ off = off' := by
        injection e with e
        injection e with e1 e2
        exact ⟨e1, e2⟩
      have hbb := hF b hFb
      rw [← hbel.cell (by exact hbb)] at q0
      obtain ⟨T, n, y, ex, hd⟩ := ht xs[j] (List.getElem_mem hlt)
      have hu := fun W => unwrap_any T n y W hd
      have hn := fill_next xs Z j hlt hZl
      rw [ex] at q0 hn
      have hll : (xs.take j ++ Z.drop j).length = xs.length := by rw [List.length_append, List.length_take, List.length_drop]; omega
      obtain ⟨u, c0⟩ : ∃ u, wr.cell? ⟨w.heap.size, j, none⟩ = some u := by
        rw [hblk.cell]
        exact ⟨(xs.take j ++ Z.drop j)[j]'(by omega), by rw [List.getElem?_toArray, List.getElem?_eq_getElem]⟩
      have f0 := hblk.frozen j
      have l0 := hblk.lt
      have hb2 := hblk.set_ j (.iface T y)
      rw [List.setIfInBounds_toArray, hn] at hb2
      have hl2 := (((Kept.refl (fun b => b < w.heap.size) wr).setCell (p := ⟨w.heap.size, j, none⟩) (by simp) (.iface T y)).below fun _ h => h)
      clear hblk hx hn ht hd ex
      go_wp2_with fail
      refine (hu _).mono ?_
      rintro e w' ⟨rfl, rfl⟩
      clear hu
      go_wp2
      go_roundw
      case rel => exact ⟨j + 1, by omega, by go_num, hbel.trans hl2, hb2⟩
      case measure => simp [intOf]; omega
    · obtain rfl : j = xs.length := by omega
      rw [List.take_length, ← hZl, List.drop_length, List.append_nil] at hblk
      clear hx ht
      go_wp2
      go_ret
      exact ⟨rfl, hblk, hbel⟩

set_option maxRecDepth 100000 in
theorem arg_in (b off n c i : Nat) (v x : Value) (w : World) (hi : i < n) (hlb : b < w.heap.size) (hx : w.cell? ⟨b, off + i, none⟩ = some x) (hx' : Ifc x) (hv : Ifc v) :
    Calls Tryz.prog 49 #[.agg #[.slice (some ⟨b, off, none⟩) n c, v], .int .i64 i] w fun e w' => e = .returned x ∧ Below w.heap.size w w' := by
  rcases hx' with rfl | ⟨T, x, rfl⟩ <;> rcases hv with rfl | ⟨T', v, rfl⟩
  all_goals
    go_enter Tryz.func49, Tryz.ntmps49
    go_wp2
    go_ret
    exact ⟨rfl, (Below.refl _ _).alloc (Nat.le_refl _) _⟩

set_option maxRecDepth 100000 in
theorem arg_behind (A : Option Addr) (n c i : Nat) (v : Value) (w : World) (hi : n ≤ i) (hv : Ifc v) :
    Calls Tryz.prog 49 #[.agg #[.slice A n c, v], .int .i64 i] w fun e w' => e = .returned v ∧ Below w.heap.size w w' := by
  have hl : ¬ ((i : Int) < (n : Int)) := by omega
  rcases hv with rfl | ⟨T', v, rfl⟩
  all_goals
    go_enter Tryz.func49, Tryz.ntmps49
    go_wp2
    go_ret
    exact ⟨rfl, (Below.refl _ _).alloc (Nat.le_refl _) _⟩

/-- A value that is a type, or none. -/
def TyOrNil (v : Value) : Prop := v = .nilIface ∨ TyVal v

theorem TyOrNil.ifc {v : Value} (h : TyOrNil v) : Ifc v := by
  rcases h with h | ⟨T, _, y, h, _⟩
  · exact .inl h
  · exact .inr ⟨T, y, h⟩

theorem TyOrNil.unwrap {v : Value} (h : TyOrNil v) (W : World) : Calls Tryz.prog 60 #[v] W (Same v W) := by
  rcases h with rfl | ⟨T, n, y, rfl, hd⟩
  · exact unwrap_nil W
  · exact unwrap_any T n y W hd

/-- 'Args': the same values in a row of its own. -/
def ArgsPost (xs : List Value) (w : World) (e : Ending) (w' : World) : Prop :=
  ∃ A c, e = .returned (.slice A xs.length c) ∧ rowAt w' (fun b => w.heap.size ≤ b ∧ b < w'.heap.size) A xs ∧ Below w.heap.size w w'

set_option maxRecDepth 100000 in
theorem args_any (g : Nat) (A : Option Addr) (c : Nat) (r v : Value) (xs : List Value) (F : Nat → Prop) (w : World) (hA : xs = [] ∧ A = none ∧ c = 0 ∨ ∃ b off, A = some ⟨b, off, none⟩) (hb : Blk w g 137 #[.slice A xs.length c, r, v]) (hx : rowAt w F A xs) (hF : ∀ b, F b → b < w.heap.size) (ht : ∀ x ∈ xs, TyVal x) (hlen : xs.length ≤ 1048576) :
    Calls Tryz.prog 89 #[ptr g] w (ArgsPost xs w) := by
  have q0 := hb.cell 0
  have hg := hb.lt
  simp at q0
  rcases hA with ⟨rfl, rfl, rfl⟩ | ⟨b, off, rfl⟩
  · have hz := zzMap_none w
    go_enter Tryz.func89, Tryz.ntmps89
    go_wp2_with fail
    refine hz.mono ?_
    rintro e w' ⟨rfl, rfl⟩
    clear hz
    go_wp2
    go_ret
    exact ⟨none, 0, rfl, rowAt.nil, Below.refl _ _⟩
  · have hz := zzMap_some xs b off c F w hx hF ht hlen
    clear hx ht
    go_enter Tryz.func89, Tryz.ntmps89
    go_wp2_with fail
    refine hz.mono ?_
    rintro e w' ⟨rfl, h1, h2⟩
    clear hz
    go_wp2
    go_ret
    exact ⟨some ⟨w.heap.size, 0, none⟩, xs.length, rfl, fun j u hu => ⟨w.heap.size, 0, rfl, ⟨Nat.le_refl _, h1.lt⟩, by rw [h1.cell]; simpa using hu⟩, h2⟩

set_option maxHeartbeats 1000000 in
set_option maxHeartbeats 1000000 in
set_option maxRecDepth 100000 in
theorem funcArgs_any (g : Nat) (A : Option Addr) (c : Nat) (r v : Value) (xs : List Value) (F : Nat → Prop) (w : World) (hA : xs = [] ∧ A = none ∧ c = 0 ∨ ∃ b off, A = some ⟨b, off, none⟩) (hb : Blk w g 137 #[.slice A xs.length c, r, v]) (hx : rowAt w F A xs) (hF : ∀ b, F b → b < w.heap.size) (ht : ∀ x ∈ xs, TyVal x) (hlen : xs.length ≤ 1048576) (hv : TyOrNil v) :
    Calls Tryz.prog 48 #[ptr g] w fun e w' => ∃ A' c', e = .returned (.agg #[.slice A' xs.length c', v]) ∧ rowAt w' (fun b => w.heap.size ≤ b ∧ b < w'.heap.size) A' xs ∧ Below w.heap.size w w' := by
  have hg := hb.lt
  have ha : ∀ W, Below w.heap.size w W → Calls Tryz.prog 89 #[ptr g] W (ArgsPost xs W) := fun W hW =>
    args_any g A c r v xs F W hA (hb.below hW hg) (hx.kept (Kept.of_below (X := fun b => b < w.heap.size) hW fun _ h => h) hF fun _ h => h) (fun b hb => Nat.lt_of_lt_of_le (hF b hb) hW.size) ht hlen
  have hu := hv.unwrap
  have hi := hv.ifc
  have hl0 : Below w.heap.size w ((w.alloc (.cells #[.slice none 0 0, .nilIface] 79)).drew) := ((Below.refl _ _).alloc (Nat.le_refl _) _).drew
  have hr0 : Blk ((w.alloc (.cells #[.slice none 0 0, .nilIface] 79)).drew) w.heap.size 79 #[.slice none 0 0, .nilIface] := (Blk.new w _ _).drew
  have hx0 : Blk ((w.alloc (.cells #[.slice none 0 0, .nilIface] 79)).drew) g 137 #[.slice A xs.length c, r, v] := hb.below hl0 hg
  clear hA hx ht hv hb
  rcases hi with rfl | ⟨T, v, rfl⟩
  · skip
    go_enter Tryz.func48, Tryz.ntmps48
    go_wp2_with fail
    refine wp_region_held_drew (S := (fun W => Blk W g 137 #[.slice A xs.length c, r, .nilIface])) (by kernel_rfl) (hx0) (fun hHeld => ?_)
    refine take_yes (i := 0) (v := ?_) rfl (by kernel_rfl) (by kernel_rfl) (by kernel_rfl) (fun _ _ _ h => h) (by rfl) ?_ hHeld ?_
    rotate_left
    · (intro w hSw; have S0 := hSw; have z0 := S0.cell 0; have z1 := S0.cell 1; have z2 := S0.cell 2; have z3 := S0.lt; simp at z0 z1 z2; go_simp; (try with_reducible rfl))
    (try simp only [Act.put, List.setIfInBounds_toArray, List.set_cons_zero, List.set_cons_succ])
    refine take_yes (i := 2) (v := ?_) rfl (by kernel_rfl) (by kernel_rfl) (by kernel_rfl) (fun _ _ _ h => h) (by rfl) ?_ hHeld ?_
    rotate_left
    · (intro w hSw; have S0 := hSw; have z0 := S0.cell 0; have z1 := S0.cell 1; have z2 := S0.cell 2; have z3 := S0.lt; simp at z0 z1 z2; go_simp; (try with_reducible rfl))
    (try simp only [Act.put, List.setIfInBounds_toArray, List.set_cons_zero, List.set_cons_succ])
    refine take_yes (i := 3) (v := ?_) rfl (by kernel_rfl) (by kernel_rfl) (by kernel_rfl) (fun _ _ _ h => h) (by rfl) ?_ hHeld ?_
    rotate_left
    · (intro w hSw; have S0 := hSw; have z0 := S0.cell 0; have z1 := S0.cell 1; have z2 := S0.cell 2; have z3 := S0.lt; simp at z0 z1 z2; go_simp; (try with_reducible rfl))
    (try simp only [Act.put, List.setIfInBounds_toArray, List.set_cons_zero, List.set_cons_succ])
    refine take_yes (i := 4) (v := ?_) rfl (by kernel_rfl) (by kernel_rfl) (by kernel_rfl) (fun _ _ _ h => h) (by rfl) ?_ hHeld ?_
    rotate_left
    · (intro w hSw; have S0 := hSw; have z0 := S0.cell 0; have z1 := S0.cell 1; have z2 := S0.cell 2; have z3 := S0.lt; simp at z0 z1 z2; go_simp; (try with_reducible rfl))
    (try simp only [Act.put, List.setIfInBounds_toArray, List.set_cons_zero, List.set_cons_succ])
    refine take_yes (i := 5) (v := ?_) rfl (by kernel_rfl) (by kernel_rfl) (by kernel_rfl) (fun _ _ _ h => h) (by rfl) ?_ hHeld ?_
    rotate_left
    · (intro w hSw; have S0 := hSw; have z0 := S0.cell 0; have z1 := S0.cell 1; have z2 := S0.cell 2; have z3 := S0.lt; simp at z0 z1 z2; go_simp; (try with_reducible rfl))
    (try simp only [Act.put, List.setIfInBounds_toArray, List.set_cons_zero, List.set_cons_succ])
    refine take_step (i := 1) rfl (by kernel_rfl) (fun K hK => ?_)
    go_simp
    (go_at_call 89; refine (ha _ hl0).mono ?_; rintro e w1 ⟨A', c', rfl, hrow, h1⟩; have hl1 := hl0.trans (h1.mono hl0.size); have hx1 := hx0.below h1 hx0.lt; have hr1 := hr0.below h1 hr0.lt)
    (try go_wp2_with fail)
    refine hK.out _ _ (hx1) (fun hHeld => ?_)
    clear hK K
    (try simp only [Act.put, List.setIfInBounds_toArray, List.set_cons_zero, List.set_cons_succ])
    refine take_step (i := 6) rfl (by kernel_rfl) (fun K hK => ?_)
    go_simp
    (go_at_call 60; refine (hu _).mono ?_; rintro e w2 ⟨rfl, rfl⟩)
    (try go_wp2_with fail)
    refine hK.out _ _ (hx1) (fun hHeld => ?_)
    clear hK K
    (try simp only [Act.put, List.setIfInBounds_toArray, List.set_cons_zero, List.set_cons_succ])
    refine take_yes (i := 7) (v := ?_) rfl (by kernel_rfl) (by kernel_rfl) (by kernel_rfl) (fun _ _ _ h => h) (by rfl) ?_ hHeld ?_
    rotate_left
    · (intro w hSw; have S0 := hSw; have z0 := S0.cell 0; have z1 := S0.cell 1; have z2 := S0.cell 2; have z3 := S0.lt; simp at z0 z1 z2; go_simp; (try with_reducible rfl))
    (try simp only [Act.put, List.setIfInBounds_toArray, List.set_cons_zero, List.set_cons_succ])
    have f0 := hr1.frozen 0
    have f1 := hr1.frozen 1
    have q0 := hr1.cell 0
    have q1 := hr1.cell 1
    simp at q0 q1
    have ql := hr1.lt
    have hq := (hr1.set_ 0 (.slice A' xs.length c')).set_ 1 .nilIface
    have hkq : Kept (fun b => b ≠ w.heap.size) w1 ((w1.setCell ⟨w.heap.size, 0, none⟩ (.slice A' xs.length c')).setCell ⟨w.heap.size, 1, none⟩ .nilIface) := ((Kept.refl _ _).setCell (by simp) _).setCell (by simp) _
    refine take_step (i := 8) rfl (by kernel_rfl) (fun K hK => ?_)
    go_simp
    refine hK.out _ _ (hx1.kept hkq (by omega)) (fun hHeld => ?_)
    clear hK K
    (try simp only [Act.put, List.setIfInBounds_toArray, List.set_cons_zero, List.set_cons_succ])
    refine wpAnyH_done (by kernel_rfl) ?_ _
    have p0 := hq.cell 0
    have p1 := hq.cell 1
    simp at p0 p1
    have sk := hkq.size
    have s0 : (w.alloc (.cells #[.slice none 0 0, .nilIface] 79)).drew.heap.size = w.heap.size + 1 := by simp [World.drew]
    go_wp2
    refine bodyPost_ret (v := .agg #[.slice A' xs.length c', .nilIface]) (by simp [results, Tryz.results48, go_sem, p0, p1]) rfl ?_
    exact ⟨A', c', rfl, hrow.kept hkq (fun b hb => by omega) (fun b hb => by omega), hl1.trans (hkq.below fun b hb => by omega)⟩
  · skip
    go_enter Tryz.func48, Tryz.ntmps48
    go_wp2_with fail
    refine wp_region_held_drew (S := (fun W => Blk W g 137 #[.slice A xs.length c, r, (.iface T v)])) (by kernel_rfl) (hx0) (fun hHeld => ?_)
    refine take_yes (i := 0) (v := ?_) rfl (by kernel_rfl) (by kernel_rfl) (by kernel_rfl) (fun _ _ _ h => h) (by rfl) ?_ hHeld ?_
    rotate_left
    · (intro w hSw; have S0 := hSw; have z0 := S0.cell 0; have z1 := S0.cell 1; have z2 := S0.cell 2; have z3 := S0.lt; simp at z0 z1 z2; go_simp; (try with_reducible rfl))
    (try simp only [Act.put, List.setIfInBounds_toArray, List.set_cons_zero, List.set_cons_succ])
    refine take_yes (i := 2) (v := ?_) rfl (by kernel_rfl) (by kernel_rfl) (by kernel_rfl) (fun _ _ _ h => h) (by rfl) ?_ hHeld ?_
    rotate_left
    · (intro w hSw; have S0 := hSw; have z0 := S0.cell 0; have z1 := S0.cell 1; have z2 := S0.cell 2; have z3 := S0.lt; simp at z0 z1 z2; go_simp; (try with_reducible rfl))
    (try simp only [Act.put, List.setIfInBounds_toArray, List.set_cons_zero, List.set_cons_succ])
    refine take_yes (i := 3) (v := ?_) rfl (by kernel_rfl) (by kernel_rfl) (by kernel_rfl) (fun _ _ _ h => h) (by rfl) ?_ hHeld ?_
    rotate_left
    · (intro w hSw; have S0 := hSw; have z0 := S0.cell 0; have z1 := S0.cell 1; have z2 := S0.cell 2; have z3 := S0.lt; simp at z0 z1 z2; go_simp; (try with_reducible rfl))
    (try simp only [Act.put, List.setIfInBounds_toArray, List.set_cons_zero, List.set_cons_succ])
    refine take_yes (i := 4) (v := ?_) rfl (by kernel_rfl) (by kernel_rfl) (by kernel_rfl) (fun _ _ _ h => h) (by rfl) ?_ hHeld ?_
    rotate_left
    · (intro w hSw; have S0 := hSw; have z0 := S0.cell 0; have z1 := S0.cell 1; have z2 := S0.cell 2; have z3 := S0.lt; simp at z0 z1 z2; go_simp; (try with_reducible rfl))
    (try simp only [Act.put, List.setIfInBounds_toArray, List.set_cons_zero, List.set_cons_succ])
    refine take_yes (i := 5) (v := ?_) rfl (by kernel_rfl) (by kernel_rfl) (by kernel_rfl) (fun _ _ _ h => h) (by rfl) ?_ hHeld ?_
    rotate_left
    · (intro w hSw; have S0 := hSw; have z0 := S0.cell 0; have z1 := S0.cell 1; have z2 := S0.cell 2; have z3 := S0.lt; simp at z0 z1 z2; go_simp; (try with_reducible rfl))
    (try simp only [Act.put, List.setIfInBounds_toArray, List.set_cons_zero, List.set_cons_succ])
    refine take_step (i := 1) rfl (by kernel_rfl) (fun K hK => ?_)
    go_simp
    (go_at_call 89; refine (ha _ hl0).mono ?_; rintro e w1 ⟨A', c', rfl, hrow, h1⟩; have hl1 := hl0.trans (h1.mono hl0.size); have hx1 := hx0.below h1 hx0.lt; have hr1 := hr0.below h1 hr0.lt)
    (try go_wp2_with fail)
    refine hK.out _ _ (hx1) (fun hHeld => ?_)
    clear hK K
    (try simp only [Act.put, List.setIfInBounds_toArray, List.set_cons_zero, List.set_cons_succ])
    refine take_step (i := 6) rfl (by kernel_rfl) (fun K hK => ?_)
    go_simp
    (go_at_call 60; refine (hu _).mono ?_; rintro e w2 ⟨rfl, rfl⟩)
    (try go_wp2_with fail)
    refine hK.out _ _ (hx1) (fun hHeld => ?_)
    clear hK K
    (try simp only [Act.put, List.setIfInBounds_toArray, List.set_cons_zero, List.set_cons_succ])
    refine take_yes (i := 7) (v := ?_) rfl (by kernel_rfl) (by kernel_rfl) (by kernel_rfl) (fun _ _ _ h => h) (by rfl) ?_ hHeld ?_
    rotate_left
    · (intro w hSw; have S0 := hSw; have z0 := S0.cell 0; have z1 := S0.cell 1; have z2 := S0.cell 2; have z3 := S0.lt; simp at z0 z1 z2; go_simp; (try with_reducible rfl))
    (try simp only [Act.put, List.setIfInBounds_toArray, List.set_cons_zero, List.set_cons_succ])
    have f0 := hr1.frozen 0
    have f1 := hr1.frozen 1
    have q0 := hr1.cell 0
    have q1 := hr1.cell 1
    simp at q0 q1
    have ql := hr1.lt
    have hq := (hr1.set_ 0 (.slice A' xs.length c')).set_ 1 (.iface T v)
    have hkq : Kept (fun b => b ≠ w.heap.size) w1 ((w1.setCell ⟨w.heap.size, 0, none⟩ (.slice A' xs.length c')).setCell ⟨w.heap.size, 1, none⟩ (.iface T v)) := ((Kept.refl _ _).setCell (by simp) _).setCell (by simp) _
    refine take_step (i := 8) rfl (by kernel_rfl) (fun K hK => ?_)
    go_simp
    refine hK.out _ _ (hx1.kept hkq (by omega)) (fun hHeld => ?_)
    clear hK K
    (try simp only [Act.put, List.setIfInBounds_toArray, List.set_cons_zero, List.set_cons_succ])
    refine wpAnyH_done (by kernel_rfl) ?_ _
    have p0 := hq.cell 0
    have p1 := hq.cell 1
    simp at p0 p1
    have sk := hkq.size
    have s0 : (w.alloc (.cells #[.slice none 0 0, .nilIface] 79)).drew.heap.size = w.heap.size + 1 := by simp [World.drew]
    go_wp2
    refine bodyPost_ret (v := .agg #[.slice A' xs.length c', (.iface T v)]) (by simp [results, Tryz.results48, go_sem, p0, p1]) rfl ?_
    exact ⟨A', c', rfl, hrow.kept hkq (fun b hb => by omega) (fun b hb => by omega), hl1.trans (hkq.below fun b hb => by omega)⟩
end Go.Proofs.YtpmfjbmfjfhghaaGreat
