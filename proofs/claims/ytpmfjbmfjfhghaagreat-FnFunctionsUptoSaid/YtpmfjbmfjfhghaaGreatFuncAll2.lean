/-
  Function types: what 'built', 'Arg', 'Argument', 'Arity', 'Void' answer (the parts Func0 to Func4, joined).
-/
import Derived.Test.YtpmfjbmfjfhghaaGreatNewAny
import Derived.Lib.SliceRun
import Derived.Test.YtpmfjbmfjfhghaaGreatReg
import Derived.Test.YtpmfjbmfjfhghaaGreatLaw
import Derived.Test.YtpmfjbmfjfhghaaGreatReg2
import Derived.Test.YtpmfjbmfjfhghaaGreatPl
namespace Go.Proofs.YtpmfjbmfjfhghaaGreat
open Go.RowKit

theorem slice_nil (W : World) (a : Option Addr) (n c : Nat) : (binOp .eql 77 (.slice a n c) (.slice none 0 0)).run Tryz.prog W = .ok (.bool a.isNone) W := by
  have h := Lib.run_eql_slice_nil (P := Tryz.prog) W 77 68 a n c 0 0 Tryz.underlying77
  exact h

/-- Values that are types. -/
def TyVal (x : Value) : Prop := ∃ T n y, x = .iface T y ∧ Dyn T n

theorem repPs.tys {w : World} {F : Nat → Prop} {l : List Tr} {xs : List Value} (h : repPs w F l xs) : ∀ x ∈ xs, TyVal x := fun x hx => by
  obtain ⟨j, hj, rfl⟩ := List.getElem_of_mem hx
  obtain ⟨x, hx, hh⟩ := h.get j (by rw [← h.length]; exact hj)
  obtain ⟨T, y, rfl, hd⟩ := hh.dyn
  rw [List.getElem?_eq_getElem hj] at hx
  exact ⟨T, _, y, Option.some.inj hx, hd⟩

set_option maxRecDepth 100000 in
theorem zzMap_none (w : World) : Calls Tryz.prog 107 #[.slice none 0 0, .func (.func 60) #[] #[]] w (Same (.slice none 0 0) w) := by
  have hsn := slice_nil
  go_enter Tryz.func107, Tryz.ntmps107
  go_wp2
  go_ret
  exact ⟨rfl, rfl⟩

theorem fill_next {α : Type} (xs Z : List α) (j : Nat) (hj : j < xs.length) (hz : Z.length = xs.length) : (xs.take j ++ Z.drop j).set j xs[j] = xs.take (j + 1) ++ Z.drop (j + 1) := by
  have hl : (xs.take j).length = j := by rw [List.length_take]; omega
  rw [List.set_append_right _ _ (by omega), hl, Nat.sub_self, List.drop_eq_getElem_cons (show j < Z.length by omega), List.set_cons_zero, List.take_succ_eq_append_getElem hj, List.append_assoc]
  rfl

set_option maxHeartbeats 1000000 in
set_option maxRecDepth 100000 in
theorem zzMap_some (xs : List Value) (b off c : Nat) (F : Nat → Prop) (w : World) (hx : rowAt w F (some ⟨b, off, none⟩) xs) (hF : ∀ b, F b → b < w.heap.size) (ht : ∀ x ∈ xs, TyVal x) (hlen : xs.length ≤ 1048576) :
    Calls Tryz.prog 107 #[.slice (some ⟨b, off, none⟩) xs.length c, .func (.func 60) #[] #[]] w fun e w' =>
      e = .returned (.slice (some ⟨w.heap.size, 0, none⟩) xs.length xs.length) ∧ Blk w' w.heap.size 68 xs.toArray ∧ Below w.heap.size w w' := by
  obtain ⟨i, hi, hi3, hi1, hi2⟩ := info_parts infoT
  have hmk := run_makeSlice (P := Tryz.prog) (w := w) 77 68 i .nilIface Tryz.underlying77 hi hi3 .i64 .i64 xs.length xs.length (by omega) (by omega) (by rw [hi1, Int.toNat_natCast]; omega) (by rw [hi2]; omega) (by omega)
  rw [hi1, Int.toNat_natCast, Nat.mul_one] at hmk
  obtain ⟨Z, hZ⟩ : ∃ Z : List Value, Z = (madeCells Value.nilIface.cells xs.length).toList := ⟨_, rfl⟩
  have hZl : Z.length = xs.length := by rw [hZ]; simp [size_madeCells]
  have e0 : madeCells Value.nilIface.cells xs.length = Z.toArray := by rw [hZ]
  rw [e0] at hmk
  have hb0 : Blk (w.alloc (.cells Z.toArray 68)) w.heap.size 68 (xs.take 0 ++ Z.drop 0).toArray := Blk.new _ _ _
  have hk0 : Kept (fun b => b < w.heap.size) w (w.alloc (.cells Z.toArray 68)) := (Kept.refl _ _).alloc (fun _ h => h) _
  clear e0 hZ hi hi1 hi2 hi3
  have hsn := slice_nil
  go_enter Tryz.func107, Tryz.ntmps107
  go_wp2
  clear hmk
  go_loopw [15] (fun i wr => ∃ j : Nat, j ≤ xs.length ∧ i = .int .i64 j ∧ Below w.heap.size w wr ∧ Blk wr w.heap.size 68 (xs.take j ++ Z.drop j).toArray) (fun i _ => xs.length - (intOf i).toNat)
  case atStart => exact ⟨0, Nat.zero_le _, rfl, hk0.below fun _ h => h, hb0⟩
  case round =>
    obtain ⟨j, hj, rfl, hbel, hblk⟩ := hrel
    clear hb0 hk0
    by_cases hlt : j < xs.length
    · obtain ⟨b', off', e, hFb, q0⟩ := hx j xs[j] (List.getElem?_eq_getElem hlt)
      obtain ⟨rfl, rfl⟩ : b = b' ∧ off = off' := by
        injection e with e
        injection e with e1 e2
        exact ⟨e1, e2⟩
      have hbb := hF b hFb
      rw [← hbel.cell (by exact hbb)] at q0
      obtain ⟨T, n, y, ex, hd⟩ := ht xs[j] (List.getElem_mem hlt)
      have hu := fun W => unwrap_any T n y W hd
      have hn := fill_next xs Z j hlt hZl
      rw [ex] at q0 hn
      have hll : (xs.take j ++ Z.drop j).length = xs.length := by rw [List.length_append, List.length_take, List.length_drop]; omega
      obtain ⟨u, c0⟩ : ∃ u, wr.cell? ⟨w.heap.size, j, none⟩ = some u := by
        rw [hblk.cell]
        exact ⟨(xs.take j ++ Z.drop j)[j]'(by omega), by rw [List.getElem?_toArray, List.getElem?_eq_getElem]⟩
      have f0 := hblk.frozen j
      have l0 := hblk.lt
      have hb2 := hblk.set_ j (.iface T y)
      rw [List.setIfInBounds_toArray, hn] at hb2
      have hl2 := (((Kept.refl (fun b => b < w.heap.size) wr).setCell (p := ⟨w.heap.size, j, none⟩) (by simp) (.iface T y)).below fun _ h => h)
      clear hblk hx hn ht hd ex
      go_wp2_with fail
      refine (hu _).mono ?_
      rintro e w' ⟨rfl, rfl⟩
      clear hu
      go_wp2
      go_roundw
      case rel => exact ⟨j + 1, by omega, by go_num, hbel.trans hl2, hb2⟩
      case measure => simp [intOf]; omega
    · obtain rfl : j = xs.length := by omega
      rw [List.take_length, ← hZl, List.drop_length, List.append_nil] at hblk
      clear hx ht
      go_wp2
      go_ret
      exact ⟨rfl, hblk, hbel⟩

set_option maxRecDepth 100000 in
theorem arg_in (b off n c i : Nat) (v x : Value) (w : World) (hi : i < n) (hlb : b < w.heap.size) (hx : w.cell? ⟨b, off + i, none⟩ = some x) (hx' : Ifc x) (hv : Ifc v) :
    Calls Tryz.prog 49 #[.agg #[.slice (some ⟨b, off, none⟩) n c, v], .int .i64 i] w fun e w' => e = .returned x ∧ Below w.heap.size w w' := by
  rcases hx' with rfl | ⟨T, x, rfl⟩ <;> rcases hv with rfl | ⟨T', v, rfl⟩
  all_goals
    go_enter Tryz.func49, Tryz.ntmps49
    go_wp2
    go_ret
    exact ⟨rfl, (Below.refl _ _).alloc (Nat.le_refl _) _⟩

set_option maxRecDepth 100000 in
theorem arg_behind (A : Option Addr) (n c i : Nat) (v : Value) (w : World) (hi : n ≤ i) (hv : Ifc v) :
    Calls Tryz.prog 49 #[.agg #[.slice A n c, v], .int .i64 i] w fun e w' => e = .returned v ∧ Below w.heap.size w w' := by
  have hl : ¬ ((i : Int) < (n : Int)) := by omega
  rcases hv with rfl | ⟨T', v, rfl⟩
  all_goals
    go_enter Tryz.func49, Tryz.ntmps49
    go_wp2
    go_ret
    exact ⟨rfl, (Below.refl _ _).alloc (Nat.le_refl _) _⟩

/-- A value that is a type, or none. -/
def TyOrNil (v : Value) : Prop := v = .nilIface ∨ TyVal v

theorem TyOrNil.ifc {v : Value} (h : TyOrNil v) : Ifc v := by
  rcases h with h | ⟨T, _, y, h, _⟩
  · exact .inl h
  · exact .inr ⟨T, y, h⟩

theorem TyOrNil.unwrap {v : Value} (h : TyOrNil v) (W : World) : Calls Tryz.prog 60 #[v] W (Same v W) := by
  rcases h with rfl | ⟨T, n, y, rfl, hd⟩
  · exact unwrap_nil W
  · exact unwrap_any T n y W hd

/-- 'Args': the same values in a row of its own. -/
def ArgsPost (xs : List Value) (w : World) (e : Ending) (w' : World) : Prop :=
  ∃ A c, e = .returned (.slice A xs.length c) ∧ rowAt w' (fun b => w.heap.size ≤ b ∧ b < w'.heap.size) A xs ∧ Below w.heap.size w w'

set_option maxRecDepth 100000 in
theorem args_any (g : Nat) (A : Option Addr) (c : Nat) (r v : Value) (xs : List Value) (F : Nat → Prop) (w : World) (hA : xs = [] ∧ A = none ∧ c = 0 ∨ ∃ b off, A = some ⟨b, off, none⟩) (hb : Blk w g 137 #[.slice A xs.length c, r, v]) (hx : rowAt w F A xs) (hF : ∀ b, F b → b < w.heap.size) (ht : ∀ x ∈ xs, TyVal x) (hlen : xs.length ≤ 1048576) :
    Calls Tryz.prog 89 #[ptr g] w (ArgsPost xs w) := by
  have q0 := hb.cell 0
  have hg := hb.lt
  simp at q0
  rcases hA with ⟨rfl, rfl, rfl⟩ | ⟨b, off, rfl⟩
  · have hz := zzMap_none w
    go_enter Tryz.func89, Tryz.ntmps89
    go_wp2_with fail
    refine hz.mono ?_
    rintro e w' ⟨rfl, rfl⟩
    clear hz
    go_wp2
    go_ret
    exact ⟨none, 0, rfl, rowAt.nil, Below.refl _ _⟩
  · have hz := zzMap_some xs b off c F w hx hF ht hlen
    clear hx ht
    go_enter Tryz.func89, Tryz.ntmps89
    go_wp2_with fail
    refine hz.mono ?_
    rintro e w' ⟨rfl, h1, h2⟩
    clear hz
    go_wp2
    go_ret
    exact ⟨some ⟨w.heap.size, 0, none⟩, xs.length, rfl, fun j u hu => ⟨w.heap.size, 0, rfl, ⟨Nat.le_refl _, h1.lt⟩, by rw [h1.cell]; simpa using hu⟩, h2⟩

set_option maxHeartbeats 1000000 in
set_option maxHeartbeats 1000000 in
set_option maxRecDepth 100000 in
theorem funcArgs_any (g : Nat) (A : Option Addr) (c : Nat) (r v : Value) (xs : List Value) (F : Nat → Prop) (w : World) (hA : xs = [] ∧ A = none ∧ c = 0 ∨ ∃ b off, A = some ⟨b, off, none⟩) (hb : Blk w g 137 #[.slice A xs.length c, r, v]) (hx : rowAt w F A xs) (hF : ∀ b, F b → b < w.heap.size) (ht : ∀ x ∈ xs, TyVal x) (hlen : xs.length ≤ 1048576) (hv : TyOrNil v) :
    Calls Tryz.prog 48 #[ptr g] w fun e w' => ∃ A' c', e = .returned (.agg #[.slice A' xs.length c', v]) ∧ rowAt w' (fun b => w.heap.size ≤ b ∧ b < w'.heap.size) A' xs ∧ Below w.heap.size w w' := by
  have hg := hb.lt
  have ha : ∀ W, Below w.heap.size w W → Calls Tryz.prog 89 #[ptr g] W (ArgsPost xs W) := fun W hW =>
    args_any g A c r v xs F W hA (hb.below hW hg) (hx.kept (Kept.of_below (X := fun b => b < w.heap.size) hW fun _ h => h) hF fun _ h => h) (fun b hb => Nat.lt_of_lt_of_le (hF b hb) hW.size) ht hlen
  have hu := hv.unwrap
  have hi := hv.ifc
  have hl0 : Below w.heap.size w ((w.alloc (.cells #[.slice none 0 0, .nilIface] 79)).drew) := ((Below.refl _ _).alloc (Nat.le_refl _) _).drew
  have hr0 : Blk ((w.alloc (.cells #[.slice none 0 0, .nilIface] 79)).drew) w.heap.size 79 #[.slice none 0 0, .nilIface] := (Blk.new w _ _).drew
  have hx0 : Blk ((w.alloc (.cells #[.slice none 0 0, .nilIface] 79)).drew) g 137 #[.slice A xs.length c, r, v] := hb.below hl0 hg
  clear hA hx ht hv hb
  rcases hi with rfl | ⟨T, v, rfl⟩
  · skip
    go_enter Tryz.func48, Tryz.ntmps48
    go_wp2_with fail
    refine wp_region_held_drew (S := (fun W => Blk W g 137 #[.slice A xs.length c, r, .nilIface])) (by kernel_rfl) (hx0) (fun hHeld => ?_)
    refine take_yes (i := 0) (v := ?_) rfl (by kernel_rfl) (by kernel_rfl) (by kernel_rfl) (fun _ _ _ h => h) (by rfl) ?_ hHeld ?_
    rotate_left
    · (intro w hSw; have S0 := hSw; have z0 := S0.cell 0; have z1 := S0.cell 1; have z2 := S0.cell 2; have z3 := S0.lt; simp at z0 z1 z2; go_simp; (try with_reducible rfl))
    (try simp only [Act.put, List.setIfInBounds_toArray, List.set_cons_zero, List.set_cons_succ])
    refine take_yes (i := 2) (v := ?_) rfl (by kernel_rfl) (by kernel_rfl) (by kernel_rfl) (fun _ _ _ h => h) (by rfl) ?_ hHeld ?_
    rotate_left
    · (intro w hSw; have S0 := hSw; have z0 := S0.cell 0; have z1 := S0.cell 1; have z2 := S0.cell 2; have z3 := S0.lt; simp at z0 z1 z2; go_simp; (try with_reducible rfl))
    (try simp only [Act.put, List.setIfInBounds_toArray, List.set_cons_zero, List.set_cons_succ])
    refine take_yes (i := 3) (v := ?_) rfl (by kernel_rfl) (by kernel_rfl) (by kernel_rfl) (fun _ _ _ h => h) (by rfl) ?_ hHeld ?_
    rotate_left
    · (intro w hSw; have S0 := hSw; have z0 := S0.cell 0; have z1 := S0.cell 1; have z2 := S0.cell 2; have z3 := S0.lt; simp at z0 z1 z2; go_simp; (try with_reducible rfl))
    (try simp only [Act.put, List.setIfInBounds_toArray, List.set_cons_zero, List.set_cons_succ])
    refine take_yes (i := 4) (v := ?_) rfl (by kernel_rfl) (by kernel_rfl) (by kernel_rfl) (fun _ _ _ h => h) (by rfl) ?_ hHeld ?_
    rotate_left
    · (intro w hSw; have S0 := hSw; have z0 := S0.cell 0; have z1 := S0.cell 1; have z2 := S0.cell 2; have z3 := S0.lt; simp at z0 z1 z2; go_simp; (try with_reducible rfl))
    (try simp only [Act.put, List.setIfInBounds_toArray, List.set_cons_zero, List.set_cons_succ])
    refine take_yes (i := 5) (v := ?_) rfl (by kernel_rfl) (by kernel_rfl) (by kernel_rfl) (fun _ _ _ h => h) (by rfl) ?_ hHeld ?_
    rotate_left
    · (intro w hSw; have S0 := hSw; have z0 := S0.cell 0; have z1 := S0.cell 1; have z2 := S0.cell 2; have z3 := S0.lt; simp at z0 z1 z2; go_simp; (try with_reducible rfl))
    (try simp only [Act.put, List.setIfInBounds_toArray, List.set_cons_zero, List.set_cons_succ])
    refine take_step (i := 1) rfl (by kernel_rfl) (fun K hK => ?_)
    go_simp
    (go_at_call 89; refine (ha _ hl0).mono ?_; rintro e w1 ⟨A', c', rfl, hrow, h1⟩; have hl1 := hl0.trans (h1.mono hl0.size); have hx1 := hx0.below h1 hx0.lt; have hr1 := hr0.below h1 hr0.lt)
    (try go_wp2_with fail)
    refine hK.out _ _ (hx1) (fun hHeld => ?_)
    clear hK K
    (try simp only [Act.put, List.setIfInBounds_toArray, List.set_cons_zero, List.set_cons_succ])
    refine take_step (i := 6) rfl (by kernel_rfl) (fun K hK => ?_)
    go_simp
    (go_at_call 60; refine (hu _).mono ?_; rintro e w2 ⟨rfl, rfl⟩)
    (try go_wp2_with fail)
    refine hK.out _ _ (hx1) (fun hHeld => ?_)
    clear hK K
    (try simp only [Act.put, List.setIfInBounds_toArray, List.set_cons_zero, List.set_cons_succ])
    refine take_yes (i := 7) (v := ?_) rfl (by kernel_rfl) (by kernel_rfl) (by kernel_rfl) (fun _ _ _ h => h) (by rfl) ?_ hHeld ?_
    rotate_left
    · (intro w hSw; have S0 := hSw; have z0 := S0.cell 0; have z1 := S0.cell 1; have z2 := S0.cell 2; have z3 := S0.lt; simp at z0 z1 z2; go_simp; (try with_reducible rfl))
    (try simp only [Act.put, List.setIfInBounds_toArray, List.set_cons_zero, List.set_cons_succ])
    have f0 := hr1.frozen 0
    have f1 := hr1.frozen 1
    have q0 := hr1.cell 0
    have q1 := hr1.cell 1
    simp at q0 q1
    have ql := hr1.lt
    have hq := (hr1.set_ 0 (.slice A' xs.length c')).set_ 1 .nilIface
    have hkq : Kept (fun b => b ≠ w.heap.size) w1 ((w1.setCell ⟨w.heap.size, 0, none⟩ (.slice A' xs.length c')).setCell ⟨w.heap.size, 1, none⟩ .nilIface) := ((Kept.refl _ _).setCell (by simp) _).setCell (by simp) _
    refine take_step (i := 8) rfl (by kernel_rfl) (fun K hK => ?_)
    go_simp
    refine hK.out _ _ (hx1.kept hkq (by omega)) (fun hHeld => ?_)
    clear hK K
    (try simp only [Act.put, List.setIfInBounds_toArray, List.set_cons_zero, List.set_cons_succ])
    refine wpAnyH_done (by kernel_rfl) ?_ _
    have p0 := hq.cell 0
    have p1 := hq.cell 1
    simp at p0 p1
    have sk := hkq.size
    have s0 : (w.alloc (.cells #[.slice none 0 0, .nilIface] 79)).drew.heap.size = w.heap.size + 1 := by simp [World.drew]
    go_wp2
    refine bodyPost_ret (v := .agg #[.slice A' xs.length c', .nilIface]) (by simp [results, Tryz.results48, go_sem, p0, p1]) rfl ?_
    exact ⟨A', c', rfl, hrow.kept hkq (fun b hb => by omega) (fun b hb => by omega), hl1.trans (hkq.below fun b hb => by omega)⟩
  · skip
    go_enter Tryz.func48, Tryz.ntmps48
    go_wp2_with fail
    refine wp_region_held_drew (S := (fun W => Blk W g 137 #[.slice A xs.length c, r, (.iface T v)])) (by kernel_rfl) (hx0) (fun hHeld => ?_)
    refine take_yes (i := 0) (v := ?_) rfl (by kernel_rfl) (by kernel_rfl) (by kernel_rfl) (fun _ _ _ h => h) (by rfl) ?_ hHeld ?_
    rotate_left
    · (intro w hSw; have S0 := hSw; have z0 := S0.cell 0; have z1 := S0.cell 1; have z2 := S0.cell 2; have z3 := S0.lt; simp at z0 z1 z2; go_simp; (try with_reducible rfl))
    (try simp only [Act.put, List.setIfInBounds_toArray, List.set_cons_zero, List.set_cons_succ])
    refine take_yes (i := 2) (v := ?_) rfl (by kernel_rfl) (by kernel_rfl) (by kernel_rfl) (fun _ _ _ h => h) (by rfl) ?_ hHeld ?_
    rotate_left
    · (intro w hSw; have S0 := hSw; have z0 := S0.cell 0; have z1 := S0.cell 1; have z2 := S0.cell 2; have z3 := S0.lt; simp at z0 z1 z2; go_simp; (try with_reducible rfl))
    (try simp only [Act.put, List.setIfInBounds_toArray, List.set_cons_zero, List.set_cons_succ])
    refine take_yes (i := 3) (v := ?_) rfl (by kernel_rfl) (by kernel_rfl) (by kernel_rfl) (fun _ _ _ h => h) (by rfl) ?_ hHeld ?_
    rotate_left
    · (intro w hSw; have S0 := hSw; have z0 := S0.cell 0; have z1 := S0.cell 1; have z2 := S0.cell 2; have z3 := S0.lt; simp at z0 z1 z2; go_simp; (try with_reducible rfl))
    (try simp only [Act.put, List.setIfInBounds_toArray, List.set_cons_zero, List.set_cons_succ])
    refine take_yes (i := 4) (v := ?_) rfl (by kernel_rfl) (by kernel_rfl) (by kernel_rfl) (fun _ _ _ h => h) (by rfl) ?_ hHeld ?_
    rotate_left
    · (intro w hSw; have S0 := hSw; have z0 := S0.cell 0; have z1 := S0.cell 1; have z2 := S0.cell 2; have z3 := S0.lt; simp at z0 z1 z2; go_simp; (try with_reducible rfl))
    (try simp only [Act.put, List.setIfInBounds_toArray, List.set_cons_zero, List.set_cons_succ])
    refine take_yes (i := 5) (v := ?_) rfl (by kernel_rfl) (by kernel_rfl) (by kernel_rfl) (fun _ _ _ h => h) (by rfl) ?_ hHeld ?_
    rotate_left
    · (intro w hSw; have S0 := hSw; have z0 := S0.cell 0; have z1 := S0.cell 1; have z2 := S0.cell 2; have z3 := S0.lt; simp at z0 z1 z2; go_simp; (try with_reducible rfl))
    (try simp only [Act.put, List.setIfInBounds_toArray, List.set_cons_zero, List.set_cons_succ])
    refine take_step (i := 1) rfl (by kernel_rfl) (fun K hK => ?_)
    go_simp
    (go_at_call 89; refine (ha _ hl0).mono ?_; rintro e w1 ⟨A', c', rfl, hrow, h1⟩; have hl1 := hl0.trans (h1.mono hl0.size); have hx1 := hx0.below h1 hx0.lt; have hr1 := hr0.below h1 hr0.lt)
    (try go_wp2_with fail)
    refine hK.out _ _ (hx1) (fun hHeld => ?_)
    clear hK K
    (try simp only [Act.put, List.setIfInBounds_toArray, List.set_cons_zero, List.set_cons_succ])
    refine take_step (i := 6) rfl (by kernel_rfl) (fun K hK => ?_)
    go_simp
    (go_at_call 60; refine (hu _).mono ?_; rintro e w2 ⟨rfl, rfl⟩)
    (try go_wp2_with fail)
    refine hK.out _ _ (hx1) (fun hHeld => ?_)
    clear hK K
    (try simp only [Act.put, List.setIfInBounds_toArray, List.set_cons_zero, List.set_cons_succ])
    refine take_yes (i := 7) (v := ?_) rfl (by kernel_rfl) (by kernel_rfl) (by kernel_rfl) (fun _ _ _ h => h) (by rfl) ?_ hHeld ?_
    rotate_left
    · (intro w hSw; have S0 := hSw; have z0 := S0.cell 0; have z1 := S0.cell 1; have z2 := S0.cell 2; have z3 := S0.lt; simp at z0 z1 z2; go_simp; (try with_reducible rfl))
    (try simp only [Act.put, List.setIfInBounds_toArray, List.set_cons_zero, List.set_cons_succ])
    have f0 := hr1.frozen 0
    have f1 := hr1.frozen 1
    have q0 := hr1.cell 0
    have q1 := hr1.cell 1
    simp at q0 q1
    have ql := hr1.lt
    have hq := (hr1.set_ 0 (.slice A' xs.length c')).set_ 1 (.iface T v)
    have hkq : Kept (fun b => b ≠ w.heap.size) w1 ((w1.setCell ⟨w.heap.size, 0, none⟩ (.slice A' xs.length c')).setCell ⟨w.heap.size, 1, none⟩ (.iface T v)) := ((Kept.refl _ _).setCell (by simp) _).setCell (by simp) _
    refine take_step (i := 8) rfl (by kernel_rfl) (fun K hK => ?_)
    go_simp
    refine hK.out _ _ (hx1.kept hkq (by omega)) (fun hHeld => ?_)
    clear hK K
    (try simp only [Act.put, List.setIfInBounds_toArray, List.set_cons_zero, List.set_cons_succ])
    refine wpAnyH_done (by kernel_rfl) ?_ _
    have p0 := hq.cell 0
    have p1 := hq.cell 1
    simp at p0 p1
    have sk := hkq.size
    have s0 : (w.alloc (.cells #[.slice none 0 0, .nilIface] 79)).drew.heap.size = w.heap.size + 1 := by simp [World.drew]
    go_wp2
    refine bodyPost_ret (v := .agg #[.slice A' xs.length c', (.iface T v)]) (by simp [results, Tryz.results48, go_sem, p0, p1]) rfl ?_
    exact ⟨A', c', rfl, hrow.kept hkq (fun b hb => by omega) (fun b hb => by omega), hl1.trans (hkq.below fun b hb => by omega)⟩

set_option maxRecDepth 100000 in
theorem newFunction_any (A : Option Addr) (n c : Nat) (r : Value) (w : World) (hr : Ifc r) : Calls Tryz.prog 75 #[.slice A n c, r] w (NewAt w 137 #[.slice A n c, r, .nilIface]) := by
  rcases hr with rfl | ⟨T, x, rfl⟩
  all_goals
    go_enter Tryz.func75, Tryz.ntmps75
    go_wp2
    go_ret
    exact ⟨rfl, rfl⟩

set_option maxRecDepth 100000 in
theorem newVariadic_any (A : Option Addr) (n c : Nat) (v : Value) (w : World) (hr : Ifc v) : Calls Tryz.prog 74 #[.slice A n c, v, .nilIface] w (NewAt w 137 #[.slice A n c, .nilIface, v]) := by
  rcases hr with rfl | ⟨T, x, rfl⟩
  all_goals
    go_enter Tryz.func74, Tryz.ntmps74
    go_wp2
    go_ret
    exact ⟨rfl, rfl⟩

/-- What 'built' hands over at a function. -/
def FnPost (l : List Tr) (Q : World → Value → Value → Prop) (w : World) (e : Ending) (w' : World) : Prop :=
  ∃ g A c xs r v, e = .returned (.iface 75 (ptr g)) ∧ Blk w' g 137 #[.slice A l.length c, r, v] ∧ (xs = [] ∧ A = none ∧ c = 0 ∨ ∃ b off, A = some ⟨b, off, none⟩) ∧ rowAt w' (fun b => b < w'.heap.size) A xs ∧ repPs w' (fun b => b < w'.heap.size) (norms l) xs ∧ Q w' r v ∧ Below w.heap.size w w'

theorem PL.parts {w0 wr : World} {l : List Tr} {v : Value} {ys : List Value} {j : Nat} (h : PL w0 l v j ys wr) : ∃ A c, v = .slice A j c ∧ (ys = [] ∧ A = none ∧ c = 0 ∨ ∃ b off, A = some ⟨b, off, none⟩) ∧ rowAt wr (fun b => w0.heap.size ≤ b ∧ b < wr.heap.size) A ys := by
  obtain ⟨A, c, rfl, hr, _⟩ := rowAt.of_own' (B := fun b => w0.heap.size ≤ b ∧ b < wr.heap.size) h.own fun g hg hg' _ => ⟨hg, hg'⟩
  refine ⟨A, c, rfl, ?_, hr⟩
  rcases h.own.2 with ⟨h1, h2⟩ | ⟨g, cap, cur, hv, _⟩
  · injection h1 with h3 h4 h5
    have h6 := h.own.1
    refine .inl ⟨List.eq_nil_of_length_eq_zero ?_, h3, h5⟩
    have := h.rep.length
    omega
  · injection hv with h3 _ _
    exact .inr ⟨g, 0, h3⟩

set_option maxHeartbeats 2000000 in
set_option maxRecDepth 100000 in
theorem built_variadic (l : List Tr) (z t : Tr) (hl : l.length ≤ 1048576) (il : ∀ t ∈ l, BuiltOk t ∧ t.kind ≠ 0) (hz : BuiltOk z) (hz0 : z.kind = 0) (ht : BuiltOk t) (ht0 : t.kind ≠ 0) (w : World) (B : Nat → Prop) (cs : List Value) (hr : repI w B (.mk 9 [] l [z, t]) cs) (hB : ∀ b, B b → b < w.heap.size) :
    Calls Tryz.prog 43 #[.agg cs.toArray] w (FnPost l (fun W r v => r = .nilIface ∧ repP W (fun b => b < W.heap.size) (norm t) v) w) := by
  simp only [repI, List.length_nil, List.length_cons] at hr
  obtain ⟨nm, tx, A1, c1, A2, c2, A3, c3, xs, ys, rfl, _, h1, h2, h3, h4, h5⟩ := hr
  have hall : ∀ W, Below w.heap.size w W → Calls Tryz.prog 54 #[.slice A2 l.length c2] W fun e w' => ∃ v ys, e = .returned v ∧ PL W (norms l) v l.length ys w' := fun W hW =>
    all_any l A2 c2 xs W B (h3.kept (Kept.of_below (X := fun b => b < w.heap.size) hW fun _ h => h) hB fun _ h => h) (h2.kept (Kept.of_below (X := fun b => b < w.heap.size) hW fun _ h => h) hB fun _ h => h) (fun b hb => Nat.lt_of_lt_of_le (hB b hb) hW.size) (fun t ht => (il t ht).1) hl
  have hatm : ∀ (i : Nat) (hi : i < ([z, t] : List Tr).length) W, Below w.heap.size w W → Calls Tryz.prog 67 #[.slice A3 2 c3, .int .i64 i] W (BuiltPost ([z, t] : List Tr)[i] W) := fun i hi W hW =>
    at_any [z, t] A3 c3 ys W B i (h5.kept (Kept.of_below (X := fun b => b < w.heap.size) hW fun _ h => h) hB fun _ h => h) (h4.kept (Kept.of_below (X := fun b => b < w.heap.size) hW fun _ h => h) hB fun _ h => h) (fun b hb => Nat.lt_of_lt_of_le (hB b hb) hW.size) (fun u hu => by rcases List.mem_cons.1 hu with rfl | hu; exact hz; obtain rfl := List.mem_singleton.1 hu; exact ht) hi
  have hkl : ∀ t ∈ norms l, t.kind ≠ 0 := fun t ht => by
    rw [norms_map] at ht
    obtain ⟨t', ht', rfl⟩ := List.mem_map.1 ht
    rw [norm_kind]
    exact (il t' ht').2
  have hat0 := fun W hW => hatm 0 (by simp) W hW
  have hat1 := fun W hW => hatm 1 (by simp) W hW
  have hl0 : Below w.heap.size w ((w.alloc (.cells #[.int .i64 9, .string nm, .string tx, .slice A1 0 c1, .slice A2 l.length c2, .slice A3 2 c3] 25)).drew) := ((Below.refl _ _).alloc (Nat.le_refl _) _).drew
  have hx0 : Blk ((w.alloc (.cells #[.int .i64 9, .string nm, .string tx, .slice A1 0 c1, .slice A2 l.length c2, .slice A3 2 c3] 25)).drew) w.heap.size 25 #[.int .i64 9, .string nm, .string tx, .slice A1 0 c1, .slice A2 l.length c2, .slice A3 2 c3] := (Blk.new w _ _).drew
  have hnl := norms_length l
  have HNL := Lib.hid hnl
  clear h1 h2 h3 h4 h5 il hatm hnl
  go_enter Tryz.func43, Tryz.ntmps43
  go_wp2_with fail
  refine wp_region_held_drew (S := (fun W => Blk W w.heap.size 25 #[.int .i64 9, .string nm, .string tx, .slice A1 0 c1, .slice A2 l.length c2, .slice A3 2 c3])) (by kernel_rfl) (hx0) (fun hHeld => ?_)
  refine take_yes (i := 0) (v := ?_) rfl (by kernel_rfl) (by kernel_rfl) (by kernel_rfl) (fun _ _ _ h => h) (by rfl) ?_ hHeld ?_
  rotate_left
  · (intro w hSw; have S0 := hSw; obtain ⟨z0, z1, z2, z3, z4, z5, z6⟩ := Blk.six (by exact S0); go_simp; (try with_reducible rfl))
  (try simp only [Act.put, List.setIfInBounds_toArray, List.set_cons_zero, List.set_cons_succ])
  refine take_yes (i := 1) (v := ?_) rfl (by kernel_rfl) (by kernel_rfl) (by kernel_rfl) (fun _ _ _ h => h) (by rfl) ?_ hHeld ?_
  rotate_left
  · (intro w hSw; have S0 := hSw; obtain ⟨z0, z1, z2, z3, z4, z5, z6⟩ := Blk.six (by exact S0); go_simp; (try with_reducible rfl))
  (try simp only [Act.put, List.setIfInBounds_toArray, List.set_cons_zero, List.set_cons_succ])
  refine take_yes (i := 3) (v := ?_) rfl (by kernel_rfl) (by kernel_rfl) (by kernel_rfl) (fun _ _ _ h => h) (by rfl) ?_ hHeld ?_
  rotate_left
  · (intro w hSw; have S0 := hSw; obtain ⟨z0, z1, z2, z3, z4, z5, z6⟩ := Blk.six (by exact S0); go_simp; (try with_reducible rfl))
  (try simp only [Act.put, List.setIfInBounds_toArray, List.set_cons_zero, List.set_cons_succ])
  refine take_yes (i := 4) (v := ?_) rfl (by kernel_rfl) (by kernel_rfl) (by kernel_rfl) (fun _ _ _ h => h) (by rfl) ?_ hHeld ?_
  rotate_left
  · (intro w hSw; have S0 := hSw; obtain ⟨z0, z1, z2, z3, z4, z5, z6⟩ := Blk.six (by exact S0); go_simp; (try with_reducible rfl))
  (try simp only [Act.put, List.setIfInBounds_toArray, List.set_cons_zero, List.set_cons_succ])
  refine take_yes (i := 6) (v := ?_) rfl (by kernel_rfl) (by kernel_rfl) (by kernel_rfl) (fun _ _ _ h => h) (by rfl) ?_ hHeld ?_
  rotate_left
  · (intro w hSw; have S0 := hSw; obtain ⟨z0, z1, z2, z3, z4, z5, z6⟩ := Blk.six (by exact S0); go_simp; (try with_reducible rfl))
  (try simp only [Act.put, List.setIfInBounds_toArray, List.set_cons_zero, List.set_cons_succ])
  refine take_yes (i := 7) (v := ?_) rfl (by kernel_rfl) (by kernel_rfl) (by kernel_rfl) (fun _ _ _ h => h) (by rfl) ?_ hHeld ?_
  rotate_left
  · (intro w hSw; have S0 := hSw; obtain ⟨z0, z1, z2, z3, z4, z5, z6⟩ := Blk.six (by exact S0); go_simp; (try with_reducible rfl))
  (try simp only [Act.put, List.setIfInBounds_toArray, List.set_cons_zero, List.set_cons_succ])
  refine take_step (i := 2) rfl (by kernel_rfl) (fun K hK => ?_)
  go_simp
  (go_at_call 54; refine (hall _ hl0).mono ?_; rintro e w1 ⟨va, zs, rfl, hpl⟩; obtain ⟨A', c', rfl, hform, hrow⟩ := hpl.parts; have hl1 := hl0.trans (hpl.below.mono hl0.size); have hx1 := hx0.below hpl.below hx0.lt)
  (try go_wp2_with fail)
  refine hK.out _ _ (hx1) (fun hHeld => ?_)
  clear hK K
  (try simp only [Act.put, List.setIfInBounds_toArray, List.set_cons_zero, List.set_cons_succ])
  refine take_step (i := 5) rfl (by kernel_rfl) (fun K hK => ?_)
  go_simp
  (go_at_call 67; refine (hat1 _ hl1).mono ?_; rintro e w2 ⟨v, rfl, hv, h2⟩; have hl2 := hl1.trans (h2.mono hl1.size); have hx2 := hx1.below h2 hx1.lt)
  (try go_wp2_with fail)
  refine hK.out _ _ (hx2) (fun hHeld => ?_)
  clear hK K
  (try simp only [Act.put, List.setIfInBounds_toArray, List.set_cons_zero, List.set_cons_succ])
  refine take_step (i := 8) rfl (by kernel_rfl) (fun K hK => ?_)
  go_simp
  (go_at_call 67; refine (hat0 _ hl2).mono ?_; rintro e w3 ⟨r, rfl, hr, h3⟩; have hl3 := hl2.trans (h3.mono hl2.size); have hx3 := hx2.below h3 hx2.lt; obtain rfl : r = .nilIface := (by rcases hr with ⟨_, h⟩ | h; exact h; have := h.kind_rng.1; rw [norm_kind] at this; simp only [List.getElem_cons_zero] at this; omega))
  (try go_wp2_with fail)
  refine hK.out _ _ (hx3) (fun hHeld => ?_)
  clear hK K
  (try simp only [Act.put, List.setIfInBounds_toArray, List.set_cons_zero, List.set_cons_succ])
  refine take_step (i := 9) rfl (by kernel_rfl) (fun K hK => ?_)
  go_simp
  (go_at_call 74; refine (newVariadic_any A' l.length c' v w3 hv.ifc).mono ?_; rintro e w4 ⟨rfl, rfl⟩; have hx4 := hx3.alloc (.cells #[.slice A' l.length c', .nilIface, v] 137))
  (try go_wp2_with fail)
  refine hK.out _ _ (hx4) (fun hHeld => ?_)
  clear hK K
  (try simp only [Act.put, List.setIfInBounds_toArray, List.set_cons_zero, List.set_cons_succ])
  refine take_yes (i := 10) (v := ?_) rfl (by kernel_rfl) (by kernel_rfl) (by kernel_rfl) (fun _ _ _ h => h) (by rfl) ?_ hHeld ?_
  rotate_left
  · (intro w hSw; have S0 := hSw; obtain ⟨z0, z1, z2, z3, z4, z5, z6⟩ := Blk.six (by exact S0); go_simp; (try with_reducible rfl))
  (try simp only [Act.put, List.setIfInBounds_toArray, List.set_cons_zero, List.set_cons_succ])
  refine take_yes (i := 11) (v := ?_) rfl (by kernel_rfl) (by kernel_rfl) (by kernel_rfl) (fun _ _ _ h => h) (by rfl) ?_ hHeld ?_
  rotate_left
  · (intro w hSw; have S0 := hSw; obtain ⟨z0, z1, z2, z3, z4, z5, z6⟩ := Blk.six (by exact S0); go_simp; (try with_reducible rfl))
  (try simp only [Act.put, List.setIfInBounds_toArray, List.set_cons_zero, List.set_cons_succ])
  refine wpAnyH_done (by kernel_rfl) ?_ _
  go_wp2
  go_ret
  have K1 : Kept (fun b => b < w1.heap.size) w1 (w3.alloc (.cells #[.slice A' l.length c', .nilIface, v] 137)) := (((Kept.of_below (X := fun b => b < w1.heap.size) h2 fun _ h => h).trans (Kept.of_below (X := fun b => b < w1.heap.size) h3 fun b hb => Nat.lt_of_lt_of_le hb h2.size)).alloc (fun b hb => Nat.lt_of_lt_of_le (Nat.lt_of_lt_of_le hb h2.size) h3.size) _)
  have K2 : Kept (fun b => b < w2.heap.size) w2 (w3.alloc (.cells #[.slice A' l.length c', .nilIface, v] 137)) := ((Kept.of_below (X := fun b => b < w2.heap.size) h3 fun _ h => h).alloc (fun b hb => Nat.lt_of_lt_of_le hb h3.size) _)
  have s1 := K1.size
  have s2 := K2.size
  refine ⟨w3.heap.size, A', c', zs, _, _, rfl, Blk.new _ _ _, hform, hrow.kept K1 (fun b hb => hb.2) (fun b hb => Nat.lt_of_lt_of_le hb.2 s1), (hpl.rep.reps hkl).keep (fun b hb => Nat.lt_of_lt_of_le hb.2.1 s1) K1 (fun b hb => hb.2.1), ⟨rfl, ?_⟩, hl3.alloc hl3.size _⟩
  exact (hv.rep (by rw [norm_kind]; exact ht0)).keep (fun b hb => Nat.lt_of_lt_of_le hb.2 s2) K2 (fun b hb => hb.2)

set_option maxHeartbeats 2000000 in
set_option maxRecDepth 100000 in
theorem built_fn (l : List Tr) (t : Tr) (hl : l.length ≤ 1048576) (il : ∀ t ∈ l, BuiltOk t ∧ t.kind ≠ 0) (ht : BuiltOk t) (w : World) (B : Nat → Prop) (cs : List Value) (hr : repI w B (.mk 9 [] l [t]) cs) (hB : ∀ b, B b → b < w.heap.size) :
    Calls Tryz.prog 43 #[.agg cs.toArray] w (FnPost l (fun W r v => v = .nilIface ∧ repO W (fun b => b < W.heap.size) (norm t) r) w) := by
  simp only [repI, List.length_nil, List.length_cons] at hr
  obtain ⟨nm, tx, A1, c1, A2, c2, A3, c3, xs, ys, rfl, _, h1, h2, h3, h4, h5⟩ := hr
  have hall : ∀ W, Below w.heap.size w W → Calls Tryz.prog 54 #[.slice A2 l.length c2] W fun e w' => ∃ v ys, e = .returned v ∧ PL W (norms l) v l.length ys w' := fun W hW =>
    all_any l A2 c2 xs W B (h3.kept (Kept.of_below (X := fun b => b < w.heap.size) hW fun _ h => h) hB fun _ h => h) (h2.kept (Kept.of_below (X := fun b => b < w.heap.size) hW fun _ h => h) hB fun _ h => h) (fun b hb => Nat.lt_of_lt_of_le (hB b hb) hW.size) (fun t ht => (il t ht).1) hl
  have hatm : ∀ (i : Nat) (hi : i < ([t] : List Tr).length) W, Below w.heap.size w W → Calls Tryz.prog 67 #[.slice A3 1 c3, .int .i64 i] W (BuiltPost ([t] : List Tr)[i] W) := fun i hi W hW =>
    at_any [t] A3 c3 ys W B i (h5.kept (Kept.of_below (X := fun b => b < w.heap.size) hW fun _ h => h) hB fun _ h => h) (h4.kept (Kept.of_below (X := fun b => b < w.heap.size) hW fun _ h => h) hB fun _ h => h) (fun b hb => Nat.lt_of_lt_of_le (hB b hb) hW.size) (fun u hu => by obtain rfl := List.mem_singleton.1 hu; exact ht) hi
  have hkl : ∀ t ∈ norms l, t.kind ≠ 0 := fun t ht => by
    rw [norms_map] at ht
    obtain ⟨t', ht', rfl⟩ := List.mem_map.1 ht
    rw [norm_kind]
    exact (il t' ht').2
  have hat0 := fun W hW => hatm 0 (by simp) W hW
  have hl0 : Below w.heap.size w ((w.alloc (.cells #[.int .i64 9, .string nm, .string tx, .slice A1 0 c1, .slice A2 l.length c2, .slice A3 1 c3] 25)).drew) := ((Below.refl _ _).alloc (Nat.le_refl _) _).drew
  have hx0 : Blk ((w.alloc (.cells #[.int .i64 9, .string nm, .string tx, .slice A1 0 c1, .slice A2 l.length c2, .slice A3 1 c3] 25)).drew) w.heap.size 25 #[.int .i64 9, .string nm, .string tx, .slice A1 0 c1, .slice A2 l.length c2, .slice A3 1 c3] := (Blk.new w _ _).drew
  have hnl := norms_length l
  have HNL := Lib.hid hnl
  clear h1 h2 h3 h4 h5 il hatm hnl
  go_enter Tryz.func43, Tryz.ntmps43
  go_wp2_with fail
  refine wp_region_held_drew (S := (fun W => Blk W w.heap.size 25 #[.int .i64 9, .string nm, .string tx, .slice A1 0 c1, .slice A2 l.length c2, .slice A3 1 c3])) (by kernel_rfl) (hx0) (fun hHeld => ?_)
  refine take_yes (i := 0) (v := ?_) rfl (by kernel_rfl) (by kernel_rfl) (by kernel_rfl) (fun _ _ _ h => h) (by rfl) ?_ hHeld ?_
  rotate_left
  · (intro w hSw; have S0 := hSw; obtain ⟨z0, z1, z2, z3, z4, z5, z6⟩ := Blk.six (by exact S0); go_simp; (try with_reducible rfl))
  (try simp only [Act.put, List.setIfInBounds_toArray, List.set_cons_zero, List.set_cons_succ])
  refine take_yes (i := 1) (v := ?_) rfl (by kernel_rfl) (by kernel_rfl) (by kernel_rfl) (fun _ _ _ h => h) (by rfl) ?_ hHeld ?_
  rotate_left
  · (intro w hSw; have S0 := hSw; obtain ⟨z0, z1, z2, z3, z4, z5, z6⟩ := Blk.six (by exact S0); go_simp; (try with_reducible rfl))
  (try simp only [Act.put, List.setIfInBounds_toArray, List.set_cons_zero, List.set_cons_succ])
  refine take_yes (i := 3) (v := ?_) rfl (by kernel_rfl) (by kernel_rfl) (by kernel_rfl) (fun _ _ _ h => h) (by rfl) ?_ hHeld ?_
  rotate_left
  · (intro w hSw; have S0 := hSw; obtain ⟨z0, z1, z2, z3, z4, z5, z6⟩ := Blk.six (by exact S0); go_simp; (try with_reducible rfl))
  (try simp only [Act.put, List.setIfInBounds_toArray, List.set_cons_zero, List.set_cons_succ])
  refine take_yes (i := 4) (v := ?_) rfl (by kernel_rfl) (by kernel_rfl) (by kernel_rfl) (fun _ _ _ h => h) (by rfl) ?_ hHeld ?_
  rotate_left
  · (intro w hSw; have S0 := hSw; obtain ⟨z0, z1, z2, z3, z4, z5, z6⟩ := Blk.six (by exact S0); go_simp; (try with_reducible rfl))
  (try simp only [Act.put, List.setIfInBounds_toArray, List.set_cons_zero, List.set_cons_succ])
  refine take_step (i := 2) rfl (by kernel_rfl) (fun K hK => ?_)
  go_simp
  (go_at_call 54; refine (hall _ hl0).mono ?_; rintro e w1 ⟨va, zs, rfl, hpl⟩; obtain ⟨A', c', rfl, hform, hrow⟩ := hpl.parts; have hl1 := hl0.trans (hpl.below.mono hl0.size); have hx1 := hx0.below hpl.below hx0.lt)
  (try go_wp2_with fail)
  refine hK.out _ _ (hx1) (fun hHeld => ?_)
  clear hK K
  (try simp only [Act.put, List.setIfInBounds_toArray, List.set_cons_zero, List.set_cons_succ])
  refine take_step (i := 5) rfl (by kernel_rfl) (fun K hK => ?_)
  go_simp
  (go_at_call 67; refine (hat0 _ hl1).mono ?_; rintro e w2 ⟨v, rfl, hv, h2⟩; have hl2 := hl1.trans (h2.mono hl1.size); have hx2 := hx1.below h2 hx1.lt)
  (try go_wp2_with fail)
  refine hK.out _ _ (hx2) (fun hHeld => ?_)
  clear hK K
  (try simp only [Act.put, List.setIfInBounds_toArray, List.set_cons_zero, List.set_cons_succ])
  refine take_step (i := 6) rfl (by kernel_rfl) (fun K hK => ?_)
  go_simp
  (go_at_call 75; refine (newFunction_any A' l.length c' v w2 hv.ifc).mono ?_; rintro e w4 ⟨rfl, rfl⟩; have hx4 := hx2.alloc (.cells #[.slice A' l.length c', v, .nilIface] 137))
  (try go_wp2_with fail)
  refine hK.out _ _ (hx4) (fun hHeld => ?_)
  clear hK K
  (try simp only [Act.put, List.setIfInBounds_toArray, List.set_cons_zero, List.set_cons_succ])
  refine take_yes (i := 7) (v := ?_) rfl (by kernel_rfl) (by kernel_rfl) (by kernel_rfl) (fun _ _ _ h => h) (by rfl) ?_ hHeld ?_
  rotate_left
  · (intro w hSw; have S0 := hSw; obtain ⟨z0, z1, z2, z3, z4, z5, z6⟩ := Blk.six (by exact S0); go_simp; (try with_reducible rfl))
  (try simp only [Act.put, List.setIfInBounds_toArray, List.set_cons_zero, List.set_cons_succ])
  refine take_yes (i := 8) (v := ?_) rfl (by kernel_rfl) (by kernel_rfl) (by kernel_rfl) (fun _ _ _ h => h) (by rfl) ?_ hHeld ?_
  rotate_left
  · (intro w hSw; have S0 := hSw; obtain ⟨z0, z1, z2, z3, z4, z5, z6⟩ := Blk.six (by exact S0); go_simp; (try with_reducible rfl))
  (try simp only [Act.put, List.setIfInBounds_toArray, List.set_cons_zero, List.set_cons_succ])
  refine wpAnyH_done (by kernel_rfl) ?_ _
  go_wp2
  go_ret
  have K1 : Kept (fun b => b < w1.heap.size) w1 (w2.alloc (.cells #[.slice A' l.length c', v, .nilIface] 137)) := (((Kept.of_below (X := fun b => b < w1.heap.size) h2 fun _ h => h)).alloc (fun b hb => Nat.lt_of_lt_of_le hb h2.size) _)
  have K2 : Kept (fun b => b < w2.heap.size) w2 (w2.alloc (.cells #[.slice A' l.length c', v, .nilIface] 137)) := ((Kept.refl (fun b => b < w2.heap.size) w2).alloc (fun b hb => hb) _)
  have s1 := K1.size
  have s2 := K2.size
  refine ⟨w2.heap.size, A', c', zs, _, _, rfl, Blk.new _ _ _, hform, hrow.kept K1 (fun b hb => hb.2) (fun b hb => Nat.lt_of_lt_of_le hb.2 s1), (hpl.rep.reps hkl).keep (fun b hb => Nat.lt_of_lt_of_le hb.2.1 s1) K1 (fun b hb => hb.2.1), ⟨rfl, ?_⟩, hl2.alloc hl2.size _⟩
  exact hv.keep (fun b hb => Nat.lt_of_lt_of_le hb.2 s2) K2 (fun b hb => hb.2)

/-- 'Arg' answers a type that is plain data. -/
def ArgOk (X : Tr) (A : Option Addr) (k c : Nat) (v : Value) (n : Int) (w : World) : Prop := ∀ W, Below w.heap.size w W → Calls Tryz.prog 49 #[.agg #[.slice A k c, v], .int .i64 n] W fun e w' => ∃ x, e = .returned x ∧ Ifc x ∧ Below W.heap.size W w' ∧ Calls Tryz.prog 47 #[x] w' (PlainPost X w')
/-- 'FuncArgs' answers what 'Arg' takes. -/
def FaOk (X : Tr) (g : Nat) (n : Int) (w : World) : Prop := ∀ W, Below w.heap.size w W → Calls Tryz.prog 48 #[ptr g] W fun e w' => ∃ A k c v, e = .returned (.agg #[.slice A k c, v]) ∧ Ifc v ∧ Below W.heap.size W w' ∧ ArgOk X A k c v n w'
/-- 'built' answers a function. -/
def FnOk (X : Tr) (cs : List Value) (n : Int) (w : World) : Prop := ∀ W, Below w.heap.size w W → Calls Tryz.prog 43 #[.agg cs.toArray] W fun e w' => ∃ g, e = .returned (.iface 75 (ptr g)) ∧ Below W.heap.size W w' ∧ FaOk X g n w'

/-- What 'Argument' answers. -/
def ArgPost (X : Tr) (w : World) (e : Ending) (w' : World) : Prop := ∃ cs', e = .returned (.tuple #[.agg cs'.toArray, .bool true]) ∧ repI w' (fun b => w.heap.size ≤ b ∧ b < w'.heap.size) X cs' ∧ Below w.heap.size w w'

set_option maxHeartbeats 1000000 in
set_option maxRecDepth 100000 in
theorem argument_any (X : Tr) (k : Int) (nm tx : ByteArray) (A1 A2 A3 : Option Addr) (n1 c1 n2 c2 n3 c3 : Nat) (n : Int) (w : World) (hn : 0 ≤ n) (h : FnOk X [.int .i64 k, .string nm, .string tx, .slice A1 n1 c1, .slice A2 n2 c2, .slice A3 n3 c3] n w) :
    Calls Tryz.prog 29 #[.agg #[.int .i64 k, .string nm, .string tx, .slice A1 n1 c1, .slice A2 n2 c2, .slice A3 n3 c3], .int .i64 n] w (ArgPost X w) := by
  have hn0 : ¬ n < 0 := by omega
  have hlow : Below w.heap.size w ((w.alloc (.cells #[.int .i64 k, .string nm, .string tx, .slice A1 n1 c1, .slice A2 n2 c2, .slice A3 n3 c3] 25)).alloc (.cells zeroT 25)) := ((Below.refl _ _).alloc (Nat.le_refl _) _).alloc (by simp) _
  have hbr : Blk ((w.alloc (.cells #[.int .i64 k, .string nm, .string tx, .slice A1 n1 c1, .slice A2 n2 c2, .slice A3 n3 c3] 25)).alloc (.cells zeroT 25)) (w.heap.size + 1) 25 zeroT := by simpa using Blk.new (w.alloc _) _ _
  go_enter Tryz.func29, Tryz.ntmps29
  go_wp2_with fail
  refine (h _ hlow).mono ?_
  rintro e w1 ⟨g, rfl, h1, hfa⟩
  have hlow1 := hlow.trans (h1.mono hlow.size)
  have hbr1 := hbr.below h1 hbr.lt
  clear h hlow hbr h1
  go_wp2_with fail
  refine (hfa _ (Below.refl _ _)).mono ?_
  rintro e w3 ⟨A, q, c, v, rfl, hvi, h3, harg⟩
  have hlow3 := hlow1.trans (h3.mono hlow1.size)
  have hbr3 := hbr1.below h3 hbr1.lt
  clear hfa hlow1 hbr1 h3
  go_wp2_with fail
  refine (harg _ (Below.refl _ _)).mono ?_
  rintro e w4 ⟨x, rfl, hxi, h4, hp⟩
  have hlow4 := hlow3.trans (h4.mono hlow3.size)
  have hbr4 := hbr3.below h4 hbr3.lt
  clear harg hlow3 hbr3 h4
  have hres : ∀ (e : Ending) (w2 : World), PlainPost X w4 e w2 → ∃ (nm' tx' : ByteArray) (E1 E2 E3 : Option Addr) (e1 e2 e3 : Nat), e = .returned (.agg #[.int .i64 X.kind, .string nm', .string tx', .slice E1 X.keys.length e1, .slice E2 X.kids.length e2, .slice E3 X.more.length e3]) ∧ Blk w2 (w.heap.size + 1) 25 zeroT ∧
      ArgPost X w (.returned (.tuple #[.agg #[.int .i64 X.kind, .string nm', .string tx', .slice E1 X.keys.length e1, .slice E2 X.kids.length e2, .slice E3 X.more.length e3], .bool true])) ((((((w2.setCell ⟨w.heap.size + 1, 0, none⟩ (.int .i64 X.kind)).setCell ⟨w.heap.size + 1, 1, none⟩ (.string nm')).setCell ⟨w.heap.size + 1, 2, none⟩ (.string tx')).setCell ⟨w.heap.size + 1, 3, none⟩ (.slice E1 X.keys.length e1)).setCell ⟨w.heap.size + 1, 4, none⟩ (.slice E2 X.kids.length e2)).setCell ⟨w.heap.size + 1, 5, none⟩ (.slice E3 X.more.length e3)) ∧ Blk ((((((w2.setCell ⟨w.heap.size + 1, 0, none⟩ (.int .i64 X.kind)).setCell ⟨w.heap.size + 1, 1, none⟩ (.string nm')).setCell ⟨w.heap.size + 1, 2, none⟩ (.string tx')).setCell ⟨w.heap.size + 1, 3, none⟩ (.slice E1 X.keys.length e1)).setCell ⟨w.heap.size + 1, 4, none⟩ (.slice E2 X.kids.length e2)).setCell ⟨w.heap.size + 1, 5, none⟩ (.slice E3 X.more.length e3)) (w.heap.size + 1) 25 #[.int .i64 X.kind, .string nm', .string tx', .slice E1 X.keys.length e1, .slice E2 X.kids.length e2, .slice E3 X.more.length e3] := by
    rintro e w2 ⟨cs, rfl, hrep, hb2⟩
    obtain ⟨nm', tx', E1, e1, E2, e2, E3, e3, rfl⟩ := hrep.shape
    have h2 := hbr4.below hb2 hbr4.lt
    obtain ⟨hq, hkq⟩ := place6 h2 (.int .i64 X.kind) (.string nm') (.string tx') (.slice E1 X.keys.length e1) (.slice E2 X.kids.length e2) (.slice E3 X.more.length e3)
    have sk := hkq.size
    have s1 := hbr4.lt
    have s2 := hb2.size
    have hlow2 := hlow4.trans (hb2.mono hlow4.size)
    exact ⟨nm', tx', E1, E2, E3, e1, e2, e3, rfl, h2, ⟨[_, _, _, _, _, _], rfl, hrep.kept hkq (fun b hb => by omega) (fun b hb => by omega), hlow2.trans (hkq.below fun b hb => by omega)⟩, hq⟩
  rcases hxi with rfl | ⟨T, x, rfl⟩
  all_goals
    go_wp2_with fail
    refine hp.mono ?_
    intro e w2 hpost
    obtain ⟨nm', tx', E1, E2, E3, e1, e2, e3, rfl, hz, hfin, hq⟩ := hres e w2 hpost
    clear hres hp hpost hbr4
    have ql := hz.lt
    have f0 := hz.frozen 0
    have f1 := hz.frozen 1
    have f2 := hz.frozen 2
    have f3 := hz.frozen 3
    have f4 := hz.frozen 4
    have f5 := hz.frozen 5
    have q0 := hz.cell 0
    have q1 := hz.cell 1
    have q2 := hz.cell 2
    have q3 := hz.cell 3
    have q4 := hz.cell 4
    have q5 := hz.cell 5
    simp at q0 q1 q2 q3 q4 q5
    clear hz
    go_wp2
    have p0 := hq.cell 0
    have p1 := hq.cell 1
    have p2 := hq.cell 2
    have p3 := hq.cell 3
    have p4 := hq.cell 4
    have p5 := hq.cell 5
    refine bodyPost_ret (v := .tuple #[.agg #[.int .i64 X.kind, .string nm', .string tx', .slice E1 X.keys.length e1, .slice E2 X.kids.length e2, .slice E3 X.more.length e3], .bool true]) (by simp [results, Tryz.results29, go_sem, p0, p1, p2, p3, p4, p5]) rfl ?_
    exact hfin

theorem no_fn (T : TypeId) (n : Int) (x : Value) (hd : Dyn T n) (h : T ≠ 75) (W : World) : (Instr.typeAssert (.iface T x) 68 75 true).run Tryz.prog W = .ok (.tuple #[.pointer none, .bool false]) W := by
  rcases hd with ⟨rfl, _⟩ | ⟨rfl, _⟩ | ⟨rfl, _⟩ | ⟨rfl, _⟩ | ⟨rfl, _⟩ | ⟨rfl, _⟩ | ⟨rfl, _⟩ | ⟨rfl, _⟩ | ⟨rfl, _⟩
  case inr.inr.inr.inr.inr.inr.inr.inr => exact absurd rfl h
  all_goals go_simp

set_option maxHeartbeats 1000000 in
set_option maxRecDepth 100000 in
/-- What is no function has no arguments. -/
theorem argument_no (k : Int) (nm tx : ByteArray) (A1 A2 A3 : Option Addr) (n1 c1 n2 c2 n3 c3 : Nat) (n : Int) (w : World) (h : ∀ W, Below w.heap.size w W → Calls Tryz.prog 43 #[.agg #[.int .i64 k, .string nm, .string tx, .slice A1 n1 c1, .slice A2 n2 c2, .slice A3 n3 c3]] W fun e w' => ∃ T x o, e = .returned (.iface T x) ∧ Dyn T o ∧ T ≠ 75 ∧ Below W.heap.size W w') :
    Calls Tryz.prog 29 #[.agg #[.int .i64 k, .string nm, .string tx, .slice A1 n1 c1, .slice A2 n2 c2, .slice A3 n3 c3], .int .i64 n] w fun e w' => e = .returned (.tuple #[.agg zeroT, .bool false]) ∧ Below w.heap.size w w' := by
  have hlow : Below w.heap.size w ((w.alloc (.cells #[.int .i64 k, .string nm, .string tx, .slice A1 n1 c1, .slice A2 n2 c2, .slice A3 n3 c3] 25)).alloc (.cells zeroT 25)) := ((Below.refl _ _).alloc (Nat.le_refl _) _).alloc (by simp) _
  have hbr : Blk ((w.alloc (.cells #[.int .i64 k, .string nm, .string tx, .slice A1 n1 c1, .slice A2 n2 c2, .slice A3 n3 c3] 25)).alloc (.cells zeroT 25)) (w.heap.size + 1) 25 zeroT := by simpa using Blk.new (w.alloc _) _ _
  go_enter Tryz.func29, Tryz.ntmps29
  go_wp2_with fail
  refine (h _ hlow).mono ?_
  rintro e w1 ⟨T, x, o, rfl, hd, hT, h1⟩
  have hta := no_fn T o x hd hT
  have hlow1 := hlow.trans (h1.mono hlow.size)
  have hz := hbr.below h1 hbr.lt
  clear h hlow hbr h1 hd hT
  have ql := hz.lt
  have f0 := hz.frozen 0
  have f1 := hz.frozen 1
  have f2 := hz.frozen 2
  have f3 := hz.frozen 3
  have f4 := hz.frozen 4
  have f5 := hz.frozen 5
  have q0 := hz.cell 0
  have q1 := hz.cell 1
  have q2 := hz.cell 2
  have q3 := hz.cell 3
  have q4 := hz.cell 4
  have q5 := hz.cell 5
  simp at q0 q1 q2 q3 q4 q5
  have hkq := (place6 hz (.int .i64 0) (.string ⟨#[]⟩) (.string ⟨#[]⟩) (.slice none 0 0) (.slice none 0 0) (.slice none 0 0)).2
  have hq := (place6 hz (.int .i64 0) (.string ⟨#[]⟩) (.string ⟨#[]⟩) (.slice none 0 0) (.slice none 0 0) (.slice none 0 0)).1
  go_wp2
  have p0 := hq.cell 0
  have p1 := hq.cell 1
  have p2 := hq.cell 2
  have p3 := hq.cell 3
  have p4 := hq.cell 4
  have p5 := hq.cell 5
  refine bodyPost_ret (v := .tuple #[.agg zeroT, .bool false]) (by simp [results, Tryz.results29, go_sem, p0, p1, p2, p3, p4, p5]) rfl ?_
  exact ⟨rfl, hlow1.trans (hkq.below fun b hb => by omega)⟩

theorem none_rep0 (w : World) : repI w (fun _ => False) (.mk 0 [] [] []) [.int .i64 0, .string ⟨#[]⟩, .string ⟨#[]⟩, .slice none 0 0, .slice none 0 0, .slice none 0 0] := by
  simp only [repI]
  exact ⟨_, _, none, 0, none, 0, none, 0, [], [], rfl, ⟨by decide, by decide, Nat.le_refl _, Nat.le_refl _, Nat.le_refl _⟩, rowAt.nil, rowAt.nil, by simp only [repIs], rowAt.nil, by simp only [repIs]⟩

theorem int_to {P : Program} {f : FuncId} {args : Array Value} {W : World} {c d : Int} (h : Calls P f args W (IntPost d W)) (e : d = c) : Calls P f args W (IntPost c W) := e ▸ h

theorem up_row {w W : World} {A : Option Addr} {xs : List Value} (h : rowAt w (fun b => b < w.heap.size) A xs) (hW : Below w.heap.size w W) : rowAt W (fun b => b < W.heap.size) A xs :=
  h.kept (Kept.of_below (X := fun b => b < w.heap.size) hW fun _ h => h) (fun _ h => h) (upB hW)
theorem up_reps {w W : World} {l : List Tr} {xs : List Value} (h : repPs w (fun b => b < w.heap.size) l xs) (hW : Below w.heap.size w W) : repPs W (fun b => b < W.heap.size) l xs :=
  h.keep (upB hW) (Kept.of_below (X := fun b => b < w.heap.size) hW fun _ h => h) fun _ h => h
theorem up_rep {w W : World} {t : Tr} {v : Value} (h : repP w (fun b => b < w.heap.size) t v) (hW : Below w.heap.size w W) : repP W (fun b => b < W.heap.size) t v :=
  h.keep (upB hW) (Kept.of_below (X := fun b => b < w.heap.size) hW fun _ h => h) fun _ h => h

theorem repP.ty {w : World} {F : Nat → Prop} {t : Tr} {v : Value} (h : repP w F t v) : TyOrNil v := by
  obtain ⟨T, x, rfl, hd⟩ := h.dyn
  exact .inr ⟨T, _, x, rfl, hd⟩

theorem arg_variadic (l : List Tr) (z t : Tr) (hl : l.length ≤ 1048576) (il : ∀ t ∈ l, Nice t) (hz : z.kind = 0) (ht : Nice t) (n : Nat) (hn : l.length ≤ n) (w : World) (B : Nat → Prop) (cs : List Value) (hr : repI w B (.mk 9 [] l [z, t]) cs) (hB : ∀ b, B b → b < w.heap.size) : FnOk (norm t) cs n w := by
  have hzb : BuiltOk z := by
    cases z with
    | mk k ks l m =>
      simp only [Tr.kind] at hz
      subst hz
      exact built_none ks l m
  intro W hW
  refine (built_variadic l z t hl (fun t ht => ⟨built_any t (il t ht).1 (il t ht).2, (by have := (il t ht).kind; rwa [norm_kind] at this)⟩) hzb hz (built_any t ht.1 ht.2) (by have := ht.kind; rwa [norm_kind] at this) W B cs (hr.kept (Kept.of_below (X := fun b => b < w.heap.size) hW fun _ h => h) hB fun _ h => h) fun b hb => Nat.lt_of_lt_of_le (hB b hb) hW.size).mono ?_
  rintro e w1 ⟨g, A, c, xs, r, v, rfl, hblk, hform, hrow, hrep, ⟨rfl, hv⟩, hb1⟩
  refine ⟨g, rfl, hb1, fun W2 hW2 => ?_⟩
  have hxl := hrep.length
  rw [norms_length] at hxl
  rw [← hxl] at hblk
  refine (funcArgs_any g A c _ v xs (fun b => b < W2.heap.size) W2 hform (hblk.below hW2 hblk.lt) (up_row hrow hW2) (fun _ h => h) hrep.tys (by omega) hv.ty).mono ?_
  rintro e w3 ⟨A', c', rfl, hrow3, hb3⟩
  refine ⟨A', _, c', v, rfl, hv.ifc, hb3, fun W4 hW4 => ?_⟩
  refine (arg_behind A' xs.length c' n v W4 (by omega) hv.ifc).mono ?_
  rintro e w5 ⟨rfl, hb5⟩
  refine ⟨v, rfl, hv.ifc, hb5, ?_⟩
  have h25 := up_rep (up_rep (up_rep (up_rep hv hW2) hb3) hW4) hb5
  exact plain_any (norm t) w5 _ v (norm_good t ht.1.good).1 ht.norm_size' h25 fun _ h => h

theorem arg_fn (l : List Tr) (t : Tr) (hl : l.length ≤ 1048576) (il : ∀ t ∈ l, Nice t) (ht : BuiltOk t) (n : Nat) (hn : n < l.length) (w : World) (B : Nat → Prop) (cs : List Value) (hr : repI w B (.mk 9 [] l [t]) cs) (hB : ∀ b, B b → b < w.heap.size) : FnOk (norm l[n]) cs n w := by
  intro W hW
  refine (built_fn l t hl (fun t ht => ⟨built_any t (il t ht).1 (il t ht).2, (by have := (il t ht).kind; rwa [norm_kind] at this)⟩) ht W B cs (hr.kept (Kept.of_below (X := fun b => b < w.heap.size) hW fun _ h => h) hB fun _ h => h) fun b hb => Nat.lt_of_lt_of_le (hB b hb) hW.size).mono ?_
  rintro e w1 ⟨g, A, c, xs, r, v, rfl, hblk, hform, hrow, hrep, ⟨rfl, _⟩, hb1⟩
  refine ⟨g, rfl, hb1, fun W2 hW2 => ?_⟩
  have hxl := hrep.length
  rw [norms_length] at hxl
  rw [← hxl] at hblk
  refine (funcArgs_any g A c r _ xs (fun b => b < W2.heap.size) W2 hform (hblk.below hW2 hblk.lt) (up_row hrow hW2) (fun _ h => h) hrep.tys (by omega) (.inl rfl)).mono ?_
  rintro e w3 ⟨A', c', rfl, hrow3, hb3⟩
  refine ⟨A', _, c', _, rfl, .inl rfl, hb3, fun W4 hW4 => ?_⟩
  have hrep4 := up_reps (up_reps (up_reps hrep hW2) hb3) hW4
  have hrow4 : rowAt W4 (fun b => b < W4.heap.size) A' xs := up_row (hrow3.kept (Kept.refl (fun _ => True) _) (fun _ _ => trivial) fun _ hb => hb.2) hW4
  obtain ⟨b, off, x, rfl, hbb, hrx, q0, _⟩ := hrep4.at_ hrow4 n (by rw [norms_length]; exact hn)
  refine (arg_in b off xs.length c' n .nilIface x W4 (by omega) hbb q0 hrx.ifc (.inl rfl)).mono ?_
  rintro e w5 ⟨rfl, hb5⟩
  refine ⟨x, rfl, hrx.ifc, hb5, ?_⟩
  have e1 : (norms l)[n]'(by rw [norms_length]; exact hn) = norm l[n] := by simp only [norms_map, List.getElem_map]
  rw [e1] at hrx
  have hni := il _ (List.getElem_mem hn)
  exact plain_any (norm l[n]) w5 _ x (norm_good _ hni.1.good).1 hni.norm_size' (up_rep hrx hb5) fun _ h => h

set_option maxRecDepth 100000 in
theorem arity_fn (g : Nat) (A : Option Addr) (n c : Nat) (r v : Value) (w : World) (hb : Blk w g 137 #[.slice A n c, r, v]) : Calls Tryz.prog 51 #[.iface 75 (ptr g)] w (IntPost n w) := by
  have q0 := hb.cell 0
  have hg := hb.lt
  simp at q0
  have hm : Calls Tryz.prog 94 #[ptr g] w (Same (.int .i64 n) w) := by
    go_enter Tryz.func94, Tryz.ntmps94
    go_wp2
    go_ret
    exact ⟨rfl, rfl⟩
  go_enter Tryz.func51, Tryz.ntmps51
  go_wp2_with fail
  refine hm.mono ?_
  rintro e w' ⟨rfl, rfl⟩
  clear hm
  go_wp2
  go_ret
  exact ⟨rfl, Below.refl _ _⟩

set_option maxRecDepth 100000 in
theorem arity_no (T : TypeId) (o : Int) (x : Value) (w : World) (hd : Dyn T o) (hT : T ≠ 75) : Calls Tryz.prog 51 #[.iface T x] w (IntPost 0 w) := by
  have hta := no_fn T o x hd hT
  go_enter Tryz.func51, Tryz.ntmps51
  go_wp2
  go_ret
  exact ⟨rfl, Below.refl _ _⟩

set_option maxRecDepth 100000 in
theorem arity_nil (w : World) : Calls Tryz.prog 51 #[.nilIface] w (IntPost (-1) w) := by
  go_enter Tryz.func51, Tryz.ntmps51
  go_wp2
  go_ret
  exact ⟨rfl, Below.refl _ _⟩

theorem result_any (g : Nat) (x r v : Value) (w : World) (hb : Blk w g 137 #[x, r, v]) (hr : TyOrNil r) : Calls Tryz.prog 95 #[ptr g] w (Same r w) := by
  have q0 := hb.cell 1
  have hg := hb.lt
  simp at q0
  have hu := hr.unwrap
  have hi := hr.ifc
  clear hr
  rcases hi with rfl | ⟨T, r, rfl⟩
  all_goals
    go_enter Tryz.func95, Tryz.ntmps95
    go_wp2_with fail
    refine (hu _).mono ?_
    rintro e w' ⟨rfl, rfl⟩
    go_wp2
    go_ret
    exact ⟨rfl, rfl⟩

set_option maxRecDepth 100000 in
theorem void_fn (g : Nat) (x r v : Value) (w : World) (hb : Blk w g 137 #[x, r, v]) (hr : TyOrNil r) (b : Bool) (hrb : b = true ↔ r = .nilIface) : Calls Tryz.prog 52 #[.iface 75 (ptr g)] w (BoolAt b w) := by
  have hm := result_any g x r v w hb hr
  have hi := hr.ifc
  clear hr
  cases b with
  | true =>
    obtain rfl := hrb.1 rfl
    clear hrb hi
    go_enter Tryz.func52, Tryz.ntmps52
    go_wp2_with fail
    refine hm.mono ?_
    rintro e w' ⟨rfl, rfl⟩
    clear hm
    go_wp2
    go_ret
    exact ⟨rfl, Below.refl _ _⟩
  | false =>
    rcases hi with rfl | ⟨T, r, rfl⟩
    · exact absurd (hrb.2 rfl) (by simp)
    clear hrb
    go_enter Tryz.func52, Tryz.ntmps52
    go_wp2_with fail
    refine hm.mono ?_
    rintro e w' ⟨rfl, rfl⟩
    clear hm
    go_wp2
    go_ret
    exact ⟨rfl, Below.refl _ _⟩

set_option maxRecDepth 100000 in
theorem void_no (T : TypeId) (o : Int) (x : Value) (w : World) (hd : Dyn T o) (hT : T ≠ 75) : Calls Tryz.prog 52 #[.iface T x] w (BoolAt false w) := by
  have hta := no_fn T o x hd hT
  go_enter Tryz.func52, Tryz.ntmps52
  go_wp2
  go_ret
  exact ⟨rfl, Below.refl _ _⟩

/-- 'built' hands over a value of which P is known. -/
def BuiltTo (P : Value → World → Prop) (cs : List Value) (w : World) : Prop := ∀ W, Below w.heap.size w W → Calls Tryz.prog 43 #[.agg cs.toArray] W fun e w' => ∃ v, e = .returned v ∧ Ifc v ∧ Below W.heap.size W w' ∧ P v w'

set_option maxRecDepth 100000 in
theorem implArity_any (d : Int) (k : Int) (nm tx : ByteArray) (A1 A2 A3 : Option Addr) (n1 c1 n2 c2 n3 c3 : Nat) (w : World) (h : BuiltTo (fun v W => Calls Tryz.prog 51 #[v] W (IntPost d W)) [.int .i64 k, .string nm, .string tx, .slice A1 n1 c1, .slice A2 n2 c2, .slice A3 n3 c3] w) :
    Calls Tryz.prog 32 #[.agg #[.int .i64 k, .string nm, .string tx, .slice A1 n1 c1, .slice A2 n2 c2, .slice A3 n3 c3]] w (IntPost d w) := by
  have hlow : Below w.heap.size w (w.alloc (.cells #[.int .i64 k, .string nm, .string tx, .slice A1 n1 c1, .slice A2 n2 c2, .slice A3 n3 c3] 25)) := (Below.refl _ _).alloc (Nat.le_refl _) _
  go_enter Tryz.func32, Tryz.ntmps32
  go_wp2_with fail
  refine (h _ hlow).mono ?_
  rintro e w1 ⟨v, rfl, hi, h1, hp⟩
  have hlow1 := hlow.trans (h1.mono hlow.size)
  clear h hlow h1
  rcases hi with rfl | ⟨T, v, rfl⟩
  all_goals
    go_wp2_with fail
    refine hp.mono ?_
    rintro e w2 ⟨rfl, h2⟩
    clear hp
    go_wp2
    go_ret
    exact ⟨rfl, hlow1.trans (h2.mono hlow1.size)⟩

set_option maxRecDepth 100000 in
theorem implVoid_any (d : Bool) (k : Int) (nm tx : ByteArray) (A1 A2 A3 : Option Addr) (n1 c1 n2 c2 n3 c3 : Nat) (w : World) (h : BuiltTo (fun v W => Calls Tryz.prog 52 #[v] W (BoolAt d W)) [.int .i64 k, .string nm, .string tx, .slice A1 n1 c1, .slice A2 n2 c2, .slice A3 n3 c3] w) :
    Calls Tryz.prog 33 #[.agg #[.int .i64 k, .string nm, .string tx, .slice A1 n1 c1, .slice A2 n2 c2, .slice A3 n3 c3]] w (BoolAt d w) := by
  have hlow : Below w.heap.size w (w.alloc (.cells #[.int .i64 k, .string nm, .string tx, .slice A1 n1 c1, .slice A2 n2 c2, .slice A3 n3 c3] 25)) := (Below.refl _ _).alloc (Nat.le_refl _) _
  go_enter Tryz.func33, Tryz.ntmps33
  go_wp2_with fail
  refine (h _ hlow).mono ?_
  rintro e w1 ⟨v, rfl, hi, h1, hp⟩
  have hlow1 := hlow.trans (h1.mono hlow.size)
  clear h hlow h1
  rcases hi with rfl | ⟨T, v, rfl⟩
  all_goals
    go_wp2_with fail
    refine hp.mono ?_
    rintro e w2 ⟨rfl, h2⟩
    clear hp
    go_wp2
    go_ret
    exact ⟨rfl, hlow1.trans (h2.mono hlow1.size)⟩

theorem dyn_nofn' {T : TypeId} {k : Int} (hd : Dyn T (k - 1)) (hk : k ≤ 8) : T ≠ 75 := by
  rcases hd with ⟨rfl, _⟩ | ⟨rfl, _⟩ | ⟨rfl, _⟩ | ⟨rfl, _⟩ | ⟨rfl, _⟩ | ⟨rfl, _⟩ | ⟨rfl, _⟩ | ⟨rfl, _⟩ | ⟨_, h⟩
  case inr.inr.inr.inr.inr.inr.inr.inr => omega
  all_goals decide

/-- A proper type is built: an interface value that is no function. -/
theorem built_nofn {t : Tr} {cs : List Value} {w : World} (h : TA w t cs) (n : Nice t) (W : World) (hW : Below w.heap.size w W) : Calls Tryz.prog 43 #[.agg cs.toArray] W fun e w' => ∃ T x o, e = .returned (.iface T x) ∧ Dyn T o ∧ T ≠ 75 ∧ Below W.heap.size W w' := by
  refine (built_any t n.1 n.2 W _ cs (h.up hW).rep fun _ h => h).mono ?_
  rintro e w' ⟨v, rfl, hv, hb⟩
  have hr := hv.rep n.kind
  have hk := hr.kind_rng
  obtain ⟨T, x, rfl, hd⟩ := hr.dyn
  exact ⟨T, x, _, rfl, hd, dyn_nofn' hd hk.2, hb⟩

theorem arity_ty {t : Tr} {cs : List Value} {w : World} (h : TA w t cs) (n : Nice t) : BuiltTo (fun v W => Calls Tryz.prog 51 #[v] W (IntPost 0 W)) cs w := fun W hW =>
  (built_nofn h n W hW).mono fun _ _ ⟨T, x, o, e, hd, hT, hb⟩ => ⟨_, e, .inr ⟨T, x, rfl⟩, hb, arity_no T o x _ hd hT⟩
theorem void_ty {t : Tr} {cs : List Value} {w : World} (h : TA w t cs) (n : Nice t) : BuiltTo (fun v W => Calls Tryz.prog 52 #[v] W (BoolAt false W)) cs w := fun W hW =>
  (built_nofn h n W hW).mono fun _ _ ⟨T, x, o, e, hd, hT, hb⟩ => ⟨_, e, .inr ⟨T, x, rfl⟩, hb, void_no T o x _ hd hT⟩
theorem arity_none (w : World) : BuiltTo (fun v W => Calls Tryz.prog 51 #[v] W (IntPost (-1) W)) [.int .i64 0, .string ⟨#[]⟩, .string ⟨#[]⟩, .slice none 0 0, .slice none 0 0, .slice none 0 0] w := fun W _ =>
  (built_none [] [] [] W _ _ (none_rep0 W) (fun _ h => h.elim)).mono fun _ w' ⟨v, e, hv, hb⟩ => by
    rcases hv with ⟨_, rfl⟩ | hv
    · exact ⟨_, e, .inl rfl, hb, arity_nil w'⟩
    · exact absurd hv.kind_rng.1 (by rw [norm_kind]; simp [Tr.kind])

theorem repO.ty {w : World} {F : Nat → Prop} {t : Tr} {v : Value} (h : repO w F t v) : TyOrNil v := by
  rcases h with ⟨_, h⟩ | h
  · exact .inl h
  · exact h.ty

theorem arity_fn9 (l : List Tr) (t : Tr) (hl : l.length ≤ 1048576) (il : ∀ t ∈ l, Nice t) (ht : BuiltOk t) (w : World) (B : Nat → Prop) (cs : List Value) (hr : repI w B (.mk 9 [] l [t]) cs) (hB : ∀ b, B b → b < w.heap.size) : BuiltTo (fun v W => Calls Tryz.prog 51 #[v] W (IntPost l.length W)) cs w := fun W hW =>
  (built_fn l t hl (fun t ht => ⟨built_any t (il t ht).1 (il t ht).2, (by have := (il t ht).kind; rwa [norm_kind] at this)⟩) ht W B cs (hr.kept (Kept.of_below (X := fun b => b < w.heap.size) hW fun _ h => h) hB fun _ h => h) fun b hb => Nat.lt_of_lt_of_le (hB b hb) hW.size).mono
    fun _ _ ⟨g, A, c, _, _, _, e, hblk, _, _, _, _, hb⟩ => ⟨_, e, .inr ⟨_, _, rfl⟩, hb, arity_fn g A l.length c _ _ _ hblk⟩

theorem void_fn9 (l : List Tr) (t : Tr) (hl : l.length ≤ 1048576) (il : ∀ t ∈ l, Nice t) (ht : BuiltOk t) (b : Bool) (hb0 : b = true ↔ t.kind = 0) (w : World) (B : Nat → Prop) (cs : List Value) (hr : repI w B (.mk 9 [] l [t]) cs) (hB : ∀ b, B b → b < w.heap.size) : BuiltTo (fun v W => Calls Tryz.prog 52 #[v] W (BoolAt b W)) cs w := fun W hW =>
  (built_fn l t hl (fun t ht => ⟨built_any t (il t ht).1 (il t ht).2, (by have := (il t ht).kind; rwa [norm_kind] at this)⟩) ht W B cs (hr.kept (Kept.of_below (X := fun b => b < w.heap.size) hW fun _ h => h) hB fun _ h => h) fun b hb => Nat.lt_of_lt_of_le (hB b hb) hW.size).mono
    fun _ w' ⟨g, A, c, _, r, _, e, hblk, _, _, _, ⟨_, hr'⟩, hb⟩ => ⟨_, e, .inr ⟨_, _, rfl⟩, hb, void_fn g _ r _ w' hblk hr'.ty b (by
      rw [hb0]
      constructor
      · intro h
        rcases hr' with ⟨_, h'⟩ | h'
        · exact h'
        · exact absurd h'.kind_rng.1 (by rw [norm_kind, h]; omega)
      · rintro rfl
        rcases hr' with ⟨h', _⟩ | h'
        · rwa [norm_kind] at h'
        · obtain ⟨T, x, h, _⟩ := h'.dyn
          cases h)⟩

end Go.Proofs.YtpmfjbmfjfhghaaGreat
