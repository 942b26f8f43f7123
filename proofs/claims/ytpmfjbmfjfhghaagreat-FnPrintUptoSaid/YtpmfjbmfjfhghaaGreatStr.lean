/-
  The texts of types (1): 'zzKey', 'Sprint' over a type's own 'String', 'zzMap' of 'Sprint'.
-/
import Derived.Test.YtpmfjbmfjfhghaaGreatNewAny
import Derived.Lib.SliceRun
import Derived.Test.YtpmfjbmfjfhghaaGreatFunc0
import Derived.Test.YtpmfjbmfjfhghaaGreatText
namespace Go.Proofs.YtpmfjbmfjfhghaaGreat
open Go.RowKit

def StrPost (s : ByteArray) (w : World) (e : Ending) (w' : World) : Prop := e = .returned (.string s) ∧ Below w.heap.size w w'

theorem zzKey_any (k : Ky) (w : World) : Calls Tryz.prog 189 #[keyVal k] w (Same (.string (keyText k)) w) := by
  unfold keyVal keyText
  by_cases h : k.kind = 1 ∨ k.kind = 2
  · rw [if_pos h, if_pos h]
    obtain ⟨b, hb⟩ : ∃ b, b = (k.kind == 2) := ⟨_, rfl⟩
    rw [← hb]
    clear hb h
    cases b
    all_goals
      go_enter Tryz.func189, Tryz.ntmps189
      go_wp2
      go_ret
      exact ⟨rfl, rfl⟩
  · rw [if_neg h, if_neg h]
    by_cases h' : k.kind = 4
    · rw [if_pos h', if_pos h']
      clear h h'
      go_enter Tryz.func189, Tryz.ntmps189
      go_wp2
      go_ret
      exact ⟨rfl, rfl⟩
    · rw [if_neg h', if_neg h']
      clear h h'
      go_enter Tryz.func189, Tryz.ntmps189
      go_wp2
      go_ret
      exact ⟨rfl, rfl⟩

/-- The 'String' of a type. -/
def StrFn (T : TypeId) (f : FuncId) : Prop :=
  (T = 94 ∧ f = 176) ∨ (T = 96 ∧ f = 178) ∨ (T = 98 ∧ f = 180) ∨ (T = 100 ∧ f = 182) ∨
  (T = 102 ∧ f = 184) ∨ (T = 109 ∧ f = 187) ∨ (T = 113 ∧ f = 191) ∨ (T = 90 ∧ f = 174)

/-- A value whose own 'String' gives a text. -/
def MOk (s : ByteArray) (v : Value) (w : World) : Prop := ∃ T x f, v = .iface T x ∧ StrFn T f ∧ ∀ W, Below w.heap.size w W → Calls Tryz.prog f #[x] W (StrPost s W)

/-- A value whose text 'Sprint' gives. -/
def SOk (s : ByteArray) (v : Value) (w : World) : Prop := (∃ T x, v = .iface T x) ∧ ∀ W, Below w.heap.size w W → Calls Tryz.prog 53 #[v] W (StrPost s W)

theorem SOk.up {s : ByteArray} {v : Value} {w W : World} (h : SOk s v w) (hW : Below w.heap.size w W) : SOk s v W := ⟨h.1, fun W' hW' => h.2 W' (hW.trans (hW'.mono hW.size))⟩

set_option maxHeartbeats 4000000 in
set_option maxRecDepth 100000 in
theorem MOk.spr {s : ByteArray} {v : Value} {w : World} (h : MOk s v w) : SOk s v w := by
  obtain ⟨T, x, f, rfl, hf, hc⟩ := h
  refine ⟨⟨T, x, rfl⟩, fun W hW => ?_⟩
  have hc := hc W hW
  clear hW
  rcases hf with ⟨rfl, rfl⟩ | ⟨rfl, rfl⟩ | ⟨rfl, rfl⟩ | ⟨rfl, rfl⟩ | ⟨rfl, rfl⟩ | ⟨rfl, rfl⟩ | ⟨rfl, rfl⟩ | ⟨rfl, rfl⟩
  all_goals
    go_enter Tryz.func53, Tryz.ntmps53
    go_wp2_with fail
    refine hc.mono ?_
    rintro e w' ⟨rfl, hb⟩
    clear hc
    go_wp2
    go_ret
    exact ⟨rfl, hb⟩

theorem str_null (w : World) : Calls Tryz.prog 176 #[.agg #[]] w (StrPost ⟨#[110, 117, 108, 108]⟩ w) := by
  go_enter Tryz.func176, Tryz.ntmps176
  go_wp2
  go_ret
  exact ⟨rfl, (Below.refl _ _).alloc (Nat.le_refl _) _⟩
theorem str_boolean (w : World) : Calls Tryz.prog 178 #[.agg #[]] w (StrPost ⟨#[98, 111, 111, 108, 101, 97, 110]⟩ w) := by
  go_enter Tryz.func178, Tryz.ntmps178
  go_wp2
  go_ret
  exact ⟨rfl, ((Below.refl _ _).alloc (Nat.le_refl _) _).alloc (by simp) _⟩
theorem str_number (w : World) : Calls Tryz.prog 180 #[.agg #[]] w (StrPost ⟨#[110, 117, 109, 98, 101, 114]⟩ w) := by
  go_enter Tryz.func180, Tryz.ntmps180
  go_wp2
  go_ret
  exact ⟨rfl, (Below.refl _ _).alloc (Nat.le_refl _) _⟩
theorem str_string (w : World) : Calls Tryz.prog 182 #[.agg #[]] w (StrPost ⟨#[115, 116, 114, 105, 110, 103]⟩ w) := by
  go_enter Tryz.func182, Tryz.ntmps182
  go_wp2
  go_ret
  exact ⟨rfl, (Below.refl _ _).alloc (Nat.le_refl _) _⟩

theorem infoS : (Tryz.prog.info? 9).map (fun i => (i.zero, i.size, i.bytes)) = some (some (.string ⟨#[]⟩), 1, 16) := by kernel_rfl

set_option maxRecDepth 100000 in
theorem zzMapS_none (w : World) : Calls Tryz.prog 165 #[.slice none 0 0, .func (.func 53) #[] #[]] w (Same (.slice none 0 0) w) := by
  have hsn := slice_nil
  go_enter Tryz.func165, Tryz.ntmps165
  go_wp2
  go_ret
  exact ⟨rfl, rfl⟩

set_option maxHeartbeats 1000000 in
set_option maxRecDepth 100000 in
theorem zzMapS_some (xs : List Value) (L : List ByteArray) (b off c : Nat) (F : Nat → Prop) (w : World) (hx : rowAt w F (some ⟨b, off, none⟩) xs) (hF : ∀ b, F b → b < w.heap.size) (hL : L.length = xs.length) (ht : ∀ i (hi : i < xs.length), SOk (L[i]'(by omega)) xs[i] w) (hlen : xs.length ≤ 1048576) :
    Calls Tryz.prog 165 #[.slice (some ⟨b, off, none⟩) xs.length c, .func (.func 53) #[] #[]] w fun e w' =>
      e = .returned (.slice (some ⟨w.heap.size, 0, none⟩) xs.length xs.length) ∧ Blk w' w.heap.size 9 (L.map Value.string).toArray ∧ Below w.heap.size w w' := by
  obtain ⟨i, hi, ge⟩ := Option.map_eq_some_iff.1 infoS
  have hi3 : i.zero = some _ := congrArg (fun x => x.1) ge
  have hi1 : i.size = 1 := congrArg (fun x => x.2.1) ge
  have hi2 : i.bytes = 16 := congrArg (fun x => x.2.2) ge
  clear ge
  have hmk := run_makeSlice (P := Tryz.prog) (w := w) 26 9 i (.string ⟨#[]⟩) Tryz.underlying26 hi hi3 .i64 .i64 xs.length xs.length (by omega) (by omega) (by rw [hi1, Int.toNat_natCast]; omega) (by rw [hi2]; omega) (by omega)
  rw [hi1, Int.toNat_natCast, Nat.mul_one] at hmk
  obtain ⟨Z, hZ⟩ : ∃ Z : List Value, Z = (madeCells (Value.string ⟨#[]⟩).cells xs.length).toList := ⟨_, rfl⟩
  have hZl : Z.length = xs.length := by rw [hZ]; simp [size_madeCells]
  have e0 : madeCells (Value.string ⟨#[]⟩).cells xs.length = Z.toArray := by rw [hZ]
  rw [e0] at hmk
  have hLm : (L.map Value.string).length = xs.length := by rw [List.length_map, hL]
  have hb0 : Blk (w.alloc (.cells Z.toArray 9)) w.heap.size 9 ((L.map Value.string).take 0 ++ Z.drop 0).toArray := Blk.new _ _ _
  have hk0 : Kept (fun b => b < w.heap.size) w (w.alloc (.cells Z.toArray 9)) := (Kept.refl _ _).alloc (fun _ h => h) _
  have HLM := Lib.hid hLm
  clear e0 hZ hi hi1 hi2 hi3 hLm
  have hsn := slice_nil
  go_enter Tryz.func165, Tryz.ntmps165
  go_wp2
  clear hmk
  go_loopw [15] (fun i wr => ∃ j : Nat, j ≤ xs.length ∧ i = .int .i64 j ∧ Below w.heap.size w wr ∧ Blk wr w.heap.size 9 ((L.map Value.string).take j ++ Z.drop j).toArray) (fun i _ => xs.length - (intOf i).toNat)
  case atStart => exact ⟨0, Nat.zero_le _, rfl, hk0.below fun _ h => h, hb0⟩
  case round =>
    obtain ⟨j, hj, rfl, hbel, hblk⟩ := hrel
    clear hb0 hk0
    by_cases hlt : j < xs.length
    · obtain ⟨b', off', e, hFb, q0⟩ := hx j xs[j] (List.getElem?_eq_getElem hlt)
      obtain ⟨rfl, rfl⟩ : b = b' ∧ off = off' := by
        injection e with e
        injection e with e1 e2
        exact ⟨e1, e2⟩
      have hbb := hF b hFb
      rw [← hbel.cell (by exact hbb)] at q0
      obtain ⟨⟨T, y, ex⟩, hu0⟩ := ht j hlt
      have hn := fill_next (L.map Value.string) Z j (by rw [HLM.out]; exact hlt) (by rw [HLM.out]; exact hZl)
      rw [List.getElem_map] at hn
      have hu := hu0 wr hbel
      clear hu0
      rw [ex] at q0 hu
      have hlj : j < L.length := by rw [hL]; exact hlt
      obtain ⟨s, hs⟩ : ∃ s, s = L[j] := ⟨_, rfl⟩
      rw [← hs] at hn hu
      have hll : ((L.map Value.string).take j ++ Z.drop j).length = xs.length := by rw [List.length_append, List.length_take, List.length_drop, HLM.out]; omega
      obtain ⟨u, c0⟩ : ∃ u, wr.cell? ⟨w.heap.size, j, none⟩ = some u := by
        rw [hblk.cell]
        exact ⟨((L.map Value.string).take j ++ Z.drop j)[j]'(by omega), by rw [List.getElem?_toArray, List.getElem?_eq_getElem]⟩
      have l0 := hblk.lt
      have HN := Lib.hid hn
      clear hx hn ht ex hs hL hll hlj
      go_wp2_with fail
      refine hu.mono ?_
      rintro e w1 ⟨rfl, hb1⟩
      have hblk1 := hblk.below hb1 hblk.lt
      have f1 := hblk1.frozen j
      have l1 := hblk1.lt
      have hb2 := hblk1.set_ j (.string s)
      rw [List.setIfInBounds_toArray, HN.out] at hb2
      have c1 : w1.cell? ⟨w.heap.size, j, none⟩ = some u := (hb1.cell (by exact l0)).trans c0
      have hbel1 := hbel.trans (hb1.mono hbel.size)
      have hl2 := (((Kept.refl (fun b => b < w.heap.size) w1).setCell (p := ⟨w.heap.size, j, none⟩) (by simp) (.string s)).below fun _ h => h)
      clear hu hblk hblk1 c0 q0
      go_wp2
      go_roundw
      case rel => exact ⟨j + 1, by omega, by go_num, hbel1.trans hl2, hb2⟩
      case measure => simp [intOf]; omega
    · obtain rfl : j = xs.length := by omega
      rw [← HLM.out, List.take_length, HLM.out, ← hZl, List.drop_length, List.append_nil] at hblk
      clear hx ht
      go_wp2
      go_ret
      exact ⟨rfl, hblk, hbel⟩

end Go.Proofs.YtpmfjbmfjfhghaaGreat
