/-
  The texts of types (4): 'String' of objects (laid by gen_strobj.py).
-/
import Derived.Test.YtpmfjbmfjfhghaaGreatStr3
import Derived.Test.YtpmfjbmfjfhghaaGreatReg
namespace Go.Proofs.YtpmfjbmfjfhghaaGreat
open Go.RowKit Go.Proofs

set_option maxHeartbeats 1000000 in
set_option maxRecDepth 100000 in
theorem str_dyn (s r : ByteArray) (g : Nat) (x y : Value) (w : World) (hb : Blk w g 132 #[x, y]) (hx : SOk s x w) (hy : SOk r y w) (hs : s.size ≤ 33554432) (hr : r.size ≤ 33554432) :
    Calls Tryz.prog 190 #[ptr g] w (StrPost ((s ++ ⟨#[58, 32]⟩) ++ r) w) := by
  obtain ⟨⟨T, x, rfl⟩, hx⟩ := hx
  obtain ⟨⟨T', y, rfl⟩, hy⟩ := hy
  have hl0 : Below w.heap.size w w.drew := (Below.refl _ _).drew
  have hb0 := hb.drew
  have hx := hx _ hl0
  clear hb
  go_enter Tryz.func190, Tryz.ntmps190
  go_wp2_with fail
  refine wp_region_held_drew (S := (fun W => Blk W g 132 #[.iface T x, .iface T' y])) (by kernel_rfl) (hb0) (fun hHeld => ?_)
  refine take_yes (i := 0) (v := ?_) rfl (by kernel_rfl) (by kernel_rfl) (by kernel_rfl) (fun _ _ _ h => h) (by rfl) ?_ hHeld ?_
  rotate_left
  · (intro w hSw; have z0 := hSw.cell 0; have z1 := hSw.cell 1; have z2 := hSw.lt; simp at z0 z1; have n1 : ¬ 9223372036854775807 < s.size + 2 := (by omega); have n2 : ¬ 9223372036854775807 < s.size + 2 + r.size := (by omega); go_simp; (try with_reducible rfl))
  (try simp only [Act.put, List.setIfInBounds_toArray, List.set_cons_zero, List.set_cons_succ])
  refine take_yes (i := 1) (v := ?_) rfl (by kernel_rfl) (by kernel_rfl) (by kernel_rfl) (fun _ _ _ h => h) (by rfl) ?_ hHeld ?_
  rotate_left
  · (intro w hSw; have z0 := hSw.cell 0; have z1 := hSw.cell 1; have z2 := hSw.lt; simp at z0 z1; have n1 : ¬ 9223372036854775807 < s.size + 2 := (by omega); have n2 : ¬ 9223372036854775807 < s.size + 2 + r.size := (by omega); go_simp; (try with_reducible rfl))
  (try simp only [Act.put, List.setIfInBounds_toArray, List.set_cons_zero, List.set_cons_succ])
  refine take_yes (i := 2) (v := ?_) rfl (by kernel_rfl) (by kernel_rfl) (by kernel_rfl) (fun _ _ _ h => h) (by rfl) ?_ hHeld ?_
  rotate_left
  · (intro w hSw; have z0 := hSw.cell 0; have z1 := hSw.cell 1; have z2 := hSw.lt; simp at z0 z1; have n1 : ¬ 9223372036854775807 < s.size + 2 := (by omega); have n2 : ¬ 9223372036854775807 < s.size + 2 + r.size := (by omega); go_simp; (try with_reducible rfl))
  (try simp only [Act.put, List.setIfInBounds_toArray, List.set_cons_zero, List.set_cons_succ])
  refine take_yes (i := 3) (v := ?_) rfl (by kernel_rfl) (by kernel_rfl) (by kernel_rfl) (fun _ _ _ h => h) (by rfl) ?_ hHeld ?_
  rotate_left
  · (intro w hSw; have z0 := hSw.cell 0; have z1 := hSw.cell 1; have z2 := hSw.lt; simp at z0 z1; have n1 : ¬ 9223372036854775807 < s.size + 2 := (by omega); have n2 : ¬ 9223372036854775807 < s.size + 2 + r.size := (by omega); go_simp; (try with_reducible rfl))
  (try simp only [Act.put, List.setIfInBounds_toArray, List.set_cons_zero, List.set_cons_succ])
  refine take_yes (i := 6) (v := ?_) rfl (by kernel_rfl) (by kernel_rfl) (by kernel_rfl) (fun _ _ _ h => h) (by rfl) ?_ hHeld ?_
  rotate_left
  · (intro w hSw; have z0 := hSw.cell 0; have z1 := hSw.cell 1; have z2 := hSw.lt; simp at z0 z1; have n1 : ¬ 9223372036854775807 < s.size + 2 := (by omega); have n2 : ¬ 9223372036854775807 < s.size + 2 + r.size := (by omega); go_simp; (try with_reducible rfl))
  (try simp only [Act.put, List.setIfInBounds_toArray, List.set_cons_zero, List.set_cons_succ])
  refine take_yes (i := 7) (v := ?_) rfl (by kernel_rfl) (by kernel_rfl) (by kernel_rfl) (fun _ _ _ h => h) (by rfl) ?_ hHeld ?_
  rotate_left
  · (intro w hSw; have z0 := hSw.cell 0; have z1 := hSw.cell 1; have z2 := hSw.lt; simp at z0 z1; have n1 : ¬ 9223372036854775807 < s.size + 2 := (by omega); have n2 : ¬ 9223372036854775807 < s.size + 2 + r.size := (by omega); go_simp; (try with_reducible rfl))
  (try simp only [Act.put, List.setIfInBounds_toArray, List.set_cons_zero, List.set_cons_succ])
  refine take_yes (i := 8) (v := ?_) rfl (by kernel_rfl) (by kernel_rfl) (by kernel_rfl) (fun _ _ _ h => h) (by rfl) ?_ hHeld ?_
  rotate_left
  · (intro w hSw; have z0 := hSw.cell 0; have z1 := hSw.cell 1; have z2 := hSw.lt; simp at z0 z1; have n1 : ¬ 9223372036854775807 < s.size + 2 := (by omega); have n2 : ¬ 9223372036854775807 < s.size + 2 + r.size := (by omega); go_simp; (try with_reducible rfl))
  (try simp only [Act.put, List.setIfInBounds_toArray, List.set_cons_zero, List.set_cons_succ])
  refine take_yes (i := 9) (v := ?_) rfl (by kernel_rfl) (by kernel_rfl) (by kernel_rfl) (fun _ _ _ h => h) (by rfl) ?_ hHeld ?_
  rotate_left
  · (intro w hSw; have z0 := hSw.cell 0; have z1 := hSw.cell 1; have z2 := hSw.lt; simp at z0 z1; have n1 : ¬ 9223372036854775807 < s.size + 2 := (by omega); have n2 : ¬ 9223372036854775807 < s.size + 2 + r.size := (by omega); go_simp; (try with_reducible rfl))
  (try simp only [Act.put, List.setIfInBounds_toArray, List.set_cons_zero, List.set_cons_succ])
  refine take_step (i := 4) rfl (by kernel_rfl) (fun K hK => ?_)
  go_simp
  (go_at_call 53; refine hx.mono ?_; rintro e w1 ⟨rfl, h1⟩; have hl1 := hl0.trans (h1.mono hl0.size); have hb1 := hb0.below h1 hb0.lt; have hy := hy _ hl1)
  (try go_wp2_with fail)
  refine hK.out _ _ (hb1) (fun hHeld => ?_)
  clear hK K
  (try simp only [Act.put, List.setIfInBounds_toArray, List.set_cons_zero, List.set_cons_succ])
  refine take_yes (i := 5) (v := ?_) rfl (by kernel_rfl) (by kernel_rfl) (by kernel_rfl) (fun _ _ _ h => h) (by rfl) ?_ hHeld ?_
  rotate_left
  · (intro w hSw; have z0 := hSw.cell 0; have z1 := hSw.cell 1; have z2 := hSw.lt; simp at z0 z1; have n1 : ¬ 9223372036854775807 < s.size + 2 := (by omega); have n2 : ¬ 9223372036854775807 < s.size + 2 + r.size := (by omega); go_simp; (try with_reducible rfl))
  (try simp only [Act.put, List.setIfInBounds_toArray, List.set_cons_zero, List.set_cons_succ])
  refine take_step (i := 10) rfl (by kernel_rfl) (fun K hK => ?_)
  go_simp
  (go_at_call 53; refine hy.mono ?_; rintro e w2 ⟨rfl, h2⟩; have hl2 := hl1.trans (h2.mono hl1.size); have hb2 := hb1.below h2 hb1.lt)
  (try go_wp2_with fail)
  refine hK.out _ _ (hb2) (fun hHeld => ?_)
  clear hK K
  (try simp only [Act.put, List.setIfInBounds_toArray, List.set_cons_zero, List.set_cons_succ])
  refine take_yes (i := 11) (v := ?_) rfl (by kernel_rfl) (by kernel_rfl) (by kernel_rfl) (fun _ _ _ h => h) (by rfl) ?_ hHeld ?_
  rotate_left
  · (intro w hSw; have z0 := hSw.cell 0; have z1 := hSw.cell 1; have z2 := hSw.lt; simp at z0 z1; have n1 : ¬ 9223372036854775807 < s.size + 2 := (by omega); have n2 : ¬ 9223372036854775807 < s.size + 2 + r.size := (by omega); go_simp; (try with_reducible rfl))
  (try simp only [Act.put, List.setIfInBounds_toArray, List.set_cons_zero, List.set_cons_succ])
  refine take_yes (i := 12) (v := ?_) rfl (by kernel_rfl) (by kernel_rfl) (by kernel_rfl) (fun _ _ _ h => h) (by rfl) ?_ hHeld ?_
  rotate_left
  · (intro w hSw; have z0 := hSw.cell 0; have z1 := hSw.cell 1; have z2 := hSw.lt; simp at z0 z1; have n1 : ¬ 9223372036854775807 < s.size + 2 := (by omega); have n2 : ¬ 9223372036854775807 < s.size + 2 + r.size := (by omega); go_simp; (try with_reducible rfl))
  (try simp only [Act.put, List.setIfInBounds_toArray, List.set_cons_zero, List.set_cons_succ])
  refine wpAnyH_done (by kernel_rfl) ?_ _
  go_wp2
  go_ret
  exact ⟨rfl, hl2⟩

theorem keyed_take_succ (ks : List Ky) (L : List ByteArray) (j : Nat) (hk : j < ks.length) (hl : j < L.length) : keyed (ks.take (j + 1)) (L.take (j + 1)) = keyed (ks.take j) (L.take j) ++ [(keyText ks[j] ++ ⟨#[58, 32]⟩) ++ L[j]] := by
  induction j generalizing ks L with
  | zero =>
    cases ks with
    | nil => simp at hk
    | cons k ks =>
      cases L with
      | nil => simp at hl
      | cons s L => simp [keyed]
  | succ j ih =>
    cases ks with
    | nil => simp at hk
    | cons k ks =>
      cases L with
      | nil => simp at hl
      | cons s L =>
        simp only [List.take_succ_cons, keyed, List.cons_append, List.getElem_cons_succ]
        rw [ih ks L (by simpa using hk) (by simpa using hl)]

/-- The texts of the properties that have been gone through. -/
structure BL (w : World) (L : List ByteArray) (v : Value) (j : Nat) (wr : World) : Prop where
  below : Below w.heap.size w wr
  own : wr.ownsRow w.heap.size 9 1 v j (L.map Value.string)

set_option maxHeartbeats 8000000 in
set_option maxRecDepth 100000 in
theorem str_object (n : Nat) (gs : List Nat) (ks : List Ky) (vs : List Value) (L M : List ByteArray) (g : Nat) (A : Option Addr) (c : Nat) (dp : Value) (F : Nat → Prop) (w : World) (hb : Blk w g 142 #[.slice A n c, dp]) (hp : props w F gs ks vs) (hrow : rowAt w F A (gs.map ptr)) (hF : ∀ b, F b → b < w.heap.size)
    (hkn : ks.length = n) (hL : L.length = n) (ht : ∀ (i : Nat) (x : Value) (s : ByteArray), vs[i]? = some x → L[i]? = some s → SOk s x w ∧ s.size ≤ 33554432) (hks : ∀ k ∈ ks, k.text.size ≤ 1048576) (hlen : n ≤ 1048576) (hs : sumS (keyed ks L) ≤ 33554432)
    (hd : (M = [] ∧ dp = .pointer none) ∨ ∃ g' s r, M = [s, r] ∧ dp = ptr g' ∧ (∀ W, Below w.heap.size w W → Calls Tryz.prog 190 #[ptr g'] W (StrPost ((s ++ ⟨#[58, 32]⟩) ++ r) W)) ∧ s.size + r.size ≤ 33554432) :
    Calls Tryz.prog 187 #[ptr g] w (StrPost (node 6 ks L M) w) := by
  obtain ⟨i, hi, ge⟩ := Option.map_eq_some_iff.1 infoS
  have hi3 : i.zero = some _ := congrArg (fun x => x.1) ge
  have hi1 : i.size = 1 := congrArg (fun x => x.2.1) ge
  have hi2 : i.bytes = 16 := congrArg (fun x => x.2.2) ge
  clear ge
  have hmk := run_makeSlice (P := Tryz.prog) (w := w) 26 9 i (.string ⟨#[]⟩) Tryz.underlying26 hi hi3 .i64 .i64 0 n (by omega) (by omega) (by rw [hi1, Int.toNat_natCast]; omega) (by rw [hi2]; omega) (by omega)
  rw [hi1, Int.toNat_natCast, Nat.mul_one] at hmk
  obtain ⟨Z, hZ⟩ : ∃ Z : Array Value, Z = madeCells (Value.string ⟨#[]⟩).cells n := ⟨_, rfl⟩
  have hZl : Z.size = n * 1 := by rw [hZ]; simp [size_madeCells]
  rw [← hZ] at hmk
  have hst0 : BL w (keyed (ks.take 0) (L.take 0)) (.slice (some ⟨w.heap.size, 0, none⟩) 0 n) 0 (w.alloc (.cells Z 9)) := ⟨(Below.refl _ _).alloc (Nat.le_refl _) _, by simpa [keyed] using World.ownsRow_made w Z n (base := w.heap.size) (e := 9) (size := 1) (Nat.le_refl _) (by unfold maxLen; omega) hZl⟩
  have hb0 := hb.alloc (.cells Z 9)
  have hg := hb.lt
  have hg0 := hb0.lt
  have q0 := hb.cell 0
  have p0 := hb0.cell 0
  simp at q0 p0
  have HKN := Lib.hid hkn
  have HL := Lib.hid hL
  have HIZ := Lib.hid hi3
  have HI1 := Lib.hid hi1
  have HI2 := Lib.hid hi2
  clear hkn hL hZ hZl hi1 hi2 hi3
  go_enter Tryz.func187, Tryz.ntmps187
  go_wp2
  clear hmk q0 p0
  go_loopw [19, 4] (fun q v wr => ∃ j : Nat, j ≤ n ∧ q = .int .i64 j ∧ BL w (keyed (ks.take j) (L.take j)) v j wr) (fun q _ _ => n - (intOf q).toNat)
  case atStart => exact ⟨0, Nat.zero_le _, rfl, hst0⟩
  case round =>
    obtain ⟨j, hj, rfl, hst⟩ := hrel
    clear hst0
    have hbel := hst.below
    by_cases hlt : j < n
    · have hjk : j < ks.length := by have := HKN.out; omega
      have hjl : j < L.length := by have := HL.out; omega
      obtain ⟨gp, x, hgp, hxj, hFg, hpb⟩ := hp.get j hjk
      obtain ⟨b, off, rfl, hbb, hq⟩ := hrow j (ptr gp) (by rw [List.getElem?_map, hgp]; rfl)
      have hbb' := hF b hbb
      have hgp' := hF gp hFg
      rw [← hbel.cell (by exact hbb')] at hq
      obtain ⟨hc, hss⟩ := ht j x L[j] hxj (List.getElem?_eq_getElem hjl)
      have hkey : ∀ W, Calls Tryz.prog 189 #[keyVal ks[j]] W (Same (.string (keyText ks[j])) W) := fun W => zzKey_any ks[j] W
      have hkz : (keyText ks[j]).size ≤ 1048581 := by have h1 := keyText_size ks[j]; have h2 := hks _ (List.getElem_mem hjk); omega
      have hki := keyVal_ifc ks[j]
      have e1 := keyed_take_succ ks L j hjk hjl
      obtain ⟨kv, ekv⟩ : ∃ kv, kv = keyVal ks[j] := ⟨_, rfl⟩
      obtain ⟨kt, ekt⟩ : ∃ kt, kt = keyText ks[j] := ⟨_, rfl⟩
      obtain ⟨s, es⟩ : ∃ s, s = L[j] := ⟨_, rfl⟩
      rw [← ekv] at hki hkey hpb
      rw [← ekt] at hkey hkz e1
      rw [← es] at hc hss e1
      have HE := Lib.hid e1
      have hpw : Blk wr gp 129 #[kv, x] := hpb.below hbel hgp'
      have hc := hc.up hbel
      obtain ⟨⟨T, x, rfl⟩, hc⟩ := hc
      have hc := hc wr.drew (Below.refl _ _).drew
      have hkey := hkey wr.drew
      have hz3 := HIZ.out
      have hz1 := HI1.out
      have hz2 := HI2.out
      have hpd := hpw.drew
      have hdl : Below wr.heap.size wr wr.drew := (Below.refl _ _).drew
      have hsz0 := hbel.size
      clear hp hrow ht hks hFg hpb hgp hxj ekv ekt es e1 hd hjk hjl hb hb0 hbb hF hpw
      rcases hki with rfl | ⟨T', kv, rfl⟩
      · skip
        go_wp2_with fail
        refine wp_region_held_drew (S := (fun W => Blk W gp 129 #[.nilIface, .iface T x])) (by kernel_rfl) (hpd) (fun hHeld => ?_)
        refine take_yes (i := 0) (v := ?_) rfl (by kernel_rfl) (by kernel_rfl) (by kernel_rfl) (fun _ _ _ h => h) (by rfl) ?_ hHeld ?_
        rotate_left
        · (intro w hSw; have z0 := hSw.cell 0; have z1 := hSw.cell 1; have z2 := hSw.lt; simp at z0 z1; have n1 : ¬ 9223372036854775807 < kt.size + 2 := (by omega); have n2 : ¬ 9223372036854775807 < kt.size + 2 + s.size := (by omega); go_simp; (try with_reducible rfl))
        (try simp only [Act.put, List.setIfInBounds_toArray, List.set_cons_zero, List.set_cons_succ])
        refine take_yes (i := 1) (v := ?_) rfl (by kernel_rfl) (by kernel_rfl) (by kernel_rfl) (fun _ _ _ h => h) (by rfl) ?_ hHeld ?_
        rotate_left
        · (intro w hSw; have z0 := hSw.cell 0; have z1 := hSw.cell 1; have z2 := hSw.lt; simp at z0 z1; have n1 : ¬ 9223372036854775807 < kt.size + 2 := (by omega); have n2 : ¬ 9223372036854775807 < kt.size + 2 + s.size := (by omega); go_simp; (try with_reducible rfl))
        (try simp only [Act.put, List.setIfInBounds_toArray, List.set_cons_zero, List.set_cons_succ])
        refine take_yes (i := 2) (v := ?_) rfl (by kernel_rfl) (by kernel_rfl) (by kernel_rfl) (fun _ _ _ h => h) (by rfl) ?_ hHeld ?_
        rotate_left
        · (intro w hSw; have z0 := hSw.cell 0; have z1 := hSw.cell 1; have z2 := hSw.lt; simp at z0 z1; have n1 : ¬ 9223372036854775807 < kt.size + 2 := (by omega); have n2 : ¬ 9223372036854775807 < kt.size + 2 + s.size := (by omega); go_simp; (try with_reducible rfl))
        (try simp only [Act.put, List.setIfInBounds_toArray, List.set_cons_zero, List.set_cons_succ])
        refine take_yes (i := 3) (v := ?_) rfl (by kernel_rfl) (by kernel_rfl) (by kernel_rfl) (fun _ _ _ h => h) (by rfl) ?_ hHeld ?_
        rotate_left
        · (intro w hSw; have z0 := hSw.cell 0; have z1 := hSw.cell 1; have z2 := hSw.lt; simp at z0 z1; have n1 : ¬ 9223372036854775807 < kt.size + 2 := (by omega); have n2 : ¬ 9223372036854775807 < kt.size + 2 + s.size := (by omega); go_simp; (try with_reducible rfl))
        (try simp only [Act.put, List.setIfInBounds_toArray, List.set_cons_zero, List.set_cons_succ])
        refine take_yes (i := 4) (v := ?_) rfl (by kernel_rfl) (by kernel_rfl) (by kernel_rfl) (fun _ _ _ h => h) (by rfl) ?_ hHeld ?_
        rotate_left
        · (intro w hSw; have z0 := hSw.cell 0; have z1 := hSw.cell 1; have z2 := hSw.lt; simp at z0 z1; have n1 : ¬ 9223372036854775807 < kt.size + 2 := (by omega); have n2 : ¬ 9223372036854775807 < kt.size + 2 + s.size := (by omega); go_simp; (try with_reducible rfl))
        (try simp only [Act.put, List.setIfInBounds_toArray, List.set_cons_zero, List.set_cons_succ])
        refine take_yes (i := 7) (v := ?_) rfl (by kernel_rfl) (by kernel_rfl) (by kernel_rfl) (fun _ _ _ h => h) (by rfl) ?_ hHeld ?_
        rotate_left
        · (intro w hSw; have z0 := hSw.cell 0; have z1 := hSw.cell 1; have z2 := hSw.lt; simp at z0 z1; have n1 : ¬ 9223372036854775807 < kt.size + 2 := (by omega); have n2 : ¬ 9223372036854775807 < kt.size + 2 + s.size := (by omega); go_simp; (try with_reducible rfl))
        (try simp only [Act.put, List.setIfInBounds_toArray, List.set_cons_zero, List.set_cons_succ])
        refine take_yes (i := 8) (v := ?_) rfl (by kernel_rfl) (by kernel_rfl) (by kernel_rfl) (fun _ _ _ h => h) (by rfl) ?_ hHeld ?_
        rotate_left
        · (intro w hSw; have z0 := hSw.cell 0; have z1 := hSw.cell 1; have z2 := hSw.lt; simp at z0 z1; have n1 : ¬ 9223372036854775807 < kt.size + 2 := (by omega); have n2 : ¬ 9223372036854775807 < kt.size + 2 + s.size := (by omega); go_simp; (try with_reducible rfl))
        (try simp only [Act.put, List.setIfInBounds_toArray, List.set_cons_zero, List.set_cons_succ])
        refine take_yes (i := 9) (v := ?_) rfl (by kernel_rfl) (by kernel_rfl) (by kernel_rfl) (fun _ _ _ h => h) (by rfl) ?_ hHeld ?_
        rotate_left
        · (intro w hSw; have z0 := hSw.cell 0; have z1 := hSw.cell 1; have z2 := hSw.lt; simp at z0 z1; have n1 : ¬ 9223372036854775807 < kt.size + 2 := (by omega); have n2 : ¬ 9223372036854775807 < kt.size + 2 + s.size := (by omega); go_simp; (try with_reducible rfl))
        (try simp only [Act.put, List.setIfInBounds_toArray, List.set_cons_zero, List.set_cons_succ])
        refine take_yes (i := 10) (v := ?_) rfl (by kernel_rfl) (by kernel_rfl) (by kernel_rfl) (fun _ _ _ h => h) (by rfl) ?_ hHeld ?_
        rotate_left
        · (intro w hSw; have z0 := hSw.cell 0; have z1 := hSw.cell 1; have z2 := hSw.lt; simp at z0 z1; have n1 : ¬ 9223372036854775807 < kt.size + 2 := (by omega); have n2 : ¬ 9223372036854775807 < kt.size + 2 + s.size := (by omega); go_simp; (try with_reducible rfl))
        (try simp only [Act.put, List.setIfInBounds_toArray, List.set_cons_zero, List.set_cons_succ])
        refine take_step (i := 5) rfl (by kernel_rfl) (fun K hK => ?_)
        go_simp
        (go_at_call 189; refine hkey.mono ?_; rintro e w0 ⟨rfl, rfl⟩)
        (try go_wp2_with fail)
        refine hK.out _ _ (hpd) (fun hHeld => ?_)
        clear hK K
        (try simp only [Act.put, List.setIfInBounds_toArray, List.set_cons_zero, List.set_cons_succ])
        refine take_yes (i := 6) (v := ?_) rfl (by kernel_rfl) (by kernel_rfl) (by kernel_rfl) (fun _ _ _ h => h) (by rfl) ?_ hHeld ?_
        rotate_left
        · (intro w hSw; have z0 := hSw.cell 0; have z1 := hSw.cell 1; have z2 := hSw.lt; simp at z0 z1; have n1 : ¬ 9223372036854775807 < kt.size + 2 := (by omega); have n2 : ¬ 9223372036854775807 < kt.size + 2 + s.size := (by omega); go_simp; (try with_reducible rfl))
        (try simp only [Act.put, List.setIfInBounds_toArray, List.set_cons_zero, List.set_cons_succ])
        refine take_step (i := 11) rfl (by kernel_rfl) (fun K hK => ?_)
        go_simp
        (go_at_call 53; refine hc.mono ?_; rintro e w1 ⟨rfl, h1⟩; have hl1 := hdl.trans (h1.mono hdl.size); have hp1 := hpd.below h1 hpd.lt; have own1 := own_below hst.own hl1 (Nat.le_refl _); have sz1 := hl1.size)
        (try go_wp2_with fail)
        refine hK.out _ _ (hp1) (fun hHeld => ?_)
        clear hK K
        (try simp only [Act.put, List.setIfInBounds_toArray, List.set_cons_zero, List.set_cons_succ])
        refine take_yes (i := 12) (v := ?_) rfl (by kernel_rfl) (by kernel_rfl) (by kernel_rfl) (fun _ _ _ h => h) (by rfl) ?_ hHeld ?_
        rotate_left
        · (intro w hSw; have z0 := hSw.cell 0; have z1 := hSw.cell 1; have z2 := hSw.lt; simp at z0 z1; have n1 : ¬ 9223372036854775807 < kt.size + 2 := (by omega); have n2 : ¬ 9223372036854775807 < kt.size + 2 + s.size := (by omega); go_simp; (try with_reducible rfl))
        (try simp only [Act.put, List.setIfInBounds_toArray, List.set_cons_zero, List.set_cons_succ])
        refine take_step (i := 13) rfl (by kernel_rfl) (fun K hK => ?_)
        go_simp
        (have hp2 := hp1.alloc (.cells #[.string (kt ++ ⟨#[58, 32]⟩ ++ s)] 9); have own2 := own1.alloc (.cells #[.string (kt ++ ⟨#[58, 32]⟩ ++ s)] 9))
        (try go_wp2_with fail)
        refine hK.out _ _ (hp2) (fun hHeld => ?_)
        clear hK K
        (try simp only [Act.put, List.setIfInBounds_toArray, List.set_cons_zero, List.set_cons_succ])
        refine take_step (i := 14) rfl (by kernel_rfl) (fun K hK => ?_)
        (refine step_append_lies _ (by rfl) _ _ _ (by rfl) w.heap.size 9 i _ 1 16 Tryz.underlying26 hi hz3 hz1 hz2 rfl (by omega) _ j _ (by rfl) own2 ⟨w1.heap.size, 0, none⟩ 1 1 [.string (kt ++ ⟨#[58, 32]⟩ ++ s)] (by rfl) (by rfl) (news_at w1 _ _ rfl) (by simp [Value.oneCell']) (by omega) (by unfold maxLen; omega) (by omega) (by simp; omega) (w1.heap.size + 1) (by simp) ?_; intro g1 c1 w2 hown2 hg2 hat2 _; have hp3 := hp2.grown hg2 (own_ne hst.own (by omega)); have K2 : Kept (fun b => b < w.heap.size) w1 w2 := ((Kept.refl (fun b => b < w.heap.size) w1).alloc (fun b hb => by omega) _).grown hg2 (fun b hb => by simp; omega) (fun k hk hX => own_ne hst.own hX hk.symm); have hR : BL w (keyed (ks.take (j + 1)) (L.take (j + 1))) (.slice (some ⟨g1, 0, none⟩) (j + 1) c1) (j + 1) w2 := ⟨(hbel.trans (hl1.mono hbel.size)).trans (K2.below fun b hb => hb), by rw [HE.out, List.map_append]; exact hown2⟩)
        refine hK.out _ _ (hp3) (fun hHeld => ?_)
        clear hK K
        (try simp only [Act.put, List.setIfInBounds_toArray, List.set_cons_zero, List.set_cons_succ])
        refine take_yes (i := 15) (v := ?_) rfl (by kernel_rfl) (by kernel_rfl) (by kernel_rfl) (fun _ _ _ h => h) (by rfl) ?_ hHeld ?_
        rotate_left
        · (intro w hSw; have z0 := hSw.cell 0; have z1 := hSw.cell 1; have z2 := hSw.lt; simp at z0 z1; have n1 : ¬ 9223372036854775807 < kt.size + 2 := (by omega); have n2 : ¬ 9223372036854775807 < kt.size + 2 + s.size := (by omega); go_simp; (try with_reducible rfl))
        (try simp only [Act.put, List.setIfInBounds_toArray, List.set_cons_zero, List.set_cons_succ])
        refine wpAnyH_done (by kernel_rfl) ?_ _
        clear hst hkey hc hpd hp1 hp2 hp3 own1 own2 hown2 hg2 hat2 hHeld hl1 h1 K2 hbel hdl
        go_wp2
        go_roundw
        case rel => exact ⟨j + 1, by omega, by go_num, hR⟩
        case measure => simp [intOf]; omega
      · skip
        go_wp2_with fail
        refine wp_region_held_drew (S := (fun W => Blk W gp 129 #[(.iface T' kv), .iface T x])) (by kernel_rfl) (hpd) (fun hHeld => ?_)
        refine take_yes (i := 0) (v := ?_) rfl (by kernel_rfl) (by kernel_rfl) (by kernel_rfl) (fun _ _ _ h => h) (by rfl) ?_ hHeld ?_
        rotate_left
        · (intro w hSw; have z0 := hSw.cell 0; have z1 := hSw.cell 1; have z2 := hSw.lt; simp at z0 z1; have n1 : ¬ 9223372036854775807 < kt.size + 2 := (by omega); have n2 : ¬ 9223372036854775807 < kt.size + 2 + s.size := (by omega); go_simp; (try with_reducible rfl))
        (try simp only [Act.put, List.setIfInBounds_toArray, List.set_cons_zero, List.set_cons_succ])
        refine take_yes (i := 1) (v := ?_) rfl (by kernel_rfl) (by kernel_rfl) (by kernel_rfl) (fun _ _ _ h => h) (by rfl) ?_ hHeld ?_
        rotate_left
        · (intro w hSw; have z0 := hSw.cell 0; have z1 := hSw.cell 1; have z2 := hSw.lt; simp at z0 z1; have n1 : ¬ 9223372036854775807 < kt.size + 2 := (by omega); have n2 : ¬ 9223372036854775807 < kt.size + 2 + s.size := (by omega); go_simp; (try with_reducible rfl))
        (try simp only [Act.put, List.setIfInBounds_toArray, List.set_cons_zero, List.set_cons_succ])
        refine take_yes (i := 2) (v := ?_) rfl (by kernel_rfl) (by kernel_rfl) (by kernel_rfl) (fun _ _ _ h => h) (by rfl) ?_ hHeld ?_
        rotate_left
        · (intro w hSw; have z0 := hSw.cell 0; have z1 := hSw.cell 1; have z2 := hSw.lt; simp at z0 z1; have n1 : ¬ 9223372036854775807 < kt.size + 2 := (by omega); have n2 : ¬ 9223372036854775807 < kt.size + 2 + s.size := (by omega); go_simp; (try with_reducible rfl))
        (try simp only [Act.put, List.setIfInBounds_toArray, List.set_cons_zero, List.set_cons_succ])
        refine take_yes (i := 3) (v := ?_) rfl (by kernel_rfl) (by kernel_rfl) (by kernel_rfl) (fun _ _ _ h => h) (by rfl) ?_ hHeld ?_
        rotate_left
        · (intro w hSw; have z0 := hSw.cell 0; have z1 := hSw.cell 1; have z2 := hSw.lt; simp at z0 z1; have n1 : ¬ 9223372036854775807 < kt.size + 2 := (by omega); have n2 : ¬ 9223372036854775807 < kt.size + 2 + s.size := (by omega); go_simp; (try with_reducible rfl))
        (try simp only [Act.put, List.setIfInBounds_toArray, List.set_cons_zero, List.set_cons_succ])
        refine take_yes (i := 4) (v := ?_) rfl (by kernel_rfl) (by kernel_rfl) (by kernel_rfl) (fun _ _ _ h => h) (by rfl) ?_ hHeld ?_
        rotate_left
        · (intro w hSw; have z0 := hSw.cell 0; have z1 := hSw.cell 1; have z2 := hSw.lt; simp at z0 z1; have n1 : ¬ 9223372036854775807 < kt.size + 2 := (by omega); have n2 : ¬ 9223372036854775807 < kt.size + 2 + s.size := (by omega); go_simp; (try with_reducible rfl))
        (try simp only [Act.put, List.setIfInBounds_toArray, List.set_cons_zero, List.set_cons_succ])
        refine take_yes (i := 7) (v := ?_) rfl (by kernel_rfl) (by kernel_rfl) (by kernel_rfl) (fun _ _ _ h => h) (by rfl) ?_ hHeld ?_
        rotate_left
        · (intro w hSw; have z0 := hSw.cell 0; have z1 := hSw.cell 1; have z2 := hSw.lt; simp at z0 z1; have n1 : ¬ 9223372036854775807 < kt.size + 2 := (by omega); have n2 : ¬ 9223372036854775807 < kt.size + 2 + s.size := (by omega); go_simp; (try with_reducible rfl))
        (try simp only [Act.put, List.setIfInBounds_toArray, List.set_cons_zero, List.set_cons_succ])
        refine take_yes (i := 8) (v := ?_) rfl (by kernel_rfl) (by kernel_rfl) (by kernel_rfl) (fun _ _ _ h => h) (by rfl) ?_ hHeld ?_
        rotate_left
        · (intro w hSw; have z0 := hSw.cell 0; have z1 := hSw.cell 1; have z2 := hSw.lt; simp at z0 z1; have n1 : ¬ 9223372036854775807 < kt.size + 2 := (by omega); have n2 : ¬ 9223372036854775807 < kt.size + 2 + s.size := (by omega); go_simp; (try with_reducible rfl))
        (try simp only [Act.put, List.setIfInBounds_toArray, List.set_cons_zero, List.set_cons_succ])
        refine take_yes (i := 9) (v := ?_) rfl (by kernel_rfl) (by kernel_rfl) (by kernel_rfl) (fun _ _ _ h => h) (by rfl) ?_ hHeld ?_
        rotate_left
        · (intro w hSw; have z0 := hSw.cell 0; have z1 := hSw.cell 1; have z2 := hSw.lt; simp at z0 z1; have n1 : ¬ 9223372036854775807 < kt.size + 2 := (by omega); have n2 : ¬ 9223372036854775807 < kt.size + 2 + s.size := (by omega); go_simp; (try with_reducible rfl))
        (try simp only [Act.put, List.setIfInBounds_toArray, List.set_cons_zero, List.set_cons_succ])
        refine take_yes (i := 10) (v := ?_) rfl (by kernel_rfl) (by kernel_rfl) (by kernel_rfl) (fun _ _ _ h => h) (by rfl) ?_ hHeld ?_
        rotate_left
        · (intro w hSw; have z0 := hSw.cell 0; have z1 := hSw.cell 1; have z2 := hSw.lt; simp at z0 z1; have n1 : ¬ 9223372036854775807 < kt.size + 2 := (by omega); have n2 : ¬ 9223372036854775807 < kt.size + 2 + s.size := (by omega); go_simp; (try with_reducible rfl))
        (try simp only [Act.put, List.setIfInBounds_toArray, List.set_cons_zero, List.set_cons_succ])
        refine take_step (i := 5) rfl (by kernel_rfl) (fun K hK => ?_)
        go_simp
        (go_at_call 189; refine hkey.mono ?_; rintro e w0 ⟨rfl, rfl⟩)
        (try go_wp2_with fail)
        refine hK.out _ _ (hpd) (fun hHeld => ?_)
        clear hK K
        (try simp only [Act.put, List.setIfInBounds_toArray, List.set_cons_zero, List.set_cons_succ])
        refine take_yes (i := 6) (v := ?_) rfl (by kernel_rfl) (by kernel_rfl) (by kernel_rfl) (fun _ _ _ h => h) (by rfl) ?_ hHeld ?_
        rotate_left
        · (intro w hSw; have z0 := hSw.cell 0; have z1 := hSw.cell 1; have z2 := hSw.lt; simp at z0 z1; have n1 : ¬ 9223372036854775807 < kt.size + 2 := (by omega); have n2 : ¬ 9223372036854775807 < kt.size + 2 + s.size := (by omega); go_simp; (try with_reducible rfl))
        (try simp only [Act.put, List.setIfInBounds_toArray, List.set_cons_zero, List.set_cons_succ])
        refine take_step (i := 11) rfl (by kernel_rfl) (fun K hK => ?_)
        go_simp
        (go_at_call 53; refine hc.mono ?_; rintro e w1 ⟨rfl, h1⟩; have hl1 := hdl.trans (h1.mono hdl.size); have hp1 := hpd.below h1 hpd.lt; have own1 := own_below hst.own hl1 (Nat.le_refl _); have sz1 := hl1.size)
        (try go_wp2_with fail)
        refine hK.out _ _ (hp1) (fun hHeld => ?_)
        clear hK K
        (try simp only [Act.put, List.setIfInBounds_toArray, List.set_cons_zero, List.set_cons_succ])
        refine take_yes (i := 12) (v := ?_) rfl (by kernel_rfl) (by kernel_rfl) (by kernel_rfl) (fun _ _ _ h => h) (by rfl) ?_ hHeld ?_
        rotate_left
        · (intro w hSw; have z0 := hSw.cell 0; have z1 := hSw.cell 1; have z2 := hSw.lt; simp at z0 z1; have n1 : ¬ 9223372036854775807 < kt.size + 2 := (by omega); have n2 : ¬ 9223372036854775807 < kt.size + 2 + s.size := (by omega); go_simp; (try with_reducible rfl))
        (try simp only [Act.put, List.setIfInBounds_toArray, List.set_cons_zero, List.set_cons_succ])
        refine take_step (i := 13) rfl (by kernel_rfl) (fun K hK => ?_)
        go_simp
        (have hp2 := hp1.alloc (.cells #[.string (kt ++ ⟨#[58, 32]⟩ ++ s)] 9); have own2 := own1.alloc (.cells #[.string (kt ++ ⟨#[58, 32]⟩ ++ s)] 9))
        (try go_wp2_with fail)
        refine hK.out _ _ (hp2) (fun hHeld => ?_)
        clear hK K
        (try simp only [Act.put, List.setIfInBounds_toArray, List.set_cons_zero, List.set_cons_succ])
        refine take_step (i := 14) rfl (by kernel_rfl) (fun K hK => ?_)
        (refine step_append_lies _ (by rfl) _ _ _ (by rfl) w.heap.size 9 i _ 1 16 Tryz.underlying26 hi hz3 hz1 hz2 rfl (by omega) _ j _ (by rfl) own2 ⟨w1.heap.size, 0, none⟩ 1 1 [.string (kt ++ ⟨#[58, 32]⟩ ++ s)] (by rfl) (by rfl) (news_at w1 _ _ rfl) (by simp [Value.oneCell']) (by omega) (by unfold maxLen; omega) (by omega) (by simp; omega) (w1.heap.size + 1) (by simp) ?_; intro g1 c1 w2 hown2 hg2 hat2 _; have hp3 := hp2.grown hg2 (own_ne hst.own (by omega)); have K2 : Kept (fun b => b < w.heap.size) w1 w2 := ((Kept.refl (fun b => b < w.heap.size) w1).alloc (fun b hb => by omega) _).grown hg2 (fun b hb => by simp; omega) (fun k hk hX => own_ne hst.own hX hk.symm); have hR : BL w (keyed (ks.take (j + 1)) (L.take (j + 1))) (.slice (some ⟨g1, 0, none⟩) (j + 1) c1) (j + 1) w2 := ⟨(hbel.trans (hl1.mono hbel.size)).trans (K2.below fun b hb => hb), by rw [HE.out, List.map_append]; exact hown2⟩)
        refine hK.out _ _ (hp3) (fun hHeld => ?_)
        clear hK K
        (try simp only [Act.put, List.setIfInBounds_toArray, List.set_cons_zero, List.set_cons_succ])
        refine take_yes (i := 15) (v := ?_) rfl (by kernel_rfl) (by kernel_rfl) (by kernel_rfl) (fun _ _ _ h => h) (by rfl) ?_ hHeld ?_
        rotate_left
        · (intro w hSw; have z0 := hSw.cell 0; have z1 := hSw.cell 1; have z2 := hSw.lt; simp at z0 z1; have n1 : ¬ 9223372036854775807 < kt.size + 2 := (by omega); have n2 : ¬ 9223372036854775807 < kt.size + 2 + s.size := (by omega); go_simp; (try with_reducible rfl))
        (try simp only [Act.put, List.setIfInBounds_toArray, List.set_cons_zero, List.set_cons_succ])
        refine wpAnyH_done (by kernel_rfl) ?_ _
        clear hst hkey hc hpd hp1 hp2 hp3 own1 own2 hown2 hg2 hat2 hHeld hl1 h1 K2 hbel hdl
        go_wp2
        go_roundw
        case rel => exact ⟨j + 1, by omega, by go_num, hR⟩
        case measure => simp [intOf]; omega
    · obtain rfl : j = n := by omega
      have e1 : keyed (ks.take j) (L.take j) = keyed ks L := by rw [← HKN.out, List.take_length, HKN.out, ← HL.out, List.take_length]
      rw [e1] at hst
      have hkl : (keyed ks L).length = j := by rw [keyed_length ks L (HKN.out.trans HL.out.symm), HL.out]
      obtain ⟨A', c', rfl, hrow', hc'⟩ := rowAt.of_own' (B := fun b => b < wr.heap.size) hst.own fun g _ hg _ => hg
      have hbw := hb.below hbel hg
      have hgw := hbw.lt
      have q1 := hbw.cell 1
      simp at q1
      have hda : dp = .pointer none ∨ ∃ g', dp = ptr g' := by
        rcases hd with ⟨-, h⟩ | ⟨g', s, r, -, h, -⟩
        · exact .inl h
        · exact .inr ⟨g', h⟩
      clear hst hp hrow ht hks hb hb0 e1 hF
      have HKL := Lib.hid hkl
      clear hkl
      by_cases h0 : j = 0
      · have h0' : ¬ 0 < (j : Int) := by omega
        have ea : ∀ p, angled p (keyed ks L) = p := fun p => by simp [angled, HKL.out, h0]
        rcases hd with ⟨rfl, rfl⟩ | ⟨g', s, r, rfl, rfl, hc, hss⟩
        · have e : node 6 ks L [] = ⟨#[111, 98, 106, 101, 99, 116]⟩ := by simp [node, ea]
          have HE := Lib.hid e
          clear e
          clear ea h0
          go_wp2
          go_ret
          exact ⟨by rw [HE.out]; rfl, hbel⟩
        · have e : node 6 ks L [s, r] = ⟨#[111, 98, 106, 101, 99, 116]⟩ ++ ((⟨#[91]⟩ ++ ((s ++ ⟨#[58, 32]⟩) ++ r)) ++ ⟨#[93]⟩) := by simp [node, ea]
          have HE := Lib.hid e
          clear e
          have hc := hc wr hbel
          clear ea h0
          go_wp2_with fail
          refine hc.mono ?_
          rintro e w2 ⟨rfl, hB2⟩
          clear hc
          go_wp2
          go_ret
          exact ⟨by rw [HE.out]; rfl, hbel.trans (hB2.mono hbel.size)⟩
      · have hpos : 0 < j := by omega
        have h0' : 0 < (j : Int) := by omega
        have ea : ∀ p, angled p (keyed ks L) = p ++ ((⟨#[60]⟩ ++ joined (keyed ks L)) ++ ⟨#[62]⟩) := fun p => by simp [angled, HKL.out, h0]
        have hjs : (joined (keyed ks L)).size ≤ 33554432 := Nat.le_trans (joined_size _) hs
        have hjo := join_any (keyed ks L) j A' c' _ wr HKL.out hrow' (fun _ h => h) hc' hs hpos hlen
        have hup : ∀ e w2, StrPost (joined (keyed ks L)) wr e w2 → e = .returned (.string (joined (keyed ks L))) ∧ Below wr.heap.size wr w2 ∧ Blk w2 g 142 #[.slice A j c, dp] := fun e w2 h => ⟨h.1, h.2, hbw.below h.2 hgw⟩
        have HJ := hjo.mono hup
        clear hjo hup
        rcases hd with ⟨rfl, rfl⟩ | ⟨g', s, r, rfl, rfl, hc, hss⟩
        · have e : node 6 ks L [] = ⟨#[111, 98, 106, 101, 99, 116]⟩ ++ ((⟨#[60]⟩ ++ joined (keyed ks L)) ++ ⟨#[62]⟩) := by simp [node, ea]
          have HE := Lib.hid e
          clear e
          clear ea h0
          go_wp2_with fail
          refine HJ.mono ?_
          rintro e w2 ⟨rfl, hB2, hb2⟩
          have hg2 := hb2.lt
          have p1 := hb2.cell 1
          simp at p1
          clear HJ q1
          go_wp2
          go_ret
          exact ⟨by rw [HE.out]; rfl, hbel.trans (hB2.mono hbel.size)⟩
        · have e : node 6 ks L [s, r] = (⟨#[111, 98, 106, 101, 99, 116]⟩ ++ ((⟨#[60]⟩ ++ joined (keyed ks L)) ++ ⟨#[62]⟩)) ++ ((⟨#[91]⟩ ++ ((s ++ ⟨#[58, 32]⟩) ++ r)) ++ ⟨#[93]⟩) := by simp [node, ea]
          have HE := Lib.hid e
          clear e
          clear ea h0
          go_wp2_with fail
          refine HJ.mono ?_
          rintro e w2 ⟨rfl, hB2, hb2⟩
          have hB2' := hbel.trans (hB2.mono hbel.size)
          have hg2 := hb2.lt
          have p1 := hb2.cell 1
          simp at p1
          have hc := hc w2 hB2'
          clear HJ q1
          go_wp2_with fail
          refine hc.mono ?_
          rintro e w3 ⟨rfl, hB3⟩
          clear hc
          go_wp2
          go_ret
          exact ⟨by rw [HE.out]; rfl, hB2'.trans (hB3.mono hB2'.size)⟩

end Go.Proofs.YtpmfjbmfjfhghaaGreat
