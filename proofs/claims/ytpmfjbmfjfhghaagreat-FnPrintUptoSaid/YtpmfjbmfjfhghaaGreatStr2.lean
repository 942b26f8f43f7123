/-
  The texts of types (2): 'String' of any types, sets, arrays.
-/
import Derived.Test.YtpmfjbmfjfhghaaGreatStr
import Derived.Test.YtpmfjbmfjfhghaaGreatLay2
namespace Go.Proofs.YtpmfjbmfjfhghaaGreat
open Go.RowKit Go.Proofs

theorem join_any (L : List ByteArray) (n : Nat) (A : Option Addr) (c : Nat) (F : Nat → Prop) (w : World) (hn : L.length = n) (hx : rowAt w F A (L.map Value.string)) (hF : ∀ b, F b → b < w.heap.size) (hc : n ≤ c) (hlen : sumS L ≤ 33554432) (h0 : 0 < n) (hN : n ≤ 1048576) :
    Calls Tryz.prog 166 #[.slice A n c, .string ⟨#[44, 32]⟩] w (StrPost (joined L) w) := by
  subst hn
  have hj := join_size L
  obtain ⟨b, off, rfl, hb, _⟩ := hx 0 _ (by rw [List.getElem?_map, List.getElem?_eq_getElem h0]; rfl)
  refine (Any.strings_Join (P := Tryz.prog) Tryz.lays156 Tryz.Builder_Extra_156 b off c L ⟨#[44, 32]⟩ w ?_ (hF b hb) (by omega) hc (Nat.le_trans (show _ ≤ sumS L from hj) (by omega))).mono ?_
  · intro j x hj
    obtain ⟨b', off', e, _, h⟩ := hx j (.string x) (by rw [List.getElem?_map, hj]; rfl)
    injection e with e
    injection e with e1 e2
    subst e1 e2
    exact h
  · rintro e w' ⟨rfl, h⟩
    exact ⟨rfl, h⟩

theorem strs_row {w : World} {g : Nat} {L : List ByteArray} (h : Blk w g 9 (L.map Value.string).toArray) : rowAt w (fun b => b < w.heap.size) (some ⟨g, 0, none⟩) (L.map Value.string) := fun j u hu => ⟨g, 0, rfl, h.lt, by rw [h.cell]; simpa using hu⟩

set_option maxHeartbeats 1000000 in
set_option maxRecDepth 100000 in
theorem str_any8 (xs : List Value) (L : List ByteArray) (A : Option Addr) (c : Nat) (F : Nat → Prop) (w : World) (hx : rowAt w F A xs) (hF : ∀ b, F b → b < w.heap.size) (hL : L.length = xs.length) (ht : ∀ i (hi : i < xs.length), SOk (L[i]'(by omega)) xs[i] w) (hlen : xs.length ≤ 1048576) (hs : sumS L ≤ 33554432) :
    Calls Tryz.prog 174 #[.slice A xs.length c] w (StrPost (node 8 [] L []) w) := by
  by_cases h0 : xs.length = 0
  · have e : node 8 [] L [] = ⟨#[97, 110, 121]⟩ := by simp [node, hL, h0]
    have h0' : (xs.length : Int) = 0 := by omega
    rw [e]
    obtain rfl : xs = [] := List.eq_nil_of_length_eq_zero h0
    clear e hx ht hL hs h0 h0'
    go_enter Tryz.func174, Tryz.ntmps174
    go_wp2
    go_ret
    exact ⟨rfl, Below.refl _ _⟩
  · have e : node 8 [] L [] = (⟨#[97, 110, 121, 60]⟩ ++ joined L) ++ ⟨#[62]⟩ := by simp [node, hL, h0]
    have hj := joined_size L
    have hj1 : (joined L).size ≤ 33554432 := by omega
    rw [e]
    obtain ⟨b, off, rfl, -, -⟩ := hx 0 xs[0] (List.getElem?_eq_getElem (by omega))
    have hz := zzMapS_some xs L b off c F w hx hF hL ht hlen
    have hpos : 0 < xs.length := by omega
    have HL := Lib.hid hL
    clear e hx ht hL h0 hj
    go_enter Tryz.func174, Tryz.ntmps174
    go_wp2_with fail
    refine hz.mono ?_
    rintro e w1 ⟨rfl, hb1, hB1⟩
    clear hz
    have hjo := join_any L xs.length _ xs.length _ w1 HL.out (strs_row hb1) (fun _ h => h) (Nat.le_refl _) hs hpos hlen
    go_wp2_with fail
    refine hjo.mono ?_
    rintro e w2 ⟨rfl, hB2⟩
    clear hjo hb1
    go_wp2
    go_ret
    exact ⟨rfl, hB1.trans (hB2.mono hB1.size)⟩

set_option maxRecDepth 100000 in
theorem str_set (s : ByteArray) (g : Nat) (x : Value) (w : World) (hb : Blk w g 145 #[x]) (hx : SOk s x w) (hs : s.size ≤ 33554432) :
    Calls Tryz.prog 191 #[ptr g] w (StrPost (node 7 [] [s] []) w) := by
  have e : node 7 [] [s] [] = (⟨#[115, 101, 116, 91]⟩ ++ s) ++ ⟨#[93]⟩ := by simp [node]
  rw [e]
  obtain ⟨⟨T, y, rfl⟩, hc⟩ := hx
  have hc := hc w (Below.refl _ _)
  have q0 := hb.cell 0
  have hg := hb.lt
  simp at q0
  clear e
  go_enter Tryz.func191, Tryz.ntmps191
  go_wp2_with fail
  refine hc.mono ?_
  rintro e w1 ⟨rfl, hB1⟩
  clear hc
  go_wp2
  go_ret
  exact ⟨rfl, hB1⟩

end Go.Proofs.YtpmfjbmfjfhghaaGreat
