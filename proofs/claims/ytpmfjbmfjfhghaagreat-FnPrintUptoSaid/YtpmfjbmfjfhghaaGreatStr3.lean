/-
  The texts of types (3): 'String' of arrays.
-/
import Derived.Test.YtpmfjbmfjfhghaaGreatStr2
namespace Go.Proofs.YtpmfjbmfjfhghaaGreat
open Go.RowKit Go.Proofs

/-- A row of texts. -/
def BufPost (L : List ByteArray) (n : Nat) (w : World) (e : Ending) (w' : World) : Prop :=
  ∃ A c, e = .returned (.slice A n c) ∧ n ≤ c ∧ rowAt w' (fun b => b < w'.heap.size) A (L.map Value.string) ∧ Below w.heap.size w w'

set_option maxHeartbeats 1000000 in
set_option maxRecDepth 100000 in
theorem zzMapS_empty (A : Option Addr) (c : Nat) (w : World) :
    Calls Tryz.prog 165 #[.slice A 0 c, .func (.func 53) #[] #[]] w (BufPost [] 0 w) := by
  have hsn := slice_nil
  cases A with
  | none =>
    go_enter Tryz.func165, Tryz.ntmps165
    go_wp2
    go_ret
    exact ⟨none, 0, rfl, Nat.le_refl _, rowAt.nil, Below.refl _ _⟩
  | some a =>
    obtain ⟨i, hi, ge⟩ := Option.map_eq_some_iff.1 infoS
    have hi3 : i.zero = some _ := congrArg (fun x => x.1) ge
    have hi1 : i.size = 1 := congrArg (fun x => x.2.1) ge
    have hi2 : i.bytes = 16 := congrArg (fun x => x.2.2) ge
    clear ge
    have hmk := run_makeSlice (P := Tryz.prog) (w := w) 26 9 i (.string ⟨#[]⟩) Tryz.underlying26 hi hi3 .i64 .i64 0 0 (by omega) (by omega) (by rw [hi1]; decide) (by rw [hi2]; decide) (by omega)
    obtain ⟨Z, hZ⟩ : ∃ Z : Array Value, Z = madeCells (Value.string ⟨#[]⟩).cells (Int.toNat 0 * i.size) := ⟨_, rfl⟩
    rw [← hZ] at hmk
    clear hZ hi hi1 hi2 hi3
    have hbel : Below w.heap.size w (w.alloc (.cells Z 9)) := (Below.refl _ _).alloc (Nat.le_refl _) _
    go_enter Tryz.func165, Tryz.ntmps165
    go_wp2
    go_loopw [15] (fun i wr => i = .int .i64 0 ∧ Below w.heap.size w wr) (fun i _ => 0)
    case atStart => exact ⟨rfl, hbel⟩
    case round =>
      obtain ⟨rfl, hb⟩ := hrel
      go_wp2
      go_ret
      exact ⟨some ⟨w.heap.size, 0, none⟩, 0, rfl, Nat.le_refl _, rowAt.nil, hb⟩

theorem zzMapS_any (xs : List Value) (L : List ByteArray) (A : Option Addr) (c : Nat) (F : Nat → Prop) (w : World) (hx : rowAt w F A xs) (hF : ∀ b, F b → b < w.heap.size) (hL : L.length = xs.length) (ht : ∀ i (hi : i < xs.length), SOk (L[i]'(by omega)) xs[i] w) (hlen : xs.length ≤ 1048576) :
    Calls Tryz.prog 165 #[.slice A xs.length c, .func (.func 53) #[] #[]] w (BufPost L xs.length w) := by
  by_cases h0 : xs.length = 0
  · obtain rfl : xs = [] := List.eq_nil_of_length_eq_zero h0
    obtain rfl : L = [] := List.eq_nil_of_length_eq_zero (by omega)
    exact zzMapS_empty A c w
  · obtain ⟨b, off, rfl, -, -⟩ := hx 0 xs[0] (List.getElem?_eq_getElem (by omega))
    refine (zzMapS_some xs L b off c F w hx hF hL ht hlen).mono ?_
    rintro e w' ⟨rfl, hb, hB⟩
    exact ⟨_, _, rfl, Nat.le_refl _, strs_row hb, hB⟩

set_option maxHeartbeats 4000000 in
set_option maxRecDepth 100000 in
theorem str_array (xs : List Value) (L M : List ByteArray) (g : Nat) (A : Option Addr) (c : Nat) (dyn : Value) (F : Nat → Prop) (w : World) (hb : Blk w g 139 #[.slice A xs.length c, dyn]) (hx : rowAt w F A xs) (hF : ∀ b, F b → b < w.heap.size) (hL : L.length = xs.length) (ht : ∀ i (hi : i < xs.length), SOk (L[i]'(by omega)) xs[i] w) (hlen : xs.length ≤ 1048576) (hs : sumS L ≤ 33554432)
    (hd : (M = [] ∧ dyn = .nilIface) ∨ ∃ s, M = [s] ∧ MOk s dyn w ∧ s.size ≤ 33554432) :
    Calls Tryz.prog 184 #[ptr g] w (StrPost (node 5 [] L M) w) := by
  have hz := zzMapS_any xs L A c F w hx hF hL ht hlen
  have hi : Ifc dyn := by
    rcases hd with ⟨-, rfl⟩ | ⟨s, -, ⟨T, x, f, rfl, -⟩, -⟩
    · exact .inl rfl
    · exact .inr ⟨T, x, rfl⟩
  have q0 := hb.cell 0
  have hg := hb.lt
  simp at q0
  clear hx ht
  go_enter Tryz.func184, Tryz.ntmps184
  go_wp2_with fail
  refine hz.mono ?_
  rintro e w1 ⟨A', c', rfl, hc', hrow, hB1⟩
  clear hz q0
  have hb1 := hb.below hB1 hg
  have hg1 := hb1.lt
  have q1 := hb1.cell 1
  simp at q1
  by_cases h0 : xs.length = 0
  · have h0' : ¬ 0 < (xs.length : Int) := by omega
    have ea : ∀ p, angled p L = p := fun p => by simp [angled, hL, h0]
    rcases hd with ⟨rfl, rfl⟩ | ⟨s, rfl, ⟨T, x, f, rfl, hf, hc⟩, hss⟩
    · have e : node 5 [] L [] = ⟨#[97, 114, 114, 97, 121]⟩ := by simp [node, ea]
      have HE := Lib.hid e
      clear e ea hL h0
      go_wp2
      go_ret
      exact ⟨by rw [HE.out]; rfl, hB1⟩
    · have e : node 5 [] L [s] = ⟨#[97, 114, 114, 97, 121]⟩ ++ ((⟨#[91]⟩ ++ s) ++ ⟨#[93]⟩) := by simp [node, ea]
      have HE := Lib.hid e
      have hc := hc w1 hB1
      clear e ea hL h0
      rcases hf with ⟨rfl, rfl⟩ | ⟨rfl, rfl⟩ | ⟨rfl, rfl⟩ | ⟨rfl, rfl⟩ | ⟨rfl, rfl⟩ | ⟨rfl, rfl⟩ | ⟨rfl, rfl⟩ | ⟨rfl, rfl⟩
      all_goals
        go_wp2_with fail
        refine hc.mono ?_
        rintro e w2 ⟨rfl, hB2⟩
        clear hc
        go_wp2
        go_ret
        exact ⟨by rw [HE.out]; rfl, hB1.trans (hB2.mono hB1.size)⟩
  · have hpos : 0 < xs.length := by omega
    have h0' : 0 < (xs.length : Int) := by omega
    have ea : ∀ p, angled p L = p ++ ((⟨#[60]⟩ ++ joined L) ++ ⟨#[62]⟩) := fun p => by simp [angled, hL, h0]
    have hjs : (joined L).size ≤ 33554432 := Nat.le_trans (joined_size L) hs
    have hjo := join_any L xs.length A' c' _ w1 hL hrow (fun _ h => h) hc' hs hpos hlen
    have hup : ∀ e w2, StrPost (joined L) w1 e w2 → e = .returned (.string (joined L)) ∧ Below w1.heap.size w1 w2 ∧ Blk w2 g 139 #[.slice A xs.length c, dyn] := fun e w2 h => ⟨h.1, h.2, hb1.below h.2 hg1⟩
    have HJ : Calls Tryz.prog 166 #[.slice A' xs.length c', .string ⟨#[44, 32]⟩] w1 fun e w2 => e = .returned (.string (joined L)) ∧ Below w1.heap.size w1 w2 ∧ Blk w2 g 139 #[.slice A xs.length c, dyn] := hjo.mono hup
    clear hjo hup
    rcases hd with ⟨rfl, rfl⟩ | ⟨s, rfl, ⟨T, x, f, rfl, hf, hc⟩, hss⟩
    · have e : node 5 [] L [] = ⟨#[97, 114, 114, 97, 121]⟩ ++ ((⟨#[60]⟩ ++ joined L) ++ ⟨#[62]⟩) := by simp [node, ea]
      have HE := Lib.hid e
      clear e ea hL h0
      go_wp2_with fail
      refine HJ.mono ?_
      rintro e w2 ⟨rfl, hB2, hb2⟩
      have hg2 := hb2.lt
      have p1 := hb2.cell 1
      simp at p1
      clear HJ q1
      go_wp2
      go_ret
      exact ⟨by rw [HE.out]; rfl, hB1.trans (hB2.mono hB1.size)⟩
    · have e : node 5 [] L [s] = (⟨#[97, 114, 114, 97, 121]⟩ ++ ((⟨#[60]⟩ ++ joined L) ++ ⟨#[62]⟩)) ++ ((⟨#[91]⟩ ++ s) ++ ⟨#[93]⟩) := by simp [node, ea]
      have HE := Lib.hid e
      clear e ea hL h0
      go_wp2_with fail
      refine HJ.mono ?_
      rintro e w2 ⟨rfl, hB2, hb2⟩
      have hB2' := hB1.trans (hB2.mono hB1.size)
      have hg2 := hb2.lt
      have p1 := hb2.cell 1
      simp at p1
      have hc := hc w2 hB2'
      clear HJ q1
      rcases hf with ⟨rfl, rfl⟩ | ⟨rfl, rfl⟩ | ⟨rfl, rfl⟩ | ⟨rfl, rfl⟩ | ⟨rfl, rfl⟩ | ⟨rfl, rfl⟩ | ⟨rfl, rfl⟩ | ⟨rfl, rfl⟩
      all_goals
        go_wp2_with fail
        refine hc.mono ?_
        rintro e w3 ⟨rfl, hB3⟩
        clear hc
        go_wp2
        go_ret
        exact ⟨by rw [HE.out]; rfl, hB2'.trans (hB3.mono hB2'.size)⟩

end Go.Proofs.YtpmfjbmfjfhghaaGreat
