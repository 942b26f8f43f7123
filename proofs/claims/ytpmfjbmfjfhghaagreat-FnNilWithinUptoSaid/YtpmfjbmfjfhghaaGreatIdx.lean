/-
  'slices.IndexFunc', 'slices.ContainsFunc' over the closure of 'nilRec'.
-/
import Derived.Test.YtpmfjbmfjfhghaaGreatSeen
import Derived.Test.YtpmfjbmfjfhghaaGreatNew
namespace Go.Proofs.YtpmfjbmfjfhghaaGreat
open Go.RowKit

def IdxPost (n : Int) (R : World → Prop) (e : Ending) (w' : World) : Prop := e = .returned (.int .i64 n) ∧ R w'
def BoolR (b : Bool) (R : World → Prop) (e : Ending) (w' : World) : Prop := e = .returned (.bool b) ∧ R w'

/-- What is asked of a closure over a row of types: the first k answer 'false', the next one, if there is one, 'true'. -/
structure RowFn (xs : List Value) (A : Option Addr) (F : Nat → Prop) (cs k : Nat) (R : World → Prop) : Prop where
  row : ∀ W, R W → rowAt W F A xs
  ifc : ∀ x ∈ xs, Ifc x
  len : xs.length ≤ 1048576
  le : k ≤ xs.length
  no : ∀ i (hi : i < xs.length) W, i < k → R W → Calls Tryz.prog 105 #[xs[i], ptr cs] W (BoolR false R)
  yes : ∀ (hk : k < xs.length) W, R W → Calls Tryz.prog 105 #[xs[k], ptr cs] W (BoolR true R)

set_option maxHeartbeats 1000000 in
set_option maxRecDepth 100000 in
theorem indexFunc_any (xs : List Value) (A : Option Addr) (c : Nat) (F : Nat → Prop) (cs k : Nat) (R : World → Prop) (w : World) (h : RowFn xs A F cs k R) (hR : R w) :
    Calls Tryz.prog 114 #[.slice A xs.length c, .func (.func 105) #[] #[ptr cs]] w (IdxPost (if k < xs.length then (k : Int) else -1) R) := by
  obtain ⟨h1, hifc, h2, h3, h4, h5⟩ := h
  have H1 := Lib.hid h1
  have H4 := Lib.hid h4
  have H5 := Lib.hid h5
  have HI := Lib.hid hifc
  have HR := Lib.hid hR
  clear h1 h4 h5 hifc hR
  obtain ⟨N, eN⟩ : ∃ N, N = (if k < xs.length then (k : Int) else -1) := ⟨_, rfl⟩
  rw [← eN]
  have EN := Lib.hid eN
  clear eN
  go_enter Tryz.func114, Tryz.ntmps114
  go_wp2
  go_loopw [8] (fun i wr => ∃ j : Nat, j ≤ k ∧ i = .int .i64 j ∧ Hid (R wr)) (fun i _ => xs.length - (intOf i).toNat)
  case atStart => exact ⟨0, Nat.zero_le _, rfl, HR.out⟩
  case round =>
    obtain ⟨j, hj, rfl, hr⟩ := hrel
    by_cases hlt : j < xs.length
    · have hx : xs[j]? = some xs[j] := by simp [hlt]
      obtain ⟨b, off, rfl, hb, q0⟩ := H1.out wr hr.out j _ hx
      have hif := HI.out _ (List.getElem_mem hlt)
      by_cases hjk : j < k
      · have hc := H4.out j hlt wr hjk hr.out
        obtain ⟨x, ex⟩ : ∃ x, x = xs[j] := ⟨_, rfl⟩
        rw [← ex] at hc q0 hif
        clear ex hx
        rcases hif with rfl | ⟨T, y, rfl⟩
        all_goals
          go_wp2_with fail
          refine hc.mono ?_
          rintro e w1 ⟨rfl, hr1⟩
          have HR1 := Lib.hid hr1
          clear hc hr1
          go_wp2
          go_roundw
          case rel => exact ⟨j + 1, by omega, by go_num, HR1⟩
          case measure => simp [intOf]; omega
      · obtain rfl : k = j := by omega
        have hc := H5.out hlt wr hr.out
        obtain ⟨x, ex⟩ : ∃ x, x = xs[k] := ⟨_, rfl⟩
        rw [← ex] at hc q0 hif
        clear ex hx
        rcases hif with rfl | ⟨T, y, rfl⟩
        all_goals
          go_wp2_with fail
          refine hc.mono ?_
          rintro e w1 ⟨rfl, hr1⟩
          have HR1 := Lib.hid hr1
          clear hc hr1
          go_wp2
          go_ret
          exact ⟨by rw [EN.out, if_pos hlt]; rfl, HR1.out⟩
    · go_wp2
      go_ret
      exact ⟨by rw [EN.out, if_neg (by omega)]; rfl, hr.out⟩

set_option maxHeartbeats 1000000 in
set_option maxRecDepth 100000 in
theorem containsFunc_any (xs : List Value) (A : Option Addr) (c : Nat) (F : Nat → Prop) (cs k : Nat) (R : World → Prop) (w : World) (h : RowFn xs A F cs k R) (hR : R w) :
    Calls Tryz.prog 103 #[.slice A xs.length c, .func (.func 105) #[] #[ptr cs]] w (BoolR (decide (k < xs.length)) R) := by
  have hc := indexFunc_any xs A c F cs k R w h hR
  have hle := h.le
  have hlen := h.len
  have HC := Lib.hid hc
  clear hc h hR
  by_cases hk : k < xs.length
  · rw [if_pos hk] at HC
    rw [decide_eq_true hk]
    have hk0 : decide ((0 : Int) ≤ (k : Int)) = true := decide_eq_true (by omega)
    go_enter Tryz.func103, Tryz.ntmps103
    go_wp2_with fail
    refine HC.out.mono ?_
    rintro e w1 ⟨rfl, hr1⟩
    go_wp2
    go_ret
    exact ⟨by simp, hr1⟩
  · rw [if_neg hk] at HC
    rw [decide_eq_false hk]
    go_enter Tryz.func103, Tryz.ntmps103
    go_wp2_with fail
    refine HC.out.mono ?_
    rintro e w1 ⟨rfl, hr1⟩
    go_wp2
    go_ret
    exact ⟨by simp, hr1⟩

end Go.Proofs.YtpmfjbmfjfhghaaGreat
