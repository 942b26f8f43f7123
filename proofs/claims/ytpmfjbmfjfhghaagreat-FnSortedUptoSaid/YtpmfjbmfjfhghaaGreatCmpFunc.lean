/-
  'slices.CompareFunc' at types, with 'Compare': the order of two lists.
-/
import Derived.Test.YtpmfjbmfjfhghaaGreatPack
import Derived.Deep.DeepMust
namespace Go.Proofs.YtpmfjbmfjfhghaaGreat
open Go.RowKit

def CmpPost (c : Int) (w : World) (e : Ending) (w' : World) : Prop := e = .returned (.int .i64 c) ∧ ∃ n, w' = w.drewN n

theorem cmpK_nil : cmpK ⟨0, .empty⟩ ⟨0, .empty⟩ = 0 := by simp [cmpK, Ky.rank]

theorem cmpL_plain (t t' : Tr) (l l' : List Tr) : cmpL [] (t :: l) [] (t' :: l') = andThen (cmp t t') (cmpL [] l [] l') := by
  simp only [cmpL, List.headD_nil, List.tail_nil, cmpK_nil]
  simp [andThen]

theorem cmpL_drop {l l' : List Tr} {j : Nat} (h : j < l.length) (h' : j < l'.length) : cmpL [] (l.drop j) [] (l'.drop j) = andThen (cmp l[j] l'[j]) (cmpL [] (l.drop (j + 1)) [] (l'.drop (j + 1))) := by
  rw [List.drop_eq_getElem_cons h, List.drop_eq_getElem_cons h', cmpL_plain]

/-- What 'Compare' is asked of a list's parts. -/
def CmpParts (P : Program) (w : World) (F F' : Nat → Prop) (l l' : List Tr) : Prop :=
  ∀ (t t' : Tr) (x y : Value) (q : Nat), t ∈ l → t' ∈ l' → repP w F t x → repP w F' t' y → Calls P 50 #[x, y] (w.drewN q) (CmpPost (cmp t t') (w.drewN q))

set_option maxHeartbeats 1000000 in
set_option maxRecDepth 100000 in
theorem compareFunc_any (l l' : List Tr) (xs ys : List Value) (A A' : Option Addr) (c c' : Nat) (F F' : Nat → Prop) (w : World) (hr : repPs w F l xs) (hx : rowAt w F A xs) (hr' : repPs w F' l' ys) (hy : rowAt w F' A' ys)
    (hl : l.length ≤ 1073741824) (_hl' : l'.length ≤ 1073741824) (hcmp : CmpParts Tryz.prog w F F' l l') :
    Calls Tryz.prog 92 #[.slice A l.length c, .slice A' l'.length c', .func (.func 50) #[] #[]] w (CmpPost (cmpL [] l [] l') w) := by
  go_enter Tryz.func92, Tryz.ntmps92
  go_wp2
  go_loopw [13] (fun i wr => ∃ j : Nat, j ≤ l.length ∧ j ≤ l'.length ∧ i = .int .i64 j ∧ cmpL [] l [] l' = cmpL [] (l.drop j) [] (l'.drop j) ∧ ∃ q, wr = w.drewN q) (fun i _ => l.length - (intOf i).toNat)
  case atStart => exact ⟨0, Nat.zero_le _, Nat.zero_le _, rfl, by simp, 0, rfl⟩
  case round =>
    obtain ⟨j, hj, hj', rfl, hc, q, rfl⟩ := hrel
    have HC := Lib.hid hc
    clear hc
    by_cases hlt : j < l.length
    · obtain ⟨b, off, x, rfl, hb, hrx, q0, hx0⟩ := hr.at_ hx j hlt
      by_cases hlt' : j < l'.length
      · obtain ⟨b', off', y, rfl, hb', hry, q0', hy0⟩ := hr'.at_ hy j hlt'
        have hcall := hcmp l[j] l'[j] x y q (List.getElem_mem hlt) (List.getElem_mem hlt') hrx hry
        have hd := cmpL_drop hlt hlt'
        obtain ⟨d, ed⟩ : ∃ d, d = cmp l[j] l'[j] := ⟨_, rfl⟩
        rw [← ed] at hcall hd
        have HD := Lib.hid hd
        clear hd ed hcmp hx0 hy0
        go_wp2_with fail
        refine hcall.mono ?_
        rintro e w' ⟨rfl, n, rfl⟩
        by_cases h0 : d = 0
        · subst h0
          clear hcall
          go_wp2
          go_roundw
          case rel => exact ⟨j + 1, by omega, by omega, by go_num, by rw [HC.out, HD.out]; simp [andThen], _, rfl⟩
          case measure => simp [intOf]; omega
        · have e0 : (d != 0) = true := by simpa using h0
          have H0 := Lib.hid h0
          clear h0 hcall
          go_wp2
          go_ret
          exact ⟨by rw [HC.out, HD.out]; simp [andThen, H0.out], _, rfl⟩
      · have e' : j = l'.length := by omega
        subst e'
        clear hcmp hx0
        go_wp2
        go_ret
        refine ⟨?_, q, rfl⟩
        rw [HC.out, List.drop_eq_getElem_cons hlt, List.drop_of_length_le (l := l') (Nat.le_refl _)]
        simp [cmpL]
    · have e1 : j = l.length := by omega
      subst e1
      clear hcmp
      by_cases h2 : l.length < l'.length
      · go_wp2
        go_ret
        refine ⟨?_, q, rfl⟩
        rw [HC.out, List.drop_of_length_le (l := l) (Nat.le_refl _), List.drop_eq_getElem_cons h2]
        simp [cmpL]
      · go_wp2
        go_ret
        refine ⟨?_, q, rfl⟩
        rw [HC.out, List.drop_of_length_le (l := l) (Nat.le_refl _), List.drop_of_length_le (l := l') (by omega)]
        simp [cmpL]

end Go.Proofs.YtpmfjbmfjfhghaaGreat
