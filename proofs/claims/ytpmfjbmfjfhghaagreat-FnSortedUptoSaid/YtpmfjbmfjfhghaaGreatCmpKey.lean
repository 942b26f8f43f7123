/-
  'zzCompare', 'cmpSpKey': the order of keys.
-/
import Derived.Test.YtpmfjbmfjfhghaaGreatOrd
namespace Go.Proofs.YtpmfjbmfjfhghaaGreat
open Go.RowKit

set_option maxRecDepth 100000 in
set_option maxHeartbeats 1000000 in
theorem zzCompare_any (a b : Ky) (w : World) : Calls Tryz.prog 93 #[keyVal a, keyVal b] w (Same (.int .i64 (cmpK a b)) w) := by
  have h1 := zzOrder_any a w
  have h2 := zzOrder_any b w
  rcases keyVal_cases a with ⟨ha, ra⟩ | ⟨ha, ra⟩ | ⟨ha, ra⟩ <;> rcases keyVal_cases b with ⟨hb, rb⟩ | ⟨hb, rb⟩ | ⟨hb, rb⟩
  case inr.inl.inr.inl =>
    have hc : cmpK a b = if (a.kind = 2 ↔ b.kind = 2) then 0 else if a.kind = 2 then 1 else -1 := by simp [cmpK, ra, rb]
    have HC := Lib.hid hc
    rw [ha, ra] at h1
    rw [hb, rb] at h2
    rw [ha, hb]
    clear ha hb ra rb hc
    obtain ⟨x, hx⟩ : ∃ x, x = (a.kind == 2) := ⟨_, rfl⟩
    obtain ⟨y, hy⟩ : ∃ y, y = (b.kind == 2) := ⟨_, rfl⟩
    rw [← hx] at h1 ⊢
    rw [← hy] at h2 ⊢
    have HA := Lib.hid hx
    have HB := Lib.hid hy
    clear hx hy
    cases x <;> cases y
    all_goals
      go_enter Tryz.func93, Tryz.ntmps93
      go_wp2_with fail
      refine h1.mono ?_
      rintro e w' ⟨rfl, rfl⟩
      go_wp2_with fail
      refine h2.mono ?_
      rintro e w' ⟨rfl, rfl⟩
      clear h1 h2
      go_wp2
      go_ret
      have ha := HA.out
      have hb := HB.out
      refine ⟨?_, rfl⟩
      rw [HC.out]
      simp at ha hb
      simp [ha, hb]
  case inr.inr.inr.inr =>
    have hc : cmpK a b = cmpB a.text b.text := by simp [cmpK, ra, rb]
    have HC := Lib.hid hc
    rw [ha, ra] at h1
    rw [hb, rb] at h2
    rw [ha, hb]
    clear ha hb ra rb hc
    by_cases ka : a.text.toList = b.text.toList
    · have HA := Lib.hid ka
      have e1 : (a.text.toList == b.text.toList) = true := by simpa using ka
      clear ka
      go_enter Tryz.func93, Tryz.ntmps93
      go_wp2_with fail
      refine h1.mono ?_
      rintro e w' ⟨rfl, rfl⟩
      go_wp2_with fail
      refine h2.mono ?_
      rintro e w' ⟨rfl, rfl⟩
      clear h1 h2
      go_wp2
      go_ret
      exact ⟨by rw [HC.out]; simp [cmpB, HA.out], rfl⟩
    · have HA := Lib.hid ka
      have e1 : (a.text.toList == b.text.toList) = false := by simpa using ka
      clear ka
      cases e2 : Op.bytesLess a.text.toList b.text.toList
      all_goals
        go_enter Tryz.func93, Tryz.ntmps93
        go_wp2_with fail
        refine h1.mono ?_
        rintro e w' ⟨rfl, rfl⟩
        go_wp2_with fail
        refine h2.mono ?_
        rintro e w' ⟨rfl, rfl⟩
        clear h1 h2
        go_wp2
        go_ret
        exact ⟨by rw [HC.out]; simp [cmpB, HA.out, e2], rfl⟩
  all_goals
    have HC := Lib.hid (show cmpK a b = _ by simp [cmpK, ra, rb]; rfl)
    rw [ha, ra] at h1
    rw [hb, rb] at h2
    rw [ha, hb]
    clear ha hb ra rb
    go_enter Tryz.func93, Tryz.ntmps93
    go_wp2_with fail
    refine h1.mono ?_
    rintro e w' ⟨rfl, rfl⟩
    go_wp2_with fail
    refine h2.mono ?_
    rintro e w' ⟨rfl, rfl⟩
    clear h1 h2
    go_wp2
    go_ret
    exact ⟨by rw [HC.out]; rfl, rfl⟩

end Go.Proofs.YtpmfjbmfjfhghaaGreat
