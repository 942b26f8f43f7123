/-
  'unwrap', 'unwrapRecursive', 'typeOrder', 'zzOrder', 'zzCompare': they only look at what they are handed.
-/
import Derived.Test.YtpmfjbmfjfhghaaGreatMem
import Derived.Test.YtpmfjbmfjfhghaaGreatAssert
import Derived.Lib.Hide
namespace Go.Proofs.YtpmfjbmfjfhghaaGreat
open Go.RowKit

/-- The dynamic types of the package's types, with their places in the order. -/
def Dyn (T : TypeId) (o : Int) : Prop :=
  (T = 94 ∧ o = 0) ∨ (T = 96 ∧ o = 1) ∨ (T = 98 ∧ o = 2) ∨ (T = 100 ∧ o = 3) ∨ (T = 102 ∧ o = 4) ∨
  (T = 109 ∧ o = 5) ∨ (T = 113 ∧ o = 6) ∨ (T = 90 ∧ o = 7) ∨ (T = 75 ∧ o = 8)

def Same (v : Value) (w : World) (e : Ending) (w' : World) : Prop := e = .returned v ∧ w = w'

theorem unwrap_any (T : TypeId) (o : Int) (x : Value) (w : World) (h : Dyn T o) : Calls Tryz.prog 60 #[.iface T x] w (Same (.iface T x) w) := by
  rcases h with ⟨rfl, rfl⟩ | ⟨rfl, rfl⟩ | ⟨rfl, rfl⟩ | ⟨rfl, rfl⟩ | ⟨rfl, rfl⟩ | ⟨rfl, rfl⟩ | ⟨rfl, rfl⟩ | ⟨rfl, rfl⟩ | ⟨rfl, rfl⟩
  all_goals
    go_enter Tryz.func60, Tryz.ntmps60
    go_wp2
    go_ret
    exact ⟨rfl, rfl⟩

theorem unwrap_nil (w : World) : Calls Tryz.prog 60 #[.nilIface] w (Same .nilIface w) := by
  go_enter Tryz.func60, Tryz.ntmps60
  go_wp2
  go_ret
  exact ⟨rfl, rfl⟩

theorem unwrapRec_any (T : TypeId) (o : Int) (x : Value) (w : World) (h : Dyn T o) : Calls Tryz.prog 90 #[.iface T x] w (Same (.iface T x) w) := by
  rcases h with ⟨rfl, rfl⟩ | ⟨rfl, rfl⟩ | ⟨rfl, rfl⟩ | ⟨rfl, rfl⟩ | ⟨rfl, rfl⟩ | ⟨rfl, rfl⟩ | ⟨rfl, rfl⟩ | ⟨rfl, rfl⟩ | ⟨rfl, rfl⟩
  all_goals
    go_enter Tryz.func90, Tryz.ntmps90
    go_wp2
    go_ret
    exact ⟨rfl, rfl⟩

theorem unwrapRec_nil (w : World) : Calls Tryz.prog 90 #[.nilIface] w (Same .nilIface w) := by
  go_enter Tryz.func90, Tryz.ntmps90
  go_wp2
  go_ret
  exact ⟨rfl, rfl⟩

set_option maxRecDepth 100000 in
theorem typeOrder_any (T : TypeId) (o : Int) (x : Value) (w : World) (h : Dyn T o) : Calls Tryz.prog 91 #[.iface T x] w (Same (.int .i64 o) w) := by
  have h1 := fun W => unwrap_any T o x W h
  have h2 := fun W => unwrapRec_any T o x W h
  rcases h with ⟨rfl, rfl⟩ | ⟨rfl, rfl⟩ | ⟨rfl, rfl⟩ | ⟨rfl, rfl⟩ | ⟨rfl, rfl⟩ | ⟨rfl, rfl⟩ | ⟨rfl, rfl⟩ | ⟨rfl, rfl⟩ | ⟨rfl, rfl⟩
  all_goals
    go_enter Tryz.func91, Tryz.ntmps91
    go_wp2_with (first | (go_at_call 60; refine (h1 _).mono ?_; rintro e w' ⟨rfl, rfl⟩) | (go_at_call 90; refine (h2 _).mono ?_; rintro e w' ⟨rfl, rfl⟩))
    go_ret
    exact ⟨rfl, rfl⟩

/-- A key as the package takes it. -/
def keyVal (k : Ky) : Value := if k.kind = 1 ∨ k.kind = 2 then .iface 4 (.bool (k.kind == 2)) else if k.kind = 4 then .iface 9 (.string k.text) else .nilIface

theorem keyVal_cases (k : Ky) : (keyVal k = .nilIface ∧ k.rank = 0) ∨ (keyVal k = .iface 4 (.bool (k.kind == 2)) ∧ k.rank = 1) ∨ (keyVal k = .iface 9 (.string k.text) ∧ k.rank = 3) := by
  unfold keyVal Ky.rank
  split
  · exact .inr (.inl ⟨rfl, rfl⟩)
  · split
    · exact .inr (.inr ⟨rfl, rfl⟩)
    · exact .inl ⟨rfl, rfl⟩

theorem zzOrder_any (k : Ky) (w : World) : Calls Tryz.prog 108 #[keyVal k] w (Same (.int .i64 k.rank) w) := by
  rcases keyVal_cases k with ⟨h, r⟩ | ⟨h, r⟩ | ⟨h, r⟩
  all_goals
    rw [h, r]
    clear h r
    go_enter Tryz.func108, Tryz.ntmps108
    go_wp2
    go_ret
    exact ⟨rfl, rfl⟩

end Go.Proofs.YtpmfjbmfjfhghaaGreat
