/-
  'impl.key', 'cmpSpKey', and the package's constructors of types.
-/
import Derived.Test.YtpmfjbmfjfhghaaGreatCmpAny
namespace Go.Proofs.YtpmfjbmfjfhghaaGreat
open Go.RowKit

set_option maxRecDepth 100000 in
theorem key_any (k : Ky) (w : World) : Calls Tryz.prog 69 #[.agg #[.int .i64 k.kind, .string k.text]] w fun e w' => e = .returned (keyVal k) ∧ Below w.heap.size w w' := by
  by_cases h1 : k.kind = 1
  · have hv : keyVal k = .iface 4 (.bool false) := by simp [keyVal, h1]
    rw [hv, h1]
    clear h1 hv
    go_enter Tryz.func69, Tryz.ntmps69
    go_wp2
    go_ret
    exact ⟨rfl, (Below.refl _ _).alloc (Nat.le_refl _) _⟩
  · by_cases h2 : k.kind = 2
    · have hv : keyVal k = .iface 4 (.bool true) := by simp [keyVal, h2]
      rw [hv, h2]
      clear h1 h2 hv
      go_enter Tryz.func69, Tryz.ntmps69
      go_wp2
      go_ret
      exact ⟨rfl, (Below.refl _ _).alloc (Nat.le_refl _) _⟩
    · by_cases h4 : k.kind = 4
      · have hv : keyVal k = .iface 9 (.string k.text) := by simp [keyVal, h4]
        rw [hv, h4]
        clear h1 h2 h4 hv
        go_enter Tryz.func69, Tryz.ntmps69
        go_wp2
        go_ret
        exact ⟨rfl, (Below.refl _ _).alloc (Nat.le_refl _) _⟩
      · have hv : keyVal k = .nilIface := by simp [keyVal, h1, h2, h4]
        rw [hv]
        clear hv
        go_enter Tryz.func69, Tryz.ntmps69
        go_wp2
        go_ret
        exact ⟨rfl, (Below.refl _ _).alloc (Nat.le_refl _) _⟩

theorem newNull_any (w : World) : Calls Tryz.prog 62 #[] w fun e w' => e = .returned (.agg #[]) ∧ Below w.heap.size w w' := by
  go_enter Tryz.func62, Tryz.ntmps62
  go_wp2
  refine bodyPost_ret (v := .agg #[]) (by simp [results, Tryz.results62, go_sem]) rfl ?_
  exact ⟨rfl, (Below.refl _ _).alloc (Nat.le_refl _) _⟩

theorem newBoolean_any (w : World) : Calls Tryz.prog 63 #[] w fun e w' => e = .returned (.agg #[]) ∧ Below w.heap.size w w' := by
  go_enter Tryz.func63, Tryz.ntmps63
  go_wp2
  refine bodyPost_ret (v := .agg #[]) (by simp [results, Tryz.results63, go_sem]) rfl ?_
  exact ⟨rfl, (Below.refl _ _).alloc (Nat.le_refl _) _⟩

theorem newNumber_any (w : World) : Calls Tryz.prog 64 #[] w fun e w' => e = .returned (.agg #[]) ∧ Below w.heap.size w w' := by
  go_enter Tryz.func64, Tryz.ntmps64
  go_wp2
  refine bodyPost_ret (v := .agg #[]) (by simp [results, Tryz.results64, go_sem]) rfl ?_
  exact ⟨rfl, (Below.refl _ _).alloc (Nat.le_refl _) _⟩

theorem newString_any (w : World) : Calls Tryz.prog 65 #[] w fun e w' => e = .returned (.agg #[]) ∧ Below w.heap.size w w' := by
  go_enter Tryz.func65, Tryz.ntmps65
  go_wp2
  refine bodyPost_ret (v := .agg #[]) (by simp [results, Tryz.results65, go_sem]) rfl ?_
  exact ⟨rfl, (Below.refl _ _).alloc (Nat.le_refl _) _⟩

/-- A value of an interface type. -/
def Ifc (v : Value) : Prop := v = .nilIface ∨ ∃ T x, v = .iface T x

theorem keyVal_ifc (k : Ky) : Ifc (keyVal k) := by
  rcases keyVal_cases k with ⟨h, _⟩ | ⟨h, _⟩ | ⟨h, _⟩
  · exact .inl h
  · exact .inr ⟨_, _, h⟩
  · exact .inr ⟨_, _, h⟩
theorem repP.ifc {w : World} {F : Nat → Prop} {t : Tr} {v : Value} (h : repP w F t v) : Ifc v := by
  obtain ⟨T, x, rfl, _⟩ := h.dyn
  exact .inr ⟨T, x, rfl⟩

/-- A new block with just these cells. -/
def NewAt (w : World) (t : TypeId) (cs : Array Value) (e : Ending) (w' : World) : Prop := e = .returned (ptr w.heap.size) ∧ w' = w.alloc (.cells cs t)

theorem newStatic_any (k v : Value) (w : World) (hk : Ifc k) (hv : Ifc v) : Calls Tryz.prog 68 #[k, v] w (NewAt w 129 #[k, v]) := by
  rcases hk with rfl | ⟨T, x, rfl⟩ <;> rcases hv with rfl | ⟨T', x', rfl⟩
  all_goals
    go_enter Tryz.func68, Tryz.ntmps68
    go_wp2
    go_ret
    exact ⟨rfl, rfl⟩

theorem newDynamic_any (k v : Value) (w : World) (hk : Ifc k) (hv : Ifc v) : Calls Tryz.prog 71 #[k, v] w (NewAt w 132 #[k, v]) := by
  rcases hk with rfl | ⟨T, x, rfl⟩ <;> rcases hv with rfl | ⟨T', x', rfl⟩
  all_goals
    go_enter Tryz.func71, Tryz.ntmps71
    go_wp2
    go_ret
    exact ⟨rfl, rfl⟩

theorem newSet_any (v : Value) (w : World) (hv : Ifc v) : Calls Tryz.prog 72 #[v] w (NewAt w 145 #[v]) := by
  rcases hv with rfl | ⟨T', x', rfl⟩
  all_goals
    go_enter Tryz.func72, Tryz.ntmps72
    go_wp2
    go_ret
    exact ⟨rfl, rfl⟩

theorem newArray_any (A : Option Addr) (n c : Nat) (v : Value) (w : World) (hv : Ifc v) : Calls Tryz.prog 66 #[.slice A n c, v] w (NewAt w 139 #[.slice A n c, v]) := by
  rcases hv with rfl | ⟨T', x', rfl⟩
  all_goals
    go_enter Tryz.func66, Tryz.ntmps66
    go_wp2
    go_ret
    exact ⟨rfl, rfl⟩

set_option maxRecDepth 100000 in
/-- The order of static properties. -/
theorem cmpSpKey_any (g g' : Nat) (k k' : Ky) (v v' : Value) (w : World) (h : Blk w g 129 #[keyVal k, v]) (h' : Blk w g' 129 #[keyVal k', v']) :
    Calls Tryz.prog 101 #[ptr g, ptr g'] w (CmpPost (cmpK k k') w) := by
  have c0 := h.cell 0
  have c0' := h'.cell 0
  simp at c0 c0'
  have hc := fun W => zzCompare_any k k' W
  obtain ⟨D, hD⟩ : ∃ D, D = cmpK k k' := ⟨_, rfl⟩
  obtain ⟨a, ha⟩ : ∃ a, a = keyVal k := ⟨_, rfl⟩
  obtain ⟨b, hb⟩ : ∃ b, b = keyVal k' := ⟨_, rfl⟩
  rw [← hD]
  rw [← hD, ← ha, ← hb] at hc
  rw [← ha] at c0
  rw [← hb] at c0'
  have HC := Lib.hid hc
  clear hc hD ha hb h h'
  go_enter Tryz.func101, Tryz.ntmps101
  go_wp2_with fail
  go_quiet ((go_at_call 93; go_must (exact Same.quiet (HC.out _))))
  go_wp2
  go_ret
  exact ⟨rfl, _, rfl⟩

end Go.Proofs.YtpmfjbmfjfhghaaGreat
