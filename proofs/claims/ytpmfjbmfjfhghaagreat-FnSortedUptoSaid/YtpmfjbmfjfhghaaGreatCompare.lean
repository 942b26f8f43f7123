/-
  'Compare' computes the order of trees.
-/
import Derived.Test.YtpmfjbmfjfhghaaGreatCmpFunc
import Derived.Test.YtpmfjbmfjfhghaaGreatCmpKey
import Derived.Deep.QuietTactic
import Derived.BigQuiet
import Derived.Deep.DeepCutAuto
namespace Go.Proofs.YtpmfjbmfjfhghaaGreat
open Go.RowKit

theorem CmpPost.quiet {P : Program} {f : FuncId} {args : Array Value} {w : World} {n : Nat} {C : Int} (h : Calls P f args (w.drewN n) (CmpPost C (w.drewN n))) : Calls P f args (w.drewN n) fun e w'' => e = .returned (.int .i64 C) ∧ ∃ m, w'' = w.drewN m :=
  h.mono fun _ _ ⟨he, m, hm⟩ => ⟨he, n + m, by rw [hm, World.drewN_drewN]⟩

theorem CmpPost.quiet2 {P : Program} {f : FuncId} {args : Array Value} {w : World} {a n : Nat} {C : Int} (h : Calls P f args (w.drewN (a + n)) (CmpPost C (w.drewN (a + n)))) : Calls P f args (w.drewN (a + n)) fun e w'' => e = .returned (.int .i64 C) ∧ ∃ m, w'' = w.drewN (a + m) :=
  h.mono fun _ _ ⟨he, m, hm⟩ => ⟨he, n + m, by rw [hm, World.drewN_drewN, Nat.add_assoc]⟩

/-- The calls at Compare's head. -/
structure CmpHead (v : Value) (o : Int) : Prop where
  unwrap : ∀ W, Calls Tryz.prog 60 #[v] W (Same v W)
  rec_ : ∀ W, Calls Tryz.prog 90 #[v] W (Same v W)
  ord : ∀ W, Calls Tryz.prog 91 #[v] W (Same (.int .i64 o) W)

theorem repP.head {w : World} {F : Nat → Prop} {t : Tr} {v : Value} (h : repP w F t v) : CmpHead v (t.kind - 1) := by
  obtain ⟨T, x, rfl, hd⟩ := h.dyn
  exact ⟨fun W => unwrap_any T _ x W hd, fun W => unwrapRec_any T _ x W hd, fun W => typeOrder_any T _ x W hd⟩

set_option maxHeartbeats 1000000 in
set_option maxRecDepth 100000 in
/-- Two kinds. -/
theorem compare_ne (k k' : Int) (v v' : Value) (w : World) (h : CmpHead v (k - 1)) (h' : CmpHead v' (k' - 1)) (hne : k ≠ k') :
    Calls Tryz.prog 50 #[v, v'] w (Same (.int .i64 (if k' < k then 1 else -1)) w) := by
  obtain ⟨h1, h2, h3⟩ := h
  obtain ⟨h1', h2', h3'⟩ := h'
  have H1 := Lib.hid h1
  have H2 := Lib.hid h2
  have H3 := Lib.hid h3
  have H1' := Lib.hid h1'
  have H2' := Lib.hid h2'
  have H3' := Lib.hid h3'
  clear h1 h2 h3 h1' h2' h3'
  by_cases hlt : k' < k
  all_goals
    go_enter Tryz.func50, Tryz.ntmps50
    go_wp2_with fail
    refine (H1.out _).mono ?_
    rintro e w' ⟨rfl, rfl⟩
    go_wp2_with fail
    refine (H2.out _).mono ?_
    rintro e w' ⟨rfl, rfl⟩
    go_wp2_with fail
    refine (H1'.out _).mono ?_
    rintro e w' ⟨rfl, rfl⟩
    go_wp2_with fail
    refine (H2'.out _).mono ?_
    rintro e w' ⟨rfl, rfl⟩
    go_wp2_with fail
    refine (H3.out _).mono ?_
    rintro e w' ⟨rfl, rfl⟩
    go_wp2_with fail
    refine (H3'.out _).mono ?_
    rintro e w' ⟨rfl, rfl⟩
    go_wp2
    go_ret
    refine ⟨?_, rfl⟩
    first | rfl | (rw [if_pos (by omega)]; rfl) | (rw [if_neg (by omega)]; rfl)

theorem cmpL_nil_nil : cmpL [] [] [] [] = 0 := by simp [cmpL]

set_option maxHeartbeats 1000000 in
set_option maxRecDepth 100000 in
/-- Null, boolean, number, string. -/
theorem compare_leaf (T : TypeId) (o : Int) (w : World) (hd : (T = 94 ∧ o = 0) ∨ (T = 96 ∧ o = 1) ∨ (T = 98 ∧ o = 2) ∨ (T = 100 ∧ o = 3)) (h : CmpHead (.iface T (.agg #[])) o) :
    Calls Tryz.prog 50 #[.iface T (.agg #[]), .iface T (.agg #[])] w (Same (.int .i64 0) w) := by
  obtain ⟨h1, h2, h3⟩ := h
  have H1 := Lib.hid h1
  have H2 := Lib.hid h2
  have H3 := Lib.hid h3
  clear h1 h2 h3
  rcases hd with ⟨rfl, rfl⟩ | ⟨rfl, rfl⟩ | ⟨rfl, rfl⟩ | ⟨rfl, rfl⟩
  all_goals
    go_enter Tryz.func50, Tryz.ntmps50
    go_wp2_with (first | (go_at_call 60; refine (H1.out _).mono ?_; rintro e w' ⟨rfl, rfl⟩) | (go_at_call 90; refine (H2.out _).mono ?_; rintro e w' ⟨rfl, rfl⟩) | (go_at_call 91; refine (H3.out _).mono ?_; rintro e w' ⟨rfl, rfl⟩))
    go_ret
    exact ⟨rfl, rfl⟩

set_option maxHeartbeats 1000000 in
set_option maxRecDepth 100000 in
/-- Any types. -/
theorem compare_any_ (x x' : Value) (C : Int) (w : World) (h : CmpHead (.iface 90 x) 7) (h' : CmpHead (.iface 90 x') 7)
    (hx : ∃ A n c, x = .slice A n c) (hx' : ∃ A n c, x' = .slice A n c)
    (hc : ∀ q, Calls Tryz.prog 92 #[x, x', .func (.func 50) #[] #[]] (w.drewN q) (CmpPost C (w.drewN q))) :
    Calls Tryz.prog 50 #[.iface 90 x, .iface 90 x'] w (CmpPost C w) := by
  obtain ⟨A, n, c, rfl⟩ := hx
  obtain ⟨A', n', c', rfl⟩ := hx'
  obtain ⟨h1, h2, h3⟩ := h
  obtain ⟨h1', h2', h3'⟩ := h'
  have H1 := Lib.hid h1
  have H2 := Lib.hid h2
  have H3 := Lib.hid h3
  have H1' := Lib.hid h1'
  have H2' := Lib.hid h2'
  have H3' := Lib.hid h3'
  have HC := Lib.hid hc
  clear h1 h2 h3 h1' h2' h3' hc
  go_enter Tryz.func50, Tryz.ntmps50
  go_wp2_with fail
  refine (H1.out _).mono ?_
  rintro e w' ⟨rfl, rfl⟩
  go_wp2_with fail
  refine (H2.out _).mono ?_
  rintro e w' ⟨rfl, rfl⟩
  go_wp2_with fail
  refine (H1'.out _).mono ?_
  rintro e w' ⟨rfl, rfl⟩
  go_wp2_with fail
  refine (H2'.out _).mono ?_
  rintro e w' ⟨rfl, rfl⟩
  go_wp2_with fail
  refine (H3.out _).mono ?_
  rintro e w' ⟨rfl, rfl⟩
  go_wp2_with fail
  refine (H3'.out _).mono ?_
  rintro e w' ⟨rfl, rfl⟩
  go_wp2_with fail
  go_quiet ((go_at_call 92; go_must (exact CmpPost.quiet (HC.out _))))
  go_wp2_with fail
  go_ret
  exact ⟨rfl, _, rfl⟩

set_option maxHeartbeats 1000000 in
set_option maxRecDepth 100000 in
/-- Set types. -/
theorem compare_set (g g' : Nat) (x x' : Value) (C : Int) (w : World) (h : CmpHead (.iface 113 (ptr g)) 6) (h' : CmpHead (.iface 113 (ptr g')) 6)
    (hb : Blk w g 145 #[x]) (hb' : Blk w g' 145 #[x']) (hx : ∃ T y, x = .iface T y) (hx' : ∃ T y, x' = .iface T y)
    (hc : ∀ q, Calls Tryz.prog 50 #[x, x'] (w.drewN q) (CmpPost C (w.drewN q))) :
    Calls Tryz.prog 50 #[.iface 113 (ptr g), .iface 113 (ptr g')] w (CmpPost C w) := by
  obtain ⟨T, y, rfl⟩ := hx
  obtain ⟨T', y', rfl⟩ := hx'
  obtain ⟨h1, h2, h3⟩ := h
  obtain ⟨h1', h2', h3'⟩ := h'
  have H1 := Lib.hid h1
  have H2 := Lib.hid h2
  have H3 := Lib.hid h3
  have H1' := Lib.hid h1'
  have H2' := Lib.hid h2'
  have H3' := Lib.hid h3'
  have HC := Lib.hid hc
  have c0 := hb.cell 0
  have c0' := hb'.cell 0
  simp at c0 c0'
  clear h1 h2 h3 h1' h2' h3' hc hb hb'
  go_enter Tryz.func50, Tryz.ntmps50
  go_wp2_with fail
  refine (H1.out _).mono ?_
  rintro e w' ⟨rfl, rfl⟩
  go_wp2_with fail
  refine (H2.out _).mono ?_
  rintro e w' ⟨rfl, rfl⟩
  go_wp2_with fail
  refine (H1'.out _).mono ?_
  rintro e w' ⟨rfl, rfl⟩
  go_wp2_with fail
  refine (H2'.out _).mono ?_
  rintro e w' ⟨rfl, rfl⟩
  go_wp2_with fail
  refine (H3.out _).mono ?_
  rintro e w' ⟨rfl, rfl⟩
  go_wp2_with fail
  refine (H3'.out _).mono ?_
  rintro e w' ⟨rfl, rfl⟩
  go_wp2_with fail
  go_quiet ((go_at_call 50; go_must (exact CmpPost.quiet (HC.out _))))
  go_wp2_with fail
  go_ret
  exact ⟨rfl, _, rfl⟩

end Go.Proofs.YtpmfjbmfjfhghaaGreat
