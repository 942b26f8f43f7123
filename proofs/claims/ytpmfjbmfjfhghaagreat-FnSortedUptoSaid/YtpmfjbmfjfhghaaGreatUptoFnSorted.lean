/-
  PROVED HERE: 'laws.FnSorted' returns true and leaves its argument as it was, for every list of types that holds at most 1048576 values and letters (the statement's own bound; no other condition): types that are sorted stand in the order of Compare, and each one is there as often as before.
-/
import Derived.Test.YtpmfjbmfjfhghaaGreatFnSorted
import Derived.Test.YtpmfjbmfjfhghaaGreatOpenL
import Derived.Test.YtpmfjbmfjfhghaaGreatOpen
import Derived.ProofKit
import Derived.OpenShut
import Derived.JoinedCond
namespace Go.Proofs.YtpmfjbmfjfhghaaGreat.fnSorted
open Go.ChangeShapes Go.WideShapes Go.ChangeAt Go.RowKit
set_option linter.unusedVariables false

theorem own : ownKnob Tryz.prog.godebug = none := by kernel_rfl
theorem laidOut : laidOutB Tryz.prog = true := by kernel_rfl

set_option maxRecDepth 100000 in
theorem contract (H : Type) (enc : TypeId × Value → H) (W : World) (base : Nat) (args : Array Value) (ds gs : List (DataW H)) (before : List MemPlace)
    (hval : ∀ (j : Nat) t v, Tryz.f12.params[j]? = some t → args[j]? = some v → Value.okWide Tryz.prog W .any base t v)
    (hW : DataW.Whole enc Tryz.prog Tryz.f12.params.toList Rows.fnSortedSpec.vars false W args.toList ds gs before) (hk : Rows.uptoSmall H (ds ++ gs) = true) :
    Calls Tryz.prog 12 args W fun e W' => ∃ v, e = .returned v ∧ Rows.fnSortedSpec.post enc Tryz.prog Tryz.f12 false true false false W args v W' := by
  have hW' := hW
  obtain ⟨p, q, hA0, hV, rfl, hfz, hnd⟩ := hW
  have hA : DataW.TrodAll enc Tryz.prog W 0 (fun _ => true) true Tryz.f12.params.toList args.toList ds p := hA0
  rw [Tryz.params12] at hA hval
  obtain ⟨v0, vs0, d0, ds0, p0, q0, hargs, rfl, rfl, h0, r0⟩ := trodAll_cons hA
  obtain ⟨rfl, rfl, rfl⟩ := trodAll_nil r0
  obtain rfl : args = #[v0] := by cases args; simp_all
  obtain ⟨rfl, rfl⟩ := trodVars_none hV
  have hb : Rows.uptoBulk d0 + 0 ≤ 1048576 := by simpa [Rows.uptoSmall, Rows.uptoBulkAll] using hk
  obtain ⟨A0, l0, k0, xs0, rfl, e0, z0, j0, w0, b0⟩ := open_types (hval 0 _ v0 rfl rfl) h0 (by omega)
  simp only [List.append_nil] at hW'
  have hlt : ∀ x ∈ p0, x.block < W.heap.size := fun x hx => by simpa using hW'.lt x hx
  have arg_l : ∀ {v : Value} {d : DataW H} {p : List MemPlace} {W' : World}, DataW.Trod enc Tryz.prog W 0 (fun _ => true) true 23 v d p → Below W.heap.size W W' → (∀ x ∈ p, x.block < W.heap.size) → DataW.Trod enc Tryz.prog W' 0 (fun b => decide (b < W.heap.size)) true 23 v d p :=
    fun h hb hl => Below.trod laidOut (by kernel_rfl) (of_decide_eq_true (by kernel_rfl)) h hb hl
  refine (fnSorted_walk A0 l0 k0 xs0 W e0 j0 w0 (by omega)).mono fun e W' ⟨he, hg⟩ => ?_
  subst he
  refine ⟨_, rfl, _, _, _, [], p0 ++ [], [], hW', ?_, ?_, rfl, hg.frame _, fun h => by cases h⟩
  · exact trodAll_mk1 (shut_bool Tryz.underlying4 _)
  · exact trodAll_cons_mk (arg_l h0 hg fun x hx => hlt x (by simp [hx])) trodAll_mk0

def z_l : Value := .slice none 0 0

set_option maxRecDepth 100000 in
theorem lifted (os : Os) (started : os.Started) (H : Type) (enc : TypeId × Value → H) (F : Stop.Interp) :
    ReturnsInHanded {} Tryz.checked os 12 .any ((Rows.OpenSpec.upto Rows.fnSortedSpec).pre6 enc Tryz.prog Tryz.f12 Rows.fnSortedUptoRow.domain false) (((Rows.OpenSpec.upto Rows.fnSortedSpec).at F).post enc Tryz.prog Tryz.f12 false true false false) := by
  refine returnsInHanded_of_cond (C := Tryz.checked) (s := Rows.OpenSpec.upto Rows.fnSortedSpec) (k := Rows.uptoSmall) rfl own started (by kernel_rfl) Tryz.func12
    (OpenSpec.witness (enc := enc) (C := Tryz.checked) (s := Rows.OpenSpec.upto Rows.fnSortedSpec) (k := Rows.uptoSmall) rfl false ⟨#[], #[z_l], []⟩ 8 (by kernel_rfl) (by kernel_rfl) (by kernel_rfl)
      (x := ([.nil], [], [])) (by kernel_rfl) rfl (by kernel_rfl)) ?_
  intro W base args ds gs before hval hW _ hk _
  exact contract H enc W base args ds gs before hval hW hk

theorem over : Rows.fnSortedUptoRow.holds Tryz.pinned (Rows.OpenSpec.upto Rows.fnSortedSpec) :=
  OpenClaim.holds_of_cond 12 Tryz.f12 rfl rfl rfl rfl rfl rfl rfl ⟨rfl, rfl, rfl, rfl, rfl⟩ rfl rfl rfl rfl rfl (by kernel_rfl) Tryz.func12 (by kernel_rfl)
    (of_decide_eq_true (by kernel_rfl)) (by unfold Func.isWrapper; first | (rw [if_pos (by decide +kernel)]; kernel_rfl) | (rw [if_neg (by decide +kernel)]; exact ⟨rfl, rfl⟩))
    (fun os started H enc _ F => lifted os started H enc F)

theorem proved : Rows.FnSortedUptoSaid :=
  over
end Go.Proofs.YtpmfjbmfjfhghaaGreat.fnSorted
