/-
  PROVED HERE: 'laws.FnPrint' returns true and leaves its two arguments as they were, for every two types that together hold at most 1048576 values and letters (the statement's own bound; no other condition): types that are equal have the same text, and the text of the null type is 'null'.
-/
import Derived.Test.YtpmfjbmfjfhghaaGreatFnPrint
import Derived.Test.YtpmfjbmfjfhghaaGreatOpen
import Derived.ProofKit
import Derived.OpenShut
import Derived.JoinedCond
namespace Go.Proofs.YtpmfjbmfjfhghaaGreat.fnPrint
open Go.ChangeShapes Go.WideShapes Go.ChangeAt Go.RowKit
set_option linter.unusedVariables false

theorem own : ownKnob Tryz.prog.godebug = none := by kernel_rfl
theorem laidOut : laidOutB Tryz.prog = true := by kernel_rfl

set_option maxRecDepth 100000 in
theorem contract (H : Type) (enc : TypeId × Value → H) (W : World) (base : Nat) (args : Array Value) (ds gs : List (DataW H)) (before : List MemPlace)
    (hval : ∀ (j : Nat) t v, Tryz.f11.params[j]? = some t → args[j]? = some v → Value.okWide Tryz.prog W .any base t v)
    (hW : DataW.Whole enc Tryz.prog Tryz.f11.params.toList Rows.fnPrintSpec.vars false W args.toList ds gs before) (hk : Rows.uptoSmall H (ds ++ gs) = true) :
    Calls Tryz.prog 11 args W fun e W' => ∃ v, e = .returned v ∧ Rows.fnPrintSpec.post enc Tryz.prog Tryz.f11 false true false false W args v W' := by
  have hW' := hW
  obtain ⟨p, q, hA0, hV, rfl, hfz, hnd⟩ := hW
  have hA : DataW.TrodAll enc Tryz.prog W 0 (fun _ => true) true Tryz.f11.params.toList args.toList ds p := hA0
  rw [Tryz.params11] at hA hval
  obtain ⟨v0, vs0, d0, ds0, p0, q0, hargs, rfl, rfl, h0, r0⟩ := trodAll_cons hA
  obtain ⟨v1, vs1, d1, ds1, p1, q1, rfl, rfl, rfl, h1, r1⟩ := trodAll_cons r0
  obtain ⟨rfl, rfl, rfl⟩ := trodAll_nil r1
  obtain rfl : args = #[v0, v1] := by cases args; simp_all
  obtain ⟨rfl, rfl⟩ := trodVars_none hV
  have hb : Rows.uptoBulk d0 + (Rows.uptoBulk d1 + 0) ≤ 1048576 := by simpa [Rows.uptoSmall, Rows.uptoBulkAll] using hk
  obtain ⟨t0, c0, rfl, i0, b0⟩ := open_type (hval 0 _ v0 rfl rfl) h0 (by omega)
  obtain ⟨t1, c1, rfl, i1, b1⟩ := open_type (hval 1 _ v1 rfl rfl) h1 (by omega)
  simp only [List.append_nil] at hW'
  have hlt : ∀ x ∈ p0 ++ p1, x.block < W.heap.size := fun x hx => by simpa using hW'.lt x hx
  have arg_t : ∀ {v : Value} {d : DataW H} {p : List MemPlace} {W' : World}, DataW.Trod enc Tryz.prog W 0 (fun _ => true) true 25 v d p → Below W.heap.size W W' → (∀ x ∈ p, x.block < W.heap.size) → DataW.Trod enc Tryz.prog W' 0 (fun b => decide (b < W.heap.size)) true 25 v d p :=
    fun h hb hl => Below.trod laidOut (by kernel_rfl) (of_decide_eq_true (by kernel_rfl)) h hb hl
  refine (fnPrint_walk t0 t1 c0 c1 W ⟨i0, by omega⟩ ⟨i1, by omega⟩ (by omega)).mono fun e W' ⟨he, hg⟩ => ?_
  subst he
  refine ⟨_, rfl, _, _, _, [], p0 ++ (p1 ++ []), [], hW', ?_, ?_, rfl, hg.frame _, fun h => by cases h⟩
  · exact trodAll_mk1 (shut_bool Tryz.underlying4 _)
  · exact trodAll_cons_mk (arg_t h0 hg fun x hx => hlt x (by simp [hx])) (trodAll_cons_mk (arg_t h1 hg fun x hx => hlt x (by simp [hx])) trodAll_mk0)

def z_t : Value := .agg #[.int .i64 0, .string ⟨#[]⟩, .string ⟨#[]⟩, .slice none 0 0, .slice none 0 0, .slice none 0 0]

set_option maxRecDepth 100000 in
theorem lifted (os : Os) (started : os.Started) (H : Type) (enc : TypeId × Value → H) (F : Stop.Interp) :
    ReturnsInHanded {} Tryz.checked os 11 .any ((Rows.OpenSpec.upto Rows.fnPrintSpec).pre6 enc Tryz.prog Tryz.f11 Rows.fnPrintUptoRow.domain false) (((Rows.OpenSpec.upto Rows.fnPrintSpec).at F).post enc Tryz.prog Tryz.f11 false true false false) := by
  refine returnsInHanded_of_cond (C := Tryz.checked) (s := Rows.OpenSpec.upto Rows.fnPrintSpec) (k := Rows.uptoSmall) rfl own started (by kernel_rfl) Tryz.func11
    (OpenSpec.witness (enc := enc) (C := Tryz.checked) (s := Rows.OpenSpec.upto Rows.fnPrintSpec) (k := Rows.uptoSmall) rfl false ⟨#[], #[z_t, z_t], []⟩ 8 (by kernel_rfl) (by kernel_rfl) (by kernel_rfl)
      (x := ([.agg [.lit (.int .i64 0), .lit (.string []), .lit (.string []), .nil, .nil, .nil], .agg [.lit (.int .i64 0), .lit (.string []), .lit (.string []), .nil, .nil, .nil]], [], [])) (by kernel_rfl) rfl (by kernel_rfl)) ?_
  intro W base args ds gs before hval hW _ hk _
  exact contract H enc W base args ds gs before hval hW hk

theorem over : Rows.fnPrintUptoRow.holds Tryz.pinned (Rows.OpenSpec.upto Rows.fnPrintSpec) :=
  OpenClaim.holds_of_cond 11 Tryz.f11 rfl rfl rfl rfl rfl rfl rfl ⟨rfl, rfl, rfl, rfl, rfl⟩ rfl rfl rfl rfl rfl (by kernel_rfl) Tryz.func11 (by kernel_rfl)
    (of_decide_eq_true (by kernel_rfl)) (by unfold Func.isWrapper; first | (rw [if_pos (by decide +kernel)]; kernel_rfl) | (rw [if_neg (by decide +kernel)]; exact ⟨rfl, rfl⟩))
    (fun os started H enc _ F => lifted os started H enc F)

theorem proved : Rows.FnPrintUptoSaid :=
  over
end Go.Proofs.YtpmfjbmfjfhghaaGreat.fnPrint
