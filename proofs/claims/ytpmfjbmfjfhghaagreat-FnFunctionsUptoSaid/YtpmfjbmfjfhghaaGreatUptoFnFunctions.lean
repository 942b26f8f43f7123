/-
  PROVED HERE: 'laws.FnFunctions' returns true and leaves its arguments as they were, for every list of types, every two types and every truth value that together hold at most 1048576 values and letters (the statement's own bound; no other condition): a function has as many arguments as it has types of them, each with its type; it is void without a result; what is no function has none, and is not void.
-/
import Derived.Test.YtpmfjbmfjfhghaaGreatFnFunctions
import Derived.Test.YtpmfjbmfjfhghaaGreatOpenL
import Derived.Test.YtpmfjbmfjfhghaaGreatOpen
import Derived.ProofKit
import Derived.OpenShut
import Derived.JoinedCond
namespace Go.Proofs.YtpmfjbmfjfhghaaGreat.fnFunctions
open Go.ChangeShapes Go.WideShapes Go.ChangeAt Go.RowKit
set_option linter.unusedVariables false

theorem own : ownKnob Tryz.prog.godebug = none := by kernel_rfl
theorem laidOut : laidOutB Tryz.prog = true := by kernel_rfl

set_option maxRecDepth 100000 in
theorem contract (H : Type) (enc : TypeId × Value → H) (W : World) (base : Nat) (args : Array Value) (ds gs : List (DataW H)) (before : List MemPlace)
    (hval : ∀ (j : Nat) t v, Tryz.f10.params[j]? = some t → args[j]? = some v → Value.okWide Tryz.prog W .any base t v)
    (hW : DataW.Whole enc Tryz.prog Tryz.f10.params.toList Rows.fnFunctionsSpec.vars false W args.toList ds gs before) (hk : Rows.uptoSmall H (ds ++ gs) = true) :
    Calls Tryz.prog 10 args W fun e W' => ∃ v, e = .returned v ∧ Rows.fnFunctionsSpec.post enc Tryz.prog Tryz.f10 false true false false W args v W' := by
  have hW' := hW
  obtain ⟨p, q, hA0, hV, rfl, hfz, hnd⟩ := hW
  have hA : DataW.TrodAll enc Tryz.prog W 0 (fun _ => true) true Tryz.f10.params.toList args.toList ds p := hA0
  rw [Tryz.params10] at hA hval
  obtain ⟨v0, vs0, d0, ds0, p0, q0, hargs, rfl, rfl, h0, r0⟩ := trodAll_cons hA
  obtain ⟨v1, vs1, d1, ds1, p1, q1, rfl, rfl, rfl, h1, r1⟩ := trodAll_cons r0
  obtain ⟨v2, vs2, d2, ds2, p2, q2, rfl, rfl, rfl, h2, r2⟩ := trodAll_cons r1
  obtain ⟨v3, vs3, d3, ds3, p3, q3, rfl, rfl, rfl, h3, r3⟩ := trodAll_cons r2
  obtain ⟨rfl, rfl, rfl⟩ := trodAll_nil r3
  obtain rfl : args = #[v0, v1, v2, v3] := by cases args; simp_all
  obtain ⟨rfl, rfl⟩ := trodVars_none hV
  have hb : Rows.uptoBulk d0 + (Rows.uptoBulk d1 + (Rows.uptoBulk d2 + (Rows.uptoBulk d3 + 0))) ≤ 1048576 := by simpa [Rows.uptoSmall, Rows.uptoBulkAll] using hk
  obtain ⟨A0, l0, k0, xs0, rfl, e0, z0, j0, w0, b0⟩ := open_types (hval 0 _ v0 rfl rfl) h0 (by omega)
  obtain ⟨t1, c1, rfl, i1, b1⟩ := open_type (hval 1 _ v1 rfl rfl) h1 (by omega)
  obtain ⟨s2, rfl⟩ := open_truth (hval 2 _ v2 rfl rfl)
  obtain ⟨t3, c3, rfl, i3, b3⟩ := open_type (hval 3 _ v3 rfl rfl) h3 (by omega)
  simp only [List.append_nil] at hW'
  have hlt : ∀ x ∈ p0 ++ (p1 ++ (p2 ++ p3)), x.block < W.heap.size := fun x hx => by simpa using hW'.lt x hx
  have arg_b : ∀ {v : Value} {d : DataW H} {p : List MemPlace} {W' : World}, DataW.Trod enc Tryz.prog W 0 (fun _ => true) true 4 v d p → Below W.heap.size W W' → (∀ x ∈ p, x.block < W.heap.size) → DataW.Trod enc Tryz.prog W' 0 (fun b => decide (b < W.heap.size)) true 4 v d p :=
    fun h hb hl => Below.trod laidOut (by kernel_rfl) (of_decide_eq_true (by kernel_rfl)) h hb hl
  have arg_l : ∀ {v : Value} {d : DataW H} {p : List MemPlace} {W' : World}, DataW.Trod enc Tryz.prog W 0 (fun _ => true) true 23 v d p → Below W.heap.size W W' → (∀ x ∈ p, x.block < W.heap.size) → DataW.Trod enc Tryz.prog W' 0 (fun b => decide (b < W.heap.size)) true 23 v d p :=
    fun h hb hl => Below.trod laidOut (by kernel_rfl) (of_decide_eq_true (by kernel_rfl)) h hb hl
  have arg_t : ∀ {v : Value} {d : DataW H} {p : List MemPlace} {W' : World}, DataW.Trod enc Tryz.prog W 0 (fun _ => true) true 25 v d p → Below W.heap.size W W' → (∀ x ∈ p, x.block < W.heap.size) → DataW.Trod enc Tryz.prog W' 0 (fun b => decide (b < W.heap.size)) true 25 v d p :=
    fun h hb hl => Below.trod laidOut (by kernel_rfl) (of_decide_eq_true (by kernel_rfl)) h hb hl
  refine (fnFunctions_walk A0 l0 k0 xs0 t1 t3 c1 c3 s2 W e0 j0 w0 ⟨i1, by omega⟩ ⟨i3, by omega⟩ (by omega) (by omega)).mono fun e W' ⟨he, hg⟩ => ?_
  subst he
  refine ⟨_, rfl, _, _, _, [], p0 ++ (p1 ++ (p2 ++ (p3 ++ []))), [], hW', ?_, ?_, rfl, hg.frame _, fun h => by cases h⟩
  · exact trodAll_mk1 (shut_bool Tryz.underlying4 _)
  · exact trodAll_cons_mk (arg_l h0 hg fun x hx => hlt x (by simp [hx])) (trodAll_cons_mk (arg_t h1 hg fun x hx => hlt x (by simp [hx])) (trodAll_cons_mk (arg_b h2 hg fun x hx => hlt x (by simp [hx])) (trodAll_cons_mk (arg_t h3 hg fun x hx => hlt x (by simp [hx])) trodAll_mk0)))

def z_l : Value := .slice none 0 0
def z_t : Value := .agg #[.int .i64 0, .string ⟨#[]⟩, .string ⟨#[]⟩, .slice none 0 0, .slice none 0 0, .slice none 0 0]
def z_b : Value := .bool false

set_option maxRecDepth 100000 in
theorem lifted (os : Os) (started : os.Started) (H : Type) (enc : TypeId × Value → H) (F : Stop.Interp) :
    ReturnsInHanded {} Tryz.checked os 10 .any ((Rows.OpenSpec.upto Rows.fnFunctionsSpec).pre6 enc Tryz.prog Tryz.f10 Rows.fnFunctionsUptoRow.domain false) (((Rows.OpenSpec.upto Rows.fnFunctionsSpec).at F).post enc Tryz.prog Tryz.f10 false true false false) := by
  refine returnsInHanded_of_cond (C := Tryz.checked) (s := Rows.OpenSpec.upto Rows.fnFunctionsSpec) (k := Rows.uptoSmall) rfl own started (by kernel_rfl) Tryz.func10
    (OpenSpec.witness (enc := enc) (C := Tryz.checked) (s := Rows.OpenSpec.upto Rows.fnFunctionsSpec) (k := Rows.uptoSmall) rfl false ⟨#[], #[z_l, z_t, z_b, z_t], []⟩ 8 (by kernel_rfl) (by kernel_rfl) (by kernel_rfl)
      (x := ([.nil, .agg [.lit (.int .i64 0), .lit (.string []), .lit (.string []), .nil, .nil, .nil], .lit (.bool false), .agg [.lit (.int .i64 0), .lit (.string []), .lit (.string []), .nil, .nil, .nil]], [], [])) (by kernel_rfl) rfl (by kernel_rfl)) ?_
  intro W base args ds gs before hval hW _ hk _
  exact contract H enc W base args ds gs before hval hW hk

theorem over : Rows.fnFunctionsUptoRow.holds Tryz.pinned (Rows.OpenSpec.upto Rows.fnFunctionsSpec) :=
  OpenClaim.holds_of_cond 10 Tryz.f10 rfl rfl rfl rfl rfl rfl rfl ⟨rfl, rfl, rfl, rfl, rfl⟩ rfl rfl rfl rfl rfl (by kernel_rfl) Tryz.func10 (by kernel_rfl)
    (of_decide_eq_true (by kernel_rfl)) (by unfold Func.isWrapper; first | (rw [if_pos (by decide +kernel)]; kernel_rfl) | (rw [if_neg (by decide +kernel)]; exact ⟨rfl, rfl⟩))
    (fun os started H enc _ F => lifted os started H enc F)

theorem proved : Rows.FnFunctionsUptoSaid :=
  over
end Go.Proofs.YtpmfjbmfjfhghaaGreat.fnFunctions
