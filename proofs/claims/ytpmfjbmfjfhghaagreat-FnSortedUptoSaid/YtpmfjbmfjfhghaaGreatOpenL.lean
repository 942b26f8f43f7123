/-
  ARGUMENTS THAT ARE A SLICE OF TYPES, A NUMBER, A TRUTH VALUE.
-/
import Derived.Test.YtpmfjbmfjfhghaaGreatOpen
namespace Go.Proofs.YtpmfjbmfjfhghaaGreat
open Go.ChangeShapes Go.WideShapes Go.RowKit

section
variable {H : Type} {enc : TypeId × Value → H} {w : World} {base : Nat} {spare : Nat → Bool} {held : Bool}

set_option maxRecDepth 100000 in
/-- An argument of type []impl.Type. -/
theorem open_types {r : Reach} {b0 : Nat} {v : Value} {d : DataW H} {p : List MemPlace} (hv : Value.okWide Tryz.prog w r b0 23 v) (h : DataW.Trod enc Tryz.prog w base spare held 23 v d p) (hb : Rows.uptoBulk d ≤ 1048576) :
    ∃ (A : Option Addr) (l : List Tr) (c : Nat) (xs : List Value), v = .slice A l.length c ∧ l.length ≤ c ∧ (A = none → l = [] ∧ c = 0) ∧ repIs w (fun b => b < w.heap.size) l xs ∧ rowAt w (fun b => b < w.heap.size) A xs ∧ Tr.bulks l + 5 * l.length + 1 ≤ Rows.uptoBulk d := by
  obtain ⟨a, len, cap, rfl⟩ := okWide_slice Tryz.underlying23 hv
  obtain ⟨fuel, hf⟩ := h
  have hn : a = none → len = 0 ∧ cap = 0 := fun e => by
    rcases DataW.trod_slice Tryz.underlying23 hf with ⟨h, _⟩ | ⟨a', len', cap', elems, rest, n, _, h, _⟩
    · simp [Value.cells] at h; exact ⟨h.2.1, h.2.2⟩
    · simp [Value.cells] at h; rw [e] at h; exact absurd h.1 (by simp)
  obtain ⟨A, l, c, xs, e, hl, hr, hrow, hbk⟩ := trod_row (M := 1048576) (rep := repI w (fun b => b < w.heap.size)) (reps := repIs w (fun b => b < w.heap.size)) (bulk := fun t => t.bulk + 5) (bulks := fun l => Tr.bulks l + 5 * l.length) Tryz.underlying23 cellsT (by simp [repIs])
      repIs_snoc' (by simp [Tr.bulks]) (fun l t => by simp only [bulks_snoc, List.length_append, List.length_cons, List.length_nil]; omega) (fun m cs x _ h hb => trod_type m cs x h hb) hf hb
  simp [Value.cells] at e
  obtain ⟨rfl, rfl, rfl⟩ := e
  exact ⟨a, l, cap, xs, rfl, hl, fun e => ⟨List.eq_nil_of_length_eq_zero (hn e).1, (hn e).2⟩, hr, hrow, by omega⟩

set_option maxRecDepth 100000 in
theorem open_num {r : Reach} {b0 : Nat} {v : Value} (hv : Value.okWide Tryz.prog w r b0 3 v) : ∃ n : Int, v = .int .i64 n := okWide_int Tryz.underlying3 hv

set_option maxRecDepth 100000 in
theorem open_truth {r : Reach} {b0 : Nat} {v : Value} (hv : Value.okWide Tryz.prog w r b0 4 v) : ∃ b : Bool, v = .bool b := okWide_bool Tryz.underlying4 hv

end

end Go.Proofs.YtpmfjbmfjfhghaaGreat
