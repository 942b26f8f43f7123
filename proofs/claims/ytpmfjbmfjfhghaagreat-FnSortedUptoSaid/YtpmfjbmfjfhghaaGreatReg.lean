/-
  A REGION THAT DRAWS ITS ORDER, WALKED BY HAND: operations that are not wanted may be taken first, too.
-/
import Derived.Test.YtpmfjbmfjfhghaaGreatChecked
import Derived.WalkKit
import Derived.Deep.RegionHeld3
namespace Go.Proofs.YtpmfjbmfjfhghaaGreat

/-- The i-th operation, by computing. -/
def nthO : List Oper → Nat → Option Oper
  | [], _ => none
  | x :: _, 0 => some x
  | _ :: l, n + 1 => nthO l n

theorem nthO_eq : ∀ (l : List Oper) (i : Nat), l.toArray[i]? = nthO l i
  | [], i => by simp [nthO]
  | x :: l, 0 => by simp [nthO]
  | x :: l, i + 1 => by
    have := nthO_eq l i
    simpa [nthO] using this

section
variable {P : Program} {l : List Oper} {Q : Exit → Act → World → Prop} {md : Region.Mode} {S : World → Prop}

/-- An operation that is wanted is taken first. -/
theorem take_yes {i : Nat} {oi : Oper} {v : Value} {fuel : Nat} {listed : Array Bool} {a : Act} {w : World} (hi : nthO l i = some oi)
    (hs : Region.noSelect l.toArray = true) (hf : Region.free md l.toArray listed i = true) (hr : (Region.ready md l.toArray listed).contains i = true)
    (hQ : ∀ c a w, Q (.panic c) (a.put oi.dst v) w → Q (.panic c) a w) (hw : Region.wanted oi (yielded l.toArray a.tmps) = true) (hy : ∀ w, S w → (execOp a.eval oi).run P w = .ok (.value v) w) (hS : S w)
    (h : wpAnyH P md l.toArray Q S fuel (listed.setIfInBounds i true) (a.put oi.dst v) w) : wpAnyH P md l.toArray Q S (fuel + 1) listed a w :=
  wpAnyH_take (by rw [nthO_eq]; exact hi) hs hf hr hQ (.inl ⟨hw, hy⟩) hS h

/-- An operation that is not wanted is passed by. -/
theorem take_no {i : Nat} {oi : Oper} {fuel : Nat} {listed : Array Bool} {a : Act} {w : World} (hi : nthO l i = some oi)
    (hs : Region.noSelect l.toArray = true) (hf : Region.free md l.toArray listed i = true) (hr : (Region.ready md l.toArray listed).contains i = true)
    (hQ : ∀ c a w, Q (.panic c) (a.put oi.dst undef) w → Q (.panic c) a w) (hw : Region.wanted oi (yielded l.toArray a.tmps) = false) (hS : S w)
    (h : wpAnyH P md l.toArray Q S fuel (listed.setIfInBounds i true) (a.put oi.dst undef) w) : wpAnyH P md l.toArray Q S (fuel + 1) listed a w :=
  wpAnyH_take (by rw [nthO_eq]; exact hi) hs hf hr hQ (.inr ⟨hw, rfl⟩) hS h

/-- The one operation that may come up. -/
theorem take_step {i : Nat} {oi : Oper} {fuel : Nat} {listed : Array Bool} {a : Act} {w : World} (hi : nthO l i = some oi) (hr : Region.ready md l.toArray listed = [i])
    (h : ∀ K' : Act → World → Prop, Shut (∀ a w, S w → (S w → wpAnyH P md l.toArray Q S fuel (listed.setIfInBounds i true) a w) → K' a w) → if Region.wanted oi (yielded l.toArray a.tmps) = true then Oper.wp P oi a w K' Q else K' (a.put oi.dst undef) w) :
    wpAnyH P md l.toArray Q S (fuel + 1) listed a w :=
  wpAnyH_ready hr (by simp) (AllReadyH.cons (by rw [nthO_eq]; exact hi) h AllReadyH.nil)
end

end Go.Proofs.YtpmfjbmfjfhghaaGreat
