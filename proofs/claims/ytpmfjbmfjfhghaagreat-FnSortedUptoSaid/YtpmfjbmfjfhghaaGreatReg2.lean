/-
  A REGION THAT DRAWS ITS ORDER, WALKED BY HAND (2): two operations may come up.
-/
import Derived.Test.YtpmfjbmfjfhghaaGreatReg
namespace Go.Proofs.YtpmfjbmfjfhghaaGreat

section
variable {P : Program} {l : List Oper} {Q : Exit → Act → World → Prop} {md : Region.Mode} {S : World → Prop}

/-- Either of two operations may come up. -/
theorem take_two {i j : Nat} {oi oj : Oper} {fuel : Nat} {listed : Array Bool} {a : Act} {w : World} (hi : nthO l i = some oi) (hj : nthO l j = some oj) (hr : Region.ready md l.toArray listed = [i, j])
    (h : ∀ K' : Act → World → Prop, Shut (∀ a w, S w → (S w → wpAnyH P md l.toArray Q S fuel (listed.setIfInBounds i true) a w) → K' a w) → if Region.wanted oi (yielded l.toArray a.tmps) = true then Oper.wp P oi a w K' Q else K' (a.put oi.dst undef) w)
    (h' : ∀ K' : Act → World → Prop, Shut (∀ a w, S w → (S w → wpAnyH P md l.toArray Q S fuel (listed.setIfInBounds j true) a w) → K' a w) → if Region.wanted oj (yielded l.toArray a.tmps) = true then Oper.wp P oj a w K' Q else K' (a.put oj.dst undef) w) :
    wpAnyH P md l.toArray Q S (fuel + 1) listed a w :=
  wpAnyH_ready hr (by simp) (AllReadyH.cons (by rw [nthO_eq]; exact hi) h (AllReadyH.cons (by rw [nthO_eq]; exact hj) h' AllReadyH.nil))
end

end Go.Proofs.YtpmfjbmfjfhghaaGreat
