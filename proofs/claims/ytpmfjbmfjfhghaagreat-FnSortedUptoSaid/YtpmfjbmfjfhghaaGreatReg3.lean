/-
  A REGION THAT DRAWS ITS ORDER, WALKED BY HAND (3): the condition on the world need not hold any more once one of the late operations (the stores at its end) has been carried out.
-/
import Derived.Test.YtpmfjbmfjfhghaaGreatReg2
namespace Go.Proofs.YtpmfjbmfjfhghaaGreat

section
variable {P : Program} {ops : Array Oper} {Q : Exit → Act → World → Prop} {md : Region.Mode} {S : World → Prop} {late : Nat → Bool}

/-- The rest of the region in whatever order; S stands behind each operation that is not late. -/
def wpG (P : Program) (md : Region.Mode) (ops : Array Oper) (Q : Exit → Act → World → Prop) (S : World → Prop) (late : Nat → Bool) : Nat → Array Bool → Act → World → Prop
  | 0, done, a, w => Region.ready md ops done = [] ∧ Q .normal a w
  | n + 1, done, a, w => (Region.ready md ops done = [] → Q .normal a w) ∧
    ∀ j ∈ Region.ready md ops done, wpOp P ops Q j (fun b u => (late j = false → S u) ∧ wpG P md ops Q S late n (done.setIfInBounds j true) b u) a w

theorem wpG.any : ∀ (n : Nat) (done : Array Bool) (a : Act) (w : World), wpG P md ops Q S late n done a w → wpAny P md ops Q n done a w
  | 0, _, _, _, h => h
  | n + 1, _, _, _, ⟨h, k⟩ => ⟨h, fun j hj => wpOp_mono (fun _ _ hr => wpG.any n _ _ _ hr.2) (k j hj)⟩

/-- Number j waits for number i, by way of at most f others. -/
def waitsB (md : Region.Mode) (ops : Array Oper) (i : Nat) : Nat → Nat → Bool
  | 0, _ => false
  | f + 1, j => match ops[j]? with
    | none => false
    | some o => o.after.any fun e => Region.binds md e && (e.on == i || waitsB md ops i f e.on)

/-- All late operations wait for this one. -/
def lateB (md : Region.Mode) (ops : Array Oper) (late : Nat → Bool) (i : Nat) : Bool :=
  (List.range ops.size).all fun j => !late j || waitsB md ops i ops.size j

/-- What an operation that has come up waits for has come up. -/
def closedB (md : Region.Mode) (ops : Array Oper) (done : Array Bool) : Bool :=
  (List.range ops.size).all fun j => !done.getD j false || match ops[j]? with
    | none => true
    | some o => o.after.all fun e => !Region.binds md e || done.getD e.on false

def Closed (md : Region.Mode) (ops : Array Oper) (done : Array Bool) : Prop := ∀ j o, ops[j]? = some o → done.getD j false = true → ∀ e ∈ o.after, Region.binds md e = true → done.getD e.on false = true

theorem closedB_spec {done : Array Bool} (h : closedB md ops done = true) : Closed md ops done := fun j o ho hd e he hb => by
  have h1 := (List.all_eq_true.1 h) j (List.mem_range.2 (Array.getElem?_eq_some_iff.1 ho).1)
  simp only [hd, Bool.not_true, Bool.false_or, ho] at h1
  have h2 := (Array.all_eq_true'.1 h1) e he
  simpa [hb] using h2

theorem Closed.set {done : Array Bool} (h : Closed md ops done) {j : Nat} (hj : j ∈ Region.ready md ops done) : Closed md ops (done.setIfInBounds j true) := fun k o ho hd e he hb => by
  obtain ⟨_, oj, hoj, hall⟩ := mem_ready.1 hj
  refine getD_set_true ?_
  by_cases hk : j = k
  · subst hk
    rw [hoj] at ho
    obtain rfl := Option.some.inj ho
    exact hall e he hb
  · rw [getD_set_ne false hk] at hd
    exact h k o ho hd e he hb

theorem waitsB_done {done : Array Bool} {i : Nat} (hc : Closed md ops done) (f : Nat) : ∀ (j : Nat) (o : Oper), ops[j]? = some o → waitsB md ops i f j = true → (∀ e ∈ o.after, Region.binds md e = true → done.getD e.on false = true) → done.getD i false = true := by
  induction f with
  | zero =>
    intro j o _ h
    exact absurd h (by simp [waitsB])
  | succ f ih =>
    intro j o ho h hall
    simp only [waitsB, ho] at h
    obtain ⟨e, he, hb⟩ := Array.any_eq_true'.1 h
    simp only [Bool.and_eq_true, Bool.or_eq_true, beq_iff_eq] at hb
    have hd := hall e he hb.1
    rcases hb.2 with hi | hw
    · rw [← hi]; exact hd
    · cases hk : ops[e.on]? with
      | none =>
        cases f with
        | zero => exact absurd hw (by simp [waitsB])
        | succ f => exact absurd hw (by simp [waitsB, hk])
      | some o' => exact ih e.on o' hk hw (hc e.on o' hk hd)

theorem wpG.first {i : Nat} {oi : Oper} {v : Value} (hi : ops[i]? = some oi) (hs : Region.noSelect ops = true) (hl : lateB md ops late i = true)
    (hQ : ∀ c a w, Q (.panic c) (a.put oi.dst v) w → Q (.panic c) a w) : ∀ (n : Nat) (done : Array Bool) (a : Act) (w : World), Closed md ops done →
      (∀ j oj, ops[j]? = some oj → j ≠ i → done.getD j true = false → (∀ e ∈ oj.after, Region.binds md e = true → e.on ≠ i) → oi.apart ops oj = true) →
      i ∈ Region.ready md ops done → YieldsIf P ops S oi v a → S w → wpG P md ops Q S late n (done.setIfInBounds i true) (a.put oi.dst v) w → wpG P md ops Q S late (n + 1) done a w
  | n, done, a, w, hc, hfree, hr, hy, hS, H => by
    have hsel := Region.noSelect_spec hs
    refine ⟨fun h => by rw [h] at hr; exact absurd hr List.not_mem_nil, fun j hj => ?_⟩
    by_cases hji : j = i
    · subst hji
      exact hy.wpOp hi hS ⟨fun _ => hS, H⟩
    have hj' := ready_mono hj hji
    match n, H with
    | 0, H => rw [H.1] at hj'; exact absurd hj' List.not_mem_nil
    | n + 1, H =>
      obtain ⟨hun, oj, hoj, hall⟩ := mem_ready.1 hj
      have hun' := (mem_ready.1 hr).1
      have hno : ∀ e ∈ oj.after, Region.binds md e = true → e.on ≠ i := fun e he hb he' => by
        have h1 := hall e he hb
        subst he'
        by_cases hlt : e.on < done.size
        · simp [hlt] at hun' h1
          rw [hun'] at h1
          exact absurd h1 (by simp)
        · simp [Array.getElem?_eq_none (Nat.le_of_not_lt hlt)] at h1
      have hlj : late j = false := by
        cases hb : late j with
        | false => rfl
        | true =>
          have h1 := (List.all_eq_true.1 hl) j (List.mem_range.2 (Array.getElem?_eq_some_iff.1 hoj).1)
          simp only [hb, Bool.not_true, Bool.false_or] at h1
          have h2 := waitsB_done hc _ j oj hoj h1 hall
          by_cases hlt : i < done.size
          · simp [hlt] at hun' h2
            rw [hun'] at h2
            exact absurd h2 (by simp)
          · simp [Array.getElem?_eq_none (Nat.le_of_not_lt hlt)] at h2
      have h2 := wpOp_putIf hoj (hfree j oj hoj hji hun hno) (fun cs b => hsel i oi cs b hi) (fun cs b => hsel j oj cs b hoj) hQ hy (H.2 j hj')
      refine wpOp_mono (fun b u ⟨h3, h4, h5⟩ => ⟨h4, wpG.first hi hs hl hQ n (done.setIfInBounds j true) b u (hc.set hj) (fun k ok hk hki hkun hkno => hfree k ok hk hki ?_ hkno) (ready_mono hr (Ne.symm hji)) h3 (h4 hlj) ?_⟩) h2
      · by_cases hjk : j = k
        · subst hjk; exact hun
        · rwa [getD_set_ne true hjk] at hkun
      · rw [Array.setIfInBounds_comm _ _ hji]
        exact h5
end

section
variable {P : Program} {l : List Oper} {Q : Exit → Act → World → Prop} {md : Region.Mode} {S : World → Prop} {late : Nat → Bool}

/-- The beginning. -/
theorem g_start {id : Nat} {ops : Array Oper} {a : Act} {w : World} (hm : P.follows .mixedOrders = true) (hS : S w.drew)
    (h : S w.drew → wpG P .any ops Q S late ops.size (Array.replicate ops.size false) a w.drew) : (Code.region id ops true).wp P Q a w :=
  wp_region_any hm (wpG.any _ _ _ _ (h hS))

/-- An operation that is wanted is taken first. -/
theorem g_yes {i : Nat} {oi : Oper} {v : Value} {fuel : Nat} {listed : Array Bool} {a : Act} {w : World} (hi : nthO l i = some oi) (hl : lateB md l.toArray late i = true) (hc : closedB md l.toArray listed = true)
    (hs : Region.noSelect l.toArray = true) (hf : Region.free md l.toArray listed i = true) (hr : (Region.ready md l.toArray listed).contains i = true)
    (hQ : ∀ c a w, Q (.panic c) (a.put oi.dst v) w → Q (.panic c) a w) (hw : Region.wanted oi (yielded l.toArray a.tmps) = true) (hy : ∀ w, S w → (execOp a.eval oi).run P w = .ok (.value v) w) (hS : S w)
    (h : wpG P md l.toArray Q S late fuel (listed.setIfInBounds i true) (a.put oi.dst v) w) : wpG P md l.toArray Q S late (fuel + 1) listed a w :=
  wpG.first (by rw [nthO_eq]; exact hi) hs hl hQ fuel listed a w (closedB_spec hc) (Region.free_spec (by rw [nthO_eq]; exact hi) hf) (by simpa using hr) (.inl ⟨hw, hy⟩) hS h

/-- The one operation that may come up. -/
theorem g_step {i : Nat} {oi : Oper} {fuel : Nat} {listed : Array Bool} {a : Act} {w : World} (hi : nthO l i = some oi) (hr : Region.ready md l.toArray listed = [i])
    (h : ∀ K' : Act → World → Prop, Shut (∀ a w, (late i = false → S w) → ((late i = false → S w) → wpG P md l.toArray Q S late fuel (listed.setIfInBounds i true) a w) → K' a w) → if Region.wanted oi (yielded l.toArray a.tmps) = true then Oper.wp P oi a w K' Q else K' (a.put oi.dst undef) w) :
    wpG P md l.toArray Q S late (fuel + 1) listed a w := by
  refine ⟨fun h0 => absurd (hr.symm.trans h0) (by simp), fun j hj => ?_⟩
  rw [hr] at hj
  obtain rfl := List.mem_singleton.1 hj
  exact wpOp_step (by rw [nthO_eq]; exact hi) fun K' hK => h K' fun a w hS hW => hK a w ⟨hS, hW hS⟩

/-- Either of two operations may come up. -/
theorem g_two {i j : Nat} {oi oj : Oper} {fuel : Nat} {listed : Array Bool} {a : Act} {w : World} (hi : nthO l i = some oi) (hj : nthO l j = some oj) (hr : Region.ready md l.toArray listed = [i, j])
    (h : ∀ K' : Act → World → Prop, Shut (∀ a w, (late i = false → S w) → ((late i = false → S w) → wpG P md l.toArray Q S late fuel (listed.setIfInBounds i true) a w) → K' a w) → if Region.wanted oi (yielded l.toArray a.tmps) = true then Oper.wp P oi a w K' Q else K' (a.put oi.dst undef) w)
    (h' : ∀ K' : Act → World → Prop, Shut (∀ a w, (late j = false → S w) → ((late j = false → S w) → wpG P md l.toArray Q S late fuel (listed.setIfInBounds j true) a w) → K' a w) → if Region.wanted oj (yielded l.toArray a.tmps) = true then Oper.wp P oj a w K' Q else K' (a.put oj.dst undef) w) :
    wpG P md l.toArray Q S late (fuel + 1) listed a w := by
  refine ⟨fun h0 => absurd (hr.symm.trans h0) (by simp), fun k hk => ?_⟩
  rw [hr] at hk
  rcases List.mem_cons.1 hk with rfl | hk
  · exact wpOp_step (by rw [nthO_eq]; exact hi) fun K' hK => h K' fun a w hS hW => hK a w ⟨hS, hW hS⟩
  · obtain rfl := List.mem_singleton.1 hk
    exact wpOp_step (by rw [nthO_eq]; exact hj) fun K' hK => h' K' fun a w hS hW => hK a w ⟨hS, hW hS⟩

/-- All have come up. -/
theorem g_done {listed : Array Bool} {a : Act} {w : World} (hr : Region.ready md l.toArray listed = []) (h : Q .normal a w) : ∀ fuel, wpG P md l.toArray Q S late fuel listed a w
  | 0 => ⟨hr, h⟩
  | _ + 1 => ⟨fun _ => h, by rw [hr]; intro j hj; exact absurd hj List.not_mem_nil⟩
end

end Go.Proofs.YtpmfjbmfjfhghaaGreat
