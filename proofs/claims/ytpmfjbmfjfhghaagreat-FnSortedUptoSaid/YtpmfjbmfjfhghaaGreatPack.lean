/-
  HOW A TYPE OF THE PACKAGE LIES IN MEMORY, as a tree.
-/
import Derived.Test.YtpmfjbmfjfhghaaGreatOrd
import Derived.Test.YtpmfjbmfjfhghaaGreatPlain2
import Derived.Deep.Draws
namespace Go.Proofs.YtpmfjbmfjfhghaaGreat
open Go.RowKit

abbrev ptr (g : Nat) : Value := .pointer (some ⟨g, 0, none⟩)

/-- Static properties: their blocks, keys, values. -/
def props (w : World) (F : Nat → Prop) : List Nat → List Ky → List Value → Prop
  | [], [], [] => True
  | g :: gs, k :: ks, v :: vs => (F g ∧ Blk w g 129 #[keyVal k, v]) ∧ props w F gs ks vs
  | _, _, _ => False

mutual
def repP (w : World) (F : Nat → Prop) : Tr → Value → Prop
  | .mk k ks l m, v =>
    ((k = 1 ∧ v = .iface 94 (.agg #[])) ∨ (k = 2 ∧ v = .iface 96 (.agg #[])) ∨ (k = 3 ∧ v = .iface 98 (.agg #[])) ∨ (k = 4 ∧ v = .iface 100 (.agg #[]))) ∧ ks = [] ∧ l = [] ∧ m = [] ∨
    (k = 5 ∧ ks = [] ∧ ∃ g A c dyn xs, v = .iface 102 (ptr g) ∧ F g ∧ Blk w g 139 #[.slice A l.length c, dyn] ∧ l.length ≤ c ∧ rowAt w F A xs ∧ repPs w F l xs ∧ ((m = [] ∧ dyn = .nilIface) ∨ (m.length = 1 ∧ repPs w F m [dyn]))) ∨
    (k = 6 ∧ ks.length = l.length ∧ ∃ g A c dp gs vs, v = .iface 109 (ptr g) ∧ F g ∧ Blk w g 142 #[.slice A l.length c, dp] ∧ l.length ≤ c ∧ rowAt w F A (gs.map ptr) ∧ props w F gs ks vs ∧ repPs w F l vs ∧
      ((m = [] ∧ dp = .pointer none) ∨ ∃ g' x y, dp = ptr g' ∧ F g' ∧ Blk w g' 132 #[x, y] ∧ m.length = 2 ∧ repPs w F m [x, y])) ∨
    (k = 7 ∧ ks = [] ∧ m = [] ∧ ∃ g x, v = .iface 113 (ptr g) ∧ F g ∧ Blk w g 145 #[x] ∧ repPs w F l [x]) ∨
    (k = 8 ∧ ks = [] ∧ m = [] ∧ ∃ A c xs, v = .iface 90 (.slice A l.length c) ∧ l.length ≤ c ∧ rowAt w F A xs ∧ repPs w F l xs)
def repPs (w : World) (F : Nat → Prop) : List Tr → List Value → Prop
  | [], xs => xs = []
  | t :: l, xs => ∃ x ys, xs = x :: ys ∧ repP w F t x ∧ repPs w F l ys
end

theorem repPs.length {w : World} {F : Nat → Prop} : ∀ {l : List Tr} {xs : List Value}, repPs w F l xs → xs.length = l.length
  | [], xs, h => by simp only [repPs] at h; subst h; rfl
  | t :: l, xs, h => by
    simp only [repPs] at h
    obtain ⟨x, ys, rfl, h1, h2⟩ := h
    have := repPs.length h2
    simp; omega

theorem repPs.get {w : World} {F : Nat → Prop} : ∀ {l : List Tr} {xs : List Value}, repPs w F l xs → ∀ (i : Nat) (hi : i < l.length), ∃ x, xs[i]? = some x ∧ repP w F l[i] x
  | t :: l, xs, h, i, hi => by
    simp only [repPs] at h
    obtain ⟨x, ys, rfl, h1, h2⟩ := h
    cases i with
    | zero => exact ⟨x, rfl, h1⟩
    | succ i => simpa using repPs.get h2 i (by simpa using hi)

theorem repPs.snoc {w : World} {F : Nat → Prop} {t : Tr} {x : Value} (ht : repP w F t x) : ∀ {l : List Tr} {xs : List Value}, repPs w F l xs → repPs w F (l ++ [t]) (xs ++ [x])
  | [], xs, h => by simp only [repPs] at h; subst h; exact ⟨x, [], by simp, ht, by simp [repPs]⟩
  | t' :: l, xs, h => by
    simp only [repPs] at h
    obtain ⟨x', ys, rfl, h1, h2⟩ := h
    exact ⟨x', ys ++ [x], by simp, h1, repPs.snoc ht h2⟩

/-- The i-th of a row of types. -/
theorem repPs.at_ {w : World} {F : Nat → Prop} {A : Option Addr} {l : List Tr} {xs : List Value} (h : repPs w F l xs) (hr : rowAt w F A xs) (i : Nat) (hi : i < l.length) :
    ∃ b off x, A = some ⟨b, off, none⟩ ∧ F b ∧ repP w F l[i] x ∧ w.cell? ⟨b, off + i, none⟩ = some x ∧ xs[i]? = some x := by
  obtain ⟨x, hx, ht⟩ := h.get i hi
  obtain ⟨b, off, rfl, hb, hc⟩ := hr i x hx
  exact ⟨b, off, x, rfl, hb, ht, hc, hx⟩

theorem props.keep {w w' : World} {F F' X : Nat → Prop} (hF : ∀ b, F b → F' b) (hk : Kept X w w') (hX : ∀ b, F b → X b) : ∀ {gs : List Nat} {ks : List Ky} {vs : List Value}, props w F gs ks vs → props w' F' gs ks vs
  | [], [], [], _ => trivial
  | g :: gs, k :: ks, v :: vs, h => by
    simp only [props] at h ⊢
    exact ⟨⟨hF _ h.1.1, h.1.2.kept hk (hX _ h.1.1)⟩, props.keep hF hk hX h.2⟩
  | [], [], _ :: _, h => by simp [props] at h
  | [], _ :: _, _, h => by simp [props] at h
  | _ :: _, [], _, h => by simp [props] at h
  | _ :: _, _ :: _, [], h => by simp [props] at h

theorem props.length {w : World} {F : Nat → Prop} : ∀ {gs : List Nat} {ks : List Ky} {vs : List Value}, props w F gs ks vs → gs.length = ks.length ∧ vs.length = ks.length
  | [], [], [], _ => ⟨rfl, rfl⟩
  | g :: gs, k :: ks, v :: vs, h => by
    simp only [props] at h
    have := props.length h.2
    simp; omega
  | [], [], _ :: _, h => by simp [props] at h
  | [], _ :: _, _, h => by simp [props] at h
  | _ :: _, [], _, h => by simp [props] at h
  | _ :: _, _ :: _, [], h => by simp [props] at h

theorem props.get {w : World} {F : Nat → Prop} : ∀ {gs : List Nat} {ks : List Ky} {vs : List Value}, props w F gs ks vs → ∀ (i : Nat) (hi : i < ks.length), ∃ g v, gs[i]? = some g ∧ vs[i]? = some v ∧ F g ∧ Blk w g 129 #[keyVal ks[i], v]
  | g :: gs, k :: ks, v :: vs, h, i, hi => by
    simp only [props] at h
    cases i with
    | zero => exact ⟨g, v, rfl, rfl, h.1.1, h.1.2⟩
    | succ i => simpa using props.get h.2 i (by simpa using hi)
  | [], _ :: _, _, h, _, _ => by simp [props] at h
  | _ :: _, _ :: _, [], h, _, _ => by simp [props] at h

theorem props.snoc {w : World} {F : Nat → Prop} {g : Nat} {k : Ky} {v : Value} (hg : F g) (hb : Blk w g 129 #[keyVal k, v]) : ∀ {gs : List Nat} {ks : List Ky} {vs : List Value}, props w F gs ks vs → props w F (gs ++ [g]) (ks ++ [k]) (vs ++ [v])
  | [], [], [], _ => ⟨⟨hg, hb⟩, trivial⟩
  | g :: gs, k :: ks, v :: vs, h => by
    simp only [props, List.cons_append] at h ⊢
    exact ⟨h.1, props.snoc hg hb h.2⟩
  | [], [], _ :: _, h => by simp [props] at h
  | [], _ :: _, _, h => by simp [props] at h
  | _ :: _, [], _, h => by simp [props] at h
  | _ :: _, _ :: _, [], h => by simp [props] at h

section
variable {w w' : World} {F F' X : Nat → Prop}
mutual
theorem repP.keep (hF : ∀ b, F b → F' b) (hk : Kept X w w') (hX : ∀ b, F b → X b) : ∀ {t : Tr} {v : Value}, repP w F t v → repP w' F' t v
  | .mk k ks l m, v, h => by
    simp only [repP] at h ⊢
    rcases h with h | ⟨e, e1, g, A, c, dyn, xs, hv, hg, hb, hc, hr, hl, hm⟩ | ⟨e, e1, g, A, c, dp, gs, vs, hv, hg, hb, hc, hr, hp, hl, hm⟩ | ⟨e, e1, e2, g, x, hv, hg, hb, hl⟩ | ⟨e, e1, e2, A, c, xs, hv, hc, hr, hl⟩
    · exact .inl h
    · exact .inr (.inl ⟨e, e1, g, A, c, dyn, xs, hv, hF _ hg, hb.kept hk (hX _ hg), hc, hr.kept hk hX hF, repPs.keep hF hk hX hl, hm.imp id fun h => ⟨h.1, repPs.keep hF hk hX h.2⟩⟩)
    · refine .inr (.inr (.inl ⟨e, e1, g, A, c, dp, gs, vs, hv, hF _ hg, hb.kept hk (hX _ hg), hc, hr.kept hk hX hF, hp.keep hF hk hX, repPs.keep hF hk hX hl, ?_⟩))
      rcases hm with hm | ⟨g', x, y, e2, hg', hb', hl', hm⟩
      · exact .inl hm
      · exact .inr ⟨g', x, y, e2, hF _ hg', hb'.kept hk (hX _ hg'), hl', repPs.keep hF hk hX hm⟩
    · exact .inr (.inr (.inr (.inl ⟨e, e1, e2, g, x, hv, hF _ hg, hb.kept hk (hX _ hg), repPs.keep hF hk hX hl⟩)))
    · exact .inr (.inr (.inr (.inr ⟨e, e1, e2, A, c, xs, hv, hc, hr.kept hk hX hF, repPs.keep hF hk hX hl⟩)))
theorem repPs.keep (hF : ∀ b, F b → F' b) (hk : Kept X w w') (hX : ∀ b, F b → X b) : ∀ {l : List Tr} {xs : List Value}, repPs w F l xs → repPs w' F' l xs
  | [], xs, h => by simp only [repPs] at h ⊢; exact h
  | t :: l, xs, h => by
    simp only [repPs] at h ⊢
    obtain ⟨x, ys, e, h1, h2⟩ := h
    exact ⟨x, ys, e, repP.keep hF hk hX h1, repPs.keep hF hk hX h2⟩
end
end

theorem Kept.drewN {X : Nat → Prop} {a w : World} (h : Kept X a w) (n : Nat) : Kept X a (w.drewN n) := ⟨h.os, h.tape, h.output, h.size, h.block⟩

theorem repP.drewN {w : World} {F : Nat → Prop} {t : Tr} {v : Value} (h : repP w F t v) (n : Nat) : repP (w.drewN n) F t v :=
  h.keep (X := F) (fun _ h => h) ((Kept.refl F w).drewN n) fun _ h => h
theorem repPs.drewN {w : World} {F : Nat → Prop} {l : List Tr} {xs : List Value} (h : repPs w F l xs) (n : Nat) : repPs (w.drewN n) F l xs :=
  h.keep (X := F) (fun _ h => h) ((Kept.refl F w).drewN n) fun _ h => h

/-- A type's dynamic type. -/
theorem repP.dyn {w : World} {F : Nat → Prop} {t : Tr} {v : Value} (h : repP w F t v) : ∃ T x, v = .iface T x ∧ Dyn T (t.kind - 1) := by
  cases t with
  | mk k ks l m =>
    simp only [repP] at h
    simp only [Tr.kind, Dyn]
    rcases h with ⟨h, _⟩ | ⟨rfl, e1, g, A, c, dyn, xs, hv, _⟩ | ⟨rfl, e1, g, A, c, dp, gs, vs, hv, _⟩ | ⟨rfl, e1, e2, g, x, hv, _⟩ | ⟨rfl, e1, e2, A, c, xs, hv, _⟩
    · rcases h with ⟨rfl, rfl⟩ | ⟨rfl, rfl⟩ | ⟨rfl, rfl⟩ | ⟨rfl, rfl⟩ <;> exact ⟨_, _, rfl, by simp⟩
    all_goals exact ⟨_, _, hv, by simp⟩

/-- The tree's well-formedness that the memory shows. -/
theorem repP.kind_rng {w : World} {F : Nat → Prop} {t : Tr} {v : Value} (h : repP w F t v) : 1 ≤ t.kind ∧ t.kind ≤ 8 := by
  cases t with
  | mk k ks l m =>
    simp only [repP] at h
    simp only [Tr.kind]
    omega

end Go.Proofs.YtpmfjbmfjfhghaaGreat
