/-
  HOW TREES LIE IN MEMORY: rows of cells; a type of package impl, a type of package spec, as a tree.
-/
import Derived.Test.YtpmfjbmfjfhghaaGreatPlain1
import Derived.Test.YtpmfjbmfjfhghaaGreatChecked
import Derived.WalkKit
import Derived.WalkSpells
import Derived.WalkLawsBesides
import Derived.Deep.AppendLies
import Derived.Maps.AppendAt
namespace Go.Proofs.YtpmfjbmfjfhghaaGreat
open Go.RowKit

/-- In the blocks X the world w' is as w was; the streams are as they were; no block has gone. -/
structure Kept (X : Nat → Prop) (w w' : World) : Prop where
  os : w'.os = w.os
  tape : w'.tape = w.tape
  output : w'.output = w.output
  size : w.heap.size ≤ w'.heap.size
  block : ∀ k, X k → w'.heap[k]? = w.heap[k]?

theorem Kept.refl (X : Nat → Prop) (w : World) : Kept X w w := ⟨rfl, rfl, rfl, Nat.le_refl _, fun _ _ => rfl⟩
theorem Kept.trans {X : Nat → Prop} {a b c : World} (h : Kept X a b) (k : Kept X b c) : Kept X a c :=
  ⟨k.os.trans h.os, k.tape.trans h.tape, k.output.trans h.output, Nat.le_trans h.size k.size, fun i hi => (k.block i hi).trans (h.block i hi)⟩
theorem Kept.mono {X Y : Nat → Prop} {w w' : World} (h : Kept X w w') (hX : ∀ b, Y b → X b) : Kept Y w w' := ⟨h.os, h.tape, h.output, h.size, fun k hk => h.block k (hX k hk)⟩
theorem Kept.of_below {X : Nat → Prop} {B : Nat} {w w' : World} (h : Below B w w') (hX : ∀ b, X b → b < B) : Kept X w w' := ⟨h.os, h.tape, h.output, h.size, fun k hk => h.block k (hX k hk)⟩
theorem Kept.below {X : Nat → Prop} {B : Nat} {w w' : World} (h : Kept X w w') (hX : ∀ b, b < B → X b) : Below B w w' := ⟨h.os, h.tape, h.output, h.size, fun k hk => h.block k (hX k hk)⟩
theorem Kept.drew {X : Nat → Prop} {a w : World} (h : Kept X a w) : Kept X a w.drew := ⟨h.os, h.tape, h.output, h.size, h.block⟩
theorem Kept.alloc {X : Nat → Prop} {a w : World} (h : Kept X a w) (hX : ∀ b, X b → b < w.heap.size) (o : Obj) : Kept X a (w.alloc o) :=
  h.trans ⟨rfl, rfl, rfl, by simp, fun k hk => Below.heap_alloc _ _ _ (hX k hk)⟩
theorem Kept.setCell {X : Nat → Prop} {a w : World} (h : Kept X a w) {p : Addr} (hp : ¬ X p.block) (u : Value) : Kept X a (w.setCell p u) :=
  h.trans ⟨rfl, rfl, rfl, by simp [World.setCell], fun k hk => Below.heap_setCell _ _ _ _ (fun e => hp (by rw [← e]; exact hk))⟩
theorem Kept.grown {X : Nat → Prop} {a w w' : World} {row : Option Nat} (h : Kept X a w) (hg : w.grownBy w' row) (hX : ∀ b, X b → b < w.heap.size) (hr : ∀ k, row = some k → ¬ X k) : Kept X a w' :=
  h.trans ⟨hg.os, hg.tape, hg.output, hg.size, fun k hk => hg.block k (hX k hk) (fun e => hr k e.symm hk)⟩
theorem Kept.cell {X : Nat → Prop} {w w' : World} (h : Kept X w w') {p : Addr} (hp : X p.block) : w'.cell? p = w.cell? p := World.cell?_of_block (w := w) (h.block p.block hp)

/-- The slice with address A holds the cells xs, in the blocks F. -/
def rowAt (w : World) (F : Nat → Prop) (A : Option Addr) (xs : List Value) : Prop :=
  ∀ j u, xs[j]? = some u → ∃ b off, A = some ⟨b, off, none⟩ ∧ F b ∧ w.cell? ⟨b, off + j, none⟩ = some u

section
variable {w w' : World} {B B' : Nat → Prop} {A : Option Addr} {xs : List Value}

theorem rowAt.nil : rowAt w B A [] := fun j u h => by simp at h

theorem rowAt.keep (h : rowAt w B A xs) (hB : ∀ b, B b → B' b) (hk : ∀ p : Addr, B p.block → w'.cell? p = w.cell? p) : rowAt w' B' A xs := fun j u hu => by
  obtain ⟨b, off, e, hb, hc⟩ := h j u hu
  exact ⟨b, off, e, hB _ hb, (hk _ hb).trans hc⟩

theorem rowAt.of_own {base : Nat} {e : TypeId} {size n c : Nat} (h : w.ownsRow base e size (.slice A n c) n xs) (hB : ∀ g, base ≤ g → g < w.heap.size → (Value.slice A n c).ownBlock = some g → B g) : rowAt w B A xs := fun j u hu => by
  rcases h.2 with ⟨_, h0⟩ | ⟨g, cap, cur, hv, hb, hg, _⟩
  · have hl := h.1
    rw [h0, Nat.zero_mul] at hl
    rw [List.eq_nil_of_length_eq_zero hl] at hu
    simp at hu
  · injection hv with hA hn hc
    subst hA
    have hlt : g < w.heap.size := by
      rcases Nat.lt_or_ge g w.heap.size with hlt | hge
      · exact hlt
      · rw [Array.getElem?_eq_none hge] at hg; cases hg
    exact ⟨g, 0, rfl, hB g hb hlt rfl, by
      have := h.cells (g := g) rfl j u hu
      unfold Addr.add at this
      split at this
      · rename_i h0; subst h0; exact this
      · exact this⟩

theorem rowAt.of_own' {base : Nat} {e : TypeId} {size n : Nat} {v : Value} (h : w.ownsRow base e size v n xs) (hB : ∀ g, base ≤ g → g < w.heap.size → v.ownBlock = some g → B g) : ∃ A c, v = .slice A n c ∧ rowAt w B A xs ∧ n ≤ c := by
  rcases h.2 with ⟨rfl, rfl⟩ | ⟨g, cap, cur, rfl, _, _, hc, _⟩
  · exact ⟨none, 0, rfl, rowAt.of_own h hB, Nat.le_refl _⟩
  · exact ⟨some ⟨g, 0, none⟩, cap, rfl, rowAt.of_own h hB, hc⟩

theorem rowAt.mid {cs ys zs : List Value} (h : rowAt w B A (ys ++ (cs ++ zs))) : ∀ j u, cs[j]? = some u → ∃ b off, A = some ⟨b, off, none⟩ ∧ B b ∧ w.cell? ⟨b, off + (ys.length + j), none⟩ = some u := fun j u hu => by
  refine h (ys.length + j) u ?_
  have hj : j < cs.length := (List.getElem?_eq_some_iff.1 hu).1
  rw [List.getElem?_append_right (by omega), List.getElem?_append_left (by omega)]
  rw [show ys.length + j - ys.length = j from by omega]
  exact hu
end

/-- The cells of keys. -/
def keyCells : List Ky → List Value
  | [] => []
  | k :: ks => .int .i64 k.kind :: .string k.text :: keyCells ks

theorem keyCells_append (ks ls : List Ky) : keyCells (ks ++ ls) = keyCells ks ++ keyCells ls := by
  induction ks with
  | nil => rfl
  | cons k ks ih => simp [keyCells, ih]

theorem keyCells_length (ks : List Ky) : (keyCells ks).length = ks.length * 2 := by
  induction ks with
  | nil => rfl
  | cons k ks ih => simp [keyCells, ih]; omega

theorem keyCells_at (ks : List Ky) (i : Nat) (h : i < ks.length) : (keyCells ks)[i * 2]? = some (.int .i64 ks[i].kind) ∧ (keyCells ks)[i * 2 + 1]? = some (.string ks[i].text) := by
  induction ks generalizing i with
  | nil => simp at h
  | cons k ks ih =>
    cases i with
    | zero => simp [keyCells]
    | succ i =>
      have := ih i (by simpa using h)
      simpa [keyCells, Nat.add_mul, Nat.add_right_comm] using this

/-- A key's cells in a row of keys. -/
theorem rowAt.key {w : World} {B : Nat → Prop} {A : Option Addr} {ks : List Ky} (h : rowAt w B A (keyCells ks)) (i : Nat) (hi : i < ks.length) :
    ∃ b off, A = some ⟨b, off, none⟩ ∧ B b ∧ w.cell? ⟨b, off + i * 2, none⟩ = some (.int .i64 ks[i].kind) ∧ w.cell? ⟨b, off + i * 2 + 1, none⟩ = some (.string ks[i].text) := by
  obtain ⟨h0, h1⟩ := keyCells_at ks i hi
  obtain ⟨b, off, rfl, hb, hc⟩ := h _ _ h0
  obtain ⟨b', off', e, _, hc'⟩ := h _ _ h1
  injection e with e
  injection e with e1 e2
  subst e1 e2
  exact ⟨b, off, rfl, hb, hc, hc'⟩

/-! ### Types of package impl: six cells -/
mutual
def repI (w : World) (B : Nat → Prop) : Tr → List Value → Prop
  | .mk k ks l m, cs => ∃ nm tx A1 c1 A2 c2 A3 c3 xs ys, cs = [.int .i64 k, .string nm, .string tx, .slice A1 ks.length c1, .slice A2 l.length c2, .slice A3 m.length c3] ∧
      (nm.size ≤ 1048576 ∧ tx.size ≤ 1048576 ∧ ks.length ≤ c1 ∧ l.length ≤ c2 ∧ m.length ≤ c3) ∧ rowAt w B A1 (keyCells ks) ∧ rowAt w B A2 xs ∧ repIs w B l xs ∧ rowAt w B A3 ys ∧ repIs w B m ys
def repIs (w : World) (B : Nat → Prop) : List Tr → List Value → Prop
  | [], xs => xs = []
  | t :: l, xs => ∃ cs ys, xs = cs ++ ys ∧ repI w B t cs ∧ repIs w B l ys
end

/-! ### Types of package spec: four cells -/
mutual
def repS (w : World) (B : Nat → Prop) : Tr → List Value → Prop
  | .mk k ks l m, cs => ∃ A1 c1 A2 c2 A3 c3 xs ys, cs = [.int .i64 k, .slice A1 ks.length c1, .slice A2 l.length c2, .slice A3 m.length c3] ∧
      (ks.length ≤ c1 ∧ l.length ≤ c2 ∧ m.length ≤ c3) ∧ rowAt w B A1 (keyCells ks) ∧ rowAt w B A2 xs ∧ repSs w B l xs ∧ rowAt w B A3 ys ∧ repSs w B m ys
def repSs (w : World) (B : Nat → Prop) : List Tr → List Value → Prop
  | [], xs => xs = []
  | t :: l, xs => ∃ cs ys, xs = cs ++ ys ∧ repS w B t cs ∧ repSs w B l ys
end

theorem repI.length {w : World} {B : Nat → Prop} {t : Tr} {cs : List Value} (h : repI w B t cs) : cs.length = 6 := by
  cases t; simp only [repI] at h; obtain ⟨_, _, _, _, _, _, _, _, _, _, rfl, _⟩ := h; rfl
theorem repS.length {w : World} {B : Nat → Prop} {t : Tr} {cs : List Value} (h : repS w B t cs) : cs.length = 4 := by
  cases t; simp only [repS] at h; obtain ⟨_, _, _, _, _, _, _, _, rfl, _⟩ := h; rfl

theorem repIs.length {w : World} {B : Nat → Prop} : ∀ {l : List Tr} {xs : List Value}, repIs w B l xs → xs.length = l.length * 6
  | [], xs, h => by simp only [repIs] at h; subst h; rfl
  | t :: l, xs, h => by
    simp only [repIs] at h
    obtain ⟨cs, ys, rfl, h1, h2⟩ := h
    have := h1.length
    have := repIs.length h2
    simp; omega
theorem repSs.length {w : World} {B : Nat → Prop} : ∀ {l : List Tr} {xs : List Value}, repSs w B l xs → xs.length = l.length * 4
  | [], xs, h => by simp only [repSs] at h; subst h; rfl
  | t :: l, xs, h => by
    simp only [repSs] at h
    obtain ⟨cs, ys, rfl, h1, h2⟩ := h
    have := h1.length
    have := repSs.length h2
    simp; omega

theorem repIs.snoc {w : World} {B : Nat → Prop} {t : Tr} {cs : List Value} (ht : repI w B t cs) : ∀ {l : List Tr} {xs : List Value}, repIs w B l xs → repIs w B (l ++ [t]) (xs ++ cs)
  | [], xs, h => by simp only [repIs] at h; subst h; exact ⟨cs, [], by simp, ht, by simp [repIs]⟩
  | t' :: l, xs, h => by
    simp only [repIs] at h
    obtain ⟨cs', ys, rfl, h1, h2⟩ := h
    exact ⟨cs', ys ++ cs, by simp, h1, repIs.snoc ht h2⟩
theorem repSs.snoc {w : World} {B : Nat → Prop} {t : Tr} {cs : List Value} (ht : repS w B t cs) : ∀ {l : List Tr} {xs : List Value}, repSs w B l xs → repSs w B (l ++ [t]) (xs ++ cs)
  | [], xs, h => by simp only [repSs] at h; subst h; exact ⟨cs, [], by simp, ht, by simp [repSs]⟩
  | t' :: l, xs, h => by
    simp only [repSs] at h
    obtain ⟨cs', ys, rfl, h1, h2⟩ := h
    exact ⟨cs', ys ++ cs, by simp, h1, repSs.snoc ht h2⟩
theorem repSs.append {w : World} {B : Nat → Prop} {l' : List Tr} {ys : List Value} (ht : repSs w B l' ys) : ∀ {l : List Tr} {xs : List Value}, repSs w B l xs → repSs w B (l ++ l') (xs ++ ys)
  | [], xs, h => by simp only [repSs] at h; subst h; exact ht
  | t' :: l, xs, h => by
    simp only [repSs] at h
    obtain ⟨cs', zs, rfl, h1, h2⟩ := h
    exact ⟨cs', zs ++ ys, by simp, h1, repSs.append ht h2⟩

/-- The i-th of a row of types. -/
theorem repIs.split {w : World} {B : Nat → Prop} : ∀ {l : List Tr} {xs : List Value}, repIs w B l xs → ∀ (i : Nat) (hi : i < l.length), ∃ ys cs zs, xs = ys ++ (cs ++ zs) ∧ ys.length = i * 6 ∧ repI w B l[i] cs
  | t :: l, xs, h, i, hi => by
    simp only [repIs] at h
    obtain ⟨cs', ys, rfl, h1, h2⟩ := h
    cases i with
    | zero => exact ⟨[], cs', ys, rfl, rfl, h1⟩
    | succ i =>
      obtain ⟨ys', cs, zs, rfl, hl, hr⟩ := repIs.split h2 i (by simpa using hi)
      have := h1.length
      exact ⟨cs' ++ ys', cs, zs, by simp, by simp; omega, hr⟩
theorem repSs.split {w : World} {B : Nat → Prop} : ∀ {l : List Tr} {xs : List Value}, repSs w B l xs → ∀ (i : Nat) (hi : i < l.length), ∃ ys cs zs, xs = ys ++ (cs ++ zs) ∧ ys.length = i * 4 ∧ repS w B l[i] cs
  | t :: l, xs, h, i, hi => by
    simp only [repSs] at h
    obtain ⟨cs', ys, rfl, h1, h2⟩ := h
    cases i with
    | zero => exact ⟨[], cs', ys, rfl, rfl, h1⟩
    | succ i =>
      obtain ⟨ys', cs, zs, rfl, hl, hr⟩ := repSs.split h2 i (by simpa using hi)
      have := h1.length
      exact ⟨cs' ++ ys', cs, zs, by simp, by simp; omega, hr⟩

theorem repI.shape {w : World} {B : Nat → Prop} {t : Tr} {cs : List Value} (h : repI w B t cs) :
    ∃ nm tx A1 c1 A2 c2 A3 c3, cs = [.int .i64 t.kind, .string nm, .string tx, .slice A1 t.keys.length c1, .slice A2 t.kids.length c2, .slice A3 t.more.length c3] := by
  cases t; simp only [repI] at h; obtain ⟨nm, tx, A1, c1, A2, c2, A3, c3, _, _, rfl, _⟩ := h; exact ⟨nm, tx, A1, c1, A2, c2, A3, c3, rfl⟩
theorem repS.shape {w : World} {B : Nat → Prop} {t : Tr} {cs : List Value} (h : repS w B t cs) :
    ∃ A1 c1 A2 c2 A3 c3, cs = [.int .i64 t.kind, .slice A1 t.keys.length c1, .slice A2 t.kids.length c2, .slice A3 t.more.length c3] := by
  cases t; simp only [repS] at h; obtain ⟨A1, c1, A2, c2, A3, c3, _, _, rfl, _⟩ := h; exact ⟨A1, c1, A2, c2, A3, c3, rfl⟩

/-- The cells of the i-th. -/
theorem repIs.at_ {w : World} {B : Nat → Prop} {A : Option Addr} {l : List Tr} {xs : List Value} (h : repIs w B l xs) (hr : rowAt w B A xs) (i : Nat) (hi : i < l.length) :
    ∃ b off nm tx A1 c1 A2 c2 A3 c3, A = some ⟨b, off, none⟩ ∧ B b ∧ repI w B l[i] [.int .i64 l[i].kind, .string nm, .string tx, .slice A1 l[i].keys.length c1, .slice A2 l[i].kids.length c2, .slice A3 l[i].more.length c3] ∧
      w.cell? ⟨b, off + i * 6, none⟩ = some (.int .i64 l[i].kind) ∧ w.cell? ⟨b, off + i * 6 + 1, none⟩ = some (.string nm) ∧ w.cell? ⟨b, off + i * 6 + 2, none⟩ = some (.string tx) ∧
      w.cell? ⟨b, off + i * 6 + 3, none⟩ = some (.slice A1 l[i].keys.length c1) ∧ w.cell? ⟨b, off + i * 6 + 4, none⟩ = some (.slice A2 l[i].kids.length c2) ∧ w.cell? ⟨b, off + i * 6 + 5, none⟩ = some (.slice A3 l[i].more.length c3) := by
  obtain ⟨ys, cs, zs, rfl, hl, ht⟩ := h.split i hi
  obtain ⟨nm, tx, A1, c1, A2, c2, A3, c3, rfl⟩ := ht.shape
  obtain ⟨b, off, rfl, hb, h0⟩ := hr.mid 0 _ rfl
  have at' : ∀ (j : Nat) (u : Value), [Value.int .i64 l[i].kind, .string nm, .string tx, .slice A1 l[i].keys.length c1, .slice A2 l[i].kids.length c2, .slice A3 l[i].more.length c3][j]? = some u → w.cell? ⟨b, off + i * 6 + j, none⟩ = some u := fun j u hu => by
    obtain ⟨b', off', e, _, hc⟩ := hr.mid j u hu
    injection e with e
    injection e with e1 e2
    subst e1 e2
    rw [hl, ← Nat.add_assoc] at hc
    exact hc
  exact ⟨b, off, nm, tx, A1, c1, A2, c2, A3, c3, rfl, hb, ht, at' 0 _ rfl, at' 1 _ rfl, at' 2 _ rfl, at' 3 _ rfl, at' 4 _ rfl, at' 5 _ rfl⟩
theorem repSs.at_ {w : World} {B : Nat → Prop} {A : Option Addr} {l : List Tr} {xs : List Value} (h : repSs w B l xs) (hr : rowAt w B A xs) (i : Nat) (hi : i < l.length) :
    ∃ b off A1 c1 A2 c2 A3 c3, A = some ⟨b, off, none⟩ ∧ B b ∧ repS w B l[i] [.int .i64 l[i].kind, .slice A1 l[i].keys.length c1, .slice A2 l[i].kids.length c2, .slice A3 l[i].more.length c3] ∧
      w.cell? ⟨b, off + i * 4, none⟩ = some (.int .i64 l[i].kind) ∧ w.cell? ⟨b, off + i * 4 + 1, none⟩ = some (.slice A1 l[i].keys.length c1) ∧ w.cell? ⟨b, off + i * 4 + 2, none⟩ = some (.slice A2 l[i].kids.length c2) ∧
      w.cell? ⟨b, off + i * 4 + 3, none⟩ = some (.slice A3 l[i].more.length c3) := by
  obtain ⟨ys, cs, zs, rfl, hl, ht⟩ := h.split i hi
  obtain ⟨A1, c1, A2, c2, A3, c3, rfl⟩ := ht.shape
  obtain ⟨b, off, rfl, hb, h0⟩ := hr.mid 0 _ rfl
  have at' : ∀ (j : Nat) (u : Value), [Value.int .i64 l[i].kind, .slice A1 l[i].keys.length c1, .slice A2 l[i].kids.length c2, .slice A3 l[i].more.length c3][j]? = some u → w.cell? ⟨b, off + i * 4 + j, none⟩ = some u := fun j u hu => by
    obtain ⟨b', off', e, _, hc⟩ := hr.mid j u hu
    injection e with e
    injection e with e1 e2
    subst e1 e2
    rw [hl, ← Nat.add_assoc] at hc
    exact hc
  exact ⟨b, off, A1, c1, A2, c2, A3, c3, rfl, hb, ht, at' 0 _ rfl, at' 1 _ rfl, at' 2 _ rfl, at' 3 _ rfl⟩

/-! ### Frames -/
section
variable {w w' : World} {B B' : Nat → Prop}
mutual
theorem repI.keep (hB : ∀ b, B b → B' b) (hk : ∀ p : Addr, B p.block → w'.cell? p = w.cell? p) : ∀ {t : Tr} {cs : List Value}, repI w B t cs → repI w' B' t cs
  | .mk k ks l m, cs, h => by
    simp only [repI] at h ⊢
    obtain ⟨nm, tx, A1, c1, A2, c2, A3, c3, xs, ys, e, hs, h1, h2, h3, h4, h5⟩ := h
    exact ⟨nm, tx, A1, c1, A2, c2, A3, c3, xs, ys, e, hs, h1.keep hB hk, h2.keep hB hk, repIs.keep hB hk h3, h4.keep hB hk, repIs.keep hB hk h5⟩
theorem repIs.keep (hB : ∀ b, B b → B' b) (hk : ∀ p : Addr, B p.block → w'.cell? p = w.cell? p) : ∀ {l : List Tr} {xs : List Value}, repIs w B l xs → repIs w' B' l xs
  | [], xs, h => by simp only [repIs] at h ⊢; exact h
  | t :: l, xs, h => by
    simp only [repIs] at h ⊢
    obtain ⟨cs, ys, e, h1, h2⟩ := h
    exact ⟨cs, ys, e, repI.keep hB hk h1, repIs.keep hB hk h2⟩
end
mutual
theorem repS.keep (hB : ∀ b, B b → B' b) (hk : ∀ p : Addr, B p.block → w'.cell? p = w.cell? p) : ∀ {t : Tr} {cs : List Value}, repS w B t cs → repS w' B' t cs
  | .mk k ks l m, cs, h => by
    simp only [repS] at h ⊢
    obtain ⟨A1, c1, A2, c2, A3, c3, xs, ys, e, hs, h1, h2, h3, h4, h5⟩ := h
    exact ⟨A1, c1, A2, c2, A3, c3, xs, ys, e, hs, h1.keep hB hk, h2.keep hB hk, repSs.keep hB hk h3, h4.keep hB hk, repSs.keep hB hk h5⟩
theorem repSs.keep (hB : ∀ b, B b → B' b) (hk : ∀ p : Addr, B p.block → w'.cell? p = w.cell? p) : ∀ {l : List Tr} {xs : List Value}, repSs w B l xs → repSs w' B' l xs
  | [], xs, h => by simp only [repSs] at h ⊢; exact h
  | t :: l, xs, h => by
    simp only [repSs] at h ⊢
    obtain ⟨cs, ys, e, h1, h2⟩ := h
    exact ⟨cs, ys, e, repS.keep hB hk h1, repSs.keep hB hk h2⟩
end
end

section
variable {w w' : World} {B B' X : Nat → Prop}
theorem repI.kept {t : Tr} {cs : List Value} (h : repI w B t cs) (hb : Kept X w w') (hX : ∀ b, B b → X b) (hB : ∀ b, B b → B' b) : repI w' B' t cs := h.keep hB fun _ hp => hb.cell (hX _ hp)
theorem repIs.kept {l : List Tr} {xs : List Value} (h : repIs w B l xs) (hb : Kept X w w') (hX : ∀ b, B b → X b) (hB : ∀ b, B b → B' b) : repIs w' B' l xs := h.keep hB fun _ hp => hb.cell (hX _ hp)
theorem repS.kept {t : Tr} {cs : List Value} (h : repS w B t cs) (hb : Kept X w w') (hX : ∀ b, B b → X b) (hB : ∀ b, B b → B' b) : repS w' B' t cs := h.keep hB fun _ hp => hb.cell (hX _ hp)
theorem repSs.kept {l : List Tr} {xs : List Value} (h : repSs w B l xs) (hb : Kept X w w') (hX : ∀ b, B b → X b) (hB : ∀ b, B b → B' b) : repSs w' B' l xs := h.keep hB fun _ hp => hb.cell (hX _ hp)
theorem rowAt.kept {A : Option Addr} {xs : List Value} (h : rowAt w B A xs) (hb : Kept X w w') (hX : ∀ b, B b → X b) (hB : ∀ b, B b → B' b) : rowAt w' B' A xs := h.keep hB fun _ hp => hb.cell (hX _ hp)
end

/-! ### Blocks known whole; rows of the call's own -/

/-- A block known whole. -/
def Blk (w : World) (g : Nat) (t : TypeId) (cs : Array Value) : Prop := w.heap[g]? = some (.cells cs t (0, 0))

section
variable {w w' : World} {g : Nat} {t : TypeId} {cs : Array Value}
theorem Blk.lt (h : Blk w g t cs) : g < w.heap.size := by
  rcases Nat.lt_or_ge g w.heap.size with hlt | hge
  · exact hlt
  · unfold Blk at h; rw [Array.getElem?_eq_none hge] at h; cases h
theorem Blk.cell (h : Blk w g t cs) (i : Nat) : w.cell? ⟨g, i, none⟩ = cs[i]? := by
  unfold Blk at h; simp [World.cell?, h]
theorem Blk.frozen (h : Blk w g t cs) (i : Nat) : w.frozen? ⟨g, i, none⟩ = false := by
  unfold Blk at h; simp [World.frozen?, h]
theorem Blk.new (w : World) (t : TypeId) (cs : Array Value) : Blk (w.alloc (.cells cs t)) w.heap.size t cs := heap_alloc_new w _
theorem Blk.alloc (h : Blk w g t cs) (o : Obj) : Blk (w.alloc o) g t cs := (Below.heap_alloc w o g h.lt).trans h
theorem Blk.drew (h : Blk w g t cs) : Blk w.drew g t cs := h
theorem Blk.set_ (h : Blk w g t cs) (i : Nat) (u : Value) : Blk (w.setCell ⟨g, i, none⟩ u) g t (cs.setIfInBounds i u) := by
  unfold Blk at h ⊢
  simp [World.setCell, Array.getElem?_modify, h]
theorem Blk.far (h : Blk w g t cs) {p : Addr} (hp : g ≠ p.block) (u : Value) : Blk (w.setCell p u) g t cs := (Below.heap_setCell w p u g hp).trans h
theorem Blk.below {B : Nat} (h : Blk w g t cs) (hb : Below B w w') (hg : g < B) : Blk w' g t cs := (hb.block g hg).trans h
theorem Blk.kept {X : Nat → Prop} (h : Blk w g t cs) (hb : Kept X w w') (hg : X g) : Blk w' g t cs := (hb.block g hg).trans h
theorem Blk.grown {row : Option Nat} (h : Blk w g t cs) (hb : w.grownBy w' row) (hg : some g ≠ row) : Blk w' g t cs := (hb.block g h.lt hg).trans h
end

section
variable {w w' : World} {base : Nat} {e : TypeId} {size n : Nat} {v : Value} {xs : List Value}
/-- A block below the base is not the row's. -/
theorem own_ne (h : w.ownsRow base e size v n xs) {g : Nat} (hg : g < base) : some g ≠ v.ownBlock := fun e => by
  have := (h.lt g e.symm).1; omega
/-- A block that is not there yet is not the row's. -/
theorem own_ne' (h : w.ownsRow base e size v n xs) {g : Nat} (hg : w.heap.size ≤ g) : some g ≠ v.ownBlock := fun e => by
  have := (h.lt g e.symm).2; omega
theorem own_kept (h : w.ownsRow base e size v n xs) {X : Nat → Prop} (hb : Kept X w w') (hX : ∀ g, base ≤ g → g < w.heap.size → v.ownBlock = some g → X g) : w'.ownsRow base e size v n xs := by
  obtain ⟨h1, h2⟩ := h
  refine ⟨h1, ?_⟩
  rcases h2 with h2 | ⟨g, cap, cur, hv, hg, hh, r⟩
  · exact Or.inl h2
  · refine Or.inr ⟨g, cap, cur, hv, hg, ?_, r⟩
    rw [hb.block g (hX g hg (Blk.lt hh) (by rw [hv]; rfl))]
    exact hh
theorem own_below (h : w.ownsRow base e size v n xs) {C : Nat} (hb : Below C w w') (hC : w.heap.size ≤ C) : w'.ownsRow base e size v n xs :=
  own_kept h (Kept.of_below (X := fun b => b < C) hb fun _ h => h) fun _ _ hg _ => Nat.lt_of_lt_of_le hg hC
end

/-- The cells of a new block, its number spelled in the walk's way. -/
theorem news_at (w : World) (cs : List Value) (t : TypeId) {g : Nat} (hg : g = w.heap.size) : ∀ j u, cs[j]? = some u → (w.alloc (.cells cs.toArray t)).cell? ((⟨g, 0, none⟩ : Addr).add j) = some u := by
  subst hg
  exact World.news_of_block (cs := cs.toArray) (heap_alloc_new w _)

/-- A loop that appends to a row of its own, the row's slice in a block of the call's own: what holds at a round's head. w0: the world ahead of the loop; g: the block; out: its cells, as a function of the slice. -/
structure Lp (w0 : World) (g : Nat) (T : TypeId) (out : Value → Array Value) (e : TypeId) (size : Nat) (v : Value) (j : Nat) (zs : List Value) (wr : World) : Prop where
  kept : Kept (fun b => b < w0.heap.size ∧ b ≠ g) w0 wr
  out : Blk wr g T (out v)
  own : wr.ownsRow w0.heap.size e size v j zs

theorem Lp.start {w0 : World} {g : Nat} {T : TypeId} {out : Value → Array Value} (e : TypeId) (size : Nat) (h : Blk w0 g T (out (.slice none 0 0))) : Lp w0 g T out e size (.slice none 0 0) 0 [] w0 :=
  ⟨Kept.refl _ _, h, World.ownsRow_nil _ _ _ _⟩

theorem Lp.push {w0 wr w1 w2 : World} {g i : Nat} {T : TypeId} {out : Value → Array Value} {e : TypeId} {size j m cap gg : Nat} {v : Value} {zs ys : List Value} (h : Lp w0 g T out e size v j zs wr) (hg : g < w0.heap.size)
    (hb : Below wr.heap.size wr w1) (o : Obj) (hgr : (w1.alloc o).grownBy w2 v.ownBlock) (hown : w2.ownsRow w0.heap.size e size (.slice (some ⟨gg, 0, none⟩) m cap) m ys) (hat : v.ownBlock = some gg ∨ gg = w1.heap.size + 1)
    (hi : (out v).setIfInBounds i (.slice (some ⟨gg, 0, none⟩) m cap) = out (.slice (some ⟨gg, 0, none⟩) m cap)) :
    Lp w0 g T out e size (.slice (some ⟨gg, 0, none⟩) m cap) m ys (w2.setCell ⟨g, i, none⟩ (.slice (some ⟨gg, 0, none⟩) m cap)) ∧
    Kept (fun b => b < w1.heap.size ∧ b ≠ g ∧ v.ownBlock ≠ some b) w1 (w2.setCell ⟨g, i, none⟩ (.slice (some ⟨gg, 0, none⟩) m cap)) ∧
    (∀ b, b < w1.heap.size → v.ownBlock ≠ some b → (Value.slice (some ⟨gg, 0, none⟩) m cap).ownBlock ≠ some b) := by
  have hs := h.kept.size
  have hs1 := hb.size
  have K1 : Kept (fun b => b < w0.heap.size ∧ b ≠ g) w0 w1 := h.kept.trans (Kept.of_below hb fun b hb => by omega)
  have hown1 : w1.ownsRow w0.heap.size e size v j zs := own_below h.own hb (Nat.le_refl _)
  refine ⟨⟨?_, ?_, ownsRow_setCell_below hown hg _⟩, ?_, fun b hlt hne he => ?_⟩
  · refine Kept.setCell ?_ (by simp) _
    refine (K1.alloc (fun b hb => by omega) o).grown hgr (fun b hb => by simp; omega) fun k hk hX => ?_
    exact own_ne hown1 hX.1 hk.symm
  · have := (((h.out.below hb h.out.lt).alloc o).grown hgr (own_ne h.own hg)).set_ i (.slice (some ⟨gg, 0, none⟩) m cap)
    rwa [hi] at this
  · refine Kept.setCell ?_ (by simp) _
    exact ((Kept.refl _ w1).alloc (fun b hb => hb.1) o).grown hgr (fun b hb => by simp; omega) fun k hk hX => hX.2.2 hk
  · simp only [Value.ownBlock, Option.some.injEq] at he
    subst he
    rcases hat with hat | hat
    · exact hne hat
    · omega

end Go.Proofs.YtpmfjbmfjfhghaaGreat
