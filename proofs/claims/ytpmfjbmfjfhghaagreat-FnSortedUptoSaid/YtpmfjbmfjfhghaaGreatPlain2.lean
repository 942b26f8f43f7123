/-
  PLAIN LAWS (2): which trees are proper; a proper tree is one whose order is linear.
-/
import Derived.Test.YtpmfjbmfjfhghaaGreatPlain1
namespace Go.Proofs.YtpmfjbmfjfhghaaGreat

/-- 'spec.shaped'. -/
def Shaped : Tr → Prop
  | .mk k ks l m =>
    ((k = 1 ∨ k = 2 ∨ k = 3 ∨ k = 4) ∧ l = [] ∧ m = []) ∨ (k = 5 ∧ m.length ≤ 1) ∨ (k = 6 ∧ ks.length = l.length ∧ (m = [] ∨ m.length = 2)) ∨ (k = 7 ∧ l.length = 1 ∧ m = []) ∨
      (k = 8 ∧ (∀ t ∈ l, t.kind ≠ 8) ∧ m = [] ∧ l.length ≠ 1)

/-- Keys that are proper and different. -/
def KeysOk (ks : List Ky) : Prop := ∀ i (h : i < ks.length), ks[i].ok ∧ ∀ j (hj : j < i), ks[j]'(by omega) ≠ ks[i]

mutual
def ProperT : Tr → Prop
  | .mk k ks l m => Shaped (.mk k ks l m) ∧ (k ≠ 6 → ks = []) ∧ KeysOk ks ∧ ProperTs l ∧ ProperTs m
def ProperTs : List Tr → Prop
  | [] => True
  | t :: l => ProperT t ∧ ProperTs l
end

theorem ProperTs_iff (l : List Tr) : ProperTs l ↔ ∀ t ∈ l, ProperT t := by
  induction l with
  | nil => simp [ProperTs]
  | cons t l ih => simp [ProperTs, ih]

theorem ProperTs_append (l m : List Tr) : ProperTs (l ++ m) ↔ ProperTs l ∧ ProperTs m := by
  induction l with
  | nil => simp [ProperTs]
  | cons t l ih => simp [ProperTs, ih, and_assoc]

theorem KeysOk.mem {ks : List Ky} (h : KeysOk ks) : ∀ k ∈ ks, k.ok := fun k hk => by
  obtain ⟨i, hi, rfl⟩ := List.getElem_of_mem hk
  exact (h i hi).1

theorem KeysOk.nodup {ks : List Ky} (h : KeysOk ks) : ks.Nodup := by
  rw [List.Nodup, List.pairwise_iff_getElem]
  intro i j hi hj hij
  exact (h j hj).2 i hij

theorem KeysOk.of {ks : List Ky} (h : ∀ k ∈ ks, k.ok) (h' : ks.Nodup) : KeysOk ks := fun i hi => by
  rw [List.Nodup, List.pairwise_iff_getElem] at h'
  exact ⟨h _ (List.getElem_mem hi), fun j hj => h' j i (by omega) hi hj⟩

theorem ProperT.good (t : Tr) : ProperT t → t.good := by
  induction t using Tr.ind with
  | h k ks l m il im =>
    intro h
    simp only [ProperT] at h
    obtain ⟨h1, h2, h3, h4, h5⟩ := h
    simp only [Tr.good]
    refine ⟨⟨?_, h3.mem⟩, fun hks => Classical.byContradiction fun c => hks (h2 c), fun hk => ?_, ?_, ?_⟩
    · by_cases hk : k = 6
      · subst hk
        simp [Shaped] at h1
        exact .inr h1.1
      · exact .inl (h2 hk)
    · subst hk
      simp [Shaped] at h1
      exact h1.1
    · rw [Tr.goods_iff]
      rw [ProperTs_iff] at h4
      exact fun t ht => il t ht (h4 t ht)
    · rw [Tr.goods_iff]
      rw [ProperTs_iff] at h5
      exact fun t ht => im t ht (h5 t ht)

theorem ProperT.kind_mem {t : Tr} (h : ProperT t) : 1 ≤ t.kind ∧ t.kind ≤ 8 := by
  cases t
  simp only [ProperT, Shaped] at h
  simp only [Tr.kind]
  omega

mutual
theorem Tr.size_le_bulk : ∀ t : Tr, t.size ≤ t.bulk
  | .mk _ _ l m => by
    have := Tr.sizes_le_bulks l
    have := Tr.sizes_le_bulks m
    simp only [Tr.size, Tr.bulk]; omega
theorem Tr.sizes_le_bulks : ∀ l : List Tr, Tr.sizes l ≤ Tr.bulks l
  | [] => by simp [Tr.sizes, Tr.bulks]
  | t :: l => by
    have := Tr.size_le_bulk t
    have := Tr.sizes_le_bulks l
    simp only [Tr.sizes, Tr.bulks]; omega
end

theorem Tr.sizes_append (l m : List Tr) : Tr.sizes (l ++ m) = Tr.sizes l + Tr.sizes m := by
  induction l with
  | nil => simp [Tr.sizes]
  | cons t l ih => simp only [List.cons_append, Tr.sizes, ih]; omega

theorem Tr.bulks_append (l m : List Tr) : Tr.bulks (l ++ m) = Tr.bulks l + Tr.bulks m := by
  induction l with
  | nil => simp [Tr.bulks]
  | cons t l ih => simp only [List.cons_append, Tr.bulks, ih]; omega

end Go.Proofs.YtpmfjbmfjfhghaaGreat
