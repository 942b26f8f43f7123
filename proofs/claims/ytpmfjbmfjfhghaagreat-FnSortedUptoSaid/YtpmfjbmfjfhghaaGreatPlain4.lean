/-
  PLAIN LAWS (5): what is kept stays as it is; what is kept of a proper type is proper.
-/
import Derived.Test.YtpmfjbmfjfhghaaGreatPlain3
namespace Go.Proofs.YtpmfjbmfjfhghaaGreat

section
variable {α : Type} (le : α → α → Bool)
theorem isort_of_sorted : ∀ {l : List α}, l.Pairwise (fun a b => le a b = true) → isort le l = l
  | [], _ => rfl
  | x :: l, h => by
    rw [List.pairwise_cons] at h
    simp only [isort]
    rw [isort_of_sorted h.2]
    cases l with
    | nil => rfl
    | cons y l => simp [ins, h.1 y (by simp)]
end

theorem sortT_of_sorted {l : List Tr} (h : l.Pairwise fun a b => leT a b = true) : sortT l = l := isort_of_sorted leT h

theorem sortK_sorted {l : List (Ky × Tr)} (h : ∀ p ∈ l, p.1.ok) : (sortK l).Pairwise fun a b => leK a b = true :=
  isort_sorted leK l (fun x hx y hy => leK_tot (h x hx) (h y hy)) fun x hx y hy z hz => leK_trans (h x hx) (h y hy) (h z hz)

theorem zip_unzip' {α β : Type} (l : List (α × β)) : (l.map (·.1)).zip (l.map (·.2)) = l := by
  induction l with
  | nil => rfl
  | cons p l ih => simp [ih]

theorem norms_fix {l : List Tr} (h : ∀ t ∈ l, norm t = t) : norms l = l := by
  induction l with
  | nil => rfl
  | cons t l ih => simp only [norms, h t (by simp), ih fun t ht => h t (by simp [ht])]

theorem zip_fst_ok {ks : List Ky} {l : List Tr} (h : ∀ k ∈ ks, k.ok) : ∀ p ∈ ks.zip l, p.1.ok := fun _ hp => h _ (List.of_mem_zip hp).1

/-- What is kept stays as it is. -/
theorem norm_norm (t : Tr) : t.good → norm (norm t) = norm t := by
  induction t using Tr.ind with
  | h k ks l m il im =>
    intro h
    simp only [Tr.good, Tr.goods_iff] at h
    obtain ⟨⟨h1, h2⟩, h3, h4, h5, h6⟩ := h
    have fx : ∀ {l : List Tr}, (∀ t ∈ l, t.good → norm (norm t) = norm t) → (∀ t ∈ l, t.good) → ∀ t ∈ norms l, norm t = t := by
      intro l a b t ht
      rw [norms_map] at ht
      obtain ⟨u, hu, rfl⟩ := List.mem_map.1 ht
      exact a u hu (b u hu)
    have fl := fx il h5
    have fm := norms_fix (fx im h6)
    by_cases h8 : k = 8
    · subst h8
      have e1 : norm (.mk 8 ks l m) = .mk 8 ks (sortT (norms l)) (norms m) := by simp only [norm]; rw [if_pos trivial]
      rw [e1]
      simp only [norm]
      rw [if_pos trivial]
      have e2 : norms (sortT (norms l)) = sortT (norms l) := norms_fix fun t ht => fl t ((isort_perm leT _).mem_iff.1 ht)
      rw [e2, fm, sortT_of_sorted (sortT_sorted (norms_good h5))]
    · by_cases h6' : k = 6
      · subst h6'
        have e1 : norm (.mk 6 ks l m) = .mk 6 ((sortK (ks.zip (norms l))).map (·.1)) ((sortK (ks.zip (norms l))).map (·.2)) (norms m) := by simp only [norm]; rw [if_neg (by decide), if_pos trivial]
        rw [e1]
        simp only [norm]
        rw [if_neg (by decide), if_pos trivial]
        have e2 : norms ((sortK (ks.zip (norms l))).map (·.2)) = (sortK (ks.zip (norms l))).map (·.2) := norms_fix fun t ht => by
          obtain ⟨p, hp, rfl⟩ := List.mem_map.1 ht
          exact fl _ (List.of_mem_zip ((isort_perm leK _).mem_iff.1 hp)).2
        rw [e2, fm, zip_unzip', show sortK (sortK (ks.zip (norms l))) = sortK (ks.zip (norms l)) from isort_of_sorted leK (sortK_sorted (zip_fst_ok h2))]
      · have e1 : norm (.mk k ks l m) = .mk k ks (norms l) (norms m) := by simp only [norm]; rw [if_neg h8, if_neg h6']
        rw [e1]
        simp only [norm]
        rw [if_neg h8, if_neg h6', norms_fix fl, fm]

theorem norms_norms {l : List Tr} (h : ∀ t ∈ l, t.good) : norms (norms l) = norms l := norms_fix fun t ht => by
  rw [norms_map] at ht
  obtain ⟨u, hu, rfl⟩ := List.mem_map.1 ht
  exact norm_norm u (h u hu)

/-- What is kept of a proper type is proper. -/
theorem norm_proper (t : Tr) : ProperT t → ProperT (norm t) := by
  induction t using Tr.ind with
  | h k ks l m il im =>
    intro h
    simp only [ProperT, ProperTs_iff] at h
    obtain ⟨h1, h2, h3, h4, h5⟩ := h
    have pl : ProperTs (norms l) := by
      rw [ProperTs_iff, norms_map]; intro t ht
      obtain ⟨u, hu, rfl⟩ := List.mem_map.1 ht
      exact il u hu (h4 u hu)
    have pm : ProperTs (norms m) := by
      rw [ProperTs_iff, norms_map]; intro t ht
      obtain ⟨u, hu, rfl⟩ := List.mem_map.1 ht
      exact im u hu (h5 u hu)
    have nl := norms_length l
    have nm := norms_length m
    have mz : m = [] → norms m = [] := fun e => by rw [e]; rfl
    simp only [norm]
    by_cases h8 : k = 8
    · subst h8
      rw [if_pos rfl]
      simp only [ProperT, Shaped] at h1 ⊢
      have h1' := h1
      simp at h1'
      refine ⟨?_, h2, h3, ?_, pm⟩
      · refine .inr (.inr (.inr (.inr ⟨trivial, fun t ht => ?_, mz h1'.2.1, ?_⟩)))
        · have ht' := (isort_perm leT _).mem_iff.1 ht
          rw [norms_map] at ht'
          obtain ⟨u, hu, rfl⟩ := List.mem_map.1 ht'
          rw [norm_kind]
          exact h1'.1 u hu
        · rw [show (sortT (norms l)).length = (norms l).length from isort_length leT _, nl]
          exact h1'.2.2
      · rw [ProperTs_iff] at pl ⊢
        exact fun t ht => pl t ((isort_perm leT _).mem_iff.1 ht)
    · rw [if_neg h8]
      by_cases h6 : k = 6
      · subst h6
        rw [if_pos rfl]
        have h1' := h1
        simp [Shaped] at h1'
        have p1 := zip_fst_perm (ks := ks) (l := norms l) (by omega)
        have p2 := zip_snd_perm (ks := ks) (l := norms l) (by omega)
        simp only [ProperT]
        refine ⟨?_, fun h => absurd rfl h, KeysOk.of (fun k hk => h3.mem k (p1.mem_iff.1 hk)) (p1.nodup_iff.2 h3.nodup), ?_, pm⟩
        · simp only [Shaped]
          refine .inr (.inr (.inl ⟨trivial, by simp, ?_⟩))
          rcases h1'.2 with e | e
          · exact .inl (mz e)
          · exact .inr (by omega)
        · rw [ProperTs_iff] at pl ⊢
          exact fun t ht => pl t (p2.mem_iff.1 ht)
      · rw [if_neg h6]
        simp only [ProperT]
        refine ⟨?_, h2, h3, pl, pm⟩
        simp only [Shaped] at h1 ⊢
        rcases h1 with ⟨a, rfl, rfl⟩ | ⟨a, b⟩ | ⟨a, _⟩ | ⟨a, b, rfl⟩ | ⟨a, _⟩
        · exact .inl ⟨a, rfl, rfl⟩
        · exact .inr (.inl ⟨a, by omega⟩)
        · exact absurd a h6
        · exact .inr (.inr (.inr (.inl ⟨a, by omega, rfl⟩)))
        · exact absurd a h8

theorem bulks_perm {l m : List Tr} (h : l.Perm m) : Tr.bulks l = Tr.bulks m := by
  induction h with
  | nil => rfl
  | cons x _ ih => simp only [Tr.bulks, ih]
  | swap x y l => simp only [Tr.bulks]; omega
  | trans _ _ ih ih' => exact ih.trans ih'

theorem kyBulk_perm {l m : List Ky} (h : l.Perm m) : kyBulk l = kyBulk m := by
  induction h with
  | nil => rfl
  | cons x _ ih => simp only [kyBulk, ih]
  | swap x y l => simp only [kyBulk]; omega
  | trans _ _ ih ih' => exact ih.trans ih'

/-- What is kept is as great as what was given. -/
theorem norm_bulk (t : Tr) : t.good → (norm t).bulk = t.bulk := by
  induction t using Tr.ind with
  | h k ks l m il im =>
    intro h
    simp only [Tr.good, Tr.goods_iff] at h
    obtain ⟨_, h3, h4, h5, h6⟩ := h
    have sz : ∀ {l : List Tr}, (∀ t ∈ l, t.good → (norm t).bulk = t.bulk) → (∀ t ∈ l, t.good) → Tr.bulks (norms l) = Tr.bulks l := by
      intro l
      induction l with
      | nil => intros; rfl
      | cons t l ih => intro a b; simp only [norms, Tr.bulks, a t (by simp) (b t (by simp)), ih (fun t ht => a t (by simp [ht])) fun t ht => b t (by simp [ht])]
    have sl := sz il h5
    have sm := sz im h6
    have nl := norms_length l
    simp only [norm]
    by_cases h8 : k = 8
    · rw [if_pos h8]
      simp only [Tr.bulk]
      rw [show Tr.bulks (sortT (norms l)) = Tr.bulks (norms l) from bulks_perm (isort_perm leT _), sl, sm]
    · rw [if_neg h8]
      by_cases h6' : k = 6
      · rw [if_pos h6']
        have e := h4 h6'
        simp only [Tr.bulk]
        rw [kyBulk_perm (zip_fst_perm (ks := ks) (l := norms l) (by omega)), bulks_perm (zip_snd_perm (ks := ks) (l := norms l) (by omega)), sl, sm]
      · rw [if_neg h6']
        simp only [Tr.bulk, sl, sm]

end Go.Proofs.YtpmfjbmfjfhghaaGreat
