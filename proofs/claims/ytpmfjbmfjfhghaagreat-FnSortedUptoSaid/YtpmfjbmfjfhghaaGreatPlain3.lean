/-
  PLAIN LAWS (3): a type as the package keeps it: the properties of objects by their keys, the types of any types in order.
-/
import Derived.Test.YtpmfjbmfjfhghaaGreatPlain2
namespace Go.Proofs.YtpmfjbmfjfhghaaGreat

/-! ### A sort of lists -/
section
variable {α : Type} (le : α → α → Bool)

def ins (x : α) : List α → List α
  | [] => [x]
  | y :: l => if le x y then x :: y :: l else y :: ins x l
def isort : List α → List α
  | [] => []
  | x :: l => ins le x (isort l)

theorem ins_perm (x : α) (l : List α) : (ins le x l).Perm (x :: l) := by
  induction l with
  | nil => exact .refl _
  | cons y l ih =>
    unfold ins
    split
    · exact .refl _
    · exact (ih.cons y).trans (.swap _ _ _)

theorem isort_perm (l : List α) : (isort le l).Perm l := by
  induction l with
  | nil => exact .refl _
  | cons x l ih => exact (ins_perm le x _).trans (ih.cons x)

theorem isort_length (l : List α) : (isort le l).length = l.length := (isort_perm le l).length_eq

theorem ins_sorted (x : α) (l : List α) (h : l.Pairwise fun a b => le a b = true) (tot : ∀ y ∈ l, le x y = false → le y x = true) (tr : ∀ y ∈ l, ∀ z ∈ l, le x y = true → le y z = true → le x z = true) : (ins le x l).Pairwise fun a b => le a b = true := by
  induction l with
  | nil => simp [ins]
  | cons y l ih =>
    rw [List.pairwise_cons] at h
    unfold ins
    split
    · rename_i hxy
      rw [List.pairwise_cons, List.pairwise_cons]
      refine ⟨fun z hz => ?_, h.1, h.2⟩
      rcases List.mem_cons.1 hz with rfl | hz
      · exact hxy
      · exact tr y (by simp) z (by simp [hz]) hxy (h.1 z hz)
    · rename_i hxy
      rw [List.pairwise_cons]
      refine ⟨fun z hz => ?_, ih h.2 (fun y hy => tot y (by simp [hy])) fun y hy z hz => tr y (by simp [hy]) z (by simp [hz])⟩
      rcases List.mem_cons.1 ((ins_perm le x l).mem_iff.1 hz) with rfl | hz
      · exact tot y (by simp) (by simpa using hxy)
      · exact h.1 z hz

theorem isort_sorted (l : List α) (tot : ∀ x ∈ l, ∀ y ∈ l, le x y = false → le y x = true) (tr : ∀ x ∈ l, ∀ y ∈ l, ∀ z ∈ l, le x y = true → le y z = true → le x z = true) : (isort le l).Pairwise fun a b => le a b = true := by
  induction l with
  | nil => simp [isort]
  | cons x l ih =>
    have hm : ∀ {y}, y ∈ isort le l → y ∈ x :: l := fun hy => List.mem_cons_of_mem _ ((isort_perm le l).mem_iff.1 hy)
    exact ins_sorted le x _ (ih (fun x hx y hy => tot x (by simp [hx]) y (by simp [hy])) fun x hx y hy z hz => tr x (by simp [hx]) y (by simp [hy]) z (by simp [hz]))
      (fun y hy => tot x (by simp) y (hm hy)) fun y hy z hz => tr x (by simp) y (hm hy) z (hm hz)

theorem sorted_unique : ∀ {l m : List α}, l.Perm m → l.Pairwise (fun a b => le a b = true) → m.Pairwise (fun a b => le a b = true) → (∀ x ∈ l, ∀ y ∈ l, le x y = true → le y x = true → x = y) → l = m
  | [], m, h, _, _, _ => (List.nil_perm.1 h).symm
  | x :: l, m, h, hl, hm, anti => by
    cases m with
    | nil => exact absurd h.length_eq (by simp)
    | cons y m =>
      rw [List.pairwise_cons] at hl hm
      have hxy : x = y := by
        rcases List.mem_cons.1 (h.mem_iff.1 (List.mem_cons_self (a := x))) with e | hx
        · exact e
        · rcases List.mem_cons.1 (h.mem_iff.2 (List.mem_cons_self (a := y) (l := m))) with e | hy
          · exact e.symm
          · exact anti x (by simp) y (by simp [hy]) (hl.1 y hy) (hm.1 x hx)
      subst hxy
      rw [sorted_unique h.cons_inv hl.2 hm.2 fun a ha b hb => anti a (by simp [ha]) b (by simp [hb])]
end

/-! ### Types in order -/
def leT (x y : Tr) : Bool := decide (cmp x y ≤ 0)
def sortT (l : List Tr) : List Tr := isort leT l
def leK (p q : Ky × Tr) : Bool := decide (cmpK p.1 q.1 ≤ 0)
def sortK (l : List (Ky × Tr)) : List (Ky × Tr) := isort leK l

theorem leT_tot {x y : Tr} (hx : x.good) (hy : y.good) (h : leT x y = false) : leT y x = true := by
  have := cmp_linear.anti x y hx hy
  simp [leT] at h ⊢; omega
theorem leT_trans {x y z : Tr} (hx : x.good) (hy : y.good) (hz : z.good) (h : leT x y = true) (h' : leT y z = true) : leT x z = true := by
  simp [leT] at h h' ⊢
  exact (cmp_linear.tri x y z hx hy hz).le h h'
theorem leT_anti {x y : Tr} (hx : x.good) (hy : y.good) (h : leT x y = true) (h' : leT y x = true) : x = y := by
  have := cmp_linear.anti x y hx hy
  simp [leT] at h h'
  exact (cmp_linear.eq x y hx hy).1 (by omega)
theorem leK_tot {x y : Ky × Tr} (hx : x.1.ok) (hy : y.1.ok) (h : leK x y = false) : leK y x = true := by
  have := cmpK_linear.anti x.1 y.1 hx hy
  simp [leK] at h ⊢; omega
theorem leK_trans {x y z : Ky × Tr} (hx : x.1.ok) (hy : y.1.ok) (hz : z.1.ok) (h : leK x y = true) (h' : leK y z = true) : leK x z = true := by
  simp [leK] at h h' ⊢
  exact (cmpK_linear.tri x.1 y.1 z.1 hx hy hz).le h h'
theorem leK_anti {x y : Ky × Tr} (hx : x.1.ok) (hy : y.1.ok) (h : leK x y = true) (h' : leK y x = true) : x.1 = y.1 := by
  have := cmpK_linear.anti x.1 y.1 hx hy
  simp [leK] at h h'
  exact (cmpK_linear.eq x.1 y.1 hx hy).1 (by omega)

theorem sortT_sorted {l : List Tr} (h : ∀ t ∈ l, t.good) : (sortT l).Pairwise fun a b => leT a b = true :=
  isort_sorted leT l (fun x hx y hy => leT_tot (h x hx) (h y hy)) fun x hx y hy z hz => leT_trans (h x hx) (h y hy) (h z hz)
theorem sortT_unique {l m : List Tr} (h : ∀ t ∈ l, t.good) (hp : m.Perm l) (hs : m.Pairwise fun a b => leT a b = true) : m = sortT l :=
  sorted_unique leT (hp.trans (isort_perm leT l).symm) hs (sortT_sorted h) fun x hx y hy => leT_anti (h x (hp.mem_iff.1 hx)) (h y (hp.mem_iff.1 hy))

/-! ### A type as it is kept -/
mutual
def norm : Tr → Tr
  | .mk k ks l m =>
    if k = 8 then .mk k ks (sortT (norms l)) (norms m)
    else if k = 6 then .mk k ((sortK (ks.zip (norms l))).map (·.1)) ((sortK (ks.zip (norms l))).map (·.2)) (norms m)
    else .mk k ks (norms l) (norms m)
def norms : List Tr → List Tr
  | [] => []
  | t :: l => norm t :: norms l
end

theorem norms_map (l : List Tr) : norms l = l.map norm := by
  induction l with
  | nil => rfl
  | cons t l ih => simp only [norms, ih, List.map_cons]

theorem norms_length (l : List Tr) : (norms l).length = l.length := by rw [norms_map, List.length_map]

theorem norm_kind (t : Tr) : (norm t).kind = t.kind := by
  cases t with
  | mk k ks l m => simp only [norm]; split; · rfl
                   split <;> rfl

theorem sizes_map_perm {l m : List Tr} (h : l.Perm m) : Tr.sizes l = Tr.sizes m := by
  induction h with
  | nil => rfl
  | cons x _ ih => simp only [Tr.sizes, ih]
  | swap x y l => simp only [Tr.sizes]; omega
  | trans _ _ ih ih' => exact ih.trans ih'

theorem zip_snd_perm {ks : List Ky} {l : List Tr} (h : ks.length = l.length) : ((sortK (ks.zip l)).map (·.2)).Perm l := by
  have h1 := (isort_perm leK (ks.zip l)).map (·.2)
  rwa [show ((ks.zip l).map (·.2)) = l from List.map_snd_zip (by omega)] at h1
theorem zip_fst_perm {ks : List Ky} {l : List Tr} (h : ks.length = l.length) : ((sortK (ks.zip l)).map (·.1)).Perm ks := by
  have h1 := (isort_perm leK (ks.zip l)).map (·.1)
  rwa [show ((ks.zip l).map (·.1)) = ks from List.map_fst_zip (by omega)] at h1

theorem norm_good (t : Tr) : t.good → (norm t).good ∧ (norm t).size = t.size := by
  induction t using Tr.ind with
  | h k ks l m il im =>
    intro h
    simp only [Tr.good, Tr.goods_iff] at h
    obtain ⟨⟨h1, h2⟩, h3, h4, h5, h6⟩ := h
    have gl : Tr.goods (norms l) := by
      rw [Tr.goods_iff, norms_map]; intro t ht
      obtain ⟨u, hu, rfl⟩ := List.mem_map.1 ht
      exact (il u hu (h5 u hu)).1
    have gm : Tr.goods (norms m) := by
      rw [Tr.goods_iff, norms_map]; intro t ht
      obtain ⟨u, hu, rfl⟩ := List.mem_map.1 ht
      exact (im u hu (h6 u hu)).1
    have sz : ∀ {l : List Tr}, (∀ t ∈ l, t.good → (norm t).good ∧ (norm t).size = t.size) → (∀ t ∈ l, t.good) → Tr.sizes (norms l) = Tr.sizes l := by
      intro l
      induction l with
      | nil => intros; rfl
      | cons t l ih => intro a b; simp only [norms, Tr.sizes, (a t (by simp) (b t (by simp))).2, ih (fun t ht => a t (by simp [ht])) fun t ht => b t (by simp [ht])]
    have sl := sz il h5
    have sm := sz im h6
    have nl := norms_length l
    simp only [norm]
    by_cases h8 : k = 8
    · subst h8
      rw [if_pos rfl]
      have e : ks = [] := Classical.byContradiction fun c => by have := h3 c; omega
      subst e
      refine ⟨?_, ?_⟩
      · simp only [Tr.good]
        refine ⟨⟨.inl rfl, by simp⟩, by simp, by omega, ?_, gm⟩
        rw [Tr.goods_iff] at gl ⊢
        exact fun t ht => gl t ((isort_perm leT _).mem_iff.1 ht)
      · simp only [Tr.size]
        rw [show Tr.sizes (sortT (norms l)) = Tr.sizes (norms l) from sizes_map_perm (isort_perm leT _), sl, sm]
    · rw [if_neg h8]
      by_cases h6' : k = 6
      · subst h6'
        rw [if_pos rfl]
        have e := h4 rfl
        have p1 := zip_fst_perm (ks := ks) (l := norms l) (by omega)
        have p2 := zip_snd_perm (ks := ks) (l := norms l) (by omega)
        refine ⟨?_, ?_⟩
        · simp only [Tr.good]
          refine ⟨⟨.inr (by simp), fun k hk => h2 k (p1.mem_iff.1 hk)⟩, fun _ => trivial, fun _ => by simp, ?_, gm⟩
          rw [Tr.goods_iff] at gl ⊢
          exact fun t ht => gl t (p2.mem_iff.1 ht)
        · simp only [Tr.size]
          rw [sizes_map_perm p2, sl, sm]
      · rw [if_neg h6']
        have e : ks = [] := Classical.byContradiction fun c => h6' (h3 c)
        subst e
        refine ⟨?_, by simp only [Tr.size, sl, sm]⟩
        simp only [Tr.good]
        exact ⟨⟨.inl rfl, by simp⟩, by simp, fun h => absurd h h6', gl, gm⟩

theorem norms_good {l : List Tr} (h : ∀ t ∈ l, t.good) : ∀ t ∈ norms l, t.good := by
  intro t ht
  rw [norms_map] at ht
  obtain ⟨u, hu, rfl⟩ := List.mem_map.1 ht
  exact (norm_good u (h u hu)).1

theorem norms_sizes {l : List Tr} (h : ∀ t ∈ l, t.good) : Tr.sizes (norms l) = Tr.sizes l := by
  induction l with
  | nil => rfl
  | cons t l ih => simp only [norms, Tr.sizes, (norm_good t (h t (by simp))).2, ih fun t ht => h t (by simp [ht])]

end Go.Proofs.YtpmfjbmfjfhghaaGreat
