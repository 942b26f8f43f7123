/-
  PLAIN LAWS (6): which type contains which; the union of two types.
-/
import Derived.Test.YtpmfjbmfjfhghaaGreatPlain4
import Derived.Test.YtpmfjbmfjfhghaaGreatVal
namespace Go.Proofs.YtpmfjbmfjfhghaaGreat

theorem kind_mk (k : Int) (ks : List Ky) (l m : List Tr) : (Tr.mk k ks l m).kind = k := rfl
theorem kids_mk (k : Int) (ks : List Ky) (l m : List Tr) : (Tr.mk k ks l m).kids = l := rfl

/-- A type of values: proper, and as it is kept. -/
structure Kpt (t : Tr) : Prop where
  proper : ProperT t
  fix : norm t = t

theorem Kpt.good {t : Tr} (h : Kpt t) : t.good := ProperT.good t h.proper
theorem Kpt.of {t : Tr} (h : ProperT t) : Kpt (norm t) := ⟨norm_proper t h, norm_norm t (ProperT.good t h)⟩

/-- The parts of an any type. -/
theorem Kpt.any {t : Tr} (h : Kpt t) (hk : t.kind = 8) : ∃ l, t = .mk 8 [] l [] ∧ (∀ u ∈ l, Kpt u ∧ u.kind ≠ 8) ∧ l.length ≠ 1 ∧ l.Pairwise fun a b => leT a b = true := by
  cases t with
  | mk k ks l m =>
    simp only [Tr.kind] at hk
    subst hk
    have hg := h.good
    obtain ⟨hp, hf⟩ := h
    simp only [ProperT, ProperTs_iff] at hp
    obtain ⟨h1, h2, h3, h4, h5⟩ := hp
    obtain rfl := h2 (by decide)
    simp [Shaped] at h1
    obtain ⟨h6, rfl, h7⟩ := h1
    simp only [Tr.good, Tr.goods_iff] at hg
    simp only [norm] at hf
    rw [if_pos trivial] at hf
    simp only [norms, Tr.mk.injEq, true_and, and_true] at hf
    refine ⟨l, rfl, fun u hu => ⟨⟨h4 u hu, ?_⟩, h6 u hu⟩, h7, ?_⟩
    · rw [← hf] at hu
      have hu' := (isort_perm leT _).mem_iff.1 hu
      rw [norms_map] at hu'
      obtain ⟨v, hv, rfl⟩ := List.mem_map.1 hu'
      exact norm_norm v (hg.2.2.2.1 v hv)
    · rw [← hf]
      exact sortT_sorted (norms_good hg.2.2.2.1)

theorem Kpt.mk_any {l : List Tr} (h : ∀ u ∈ l, Kpt u ∧ u.kind ≠ 8) (h1 : l.length ≠ 1) (hs : l.Pairwise fun a b => leT a b = true) : Kpt (.mk 8 [] l []) := by
  refine ⟨?_, ?_⟩
  · simp only [ProperT, ProperTs, ProperTs_iff]
    refine ⟨?_, fun _ => trivial, fun i hi => absurd hi (by simp), fun u hu => (h u hu).1.proper, trivial⟩
    simp only [Shaped]
    exact .inr (.inr (.inr (.inr ⟨trivial, fun u hu => (h u hu).2, trivial, h1⟩)))
  · simp only [norm]
    rw [if_pos trivial]
    simp only [norms]
    rw [norms_fix fun u hu => (h u hu).1.fix, sortT_of_sorted hs]

theorem Kpt.eq {a b : Tr} (ha : Kpt a) (hb : Kpt b) : cmp a b = 0 ↔ a = b := cmp_linear.eq a b ha.good hb.good

theorem InT_any (l : List Tr) (v : Vl) : InT (.mk 8 [] l []) v ↔ l = [] ∨ ∃ t ∈ l, InT t v := by
  simp only [InT, InK]
  simp [InTs_map]
  refine or_congr Iff.rfl ⟨?_, ?_⟩
  · rintro ⟨f, ⟨t, ht, rfl⟩, h⟩; exact ⟨t, ht, h⟩
  · rintro ⟨t, ht, h⟩; exact ⟨_, ⟨t, ht, rfl⟩, h⟩

/-- 'Contains'. -/
def containsT (a b : Tr) : Prop := if a.kind = 8 then a.kids = [] ∨ b ∈ a.kids else a = b

theorem containsT_in {a b : Tr} (ha : Kpt a) (h : containsT a b) (v : Vl) (hv : InT b v) : InT a v := by
  unfold containsT at h
  split at h
  · rename_i hk
    obtain ⟨l, rfl, _⟩ := ha.any hk
    rw [InT_any]
    exact h.imp id fun h => ⟨b, h, hv⟩
  · subst h; exact hv

theorem containsT_self {a : Tr} (h : a.kind ≠ 8) : containsT a a := by
  unfold containsT
  rw [if_neg h]

theorem containsT_all (a : Tr) : containsT (.mk 8 [] [] []) a := by
  unfold containsT
  rw [kind_mk, if_pos rfl]
  exact .inl rfl

/-! ### The union -/

/-- Where a type stands in a row in order. -/
def place (l : List Tr) (t : Tr) : Nat := (l.takeWhile fun x => decide (cmp x t < 0)).length
def hasT (l : List Tr) (t : Tr) : Bool := l.any fun x => decide (cmp x t = 0)

def insT (l : List Tr) (t : Tr) : List Tr := l.take (place l t) ++ t :: l.drop (place l t)

/-- 'Any.Merge' with a type that is no any type. -/
def mergeT (l : List Tr) (t : Tr) : List Tr := if l = [] ∨ hasT l t = true then l else insT l t

/-- Two rows in order, put together. -/
def unionL : List Tr → List Tr → List Tr
  | [], m => m
  | x :: l, [] => x :: l
  | x :: l, y :: m =>
    if cmp x y < 0 then x :: unionL l (y :: m)
    else if cmp x y = 0 then x :: unionL l m
    else y :: unionL (x :: l) m
termination_by l m => l.length + m.length

theorem unionL_nil (l : List Tr) : unionL l [] = l := by cases l <;> simp [unionL]

/-- 'Any.Union'. -/
def unionT (l m : List Tr) : List Tr := if l = [] ∨ m = [] then [] else unionL l m

/-- 'Or' of two types of values. -/
def orT (a b : Tr) : Tr :=
  if a.kind = 8 then .mk 8 [] (if b.kind = 8 then unionT a.kids b.kids else mergeT a.kids b) []
  else if b.kind = 8 then .mk 8 [] (mergeT b.kids a) []
  else if cmp a b = 0 then a else .mk 8 [] (sortT [a, b]) []

theorem mem_unionL {l m : List Tr} (hl : ∀ t ∈ l, t.good) (hm : ∀ t ∈ m, t.good) (t : Tr) : t ∈ unionL l m ↔ t ∈ l ∨ t ∈ m := by
  fun_induction unionL l m with
  | case1 m => simp
  | case2 x l => simp
  | case3 x l y m h ih =>
    have := ih (fun t ht => hl t (by simp [ht])) hm
    simp only [List.mem_cons] at this ⊢
    rw [this]; simp only [or_assoc]
  | case4 x l y m h h' ih =>
    have := ih (fun t ht => hl t (by simp [ht])) fun t ht => hm t (by simp [ht])
    have e := (cmp_linear.eq x y (hl x (by simp)) (hm y (by simp))).1 h'
    subst e
    simp only [List.mem_cons, this]
    constructor
    · rintro (e | e | e)
      · exact .inl (.inl e)
      · exact .inl (.inr e)
      · exact .inr (.inr e)
    · rintro ((e | e) | (e | e))
      · exact .inl e
      · exact .inr (.inl e)
      · exact .inl e
      · exact .inr (.inr e)
  | case5 x l y m h h' ih =>
    have := ih hl fun t ht => hm t (by simp [ht])
    simp only [List.mem_cons] at this ⊢
    rw [this]
    constructor
    · rintro (e | e | e)
      · exact .inr (.inl e)
      · exact .inl e
      · exact .inr (.inr e)
    · rintro (e | e | e)
      · exact .inr (.inl e)
      · exact .inl e
      · exact .inr (.inr e)

theorem unionL_sorted {l m : List Tr} (hl : ∀ t ∈ l, t.good) (hm : ∀ t ∈ m, t.good) (sl : l.Pairwise fun a b => leT a b = true) (sm : m.Pairwise fun a b => leT a b = true) : (unionL l m).Pairwise fun a b => leT a b = true := by
  fun_induction unionL l m with
  | case1 m => exact sm
  | case2 x l => exact sl
  | case3 x l y m h ih =>
    have hl' : ∀ t ∈ l, t.good := fun t ht => hl t (by simp [ht])
    rw [List.pairwise_cons] at sl ⊢
    refine ⟨fun t ht => ?_, ih hl' hm sl.2 sm⟩
    rcases (mem_unionL hl' hm t).1 ht with ht | ht
    · exact sl.1 t ht
    · have hxy : leT x y = true := by simp [leT]; omega
      rcases List.mem_cons.1 ht with rfl | ht
      · exact hxy
      · exact leT_trans (hl x (by simp)) (hm y (by simp)) (hm t (by simp [ht])) hxy ((List.pairwise_cons.1 sm).1 t ht)
  | case4 x l y m h h' ih =>
    have hl' : ∀ t ∈ l, t.good := fun t ht => hl t (by simp [ht])
    have hm' : ∀ t ∈ m, t.good := fun t ht => hm t (by simp [ht])
    have e := (cmp_linear.eq x y (hl x (by simp)) (hm y (by simp))).1 h'
    subst e
    rw [List.pairwise_cons] at sl sm ⊢
    refine ⟨fun t ht => ?_, ih hl' hm' sl.2 sm.2⟩
    rcases (mem_unionL hl' hm' t).1 ht with ht | ht
    · exact sl.1 t ht
    · exact sm.1 t ht
  | case5 x l y m h h' ih =>
    have hm' : ∀ t ∈ m, t.good := fun t ht => hm t (by simp [ht])
    have hyx : leT y x = true := leT_tot (hl x (by simp)) (hm y (by simp)) (by simp [leT]; omega)
    rw [List.pairwise_cons] at sm ⊢
    refine ⟨fun t ht => ?_, ih hl hm' sl sm.2⟩
    rcases (mem_unionL hl hm' t).1 ht with ht | ht
    · rcases List.mem_cons.1 ht with rfl | ht
      · exact hyx
      · exact leT_trans (hm y (by simp)) (hl x (by simp)) (hl t (by simp [ht])) hyx ((List.pairwise_cons.1 sl).1 t ht)
    · exact sm.1 t ht

theorem unionL_length {l m : List Tr} : l.length ≤ (unionL l m).length ∧ m.length ≤ (unionL l m).length ∧ (unionL l m).length ≤ l.length + m.length := by
  fun_induction unionL l m with
  | case1 m => simp
  | case2 x l => simp
  | case3 x l y m h ih => simp only [List.length_cons] at ih ⊢; omega
  | case4 x l y m h h' ih => simp only [List.length_cons] at ih ⊢; omega
  | case5 x l y m h h' ih => simp only [List.length_cons] at ih ⊢; omega

theorem unionL_self {l : List Tr} (h : ∀ t ∈ l, t.good) : unionL l l = l := by
  induction l with
  | nil => simp [unionL]
  | cons x l ih =>
    have e := (cmp_linear.eq x x (h x (by simp)) (h x (by simp))).2 rfl
    simp only [unionL]
    rw [if_neg (by omega), if_pos e, ih fun t ht => h t (by simp [ht])]

theorem hasT_iff {l : List Tr} {t : Tr} (hl : ∀ t ∈ l, t.good) (ht : t.good) : hasT l t = true ↔ t ∈ l := by
  unfold hasT
  rw [List.any_eq_true]
  constructor
  · rintro ⟨x, hx, e⟩
    have := (cmp_linear.eq x t (hl x hx) ht).1 (by simpa using e)
    subst this; exact hx
  · intro h
    exact ⟨t, h, by simpa using (cmp_linear.eq t t ht ht).2 rfl⟩

theorem insT_perm (l : List Tr) (t : Tr) : (insT l t).Perm (t :: l) := by
  unfold insT
  refine (List.perm_middle).trans ?_
  rw [List.take_append_drop]

theorem place_le (l : List Tr) (t : Tr) : place l t ≤ l.length := by
  unfold place
  exact (List.takeWhile_sublist _).length_le

theorem place_lt {l : List Tr} {t : Tr} {i : Nat} (h : i < place l t) : ∃ hi : i < l.length, cmp l[i] t < 0 := by
  unfold place at h
  have hp := List.takeWhile_prefix (fun x => decide (cmp x t < 0)) (l := l)
  have hi : i < l.length := Nat.lt_of_lt_of_le h hp.length_le
  refine ⟨hi, ?_⟩
  have hm : (l.takeWhile fun x => decide (cmp x t < 0))[i] ∈ l.takeWhile fun x => decide (cmp x t < 0) := List.getElem_mem h
  have ha := List.all_takeWhile (p := fun x => decide (cmp x t < 0)) (l := l)
  rw [List.all_eq_true] at ha
  have := ha _ hm
  rw [hp.getElem h] at this
  simpa using this

/-- How the place is known. -/
theorem place_of {l : List Tr} {t : Tr} {i : Nat} (hi : i ≤ l.length) (h1 : ∀ j (h : j < l.length), j < i → cmp l[j] t < 0) (h2 : ∀ h : i < l.length, ¬ cmp l[i] t < 0) : place l t = i := by
  induction l generalizing i with
  | nil => simp at hi; subst hi; rfl
  | cons x l ih =>
    cases i with
    | zero =>
      have := h2 (by simp)
      simp only [List.getElem_cons_zero] at this
      unfold place
      rw [List.takeWhile_cons_of_neg (by simpa using this)]
      rfl
    | succ i =>
      have hx := h1 0 (by simp) (by omega)
      simp only [List.getElem_cons_zero] at hx
      have := ih (i := i) (by simpa using hi) (fun j hj hji => by have := h1 (j + 1) (by simpa using hj) (by omega); rwa [List.getElem_cons_succ] at this) fun h => by have := h2 (by simpa using h); rwa [List.getElem_cons_succ] at this
      unfold place at this ⊢
      rw [List.takeWhile_cons_of_pos (by simpa using hx), List.length_cons, this]

theorem insT_sorted {l : List Tr} {t : Tr} (hl : ∀ t ∈ l, t.good) (ht : t.good) (sl : l.Pairwise fun a b => leT a b = true) : (insT l t).Pairwise fun a b => leT a b = true := by
  unfold insT
  rw [List.pairwise_append, List.pairwise_cons]
  have before : ∀ x ∈ l.take (place l t), leT x t = true := fun x hx => by
    obtain ⟨i, hi, rfl⟩ := List.getElem_of_mem hx
    rw [List.length_take] at hi
    obtain ⟨_, h⟩ := place_lt (l := l) (t := t) (i := i) (by omega)
    simp only [List.getElem_take, leT, decide_eq_true_eq]
    omega
  have behind : ∀ x ∈ l.drop (place l t), leT t x = true := fun x hx => by
    have key : ∀ (l : List Tr) (i : Nat), i = place l t → (∀ t ∈ l, t.good) → l.Pairwise (fun a b => leT a b = true) → ∀ x ∈ l.drop i, leT t x = true := by
      intro l
      induction l with
      | nil => intro i _ _ _ x hx; simp at hx
      | cons y l ih =>
        intro i hi hg hs x hx
        by_cases hy : cmp y t < 0
        · unfold place at hi
          rw [List.takeWhile_cons_of_pos (by simpa using hy), List.length_cons] at hi
          subst hi
          exact ih _ rfl (fun t ht => hg t (by simp [ht])) (List.pairwise_cons.1 hs).2 x (by rwa [List.drop_succ_cons] at hx)
        · unfold place at hi
          rw [List.takeWhile_cons_of_neg (by simpa using hy)] at hi
          simp at hi
          subst hi
          have hty : leT t y = true := by
            have := cmp_linear.anti y t (hg y (by simp)) ht
            simp only [leT, decide_eq_true_eq]; omega
          rcases List.mem_cons.1 hx with rfl | hx
          · exact hty
          · exact leT_trans ht (hg y (by simp)) (hg x (by simp [hx])) hty ((List.pairwise_cons.1 hs).1 x hx)
    exact key l _ rfl hl sl x hx
  refine ⟨sl.sublist (List.take_sublist _ _), ⟨behind, sl.sublist (List.drop_sublist _ _)⟩, fun x hx y hy => ?_⟩
  rcases List.mem_cons.1 hy with rfl | hy
  · exact before x hx
  · exact leT_trans (hl x (List.mem_of_mem_take hx)) ht (hl y (List.mem_of_mem_drop hy)) (before x hx) (behind y hy)

theorem mergeT_mem {l : List Tr} {t : Tr} (hl : ∀ t ∈ l, t.good) (ht : t.good) (h : l ≠ []) (u : Tr) : u ∈ mergeT l t ↔ u ∈ l ∨ u = t := by
  unfold mergeT
  by_cases hh : hasT l t = true
  · rw [if_pos (.inr hh)]
    have := (hasT_iff hl ht).1 hh
    exact ⟨.inl, fun e => e.elim id fun e => e ▸ this⟩
  · rw [if_neg (fun e => e.elim h hh), (insT_perm l t).mem_iff, List.mem_cons]
    exact or_comm

/-- An any type with a type more. -/
theorem mergeT_kpt {l : List Tr} {t : Tr} (hl : ∀ u ∈ l, Kpt u ∧ u.kind ≠ 8) (h1 : l.length ≠ 1) (sl : l.Pairwise fun a b => leT a b = true) (ht : Kpt t) (hk : t.kind ≠ 8) : Kpt (.mk 8 [] (mergeT l t) []) := by
  have hg : ∀ u ∈ l, u.good := fun u hu => (hl u hu).1.good
  by_cases h0 : l = []
  · subst h0
    simp only [mergeT, true_or, if_true]
    exact Kpt.mk_any (by simp) (by simp) .nil
  · refine Kpt.mk_any (fun u hu => ?_) ?_ ?_
    · rcases (mergeT_mem hg ht.good h0 u).1 hu with hu | rfl
      · exact hl u hu
      · exact ⟨ht, hk⟩
    · unfold mergeT
      split
      · exact h1
      · rw [(insT_perm l t).length_eq, List.length_cons]
        have : l.length ≠ 0 := fun e => h0 (List.eq_nil_of_length_eq_zero e)
        omega
    · unfold mergeT
      split
      · exact sl
      · exact insT_sorted hg ht.good sl

theorem mergeT_in {l : List Tr} {t : Tr} (hl : ∀ t ∈ l, t.good) (ht : t.good) (v : Vl) : InT (.mk 8 [] (mergeT l t) []) v ↔ InT (.mk 8 [] l []) v ∨ InT t v := by
  rw [InT_any, InT_any]
  by_cases h0 : l = []
  · subst h0
    simp [mergeT]
  · have h2 : mergeT l t ≠ [] := fun e => by
      have := (mergeT_mem hl ht h0 t).2 (.inr rfl)
      rw [e] at this; simp at this
    simp only [h0, h2, false_or]
    constructor
    · rintro ⟨u, hu, hv⟩
      rcases (mergeT_mem hl ht h0 u).1 hu with hu | rfl
      · exact .inl ⟨u, hu, hv⟩
      · exact .inr hv
    · rintro (⟨u, hu, hv⟩ | hv)
      · exact ⟨u, (mergeT_mem hl ht h0 u).2 (.inl hu), hv⟩
      · exact ⟨t, (mergeT_mem hl ht h0 t).2 (.inr rfl), hv⟩

theorem unionT_kpt {l m : List Tr} (hl : ∀ u ∈ l, Kpt u ∧ u.kind ≠ 8) (h1 : l.length ≠ 1) (sl : l.Pairwise fun a b => leT a b = true) (hm : ∀ u ∈ m, Kpt u ∧ u.kind ≠ 8) (sm : m.Pairwise fun a b => leT a b = true) : Kpt (.mk 8 [] (unionT l m) []) := by
  have hg : ∀ u ∈ l, u.good := fun u hu => (hl u hu).1.good
  have hg' : ∀ u ∈ m, u.good := fun u hu => (hm u hu).1.good
  unfold unionT
  split
  · exact Kpt.mk_any (by simp) (by simp) .nil
  · rename_i h
    refine Kpt.mk_any (fun u hu => ?_) ?_ (unionL_sorted hg hg' sl sm)
    · rcases (mem_unionL hg hg' u).1 hu with hu | hu
      · exact hl u hu
      · exact hm u hu
    · have := unionL_length (l := l) (m := m)
      have : l.length ≠ 0 := fun e => h (.inl (List.eq_nil_of_length_eq_zero e))
      omega

theorem unionT_in {l m : List Tr} (hl : ∀ t ∈ l, t.good) (hm : ∀ t ∈ m, t.good) (v : Vl) : InT (.mk 8 [] (unionT l m) []) v ↔ InT (.mk 8 [] l []) v ∨ InT (.mk 8 [] m []) v := by
  rw [InT_any, InT_any, InT_any]
  unfold unionT
  by_cases h : l = [] ∨ m = []
  · rw [if_pos h]
    rcases h with h | h <;> simp [h]
  · rw [if_neg h]
    have h1 : l ≠ [] := fun e => h (.inl e)
    have h2 : m ≠ [] := fun e => h (.inr e)
    have h3 : unionL l m ≠ [] := fun e => by
      have := (unionL_length (l := l) (m := m)).1
      rw [e] at this
      exact h1 (List.eq_nil_of_length_eq_zero (by simpa using this))
    simp only [h1, h2, h3, false_or]
    constructor
    · rintro ⟨u, hu, hv⟩
      rcases (mem_unionL hl hm u).1 hu with hu | hu
      · exact .inl ⟨u, hu, hv⟩
      · exact .inr ⟨u, hu, hv⟩
    · rintro (⟨u, hu, hv⟩ | ⟨u, hu, hv⟩)
      · exact ⟨u, (mem_unionL hl hm u).2 (.inl hu), hv⟩
      · exact ⟨u, (mem_unionL hl hm u).2 (.inr hu), hv⟩

theorem pair_kpt {a b : Tr} (ha : Kpt a) (hb : Kpt b) (ka : a.kind ≠ 8) (kb : b.kind ≠ 8) : Kpt (.mk 8 [] (sortT [a, b]) []) := by
  have hp : (sortT [a, b]).Perm [a, b] := isort_perm leT _
  refine Kpt.mk_any (fun u hu => ?_) (by rw [hp.length_eq]; simp) (sortT_sorted fun t ht => ?_)
  · have := hp.mem_iff.1 hu
    simp at this
    rcases this with rfl | rfl
    · exact ⟨ha, ka⟩
    · exact ⟨hb, kb⟩
  · simp at ht
    rcases ht with rfl | rfl
    · exact ha.good
    · exact hb.good

/-- The union is a type as it is kept. -/
theorem orT_kpt {a b : Tr} (ha : Kpt a) (hb : Kpt b) : Kpt (orT a b) := by
  unfold orT
  by_cases ka : a.kind = 8
  · rw [if_pos ka]
    obtain ⟨l, rfl, h1, h2, h3⟩ := ha.any ka
    by_cases kb : b.kind = 8
    · rw [if_pos kb]
      obtain ⟨m, rfl, g1, g2, g3⟩ := hb.any kb
      exact unionT_kpt h1 h2 h3 g1 g3
    · rw [if_neg kb]
      exact mergeT_kpt h1 h2 h3 hb kb
  · rw [if_neg ka]
    by_cases kb : b.kind = 8
    · rw [if_pos kb]
      obtain ⟨m, rfl, g1, g2, g3⟩ := hb.any kb
      exact mergeT_kpt g1 g2 g3 ha ka
    · rw [if_neg kb]
      split
      · exact ha
      · exact pair_kpt ha hb ka kb

/-- The union has the values of both, and no others. -/
theorem orT_in {a b : Tr} (ha : Kpt a) (hb : Kpt b) (v : Vl) : InT (orT a b) v ↔ InT a v ∨ InT b v := by
  unfold orT
  by_cases ka : a.kind = 8
  · rw [if_pos ka]
    obtain ⟨l, rfl, h1, h2, h3⟩ := ha.any ka
    by_cases kb : b.kind = 8
    · rw [if_pos kb]
      obtain ⟨m, rfl, g1, g2, g3⟩ := hb.any kb
      exact unionT_in (fun t ht => (h1 t ht).1.good) (fun t ht => (g1 t ht).1.good) v
    · rw [if_neg kb]
      exact mergeT_in (fun t ht => (h1 t ht).1.good) hb.good v
  · rw [if_neg ka]
    by_cases kb : b.kind = 8
    · rw [if_pos kb]
      obtain ⟨m, rfl, g1, g2, g3⟩ := hb.any kb
      rw [Or.comm]
      exact mergeT_in (fun t ht => (g1 t ht).1.good) ha.good v
    · rw [if_neg kb]
      split
      · rename_i h
        rw [(ha.eq hb).1 h]
        simp
      · rw [InT_any]
        have hp : (sortT [a, b]).Perm [a, b] := isort_perm leT _
        have h0 : sortT [a, b] ≠ [] := fun e => by rw [e] at hp; simpa using hp.length_eq
        simp only [h0, false_or]
        constructor
        · rintro ⟨u, hu, hv⟩
          have := hp.mem_iff.1 hu
          simp at this
          rcases this with rfl | rfl
          · exact .inl hv
          · exact .inr hv
        · rintro (h | h)
          · exact ⟨a, hp.mem_iff.2 (by simp), h⟩
          · exact ⟨b, hp.mem_iff.2 (by simp), h⟩

/-- The union of a type with itself is the type. -/
theorem orT_self {a : Tr} (ha : Kpt a) : orT a a = a := by
  unfold orT
  by_cases ka : a.kind = 8
  · rw [if_pos ka]
    obtain ⟨l, rfl, h1, h2, h3⟩ := ha.any ka
    rw [kind_mk, if_pos rfl, kids_mk]
    unfold unionT
    split
    · rename_i h; rcases h with h | h <;> rw [h]
    · rw [unionL_self fun t ht => (h1 t ht).1.good]
  · rw [if_neg ka, if_neg ka, if_pos ((ha.eq ha).2 rfl)]

/-- The union of two types that are no any types contains both. -/
theorem orT_contains {a b : Tr} (ha : Kpt a) (hb : Kpt b) (ka : a.kind ≠ 8) (kb : b.kind ≠ 8) : containsT (orT a b) a ∧ containsT (orT a b) b := by
  unfold orT
  rw [if_neg ka, if_neg kb]
  split
  · rename_i h
    obtain rfl := (ha.eq hb).1 h
    exact ⟨containsT_self ka, containsT_self ka⟩
  · have hp : (sortT [a, b]).Perm [a, b] := isort_perm leT _
    unfold containsT
    simp only [Tr.kind, Tr.kids, if_true]
    exact ⟨.inr (hp.mem_iff.2 (by simp)), .inr (hp.mem_iff.2 (by simp))⟩

/-- If a type contains another one, and not the other way round, it is their union. -/
theorem orT_superset {a b : Tr} (ha : Kpt a) (hb : Kpt b) (h : containsT a b) (h' : ¬ containsT b a) : orT a b = a ∧ orT b a = a := by
  have ka : a.kind = 8 := Classical.byContradiction fun ka => by
    have e := h
    unfold containsT at e
    rw [if_neg ka] at e
    subst e
    exact h' h
  have e := h
  unfold containsT at e
  rw [if_pos ka] at e
  obtain ⟨l, rfl, h1, h2, h3⟩ := ha.any ka
  simp only [Tr.kids] at e
  by_cases kb : b.kind = 8
  · have e0 : l = [] := by
      rcases e with e | e
      · exact e
      · exact absurd kb (h1 b e).2
    subst e0
    obtain ⟨m, rfl, g1, g2, g3⟩ := hb.any kb
    simp [orT, Tr.kind, Tr.kids, unionT]
  · have hg : ∀ t ∈ l, t.good := fun t ht => (h1 t ht).1.good
    have em : mergeT l b = l := by
      unfold mergeT
      rw [if_pos (e.imp id fun e => (hasT_iff hg hb.good).2 e)]
    unfold orT
    rw [kind_mk, kids_mk, if_pos rfl, if_neg kb, if_neg kb, if_pos rfl, em]
    exact ⟨rfl, rfl⟩

/-! ### How great the union is -/

theorem mergeT_sizes (l : List Tr) (t : Tr) : Tr.sizes (mergeT l t) ≤ Tr.sizes l + t.size := by
  unfold mergeT
  split
  · omega
  · rw [sizes_map_perm (insT_perm l t)]
    simp only [Tr.sizes]; omega

theorem unionL_sizes (l m : List Tr) : Tr.sizes (unionL l m) ≤ Tr.sizes l + Tr.sizes m := by
  fun_induction unionL l m with
  | case1 m => simp [Tr.sizes]
  | case2 x l => simp [Tr.sizes]
  | case3 x l y m h ih => simp only [Tr.sizes] at ih ⊢; omega
  | case4 x l y m h h' ih => simp only [Tr.sizes] at ih ⊢; omega
  | case5 x l y m h h' ih => simp only [Tr.sizes] at ih ⊢; omega

theorem unionT_sizes (l m : List Tr) : Tr.sizes (unionT l m) ≤ Tr.sizes l + Tr.sizes m := by
  unfold unionT
  split
  · simp only [Tr.sizes]; omega
  · exact unionL_sizes l m

theorem orT_size {a b : Tr} (ha : Kpt a) (hb : Kpt b) : (orT a b).size ≤ a.size + b.size + 1 := by
  unfold orT
  by_cases ka : a.kind = 8
  · rw [if_pos ka]
    obtain ⟨l, rfl, _⟩ := ha.any ka
    by_cases kb : b.kind = 8
    · rw [if_pos kb]
      obtain ⟨m, rfl, _⟩ := hb.any kb
      rw [kids_mk, kids_mk]
      simp only [Tr.size, Tr.sizes]
      have := unionT_sizes l m
      omega
    · rw [if_neg kb]
      simp only [Tr.kids, Tr.size, Tr.sizes]
      have := mergeT_sizes l b
      omega
  · rw [if_neg ka]
    by_cases kb : b.kind = 8
    · rw [if_pos kb]
      obtain ⟨m, rfl, _⟩ := hb.any kb
      simp only [Tr.kids, Tr.size, Tr.sizes]
      have := mergeT_sizes m a
      omega
    · rw [if_neg kb]
      split
      · omega
      · simp only [Tr.size, Tr.sizes]
        rw [show Tr.sizes (sortT [a, b]) = Tr.sizes [a, b] from sizes_map_perm (isort_perm leT [a, b])]
        simp only [Tr.sizes]; omega

theorem mergeT_bulks (l : List Tr) (t : Tr) : Tr.bulks (mergeT l t) ≤ Tr.bulks l + t.bulk := by
  unfold mergeT
  split
  · omega
  · rw [bulks_perm (insT_perm l t)]
    simp only [Tr.bulks]; omega

theorem unionL_bulks (l m : List Tr) : Tr.bulks (unionL l m) ≤ Tr.bulks l + Tr.bulks m := by
  fun_induction unionL l m with
  | case1 m => simp [Tr.bulks]
  | case2 x l => simp [Tr.bulks]
  | case3 x l y m h ih => simp only [Tr.bulks] at ih ⊢; omega
  | case4 x l y m h h' ih => simp only [Tr.bulks] at ih ⊢; omega
  | case5 x l y m h h' ih => simp only [Tr.bulks] at ih ⊢; omega

theorem unionT_bulks (l m : List Tr) : Tr.bulks (unionT l m) ≤ Tr.bulks l + Tr.bulks m := by
  unfold unionT
  split
  · simp only [Tr.bulks]; omega
  · exact unionL_bulks l m

theorem orT_bulk {a b : Tr} (ha : Kpt a) (hb : Kpt b) : (orT a b).bulk ≤ a.bulk + b.bulk + 1 := by
  unfold orT
  by_cases ka : a.kind = 8
  · rw [if_pos ka]
    obtain ⟨l, rfl, _⟩ := ha.any ka
    by_cases kb : b.kind = 8
    · rw [if_pos kb]
      obtain ⟨m, rfl, _⟩ := hb.any kb
      rw [kids_mk, kids_mk]
      simp only [Tr.bulk, Tr.bulks, kyBulk]
      have := unionT_bulks l m
      omega
    · rw [if_neg kb]
      simp only [Tr.kids, Tr.bulk, Tr.bulks, kyBulk]
      have := mergeT_bulks l b
      omega
  · rw [if_neg ka]
    by_cases kb : b.kind = 8
    · rw [if_pos kb]
      obtain ⟨m, rfl, _⟩ := hb.any kb
      simp only [Tr.kids, Tr.bulk, Tr.bulks, kyBulk]
      have := mergeT_bulks m a
      omega
    · rw [if_neg kb]
      split
      · omega
      · simp only [Tr.bulk, Tr.bulks, kyBulk]
        rw [show Tr.bulks (sortT [a, b]) = Tr.bulks [a, b] from bulks_perm (isort_perm leT [a, b])]
        simp only [Tr.bulks]; omega

end Go.Proofs.YtpmfjbmfjfhghaaGreat
