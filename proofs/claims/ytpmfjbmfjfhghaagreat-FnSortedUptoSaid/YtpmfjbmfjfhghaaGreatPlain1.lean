/-
  PLAIN LAWS, NO PROGRAM IN SIGHT (1): type trees and their order. A tree is of the kind of 'impl.Type' (names and texts left out); 'cmp' is the order of two trees as the package computes it; it is a linear order on well-formed trees.
-/
import Derived.Laws.Strings
namespace Go.Proofs.YtpmfjbmfjfhghaaGreat
set_option linter.unusedVariables false

/-- A key of a property: its kind and its text. -/
structure Ky where
  kind : Int
  text : ByteArray

theorem toList_inj {a b : ByteArray} (h : a.toList = b.toList) : a = b := by
  rw [ByteArray.toList_eq, ByteArray.toList_eq] at h
  cases a; cases b
  simpa using h

theorem Ky.ext' {a b : Ky} (h : a.kind = b.kind) (h' : a.text = b.text) : a = b := by
  cases a; cases b; cases h; cases h'; rfl

instance : DecidableEq Ky := fun a b =>
  if h : a.kind = b.kind then if h' : a.text = b.text then .isTrue (Ky.ext' h h') else .isFalse (fun e => h' (by rw [e])) else .isFalse (fun e => h (by rw [e]))

/-- A type as a tree. -/
inductive Tr where
  | mk (kind : Int) (keys : List Ky) (kids more : List Tr)

def Tr.kind : Tr → Int | .mk k _ _ _ => k
def Tr.keys : Tr → List Ky | .mk _ ks _ _ => ks
def Tr.kids : Tr → List Tr | .mk _ _ l _ => l
def Tr.more : Tr → List Tr | .mk _ _ _ m => m

instance : Inhabited Tr := ⟨.mk 0 [] [] []⟩

mutual
def Tr.size : Tr → Nat
  | .mk _ _ l m => 1 + Tr.sizes l + Tr.sizes m
def Tr.sizes : List Tr → Nat
  | [] => 0
  | t :: l => t.size + Tr.sizes l
end

theorem Tr.size_pos (t : Tr) : 1 ≤ t.size := by cases t; simp only [Tr.size]; omega

theorem Tr.size_mem {t : Tr} {l : List Tr} (h : t ∈ l) : t.size ≤ Tr.sizes l := by
  induction l with
  | nil => cases h
  | cons x l ih =>
    simp only [Tr.sizes]
    rcases List.mem_cons.1 h with rfl | h
    · omega
    · have := ih h; omega

theorem Tr.length_sizes (l : List Tr) : l.length ≤ Tr.sizes l := by
  induction l with
  | nil => simp [Tr.sizes]
  | cons x l ih => have := x.size_pos; simp only [Tr.sizes, List.length_cons]; omega

def kyBulk : List Ky → Nat
  | [] => 0
  | k :: ks => k.text.size + 1 + kyBulk ks

/- How many values and letters there are in a tree. -/
mutual
def Tr.bulk : Tr → Nat
  | .mk _ ks l m => 1 + kyBulk ks + Tr.bulks l + Tr.bulks m
def Tr.bulks : List Tr → Nat
  | [] => 0
  | t :: l => t.bulk + Tr.bulks l
end

theorem Tr.bulk_pos (t : Tr) : 1 ≤ t.bulk := by cases t; simp only [Tr.bulk]; omega

theorem Tr.bulk_mem {t : Tr} {l : List Tr} (h : t ∈ l) : t.bulk ≤ Tr.bulks l := by
  induction l with
  | nil => cases h
  | cons x l ih =>
    simp only [Tr.bulks]
    rcases List.mem_cons.1 h with rfl | h
    · omega
    · have := ih h; omega

theorem Tr.length_bulks (l : List Tr) : l.length ≤ Tr.bulks l := by
  induction l with
  | nil => simp [Tr.bulks]
  | cons x l ih => have := x.bulk_pos; simp only [Tr.bulks, List.length_cons]; omega

theorem length_kyBulk (l : List Ky) : l.length ≤ kyBulk l := by
  induction l with
  | nil => simp [kyBulk]
  | cons x l ih => simp only [kyBulk, List.length_cons]; omega

theorem kyBulk_mem {k : Ky} {l : List Ky} (h : k ∈ l) : k.text.size ≤ kyBulk l := by
  induction l with
  | nil => cases h
  | cons x l ih =>
    simp only [kyBulk]
    rcases List.mem_cons.1 h with rfl | h
    · omega
    · have := ih h; omega

/-- Induction on a tree: what holds of all parts' parts holds of the whole. -/
theorem Tr.ind {p : Tr → Prop} (h : ∀ k ks l m, (∀ t ∈ l, p t) → (∀ t ∈ m, p t) → p (.mk k ks l m)) (t : Tr) : p t := by
  have key : ∀ (n : Nat) (t : Tr), t.size ≤ n → p t := by
    intro n
    induction n with
    | zero => intro t ht; have := t.size_pos; omega
    | succ n ih =>
      intro t ht
      cases t with
      | mk k ks l m =>
        simp only [Tr.size] at ht
        refine h k ks l m (fun t h' => ih t ?_) (fun t h' => ih t ?_)
        · have := Tr.size_mem h'; omega
        · have := Tr.size_mem h'; omega
  exact key t.size t (Nat.le_refl _)

/-! ### The order of texts and keys -/

theorem bytesLess_irrefl (a : List UInt8) : Op.bytesLess a a = false := by
  induction a with
  | nil => rfl
  | cons x a ih => simp [Op.bytesLess, ih]

theorem bytesLess_asymm (a b : List UInt8) (h : Op.bytesLess a b = true) : Op.bytesLess b a = false := by
  induction a generalizing b with
  | nil => cases b <;> simp_all [Op.bytesLess]
  | cons x a ih =>
    cases b with
    | nil => simp [Op.bytesLess] at h
    | cons y b =>
      simp only [Op.bytesLess, Bool.or_eq_true, Bool.and_eq_true, decide_eq_true_eq, beq_iff_eq] at h
      simp only [Op.bytesLess, Bool.or_eq_false_iff, Bool.and_eq_false_iff, decide_eq_false_iff_not, beq_eq_false_iff_ne]
      rcases h with h | ⟨rfl, h⟩
      · rw [UInt8.lt_iff_toNat_lt] at h
        refine ⟨by rw [UInt8.lt_iff_toNat_lt]; omega, .inl (fun e => by rw [e] at h; omega)⟩
      · exact ⟨by rw [UInt8.lt_iff_toNat_lt]; omega, .inr (ih b h)⟩

theorem bytesLess_total (a b : List UInt8) (h : Op.bytesLess a b = false) (h' : Op.bytesLess b a = false) : a = b := by
  induction a generalizing b with
  | nil => cases b <;> simp_all [Op.bytesLess]
  | cons x a ih =>
    cases b with
    | nil => simp [Op.bytesLess] at h'
    | cons y b =>
      simp only [Op.bytesLess, Bool.or_eq_false_iff, Bool.and_eq_false_iff, decide_eq_false_iff_not, beq_eq_false_iff_ne, UInt8.lt_iff_toNat_lt] at h h'
      have hxy : x = y := UInt8.toNat_inj.1 (by omega)
      subst hxy
      rcases h.2 with h2 | h2
      · exact absurd rfl h2
      · rcases h'.2 with h3 | h3
        · exact absurd rfl h3
        · rw [ih b h2 h3]

theorem bytesLess_trans (a b c : List UInt8) (h : Op.bytesLess a b = true) (h' : Op.bytesLess b c = true) : Op.bytesLess a c = true := by
  induction a generalizing b c with
  | nil =>
    cases b with
    | nil => simp [Op.bytesLess] at h
    | cons y b => cases c <;> simp_all [Op.bytesLess]
  | cons x a ih =>
    cases b with
    | nil => simp [Op.bytesLess] at h
    | cons y b =>
      cases c with
      | nil => simp [Op.bytesLess] at h'
      | cons z c =>
        simp only [Op.bytesLess, Bool.or_eq_true, Bool.and_eq_true, decide_eq_true_eq, beq_iff_eq, UInt8.lt_iff_toNat_lt] at h h' ⊢
        rcases h with h | ⟨rfl, h⟩
        · rcases h' with h' | ⟨rfl, h'⟩
          · exact .inl (by omega)
          · exact .inl h
        · rcases h' with h' | ⟨rfl, h'⟩
          · exact .inl h'
          · exact .inr ⟨rfl, ih b c h h'⟩

def cmpB (a b : ByteArray) : Int := if a.toList = b.toList then 0 else if Op.bytesLess a.toList b.toList then -1 else 1

/-- Three numbers that stand to each other as those of 'a, b', 'b, d', 'a, d' do in an order. -/
def Tri (x y z : Int) : Prop := (x = 0 → z = y) ∧ (y = 0 → z = x) ∧ (x < 0 → y < 0 → z < 0)

theorem Tri.le {x y z : Int} (h : Tri x y z) (hx : x ≤ 0) (hy : y ≤ 0) : z ≤ 0 := by
  obtain ⟨h1, h2, h3⟩ := h
  by_cases ex : x = 0
  · rw [h1 ex]; exact hy
  · by_cases ey : y = 0
    · rw [h2 ey]; exact hx
    · have := h3 (by omega) (by omega); omega

/-- What an order by numbers must do to be linear. -/
structure Linear {α : Type} (c : α → α → Int) (ok : α → Prop) : Prop where
  eq : ∀ a b, ok a → ok b → (c a b = 0 ↔ a = b)
  anti : ∀ a b, ok a → ok b → c b a = - c a b
  rng : ∀ a b, ok a → ok b → -1 ≤ c a b ∧ c a b ≤ 1
  tri : ∀ a b d, ok a → ok b → ok d → Tri (c a b) (c b d) (c a d)

theorem cmpB_linear : Linear cmpB (fun _ => True) where
  eq a b _ _ := by
    unfold cmpB
    split
    · rename_i h; simp [toList_inj h]
    · rename_i h
      have : a ≠ b := fun e => h (by rw [e])
      split <;> simp_all
  anti a b _ _ := by
    unfold cmpB
    by_cases h : a.toList = b.toList
    · simp [h]
    · rw [if_neg h, if_neg (Ne.symm h)]
      cases h1 : Op.bytesLess a.toList b.toList
      · cases h2 : Op.bytesLess b.toList a.toList
        · exact absurd (bytesLess_total _ _ h1 h2) h
        · simp
      · rw [bytesLess_asymm _ _ h1]; simp
  rng a b _ _ := by
    unfold cmpB
    split
    · omega
    · split <;> omega
  tri a b d _ _ _ := by
    unfold cmpB
    by_cases e1 : a.toList = b.toList
    · simp [e1, Tri]
    · by_cases e2 : b.toList = d.toList
      · rw [← e2]; simp [Tri, e1]
      · rw [if_neg e1, if_neg e2]
        refine ⟨fun h => ?_, fun h => ?_, fun h h' => ?_⟩
        · split at h <;> omega
        · split at h <;> omega
        · have h1 : Op.bytesLess a.toList b.toList = true := by
            by_cases k : Op.bytesLess a.toList b.toList = true
            · exact k
            · rw [if_neg k] at h; omega
          have h2 : Op.bytesLess b.toList d.toList = true := by
            by_cases k : Op.bytesLess b.toList d.toList = true
            · exact k
            · rw [if_neg k] at h'; omega
          have h3 := bytesLess_trans _ _ _ h1 h2
          rw [if_neg (fun e => by rw [e, bytesLess_irrefl] at h3; cases h3), if_pos h3]
          omega

/-- The rank of a key's kind: nothing, a truth value, a string. -/
def Ky.rank (k : Ky) : Int := if k.kind = 1 ∨ k.kind = 2 then 1 else if k.kind = 4 then 3 else 0

def cmpK (a b : Ky) : Int :=
  if a.rank < b.rank then -1 else if b.rank < a.rank then 1
  else if a.rank = 1 then (if (a.kind = 2 ↔ b.kind = 2) then 0 else if a.kind = 2 then 1 else -1)
  else if a.rank = 3 then cmpB a.text b.text
  else 0

/-- A key that 'spec.Proper' lets by. -/
def Ky.ok (k : Ky) : Prop := (k.kind = 0 ∨ k.kind = 1 ∨ k.kind = 2 ∨ k.kind = 4) ∧ (k.kind ≠ 4 → k.text = .empty)

theorem Ky.rank_cases {k : Ky} (h : k.ok) : (k.kind = 0 ∧ k.rank = 0 ∧ k.text = .empty) ∨ (k.kind = 1 ∧ k.rank = 1 ∧ k.text = .empty) ∨ (k.kind = 2 ∧ k.rank = 1 ∧ k.text = .empty) ∨ (k.kind = 4 ∧ k.rank = 3) := by
  obtain ⟨h1 | h1 | h1 | h1, h2⟩ := h <;> simp [Ky.rank, h1] at h2 ⊢ <;> exact h2

theorem cmpK_linear : Linear cmpK Ky.ok where
  eq a b ha hb := by
    refine ⟨fun h => ?_, fun h => ?_⟩
    · rcases a.rank_cases ha with ⟨a1, a2, a3⟩ | ⟨a1, a2, a3⟩ | ⟨a1, a2, a3⟩ | ⟨a1, a2⟩ <;>
        rcases b.rank_cases hb with ⟨b1, b2, b3⟩ | ⟨b1, b2, b3⟩ | ⟨b1, b2, b3⟩ | ⟨b1, b2⟩ <;>
        simp [cmpK, a1, a2, b1, b2] at h <;>
        first
          | exact Ky.ext' (by rw [a1, b1]) (by rw [a3, b3])
          | exact Ky.ext' (by rw [a1, b1]) ((cmpB_linear.eq _ _ trivial trivial).1 h)
    · subst h
      unfold cmpK
      rw [if_neg (by omega), if_neg (by omega)]
      simp
      intro _ _
      exact (cmpB_linear.eq _ _ trivial trivial).2 rfl
  anti a b ha hb := by
    rcases a.rank_cases ha with ⟨a1, a2, a3⟩ | ⟨a1, a2, a3⟩ | ⟨a1, a2, a3⟩ | ⟨a1, a2⟩ <;>
      rcases b.rank_cases hb with ⟨b1, b2, b3⟩ | ⟨b1, b2, b3⟩ | ⟨b1, b2, b3⟩ | ⟨b1, b2⟩ <;>
      simp [cmpK, a1, a2, b1, b2]
    exact cmpB_linear.anti _ _ trivial trivial
  rng a b ha hb := by
    rcases a.rank_cases ha with ⟨a1, a2, a3⟩ | ⟨a1, a2, a3⟩ | ⟨a1, a2, a3⟩ | ⟨a1, a2⟩ <;>
      rcases b.rank_cases hb with ⟨b1, b2, b3⟩ | ⟨b1, b2, b3⟩ | ⟨b1, b2, b3⟩ | ⟨b1, b2⟩ <;>
      simp [cmpK, a1, a2, b1, b2]
    exact cmpB_linear.rng _ _ trivial trivial
  tri a b d ha hb hd := by
    rcases a.rank_cases ha with ⟨a1, a2, a3⟩ | ⟨a1, a2, a3⟩ | ⟨a1, a2, a3⟩ | ⟨a1, a2⟩ <;>
      rcases b.rank_cases hb with ⟨b1, b2, b3⟩ | ⟨b1, b2, b3⟩ | ⟨b1, b2, b3⟩ | ⟨b1, b2⟩ <;>
      rcases d.rank_cases hd with ⟨d1, d2, d3⟩ | ⟨d1, d2, d3⟩ | ⟨d1, d2, d3⟩ | ⟨d1, d2⟩ <;>
      simp [cmpK, a1, a2, b1, b2, d1, d2, Tri]
    exact cmpB_linear.tri _ _ _ trivial trivial trivial

/-! ### Two orders, one behind the other -/

/-- The first number that is not 0. -/
def andThen (x y : Int) : Int := if x = 0 then y else x

theorem andThen_zero {x y : Int} : andThen x y = 0 ↔ x = 0 ∧ y = 0 := by
  unfold andThen; split <;> simp_all

theorem andThen_neg (x y : Int) : andThen (-x) (-y) = - andThen x y := by
  unfold andThen
  by_cases h : x = 0
  · simp [h]
  · rw [if_neg h, if_neg (by omega)]

theorem andThen_rng {x y : Int} (hx : -1 ≤ x ∧ x ≤ 1) (hy : -1 ≤ y ∧ y ≤ 1) : -1 ≤ andThen x y ∧ andThen x y ≤ 1 := by
  unfold andThen; split <;> omega

theorem andThen_tri {x y z x' y' z' : Int} (h : Tri x y z) (h' : Tri x' y' z') : Tri (andThen x x') (andThen y y') (andThen z z') := by
  obtain ⟨h1, h2, h3⟩ := h
  obtain ⟨g1, g2, g3⟩ := h'
  unfold andThen
  refine ⟨fun e => ?_, fun e => ?_, fun e f => ?_⟩ <;> split at * <;> split at * <;> split at * <;> omega

/-! ### The order of trees -/

mutual
def cmp : Tr → Tr → Int
  | .mk k ks l m, .mk k' ks' l' m' =>
    if k' < k then 1 else if k < k' then -1 else andThen (cmpL [] m [] m') (cmpL ks l ks' l')
def cmpL : List Ky → List Tr → List Ky → List Tr → Int
  | _, [], _, [] => 0
  | _, [], _, _ :: _ => -1
  | _, _ :: _, _, [] => 1
  | ks, t :: l, ks', t' :: l' =>
    andThen (cmpK (ks.headD ⟨0, .empty⟩) (ks'.headD ⟨0, .empty⟩)) (andThen (cmp t t') (cmpL ks.tail l ks'.tail l'))
end

/-- The trees of which the order is linear: keys are as many as kids, or none; keys are proper. -/
def keysOk (ks : List Ky) (l : List Tr) : Prop := (ks = [] ∨ ks.length = l.length) ∧ ∀ k ∈ ks, k.ok

mutual
def Tr.good : Tr → Prop
  | .mk k ks l m => keysOk ks l ∧ (ks ≠ [] → k = 6) ∧ (k = 6 → ks.length = l.length) ∧ Tr.goods l ∧ Tr.goods m
def Tr.goods : List Tr → Prop
  | [] => True
  | t :: l => t.good ∧ Tr.goods l
end

theorem Tr.goods_iff (l : List Tr) : Tr.goods l ↔ ∀ t ∈ l, t.good := by
  induction l with
  | nil => simp [Tr.goods]
  | cons t l ih => simp [Tr.goods, ih]

theorem nilKy_ok : (⟨0, .empty⟩ : Ky).ok := ⟨.inl rfl, fun _ => rfl⟩

theorem headD_ok {ks : List Ky} (h : ∀ k ∈ ks, k.ok) : (ks.headD ⟨0, .empty⟩).ok := by
  cases ks with
  | nil => exact nilKy_ok
  | cons k ks => exact h k (by simp)

theorem tail_ok {ks : List Ky} (h : ∀ k ∈ ks, k.ok) : ∀ k ∈ ks.tail, k.ok := by
  cases ks with
  | nil => simp
  | cons k ks => exact fun x hx => h x (List.mem_cons_of_mem _ hx)

theorem cmpL_anti {l : List Tr} (hl : ∀ t ∈ l, ∀ t', t.good → t'.good → cmp t' t = - cmp t t') : ∀ (ks : List Ky) (ks' : List Ky) (l' : List Tr),
    (∀ k ∈ ks, k.ok) → (∀ k ∈ ks', k.ok) → Tr.goods l → Tr.goods l' → cmpL ks' l' ks l = - cmpL ks l ks' l' := by
  induction l with
  | nil => intro ks ks' l' _ _ _ _; cases l' <;> simp [cmpL]
  | cons t l ih =>
    intro ks ks' l' h1 h2 h3 h4
    cases l' with
    | nil => simp [cmpL]
    | cons t' l' =>
      simp only [cmpL]
      simp only [Tr.goods] at h3 h4
      rw [cmpK_linear.anti _ _ (headD_ok h1) (headD_ok h2), hl t (by simp) t' h3.1 h4.1,
        ih (fun t ht => hl t (List.mem_cons_of_mem _ ht)) ks.tail ks'.tail l' (tail_ok h1) (tail_ok h2) h3.2 h4.2, andThen_neg, andThen_neg]

theorem cmpL_rng {l : List Tr} (hl : ∀ t ∈ l, ∀ t', t.good → t'.good → -1 ≤ cmp t t' ∧ cmp t t' ≤ 1) : ∀ (ks : List Ky) (ks' : List Ky) (l' : List Tr),
    (∀ k ∈ ks, k.ok) → (∀ k ∈ ks', k.ok) → Tr.goods l → Tr.goods l' → -1 ≤ cmpL ks l ks' l' ∧ cmpL ks l ks' l' ≤ 1 := by
  induction l with
  | nil => intro ks ks' l' _ _ _ _; cases l' <;> simp [cmpL]
  | cons t l ih =>
    intro ks ks' l' h1 h2 h3 h4
    cases l' with
    | nil => simp [cmpL]
    | cons t' l' =>
      simp only [cmpL]
      simp only [Tr.goods] at h3 h4
      exact andThen_rng (cmpK_linear.rng _ _ (headD_ok h1) (headD_ok h2)) (andThen_rng (hl t (by simp) t' h3.1 h4.1)
        (ih (fun t ht => hl t (List.mem_cons_of_mem _ ht)) ks.tail ks'.tail l' (tail_ok h1) (tail_ok h2) h3.2 h4.2))

/-- Keys are none, or as many as kids: on both sides alike. -/
def alike (ks : List Ky) (l : List Tr) (ks' : List Ky) (l' : List Tr) : Prop := (ks = [] ∧ ks' = []) ∨ (ks.length = l.length ∧ ks'.length = l'.length)

theorem cmpL_eq {l : List Tr} (hl : ∀ t ∈ l, ∀ t', t.good → t'.good → (cmp t t' = 0 ↔ t = t')) : ∀ (ks : List Ky) (ks' : List Ky) (l' : List Tr),
    (∀ k ∈ ks, k.ok) → (∀ k ∈ ks', k.ok) → Tr.goods l → Tr.goods l' → alike ks l ks' l' → (cmpL ks l ks' l' = 0 ↔ ks = ks' ∧ l = l') := by
  induction l with
  | nil =>
    intro ks ks' l' _ _ _ _ ha
    cases l' with
    | nil =>
      simp only [cmpL, true_iff, and_true]
      rcases ha with ⟨rfl, rfl⟩ | ⟨h, h'⟩
      · rfl
      · rw [List.eq_nil_of_length_eq_zero h, List.eq_nil_of_length_eq_zero h']
    | cons t' l' => simp [cmpL]
  | cons t l ih =>
    intro ks ks' l' h1 h2 h3 h4 ha
    cases l' with
    | nil => simp [cmpL]
    | cons t' l' =>
      simp only [cmpL]
      simp only [Tr.goods] at h3 h4
      rw [andThen_zero, andThen_zero, cmpK_linear.eq _ _ (headD_ok h1) (headD_ok h2), hl t (by simp) t' h3.1 h4.1]
      rcases ha with ⟨rfl, rfl⟩ | ⟨ha, ha'⟩
      · rw [ih (fun t ht => hl t (List.mem_cons_of_mem _ ht)) [].tail [].tail l' (by simp) (by simp) h3.2 h4.2 (.inl ⟨rfl, rfl⟩)]
        simp
      · cases ks with
        | nil => simp at ha
        | cons k ks =>
          cases ks' with
          | nil => simp at ha'
          | cons k' ks' =>
            rw [ih (fun t ht => hl t (List.mem_cons_of_mem _ ht)) (k :: ks).tail (k' :: ks').tail l' (tail_ok h1) (tail_ok h2) h3.2 h4.2 (.inr ⟨by simpa using ha, by simpa using ha'⟩)]
            simp
            constructor
            · rintro ⟨a, b, c, d⟩; exact ⟨⟨a, c⟩, b, d⟩
            · rintro ⟨⟨a, c⟩, b, d⟩; exact ⟨a, b, c, d⟩

theorem cmpL_tri {l : List Tr} (hl : ∀ t ∈ l, ∀ t' t'', t.good → t'.good → t''.good → Tri (cmp t t') (cmp t' t'') (cmp t t'')) :
    ∀ (ks ks' ks'' : List Ky) (l' l'' : List Tr), (∀ k ∈ ks, k.ok) → (∀ k ∈ ks', k.ok) → (∀ k ∈ ks'', k.ok) → Tr.goods l → Tr.goods l' → Tr.goods l'' →
      Tri (cmpL ks l ks' l') (cmpL ks' l' ks'' l'') (cmpL ks l ks'' l'') := by
  induction l with
  | nil => intro ks ks' ks'' l' l'' _ _ _ _ _ _; cases l' <;> cases l'' <;> simp [cmpL, Tri]
  | cons t l ih =>
    intro ks ks' ks'' l' l'' h1 h2 h3 g1 g2 g3
    cases l' with
    | nil => cases l'' <;> simp [cmpL, Tri]
    | cons t' l' =>
      cases l'' with
      | nil => simp [cmpL, Tri]
      | cons t'' l'' =>
        simp only [cmpL]
        simp only [Tr.goods] at g1 g2 g3
        exact andThen_tri (cmpK_linear.tri _ _ _ (headD_ok h1) (headD_ok h2) (headD_ok h3)) (andThen_tri (hl t (by simp) t' t'' g1.1 g2.1 g3.1)
          (ih (fun t ht => hl t (List.mem_cons_of_mem _ ht)) ks.tail ks'.tail ks''.tail l' l'' (tail_ok h1) (tail_ok h2) (tail_ok h3) g1.2 g2.2 g3.2))

theorem noKy : ∀ k ∈ ([] : List Ky), k.ok := by simp

theorem alike_of {k : Int} {ks l ks' l'} (h : keysOk ks l) (h' : keysOk ks' l') (g : ks ≠ [] → k = 6) (g' : ks' ≠ [] → k = 6) (e : k = 6 → ks.length = l.length) (e' : k = 6 → ks'.length = l'.length) : alike ks l ks' l' := by
  by_cases hk : k = 6
  · exact .inr ⟨e hk, e' hk⟩
  · exact .inl ⟨Classical.byContradiction fun c => hk (g c), Classical.byContradiction fun c => hk (g' c)⟩

theorem cmp_linear : Linear cmp Tr.good where
  eq a := by
    induction a using Tr.ind with
    | h k ks l m il im =>
      intro b ha hb
      cases b with
      | mk k' ks' l' m' =>
        simp only [Tr.good] at ha hb
        simp only [cmp]
        by_cases h1 : k' < k
        · rw [if_pos h1]; simp; intro e; omega
        · rw [if_neg h1]
          by_cases h2 : k < k'
          · rw [if_pos h2]; simp; intro e; omega
          · rw [if_neg h2]
            have hk : k' = k := by omega
            subst hk
            rw [andThen_zero, cmpL_eq (l := m) (fun t ht t' g g' => im t ht t' g g') [] [] m' noKy noKy ha.2.2.2.2 hb.2.2.2.2 (.inl ⟨rfl, rfl⟩),
              cmpL_eq (l := l) (fun t ht t' g g' => il t ht t' g g') ks ks' l' ha.1.2 hb.1.2 ha.2.2.2.1 hb.2.2.2.1 (alike_of ha.1 hb.1 ha.2.1 hb.2.1 ha.2.2.1 hb.2.2.1)]
            simp
            constructor
            · rintro ⟨a, b, c⟩; exact ⟨b, c, a⟩
            · rintro ⟨b, c, a⟩; exact ⟨a, b, c⟩
  anti a := by
    induction a using Tr.ind with
    | h k ks l m il im =>
      intro b ha hb
      cases b with
      | mk k' ks' l' m' =>
        simp only [Tr.good] at ha hb
        simp only [cmp]
        by_cases h1 : k' < k
        · rw [if_pos h1, if_neg (by omega), if_pos h1]
        · by_cases h2 : k < k'
          · rw [if_pos h2, if_neg h1, if_pos h2]; omega
          · rw [if_neg h1, if_neg h2, if_neg h2, if_neg h1]
            rw [cmpL_anti (l := m) (fun t ht t' g g' => im t ht t' g g') [] [] m' noKy noKy ha.2.2.2.2 hb.2.2.2.2,
              cmpL_anti (l := l) (fun t ht t' g g' => il t ht t' g g') ks ks' l' ha.1.2 hb.1.2 ha.2.2.2.1 hb.2.2.2.1, andThen_neg]
  rng a := by
    induction a using Tr.ind with
    | h k ks l m il im =>
      intro b ha hb
      cases b with
      | mk k' ks' l' m' =>
        simp only [Tr.good] at ha hb
        simp only [cmp]
        split
        · omega
        · split
          · omega
          · exact andThen_rng (cmpL_rng (l := m) (fun t ht t' g g' => im t ht t' g g') [] [] m' noKy noKy ha.2.2.2.2 hb.2.2.2.2)
              (cmpL_rng (l := l) (fun t ht t' g g' => il t ht t' g g') ks ks' l' ha.1.2 hb.1.2 ha.2.2.2.1 hb.2.2.2.1)
  tri a := by
    induction a using Tr.ind with
    | h k ks l m il im =>
      intro b d ha hb hd
      cases b with
      | mk k' ks' l' m' =>
        cases d with
        | mk k'' ks'' l'' m'' =>
          simp only [Tr.good] at ha hb hd
          simp only [cmp]
          have H := andThen_tri (cmpL_tri (l := m) (fun t ht t' t'' g g' g'' => im t ht t' t'' g g' g'') [] [] [] m' m'' noKy noKy noKy ha.2.2.2.2 hb.2.2.2.2 hd.2.2.2.2)
            (cmpL_tri (l := l) (fun t ht t' t'' g g' g'' => il t ht t' t'' g g' g'') ks ks' ks'' l' l'' ha.1.2 hb.1.2 hd.1.2 ha.2.2.2.1 hb.2.2.2.1 hd.2.2.2.1)
          generalize andThen (cmpL [] m [] m') (cmpL ks l ks' l') = x at *
          generalize andThen (cmpL [] m' [] m'') (cmpL ks' l' ks'' l'') = y at *
          generalize andThen (cmpL [] m [] m'') (cmpL ks l ks'' l'') = z at *
          obtain ⟨H1, H2, H3⟩ := H
          refine ⟨fun e => ?_, fun e => ?_, fun e f => ?_⟩ <;> split at * <;> (try split at *) <;> (try split at *) <;> (try split at *) <;> (try split at *) <;> (try split at *) <;> omega

end Go.Proofs.YtpmfjbmfjfhghaaGreat
