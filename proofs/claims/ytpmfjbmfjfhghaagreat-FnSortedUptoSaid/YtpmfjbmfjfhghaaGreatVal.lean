/-
  PLAIN LAWS (4): values; which values a type has; a type as it is kept has the same ones.
-/
import Derived.Test.YtpmfjbmfjfhghaaGreatPlain3
namespace Go.Proofs.YtpmfjbmfjfhghaaGreat

/-- A value as a tree. -/
inductive Vl where
  | mk (kind : Int) (text : ByteArray) (keys : List ByteArray) (kids : List Vl)

def Vl.kind : Vl → Int | .mk k _ _ _ => k
def Vl.text : Vl → ByteArray | .mk _ s _ _ => s
def Vl.keys : Vl → List ByteArray | .mk _ _ ks _ => ks
def Vl.kids : Vl → List Vl | .mk _ _ _ l => l

instance : Inhabited Vl := ⟨.mk 0 .empty [] []⟩

def strBulk : List ByteArray → Nat
  | [] => 0
  | s :: l => s.size + 1 + strBulk l

mutual
def Vl.bulk : Vl → Nat
  | .mk _ s ks l => 1 + s.size + strBulk ks + Vl.bulks l
def Vl.bulks : List Vl → Nat
  | [] => 0
  | v :: l => v.bulk + Vl.bulks l
end

theorem Vl.bulk_pos (v : Vl) : 1 ≤ v.bulk := by cases v; simp only [Vl.bulk]; omega

theorem Vl.bulk_mem {v : Vl} {l : List Vl} (h : v ∈ l) : v.bulk ≤ Vl.bulks l := by
  induction l with
  | nil => cases h
  | cons x l ih =>
    simp only [Vl.bulks]
    rcases List.mem_cons.1 h with rfl | h
    · omega
    · have := ih h; omega

theorem Vl.length_bulks (l : List Vl) : l.length ≤ Vl.bulks l := by
  induction l with
  | nil => simp [Vl.bulks]
  | cons x l ih => have := x.bulk_pos; simp only [Vl.bulks, List.length_cons]; omega

theorem length_strBulk (l : List ByteArray) : l.length ≤ strBulk l := by
  induction l with
  | nil => simp [strBulk]
  | cons x l ih => simp only [strBulk, List.length_cons]; omega

theorem strBulk_mem {s : ByteArray} {l : List ByteArray} (h : s ∈ l) : s.size ≤ strBulk l := by
  induction l with
  | nil => cases h
  | cons x l ih =>
    simp only [strBulk]
    rcases List.mem_cons.1 h with rfl | h
    · omega
    · have := ih h; omega

/-- Induction on a value. -/
theorem Vl.ind {p : Vl → Prop} (h : ∀ k s ks l, (∀ v ∈ l, p v) → p (.mk k s ks l)) (v : Vl) : p v := by
  have key : ∀ (n : Nat) (v : Vl), v.bulk ≤ n → p v := by
    intro n
    induction n with
    | zero => intro v hv; have := v.bulk_pos; omega
    | succ n ih =>
      intro v hv
      cases v with
      | mk k s ks l =>
        simp only [Vl.bulk] at hv
        refine h k s ks l fun v h' => ih v ?_
        have := Vl.bulk_mem h'
        omega
  exact key v.bulk v (Nat.le_refl _)

/- A value that 'spec.In' can look into: an object has as many keys as values. -/
mutual
def VOk : Vl → Prop
  | .mk k _ ks l => (k = 6 → ks.length = l.length) ∧ VOks l
def VOks : List Vl → Prop
  | [] => True
  | v :: l => VOk v ∧ VOks l
end

theorem VOks_iff (l : List Vl) : VOks l ↔ ∀ v ∈ l, VOk v := by
  induction l with
  | nil => simp [VOks]
  | cons v l ih => simp [VOks, ih]

/-- The value of a text. -/
def strV (s : ByteArray) : Vl := .mk 4 s [] []

theorem strV_ok (s : ByteArray) : VOk (strV s) := by simp [strV, VOk, VOks]

/-! ### Which values a type has -/

/-- The items of an array are those of a type. -/
def ItemsP (fs gs : List (Vl → Prop)) (vs : List Vl) : Prop :=
  fs.length ≤ vs.length ∧ (gs = [] → vs.length ≤ fs.length) ∧ ∀ i (h : i < vs.length), (∀ f, fs[i]? = some f → f vs[i]) ∧ (fs.length ≤ i → ∃ f, gs.head? = some f ∧ f vs[i])

/-- A property of an object fits. -/
def PropFits (ps : List (Ky × (Vl → Prop))) (gs : List (Vl → Prop)) (k : ByteArray) (x : Vl) : Prop :=
  (∃ f, ((⟨4, k⟩ : Ky), f) ∈ ps ∧ f x) ∨ ((⟨4, k⟩ : Ky) ∉ ps.map (·.1) ∧ ∃ f0 f1, gs = [f0, f1] ∧ f0 (strV k) ∧ f1 x)

def isStat (kys : List Ky) (k : ByteArray) : Bool := decide ((⟨4, k⟩ : Ky) ∈ kys)

/-- The properties of an object are those of a type. -/
def PropsP (ps : List (Ky × (Vl → Prop))) (gs : List (Vl → Prop)) (keys : List ByteArray) (kids : List Vl) : Prop :=
  (∀ i (h : i < keys.length) x, kids[i]? = some x → PropFits ps gs keys[i] x) ∧ keys.countP (isStat (ps.map (·.1))) = ps.length

def InK (k : Int) (ks : List Ky) (fs gs : List (Vl → Prop)) (v : Vl) : Prop :=
  (k = 1 ∧ v.kind = 0) ∨ (k = 2 ∧ (v.kind = 1 ∨ v.kind = 2)) ∨ (k = 3 ∧ v.kind = 3) ∨ (k = 4 ∧ v.kind = 4) ∨
    (k = 5 ∧ v.kind = 5 ∧ ItemsP fs gs v.kids) ∨ (k = 6 ∧ v.kind = 6 ∧ PropsP (ks.zip fs) gs v.keys v.kids) ∨ (k = 8 ∧ (fs = [] ∨ ∃ f ∈ fs, f v))

mutual
/-- The type has the value. -/
def InT : Tr → Vl → Prop
  | .mk k ks l m => InK k ks (InTs l) (InTs m)
def InTs : List Tr → List (Vl → Prop)
  | [] => []
  | t :: l => InT t :: InTs l
end

theorem InTs_map (l : List Tr) : InTs l = l.map InT := by
  induction l with
  | nil => rfl
  | cons t l ih => simp only [InTs, ih, List.map_cons]

theorem InTs_length (l : List Tr) : (InTs l).length = l.length := by rw [InTs_map, List.length_map]

theorem PropFits.perm {ps qs : List (Ky × (Vl → Prop))} (h : ps.Perm qs) (gs : List (Vl → Prop)) (k : ByteArray) (x : Vl) : PropFits ps gs k x ↔ PropFits qs gs k x := by
  unfold PropFits
  rw [(h.map (·.1)).mem_iff]
  refine or_congr ⟨?_, ?_⟩ Iff.rfl
  · rintro ⟨f, hf, hx⟩; exact ⟨f, h.mem_iff.1 hf, hx⟩
  · rintro ⟨f, hf, hx⟩; exact ⟨f, h.mem_iff.2 hf, hx⟩

theorem isStat_perm {ps qs : List Ky} (h : ps.Perm qs) : isStat ps = isStat qs := by
  funext k
  unfold isStat
  simp only [decide_eq_decide]
  exact h.mem_iff

theorem PropsP.perm {ps qs : List (Ky × (Vl → Prop))} (h : ps.Perm qs) (gs : List (Vl → Prop)) (keys : List ByteArray) (kids : List Vl) : PropsP ps gs keys kids ↔ PropsP qs gs keys kids := by
  unfold PropsP
  rw [isStat_perm (h.map (·.1)), h.length_eq]
  exact and_congr (forall_congr' fun i => forall_congr' fun hi => forall_congr' fun x => imp_congr Iff.rfl (PropFits.perm h gs _ x)) Iff.rfl

theorem zip_map_r {α β γ : Type} (f : β → γ) : ∀ (l : List α) (m : List β), l.zip (m.map f) = (l.zip m).map fun p => (p.1, f p.2)
  | [], _ => by simp
  | _ :: _, [] => by simp
  | a :: l, b :: m => by simp [zip_map_r f l m]

theorem zip_unzip {α β : Type} (l : List (α × β)) : (l.map (·.1)).zip (l.map (·.2)) = l := by
  induction l with
  | nil => rfl
  | cons p l ih => simp [ih]

/-- A type as it is kept has the values of the type. -/
theorem InT_norm (t : Tr) : InT (norm t) = InT t := by
  induction t using Tr.ind with
  | h k ks l m il im =>
    have mp : ∀ {l : List Tr}, (∀ t ∈ l, InT (norm t) = InT t) → InTs (norms l) = InTs l := by
      intro l h
      rw [InTs_map, InTs_map, norms_map, List.map_map]
      exact List.map_congr_left fun t ht => h t ht
    have el := mp il
    have em := mp im
    simp only [norm]
    by_cases h8 : k = 8
    · subst h8
      rw [if_pos rfl]
      simp only [InT]
      rw [em]
      funext v
      unfold InK
      have hp : (InTs (sortT (norms l))).Perm (InTs l) := by
        rw [← el, InTs_map, InTs_map]
        exact (isort_perm leT (norms l)).map InT
      have e1 : (InTs (sortT (norms l)) = [] ∨ ∃ f ∈ InTs (sortT (norms l)), f v) = (InTs l = [] ∨ ∃ f ∈ InTs l, f v) := by
        apply propext
        refine or_congr ⟨fun h => ?_, fun h => ?_⟩ ⟨?_, ?_⟩
        · rw [h] at hp; exact List.nil_perm.1 hp
        · rw [h] at hp; exact List.perm_nil.1 hp
        · rintro ⟨f, hf, hx⟩; exact ⟨f, hp.mem_iff.1 hf, hx⟩
        · rintro ⟨f, hf, hx⟩; exact ⟨f, hp.mem_iff.2 hf, hx⟩
      rw [e1]
      apply propext
      simp
    · rw [if_neg h8]
      by_cases h6 : k = 6
      · subst h6
        rw [if_pos rfl]
        simp only [InT]
        rw [em]
        funext v
        unfold InK
        have hp : (((sortK (ks.zip (norms l))).map (·.1)).zip (InTs ((sortK (ks.zip (norms l))).map (·.2)))).Perm (ks.zip (InTs l)) := by
          rw [← el, InTs_map, InTs_map, zip_map_r, zip_unzip, zip_map_r]
          exact (isort_perm leK _).map _
        have e1 := propext (PropsP.perm hp (InTs m) v.keys v.kids)
        rw [e1]
        apply propext
        simp
      · rw [if_neg h6]
        simp only [InT]
        rw [el, em]

end Go.Proofs.YtpmfjbmfjfhghaaGreat
