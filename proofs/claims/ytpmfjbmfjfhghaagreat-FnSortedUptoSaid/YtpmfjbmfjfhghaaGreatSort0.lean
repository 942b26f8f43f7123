/-
  'zzSorted' at types: they stand in order. (The contract of slices.SortFunc: the shelf's.)
-/
import Derived.Test.YtpmfjbmfjfhghaaGreatNew
import Derived.Test.YtpmfjbmfjfhghaaGreatPlain3
import Derived.Shelf.SlSortCmp.Kit1
namespace Go.Proofs.YtpmfjbmfjfhghaaGreat
open Go.RowKit

section
variable {α : Type} [Inhabited α]

/-- Outside the row the sort turns nothing. -/
theorem Kept.sorted (enc : α → Value) (w : World) (blk off n : Nat) (d : Array α) (os : Array Obj) : Kept (fun b => b < w.heap.size ∧ b ≠ blk) w (Go.Proofs.sortWorld enc w blk off n d os) where
  os := rfl
  tape := rfl
  output := rfl
  size := by simp [Go.Proofs.sortWorld]
  block k hk := by
    unfold Go.Proofs.sortWorld
    rw [Go.Sort.heap_grow_old _ _ (by simpa using hk.1)]
    show ((w.heap.modify blk _))[k]? = _
    rw [Array.getElem?_modify, if_neg (fun e => hk.2 e.symm)]

/-- The list's cells, as the sort asks it. -/
theorem holds_of {w : World} {F : Nat → Prop} {blk off : Nat} {enc : α → Value} {L : List α} (h : rowAt w F (some ⟨blk, off, none⟩) (L.map enc)) (hz : ∀ i, w.frozen? ⟨blk, i, none⟩ = false) : Go.Sort.Holds enc w blk off L.toArray := by
  intro j hj
  have hj' : j < L.length := by simpa using hj
  obtain ⟨b, o, e, _, hc⟩ := h j (enc L[j]) (by simp [hj'])
  injection e with e
  injection e with e1 e2
  subst e1 e2
  refine ⟨?_, hz _⟩
  rw [hc, getElem!_pos L.toArray j hj]
  simp

theorem of_holds {w : World} {F : Nat → Prop} {blk off : Nat} {enc : α → Value} {d : Array α} (h : Go.Sort.Holds enc w blk off d) (hF : F blk) : rowAt w F (some ⟨blk, off, none⟩) (d.toList.map enc) := by
  intro j u hu
  rw [List.getElem?_map] at hu
  have hj : j < d.size := by
    rcases Nat.lt_or_ge j d.size with hlt | hge
    · exact hlt
    · rw [List.getElem?_eq_none (by simpa using hge)] at hu; cases hu
  have hc := (h j hj).1
  rw [getElem!_pos d j hj] at hc
  rw [List.getElem?_eq_getElem (by simpa using hj)] at hu
  simp at hu
  exact ⟨blk, off, rfl, hF, by rw [hc, hu]⟩

/-- What the sort says of the list. -/
theorem sorted_list {lt : α → α → Bool} {L : List α} {d' : Array α} (hp : Go.Sort.PermIn 0 L.toArray.size L.toArray d') (hs : Go.Sort.SortedIn lt 0 L.toArray.size d') : d'.toList.Perm L ∧ d'.toList.Pairwise (fun a b => lt b a = false) := by
  obtain ⟨h1, _, h3⟩ := hp
  have hz : d'.size = L.length := by simpa using h1
  refine ⟨?_, ?_⟩
  · have e1 : d'.extract 0 L.toArray.size = d' := by rw [← h1]; simp
    have e2 : L.toArray.extract 0 L.toArray.size = L.toArray := by simp
    rw [e1, e2] at h3
    simpa using h3
  · rw [List.pairwise_iff_getElem]
    intro i j hi hj hij
    have hi' : i < d'.size := by simpa using hi
    have hj' : j < d'.size := by simpa using hj
    have := hs i j (Nat.zero_le _) hij (by simp; omega)
    rw [getElem!_pos d' i hi', getElem!_pos d' j hj'] at this
    simpa using this
end

/-! ### Types -/

/-- A type with its value. -/
abbrev El (w : World) (F : Nat → Prop) : Type := { p : Tr × Value // repP w F p.1 p.2 ∧ p.1.good ∧ p.1.size ≤ 1073741824 }

def El.enc {w : World} {F : Nat → Prop} (x : El w F) : Value := x.1.2
def El.cf {w : World} {F : Nat → Prop} (x y : El w F) : Int := cmp x.1.1 y.1.1

theorem El.one {w : World} {F : Nat → Prop} : Go.Proofs.OneCell (El.enc (w := w) (F := F)) := fun x => by
  obtain ⟨T, v, h, _⟩ := x.2.1.dyn
  show x.1.2.oneCell' = true
  rw [h]; rfl

theorem El.swo {w : World} {F : Nat → Prop} : Go.Sort.SWO (Go.Proofs.ltOf (El.cf (w := w) (F := F))) where
  irrefl x := decide_eq_false (by have := cmp_self x.2.2.1; simp only [El.cf]; omega)
  trans x y z h h' := decide_eq_true ((cmp_linear.tri x.1.1 y.1.1 z.1.1 x.2.2.1 y.2.2.1 z.2.2.1).2.2 (of_decide_eq_true h) (of_decide_eq_true h'))
  ntrans x y z h h' := by
    have h1 : ¬ cmp x.1.1 y.1.1 < 0 := of_decide_eq_false h
    have h2 : ¬ cmp y.1.1 z.1.1 < 0 := of_decide_eq_false h'
    have a1 := cmp_linear.anti x.1.1 y.1.1 x.2.2.1 y.2.2.1
    have a2 := cmp_linear.anti y.1.1 z.1.1 y.2.2.1 z.2.2.1
    have a3 := cmp_linear.anti x.1.1 z.1.1 x.2.2.1 z.2.2.1
    have := (cmp_linear.tri z.1.1 y.1.1 x.1.1 z.2.2.1 y.2.2.1 x.2.2.1).le (by omega) (by omega)
    exact decide_eq_false (by simp only [El.cf]; omega)

theorem El.of {w : World} {F : Nat → Prop} : ∀ {l : List Tr} {xs : List Value}, repPs w F l xs → (∀ t ∈ l, t.good ∧ t.size ≤ 1073741824) → ∃ L : List (El w F), L.map (fun x => x.1.1) = l ∧ L.map El.enc = xs
  | [], xs, h, _ => by simp only [repPs] at h; subst h; exact ⟨[], rfl, rfl⟩
  | t :: l, xs, h, hg => by
    simp only [repPs] at h
    obtain ⟨x, ys, rfl, h1, h2⟩ := h
    obtain ⟨L, e1, e2⟩ := El.of h2 fun t ht => hg t (by simp [ht])
    exact ⟨⟨(t, x), h1, hg t (by simp)⟩ :: L, by simp [e1], by simp [e2, El.enc]⟩

theorem El.reps {w w' : World} {F : Nat → Prop} {X : Nat → Prop} (hk : Kept X w w') (hX : ∀ b, F b → X b) (L : List (El w F)) : repPs w' F (L.map fun x => x.1.1) (L.map El.enc) := by
  induction L with
  | nil => simp [repPs]
  | cons x L ih =>
    simp only [List.map_cons, repPs]
    exact ⟨x.1.2, _, rfl, x.2.1.keep (fun _ h => h) hk hX, ih⟩

theorem El.le {w : World} {F : Nat → Prop} {x y : El w F} (h : Go.Proofs.ltOf El.cf y x = false) : leT x.1.1 y.1.1 = true := by
  have h1 : ¬ cmp y.1.1 x.1.1 < 0 := of_decide_eq_false h
  have a1 := cmp_linear.anti x.1.1 y.1.1 x.2.2.1 y.2.2.1
  exact decide_eq_true (by omega)

/-! ### Properties -/

/-- A property with its block, key, value, type. -/
abbrev Pl (w : World) (F : Nat → Prop) : Type := { p : Nat × (Ky × Tr) × Value // F p.1 ∧ Blk w p.1 129 #[keyVal p.2.1.1, p.2.2] ∧ p.2.1.1.ok ∧ repP w F p.2.1.2 p.2.2 }

def Pl.enc {w : World} {F : Nat → Prop} (x : Pl w F) : Value := ptr x.1.1
def Pl.cf {w : World} {F : Nat → Prop} (x y : Pl w F) : Int := cmpK x.1.2.1.1 y.1.2.1.1

theorem Pl.one {w : World} {F : Nat → Prop} : Go.Proofs.OneCell (Pl.enc (w := w) (F := F)) := fun _ => rfl

theorem Pl.swo {w : World} {F : Nat → Prop} : Go.Sort.SWO (Go.Proofs.ltOf (Pl.cf (w := w) (F := F))) where
  irrefl x := decide_eq_false (by have := (cmpK_linear.eq x.1.2.1.1 x.1.2.1.1 x.2.2.2.1 x.2.2.2.1).2 rfl; simp only [Pl.cf]; omega)
  trans x y z h h' := decide_eq_true ((cmpK_linear.tri x.1.2.1.1 y.1.2.1.1 z.1.2.1.1 x.2.2.2.1 y.2.2.2.1 z.2.2.2.1).2.2 (of_decide_eq_true h) (of_decide_eq_true h'))
  ntrans x y z h h' := by
    have h1 : ¬ cmpK x.1.2.1.1 y.1.2.1.1 < 0 := of_decide_eq_false h
    have h2 : ¬ cmpK y.1.2.1.1 z.1.2.1.1 < 0 := of_decide_eq_false h'
    have a1 := cmpK_linear.anti x.1.2.1.1 y.1.2.1.1 x.2.2.2.1 y.2.2.2.1
    have a2 := cmpK_linear.anti y.1.2.1.1 z.1.2.1.1 y.2.2.2.1 z.2.2.2.1
    have a3 := cmpK_linear.anti x.1.2.1.1 z.1.2.1.1 x.2.2.2.1 z.2.2.2.1
    have := (cmpK_linear.tri z.1.2.1.1 y.1.2.1.1 x.1.2.1.1 z.2.2.2.1 y.2.2.2.1 x.2.2.2.1).le (by omega) (by omega)
    exact decide_eq_false (by simp only [Pl.cf]; omega)

theorem Pl.of {w : World} {F : Nat → Prop} : ∀ {gs : List Nat} {ks : List Ky} {l : List Tr} {vs : List Value}, props w F gs ks vs → repPs w F l vs → (∀ k ∈ ks, k.ok) →
    ∃ L : List (Pl w F), L.map (fun x => x.1.2.1) = ks.zip l ∧ L.map Pl.enc = gs.map ptr
  | [], [], _, [], _, _, _ => ⟨[], rfl, rfl⟩
  | g :: gs, k :: ks, t :: l, v :: vs, h, h', o => by
    simp only [props] at h
    simp only [repPs] at h'
    obtain ⟨x, ys, e, h1, h2⟩ := h'
    simp only [List.cons.injEq] at e
    obtain ⟨rfl, rfl⟩ := e
    obtain ⟨L, e1, e2⟩ := Pl.of h.2 h2 fun k hk => o k (by simp [hk])
    exact ⟨⟨(g, (k, t), v), h.1.1, h.1.2, o k (by simp), h1⟩ :: L, by simp [e1], by simp [e2, Pl.enc]⟩
  | _ :: _, _ :: _, [], _ :: _, _, h', _ => by simp [repPs] at h'
  | [], [], _, _ :: _, h, _, _ => by simp [props] at h
  | [], _ :: _, _, _, h, _, _ => by simp [props] at h
  | _ :: _, [], _, _, h, _, _ => by simp [props] at h
  | _ :: _, _ :: _, _, [], h, _, _ => by simp [props] at h

theorem Pl.reps {w w' : World} {F : Nat → Prop} {X : Nat → Prop} (hk : Kept X w w') (hX : ∀ b, F b → X b) (L : List (Pl w F)) :
    props w' F (L.map fun x => x.1.1) (L.map fun x => x.1.2.1.1) (L.map fun x => x.1.2.2) ∧ repPs w' F (L.map fun x => x.1.2.1.2) (L.map fun x => x.1.2.2) := by
  induction L with
  | nil => simp [repPs, props]
  | cons x L ih =>
    simp only [List.map_cons, repPs, props]
    exact ⟨⟨⟨x.2.1, x.2.2.1.kept hk (hX _ x.2.1)⟩, ih.1⟩, x.1.2.2, _, rfl, x.2.2.2.2.keep (fun _ h => h) hk hX, ih.2⟩

theorem Pl.le {w : World} {F : Nat → Prop} {x y : Pl w F} (h : Go.Proofs.ltOf Pl.cf y x = false) : leK x.1.2.1 y.1.2.1 = true := by
  have h1 : ¬ cmpK y.1.2.1.1 x.1.2.1.1 < 0 := of_decide_eq_false h
  have a1 := cmpK_linear.anti x.1.2.1.1 y.1.2.1.1 x.2.2.2.1 y.2.2.2.1
  exact decide_eq_true (by omega)

theorem sortK_unique {L M : List (Ky × Tr)} (ho : ∀ p ∈ L, p.1.ok) (hn : (L.map (·.1)).Nodup) (hp : M.Perm L) (hs : M.Pairwise fun a b => leK a b = true) : M = sortK L := by
  refine sorted_unique leK (hp.trans (isort_perm leK L).symm) hs (isort_sorted leK L (fun x hx y hy => leK_tot (ho x hx) (ho y hy)) fun x hx y hy z hz => leK_trans (ho x hx) (ho y hy) (ho z hz)) ?_
  intro x hx y hy h h'
  have hx := hp.mem_iff.1 hx
  have hy := hp.mem_iff.1 hy
  have e := leK_anti (ho x hx) (ho y hy) h h'
  clear hp hs ho
  induction L with
  | nil => simp at hx
  | cons z L ih =>
    simp only [List.map_cons, List.nodup_cons] at hn
    rcases List.mem_cons.1 hx with e1 | h1 <;> rcases List.mem_cons.1 hy with e2 | h2
    · rw [e1, e2]
    · exact absurd (List.mem_map (f := (·.1)).2 ⟨y, h2, by rw [← e, e1]⟩) hn.1
    · exact absurd (List.mem_map (f := (·.1)).2 ⟨x, h1, by rw [e, e2]⟩) hn.1
    · exact ih hn.2 h1 h2

end Go.Proofs.YtpmfjbmfjfhghaaGreat
