/-
  AN ARGUMENT OF TYPE impl.Type, READ AS A TREE.
-/
import Derived.Test.YtpmfjbmfjfhghaaGreatMem
import Derived.Test.YtpmfjbmfjfhghaaGreatRows
import Derived.Deep.Slices
import Derived.Deep.Fields
import Derived.ChangeSame
namespace Go.Proofs.YtpmfjbmfjfhghaaGreat
open Go.ChangeShapes Go.WideShapes Go.RowKit

section
variable {H : Type} {enc : TypeId × Value → H} {w : World} {base : Nat} {spare : Nat → Bool} {held : Bool}

theorem cell_spot {w : World} {a : Addr} {v : Value} (h : w.cell? a = some v) : a = ⟨a.block, a.off, none⟩ ∧ a.block < w.heap.size := by
  unfold World.cell? at h
  have hlt : a.block < w.heap.size := by
    rcases Nat.lt_or_ge a.block w.heap.size with hlt | hge
    · exact hlt
    · rw [Array.getElem?_eq_none hge] at h; simp at h
  refine ⟨?_, hlt⟩
  split at h
  · split at h
    · cases h
    · rename_i hs
      cases a with
      | mk b o s => cases s with
        | none => rfl
        | some s => simp at hs
  · cases h

theorem row_of {a : Addr} {xs : List Value} (h : ∀ j u, xs[j]? = some u → w.cell? (a.add j) = some u) : rowAt w (fun b => b < w.heap.size) (some a) xs := by
  intro j u hu
  have h0 : 0 < xs.length := by have := (List.getElem?_eq_some_iff.1 hu).1; omega
  have hc := h 0 xs[0] (by simp [h0])
  have ha : a.add 0 = a := by simp [Addr.add]
  rw [ha] at hc
  obtain ⟨e, hlt⟩ := cell_spot hc
  refine ⟨a.block, a.off, by rw [← e], hlt, ?_⟩
  have := h j u hu
  rw [e] at this
  unfold Addr.add at this
  split at this
  · rename_i hj; subst hj; exact this
  · exact this

/-- A row put together out of its parts. -/
theorem rows_of {α : Type} {k : Nat} {a : Addr} {D : Nat → DataW H} {rep : α → List Value → Prop} {reps : List α → List Value → Prop} {bulk : α → Nat} {bulks : List α → Nat} (h0 : reps [] []) (hs : ∀ l xs t cs, reps l xs → rep t cs → reps (l ++ [t]) (xs ++ cs)) (b0 : bulks [] = 0) (bs : ∀ l t, bulks (l ++ [t]) = bulks l + bulk t) :
    ∀ (len : Nat), (∀ i, i < len → ∃ (t : α) (cs : List Value), cs.length = k ∧ rep t cs ∧ bulk t ≤ Rows.uptoBulk (D i) ∧ ∀ j, j < k → w.cell? (a.add (i * k + j)) = cs[j]?) →
      ∃ (l : List α) (xs : List Value), l.length = len ∧ xs.length = len * k ∧ reps l xs ∧ bulks l ≤ Rows.uptoBulkAll ((List.range len).map D) ∧ ∀ j u, xs[j]? = some u → w.cell? (a.add j) = some u
  | 0, _ => ⟨[], [], rfl, by simp, h0, by rw [b0]; omega, fun j u h => by simp at h⟩
  | len + 1, h => by
    obtain ⟨l, xs, e1, e2, r, b, hc⟩ := rows_of h0 hs b0 bs len fun i hi => h i (by omega)
    obtain ⟨t, cs, f1, f2, f3, f4⟩ := h len (by omega)
    have ap : ∀ (p q : List (DataW H)), Rows.uptoBulkAll (p ++ q) = Rows.uptoBulkAll p + Rows.uptoBulkAll q := fun p q => by
      induction p with
      | nil => simp [Rows.uptoBulkAll]
      | cons x p ih => simp only [List.cons_append, Rows.uptoBulkAll, ih]; omega
    refine ⟨l ++ [t], xs ++ cs, by simp [e1], by simp [e2, f1, Nat.add_mul], hs _ _ _ _ r f2, ?_, fun j u hu => ?_⟩
    · rw [bs, List.range_succ, List.map_append, ap]
      simp only [List.map_cons, List.map_nil, Rows.uptoBulkAll]
      omega
    · rcases Nat.lt_or_ge j xs.length with hj | hj
      · rw [List.getElem?_append_left hj] at hu
        exact hc j u hu
      · rw [List.getElem?_append_right hj] at hu
        have hjk : j - xs.length < k := by have := (List.getElem?_eq_some_iff.1 hu).1; omega
        have := f4 (j - xs.length) hjk
        rw [hu, ← e2, Nat.add_sub_cancel' hj] at this
        exact this

theorem kyBulk_append (ks : List Ky) (k : Ky) : kyBulk (ks ++ [k]) = kyBulk ks + kyBulk [k] := by
  induction ks with
  | nil => simp [kyBulk]
  | cons x ks ih => simp only [List.cons_append, kyBulk] at ih ⊢; omega

theorem bulks_snoc (l : List Tr) (t : Tr) : Tr.bulks (l ++ [t]) = Tr.bulks l + t.bulk := by
  induction l with
  | nil => simp [Tr.bulks]
  | cons x l ih => simp only [List.cons_append, Tr.bulks, ih]; omega

theorem list2 {α : Type} {l : List α} (h : l.length = 2) : ∃ a b, l = [a, b] := by
  match l, h with
  | [a, b], _ => exact ⟨a, b, rfl⟩
theorem list6 {α : Type} {l : List α} (h : l.length = 6) : ∃ a b c d e f, l = [a, b, c, d, e, f] := by
  match l, h with
  | [a, b, c, d, e, f], _ => exact ⟨a, b, c, d, e, f, rfl⟩

theorem str_size (s : ByteArray) : s.data.toList.length = s.size := by cases s; simp [ByteArray.size]

theorem cellsI : Tryz.prog.cellsOf 3 = 1 := by kernel_rfl
theorem cellsS : Tryz.prog.cellsOf 9 = 1 := by kernel_rfl
theorem cellsKs : Tryz.prog.cellsOf 22 = 1 := by kernel_rfl
theorem cellsTs : Tryz.prog.cellsOf 23 = 1 := by kernel_rfl
theorem cellsK : Tryz.prog.cellsOf 71 = 2 := by kernel_rfl
theorem cellsT : Tryz.prog.cellsOf 25 = 6 := by kernel_rfl

set_option maxRecDepth 100000 in
theorem trod_key {fuel : Nat} {cs : List Value} {x : DataW H × List MemPlace} (h : DataW.trod enc Tryz.prog w base spare held fuel 71 cs = some x) : ∃ k : Ky, cs = keyCells [k] ∧ kyBulk [k] ≤ Rows.uptoBulk x.1 := by
  obtain ⟨xs, n, rfl, rfl, hl, hxl, hf⟩ := DataW.trod_struct Tryz.underlying71 h
  rw [show Tryz.prog.cellsOf 71 = 2 by kernel_rfl] at hl
  obtain ⟨c0, c1, rfl⟩ := list2 hl
  obtain ⟨y0, y1, rfl⟩ := list2 (l := xs) hxl
  have g0 : DataW.trod enc Tryz.prog w base spare held n 3 [c0] = some y0 := by simpa [cellsI] using hf 0 _ rfl
  have g1 : DataW.trod enc Tryz.prog w base spare held n 9 [c1] = some y1 := by simpa [cellsS] using hf 1 _ rfl
  obtain ⟨k, e, rfl, _⟩ := DataW.trod_int Tryz.underlying3 g0
  obtain ⟨s, f, rfl, _⟩ := DataW.trod_string Tryz.underlying9 g1
  simp only [List.cons.injEq, and_true] at e f
  subst e f
  refine ⟨⟨k, s⟩, rfl, ?_⟩
  simp only [kyBulk, Rows.uptoBulk, Rows.uptoBulkAll, List.map_cons, List.map_nil, str_size]
  omega

theorem part_le {d : DataW H} {l : List (DataW H)} (h : d ∈ l) : Rows.uptoBulk d ≤ Rows.uptoBulkAll l := by
  induction l with
  | nil => cases h
  | cons x r ih =>
    simp only [Rows.uptoBulkAll]
    rcases List.mem_cons.1 h with e | e
    · subst e; omega
    · have := ih e; omega

/-- A slice's cell, its elements put together. -/
theorem trod_row {α : Type} {t e k M : Nat} {fuel : Nat} {cs : List Value} {x : DataW H × List MemPlace} (ht : Tryz.prog.underlying t = some (.slice e)) (hk : Tryz.prog.cellsOf e = k) {rep : α → List Value → Prop} {reps : List α → List Value → Prop} {bulk : α → Nat} {bulks : List α → Nat}
    (h0 : reps [] []) (hs : ∀ l xs t cs, reps l xs → rep t cs → reps (l ++ [t]) (xs ++ cs)) (b0 : bulks [] = 0) (bs : ∀ l t, bulks (l ++ [t]) = bulks l + bulk t)
    (hel : ∀ (n : Nat) (cs : List Value) (x : DataW H × List MemPlace), n < fuel → DataW.trod enc Tryz.prog w base spare held n e cs = some x → Rows.uptoBulk x.1 ≤ M → ∃ t, rep t cs ∧ bulk t ≤ Rows.uptoBulk x.1)
    (h : DataW.trod enc Tryz.prog w base spare held fuel t cs = some x) (hM : Rows.uptoBulk x.1 ≤ M) :
    ∃ (A : Option Addr) (l : List α) (c : Nat) (xs : List Value), cs = [.slice A l.length c] ∧ l.length ≤ c ∧ reps l xs ∧ rowAt w (fun b => b < w.heap.size) A xs ∧ bulks l + 1 ≤ Rows.uptoBulk x.1 := by
  rcases DataW.trod_slice ht h with ⟨rfl, rfl⟩ | ⟨a, len, cap, elems, rest, n, hn, rfl, rfl, hb, hl, hm, hlen, hel', hsp, hns⟩
  · exact ⟨none, [], 0, [], rfl, Nat.le_refl _, h0, rowAt.nil, by rw [b0]; simp [Rows.uptoBulk]⟩
  · rw [hk] at hel'
    have hrow := rows_of (w := w) (k := k) (a := a) (D := fun i => ((elems.map (·.1))[i]?).getD .nil) h0 hs b0 bs len (fun i hi => by
      have h1 := hel' i hi
      have hi' : i < elems.length := by omega
      rw [List.getElem?_eq_getElem hi'] at h1
      obtain ⟨cs', hc, ht'⟩ := Option.bind_eq_some_iff.1 h1
      obtain ⟨_, hcl, hat⟩ := World.cells?_some hc
      have hpm := part_le (d := (elems[i]'hi').1) (l := elems.map (·.1)) (List.mem_map_of_mem (List.getElem_mem hi'))
      simp only [Rows.uptoBulk] at hM
      obtain ⟨t, hr, hbk⟩ := hel n cs' _ (by omega) ht' (by omega)
      refine ⟨t, cs', hcl, hr, by simpa [hi'] using hbk, fun j hj => ?_⟩
      rw [← Go.Deep.add_add]
      exact hat j hj)
    obtain ⟨l, xs, e1, e2, r, b, hc⟩ := hrow
    refine ⟨some a, l, cap, xs, by rw [e1], by omega, r, row_of hc, ?_⟩
    have e3 : (List.range len).map (fun i => ((elems.map (·.1))[i]?).getD (DataW.nil (H := H))) = elems.map (·.1) := by
      apply List.ext_getElem
      · simp [hlen]
      · intro i h1 h2
        simp at h2
        simp [h2]
    rw [e3] at b
    simp only [Rows.uptoBulk]
    omega

theorem repIs_snoc' {B : Nat → Prop} : ∀ l xs t cs, repIs w B l xs → repI w B t cs → repIs w B (l ++ [t]) (xs ++ cs) := fun _ _ _ _ h h' => repIs.snoc h' h

def repK (l : List Ky) (xs : List Value) : Prop := xs = keyCells l

set_option maxRecDepth 100000 in
theorem trod_type (fuel : Nat) : ∀ (cs : List Value) (x : DataW H × List MemPlace), DataW.trod enc Tryz.prog w base spare held fuel 25 cs = some x → Rows.uptoBulk x.1 ≤ 1048576 →
    ∃ t : Tr, repI w (fun b => b < w.heap.size) t cs ∧ t.bulk + 5 ≤ Rows.uptoBulk x.1 := by
  induction fuel using Nat.strongRecOn with
  | ind fuel ih =>
    intro cs x h hM
    obtain ⟨xs, n, rfl, rfl, hl, hxl, hf⟩ := DataW.trod_struct Tryz.underlying25 h
    rw [cellsT] at hl
    obtain ⟨c0, c1, c2, c3, c4, c5, rfl⟩ := list6 hl
    obtain ⟨y0, y1, y2, y3, y4, y5, rfl⟩ := list6 (l := xs) hxl
    have g0 : DataW.trod enc Tryz.prog w base spare held n 3 [c0] = some y0 := by simpa [cellsI] using hf 0 _ rfl
    have g1 : DataW.trod enc Tryz.prog w base spare held n 9 [c1] = some y1 := by simpa [cellsS] using hf 1 _ rfl
    have g2 : DataW.trod enc Tryz.prog w base spare held n 9 [c2] = some y2 := by simpa [cellsS] using hf 2 _ rfl
    have g3 : DataW.trod enc Tryz.prog w base spare held n 22 [c3] = some y3 := by simpa [cellsKs] using hf 3 _ rfl
    have g4 : DataW.trod enc Tryz.prog w base spare held n 23 [c4] = some y4 := by simpa [cellsTs] using hf 4 _ rfl
    have g5 : DataW.trod enc Tryz.prog w base spare held n 23 [c5] = some y5 := by simpa [cellsTs] using hf 5 _ rfl
    simp only [Rows.uptoBulk, Rows.uptoBulkAll, List.map_cons, List.map_nil] at hM ⊢
    obtain ⟨k, e0, rfl, _⟩ := DataW.trod_int Tryz.underlying3 g0
    obtain ⟨s1, e1, rfl, _⟩ := DataW.trod_string Tryz.underlying9 g1
    obtain ⟨s2, e2, rfl, _⟩ := DataW.trod_string Tryz.underlying9 g2
    simp only [List.cons.injEq, and_true] at e0 e1 e2
    subst e0 e1 e2
    simp only [Rows.uptoBulk, str_size] at hM ⊢
    obtain ⟨A3, ks, k3, xs3, e3, l3, r3, w3, b3⟩ := trod_row (M := 1048576) (rep := fun (k : Ky) cs => cs = keyCells [k]) (reps := repK) (bulk := fun k => kyBulk [k]) (bulks := kyBulk) Tryz.underlying22 cellsK rfl
      (fun l xs t cs h h' => by unfold repK at *; rw [h, h', keyCells_append]) rfl kyBulk_append (fun n cs x _ h _ => trod_key h) g3 (by omega)
    obtain ⟨A4, l, k4, xs4, e4, l4, r4, w4, b4⟩ := trod_row (M := 1048576) (rep := repI w (fun b => b < w.heap.size)) (reps := repIs w (fun b => b < w.heap.size)) (bulk := Tr.bulk) (bulks := Tr.bulks) Tryz.underlying23 cellsT (by simp [repIs])
      repIs_snoc' (by simp [Tr.bulks]) bulks_snoc (fun m cs x hm h hb => (ih m (by omega) cs x h hb).imp fun t ht => ⟨ht.1, by have := ht.2; omega⟩) g4 (by omega)
    obtain ⟨A5, m, k5, xs5, e5, l5, r5, w5, b5⟩ := trod_row (M := 1048576) (rep := repI w (fun b => b < w.heap.size)) (reps := repIs w (fun b => b < w.heap.size)) (bulk := Tr.bulk) (bulks := Tr.bulks) Tryz.underlying23 cellsT (by simp [repIs])
      repIs_snoc' (by simp [Tr.bulks]) bulks_snoc (fun m cs x hm h hb => (ih m (by omega) cs x h hb).imp fun t ht => ⟨ht.1, by have := ht.2; omega⟩) g5 (by omega)
    simp only [List.cons.injEq, and_true] at e3 e4 e5
    subst e3 e4 e5
    unfold repK at r3
    subst r3
    refine ⟨.mk k ks l m, ?_, by simp only [Tr.bulk]; omega⟩
    simp only [repI]
    exact ⟨s1, s2, A3, k3, A4, k4, A5, k5, xs4, xs5, rfl, ⟨by omega, by omega, l3, l4, l5⟩, w3, w4, r4, w5, r5⟩

set_option maxRecDepth 100000 in
/-- An argument of type impl.Type. -/
theorem open_type {r : Reach} {b0 : Nat} {v : Value} {d : DataW H} {p : List MemPlace} (hv : Value.okWide Tryz.prog w r b0 25 v) (h : DataW.Trod enc Tryz.prog w base spare held 25 v d p) (hb : Rows.uptoBulk d ≤ 1048576) :
    ∃ (t : Tr) (cs : List Value), v = .agg cs.toArray ∧ repI w (fun b => b < w.heap.size) t cs ∧ t.bulk + 5 ≤ Rows.uptoBulk d := by
  obtain ⟨cs, rfl, hsz⟩ := okWide_struct Tryz.underlying25 hv
  obtain ⟨fuel, hf⟩ := h
  obtain ⟨t, hr, ht⟩ := trod_type fuel _ _ hf hb
  exact ⟨t, cs.toList, by simp, by simpa [Value.cells] using hr, ht⟩

end

end Go.Proofs.YtpmfjbmfjfhghaaGreat
