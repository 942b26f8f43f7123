/-
  ROWS OF TYPES, CUT AND PUT TOGETHER.
-/
import Derived.Test.YtpmfjbmfjfhghaaGreatLaw
import Derived.Test.YtpmfjbmfjfhghaaGreatApp
namespace Go.Proofs.YtpmfjbmfjfhghaaGreat
open Go.RowKit

theorem repIs.cut {w : World} {B : Nat → Prop} : ∀ {l : List Tr} {xs : List Value} (n : Nat), n ≤ l.length → repIs w B l xs → ∃ ys zs, xs = ys ++ zs ∧ ys.length = n * 6 ∧ repIs w B (l.take n) ys ∧ repIs w B (l.drop n) zs
  | l, xs, 0, _, h => ⟨[], xs, rfl, rfl, by simp [repIs], by simpa using h⟩
  | t :: l, xs, n + 1, hn, h => by
    simp only [repIs] at h
    obtain ⟨cs, ys, rfl, h1, h2⟩ := h
    obtain ⟨ys', zs, rfl, e, h3, h4⟩ := repIs.cut n (by simpa using hn) h2
    have := h1.length
    refine ⟨cs ++ ys', zs, by simp, by simp; omega, ?_, by simpa using h4⟩
    simp only [List.take_succ_cons, repIs]
    exact ⟨cs, ys', rfl, h1, h3⟩

theorem repIs.append {w : World} {B : Nat → Prop} {l' : List Tr} {ys : List Value} (ht : repIs w B l' ys) : ∀ {l : List Tr} {xs : List Value}, repIs w B l xs → repIs w B (l ++ l') (xs ++ ys)
  | [], xs, h => by simp only [repIs] at h; subst h; exact ht
  | t' :: l, xs, h => by
    simp only [repIs] at h
    obtain ⟨cs', zs, rfl, h1, h2⟩ := h
    exact ⟨cs', zs ++ ys, by simp, h1, repIs.append ht h2⟩

theorem repI.oneCell {w : World} {B : Nat → Prop} {t : Tr} {cs : List Value} (h : repI w B t cs) : ∀ u ∈ cs, u.oneCell' = true := by
  obtain ⟨nm, tx, A1, c1, A2, c2, A3, c3, rfl⟩ := h.shape
  intro u hu
  simp at hu
  rcases hu with rfl | rfl | rfl | rfl | rfl | rfl <;> rfl
theorem repIs.oneCell {w : World} {B : Nat → Prop} : ∀ {l : List Tr} {xs : List Value}, repIs w B l xs → ∀ u ∈ xs, u.oneCell' = true
  | [], xs, h => by simp only [repIs] at h; subst h; simp
  | t :: l, xs, h => by
    simp only [repIs] at h
    obtain ⟨cs, ys, rfl, h1, h2⟩ := h
    intro u hu
    rcases List.mem_append.1 hu with hu | hu
    · exact h1.oneCell u hu
    · exact h2.oneCell u hu

theorem rowAt.left {w : World} {B : Nat → Prop} {A : Option Addr} {xs ys : List Value} (h : rowAt w B A (xs ++ ys)) : rowAt w B A xs := fun j u hu =>
  h j u (by rw [List.getElem?_append_left (List.getElem?_eq_some_iff.1 hu).1]; exact hu)
theorem rowAt.right {w : World} {B : Nat → Prop} {b off : Nat} {xs ys : List Value} (h : rowAt w B (some ⟨b, off, none⟩) (xs ++ ys)) : rowAt w B (some ⟨b, off + xs.length, none⟩) ys := fun j u hu => by
  obtain ⟨b', off', e, hb, hc⟩ := h (xs.length + j) u (by rw [List.getElem?_append_right (by omega)]; simpa using hu)
  injection e with e
  injection e with e1 e2
  subst e1 e2
  exact ⟨b, off + xs.length, rfl, hb, by rw [Nat.add_assoc]; exact hc⟩

theorem Blk.row {w : World} {g : Nat} {T : TypeId} {cs : List Value} (h : Blk w g T cs.toArray) : rowAt w (fun b => b < w.heap.size) (some ⟨g, 0, none⟩) cs := fun j u hu =>
  ⟨g, 0, rfl, h.lt, by rw [h.cell]; simpa using hu⟩
theorem Blk.new' {w : World} {g : Nat} (T : TypeId) (cs : List Value) (hg : g = w.heap.size) : Blk (w.alloc (.cells cs.toArray T)) g T cs.toArray := by subst hg; exact Blk.new _ _ _

theorem info25 : (Tryz.prog.info? 25).map (fun i => (i.zero, i.size, i.bytes)) = some (some (.agg #[.int .i64 0, .string ⟨#[]⟩, .string ⟨#[]⟩, .slice none 0 0, .slice none 0 0, .slice none 0 0]), 6, 112) := by kernel_rfl

/-- What the region leaves: the row with the type that is none in its place. -/
def MadeW (l : List Tr) (n : Nat) (w : World) (v : Value) (wx : World) : Prop :=
  ∃ A c ys, v = .slice A (l.length + 1) c ∧ l.length + 1 ≤ c ∧ rowAt wx (fun b => b < wx.heap.size) A ys ∧ repIs wx (fun b => b < wx.heap.size) (l.take n ++ .mk 0 [] [] [] :: l.drop n) ys ∧ Below w.heap.size w wx

def zeroCells : List Value := [.int .i64 0, .string ⟨#[]⟩, .string ⟨#[]⟩, .slice none 0 0, .slice none 0 0, .slice none 0 0]

theorem madeW {w wx : World} {l : List Tr} {n m : Nat} {v : Value} {xs ys zs : List Value} {T : TypeId} (hk : Kept (fun b => b < w.heap.size) w wx)
    (h1 : repIs w (fun b => b < w.heap.size) (l.take n) ys) (h2 : repIs w (fun b => b < w.heap.size) (l.drop n) zs) (hm : m = l.length + 1) (hx : xs = ys ++ (zeroCells ++ zs))
    (ho : wx.ownsRow w.heap.size T 6 v m xs) : MadeW l n w v wx := by
  subst hm hx
  obtain ⟨A, c, rfl, hr, hcap⟩ := rowAt.of_own' (B := fun b => b < wx.heap.size) ho fun _ _ h _ => h
  have hu : ∀ b, b < w.heap.size → b < wx.heap.size := fun b hb => Nat.lt_of_lt_of_le hb hk.size
  refine ⟨A, c, _, rfl, hcap, hr, ?_, hk.below fun _ h => h⟩
  refine repIs.append ?_ (h1.kept hk (fun _ h => h) hu)
  simp only [repIs]
  refine ⟨zeroCells, zs, rfl, ?_, h2.kept hk (fun _ h => h) hu⟩
  simp only [repI]
  exact ⟨_, _, none, 0, none, 0, none, 0, [], [], rfl, ⟨by decide, by decide, Nat.le_refl _, Nat.le_refl _, Nat.le_refl _⟩, rowAt.nil, rowAt.nil, by simp only [repIs], rowAt.nil, by simp only [repIs]⟩

end Go.Proofs.YtpmfjbmfjfhghaaGreat
