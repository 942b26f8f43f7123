/-
  THE LAWS' COMMON PARTS: an argument that is a type or a value, in whatever world behind the beginning; the contracts of what the laws call, said of it.
-/
import Derived.Test.YtpmfjbmfjfhghaaGreatFits
import Derived.Test.YtpmfjbmfjfhghaaGreatOpenV
import Derived.Test.YtpmfjbmfjfhghaaGreatIn5
import Derived.Test.YtpmfjbmfjfhghaaGreatPv
import Derived.Test.YtpmfjbmfjfhghaaGreatImplC
namespace Go.Proofs.YtpmfjbmfjfhghaaGreat
open Go.RowKit

theorem Blk.six {w : World} {g : Nat} {T : TypeId} {x0 x1 x2 x3 x4 x5 : Value} (h : Blk w g T #[x0, x1, x2, x3, x4, x5]) :
    w.cell? ⟨g, 0, none⟩ = some x0 ∧ w.cell? ⟨g, 1, none⟩ = some x1 ∧ w.cell? ⟨g, 2, none⟩ = some x2 ∧ w.cell? ⟨g, 3, none⟩ = some x3 ∧ w.cell? ⟨g, 4, none⟩ = some x4 ∧ w.cell? ⟨g, 5, none⟩ = some x5 ∧ g < w.heap.size :=
  ⟨h.cell 0, h.cell 1, h.cell 2, h.cell 3, h.cell 4, h.cell 5, h.lt⟩
theorem Blk.four {w : World} {g : Nat} {T : TypeId} {x0 x1 x2 x3 : Value} (h : Blk w g T #[x0, x1, x2, x3]) :
    w.cell? ⟨g, 0, none⟩ = some x0 ∧ w.cell? ⟨g, 1, none⟩ = some x1 ∧ w.cell? ⟨g, 2, none⟩ = some x2 ∧ w.cell? ⟨g, 3, none⟩ = some x3 ∧ g < w.heap.size :=
  ⟨h.cell 0, h.cell 1, h.cell 2, h.cell 3, h.lt⟩

theorem Fine.nice {t : Tr} (h : Fine t) (hb : t.bulk ≤ 1048576) : Nice t := ⟨h.1, hb⟩

theorem upB {w W : World} (h : Below w.heap.size w W) : ∀ b, b < w.heap.size → b < W.heap.size := fun _ hb => Nat.lt_of_lt_of_le hb h.size

theorem repI_up {w W : World} {t : Tr} {cs : List Value} (h : repI w (fun b => b < w.heap.size) t cs) (hW : Below w.heap.size w W) : repI W (fun b => b < W.heap.size) t cs :=
  h.kept (Kept.of_below (X := fun b => b < w.heap.size) hW fun _ h => h) (fun _ h => h) (upB hW)
theorem repS_up {w W : World} {t : Tr} {cs : List Value} (h : repS w (fun b => b < w.heap.size) t cs) (hW : Below w.heap.size w W) : repS W (fun b => b < W.heap.size) t cs :=
  h.kept (Kept.of_below (X := fun b => b < w.heap.size) hW fun _ h => h) (fun _ h => h) (upB hW)
theorem repV_up {w W : World} {t : Vl} {cs : List Value} (h : repV w (fun b => b < w.heap.size) t cs) (hW : Below w.heap.size w W) : repV W (fun b => b < W.heap.size) t cs :=
  h.kept (Kept.of_below (X := fun b => b < w.heap.size) hW fun _ h => h) (fun _ h => h) (upB hW)
theorem rowAt_up {w W : World} {A : Option Addr} {xs : List Value} (h : rowAt w (fun b => b < w.heap.size) A xs) (hW : Below w.heap.size w W) : rowAt W (fun b => b < W.heap.size) A xs :=
  h.kept (Kept.of_below (X := fun b => b < w.heap.size) hW fun _ h => h) (fun _ h => h) (upB hW)

/-- A type of the reference comes back. -/
def SpecPost (t : Tr) (w : World) (e : Ending) (w' : World) : Prop := ∃ cs', e = .returned (.agg cs'.toArray) ∧ repS w' (fun b => b < w'.heap.size) t cs' ∧ Below w.heap.size w w'
/-- A value comes back. -/
def ValPost (v : Vl) (w : World) (e : Ending) (w' : World) : Prop := ∃ cs', e = .returned (.agg cs'.toArray) ∧ repV w' (fun b => b < w'.heap.size) v cs' ∧ Below w.heap.size w w'

theorem kind_at {t : Tr} {cs : List Value} {W : World} (h : repI W (fun b => b < W.heap.size) t cs) (hb : t.bulk ≤ 1048576) : Calls Tryz.prog 25 #[.agg cs.toArray] W (SpecPost t W) :=
  (kind_any t W _ cs h hb fun _ h => h).mono fun _ _ ⟨cs', he, hr, hB⟩ => ⟨cs', he, hr.keep (fun _ hb => hb.2) fun _ _ => rfl, hB⟩
theorem value_at {v : Vl} {cs : List Value} {W : World} (h : repV W (fun b => b < W.heap.size) v cs) (hb : v.bulk ≤ 1048576) : Calls Tryz.prog 21 #[.agg cs.toArray] W (ValPost v W) :=
  (value_any v W _ cs h hb fun _ h => h).mono fun _ _ ⟨cs', he, hr, hB⟩ => ⟨cs', he, hr.keep (fun _ hb => hb.elim (fun hb => Nat.lt_of_lt_of_le hb hB.size) fun hb => hb.2) fun _ _ => rfl, hB⟩
theorem in_at {t : Tr} {v : Vl} {cs cs' : List Value} {W : World} (hv : repV W (fun b => b < W.heap.size) v cs) (ht : repS W (fun b => b < W.heap.size) t cs') (hok : VOk v) (hvb : v.bulk ≤ 1048576) (hp : ProperT t) (hb : t.bulk ≤ 1048576) :
    Calls Tryz.prog 24 #[.agg cs.toArray, .agg cs'.toArray] W (BoolPost (InT t v) W) :=
  in_any t hp v W _ _ cs cs' hv ht hok hvb hb (fun _ h => h) fun _ h => h
theorem pv_at {v : Vl} {cs : List Value} {W : World} (h : repV W (fun b => b < W.heap.size) v cs) (hb : v.bulk ≤ 1048576) : Calls Tryz.prog 20 #[.agg cs.toArray] W (ImpPost (VOk v) W) :=
  pv_any v W _ cs h hb fun _ h => h

/-- An argument that is a type. -/
structure TA (w : World) (t : Tr) (cs : List Value) : Prop where
  rep : repI w (fun b => b < w.heap.size) t cs
  bulk : t.bulk ≤ 1048576

/-- An argument that is a value. -/
structure VA (w : World) (v : Vl) (cs : List Value) : Prop where
  rep : repV w (fun b => b < w.heap.size) v cs
  bulk : v.bulk ≤ 1048576

section
variable {w W : World} {t t' : Tr} {cs cs' : List Value}
theorem TA.up (h : TA w t cs) (hW : Below w.heap.size w W) : TA W t cs := ⟨repI_up h.rep hW, h.bulk⟩
theorem TA.fits (h : TA w t cs) (hW : Below w.heap.size w W) : Calls Tryz.prog 17 #[.agg cs.toArray] W (TruePost W) := fits1_any t cs W _ (h.up hW).rep (fun _ h => h) h.bulk
theorem TA.kind (h : TA w t cs) (hW : Below w.heap.size w W) : Calls Tryz.prog 25 #[.agg cs.toArray] W (SpecPost t W) := kind_at (h.up hW).rep h.bulk
theorem TA.cmp (h : TA w t cs) (h' : TA w t' cs') (n : Nice t) (n' : Nice t') (hW : Below w.heap.size w W) : Calls Tryz.prog 30 #[.agg cs.toArray, .agg cs'.toArray] W (IntPost (cmp (norm t) (norm t')) W) :=
  implCompare_any t t' cs cs' W _ _ (h.up hW).rep (h'.up hW).rep (fun _ h => h) (fun _ h => h) n n'
theorem TA.has (h : TA w t cs) (h' : TA w t' cs') (n : Nice t) (n' : Nice t') (hW : Below w.heap.size w W) : Calls Tryz.prog 22 #[.agg cs.toArray, .agg cs'.toArray] W (BoolAt (containsB (norm t) (norm t')) W) :=
  implContains_any t t' cs cs' W _ _ (h.up hW).rep (h'.up hW).rep (fun _ h => h) (fun _ h => h) n n'

theorem TA.proper1 (h : TA w t cs) {A : Option Addr} {c : Nat} (hW : Below w.heap.size w W) (hA : rowAt W (fun b => b < W.heap.size) A (cs ++ [])) : Calls Tryz.prog 19 #[.slice A 1 c] W (BoolPost (Fine t) W) :=
  (lawProper_any [t] A c (cs ++ []) W _ (by simp only [repIs]; exact ⟨cs, [], rfl, (h.up hW).rep, rfl⟩) hA (by simp only [Tr.bulks]; have := h.bulk; omega) fun _ h => h).mono fun _ _ ⟨b, he, hb, hB⟩ => ⟨b, he, by rw [hb]; simp, hB⟩
theorem TA.proper2 (h : TA w t cs) (h' : TA w t' cs') (hb : t.bulk + t'.bulk ≤ 1048576) {A : Option Addr} {c : Nat} (hW : Below w.heap.size w W) (hA : rowAt W (fun b => b < W.heap.size) A (cs ++ (cs' ++ []))) : Calls Tryz.prog 19 #[.slice A 2 c] W (BoolPost (Fine t ∧ Fine t') W) :=
  (lawProper_any [t, t'] A c (cs ++ (cs' ++ [])) W _ (by simp only [repIs]; exact ⟨cs, _, rfl, (h.up hW).rep, cs', [], rfl, (h'.up hW).rep, rfl⟩) hA (by simp only [Tr.bulks]; omega) fun _ h => h).mono fun _ _ ⟨b, he, hb, hB⟩ => ⟨b, he, by rw [hb]; simp, hB⟩

theorem VA.up {v : Vl} (h : VA w v cs) (hW : Below w.heap.size w W) : VA W v cs := ⟨repV_up h.rep hW, h.bulk⟩
theorem VA.fits {v : Vl} (h : VA w v cs) (hW : Below w.heap.size w W) : Calls Tryz.prog 18 #[.agg cs.toArray] W (TruePost W) := fits4_any v cs W _ (h.up hW).rep (fun _ h => h) h.bulk
theorem VA.value {v : Vl} (h : VA w v cs) (hW : Below w.heap.size w W) : Calls Tryz.prog 21 #[.agg cs.toArray] W (ValPost v W) := value_at (h.up hW).rep h.bulk
end

theorem new_row {w : World} (cs : List Value) (T : TypeId) : rowAt (w.alloc (.cells cs.toArray T)) (fun b => b < (w.alloc (.cells cs.toArray T)).heap.size) (some ⟨w.heap.size, 0, none⟩) cs := fun j u hu =>
  ⟨w.heap.size, 0, rfl, by simp, by rw [(Blk.new _ _ _).cell]; simpa using hu⟩

end Go.Proofs.YtpmfjbmfjfhghaaGreat
