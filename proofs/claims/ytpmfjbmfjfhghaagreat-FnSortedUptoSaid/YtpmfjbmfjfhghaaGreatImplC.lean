/-
  'impl.Contains'.
-/
import Derived.Test.YtpmfjbmfjfhghaaGreatBuiltAny
import Derived.Test.YtpmfjbmfjfhghaaGreatContains
namespace Go.Proofs.YtpmfjbmfjfhghaaGreat
open Go.RowKit

/-- A truth value comes back; what was there is as it was. -/
def BoolAt (b : Bool) (w : World) (e : Ending) (w' : World) : Prop := e = .returned (.bool b) ∧ Below w.heap.size w w'

theorem Nice.kpt {t : Tr} (h : Nice t) : Kpt (norm t) := Kpt.of h.1
theorem Nice.norm_size' {t : Tr} (h : Nice t) : (norm t).size ≤ 1048576 := by
  rw [(Go.Proofs.YtpmfjbmfjfhghaaGreat.norm_good t h.good).2]
  have := Tr.size_le_bulk t
  have := h.2
  omega

set_option maxHeartbeats 2000000 in
set_option maxRecDepth 100000 in
theorem implContains_any (t t' : Tr) (cs cs' : List Value) (w : World) (B B' : Nat → Prop) (hr : repI w B t cs) (hr' : repI w B' t' cs') (hB : ∀ b, B b → b < w.heap.size) (hB' : ∀ b, B' b → b < w.heap.size) (ht : Nice t) (ht' : Nice t') :
    Calls Tryz.prog 22 #[.agg cs.toArray, .agg cs'.toArray] w (BoolAt (containsB (norm t) (norm t')) w) := by
  obtain ⟨nm, tx, A1, c1, A2, c2, A3, c3, rfl⟩ := hr.shape
  obtain ⟨nm', tx', A1', c1', A2', c2', A3', c3', rfl⟩ := hr'.shape
  have hb1 : ∀ W, Below w.heap.size w W → Calls Tryz.prog 43 #[.agg #[.int .i64 t.kind, .string nm, .string tx, .slice A1 t.keys.length c1, .slice A2 t.kids.length c2, .slice A3 t.more.length c3]] W (BuiltPost t W) := fun W hW =>
    built_any t ht.1 ht.2 W B _ (hr.kept (Kept.of_below (X := fun b => b < w.heap.size) hW fun _ h => h) hB fun _ h => h) (fun b hb => Nat.lt_of_lt_of_le (hB b hb) hW.size)
  have hb2 : ∀ W, Below w.heap.size w W → Calls Tryz.prog 43 #[.agg #[.int .i64 t'.kind, .string nm', .string tx', .slice A1' t'.keys.length c1', .slice A2' t'.kids.length c2', .slice A3' t'.more.length c3']] W (BuiltPost t' W) := fun W hW =>
    built_any t' ht'.1 ht'.2 W B' _ (hr'.kept (Kept.of_below (X := fun b => b < w.heap.size) hW fun _ h => h) hB' fun _ h => h) (fun b hb => Nat.lt_of_lt_of_le (hB' b hb) hW.size)
  have hN := Lib.hid ht
  have hN' := Lib.hid ht'
  clear hr hr' ht ht'
  have hx0 : Blk (((w.alloc (.cells #[.int .i64 t.kind, .string nm, .string tx, .slice A1 t.keys.length c1, .slice A2 t.kids.length c2, .slice A3 t.more.length c3] 25)).alloc (.cells #[.int .i64 t'.kind, .string nm', .string tx', .slice A1' t'.keys.length c1', .slice A2' t'.kids.length c2', .slice A3' t'.more.length c3'] 25)).drew) w.heap.size 25 #[.int .i64 t.kind, .string nm, .string tx, .slice A1 t.keys.length c1, .slice A2 t.kids.length c2, .slice A3 t.more.length c3] := ((Blk.new w _ _).alloc _).drew
  have hy0 : Blk (((w.alloc (.cells #[.int .i64 t.kind, .string nm, .string tx, .slice A1 t.keys.length c1, .slice A2 t.kids.length c2, .slice A3 t.more.length c3] 25)).alloc (.cells #[.int .i64 t'.kind, .string nm', .string tx', .slice A1' t'.keys.length c1', .slice A2' t'.kids.length c2', .slice A3' t'.more.length c3'] 25)).drew) (w.heap.size + 1) 25 #[.int .i64 t'.kind, .string nm', .string tx', .slice A1' t'.keys.length c1', .slice A2' t'.kids.length c2', .slice A3' t'.more.length c3'] := by simpa using (Blk.new (w.alloc _) _ _).drew
  have hl0 : Below w.heap.size w (((w.alloc (.cells #[.int .i64 t.kind, .string nm, .string tx, .slice A1 t.keys.length c1, .slice A2 t.kids.length c2, .slice A3 t.more.length c3] 25)).alloc (.cells #[.int .i64 t'.kind, .string nm', .string tx', .slice A1' t'.keys.length c1', .slice A2' t'.kids.length c2', .slice A3' t'.more.length c3'] 25)).drew) := (((Below.refl _ _).alloc (Nat.le_refl _) _).alloc (by simp) _).drew
  go_enter Tryz.func22, Tryz.ntmps22
  go_wp2_with fail
  go_region_held3 (fun w' => (w'.cell? ⟨w.heap.size, 0, none⟩ = some (.int .i64 t.kind) ∧ w'.cell? ⟨w.heap.size, 1, none⟩ = some (.string nm) ∧ w'.cell? ⟨w.heap.size, 2, none⟩ = some (.string tx) ∧ w'.cell? ⟨w.heap.size, 3, none⟩ = some (.slice A1 t.keys.length c1) ∧ w'.cell? ⟨w.heap.size, 4, none⟩ = some (.slice A2 t.kids.length c2) ∧ w'.cell? ⟨w.heap.size, 5, none⟩ = some (.slice A3 t.more.length c3)) ∧
      (w'.cell? ⟨w.heap.size + 1, 0, none⟩ = some (.int .i64 t'.kind) ∧ w'.cell? ⟨w.heap.size + 1, 1, none⟩ = some (.string nm') ∧ w'.cell? ⟨w.heap.size + 1, 2, none⟩ = some (.string tx') ∧ w'.cell? ⟨w.heap.size + 1, 3, none⟩ = some (.slice A1' t'.keys.length c1') ∧ w'.cell? ⟨w.heap.size + 1, 4, none⟩ = some (.slice A2' t'.kids.length c2') ∧ w'.cell? ⟨w.heap.size + 1, 5, none⟩ = some (.slice A3' t'.more.length c3')))
    (first | exact ⟨⟨hx0.cell 0, hx0.cell 1, hx0.cell 2, hx0.cell 3, hx0.cell 4, hx0.cell 5⟩, hy0.cell 0, hy0.cell 1, hy0.cell 2, hy0.cell 3, hy0.cell 4, hy0.cell 5⟩ | exact ⟨⟨hx1.cell 0, hx1.cell 1, hx1.cell 2, hx1.cell 3, hx1.cell 4, hx1.cell 5⟩, hy1.cell 0, hy1.cell 1, hy1.cell 2, hy1.cell 3, hy1.cell 4, hy1.cell 5⟩ | exact ⟨⟨hx2.cell 0, hx2.cell 1, hx2.cell 2, hx2.cell 3, hx2.cell 4, hx2.cell 5⟩, hy2.cell 0, hy2.cell 1, hy2.cell 2, hy2.cell 3, hy2.cell 4, hy2.cell 5⟩ | exact ⟨⟨hx3.cell 0, hx3.cell 1, hx3.cell 2, hx3.cell 3, hx3.cell 4, hx3.cell 5⟩, hy3.cell 0, hy3.cell 1, hy3.cell 2, hy3.cell 3, hy3.cell 4, hy3.cell 5⟩)
    (first
      | (go_at_call 43; have z9 := hl1.size; refine (hb2 _ hl1).mono ?_; rintro e w2 ⟨y, rfl, hyr, hyb⟩; have hx2 := hx1.below hyb hx1.lt; have hy2 := hy1.below hyb hy1.lt; have hl2 := hl1.trans (hyb.mono hl1.size))
      | (go_at_call 43; refine (hb1 _ hl0).mono ?_; rintro e w1 ⟨x, rfl, hxr, hxb⟩; have hx1 := hx0.below hxb hx0.lt; have hy1 := hy0.below hxb hy0.lt; have hl1 := hl0.trans (hxb.mono hl0.size))
      | (go_at_call 42; refine (contains_any _ _ x y _ _ w2 ((hxr.rep hN.out.kind).keep (fun _ h => h) (Kept.of_below (X := fun b => b < w1.heap.size) hyb fun _ h => h) fun _ h => h.2) (hyr.rep hN'.out.kind) hN.out.kpt hN'.out.kpt hN.out.norm_size' hN'.out.norm_size').mono ?_; rintro e w3 ⟨rfl, n3, rfl⟩; have hx3 := hx2.below (below_drewN w2 n3) hx2.lt; have hy3 := hy2.below (below_drewN w2 n3) hy2.lt; have hl3 := hl2.trans ((below_drewN w2 n3).mono hl2.size)))
  clear hx0 hx1 hx2 hx3 hy0 hy1 hy2 hy3 hb1 hb2
  go_wp2
  go_ret
  exact ⟨rfl, hl3⟩

end Go.Proofs.YtpmfjbmfjfhghaaGreat
