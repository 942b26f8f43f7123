/-
  'impl.plain' at any type, 'impl.Normal'.
-/
import Derived.Test.YtpmfjbmfjfhghaaGreatPl3
import Derived.Test.YtpmfjbmfjfhghaaGreatImplC
namespace Go.Proofs.YtpmfjbmfjfhghaaGreat
open Go.RowKit

theorem plain_any (t : Tr) : ∀ (w : World) (F : Nat → Prop) (v : Value), t.good → t.size ≤ 1048576 → repP w F t v → (∀ b, F b → b < w.heap.size) → Calls Tryz.prog 47 #[v] w (PlainPost t w) := by
  induction t using Tr.ind with
  | h k ks l m il im =>
    intro w F v hgood hsz h hF
    simp only [Tr.good] at hgood
    obtain ⟨⟨_, hko⟩, _, _, hgl, hgm⟩ := hgood
    simp only [Tr.size] at hsz
    have hsl := Tr.length_sizes l
    have hgl := (Tr.goods_iff l).1 hgl
    have hgm := (Tr.goods_iff m).1 hgm
    have part : ∀ (t : Tr) (x : Value), (∀ (w : World) (F : Nat → Prop) (v : Value), t.good → t.size ≤ 1048576 → repP w F t v → (∀ b, F b → b < w.heap.size) → Calls Tryz.prog 47 #[v] w (PlainPost t w)) → t.good → t.size ≤ 1048576 → repP w F t x → PlainOk t x w := fun t x ih hg hs hr W hW =>
      ih W F x hg hs (hr.keep (fun _ h => h) (Kept.of_below (X := fun b => b < w.heap.size) hW fun _ h => h) hF) (fun b hb => Nat.lt_of_lt_of_le (hF b hb) hW.size)
    have partl : ∀ t ∈ l, ∀ x, repP w F t x → PlainOk t x w := fun t ht x hr => part t x (il t ht) (hgl t ht) (by have := Tr.size_mem ht; omega) hr
    have partm : ∀ t ∈ m, ∀ x, repP w F t x → PlainOk t x w := fun t ht x hr => part t x (im t ht) (hgm t ht) (by have := Tr.size_mem ht; omega) hr
    have kids : ∀ {xs : List Value}, repPs w F l xs → ∀ i (hi : i < l.length) x, xs[i]? = some x → PlainOk l[i] x w := fun hl i hi x hx => by
      obtain ⟨y, e, hr⟩ := hl.get i hi
      rw [hx] at e
      obtain rfl := Option.some.inj e
      exact partl _ (List.getElem_mem hi) _ hr
    simp only [repP] at h
    rcases h with ⟨h, rfl, rfl, rfl⟩ | ⟨rfl, rfl, g, A, c, dyn, xs, rfl, hg, hb, hc, hr, hl, hm⟩ | ⟨rfl, e1, g, A, c, dp, gs, vs, rfl, hg, hb, hc, hr, hp, hl, hm⟩ | ⟨rfl, rfl, rfl, g, x, rfl, hg, hb, hl⟩ | ⟨rfl, rfl, rfl, A, c, xs, rfl, hc, hr, hl⟩
    · exact plain_leaf k v w h
    · refine plain_array l m g A c dyn xs w F hb hl hr hF (kids hl) ?_ (by omega)
      rcases hm with hm | ⟨hm1, hm⟩
      · exact .inl hm
      · match m, hm1, hm, partm with
        | [t], _, hm, partm =>
          simp only [repPs] at hm
          obtain ⟨y, ys, e, hy, _⟩ := hm
          obtain ⟨rfl, rfl⟩ := List.cons.inj e
          refine .inr ⟨t, rfl, ?_, hy.ifc, partm t (by simp) _ hy⟩
          obtain ⟨T, z, rfl, _⟩ := hy.dyn
          simp
    · refine plain_object ks l m g A c dp gs vs w F e1 hb hp hl hr hF hko (kids hl) (by omega) ?_
      rcases hm with hm | ⟨g', x, y, rfl, hg', hb', hm1, hm⟩
      · exact .inl hm
      · match m, hm1, hm, partm with
        | [s, t], _, hm, partm =>
          simp only [repPs] at hm
          obtain ⟨x', ys, e, hx, y', zs, e', hy, _⟩ := hm
          obtain ⟨rfl, rfl⟩ := List.cons.inj e
          obtain ⟨rfl, rfl⟩ := List.cons.inj e'
          exact .inr ⟨g', _, _, s, t, rfl, hb', rfl, hx.ifc, hy.ifc, partm s (by simp) _ hx, partm t (by simp) _ hy⟩
    · match l, hl, partl with
      | [], hl, _ => simp [repPs] at hl
      | [t], hl, partl =>
        simp only [repPs] at hl
        obtain ⟨y, ys, e, hy, _⟩ := hl
        obtain ⟨rfl, rfl⟩ := List.cons.inj e
        exact plain_set t g _ w hb hy.ifc (partl t (by simp) _ hy)
      | _ :: _ :: _, hl, _ => exact absurd hl.length (by simp)
    · exact plain_any8 l A c xs w F hl hr hF (kids hl) (by omega)

set_option maxRecDepth 100000 in
theorem implNormal_any (t : Tr) (cs : List Value) (w : World) (B : Nat → Prop) (hr : repI w B t cs) (hB : ∀ b, B b → b < w.heap.size) (ht : Nice t) : Calls Tryz.prog 27 #[.agg cs.toArray] w (PlainPost (norm t) w) := by
  have hb : ∀ W, Below w.heap.size w W → Calls Tryz.prog 43 #[.agg cs.toArray] W (BuiltPost t W) := fun W hW =>
    built_any t ht.1 ht.2 W B cs (hr.kept (Kept.of_below (X := fun b => b < w.heap.size) hW fun _ h => h) hB fun _ h => h) fun b hb => Nat.lt_of_lt_of_le (hB b hb) hW.size
  obtain ⟨nm, tx, A1, c1, A2, c2, A3, c3, rfl⟩ := hr.shape
  clear hr
  have hlow : Below w.heap.size w ((w.alloc (.cells #[.int .i64 t.kind, .string nm, .string tx, .slice A1 t.keys.length c1, .slice A2 t.kids.length c2, .slice A3 t.more.length c3] 25)).alloc (.cells zeroT 25)) := ((Below.refl _ _).alloc (Nat.le_refl _) _).alloc (by simp) _
  have hbr : Blk ((w.alloc (.cells #[.int .i64 t.kind, .string nm, .string tx, .slice A1 t.keys.length c1, .slice A2 t.kids.length c2, .slice A3 t.more.length c3] 25)).alloc (.cells zeroT 25)) (w.heap.size + 1) 25 zeroT := by simpa using Blk.new (w.alloc _) _ _
  go_enter Tryz.func27, Tryz.ntmps27
  go_wp2_with fail
  refine (hb _ hlow).mono ?_
  rintro e w1 ⟨v, rfl, hv, hb1⟩
  have hp := plain_any (norm t) w1 _ v (norm_good t ht.1.good).1 ht.norm_size' (hv.rep ht.kind) (fun b hb => hb.2)
  clear hb
  have hvi := hv.ifc
  have hlow1 := hlow.trans (hb1.mono hlow.size)
  have hbr1 := hbr.below hb1 hbr.lt
  clear hlow hbr hv hb1
  have hres : ∀ (e : Ending) (w2 : World), PlainPost (norm t) w1 e w2 → ∃ (nm' tx' : ByteArray) (E1 E2 E3 : Option Addr) (e1 e2 e3 : Nat), e = .returned (.agg #[.int .i64 (norm t).kind, .string nm', .string tx', .slice E1 (norm t).keys.length e1, .slice E2 (norm t).kids.length e2, .slice E3 (norm t).more.length e3]) ∧ Blk w2 (w.heap.size + 1) 25 zeroT ∧
      PlainPost (norm t) w (.returned (.agg #[.int .i64 (norm t).kind, .string nm', .string tx', .slice E1 (norm t).keys.length e1, .slice E2 (norm t).kids.length e2, .slice E3 (norm t).more.length e3])) ((((((w2.setCell ⟨w.heap.size + 1, 0, none⟩ (.int .i64 (norm t).kind)).setCell ⟨w.heap.size + 1, 1, none⟩ (.string nm')).setCell ⟨w.heap.size + 1, 2, none⟩ (.string tx')).setCell ⟨w.heap.size + 1, 3, none⟩ (.slice E1 (norm t).keys.length e1)).setCell ⟨w.heap.size + 1, 4, none⟩ (.slice E2 (norm t).kids.length e2)).setCell ⟨w.heap.size + 1, 5, none⟩ (.slice E3 (norm t).more.length e3)) ∧ Blk ((((((w2.setCell ⟨w.heap.size + 1, 0, none⟩ (.int .i64 (norm t).kind)).setCell ⟨w.heap.size + 1, 1, none⟩ (.string nm')).setCell ⟨w.heap.size + 1, 2, none⟩ (.string tx')).setCell ⟨w.heap.size + 1, 3, none⟩ (.slice E1 (norm t).keys.length e1)).setCell ⟨w.heap.size + 1, 4, none⟩ (.slice E2 (norm t).kids.length e2)).setCell ⟨w.heap.size + 1, 5, none⟩ (.slice E3 (norm t).more.length e3)) (w.heap.size + 1) 25 #[.int .i64 (norm t).kind, .string nm', .string tx', .slice E1 (norm t).keys.length e1, .slice E2 (norm t).kids.length e2, .slice E3 (norm t).more.length e3] := by
    rintro e w2 ⟨cs, rfl, hrep, hb2⟩
    obtain ⟨nm', tx', E1, e1, E2, e2, E3, e3, rfl⟩ := hrep.shape
    have h2 := hbr1.below hb2 hbr1.lt
    obtain ⟨hq, hkq⟩ := place6 h2 (.int .i64 (norm t).kind) (.string nm') (.string tx') (.slice E1 (norm t).keys.length e1) (.slice E2 (norm t).kids.length e2) (.slice E3 (norm t).more.length e3)
    have sk := hkq.size
    have s1 := hbr1.lt
    have s2 := hb2.size
    have hlow2 := hlow1.trans (hb2.mono hlow1.size)
    exact ⟨nm', tx', E1, E2, E3, e1, e2, e3, rfl, h2, ⟨_, rfl, hrep.kept hkq (fun b hb => by omega) (fun b hb => by omega), hlow2.trans (hkq.below fun b hb => by omega)⟩, hq⟩
  rcases hvi with rfl | ⟨T, v, rfl⟩
  all_goals
    go_wp2_with fail
    refine hp.mono ?_
    intro e w2 hpost
    obtain ⟨nm', tx', E1, E2, E3, e1, e2, e3, rfl, hz, hfin, hq⟩ := hres e w2 hpost
    clear hres hp hpost hbr1
    have ql := hz.lt
    have f0 := hz.frozen 0
    have f1 := hz.frozen 1
    have f2 := hz.frozen 2
    have f3 := hz.frozen 3
    have f4 := hz.frozen 4
    have f5 := hz.frozen 5
    have q0 := hz.cell 0
    have q1 := hz.cell 1
    have q2 := hz.cell 2
    have q3 := hz.cell 3
    have q4 := hz.cell 4
    have q5 := hz.cell 5
    simp at q0 q1 q2 q3 q4 q5
    clear hz
    go_wp2
    have p0 := hq.cell 0
    have p1 := hq.cell 1
    have p2 := hq.cell 2
    have p3 := hq.cell 3
    have p4 := hq.cell 4
    have p5 := hq.cell 5
    refine bodyPost_ret (v := .agg #[.int .i64 (norm t).kind, .string nm', .string tx', .slice E1 (norm t).keys.length e1, .slice E2 (norm t).kids.length e2, .slice E3 (norm t).more.length e3]) (by simp [results, Tryz.results27, go_sem, p0, p1, p2, p3, p4, p5]) rfl ?_
    exact hfin

end Go.Proofs.YtpmfjbmfjfhghaaGreat
