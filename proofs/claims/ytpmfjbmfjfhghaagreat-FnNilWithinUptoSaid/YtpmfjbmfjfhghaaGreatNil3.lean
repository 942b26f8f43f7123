/-
  'nilRec' at every type of values; 'Nil'; 'impl.Nil'.
-/
import Derived.Test.YtpmfjbmfjfhghaaGreatNil2
import Derived.Test.YtpmfjbmfjfhghaaGreatImplC
namespace Go.Proofs.YtpmfjbmfjfhghaaGreat
open Go.RowKit

theorem repPs.kid {w : World} {F : Nat → Prop} {l : List Tr} {xs : List Value} (h : repPs w F l xs) (i : Nat) (hi : i < xs.length) : ∃ hl : i < l.length, repP w F l[i] xs[i] := by
  have hl : i < l.length := by have := h.length; omega
  obtain ⟨x, h1, h2⟩ := h.get i hl
  rw [List.getElem?_eq_getElem hi] at h1
  exact ⟨hl, by rw [Option.some.inj h1]; exact h2⟩

/-- A type of values is known. -/
theorem nilRec_any (t : Tr) : ∀ (w : World) (F : Nat → Prop) (s v : Value), SeenOk w s → repP w F t v → (∀ b, F b → NilX w s b) → t.size ≤ 1048576 → Calls Tryz.prog 79 #[v, s] w (NilPost false s w) := by
  induction t using Tr.ind with
  | h k ks l m il im =>
    intro w F s v hs h hF hsz
    simp only [Tr.size] at hsz
    have hsl := Tr.length_sizes l
    -- a part, in whatever world behind the beginning
    have part : ∀ (t : Tr) (x : Value), (∀ (w : World) (F : Nat → Prop) (s v : Value), SeenOk w s → repP w F t v → (∀ b, F b → NilX w s b) → t.size ≤ 1048576 → Calls Tryz.prog 79 #[v, s] w (NilPost false s w)) → repP w F t x → t.size ≤ 1048576 → KidOk w s x false := fun t x ih hr ht s' cs W hW =>
      ih W F s' x hW.seen (hr.keep (fun _ h => h) hW.kept hF) (fun b hb => ⟨Nat.lt_of_lt_of_le (hF b hb).1 hW.kept.size, fun e => (hF b hb).2 (hW.old b (hF b hb).1 e)⟩) ht
    have partl : ∀ t ∈ l, ∀ x, repP w F t x → KidOk w s x false := fun t ht x hr => part t x (il t ht) hr (by have := Tr.size_mem ht; omega)
    have partm : ∀ t ∈ m, ∀ x, repP w F t x → KidOk w s x false := fun t ht x hr => part t x (im t ht) hr (by have := Tr.size_mem ht; omega)
    have hdy := h.dyn
    simp only [repP] at h
    rcases h with ⟨h, rfl, rfl, rfl⟩ | ⟨rfl, rfl, g, A, c, dyn, xs, rfl, hg, hb, hc, hr, hl, hm⟩ | ⟨rfl, e1, g, A, c, dp, gs, vs, rfl, hg, hb, hc, hr, hp, hl, hm⟩ | ⟨rfl, rfl, rfl, g, x, rfl, hg, hb, hl⟩ | ⟨rfl, rfl, rfl, A, c, xs, rfl, hc, hr, hl⟩
    · rcases h with ⟨rfl, rfl⟩ | ⟨rfl, rfl⟩ | ⟨rfl, rfl⟩ | ⟨rfl, rfl⟩
      · exact nilRec_leaf _ 0 _ s w hs (by simp [Dyn]) (by decide)
      · exact nilRec_leaf _ 1 _ s w hs (by simp [Dyn]) (by decide)
      · exact nilRec_leaf _ 2 _ s w hs (by simp [Dyn]) (by decide)
      · exact nilRec_leaf _ 3 _ s w hs (by simp [Dyn]) (by decide)
    · have hxl := hl.length
      have kid : ∀ i (hi : i < xs.length), KidOk w s xs[i] false := fun i hi => by
        obtain ⟨hl', hr'⟩ := hl.kid i hi
        exact partl _ (List.getElem_mem hl') _ hr'
      have hres := nilRec_arr g A c xs.length dyn xs F s w hs (by rw [hxl]; exact hb) (hF g hg) hr hF (fun x hx => by
        obtain ⟨i, hi, rfl⟩ := List.getElem_of_mem hx
        obtain ⟨hl', hr'⟩ := hl.kid i hi
        exact hr'.ifc) (by omega) (Nat.le_refl _) (fun i hi _ => kid i hi) (fun hk => absurd hk (by omega)) (by
          rcases hm with ⟨rfl, rfl⟩ | ⟨h1, hm⟩
          · exact .inl rfl
          · match m, h1, hm, partm with
            | [u], _, hm, partm =>
              simp only [repPs] at hm
              obtain ⟨_, _, e, hu, _⟩ := hm
              simp only [List.cons.injEq] at e
              obtain ⟨T, x, hx, _⟩ := hu.dyn
              obtain rfl := e.1
              exact .inr ⟨⟨T, x, hx⟩, partm u (by simp) _ hu⟩) (.inr rfl)
      rw [decide_eq_false (by omega)] at hres
      exact hres
    · have hvl := hl.length
      refine nilRec_obj g A c dp gs ks vs F s w hs (by rw [e1]; exact hb) (hF g hg) hr hp hF (by omega) (fun i hi => ?_) ?_
      · obtain ⟨hl', hr'⟩ := hl.kid i hi
        obtain ⟨T, x, hx, _⟩ := hr'.dyn
        exact ⟨⟨T, x, hx⟩, partl _ (List.getElem_mem hl') _ hr'⟩
      · rcases hm with ⟨_, rfl⟩ | ⟨g', x, y, rfl, hg', hb', h2, hm⟩
        · exact .inl rfl
        · match m, h2, hm, partm with
          | [u, u2], _, hm, partm =>
            simp only [repPs] at hm
            obtain ⟨_, _, e, hu, _, _, f, hu2, _⟩ := hm
            simp only [List.cons.injEq] at e
            obtain ⟨rfl, rfl⟩ := e
            simp only [List.cons.injEq] at f
            obtain ⟨rfl, _⟩ := f
            obtain ⟨T, z, hz, _⟩ := hu.dyn
            obtain ⟨T', z', hz', _⟩ := hu2.dyn
            subst hz hz'
            exact .inr ⟨g', T, z, T', z', rfl, hF g' hg', hb', partm u (by simp) _ hu, partm u2 (by simp) _ hu2⟩
    · have hl1 := hl.length
      match l, hl1, hl, partl with
      | [u], _, hl, partl =>
        simp only [repPs] at hl
        obtain ⟨_, _, e, hu, _⟩ := hl
        simp only [List.cons.injEq] at e
        obtain rfl := e.1
        exact nilRec_set g x s w false hs hb (hF g hg) hu.ifc fun W hW => partl u (by simp) _ hu s _ W hW
    · exact nilRec_leaf _ 7 _ s w hs (by simp [Dyn]) (by decide)

theorem nil_any (v : Value) (w : World) (b : Bool) (hi : Ifc v) (hc : Calls Tryz.prog 79 #[v, .map none] w (NilPost b (.map none) w)) : Calls Tryz.prog 46 #[v] w (BoolAt b w) := by
  have HC := Lib.hid hc
  clear hc
  rcases hi with rfl | ⟨T, x, rfl⟩
  all_goals
    go_enter Tryz.func46, Tryz.ntmps46
    go_wp2_with fail
    refine HC.out.mono ?_
    rintro e w1 ⟨rfl, h1, _⟩
    go_wp2
    go_ret
    exact ⟨rfl, h1.below fun b hb => ⟨hb, by simp⟩⟩

/-- What 'built' must hand over for 'impl.Nil' to answer b. -/
def NilBuilt (cs : List Value) (b : Bool) (w : World) : Prop :=
  ∀ W, Below w.heap.size w W → Calls Tryz.prog 43 #[.agg cs.toArray] W fun e W' => ∃ v, e = .returned v ∧ Below W.heap.size W W' ∧ Ifc v ∧ Calls Tryz.prog 79 #[v, .map none] W' (NilPost b (.map none) W')

set_option maxHeartbeats 1000000 in
set_option maxRecDepth 100000 in
theorem implNil_of (k : Int) (nm tx : ByteArray) (A1 A2 A3 : Option Addr) (n1 c1 n2 c2 n3 c3 : Nat) (b : Bool) (w : World) (hb : NilBuilt [.int .i64 k, .string nm, .string tx, .slice A1 n1 c1, .slice A2 n2 c2, .slice A3 n3 c3] b w) :
    Calls Tryz.prog 26 #[.agg #[.int .i64 k, .string nm, .string tx, .slice A1 n1 c1, .slice A2 n2 c2, .slice A3 n3 c3]] w (BoolAt b w) := by
  have hl0 : Below w.heap.size w (w.alloc (.cells #[.int .i64 k, .string nm, .string tx, .slice A1 n1 c1, .slice A2 n2 c2, .slice A3 n3 c3] 25)) := (Below.refl _ _).alloc (Nat.le_refl _) _
  have hc := hb _ hl0
  clear hb
  go_enter Tryz.func26, Tryz.ntmps26
  go_wp2_with fail
  refine hc.mono ?_
  rintro e w1 ⟨v, rfl, h1, hi, hn⟩
  have hn' := nil_any v w1 b hi hn
  have hl1 := hl0.trans (h1.mono hl0.size)
  clear hc hn hl0 h1 hi
  go_wp2_with fail
  refine hn'.mono ?_
  rintro e w2 ⟨rfl, h2⟩
  have hl2 := hl1.trans (h2.mono hl1.size)
  clear hn'
  go_wp2
  go_ret
  exact ⟨rfl, hl2⟩

/-- 'impl.Nil' at a proper type. -/
theorem implNil_any (t : Tr) (cs : List Value) (w : World) (B : Nat → Prop) (hr : repI w B t cs) (hB : ∀ b, B b → b < w.heap.size) (ht : Nice t) : Calls Tryz.prog 26 #[.agg cs.toArray] w (BoolAt false w) := by
  obtain ⟨nm, tx, A1, c1, A2, c2, A3, c3, rfl⟩ := hr.shape
  refine implNil_of _ _ _ _ _ _ _ _ _ _ _ _ _ _ fun W hW => (built_any t ht.1 ht.2 W B _ (hr.kept (Kept.of_below (X := fun b => b < w.heap.size) hW fun _ h => h) hB fun _ h => h) fun b hb => Nat.lt_of_lt_of_le (hB b hb) hW.size).mono ?_
  rintro e W' ⟨v, rfl, hv, hb⟩
  have hv' := hv.rep ht.kind
  exact ⟨v, rfl, hb, hv.ifc, nilRec_any _ W' _ _ v (.inl rfl) hv' (fun b hb => ⟨hb.2, by simp⟩) ht.norm_size'⟩

theorem none_rep (w : World) : repI w (fun _ => False) (.mk 0 [] [] []) [.int .i64 0, .string ⟨#[]⟩, .string ⟨#[]⟩, .slice none 0 0, .slice none 0 0, .slice none 0 0] := by
  simp only [repI]
  exact ⟨⟨#[]⟩, ⟨#[]⟩, none, 0, none, 0, none, 0, [], [], rfl, ⟨by decide, by decide, by simp, by simp, by simp⟩, rowAt.nil, rowAt.nil, by simp [repIs], rowAt.nil, by simp [repIs]⟩

/-- 'impl.Nil' at none. -/
theorem implNil_none (w : World) : Calls Tryz.prog 26 #[.agg #[.int .i64 0, .string ⟨#[]⟩, .string ⟨#[]⟩, .slice none 0 0, .slice none 0 0, .slice none 0 0]] w (BoolAt true w) := by
  refine implNil_of _ _ _ _ _ _ _ _ _ _ _ _ _ _ fun W hW => (built_none [] [] [] W (fun _ => False) _ (none_rep W) (by simp)).mono ?_
  rintro e W' ⟨v, rfl, hv, hb⟩
  rcases hv with ⟨_, rfl⟩ | hv
  · exact ⟨_, rfl, hb, .inl rfl, nilRec_nil _ _ (.inl rfl)⟩
  · exact absurd hv.kind_rng.1 (by rw [norm_kind]; simp [Tr.kind])

end Go.Proofs.YtpmfjbmfjfhghaaGreat
