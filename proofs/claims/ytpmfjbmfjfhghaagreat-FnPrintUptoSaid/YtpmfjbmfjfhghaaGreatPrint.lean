/-
  The texts of types (5): any type, 'impl.Print'.
-/
import Derived.Test.YtpmfjbmfjfhghaaGreatStr4
import Derived.Test.YtpmfjbmfjfhghaaGreatLaw
namespace Go.Proofs.YtpmfjbmfjfhghaaGreat
open Go.RowKit Go.Proofs

theorem texts_len (l : List Tr) : (texts l).length = l.length := by rw [texts_map, List.length_map]

theorem text_ok (t : Tr) : ∀ (w : World) (F : Nat → Prop) (v : Value), t.bulk ≤ 1048576 → repP w F t v → (∀ b, F b → b < w.heap.size) → MOk (text t) v w := by
  induction t using Tr.ind with
  | h k ks l m il im =>
    intro w F v hbk h hF
    simp only [Tr.bulk] at hbk
    have hsl := texts_size l
    have hsm := texts_size m
    have hll := Tr.length_bulks l
    have K : ∀ W, Below w.heap.size w W → Kept (fun b => b < w.heap.size) w W := fun W hW => Kept.of_below hW fun _ h => h
    have partl : ∀ t ∈ l, ∀ x, repP w F t x → MOk (text t) x w := fun t ht x hr => il t ht w F x (by have := Tr.bulk_mem ht; omega) hr hF
    have partm : ∀ t ∈ m, ∀ x, repP w F t x → MOk (text t) x w := fun t ht x hr => im t ht w F x (by have := Tr.bulk_mem ht; omega) hr hF
    have szl : ∀ t ∈ l, (text t).size ≤ 33554432 := fun t ht => by have h1 := text_size t; have h2 := Tr.bulk_mem ht; omega
    have szm : ∀ t ∈ m, (text t).size ≤ 33554432 := fun t ht => by have h1 := text_size t; have h2 := Tr.bulk_mem ht; omega
    have kids : ∀ {xs : List Value}, repPs w F l xs → ∀ (i : Nat) (x : Value) (s : ByteArray), xs[i]? = some x → (texts l)[i]? = some s → SOk s x w ∧ s.size ≤ 33554432 := fun hl i x s hx hs => by
      have hi : i < l.length := by rw [← texts_len]; exact (List.getElem?_eq_some_iff.1 hs).1
      obtain ⟨y, e, hr⟩ := hl.get i hi
      rw [hx] at e
      obtain rfl := Option.some.inj e
      have es : s = text l[i] := by
        rw [texts_map, List.getElem?_map, List.getElem?_eq_getElem hi] at hs
        exact (Option.some.inj hs).symm
      subst es
      exact ⟨(partl _ (List.getElem_mem hi) _ hr).spr, szl _ (List.getElem_mem hi)⟩
    have kids' : ∀ {xs : List Value}, repPs w F l xs → ∀ W, Below w.heap.size w W → ∀ i (hi : i < xs.length) (hi' : i < (texts l).length), SOk (texts l)[i] xs[i] W := fun hl W hW i hi hi' =>
      (kids hl i _ _ (List.getElem?_eq_getElem hi) (List.getElem?_eq_getElem hi')).1.up hW
    simp only [text]
    simp only [repP] at h
    rcases h with ⟨h, rfl, rfl, rfl⟩ | ⟨rfl, rfl, g, A, c, dyn, xs, rfl, hg, hb, hc, hr, hl, hm⟩ | ⟨rfl, e1, g, A, c, dp, gs, vs, rfl, hg, hb, hc, hr, hp, hl, hm⟩ | ⟨rfl, rfl, rfl, g, x, rfl, hg, hb, hl⟩ | ⟨rfl, rfl, rfl, A, c, xs, rfl, hc, hr, hl⟩
    · rcases h with ⟨rfl, rfl⟩ | ⟨rfl, rfl⟩ | ⟨rfl, rfl⟩ | ⟨rfl, rfl⟩
      · exact ⟨_, _, _, rfl, .inl ⟨rfl, rfl⟩, fun W _ => by simpa [node] using str_null W⟩
      · exact ⟨_, _, _, rfl, .inr (.inl ⟨rfl, rfl⟩), fun W _ => by simpa [node] using str_boolean W⟩
      · exact ⟨_, _, _, rfl, .inr (.inr (.inl ⟨rfl, rfl⟩)), fun W _ => by simpa [node] using str_number W⟩
      · exact ⟨_, _, _, rfl, .inr (.inr (.inr (.inl ⟨rfl, rfl⟩))), fun W _ => by simpa [node] using str_string W⟩
    · refine ⟨_, _, _, rfl, .inr (.inr (.inr (.inr (.inl ⟨rfl, rfl⟩)))), fun W hW => ?_⟩
      have hxl := hl.length
      rw [← hxl] at hb
      refine str_array xs (texts l) (texts m) g A c dyn (fun b => b < W.heap.size) W (hb.below hW (hF g hg)) (hr.kept (K W hW) hF fun b hb => Nat.lt_of_lt_of_le (hF b hb) hW.size) (fun _ h => h) (by rw [texts_len, hxl]) (fun i hi => kids' hl W hW i hi _) (by omega) (by omega) ?_
      rcases hm with ⟨rfl, rfl⟩ | ⟨hm1, hm⟩
      · exact .inl ⟨rfl, rfl⟩
      · match m, hm1, hm, partm, szm with
        | [t], _, hm, partm, szm =>
          simp only [repPs] at hm
          obtain ⟨y, ys, e, hy, _⟩ := hm
          obtain ⟨rfl, rfl⟩ := List.cons.inj e
          obtain ⟨T, x, f, rfl, hf, hcs⟩ := partm t (by simp) _ hy
          exact .inr ⟨text t, rfl, ⟨T, x, f, rfl, hf, fun W' hW' => hcs W' (hW.trans (hW'.mono hW.size))⟩, szm t (by simp)⟩
    · refine ⟨_, _, _, rfl, .inr (.inr (.inr (.inr (.inr (.inl ⟨rfl, rfl⟩))))), fun W hW => ?_⟩
      have hks := keyed_sum ks (texts l)
      refine str_object l.length gs ks vs (texts l) (texts m) g A c dp (fun b => b < W.heap.size) W (hb.below hW (hF g hg)) (hp.keep (X := fun b => b < w.heap.size) (fun b hb => Nat.lt_of_lt_of_le (hF b hb) hW.size) (K W hW) hF) (hr.kept (K W hW) hF fun b hb => Nat.lt_of_lt_of_le (hF b hb) hW.size) (fun _ h => h) e1 (texts_len l) (fun i x s hx hs => ⟨(kids hl i x s hx hs).1.up hW, (kids hl i x s hx hs).2⟩) (fun k hk => by have := kyBulk_mem hk; omega) (by omega) (by omega) ?_
      rcases hm with ⟨rfl, rfl⟩ | ⟨g', x, y, rfl, hg', hb', hm1, hm⟩
      · exact .inl ⟨rfl, rfl⟩
      · match m, hm1, hm, partm, szm, hsm with
        | [s, t], _, hm, partm, szm, hsm =>
          simp only [repPs] at hm
          obtain ⟨x', ys, e, hx, y', zs, e', hy, _⟩ := hm
          obtain ⟨rfl, rfl⟩ := List.cons.inj e
          obtain ⟨rfl, rfl⟩ := List.cons.inj e'
          have hsx := (partm s (by simp) _ hx).spr
          have hsy := (partm t (by simp) _ hy).spr
          refine .inr ⟨g', text s, text t, rfl, rfl, fun W' hW' => ?_, by simp only [texts, sumS] at hsm; simp only [Tr.bulks] at hbk hsm; omega⟩
          have hW2 := hW.trans (hW'.mono hW.size)
          exact str_dyn (text s) (text t) g' _ _ W' (hb'.below hW2 (hF g' hg')) (hsx.up hW2) (hsy.up hW2) (szm s (by simp)) (szm t (by simp))
    · refine ⟨_, _, _, rfl, .inr (.inr (.inr (.inr (.inr (.inr (.inl ⟨rfl, rfl⟩)))))), fun W hW => ?_⟩
      match l, hl, partl, szl with
      | [], hl, _, _ => simp [repPs] at hl
      | [t], hl, partl, szl =>
        simp only [repPs] at hl
        obtain ⟨y, ys, e, hy, _⟩ := hl
        obtain ⟨rfl, rfl⟩ := List.cons.inj e
        exact str_set (text t) g _ W (hb.below hW (hF g hg)) ((partl t (by simp) _ hy).spr.up hW) (szl t (by simp))
      | _ :: _ :: _, hl, _, _ => exact absurd hl.length (by simp)
    · refine ⟨_, _, _, rfl, .inr (.inr (.inr (.inr (.inr (.inr (.inr ⟨rfl, rfl⟩)))))), fun W hW => ?_⟩
      have hxl := hl.length
      rw [← hxl]
      exact str_any8 xs (texts l) A c (fun b => b < W.heap.size) W (hr.kept (K W hW) hF fun b hb => Nat.lt_of_lt_of_le (hF b hb) hW.size) (fun _ h => h) (by rw [texts_len, hxl]) (fun i hi => kids' hl W hW i hi _) (by omega) (by omega)

set_option maxRecDepth 100000 in
theorem implPrint_any (t : Tr) (cs : List Value) (w : World) (B : Nat → Prop) (hr : repI w B t cs) (hB : ∀ b, B b → b < w.heap.size) (ht : Nice t) : Calls Tryz.prog 34 #[.agg cs.toArray] w (StrPost (text (norm t)) w) := by
  have hb : ∀ W, Below w.heap.size w W → Calls Tryz.prog 43 #[.agg cs.toArray] W (BuiltPost t W) := fun W hW =>
    built_any t ht.1 ht.2 W B cs (hr.kept (Kept.of_below (X := fun b => b < w.heap.size) hW fun _ h => h) hB fun _ h => h) fun b hb => Nat.lt_of_lt_of_le (hB b hb) hW.size
  obtain ⟨nm, tx, A1, c1, A2, c2, A3, c3, rfl⟩ := hr.shape
  clear hr
  have hlow : Below w.heap.size w (w.alloc (.cells #[.int .i64 t.kind, .string nm, .string tx, .slice A1 t.keys.length c1, .slice A2 t.kids.length c2, .slice A3 t.more.length c3] 25)) := (Below.refl _ _).alloc (Nat.le_refl _) _
  go_enter Tryz.func34, Tryz.ntmps34
  go_wp2_with fail
  refine (hb _ hlow).mono ?_
  rintro e w1 ⟨v, rfl, hv, hb1⟩
  have hs := (text_ok (norm t) w1 _ v (by rw [norm_bulk t ht.1.good]; exact ht.2) (hv.rep ht.kind) (fun b hb => hb.2)).spr
  clear hb hv
  have hlow1 := hlow.trans (hb1.mono hlow.size)
  clear hlow hb1
  obtain ⟨⟨T, x, rfl⟩, hs⟩ := hs
  have hs := hs w1 (Below.refl _ _)
  go_wp2_with fail
  refine hs.mono ?_
  rintro e w2 ⟨rfl, h2⟩
  clear hs
  go_wp2
  go_ret
  exact ⟨rfl, hlow1.trans (h2.mono hlow1.size)⟩

theorem TA.print {t : Tr} {cs : List Value} {w : World} (h : TA w t cs) (n : Nice t) {W : World} (hW : Below w.heap.size w W) {s : ByteArray} (e : text (norm t) = s) : Calls Tryz.prog 34 #[.agg cs.toArray] W (StrPost s W) :=
  e ▸ implPrint_any t cs W _ (h.up hW).rep (fun _ h => h) n

theorem print_null (W : World) : Calls Tryz.prog 34 #[.agg #[.int .i64 1, .string ⟨#[]⟩, .string ⟨#[]⟩, .slice none 0 0, .slice none 0 0, .slice none 0 0]] W (StrPost ⟨#[110, 117, 108, 108]⟩ W) := by
  have h := implPrint_any (.mk 1 [] [] []) _ W _ (leaf_rep 1 W) (fun _ h => h.elim) (leaf_nice (.inl rfl))
  have e : text (norm (.mk 1 [] [] [])) = ⟨#[110, 117, 108, 108]⟩ := by simp [norm, norms, text, node]
  rw [e] at h
  exact h

end Go.Proofs.YtpmfjbmfjfhghaaGreat
