/-
  'Compare' at all types.
-/
import Derived.Test.YtpmfjbmfjfhghaaGreatCompareArr
import Derived.Test.YtpmfjbmfjfhghaaGreatCompareObj
namespace Go.Proofs.YtpmfjbmfjfhghaaGreat
open Go.RowKit

theorem keyVal_inj {a b : Ky} (ha : a.ok) (hb : b.ok) (h : keyVal a = keyVal b) : a = b := by
  obtain ⟨h1, h2⟩ := ha
  obtain ⟨h3, h4⟩ := hb
  have hx : keyVal a ≠ .nilIface → a.kind ≠ 0 := fun hn e => hn (by simp [keyVal, e])
  unfold keyVal at h
  rcases h1 with e | e | e | e <;> rcases h3 with f | f | f | f <;> simp [e, f] at h
  all_goals first
    | exact Ky.ext' (by rw [e, f]) h
    | exact Ky.ext' (by rw [e, f]) (by rw [h2 (by omega), h4 (by omega)])
    | (simp_all [Value.bool.injEq]; done)

theorem rowAt.same {w : World} {F F' : Nat → Prop} {A : Option Addr} {xs ys : List Value} (h : rowAt w F A xs) (h' : rowAt w F' A ys) (hl : xs.length = ys.length) : xs = ys := by
  apply List.ext_getElem hl
  intro i h1 h2
  obtain ⟨b, o, rfl, _, hc⟩ := h i xs[i] (by simp)
  obtain ⟨b', o', e, _, hc'⟩ := h' i ys[i] (by simp)
  injection e with e
  injection e with e1 e2
  subst e1 e2
  rw [hc] at hc'
  exact Option.some.inj hc'

theorem ptr_inj {a b : Nat} (h : ptr a = ptr b) : a = b := by
  injection h with h; injection h with h; injection h

theorem map_ptr_inj : ∀ {l m : List Nat}, l.map ptr = m.map ptr → l = m
  | [], [], _ => rfl
  | a :: l, b :: m, h => by
    simp only [List.map_cons, List.cons.injEq] at h
    rw [ptr_inj h.1, map_ptr_inj h.2]
  | [], _ :: _, h => by simp at h
  | _ :: _, [], h => by simp at h

theorem Blk.same {w : World} {g : Nat} {t t' : TypeId} {cs cs' : Array Value} (h : Blk w g t cs) (h' : Blk w g t' cs') : cs = cs' := by
  unfold Blk at h h'
  rw [h] at h'
  simp only [Option.some.injEq, Obj.cells.injEq] at h'
  exact h'.1

theorem props.same {w : World} {F F' : Nat → Prop} : ∀ {gs : List Nat} {ks ks' : List Ky} {vs vs' : List Value}, props w F gs ks vs → props w F' gs ks' vs' → (∀ k ∈ ks, k.ok) → (∀ k ∈ ks', k.ok) → ks = ks' ∧ vs = vs'
  | [], [], [], [], [], _, _, _, _ => ⟨rfl, rfl⟩
  | g :: gs, k :: ks, k' :: ks', v :: vs, v' :: vs', h, h', o, o' => by
    simp only [props] at h h'
    have e := h.1.2.same h'.1.2
    simp only [Array.mk.injEq, List.cons.injEq, and_true] at e
    obtain ⟨e1, e2⟩ := props.same h.2 h'.2 (fun k hk => o k (by simp [hk])) (fun k hk => o' k (by simp [hk]))
    rw [keyVal_inj (o k (by simp)) (o' k' (by simp)) e.1, e.2, e1, e2]
    exact ⟨rfl, rfl⟩
  | [], _ :: _, _, _, _, h, _, _, _ => by simp [props] at h
  | [], [], _ :: _, _, _, _, h, _, _ => by simp [props] at h
  | [], [], [], _ :: _, _, h, _, _, _ => by simp [props] at h
  | [], [], [], [], _ :: _, _, h, _, _ => by simp [props] at h
  | _ :: _, [], _, _, _, h, _, _, _ => by simp [props] at h
  | _ :: _, _ :: _, [], _, _, _, h, _, _ => by simp [props] at h
  | _ :: _, _ :: _, _ :: _, [], _, h, _, _, _ => by simp [props] at h
  | _ :: _, _ :: _, _ :: _, _ :: _, [], _, h, _, _ => by simp [props] at h

theorem repPs.inj {w : World} {F F' : Nat → Prop} : ∀ {l l' : List Tr} {xs : List Value}, (∀ t ∈ l, ∀ t' v, t.good → t'.good → repP w F t v → repP w F' t' v → t = t') → Tr.goods l → Tr.goods l' → repPs w F l xs → repPs w F' l' xs → l = l'
  | [], [], _, _, _, _, _, _ => rfl
  | t :: l, t' :: l', xs, ih, g, g', h, h' => by
    simp only [repPs] at h h'
    simp only [Tr.goods] at g g'
    obtain ⟨x, ys, rfl, h1, h2⟩ := h
    obtain ⟨x', ys', e, h1', h2'⟩ := h'
    simp only [List.cons.injEq] at e
    obtain ⟨rfl, rfl⟩ := e
    rw [ih t (by simp) t' x g.1 g'.1 h1 h1', repPs.inj (fun t ht => ih t (by simp [ht])) g.2 g'.2 h2 h2']
  | [], _ :: _, xs, _, _, _, h, h' => by
    simp only [repPs] at h h'
    obtain ⟨x', ys', e, _⟩ := h'
    subst h; cases e
  | _ :: _, [], xs, _, _, _, h, h' => by
    simp only [repPs] at h h'
    obtain ⟨x', ys', e, _⟩ := h
    subst h'; cases e

theorem len0 {α : Type} {l : List α} (h : l = []) : l.length = 0 := by rw [h]; rfl

set_option maxHeartbeats 1000000 in
/-- One value, one tree. -/
theorem repP.inj {w : World} {F F' : Nat → Prop} (t : Tr) : ∀ (t' : Tr) (v : Value), t.good → t'.good → repP w F t v → repP w F' t' v → t = t' := by
  induction t using Tr.ind with
  | h k ks l m il im =>
    intro t' v g g' h h'
    cases t' with
    | mk k' ks' l' m' =>
      simp only [Tr.good] at g g'
      obtain ⟨⟨_, o⟩, _, _, gl, gm⟩ := g
      obtain ⟨⟨_, o'⟩, _, _, gl', gm'⟩ := g'
      simp only [repP] at h h'
      rcases h with ⟨h, rfl, rfl, rfl⟩ | ⟨rfl, rfl, g, A, c, dyn, xs, rfl, hg, hb, hc, hr, hl, hm⟩ | ⟨rfl, e1, g, A, c, dp, gs, vs, rfl, hg, hb, hc, hr, hp, hl, hm⟩ | ⟨rfl, rfl, rfl, g, x, rfl, hg, hb, hl⟩ | ⟨rfl, rfl, rfl, A, c, xs, rfl, hc, hr, hl⟩
      · rcases h with ⟨rfl, rfl⟩ | ⟨rfl, rfl⟩ | ⟨rfl, rfl⟩ | ⟨rfl, rfl⟩ <;> simp at h' <;> simp [h']
      · rcases h' with ⟨h', _⟩ | ⟨rfl, rfl, g', A', c', dyn', xs', hv', hg', hb', hc', hr', hl', hm'⟩ | ⟨_, _, _, _, _, _, _, _, hv', _⟩ | ⟨_, _, _, _, _, hv', _⟩ | ⟨_, _, _, _, _, _, hv', _⟩
        · simp at h'
        · obtain rfl : g = g' := by simpa using hv'
          have e := hb.same hb'
          simp only [Array.mk.injEq, List.cons.injEq, Value.slice.injEq, and_true] at e
          obtain ⟨⟨rfl, hle, rfl⟩, rfl⟩ := e
          obtain rfl := hr.same hr' (by have := hl.length; have := hl'.length; omega)
          have el := repPs.inj il gl gl' hl hl'
          have em : m = m' := by
            rcases hm with ⟨rfl, rfl⟩ | ⟨h1, hm⟩ <;> rcases hm' with ⟨rfl, h2⟩ | ⟨h3, hm'⟩
            · rfl
            · have := hm'.length
              cases m' with
              | nil => rfl
              | cons t m' => simp only [repPs] at hm'; obtain ⟨_, _, e, h, _⟩ := hm'; obtain ⟨T, x, hx, _⟩ := h.dyn; simp only [List.cons.injEq] at e; rw [← e.1] at hx; cases hx
            · subst h2
              cases m with
              | nil => rfl
              | cons t m => simp only [repPs] at hm; obtain ⟨_, _, e, h, _⟩ := hm; obtain ⟨T, x, hx, _⟩ := h.dyn; simp only [List.cons.injEq] at e; rw [← e.1] at hx; cases hx
            · exact repPs.inj im gm gm' hm hm'
          rw [el, em]
        · simp at hv'
        · simp at hv'
        · simp at hv'
      · rcases h' with ⟨h', _⟩ | ⟨_, _, _, _, _, _, _, hv', _⟩ | ⟨rfl, e1', g', A', c', dp', gs', vs', hv', hg', hb', hc', hr', hp', hl', hm'⟩ | ⟨_, _, _, _, _, hv', _⟩ | ⟨_, _, _, _, _, _, hv', _⟩
        · simp at h'
        · simp at hv'
        · obtain rfl : g = g' := by simpa using hv'
          have e := hb.same hb'
          simp only [Array.mk.injEq, List.cons.injEq, Value.slice.injEq, and_true] at e
          obtain ⟨⟨rfl, hle, rfl⟩, rfl⟩ := e
          have p1 := hp.length
          have p2 := hp'.length
          have eg := map_ptr_inj (hr.same hr' (by simp; omega))
          subst eg
          obtain ⟨rfl, rfl⟩ := hp.same hp' o o'
          have el := repPs.inj il gl gl' hl hl'
          have em : m = m' := by
            rcases hm with ⟨rfl, rfl⟩ | ⟨g1, x, y, e2, hg1, hb1, hl1, hm⟩ <;> rcases hm' with ⟨rfl, h2⟩ | ⟨g2, x', y', e3, hg2, hb2, hl2, hm'⟩
            · rfl
            · cases e3
            · rw [h2] at e2; cases e2
            · subst e2
              obtain rfl := ptr_inj e3
              have e := hb1.same hb2
              simp only [Array.mk.injEq, List.cons.injEq, and_true] at e
              obtain ⟨rfl, rfl⟩ := e
              exact repPs.inj im gm gm' hm hm'
          rw [el, em]
        · simp at hv'
        · simp at hv'
      · rcases h' with ⟨h', _⟩ | ⟨_, _, _, _, _, _, _, hv', _⟩ | ⟨_, _, _, _, _, _, _, _, hv', _⟩ | ⟨rfl, rfl, rfl, g', x', hv', hg', hb', hl'⟩ | ⟨_, _, _, _, _, _, hv', _⟩
        · simp at h'
        · simp at hv'
        · simp at hv'
        · obtain rfl : g = g' := by simpa using hv'
          have e := hb.same hb'
          simp only [Array.mk.injEq, List.cons.injEq, and_true] at e
          subst e
          rw [repPs.inj il gl gl' hl hl']
        · simp at hv'
      · rcases h' with ⟨h', _⟩ | ⟨_, _, _, _, _, _, _, hv', _⟩ | ⟨_, _, _, _, _, _, _, _, hv', _⟩ | ⟨_, _, _, _, _, hv', _⟩ | ⟨rfl, rfl, rfl, A', c', xs', hv', hc', hr', hl'⟩
        · simp at h'
        · simp at hv'
        · simp at hv'
        · simp at hv'
        · simp only [Value.iface.injEq, Value.slice.injEq, true_and] at hv'
          obtain ⟨rfl, hle, rfl⟩ := hv'
          obtain rfl := hr.same hr' (by have := hl.length; have := hl'.length; omega)
          rw [repPs.inj il gl gl' hl hl']

theorem cmp_self {t : Tr} (h : t.good) : cmp t t = 0 := (cmp_linear.eq t t h h).2 rfl

theorem andThen_r0 {x : Int} : andThen x 0 = x := by unfold andThen; split <;> omega

theorem sizes_len {l : List Tr} {n : Nat} (h : Tr.sizes l ≤ n) : l.length ≤ n := Nat.le_trans (Tr.length_sizes l) h

theorem CmpPost.of_same {w : World} {c d : Int} {e : Ending} {w' : World} (h : Same (.int .i64 c) w e w') (hc : c = d) : CmpPost d w e w' := by
  obtain ⟨he, hw⟩ := h
  exact ⟨by rw [he, hc], 0, hw.symm⟩

theorem compareFunc_drew {l l' : List Tr} {xs ys : List Value} {A A' : Option Addr} (c c' : Nat) {F F' : Nat → Prop} {w : World} (hr : repPs w F l xs) (hx : rowAt w F A xs) (hr' : repPs w F' l' ys) (hy : rowAt w F' A' ys)
    (hl : l.length ≤ 1073741824) (hl' : l'.length ≤ 1073741824) (hcmp : ∀ (t t' : Tr) (x y : Value) (q : Nat), t ∈ l → t' ∈ l' → repP (w.drewN q) F t x → repP (w.drewN q) F' t' y → Calls Tryz.prog 50 #[x, y] (w.drewN q) (CmpPost (cmp t t') (w.drewN q))) (q : Nat) :
    Calls Tryz.prog 92 #[.slice A l.length c, .slice A' l'.length c', .func (.func 50) #[] #[]] (w.drewN q) (CmpPost (cmpL [] l [] l') (w.drewN q)) := by
  refine compareFunc_any l l' xs ys A A' c c' F F' (w.drewN q) (hr.drewN q) (hx.kept ((Kept.refl F w).drewN q) (fun _ h => h) fun _ h => h) (hr'.drewN q) (hy.kept ((Kept.refl F' w).drewN q) (fun _ h => h) fun _ h => h) hl hl' ?_
  intro t t' x y p ht ht' h h'
  have h1 := h.drewN p
  have h1' := h'.drewN p
  rw [World.drewN_drewN] at h1 h1' ⊢
  exact hcmp t t' x y (q + p) ht ht' h1 h1'

set_option maxHeartbeats 1000000 in
/-- The package's order is the order of trees. -/
theorem compare_any (t : Tr) : ∀ (t' : Tr) (v v' : Value) (F F' : Nat → Prop) (w : World), t.good → t'.good → t.size ≤ 1073741824 → t'.size ≤ 1073741824 → repP w F t v → repP w F' t' v' →
    Calls Tryz.prog 50 #[v, v'] w (CmpPost (cmp t t') w) := by
  induction t using Tr.ind with
  | h k ks l m il im =>
    intro t' v v' F F' w g g' s s' h h'
    cases t' with
    | mk k' ks' l' m' =>
      have hd := h.head
      have hd' := h'.head
      have rng := h.kind_rng
      simp only [Tr.kind] at hd hd' rng
      by_cases hkk : k ≠ k'
      · refine (compare_ne k k' v v' w hd hd' hkk).mono fun e w' hp => CmpPost.of_same hp ?_
        simp only [cmp]
        by_cases hlt : k' < k
        · rw [if_pos hlt, if_pos hlt]
        · rw [if_neg hlt, if_neg hlt, if_pos (by omega)]
      obtain rfl : k = k' := by omega
      clear hkk
      by_cases hvv : v = v' ∧ (k = 5 ∨ k = 6)
      · obtain ⟨rfl, hk⟩ := hvv
        have et := repP.inj _ _ _ g g' h h'
        rw [et, cmp_self g']
        rcases hk with rfl | rfl
        · obtain ⟨a, rfl⟩ : ∃ a, v = .iface 102 (ptr a) := by
            simp only [repP] at h
            rcases h with ⟨h, _⟩ | ⟨_, _, a, _, _, _, _, hv, _⟩ | ⟨hk, _⟩ | ⟨hk, _⟩ | ⟨hk, _⟩
            · omega
            · exact ⟨a, hv⟩
            all_goals omega
          exact (compare_arr_same a w hd).mono fun e w' hp => CmpPost.of_same hp rfl
        · obtain ⟨a, rfl⟩ : ∃ a, v = .iface 109 (ptr a) := by
            simp only [repP] at h
            rcases h with ⟨h, _⟩ | ⟨hk, _⟩ | ⟨_, _, a, _, _, _, _, _, hv, _⟩ | ⟨hk, _⟩ | ⟨hk, _⟩
            · omega
            · omega
            · exact ⟨a, hv⟩
            all_goals omega
          exact (compare_obj_same a w hd).mono fun e w' hp => CmpPost.of_same hp rfl
      have gg := g
      have gg' := g'
      simp only [Tr.good, Tr.goods_iff] at g g'
      obtain ⟨_, _, _, gl, gm⟩ := g
      obtain ⟨_, _, _, gl', gm'⟩ := g'
      simp only [Tr.size] at s s'
      have CL : ∀ q, ∀ (t t' : Tr) (x y : Value), t ∈ l → t' ∈ l' → repP (w.drewN q) F t x → repP (w.drewN q) F' t' y → Calls Tryz.prog 50 #[x, y] (w.drewN q) (CmpPost (cmp t t') (w.drewN q)) := fun q t t' x y ht ht' hx hy =>
        il t ht t' x y F F' (w.drewN q) (gl t ht) (gl' t' ht') (by have := Tr.size_mem ht; omega) (by have := Tr.size_mem ht'; omega) hx hy
      have CM : ∀ q, ∀ (t t' : Tr) (x y : Value), t ∈ m → t' ∈ m' → repP (w.drewN q) F t x → repP (w.drewN q) F' t' y → Calls Tryz.prog 50 #[x, y] (w.drewN q) (CmpPost (cmp t t') (w.drewN q)) := fun q t t' x y ht ht' hx hy =>
        im t ht t' x y F F' (w.drewN q) (gm t ht) (gm' t' ht') (by have := Tr.size_mem ht; omega) (by have := Tr.size_mem ht'; omega) hx hy
      have ll := sizes_len (l := l) (n := 1073741824) (by omega)
      have ll' := sizes_len (l := l') (n := 1073741824) (by omega)
      simp only [repP] at h h'
      have ec : cmp (.mk k ks l m) (.mk k ks' l' m') = andThen (cmpL [] m [] m') (cmpL ks l ks' l') := by simp [cmp]
      rw [ec]
      rcases h with ⟨h, rfl, rfl, rfl⟩ | ⟨rfl, rfl, a, A, c, dyn, xs, rfl, hg, hb, hc, hr, hl, hm⟩ | ⟨rfl, e1, a, A, c, dp, gs, vs, rfl, hg, hb, hc, hr, hp, hl, hm⟩ | ⟨rfl, rfl, rfl, a, x, rfl, hg, hb, hl⟩ | ⟨rfl, rfl, rfl, A, c, xs, rfl, hc, hr, hl⟩
      · obtain ⟨h', rfl, rfl, rfl⟩ : ((k = 1 ∧ v' = .iface 94 (.agg #[])) ∨ (k = 2 ∧ v' = .iface 96 (.agg #[])) ∨ (k = 3 ∧ v' = .iface 98 (.agg #[])) ∨ (k = 4 ∧ v' = .iface 100 (.agg #[]))) ∧ ks' = [] ∧ l' = [] ∧ m' = [] := by
          rcases h' with h' | ⟨rfl, _⟩ | ⟨rfl, _⟩ | ⟨rfl, _⟩ | ⟨rfl, _⟩
          · exact h'
          all_goals omega
        have ez : andThen (cmpL [] [] [] []) (cmpL [] [] [] []) = 0 := by simp [cmpL, andThen]
        rw [ez]
        rcases h with ⟨rfl, rfl⟩ | ⟨rfl, rfl⟩ | ⟨rfl, rfl⟩ | ⟨rfl, rfl⟩ <;> simp at h' <;> subst h'
        all_goals exact (compare_leaf _ _ w (by simp) hd).mono fun e w' hp => CmpPost.of_same hp rfl
      · obtain ⟨rfl, b, B, c', dyn', ys, rfl, hg', hb', hc', hr', hl', hm'⟩ : ks' = [] ∧ ∃ g A c dyn xs, v' = .iface 102 (ptr g) ∧ F' g ∧ Blk w g 139 #[.slice A l'.length c, dyn] ∧ l'.length ≤ c ∧ rowAt w F' A xs ∧ repPs w F' l' xs ∧ ((m' = [] ∧ dyn = .nilIface) ∨ (m'.length = 1 ∧ repPs w F' m' [dyn])) := by
          rcases h' with ⟨h', _⟩ | ⟨_, h'⟩ | ⟨hk, _⟩ | ⟨hk, _⟩ | ⟨hk, _⟩
          · omega
          · exact h'
          all_goals omega
        have hne : a ≠ b := fun e => hvv ⟨by rw [e], .inl rfl⟩
        refine compare_arr a b A B l.length l'.length c c' dyn dyn' _ _ w hd hd' hb hb' hne ?_ fun q => compareFunc_drew c c' hl hr hl' hr' ll ll' (fun t t' x y q ht ht' hx hy => CL q t t' x y ht ht' hx hy) q
        rcases hm with ⟨rfl, rfl⟩ | ⟨h1, hm⟩ <;> rcases hm' with ⟨rfl, rfl⟩ | ⟨h2, hm'⟩
        · exact .inl ⟨rfl, rfl, cmpL_nil_nil⟩
        · match m', h2, hm' with
          | [u'], _, hm' =>
            simp only [repPs] at hm'
            obtain ⟨_, _, e, hu, _⟩ := hm'
            simp only [List.cons.injEq] at e
            obtain ⟨T, x, hx, _⟩ := hu.dyn
            exact .inr (.inr (.inl ⟨rfl, ⟨T, x, e.1.trans hx⟩, by simp [cmpL]⟩))
        · match m, h1, hm with
          | [u], _, hm =>
            simp only [repPs] at hm
            obtain ⟨_, _, e, hu, _⟩ := hm
            simp only [List.cons.injEq] at e
            obtain ⟨T, x, hx, _⟩ := hu.dyn
            exact .inr (.inl ⟨⟨T, x, e.1.trans hx⟩, rfl, by simp [cmpL]⟩)
        · match m, m', h1, h2, hm, hm', CM with
          | [u], [u'], _, _, hm, hm', CM =>
            simp only [repPs] at hm hm'
            obtain ⟨y, _, e, hu, _⟩ := hm
            simp only [List.cons.injEq] at e
            obtain ⟨y', _, e', hu', _⟩ := hm'
            simp only [List.cons.injEq] at e'
            obtain ⟨T, x, hx, _⟩ := hu.dyn
            obtain ⟨T', x', hx', _⟩ := hu'.dyn
            obtain rfl := e.1
            obtain rfl := e'.1
            refine .inr (.inr (.inr ⟨⟨T, x, hx⟩, ⟨T', x', hx'⟩, fun q => ?_⟩))
            have ee : cmpL [] [u] [] [u'] = cmp u u' := by rw [cmpL_plain, cmpL_nil_nil, andThen_r0]
            rw [ee]
            exact CM q u u' dyn dyn' (by simp) (by simp) (hu.drewN q) (hu'.drewN q)
      · obtain ⟨e1', b, B, c', dp', gs', vs', rfl, hg', hb', hc', hr', hp', hl', hm'⟩ : ks'.length = l'.length ∧ ∃ g A c dp gs vs, v' = .iface 109 (ptr g) ∧ F' g ∧ Blk w g 142 #[.slice A l'.length c, dp] ∧ l'.length ≤ c ∧ rowAt w F' A (gs.map ptr) ∧ props w F' gs ks' vs ∧ repPs w F' l' vs ∧
            ((m' = [] ∧ dp = .pointer none) ∨ ∃ g' x y, dp = ptr g' ∧ F' g' ∧ Blk w g' 132 #[x, y] ∧ m'.length = 2 ∧ repPs w F' m' [x, y]) := by
          rcases h' with ⟨h', _⟩ | ⟨hk, _⟩ | ⟨_, h'⟩ | ⟨hk, _⟩ | ⟨hk, _⟩
          · omega
          · omega
          · exact h'
          all_goals omega
        have hne : a ≠ b := fun e => hvv ⟨by rw [e], .inr rfl⟩
        refine compare_obj a b A B c c' dp dp' _ ks ks' l l' gs gs' vs vs' F F' w hd hd' hb hb' hne ?_ e1 e1' ll ll' hr hr' hp hp' hl hl' (fun t t' x y q ht ht' hx hy => CL q t t' x y ht ht' (hx.drewN q) (hy.drewN q))
        rcases hm with ⟨rfl, rfl⟩ | ⟨g1, x, y, rfl, _, hb1, h1, hm⟩ <;> rcases hm' with ⟨rfl, rfl⟩ | ⟨g2, x', y', rfl, _, hb2, h2, hm'⟩
        · exact .inl ⟨rfl, rfl, cmpL_nil_nil⟩
        · match m', h2 with
          | [u', u2'], _ => exact .inr (.inr (.inl ⟨rfl, ⟨g2, rfl⟩, by simp [cmpL]⟩))
        · match m, h1 with
          | [u, u2], _ => exact .inr (.inl ⟨⟨g1, rfl⟩, rfl, by simp [cmpL]⟩)
        · match m, m', h1, h2, hm, hm', CM with
          | [u, u2], [u', u2'], _, _, hm, hm', CM =>
            simp only [repPs] at hm hm'
            obtain ⟨_, _, e, hu, _, _, f, hu2, _⟩ := hm
            simp only [List.cons.injEq] at e
            obtain ⟨_, _, e', hu', _, _, f', hu2', _⟩ := hm'
            simp only [List.cons.injEq] at e'
            obtain ⟨rfl, rfl⟩ := e
            obtain ⟨rfl, rfl⟩ := e'
            simp only [List.cons.injEq] at f f'
            obtain ⟨rfl, _⟩ := f
            obtain ⟨rfl, _⟩ := f'
            have ee : cmpL [] [u, u2] [] [u', u2'] = andThen (cmp u u') (cmp u2 u2') := by
              rw [cmpL_plain, cmpL_plain, cmpL_nil_nil, andThen_r0]
            exact .inr (.inr (.inr ⟨g1, g2, x, y, x', y', _, _, rfl, rfl, hb1, hb2, ee, fun q => CM q u u' x x' (by simp) (by simp) (hu.drewN q) (hu'.drewN q), fun q => CM q u2 u2' y y' (by simp) (by simp) (hu2.drewN q) (hu2'.drewN q)⟩))
      · obtain ⟨rfl, rfl, b, x', rfl, hg', hb', hl'⟩ : ks' = [] ∧ m' = [] ∧ ∃ g x, v' = .iface 113 (ptr g) ∧ F' g ∧ Blk w g 145 #[x] ∧ repPs w F' l' [x] := by
          rcases h' with ⟨h', _⟩ | ⟨hk, _⟩ | ⟨hk, _⟩ | ⟨_, h'⟩ | ⟨hk, _⟩
          · omega
          · omega
          · omega
          · exact h'
          · omega
        have n1 := hl.length
        have n1' := hl'.length
        match l, l', n1, n1', hl, hl', CL with
        | [u], [u'], _, _, hl, hl', CL =>
          simp only [repPs] at hl hl'
          obtain ⟨y, _, e, hu, _⟩ := hl
          simp only [List.cons.injEq] at e
          obtain ⟨y', _, e', hu', _⟩ := hl'
          simp only [List.cons.injEq] at e'
          obtain ⟨T, z, hz, _⟩ := hu.dyn
          obtain ⟨T', z', hz', _⟩ := hu'.dyn
          obtain rfl := e.1
          obtain rfl := e'.1
          have ee : andThen (cmpL [] [] [] []) (cmpL [] [u] [] [u']) = cmp u u' := by rw [cmpL_plain, cmpL_nil_nil, andThen_r0, andThen_z]
          rw [ee]
          exact compare_set a b x x' _ w hd hd' hb hb' ⟨T, z, hz⟩ ⟨T', z', hz'⟩ fun q => CL q u u' x x' (by simp) (by simp) (hu.drewN q) (hu'.drewN q)
      · obtain ⟨rfl, rfl, B, c', ys, rfl, hc', hr', hl'⟩ : ks' = [] ∧ m' = [] ∧ ∃ A c xs, v' = .iface 90 (.slice A l'.length c) ∧ l'.length ≤ c ∧ rowAt w F' A xs ∧ repPs w F' l' xs := by
          rcases h' with ⟨h', _⟩ | ⟨hk, _⟩ | ⟨hk, _⟩ | ⟨hk, _⟩ | ⟨_, h'⟩
          · omega
          · omega
          · omega
          · omega
          · exact h'
        rw [cmpL_nil_nil, andThen_z]
        exact compare_any_ _ _ _ w hd hd' ⟨A, l.length, c, rfl⟩ ⟨B, l'.length, c', rfl⟩ fun q => compareFunc_drew c c' hl hr hl' hr' ll ll' (fun t t' x y q ht ht' hx hy => CL q t t' x y ht ht' hx hy) q

end Go.Proofs.YtpmfjbmfjfhghaaGreat
