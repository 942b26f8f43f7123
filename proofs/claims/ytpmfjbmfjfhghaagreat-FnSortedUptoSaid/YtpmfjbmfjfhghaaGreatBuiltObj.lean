/-
  'impl.built' at object types.
-/
import Derived.Test.YtpmfjbmfjfhghaaGreatBuilt
namespace Go.Proofs.YtpmfjbmfjfhghaaGreat
open Go.RowKit

theorem infoP : (Tryz.prog.info? 106).map (fun i => (i.zero, i.size, i.bytes)) = some (some (.pointer none), 1, 8) := by kernel_rfl

theorem own_row {w : World} {base n : Nat} {e : TypeId} {v : Value} {xs : List Value} (h : w.ownsRow base e 1 v n xs) :
    ∃ A c blk, v = .slice A n c ∧ rowAt w (fun b => b = blk) A xs ∧ n ≤ c ∧ (n ≠ 0 → base ≤ blk ∧ blk < w.heap.size ∧ ∀ i, w.frozen? ⟨blk, i, none⟩ = false) ∧ (∀ b, v.ownBlock ≠ some b → b < w.heap.size → b ≠ blk) ∧ (base ≤ w.heap.size → base ≤ blk) ∧ (blk < w.heap.size → v.ownBlock = some blk) := by
  have hr := fun blk (hB : ∀ g, base ≤ g → g < w.heap.size → v.ownBlock = some g → g = blk) => rowAt.of_own' (B := fun b => b = blk) h hB
  rcases h.2 with ⟨rfl, rfl⟩ | ⟨g, cap, cur, rfl, hb, hg, hc, _⟩
  · obtain ⟨A, c, e, h1, h2⟩ := hr w.heap.size (fun g _ _ he => by simp [Value.ownBlock] at he)
    exact ⟨A, c, w.heap.size, e, h1, h2, fun h => absurd rfl h, fun b _ hb => by omega, fun h => h, fun h => by omega⟩
  · obtain ⟨A, c, e, h1, h2⟩ := hr g (fun g' _ _ he => by simp [Value.ownBlock] at he; exact he.symm)
    refine ⟨A, c, g, e, h1, h2, fun _ => ⟨hb, Blk.lt hg, fun i => Blk.frozen hg i⟩, fun b hne _ he => hne ?_, fun _ => hb, fun _ => rfl⟩
    subst he; rfl

/-- The static properties that have been made. -/
structure OL (w0 : World) (ks : List Ky) (l : List Tr) (v : Value) (j : Nat) (gs : List Nat) (vs : List Value) (wr : World) : Prop where
  below : Below w0.heap.size w0 wr
  own : wr.ownsRow w0.heap.size 106 1 v j (gs.map ptr)
  prop : props wr (fun b => w0.heap.size ≤ b ∧ b < wr.heap.size ∧ v.ownBlock ≠ some b) gs ks vs
  rep : repOs wr (fun b => w0.heap.size ≤ b ∧ b < wr.heap.size ∧ v.ownBlock ≠ some b) l vs

theorem OL.start (w : World) : OL w [] [] (.slice none 0 0) 0 [] [] w := ⟨Below.refl _ _, World.ownsRow_nil _ _ _ _, trivial, by simp [repOs]⟩

theorem OL.push {w0 wr w1 w1' w2 : World} {ks : List Ky} {l : List Tr} {v : Value} {j m cap gg g : Nat} {gs : List Nat} {vs : List Value} {k : Ky} {t : Tr} {y : Value} (h : OL w0 ks l v j gs vs wr) (hb : Below wr.heap.size wr w1) (hr : repO w1 (fun b => wr.heap.size ≤ b ∧ b < w1.heap.size) t y)
    (hb' : Below w1.heap.size w1 w1') (hg1 : w1.heap.size ≤ g) (hbk : Blk w1' g 129 #[keyVal k, y])
    (o : Obj) (hg : (w1'.alloc o).grownBy w2 v.ownBlock) (hown : w2.ownsRow w0.heap.size 106 1 (.slice (some ⟨gg, 0, none⟩) m cap) m (gs.map ptr ++ [ptr g])) (hat : v.ownBlock = some gg ∨ gg = w1'.heap.size + 1) :
    OL w0 (ks ++ [k]) (l ++ [t]) (.slice (some ⟨gg, 0, none⟩) m cap) m (gs ++ [g]) (vs ++ [y]) w2 := by
  have s0 := h.below.size
  have s1 := hb.size
  have s1' := hb'.size
  have hg2 := hbk.lt
  have hown1 := own_below h.own (hb.trans (hb'.mono s1)) (Nat.le_refl _)
  have K : Kept (fun b => b < w1'.heap.size ∧ v.ownBlock ≠ some b) w1' w2 := ((Kept.refl _ w1').alloc (fun b hb => hb.1) o).grown hg (fun b hb => by simp; omega) fun k hk hX => hX.2 hk
  have s2 := K.size
  have hnew : ∀ b, b < w1'.heap.size → v.ownBlock ≠ some b → (Value.slice (some ⟨gg, 0, none⟩) m cap).ownBlock ≠ some b := fun b hlt hne he => by
    simp only [Value.ownBlock, Option.some.injEq] at he
    subst he
    rcases hat with hat | hat
    · exact hne hat
    · omega
  have hnv : ∀ b, wr.heap.size ≤ b → v.ownBlock ≠ some b := fun b hb e => own_ne' h.own hb e.symm
  have K0 : Kept (fun b => b < wr.heap.size ∧ v.ownBlock ≠ some b) wr w2 := ((Kept.of_below (X := fun b => b < wr.heap.size ∧ v.ownBlock ≠ some b) hb fun b hb => hb.1).trans (Kept.of_below (X := fun b => b < wr.heap.size ∧ v.ownBlock ≠ some b) hb' fun b hb => by omega)).trans (K.mono fun b hb => ⟨by omega, hb.2⟩)
  have hb2 : Below w0.heap.size w0 w2 := h.below.trans ((hb.mono s0).trans ((hb'.mono (by omega)).trans (K.below fun b hb => ⟨by omega, fun e => own_ne h.own hb e.symm⟩)))
  refine ⟨hb2, by simpa using hown, props.snoc ⟨by omega, by omega, hnew g hg2 (hnv g (by omega))⟩ (hbk.kept K ⟨hg2, hnv g (by omega)⟩) ?_, repOs.snoc ?_ ?_⟩
  · exact h.prop.keep (fun b hb => ⟨hb.1, by omega, hnew b (by omega) hb.2.2⟩) K0 fun b hb => hb.2
  · refine hr.keep (fun b hb => ⟨by omega, by omega, hnew b (by omega) (hnv b hb.1)⟩) ((Kept.of_below (X := fun b => b < w1.heap.size ∧ v.ownBlock ≠ some b) hb' fun b hb => hb.1).trans (K.mono fun b hb => ⟨by omega, hb.2⟩)) fun b hb => ⟨hb.2, hnv b hb.1⟩
  · exact h.rep.keep (fun b hb => ⟨hb.1, by omega, hnew b (by omega) hb.2.2⟩) K0 fun b hb => hb.2

theorem OL.later {w0 wr w' : World} {ks : List Ky} {l : List Tr} {v : Value} {j : Nat} {gs : List Nat} {vs : List Value} (h : OL w0 ks l v j gs vs wr) (hb : Below wr.heap.size wr w') : OL w0 ks l v j gs vs w' :=
  ⟨h.below.trans (hb.mono h.below.size), own_below h.own hb (Nat.le_refl _),
    h.prop.keep (X := fun b => b < wr.heap.size) (fun _ hb' => ⟨hb'.1, Nat.lt_of_lt_of_le hb'.2.1 hb.size, hb'.2.2⟩) (Kept.of_below hb fun _ h => h) fun _ hb => hb.2.1,
    h.rep.keep (X := fun b => b < wr.heap.size) (fun _ hb' => ⟨hb'.1, Nat.lt_of_lt_of_le hb'.2.1 hb.size, hb'.2.2⟩) (Kept.of_below hb fun _ h => h) fun _ hb => hb.2.1⟩

theorem object_rep {w w' : World} {ks : List Ky} {l m : List Tr} {A : Option Addr} {c g blk : Nat} {dp : Value} {gs : List Nat} {vs : List Value} (hkl : ks.length = l.length) (hg : w.heap.size ≤ g) (hbk : Blk w' g 142 #[.slice A ks.length c, dp]) (hc : ks.length ≤ c)
    (hb0 : w.heap.size ≤ blk) (hb1 : ks ≠ [] → blk < w'.heap.size) (hr : rowAt w' (fun b => b = blk) A (gs.map ptr)) (hp : props w' (fun b => w.heap.size ≤ b ∧ b < w'.heap.size) gs ((sortK (ks.zip (norms l))).map (·.1)) vs)
    (hl : repPs w' (fun b => w.heap.size ≤ b ∧ b < w'.heap.size) ((sortK (ks.zip (norms l))).map (·.2)) vs)
    (hd : (m = [] ∧ dp = .pointer none) ∨ ∃ g' x y, dp = ptr g' ∧ w.heap.size ≤ g' ∧ Blk w' g' 132 #[x, y] ∧ m.length = 2 ∧ repPs w' (fun b => w.heap.size ≤ b ∧ b < w'.heap.size) (norms m) [x, y]) :
    repP w' (fun b => w.heap.size ≤ b ∧ b < w'.heap.size) (norm (.mk 6 ks l m)) (.iface 109 (ptr g)) := by
  have hzl : (sortK (ks.zip (norms l))).length = ks.length := by rw [sortK, isort_length, List.length_zip, norms_length]; omega
  simp only [norm]
  rw [if_neg (by omega), if_pos trivial]
  simp only [repP]
  refine .inr (.inr (.inl ⟨by simp, by simp, g, A, c, dp, gs, vs, rfl, ⟨hg, hbk.lt⟩, ?_, ?_, ?_, hp, hl, ?_⟩))
  · rw [List.length_map, hzl]; exact hbk
  · rw [List.length_map, hzl]; exact hc
  · by_cases h0 : gs = []
    · subst h0; exact rowAt.nil
    · refine hr.kept (X := fun _ => True) (Kept.refl _ _) (fun _ _ => trivial) fun b hb => ⟨by omega, ?_⟩
      have := hb1 (fun e => h0 (List.eq_nil_of_length_eq_zero (by have := hp.length.1; rw [List.length_map, hzl, e] at this; simpa using this)))
      omega
  · rcases hd with ⟨rfl, rfl⟩ | ⟨g', x, y, rfl, h1, h2, h3, h4⟩
    · exact .inl ⟨rfl, rfl⟩
    · exact .inr ⟨g', x, y, rfl, ⟨h1, h2.lt⟩, h2, by rw [norms_length]; exact h3, h4⟩

set_option maxHeartbeats 2000000 in
set_option maxRecDepth 100000 in
theorem built_object (ks : List Ky) (l m : List Tr) (hkl : ks.length = l.length) (hl : l.length ≤ 1048576) (hm : m = [] ∨ m.length = 2) (hko : ∀ k ∈ ks, k.ok) (hnd : ks.Nodup) (il : ∀ t ∈ l, BuiltOk t ∧ t.kind ≠ 0) (im : ∀ t ∈ m, BuiltOk t ∧ t.kind ≠ 0) : BuiltOk (.mk 6 ks l m) := by
  intro w B cs hr hB
  simp only [repI] at hr
  obtain ⟨nm, tx, A1, c1, A2, c2, A3, c3, xs, ys, rfl, _, h1, h2, h3, h4, h5⟩ := hr
  obtain ⟨i1, gi, gz0, gz1, gz2⟩ := info_parts infoP
  have hatl : ∀ (i : Nat) (W : World), Below w.heap.size w W → Calls Tryz.prog 67 #[.slice A2 l.length c2, .int .i64 i] W (AtPost l i W) := fun i W hW =>
    at_post l A2 c2 xs W B i (h3.kept (Kept.of_below (X := fun b => b < w.heap.size) hW fun _ h => h) hB fun _ h => h) (h2.kept (Kept.of_below (X := fun b => b < w.heap.size) hW fun _ h => h) hB fun _ h => h) (fun b hb => Nat.lt_of_lt_of_le (hB b hb) hW.size) (fun t ht => (il t ht).1)
  have hatm : ∀ (i : Nat) (W : World), Below w.heap.size w W → Calls Tryz.prog 67 #[.slice A3 m.length c3, .int .i64 i] W (AtPost m i W) := fun i W hW =>
    at_post m A3 c3 ys W B i (h5.kept (Kept.of_below (X := fun b => b < w.heap.size) hW fun _ h => h) hB fun _ h => h) (h4.kept (Kept.of_below (X := fun b => b < w.heap.size) hW fun _ h => h) hB fun _ h => h) (fun b hb => Nat.lt_of_lt_of_le (hB b hb) hW.size) (fun t ht => (im t ht).1)
  have hkl' : ∀ t ∈ norms l, t.kind ≠ 0 := fun t ht => by
    rw [norms_map] at ht
    obtain ⟨t', ht', rfl⟩ := List.mem_map.1 ht
    rw [norm_kind]
    exact (il t' ht').2
  have hkm : ∀ t ∈ m, t.kind ≠ 0 := fun t ht => (im t ht).2
  have HKL := Lib.hid hkl
  have HML := Lib.hid hm
  have hlk : ks.length ≤ 1048576 := by omega
  clear h2 h3 h4 h5 il im hkl hl hm
  have hx0 : Blk (w.alloc (.cells #[.int .i64 6, .string nm, .string tx, .slice A1 ks.length c1, .slice A2 l.length c2, .slice A3 m.length c3] 25)) w.heap.size 25 #[.int .i64 6, .string nm, .string tx, .slice A1 ks.length c1, .slice A2 l.length c2, .slice A3 m.length c3] := Blk.new w _ _
  have hb0 : Below w.heap.size w (w.alloc (.cells #[.int .i64 6, .string nm, .string tx, .slice A1 ks.length c1, .slice A2 l.length c2, .slice A3 m.length c3] 25)) := (Below.refl _ _).alloc (Nat.le_refl _) _
  go_enter Tryz.func43, Tryz.ntmps43
  go_wp2_with fail
  generalize w.alloc (.cells #[.int .i64 6, .string nm, .string tx, .slice A1 ks.length c1, .slice A2 l.length c2, .slice A3 m.length c3] 25) = w0 at *
  go_loopw [39, 3] (fun i v wr => ∃ j : Nat, j ≤ ks.length ∧ i = .int .i64 j ∧ ∃ gs vs, OL w0 (ks.take j) (norms (l.take j)) v j gs vs wr) (fun i _ _ => ks.length - (intOf i).toNat)
  case atStart => exact ⟨0, Nat.zero_le _, rfl, [], [], by simpa [norms] using OL.start w0⟩
  case round =>
    obtain ⟨j, hj, rfl, gs, vs, hp⟩ := hrel
    have hbw := hb0.trans (hp.below.mono hb0.size)
    have hx1 := hx0.below hp.below hx0.lt
    have hs0 := hx0.lt
    have hs1 := hp.below.size
    by_cases hlt : j < ks.length
    · obtain ⟨b, off, rfl, hb, q1, q2⟩ := h1.key j hlt
      have hb' := hB b hb
      rw [← hbw.cell (by exact hb')] at q1 q2
      have hjl : j < l.length := by have := HKL.out; omega
      have hK := fun W => key_any ks[j] W
      have hS := fun k v W hk hv => newStatic_any k v W hk hv
      have hki := keyVal_ifc ks[j]
      clear h1 hatm hkm hkl'
      go_wp2_with fail
      obtain ⟨kv, ekv⟩ : ∃ kv, kv = keyVal ks[j] := ⟨_, rfl⟩
      rw [← ekv] at hki hK
      have HE := Lib.hid ekv
      clear ekv
      have hr1 : Below wr.heap.size wr (wr.alloc (.cells #[.int .i64 ks[j].kind, .string ks[j].text] 71)).drew := ((Below.refl _ _).alloc (Nat.le_refl _) _).drew
      have hx2 := hx1.below hr1 hx1.lt
      have hk2 : Blk (wr.alloc (.cells #[.int .i64 ks[j].kind, .string ks[j].text] 71)).drew wr.heap.size 71 #[.int .i64 ks[j].kind, .string ks[j].text] := (Blk.new wr _ _).drew
      have z0 := hr1.size
      go_region_held3 (fun w' => w'.cell? ⟨w.heap.size, 4, none⟩ = some (.slice A2 l.length c2) ∧ w'.cell? ⟨wr.heap.size, 0, none⟩ = some (.int .i64 ks[j].kind) ∧ w'.cell? ⟨wr.heap.size, 1, none⟩ = some (.string ks[j].text))
        (first | exact ⟨by simpa using hx2.cell 4, (hk2.cell 0).trans (by simp), (hk2.cell 1).trans (by simp)⟩ | exact ⟨by simpa using hx3.cell 4, by simpa using hk3.cell 0, by simpa using hk3.cell 1⟩ | exact ⟨by simpa using hx4.cell 4, by simpa using hk4.cell 0, by simpa using hk4.cell 1⟩ | exact ⟨by simpa using hx5.cell 4, by simpa using hk5.cell 0, by simpa using hk5.cell 1⟩ | exact ⟨by simpa using (hx5.alloc _).cell 4, by simpa using (hk5.alloc _).cell 0, by simpa using (hk5.alloc _).cell 1⟩ | exact ⟨by simpa using hx6.cell 4, by simpa using hk6.cell 0, by simpa using hk6.cell 1⟩)
        (first
          | (go_at_call 69; refine (hK _).mono ?_; rintro e w3 ⟨rfl, hb3⟩; have hx3 := hx2.below hb3 hx2.lt; have hk3 := hk2.below hb3 hk2.lt; have hr3 := hr1.trans (hb3.mono z0); have z3 := hr3.size)
          | (go_at_call 67; refine (hatl j _ (hbw.trans (hr3.mono hbw.size))).mono ?_; rintro e w4 ⟨y, rfl, hb4, hyi, hy⟩; have hx4 := hx3.below hb4 hx3.lt; have hk4 := hk3.below hb4 hk3.lt; have hr4 := hr3.trans (hb4.mono z3); have z4 := hr4.size)
          | (go_at_call 68; refine (hS _ _ _ hki hyi).mono ?_; rintro e w5 ⟨rfl, rfl⟩; have hx5 := hx4.alloc (.cells #[kv, y] 129); have hk5 := hk4.alloc (.cells #[kv, y] 129))
          | (refine step_append_lies _ (by rfl) _ _ _ (by rfl) w0.heap.size 106 i1 _ 1 8 Tryz.underlying105 gi gz0 gz1 gz2 rfl (by omega) _ j (gs.map ptr) (by rfl) (((own_below hp.own hr4 (Nat.le_refl _)).alloc _).alloc _) ⟨w4.heap.size + 1, 0, none⟩ 1 1 [ptr w4.heap.size] (by rfl) (by rfl) (news_at _ [_] _ (by simp)) (by simp [Value.oneCell']) (by omega) (by unfold maxLen; omega) (by omega) (by simp; omega) (w4.heap.size + 1 + 1) (by simp) ?_; intro g cap w6 hown6 hg6 hat6 _; have hx6 := Blk.grown (Blk.alloc hx5 _) hg6 (own_ne hp.own hs0); have hk6 := Blk.grown (Blk.alloc hk5 _) hg6 (own_ne' hp.own (Nat.le_refl _))))
      all_goals
        have hb5 : Below w4.heap.size w4 (w4.alloc (.cells #[kv, y] 129)) := (Below.refl _ _).alloc (Nat.le_refl _) _
        have hn5 : Blk (w4.alloc (.cells #[kv, y] 129)) w4.heap.size 129 #[keyVal ks[j], y] := by rw [← HE.out]; exact Blk.new _ _ _
        have hy' : repO w4 (fun b => wr.heap.size ≤ b ∧ b < w4.heap.size) (norm l[j]) y := by
          rcases hy with ⟨hno, _⟩ | ⟨_, hy⟩
          · omega
          · exact hy.keep (X := fun b => b < w4.heap.size) (fun b hb => ⟨by omega, hb.2⟩) (Kept.refl _ _) fun b hb => hb.2
        have hp6 := hp.push hr4 hy' hb5 (Nat.le_refl _) hn5 _ hg6 hown6 (by simpa using hat6)
        have e1 : norms (l.take j) ++ [norm l[j]] = norms (l.take (j + 1)) := by rw [norms_map, norms_map, List.take_succ_eq_append_getElem hjl, List.map_append]; rfl
        rw [e1, ← List.take_succ_eq_append_getElem hlt] at hp6
        clear e1 hp hr1 hr3 hr4 hx0 hx1 hx2 hx3 hx4 hx5 hk2 hk3 hk4 hk5 hk6 hy hy' hb5 hn5 hg6 hown6 hK hS hatl q1 q2 hbw hb0
        go_wp2
        go_roundw
        case rel => exact ⟨j + 1, by omega, by go_num, _, _, hp6⟩
        case measure => simp [intOf]; omega
    · obtain rfl : j = ks.length := by omega
      have hkl := HKL.out
      have e : l.take ks.length = l := List.take_of_length_le (by omega)
      rw [List.take_length, e] at hp
      have hzl : (sortK (ks.zip (norms l))).length = ks.length := by rw [sortK, isort_length, List.length_zip, norms_length]; omega
      obtain ⟨A, c, blk0, rfl, _, hcap, _, _, _, _⟩ := own_row hp.own
      have hN : ∀ (W : World) (dp : Value), Below wr.heap.size wr W → (dp = .pointer none ∨ ∃ g, dp = ptr g) →
          Calls Tryz.prog 70 #[.slice A ks.length c, dp] W fun e w' => ∃ g blk gs' vs', e = .returned (ptr g) ∧ w0.heap.size ≤ blk ∧ (ks ≠ [] → blk < w'.heap.size) ∧ Below w0.heap.size W w' ∧ Kept (fun b => wr.heap.size ≤ b ∧ b < W.heap.size) W w' ∧ W.heap.size ≤ g ∧ Blk w' g 142 #[.slice A ks.length c, dp] ∧
            rowAt w' (fun b => b = blk) A (gs'.map ptr) ∧ props w' (fun b => w0.heap.size ≤ b ∧ b < w'.heap.size) gs' ((sortK (ks.zip (norms l))).map (·.1)) vs' ∧ repPs w' (fun b => w0.heap.size ≤ b ∧ b < w'.heap.size) ((sortK (ks.zip (norms l))).map (·.2)) vs' := by
        intro W dp hW hdp
        have hpW := hp.later hW
        obtain ⟨A', c', blk, e, hrow, _, hblk, hbo, hbb, hbs⟩ := own_row hpW.own
        injection e with e1 e2 e3
        subst e1 e3
        have sW := hW.size
        refine (newObject_any gs ks (norms l) vs A blk c dp (fun b => w0.heap.size ≤ b ∧ b < W.heap.size ∧ (Value.slice A ks.length c).ownBlock ≠ some b) W hdp hpW.prop (hpW.rep.reps hkl') hrow (fun b hb => ⟨hb.2.1, hbo b hb.2.2 hb.2.1⟩) (fun h => (hblk (fun h0 => h (List.eq_nil_of_length_eq_zero h0))).2) hko hnd (by omega)).mono ?_
        rintro e w' ⟨g, gs', vs', rfl, hk, hg, hbk, hrw, hpr, hrp⟩
        have sk := hk.size
        have b0 := hbb (by omega)
        refine ⟨g, blk, gs', vs', rfl, b0, fun h => by have := (hblk (fun h0 => h (List.eq_nil_of_length_eq_zero h0))).2.1; omega, hk.below fun b hb => by omega, hk.mono fun b hb => ⟨hb.2, fun e => ?_⟩, hg, hbk, hrw, ?_, ?_⟩
        · subst e
          have := hp.own.lt b (hbs hb.2)
          omega
        · exact hpr.keep (X := fun _ => True) (fun b hb => ⟨hb.1, by omega⟩) (Kept.refl _ _) fun _ _ => trivial
        · exact hrp.keep (X := fun _ => True) (fun b hb => ⟨hb.1, by omega⟩) (Kept.refl _ _) fun _ _ => trivial
      have HZ := Lib.hid hzl
      have HKE := Lib.hid hkl
      have hs9 := hp.below.size
      clear hp h1 hkl hzl e hatl
      rcases HML.out with rfl | hm2
      · have hn := hN wr (.pointer none) (Below.refl _ _) (.inl rfl)
        have d5 := hx1.cell 5
        simp at d5
        clear hN hatm hx1 hx0
        go_wp2_with fail
        refine hn.mono ?_
        rintro e w' ⟨g, blk, gs', vs', rfl, b0, b1, hbl, hkk, hg, hbk, hrw, hpr, hrp⟩
        clear hn
        go_wp2
        go_ret
        refine ⟨_, rfl, .inr (object_rep HKE.out (by omega) hbk hcap (by omega) b1 hrw (hpr.keep (X := fun _ => True) (fun b hb => ⟨by omega, hb.2⟩) (Kept.refl _ _) fun _ _ => trivial) (hrp.keep (X := fun _ => True) (fun b hb => ⟨by omega, hb.2⟩) (Kept.refl _ _) fun _ _ => trivial) (.inl ⟨rfl, rfl⟩)), ?_⟩
        exact hbw.trans (hbl.mono (by omega))
      · have d5 := hx1.cell 5
        simp at d5
        have hD := fun k v W hk hv => newDynamic_any k v W hk hv
        have hlm : ¬ m.length < 2 := by omega
        have hatm0 : ∀ (W : World), Below w.heap.size w W → Calls Tryz.prog 67 #[.slice A3 m.length c3, .int .i64 0] W (AtPost m 0 W) := fun W h => hatm 0 W h
        have hatm1 : ∀ (W : World), Below w.heap.size w W → Calls Tryz.prog 67 #[.slice A3 m.length c3, .int .i64 1] W (AtPost m 1 W) := fun W h => hatm 1 W h
        have HM2 := Lib.hid hm2
        have HKM := Lib.hid hkm
        clear hatm hm2 hkm hko hnd hkl' hj
        go_wp2_with fail
        have hr1 : Below wr.heap.size wr wr.drew := (Below.refl _ _).drew
        have hx2 := hx1.below hr1 hx1.lt
        have z1 := hr1.size
        go_region_held3 (fun w' => w'.cell? ⟨w.heap.size, 5, none⟩ = some (.slice A3 m.length c3))
          (first | exact (by simpa using hx2.cell 5) | exact (by simpa using hx3.cell 5) | exact (by simpa using hx4.cell 5) | exact (by simpa using hx5.cell 5) | exact (by simpa using hx6.cell 5))
          (first
            | (go_at_call 67; have z9 := hr3.size; refine (hatm1 _ (hbw.trans (hr3.mono hbw.size))).mono ?_; rintro e w4 ⟨y, rfl, hb4, hyi, hy⟩; have hx4 := hx3.below hb4 hx3.lt; have hr4 := hr3.trans (hb4.mono z3); have z4 := hr4.size)
            | (go_at_call 67; refine (hatm0 _ (hbw.trans (hr1.mono hbw.size))).mono ?_; rintro e w3 ⟨x, rfl, hb3, hxi, hx⟩; have hx3 := hx2.below hb3 hx2.lt; have hr3 := hr1.trans (hb3.mono z1); have z3 := hr3.size)
            | (go_at_call 71; refine (hD _ _ _ hxi hyi).mono ?_; rintro e w5 ⟨rfl, hw5⟩; have hd5 : Blk w5 w4.heap.size 132 #[x, y] := (by rw [hw5]; exact Blk.new _ _ _); have hb5 : Below w4.heap.size w4 w5 := (by rw [hw5]; exact (Below.refl _ _).alloc (Nat.le_refl _) _); have hx5 := hx4.below hb5 hx4.lt; have hr5 := hr4.trans (hb5.mono z4); have z5 := hr5.size; clear hw5)
            | (go_at_call 70; refine (hN _ (ptr w4.heap.size) hr5 (.inr ⟨_, rfl⟩)).mono ?_; rintro e w6 ⟨g, blk, gs', vs', rfl, b0, b1, hbl, hkk, hg, hbk, hrw, hpr, hrp⟩; have hx6 := hx5.below (hbl.mono (Nat.le_refl _)) hs0))
        clear hx0 hx1 hx2 hx3 hx4 hx5 hx6 hD hatm0 hatm1 hN d5
        have HX := Lib.hid hx
        have HY := Lib.hid hy
        have hs7 := hbl.size
        have q3 := hb3.size
        have q4 := hb4.size
        have q5 := hb5.size
        have e0 : wr.drew.heap.size = wr.heap.size := rfl
        have E0 := Lib.hid e0
        clear hx hy e0
        go_wp2
        go_ret
        refine ⟨_, rfl, .inr (object_rep HKE.out (by omega) hbk hcap (by omega) b1 hrw (hpr.keep (X := fun _ => True) (fun b hb => ⟨by omega, hb.2⟩) (Kept.refl _ _) fun _ _ => trivial) (hrp.keep (X := fun _ => True) (fun b hb => ⟨by omega, hb.2⟩) (Kept.refl _ _) fun _ _ => trivial) (.inr ⟨w4.heap.size, x, y, rfl, by omega, hd5.kept hkk ⟨by omega, hd5.lt⟩, HM2.out, ?_⟩)), ?_⟩
        · have hm2 := HM2.out
          have hkm := HKM.out
          have e0 := E0.out
          rcases HX.out with ⟨h0, _⟩ | ⟨h0, hx⟩
          · omega
          · rcases HY.out with ⟨h1, _⟩ | ⟨h1, hy⟩
            · omega
            · match m, hm2, hkm, h0, h1, hx, hy with
              | [s, t], _, hkm, _, _, hx, hy =>
                simp only [norms, repPs]
                have hx := hx.rep (by rw [norm_kind]; exact hkm _ (by simp))
                have hy := hy.rep (by rw [norm_kind]; exact hkm _ (by simp))
                refine ⟨x, [y], rfl, ?_, y, [], rfl, ?_, rfl⟩
                · exact hx.keep (X := fun b => wr.heap.size ≤ b ∧ b < w3.heap.size) (fun b hb => by omega) ((Kept.of_below (X := fun b => wr.heap.size ≤ b ∧ b < w3.heap.size) hb4 fun b hb => hb.2).trans ((Kept.of_below (X := fun b => wr.heap.size ≤ b ∧ b < w3.heap.size) hb5 fun b hb => by omega).trans (hkk.mono fun b hb => by omega))) fun b hb => by omega
                · exact hy.keep (X := fun b => wr.heap.size ≤ b ∧ b < w4.heap.size) (fun b hb => by omega) ((Kept.of_below (X := fun b => wr.heap.size ≤ b ∧ b < w4.heap.size) hb5 fun b hb => hb.2).trans (hkk.mono fun b hb => by omega)) fun b hb => by omega
        · exact hbw.trans ((hr5.mono hbw.size).trans (hbl.mono (by omega)))

end Go.Proofs.YtpmfjbmfjfhghaaGreat
