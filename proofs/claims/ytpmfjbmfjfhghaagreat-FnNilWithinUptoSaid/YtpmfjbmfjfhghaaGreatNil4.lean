/-
  'impl.built' at an array type with items that are none, at a set type of none: they are not known.
-/
import Derived.Test.YtpmfjbmfjfhghaaGreatNil3
namespace Go.Proofs.YtpmfjbmfjfhghaaGreat
open Go.RowKit

/-- An array type, its items perhaps none. -/
def Arr0Post (l : List Tr) (w : World) (e : Ending) (w' : World) : Prop :=
  ∃ g A c zs, e = .returned (.iface 102 (ptr g)) ∧ w.heap.size ≤ g ∧ Blk w' g 139 #[.slice A l.length c, .nilIface] ∧ rowAt w' (fun b => w.heap.size ≤ b ∧ b < w'.heap.size) A zs ∧ repOs w' (fun b => w.heap.size ≤ b ∧ b < w'.heap.size) (norms l) zs ∧ Below w.heap.size w w'

/-- A set type of none. -/
def Set0Post (w : World) (e : Ending) (w' : World) : Prop :=
  ∃ g, e = .returned (.iface 113 (ptr g)) ∧ w.heap.size ≤ g ∧ Blk w' g 145 #[.nilIface] ∧ Below w.heap.size w w'

set_option maxHeartbeats 2000000 in
set_option maxRecDepth 100000 in
theorem built_arr0 (l : List Tr) (hl : l.length ≤ 1048576) (il : ∀ t ∈ l, BuiltOk t) (w : World) (B : Nat → Prop) (cs : List Value) (hr : repI w B (.mk 5 [] l []) cs) (hB : ∀ b, B b → b < w.heap.size) :
    Calls Tryz.prog 43 #[.agg cs.toArray] w (Arr0Post l w) := by
  simp only [repI] at hr
  obtain ⟨nm, tx, A1, c1, A2, c2, A3, c3, xs, ys, rfl, _, h1, h2, h3, h4, h5⟩ := hr
  simp only [List.length_nil]
  have hall : ∀ W, Below w.heap.size w W → Calls Tryz.prog 54 #[.slice A2 l.length c2] W fun e w' => ∃ v ys, e = .returned v ∧ PL W (norms l) v l.length ys w' := fun W hW =>
    all_any l A2 c2 xs W B (h3.kept (Kept.of_below (X := fun b => b < w.heap.size) hW fun _ h => h) hB fun _ h => h) (h2.kept (Kept.of_below (X := fun b => b < w.heap.size) hW fun _ h => h) hB fun _ h => h) (fun b hb => Nat.lt_of_lt_of_le (hB b hb) hW.size) il hl
  have hat : ∀ W, Below w.heap.size w W → Calls Tryz.prog 67 #[.slice A3 0 c3, .int .i64 (0 : Nat)] W (AtPost [] 0 W) := fun W hW =>
    at_post [] A3 c3 ys W B 0 (h5.kept (Kept.of_below (X := fun b => b < w.heap.size) hW fun _ h => h) hB fun _ h => h) (h4.kept (Kept.of_below (X := fun b => b < w.heap.size) hW fun _ h => h) hB fun _ h => h) (fun b hb => Nat.lt_of_lt_of_le (hB b hb) hW.size) (fun t ht => by cases ht)
  have hnew := fun A n c v W hv => newArray_any A n c v W hv
  clear h1 h2 h3 h4 h5
  go_enter Tryz.func43, Tryz.ntmps43
  go_wp2_with fail
  have hx0 : Blk ((w.alloc (.cells #[.int .i64 5, .string nm, .string tx, .slice A1 0 c1, .slice A2 l.length c2, .slice A3 0 c3] 25)).drew) w.heap.size 25 #[.int .i64 5, .string nm, .string tx, .slice A1 0 c1, .slice A2 l.length c2, .slice A3 0 c3] := (Blk.new w _ _).drew
  have hb0 : Below w.heap.size w ((w.alloc (.cells #[.int .i64 5, .string nm, .string tx, .slice A1 0 c1, .slice A2 l.length c2, .slice A3 0 c3] 25)).drew) := ((Below.refl _ _).alloc (Nat.le_refl _) _).drew
  go_region_held3 (fun w' => w'.cell? ⟨w.heap.size, 4, none⟩ = some (.slice A2 l.length c2) ∧ w'.cell? ⟨w.heap.size, 5, none⟩ = some (.slice A3 0 c3))
    (first | go_keep | exact ⟨hx1.cell 4, hx1.cell 5⟩ | exact ⟨hx2.cell 4, hx2.cell 5⟩)
    (first
      | (go_at_call 54; refine (hall _ hb0).mono ?_; rintro e w1 ⟨v, zs, rfl, hp⟩; obtain ⟨Av, cv, rfl, hrv, hcv⟩ := rowAt.of_own' (B := fun b => w.heap.size < b ∧ b < w1.heap.size) hp.own (fun g hg hg' _ => ⟨by simp at hg; omega, hg'⟩); have hx1 := hx0.below hp.below hx0.lt; have hb1 := hb0.trans (hp.below.mono hb0.size))
      | (go_at_call 67; refine (hat _ hb1).mono ?_; rintro e w2 ⟨u, rfl, hb2, hu, hur⟩; have hx2 := hx1.below hb2 hx1.lt)
      | (go_at_call 66; refine (hnew _ _ _ _ _ hu).mono ?_; rintro e w3 ⟨rfl, rfl⟩))
  clear hx0 hx1 hx2 hall hat hnew il
  have s1 := hp.below.size
  have s2 := hb2.size
  have HP := Lib.hid hp
  have HR := Lib.hid hrv
  have HU := Lib.hid hur
  simp at s1
  clear hp hrv hur
  go_wp2
  go_ret
  have hp := HP.out
  have hrv := HR.out
  have K2 : Kept (fun b => b < w1.heap.size) w1 w2 := Kept.of_below hb2 fun _ h => h
  have K3 : ∀ o, Kept (fun b => b < w2.heap.size) w2 (w2.alloc o) := fun o => (Kept.refl _ _).alloc (fun _ h => h) o
  have K13 : ∀ o, Kept (fun b => b < w1.heap.size) w1 (w2.alloc o) := fun o => K2.trans ((K3 o).mono fun b hb => by omega)
  obtain rfl : u = .nilIface := by
    rcases HU.out with ⟨_, rfl⟩ | ⟨h, _⟩
    · rfl
    · exact absurd h (by simp)
  refine ⟨w2.heap.size, Av, cv, zs, rfl, by omega, Blk.new _ _ _, ?_, ?_, (hb1.trans (hb2.mono (by omega))).alloc (by omega) _⟩
  · exact hrv.kept (K13 _) (fun b hb => hb.2) fun b hb => ⟨by omega, by simp; omega⟩
  · exact hp.rep.keep (fun b hb => ⟨by simp at hb; omega, by simp; omega⟩) (K13 _) fun b hb => hb.2.1

set_option maxHeartbeats 2000000 in
set_option maxRecDepth 100000 in
theorem built_set0 (t : Tr) (ht : BuiltOk t) (hk : t.kind = 0) (w : World) (B : Nat → Prop) (cs : List Value) (hr : repI w B (.mk 7 [] [t] []) cs) (hB : ∀ b, B b → b < w.heap.size) :
    Calls Tryz.prog 43 #[.agg cs.toArray] w (Set0Post w) := by
  simp only [repI] at hr
  obtain ⟨nm, tx, A1, c1, A2, c2, A3, c3, xs, ys, rfl, _, h1, h2, h3, h4, h5⟩ := hr
  have hat : ∀ W, Below w.heap.size w W → Calls Tryz.prog 67 #[.slice A2 ([t] : List Tr).length c2, .int .i64 (0 : Nat)] W (AtPost [t] 0 W) := fun W hW =>
    at_post [t] A2 c2 xs W B 0 (h3.kept (Kept.of_below (X := fun b => b < w.heap.size) hW fun _ h => h) hB fun _ h => h) (h2.kept (Kept.of_below (X := fun b => b < w.heap.size) hW fun _ h => h) hB fun _ h => h) (fun b hb => Nat.lt_of_lt_of_le (hB b hb) hW.size) (fun u hu => by simp at hu; subst hu; exact ht)
  have HK := Lib.hid hk
  clear h1 h2 h3 h4 h5 ht hk
  have hb0 : Below w.heap.size w (w.alloc (.cells #[.int .i64 7, .string nm, .string tx, .slice A1 ([] : List Ky).length c1, .slice A2 ([t] : List Tr).length c2, .slice A3 ([] : List Tr).length c3] 25)) := (Below.refl _ _).alloc (Nat.le_refl _) _
  have hc := hat _ hb0
  clear hat
  go_enter Tryz.func43, Tryz.ntmps43
  go_wp2_with fail
  refine hc.mono ?_
  rintro e w1 ⟨u, rfl, hb1, hu, hur⟩
  have HU := Lib.hid hur
  have hn := newSet_any u w1 hu
  have hs0 := hb0.size
  have hs1 := hb1.size
  simp at hs1
  have hbw := hb0.trans (hb1.mono hs0)
  clear hc hur hb0
  go_wp2_with fail
  refine hn.mono ?_
  rintro e w2 ⟨rfl, rfl⟩
  clear hn
  go_wp2
  go_ret
  obtain rfl : u = .nilIface := by
    rcases HU.out with ⟨h, _⟩ | ⟨h, hu⟩
    · simp at h
    · rcases hu with ⟨_, rfl⟩ | hu
      · rfl
      · exact absurd hu.kind_rng.1 (by rw [norm_kind]; simp only [List.getElem_cons_zero]; rw [HK.out]; omega)
  exact ⟨w1.heap.size, rfl, by omega, Blk.new _ _ _, hbw.alloc (by omega) _⟩


/-- An array type is not known if one of its items is not. -/
theorem implNil_arr (l1 l2 : List Tr) (cs : List Value) (w : World) (B : Nat → Prop) (hr : repI w B (.mk 5 [] (l1 ++ .mk 0 [] [] [] :: l2) []) cs) (hB : ∀ b, B b → b < w.heap.size) (h1 : ∀ t ∈ l1, Nice t) (h2 : ∀ t ∈ l2, Nice t) (hlen : l1.length + l2.length ≤ 1000000) :
    Calls Tryz.prog 26 #[.agg cs.toArray] w (BoolAt true w) := by
  obtain ⟨nm, tx, A1, c1, A2, c2, A3, c3, rfl⟩ := hr.shape
  have hll : (l1 ++ .mk 0 [] [] [] :: l2).length ≤ 1048576 := by simp; omega
  refine implNil_of _ _ _ _ _ _ _ _ _ _ _ _ _ _ fun W hW => (built_arr0 (l1 ++ .mk 0 [] [] [] :: l2) hll (fun t ht => ?_) W B _ (hr.kept (Kept.of_below (X := fun b => b < w.heap.size) hW fun _ h => h) hB fun _ h => h) fun b hb => Nat.lt_of_lt_of_le (hB b hb) hW.size).mono ?_
  · rcases List.mem_append.1 ht with ht | ht
    · exact built_any t (h1 t ht).1 (h1 t ht).2
    · rcases List.mem_cons.1 ht with rfl | ht
      · exact built_none [] [] []
      · exact built_any t (h2 t ht).1 (h2 t ht).2
  rintro e W' ⟨g, A, c, zs, rfl, hg, hb, hrow, hreps, hB'⟩
  refine ⟨_, rfl, hB', .inr ⟨_, _, rfl⟩, ?_⟩
  have hzl := hreps.length
  rw [norms_length] at hzl
  have hk1 : l1.length < zs.length := by rw [hzl]; simp
  have at' : ∀ i (hi : i < zs.length), ∃ hl : i < (norms (l1 ++ .mk 0 [] [] [] :: l2)).length, repO W' (fun b => W.heap.size ≤ b ∧ b < W'.heap.size) (norms (l1 ++ .mk 0 [] [] [] :: l2))[i] zs[i] := fun i hi => by
    have hl : i < (norms (l1 ++ .mk 0 [] [] [] :: l2)).length := by rw [norms_length]; omega
    obtain ⟨x, e1, e2⟩ := hreps.get i hl
    rw [List.getElem?_eq_getElem hi] at e1
    exact ⟨hl, by rw [Option.some.inj e1]; exact e2⟩
  have hF : ∀ b, W.heap.size ≤ b ∧ b < W'.heap.size → NilX W' (.map none) b := fun b hb => ⟨hb.2, by simp⟩
  have hres := nilRec_arr g A c l1.length .nilIface zs (fun b => W.heap.size ≤ b ∧ b < W'.heap.size) (.map none) W' (.inl rfl) (by rw [hzl]; exact hb) ⟨hb.lt, by simp⟩ hrow hF (fun x hx => by
      obtain ⟨i, hi, rfl⟩ := List.getElem_of_mem hx
      exact (at' i hi).2.ifc) (by omega) (by omega) (fun i hi hik s cs W1 hW1 => ?_) (fun hk s cs W1 hW1 => ?_) (.inl rfl) (.inl rfl)
  · rw [decide_eq_true hk1] at hres
    exact hres
  · obtain ⟨hl, hr'⟩ := at' i hi
    have e1 : (norms (l1 ++ .mk 0 [] [] [] :: l2))[i] = norm (l1[i]'hik) := by
      simp only [norms_map, List.getElem_map]
      rw [List.getElem_append_left hik]
    rw [e1] at hr'
    have hn := h1 _ (List.getElem_mem hik)
    have hrp := hr'.rep hn.kind
    exact nilRec_any _ W1 _ s _ hW1.seen (hrp.keep (fun _ h => h) hW1.kept hF) (fun b hb => ⟨Nat.lt_of_lt_of_le (hF b hb).1 hW1.kept.size, fun e => (hF b hb).2 (hW1.old b (hF b hb).1 e)⟩) hn.norm_size'
  · obtain ⟨hl, hr'⟩ := at' l1.length hk
    have e1 : (norms (l1 ++ .mk 0 [] [] [] :: l2))[l1.length] = norm (.mk 0 [] [] []) := by
      simp only [norms_map, List.getElem_map]
      rw [List.getElem_append_right (Nat.le_refl _)]
      simp
    rw [e1] at hr'
    rcases hr' with ⟨_, h⟩ | h
    · rw [h]
      exact nilRec_nil s W1 hW1.seen
    · exact absurd h.kind_rng.1 (by rw [norm_kind]; simp [Tr.kind])

/-- A set type is not known if its elements' type is not. -/
theorem implNil_set (cs : List Value) (w : World) (B : Nat → Prop) (hr : repI w B (.mk 7 [] [.mk 0 [] [] []] []) cs) (hB : ∀ b, B b → b < w.heap.size) :
    Calls Tryz.prog 26 #[.agg cs.toArray] w (BoolAt true w) := by
  obtain ⟨nm, tx, A1, c1, A2, c2, A3, c3, rfl⟩ := hr.shape
  refine implNil_of _ _ _ _ _ _ _ _ _ _ _ _ _ _ fun W hW => (built_set0 (.mk 0 [] [] []) (built_none [] [] []) rfl W B _ (hr.kept (Kept.of_below (X := fun b => b < w.heap.size) hW fun _ h => h) hB fun _ h => h) fun b hb => Nat.lt_of_lt_of_le (hB b hb) hW.size).mono ?_
  rintro e W' ⟨g, rfl, hg, hb, hB'⟩
  exact ⟨_, rfl, hB', .inr ⟨_, _, rfl⟩, nilRec_set g _ _ W' true (.inl rfl) hb ⟨hb.lt, by simp⟩ (.inl rfl) fun W1 hW1 => nilRec_nil _ _ hW1.seen⟩

end Go.Proofs.YtpmfjbmfjfhghaaGreat
