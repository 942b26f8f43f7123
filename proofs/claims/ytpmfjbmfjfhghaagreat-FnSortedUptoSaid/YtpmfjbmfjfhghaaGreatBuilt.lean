/-
  'impl.built' at proper types.
-/
import Derived.Test.YtpmfjbmfjfhghaaGreatAll
import Derived.Deep.RegionHeld3
namespace Go.Proofs.YtpmfjbmfjfhghaaGreat
open Go.RowKit

def AtPost (l : List Tr) (i : Nat) (w : World) (e : Ending) (w' : World) : Prop :=
  ∃ v, e = .returned v ∧ Below w.heap.size w w' ∧ Ifc v ∧ ((l.length ≤ i ∧ v = .nilIface) ∨ ∃ h : i < l.length, repO w' (fun b => w.heap.size ≤ b ∧ b < w'.heap.size) (norm l[i]) v)

theorem at_post (l : List Tr) (A : Option Addr) (c : Nat) (xs : List Value) (w : World) (B : Nat → Prop) (i : Nat) (hr : repIs w B l xs) (hrow : rowAt w B A xs) (hB : ∀ b, B b → b < w.heap.size) (hok : ∀ t ∈ l, BuiltOk t) :
    Calls Tryz.prog 67 #[.slice A l.length c, .int .i64 i] w (AtPost l i w) := by
  by_cases h : i < l.length
  · refine (at_any l A c xs w B i hr hrow hB hok h).mono ?_
    rintro e w' ⟨v, rfl, hv, hb⟩
    exact ⟨v, rfl, hb, hv.ifc, .inr ⟨h, hv⟩⟩
  · refine (at_none A l.length c w i (by omega)).mono ?_
    rintro e w' ⟨rfl, rfl⟩
    exact ⟨_, rfl, Below.refl _ _, .inl rfl, .inl ⟨by omega, rfl⟩⟩

theorem PL.kept {w0 wr w' : World} {l : List Tr} {v : Value} {j : Nat} {ys : List Value} (h : PL w0 l v j ys wr) (hb : Below wr.heap.size wr w') : PL w0 l v j ys w' :=
  ⟨h.below.trans (hb.mono h.below.size), own_below h.own hb (Nat.le_refl _), h.rep.keep (X := fun b => b < wr.heap.size) (fun _ hb' => ⟨hb'.1, Nat.lt_of_lt_of_le hb'.2.1 hb.size, hb'.2.2⟩) (Kept.of_below hb fun _ h => h) fun _ hb => hb.2.1⟩

set_option maxHeartbeats 1000000 in
set_option maxRecDepth 100000 in
/-- The kinds without parts, and none. -/
theorem built_leaf (k : Int) (ks : List Ky) (l m : List Tr) (hk : k = 0 ∨ ((k = 1 ∨ k = 2 ∨ k = 3 ∨ k = 4) ∧ ks = [] ∧ l = [] ∧ m = [])) : BuiltOk (.mk k ks l m) := by
  intro w B cs hr hB
  simp only [repI] at hr
  obtain ⟨nm, tx, A1, c1, A2, c2, A3, c3, xs, ys, rfl, _⟩ := hr
  have n1 := fun W => newNull_any W
  have n2 := fun W => newBoolean_any W
  have n3 := fun W => newNumber_any W
  have n4 := fun W => newString_any W
  rcases hk with rfl | ⟨rfl | rfl | rfl | rfl, rfl, rfl, rfl⟩
  · go_enter Tryz.func43, Tryz.ntmps43
    go_wp2
    go_ret
    exact ⟨_, rfl, .inl ⟨by rw [norm_kind]; rfl, rfl⟩, (Below.refl _ _).alloc (Nat.le_refl _) _⟩
  all_goals
    go_enter Tryz.func43, Tryz.ntmps43
    go_wp2_with (first | (go_at_call 62; refine (n1 _).mono ?_; rintro e w' ⟨rfl, hb⟩) | (go_at_call 63; refine (n2 _).mono ?_; rintro e w' ⟨rfl, hb⟩) | (go_at_call 64; refine (n3 _).mono ?_; rintro e w' ⟨rfl, hb⟩) | (go_at_call 65; refine (n4 _).mono ?_; rintro e w' ⟨rfl, hb⟩))
    go_ret
    exact ⟨_, rfl, .inr (by simp [norm, norms, repP]), ((Below.refl _ _).alloc (Nat.le_refl _) _).trans (hb.mono (by simp))⟩

set_option maxHeartbeats 2000000 in
set_option maxRecDepth 100000 in
theorem built_array (l m : List Tr) (hm : m.length ≤ 1) (hl : l.length ≤ 1048576) (il : ∀ t ∈ l, BuiltOk t ∧ t.kind ≠ 0) (im : ∀ t ∈ m, BuiltOk t ∧ t.kind ≠ 0) : BuiltOk (.mk 5 [] l m) := by
  intro w B cs hr hB
  simp only [repI] at hr
  obtain ⟨nm, tx, A1, c1, A2, c2, A3, c3, xs, ys, rfl, _, h1, h2, h3, h4, h5⟩ := hr
  have hall : ∀ W, Below w.heap.size w W → Calls Tryz.prog 54 #[.slice A2 l.length c2] W fun e w' => ∃ v ys, e = .returned v ∧ PL W (norms l) v l.length ys w' := fun W hW =>
    all_any l A2 c2 xs W B (h3.kept (Kept.of_below (X := fun b => b < w.heap.size) hW fun _ h => h) hB fun _ h => h) (h2.kept (Kept.of_below (X := fun b => b < w.heap.size) hW fun _ h => h) hB fun _ h => h) (fun b hb => Nat.lt_of_lt_of_le (hB b hb) hW.size) (fun t ht => (il t ht).1) hl
  have hat : ∀ W, Below w.heap.size w W → Calls Tryz.prog 67 #[.slice A3 m.length c3, .int .i64 (0 : Nat)] W (AtPost m 0 W) := fun W hW =>
    at_post m A3 c3 ys W B 0 (h5.kept (Kept.of_below (X := fun b => b < w.heap.size) hW fun _ h => h) hB fun _ h => h) (h4.kept (Kept.of_below (X := fun b => b < w.heap.size) hW fun _ h => h) hB fun _ h => h) (fun b hb => Nat.lt_of_lt_of_le (hB b hb) hW.size) (fun t ht => (im t ht).1)
  have hnew := fun A n c v W hv => newArray_any A n c v W hv
  have hkl : ∀ t ∈ l, t.kind ≠ 0 := fun t ht => (il t ht).2
  have hkm : ∀ t ∈ m, t.kind ≠ 0 := fun t ht => (im t ht).2
  clear h1 h2 h3 h4 h5
  go_enter Tryz.func43, Tryz.ntmps43
  go_wp2_with fail
  have hx0 : Blk ((w.alloc (.cells #[.int .i64 5, .string nm, .string tx, .slice A1 ([] : List Ky).length c1, .slice A2 l.length c2, .slice A3 m.length c3] 25)).drew) w.heap.size 25 #[.int .i64 5, .string nm, .string tx, .slice A1 ([] : List Ky).length c1, .slice A2 l.length c2, .slice A3 m.length c3] := (Blk.new w _ _).drew
  have hb0 : Below w.heap.size w ((w.alloc (.cells #[.int .i64 5, .string nm, .string tx, .slice A1 ([] : List Ky).length c1, .slice A2 l.length c2, .slice A3 m.length c3] 25)).drew) := ((Below.refl _ _).alloc (Nat.le_refl _) _).drew
  go_region_held3 (fun w' => w'.cell? ⟨w.heap.size, 4, none⟩ = some (.slice A2 l.length c2) ∧ w'.cell? ⟨w.heap.size, 5, none⟩ = some (.slice A3 m.length c3))
    (first | go_keep | exact ⟨by simpa using hx1.cell 4, by simpa using hx1.cell 5⟩ | exact ⟨by simpa using hx2.cell 4, by simpa using hx2.cell 5⟩)
    (first
      | (go_at_call 54; refine (hall _ hb0).mono ?_; rintro e w1 ⟨v, zs, rfl, hp⟩; obtain ⟨Av, cv, rfl, hrv, hcv⟩ := rowAt.of_own' (B := fun b => w.heap.size < b ∧ b < w1.heap.size) hp.own (fun g hg hg' _ => ⟨by simp at hg; omega, hg'⟩); have hx1 := hx0.below hp.below hx0.lt; have hb1 := hb0.trans (hp.below.mono hb0.size))
      | (go_at_call 67; refine (hat _ hb1).mono ?_; rintro e w2 ⟨u, rfl, hb2, hu, hur⟩; have hx2 := hx1.below hb2 hx1.lt)
      | (go_at_call 66; refine (hnew _ _ _ _ _ hu).mono ?_; rintro e w3 ⟨rfl, rfl⟩))
  clear hx0 hx1 hx2 hall hat hnew il im
  have s1 := hp.below.size
  have s2 := hb2.size
  have HP := Lib.hid hp
  have HR := Lib.hid hrv
  have HU := Lib.hid hur
  simp at s1
  clear hp hrv hur
  go_wp2
  go_ret
  have hp := HP.out
  have hrv := HR.out
  have K2 : Kept (fun b => b < w1.heap.size) w1 w2 := Kept.of_below hb2 fun _ h => h
  have K3 : ∀ o, Kept (fun b => b < w2.heap.size) w2 (w2.alloc o) := fun o => (Kept.refl _ _).alloc (fun _ h => h) o
  have K13 : ∀ o, Kept (fun b => b < w1.heap.size) w1 (w2.alloc o) := fun o => K2.trans ((K3 o).mono fun b hb => by omega)
  refine ⟨_, rfl, .inr ?_, (hb1.trans (hb2.mono (by omega))).alloc (by omega) _⟩
  simp only [norm]
  rw [if_neg (by omega), if_neg (by omega)]
  simp only [repP]
  refine .inr (.inl ⟨by simp, by simp, w2.heap.size, Av, cv, u, zs, rfl, ⟨by omega, by simp⟩, ?_, by rw [norms_length]; exact hcv, ?_, ?_, ?_⟩)
  · rw [norms_length]; exact Blk.new _ _ _
  · exact hrv.kept (K13 _) (fun b hb => hb.2) fun b hb => ⟨by omega, by simp; omega⟩
  · refine (hp.rep.reps ?_).keep (fun b hb => ⟨by simp at hb; omega, by simp; omega⟩) (K13 _) fun b hb => hb.2.1
    intro t ht
    rw [norms_map] at ht
    obtain ⟨t', ht', rfl⟩ := List.mem_map.1 ht
    rw [norm_kind]
    exact hkl t' ht'
  · rcases HU.out with ⟨hm0, rfl⟩ | ⟨hm0, hu⟩
    · obtain rfl : m = [] := List.eq_nil_of_length_eq_zero (by omega)
      exact .inl ⟨rfl, rfl⟩
    · match m, hm, hm0, hkm, hu with
      | [t], _, _, hkm, hu =>
        refine .inr ⟨rfl, ?_⟩
        simp only [norms, repPs]
        refine ⟨u, [], rfl, ?_, rfl⟩
        exact (hu.rep (by rw [norm_kind]; exact hkm _ (by simp))).keep (fun b hb => ⟨by omega, by simp; omega⟩) (K3 _) fun b hb => hb.2

set_option maxHeartbeats 2000000 in
set_option maxRecDepth 100000 in
theorem built_set (l : List Tr) (hl1 : l.length = 1) (il : ∀ t ∈ l, BuiltOk t ∧ t.kind ≠ 0) : BuiltOk (.mk 7 [] l []) := by
  intro w B cs hr hB
  simp only [repI] at hr
  obtain ⟨nm, tx, A1, c1, A2, c2, A3, c3, xs, ys, rfl, _, h1, h2, h3, h4, h5⟩ := hr
  have hat : ∀ W, Below w.heap.size w W → Calls Tryz.prog 67 #[.slice A2 l.length c2, .int .i64 (0 : Nat)] W (AtPost l 0 W) := fun W hW =>
    at_post l A2 c2 xs W B 0 (h3.kept (Kept.of_below (X := fun b => b < w.heap.size) hW fun _ h => h) hB fun _ h => h) (h2.kept (Kept.of_below (X := fun b => b < w.heap.size) hW fun _ h => h) hB fun _ h => h) (fun b hb => Nat.lt_of_lt_of_le (hB b hb) hW.size) (fun t ht => (il t ht).1)
  have hkl : ∀ t ∈ l, t.kind ≠ 0 := fun t ht => (il t ht).2
  clear h1 h2 h3 h4 h5 il
  have hb0 : Below w.heap.size w (w.alloc (.cells #[.int .i64 7, .string nm, .string tx, .slice A1 ([] : List Ky).length c1, .slice A2 l.length c2, .slice A3 ([] : List Tr).length c3] 25)) := (Below.refl _ _).alloc (Nat.le_refl _) _
  have hc := hat _ hb0
  have HL := Lib.hid hl1
  clear hat hl1
  go_enter Tryz.func43, Tryz.ntmps43
  go_wp2_with fail
  refine hc.mono ?_
  rintro e w1 ⟨u, rfl, hb1, hu, hur⟩
  have HU := Lib.hid hur
  have hn := newSet_any u w1 hu
  have hs0 := hb0.size
  have hs1 := hb1.size
  simp at hs1
  have hbw := hb0.trans (hb1.mono hs0)
  clear hc hur hb0
  go_wp2_with fail
  refine hn.mono ?_
  rintro e w2 ⟨rfl, rfl⟩
  clear hn
  go_wp2
  go_ret
  refine ⟨_, rfl, .inr ?_, hbw.alloc (by omega) _⟩
  have K3 : ∀ o, Kept (fun b => b < w1.heap.size) w1 (w1.alloc o) := fun o => (Kept.refl _ _).alloc (fun _ h => h) o
  simp only [norm]
  rw [if_neg (by omega), if_neg (by omega)]
  simp only [repP]
  refine .inr (.inr (.inr (.inl ⟨by simp, by simp, by simp [norms], w1.heap.size, u, rfl, ⟨by omega, by simp⟩, Blk.new _ _ _, ?_⟩)))
  rcases HU.out with ⟨hm0, _⟩ | ⟨hm0, hu⟩
  · have := HL.out; omega
  · have hl1 := HL.out
    match l, hl1, hm0, hkl, hu with
    | [t], _, _, hkl, hu =>
      simp only [norms, repPs]
      refine ⟨u, [], rfl, ?_, rfl⟩
      exact (hu.rep (by rw [norm_kind]; exact hkl _ (by simp))).keep (fun b hb => ⟨by have := hb.1; simp at this; omega, by have := hb.2; simp; omega⟩) (K3 _) fun b hb => hb.2

set_option maxHeartbeats 2000000 in
set_option maxRecDepth 100000 in
theorem built_any8 (l : List Tr) (hl : l.length ≤ 1048576) (il : ∀ t ∈ l, BuiltOk t ∧ t.kind ≠ 0) (hg : ∀ t ∈ l, t.good ∧ t.size ≤ 1073741824) : BuiltOk (.mk 8 [] l []) := by
  intro w B cs hr hB
  simp only [repI] at hr
  obtain ⟨nm, tx, A1, c1, A2, c2, A3, c3, xs, ys, rfl, _, h1, h2, h3, h4, h5⟩ := hr
  have hall : ∀ W, Below w.heap.size w W → Calls Tryz.prog 54 #[.slice A2 l.length c2] W fun e w' => ∃ v ys, e = .returned v ∧ PL W (norms l) v l.length ys w' := fun W hW =>
    all_any l A2 c2 xs W B (h3.kept (Kept.of_below (X := fun b => b < w.heap.size) hW fun _ h => h) hB fun _ h => h) (h2.kept (Kept.of_below (X := fun b => b < w.heap.size) hW fun _ h => h) hB fun _ h => h) (fun b hb => Nat.lt_of_lt_of_le (hB b hb) hW.size) (fun t ht => (il t ht).1) hl
  have hkl : ∀ t ∈ norms l, t.kind ≠ 0 := fun t ht => by
    rw [norms_map] at ht
    obtain ⟨t', ht', rfl⟩ := List.mem_map.1 ht
    rw [norm_kind]
    exact (il t' ht').2
  have hgn : ∀ t ∈ norms l, t.good ∧ t.size ≤ 1073741824 := fun t ht => by
    rw [norms_map] at ht
    obtain ⟨t', ht', rfl⟩ := List.mem_map.1 ht
    exact ⟨(norm_good t' (hg t' ht').1).1, by rw [(norm_good t' (hg t' ht').1).2]; exact (hg t' ht').2⟩
  clear h1 h2 h3 h4 h5 il
  have hb0 : Below w.heap.size w (w.alloc (.cells #[.int .i64 8, .string nm, .string tx, .slice A1 ([] : List Ky).length c1, .slice A2 l.length c2, .slice A3 ([] : List Tr).length c3] 25)) := (Below.refl _ _).alloc (Nat.le_refl _) _
  have hc := hall _ hb0
  clear hall
  go_enter Tryz.func43, Tryz.ntmps43
  go_wp2_with fail
  refine hc.mono ?_
  rintro e w1 ⟨v, zs, rfl, hp⟩
  have hs0 := hb0.size
  have hs1 := hp.below.size
  have hbw := hb0.trans (hp.below.mono hs0)
  simp at hs1
  obtain ⟨Av, cv, rfl, hrv, hcv⟩ := rowAt.of_own' (B := fun b => w.heap.size ≤ b ∧ b < w1.heap.size) hp.own (fun g hg hg' _ => ⟨by simp at hg; omega, hg'⟩)
  have hn := newAny_any (norms l) zs Av cv (fun b => w.heap.size ≤ b ∧ b < w1.heap.size) w1 ((hp.rep.reps hkl).keep (X := fun b => b < w1.heap.size) (fun b hb => ⟨by have := hb.1; simp at this; omega, hb.2.1⟩) (Kept.refl _ _) fun b hb => hb.2.1) hrv (fun b hb => hb.2) hgn (by rw [norms_length]; exact hl)
  rw [norms_length] at hn
  clear hc hb0 hp hrv
  go_wp2_with fail
  refine hn.mono ?_
  rintro e w2 ⟨ys, rfl, hb2, hs2, hr2, hp2⟩
  clear hn
  go_wp2
  go_ret
  refine ⟨.iface 90 (.slice (some ⟨w1.heap.size, 0, none⟩) l.length l.length), rfl, .inr ?_, hbw.trans (hb2.mono (by omega))⟩
  simp only [norm]
  rw [if_pos trivial]
  simp only [repP]
  have e1 : (sortT (norms l)).length = l.length := by rw [sortT, isort_length, norms_length]
  refine .inr (.inr (.inr (.inr ⟨by simp, by simp, by simp [norms], some ⟨w1.heap.size, 0, none⟩, l.length, ys, by rw [e1], by rw [e1]; exact Nat.le_refl _, ?_, ?_⟩)))
  · exact hr2.kept (X := fun _ => True) (Kept.refl _ _) (fun _ _ => trivial) fun b hb => by omega
  · exact hp2.keep (X := fun _ => True) (fun b hb => by omega) (Kept.refl _ _) fun _ _ => trivial

end Go.Proofs.YtpmfjbmfjfhghaaGreat
