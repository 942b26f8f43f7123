/-
  'impl.plain': a type as plain data (2): null, boolean, number, string, set and any types.
-/
import Derived.Test.YtpmfjbmfjfhghaaGreatPl0
namespace Go.Proofs.YtpmfjbmfjfhghaaGreat
open Go.RowKit

abbrev zeroT : Array Value := #[.int .i64 0, .string ⟨#[]⟩, .string ⟨#[]⟩, .slice none 0 0, .slice none 0 0, .slice none 0 0]

/-- Six cells. -/
abbrev six (k : Int) (v1 v2 v3 : Value) : List Value := [.int .i64 k, .string ⟨#[]⟩, .string ⟨#[]⟩, v1, v2, v3]

theorem Blk.newAt {w : World} {g : Nat} (T : TypeId) (cs : List Value) (hg : g = w.heap.size) : Blk (w.alloc (.cells cs.toArray T)) g T cs.toArray := by subst hg; exact Blk.new _ _ _

theorem place6 {wr : World} {g : Nat} {T : TypeId} {x0 x1 x2 x3 x4 x5 : Value} (h : Blk wr g T #[x0, x1, x2, x3, x4, x5]) (y0 y1 y2 y3 y4 y5 : Value) :
    Blk ((((((wr.setCell ⟨g, 0, none⟩ y0).setCell ⟨g, 1, none⟩ y1).setCell ⟨g, 2, none⟩ y2).setCell ⟨g, 3, none⟩ y3).setCell ⟨g, 4, none⟩ y4).setCell ⟨g, 5, none⟩ y5) g T #[y0, y1, y2, y3, y4, y5] ∧
    Kept (fun b => b ≠ g) wr ((((((wr.setCell ⟨g, 0, none⟩ y0).setCell ⟨g, 1, none⟩ y1).setCell ⟨g, 2, none⟩ y2).setCell ⟨g, 3, none⟩ y3).setCell ⟨g, 4, none⟩ y4).setCell ⟨g, 5, none⟩ y5) :=
  ⟨by simpa using (((((h.set_ 0 y0).set_ 1 y1).set_ 2 y2).set_ 3 y3).set_ 4 y4).set_ 5 y5, ((((((Kept.refl _ _).setCell (by simp) _).setCell (by simp) _).setCell (by simp) _).setCell (by simp) _).setCell (by simp) _).setCell (by simp) _⟩

theorem plain_post {w wf : World} {k : Int} {ks : List Ky} {l m : List Tr} {A1 A2 A3 : Option Addr} {c1 c2 c3 : Nat} {xs ys : List Value} (hb : Below w.heap.size w wf) (h1 : ks.length ≤ c1) (h2 : l.length ≤ c2) (h3 : m.length ≤ c3)
    (r1 : rowAt wf (fun b => w.heap.size ≤ b ∧ b < wf.heap.size) A1 (keyCells ks)) (r2 : rowAt wf (fun b => w.heap.size ≤ b ∧ b < wf.heap.size) A2 xs) (hl : repIs wf (fun b => w.heap.size ≤ b ∧ b < wf.heap.size) l xs) (r3 : rowAt wf (fun b => w.heap.size ≤ b ∧ b < wf.heap.size) A3 ys) (hm : repIs wf (fun b => w.heap.size ≤ b ∧ b < wf.heap.size) m ys) :
    PlainPost (.mk k ks l m) w (.returned (.agg #[.int .i64 k, .string ⟨#[]⟩, .string ⟨#[]⟩, .slice A1 ks.length c1, .slice A2 l.length c2, .slice A3 m.length c3])) wf :=
  ⟨six k _ _ _, rfl, by simp only [repI]; exact ⟨_, _, A1, c1, A2, c2, A3, c3, xs, ys, rfl, ⟨by decide, by decide, h1, h2, h3⟩, r1, r2, hl, r3, hm⟩, hb⟩

set_option maxRecDepth 100000 in
theorem plain_leaf (k : Int) (v : Value) (w : World) (h : (k = 1 ∧ v = .iface 94 (.agg #[])) ∨ (k = 2 ∧ v = .iface 96 (.agg #[])) ∨ (k = 3 ∧ v = .iface 98 (.agg #[])) ∨ (k = 4 ∧ v = .iface 100 (.agg #[]))) :
    Calls Tryz.prog 47 #[v] w (PlainPost (.mk k [] [] []) w) := by
  rcases h with ⟨rfl, rfl⟩ | ⟨rfl, rfl⟩ | ⟨rfl, rfl⟩ | ⟨rfl, rfl⟩
  all_goals
    go_enter Tryz.func47, Tryz.ntmps47
    go_wp2
    refine bodyPost_ret (v := .agg #[.int .i64 _, .string ⟨#[]⟩, .string ⟨#[]⟩, .slice none 0 0, .slice none 0 0, .slice none 0 0]) (by simp [results, Tryz.results47, go_sem]; rfl) rfl ?_
    exact plain_post (((Below.refl _ _).alloc (Nat.le_refl _) _).alloc (by simp) _) (Nat.le_refl _) (Nat.le_refl _) (Nat.le_refl _) rowAt.nil rowAt.nil (by simp only [repIs]) rowAt.nil (by simp only [repIs])

set_option maxRecDepth 100000 in
theorem plain_any8 (l : List Tr) (A : Option Addr) (c : Nat) (xs : List Value) (w : World) (F : Nat → Prop) (hr : repPs w F l xs) (hrow : rowAt w F A xs) (hF : ∀ b, F b → b < w.heap.size) (hok : ∀ i (hi : i < l.length) x, xs[i]? = some x → PlainOk l[i] x w) (hlen : l.length ≤ 1048576) :
    Calls Tryz.prog 47 #[.iface 90 (.slice A l.length c)] w (PlainPost (.mk 8 [] l []) w) := by
  have hp : ∀ W, Below w.heap.size w W → Calls Tryz.prog 56 #[.slice A l.length c] W fun e w' => ∃ v ys, e = .returned v ∧ IL W l v l.length ys w' := fun W hW =>
    plains_any l A c xs W F (hr.keep (fun _ h => h) (Kept.of_below (X := fun b => b < w.heap.size) hW fun _ h => h) hF) (hrow.kept (Kept.of_below (X := fun b => b < w.heap.size) hW fun _ h => h) hF fun _ h => h) (fun b hb => Nat.lt_of_lt_of_le (hF b hb) hW.size) (fun i hi x hx W' hW' => hok i hi x hx W' (hW.trans (hW'.mono hW.size))) hlen
  clear hr hrow hok
  go_enter Tryz.func47, Tryz.ntmps47
  go_wp2_with fail
  have h0 : Below w.heap.size w (w.alloc (.cells zeroT 25)) := (Below.refl _ _).alloc (Nat.le_refl _) _
  have hb0 : Blk (w.alloc (.cells zeroT 25)) w.heap.size 25 zeroT := Blk.new _ _ _
  refine (hp _ h0).mono ?_
  rintro e w1 ⟨v, ys, rfl, hil⟩
  obtain ⟨A2, c2, rfl, hrow, hcap⟩ := rowAt.of_own' (B := fun b => w.heap.size + 1 ≤ b ∧ b < w1.heap.size) hil.own fun g hg hg' _ => ⟨by simpa using hg, hg'⟩
  have hb1 := hb0.below hil.below (by simp)
  have hrep := repIs.kept hil.rep (Kept.refl (fun _ => True) _) (fun _ _ => trivial) (B' := fun b => w.heap.size + 1 ≤ b ∧ b < w1.heap.size) (fun b hb => ⟨by simpa using hb.1, hb.2.1⟩)
  have hlow := h0.trans (hil.below.mono (by simp))
  have ql := hb1.lt
  have f0 := hb1.frozen 0
  have f1 := hb1.frozen 1
  have f2 := hb1.frozen 2
  have f3 := hb1.frozen 3
  have f4 := hb1.frozen 4
  have f5 := hb1.frozen 5
  have q0 := hb1.cell 0
  have q1 := hb1.cell 1
  have q2 := hb1.cell 2
  have q3 := hb1.cell 3
  have q4 := hb1.cell 4
  have q5 := hb1.cell 5
  simp at q0 q1 q2 q3 q4 q5
  clear hp hil h0 hb0
  go_wp2
  obtain ⟨hq, hkq⟩ := place6 hb1 (.int .i64 8) (.string ⟨#[]⟩) (.string ⟨#[]⟩) (.slice none 0 0) (.slice A2 l.length c2) (.slice none 0 0)
  have e0 := hq.cell 0
  have e1 := hq.cell 1
  have e2 := hq.cell 2
  have e3 := hq.cell 3
  have e4 := hq.cell 4
  have e5 := hq.cell 5
  refine bodyPost_ret (v := .agg #[.int .i64 8, .string ⟨#[]⟩, .string ⟨#[]⟩, .slice none 0 0, .slice A2 l.length c2, .slice none 0 0]) (by simp [results, Tryz.results47, go_sem, e0, e1, e2, e3, e4, e5]) rfl ?_
  have sf := hkq.size
  exact plain_post (hlow.trans (hkq.below fun b hb => by omega)) (Nat.le_refl _) hcap (Nat.le_refl _) rowAt.nil (hrow.kept hkq (fun b hb => by omega) (fun b hb => by omega)) (hrep.kept hkq (fun b hb => by omega) (fun b hb => by omega)) rowAt.nil (by simp only [repIs])

set_option maxRecDepth 100000 in
theorem setOf_any (g : Nat) (x : Value) (w : World) (hb : Blk w g 145 #[x]) (hi : Ifc x) : Calls Tryz.prog 86 #[ptr g] w (Same x w) := by
  have q0 := hb.cell 0
  have hg := hb.lt
  simp at q0
  rcases hi with rfl | ⟨T, x, rfl⟩
  all_goals
    go_enter Tryz.func86, Tryz.ntmps86
    go_wp2
    go_ret
    exact ⟨rfl, rfl⟩

/-- The end of a call of 'plain': the result's cells have been laid. -/
theorem plain_end {w w1 wf : World} {B X : Nat → Prop} {k : Int} {ks : List Ky} {l m : List Tr} {A1 A2 A3 : Option Addr} {c1 c2 c3 : Nat} {xs ys : List Value} (hb : Below w.heap.size w w1) (hk : Kept X w1 wf) (hX : ∀ b, b < w.heap.size → X b) (hB : ∀ b, B b → w.heap.size ≤ b ∧ b < w1.heap.size) (hBX : ∀ b, B b → X b) (h1 : ks.length ≤ c1) (h2 : l.length ≤ c2) (h3 : m.length ≤ c3)
    (r1 : rowAt w1 B A1 (keyCells ks)) (r2 : rowAt w1 B A2 xs) (hl : repIs w1 B l xs) (r3 : rowAt wf (fun b => w.heap.size ≤ b ∧ b < wf.heap.size) A3 ys) (hm : repIs wf (fun b => w.heap.size ≤ b ∧ b < wf.heap.size) m ys) :
    PlainPost (.mk k ks l m) w (.returned (.agg #[.int .i64 k, .string ⟨#[]⟩, .string ⟨#[]⟩, .slice A1 ks.length c1, .slice A2 l.length c2, .slice A3 m.length c3])) wf := by
  have sf := hk.size
  have hu : ∀ b, B b → w.heap.size ≤ b ∧ b < wf.heap.size := fun b hb => ⟨(hB b hb).1, Nat.lt_of_lt_of_le (hB b hb).2 sf⟩
  exact plain_post (hb.trans (hk.below hX)) h1 h2 h3 (r1.kept hk hBX hu) (r2.kept hk hBX hu) (hl.kept hk hBX hu) r3 hm

/-- The new row behind. -/
theorem plain_row {w w1 wf : World} {X : Nat → Prop} {t : Tr} {cs : List Value} {g : Nat} (T : TypeId) (hk : Kept X w1 wf) (hz : wf.heap.size = g) (hg : w.heap.size ≤ g) {B : Nat → Prop} (hX : ∀ b, B b → X b) (hB : ∀ b, B b → w.heap.size ≤ b ∧ b < w1.heap.size) (hr : repI w1 B t cs) (hXl : ∀ b, X b → b < wf.heap.size) :
    rowAt (wf.alloc (.cells cs.toArray T)) (fun b => w.heap.size ≤ b ∧ b < (wf.alloc (.cells cs.toArray T)).heap.size) (some ⟨g, 0, none⟩) cs ∧ repIs (wf.alloc (.cells cs.toArray T)) (fun b => w.heap.size ≤ b ∧ b < (wf.alloc (.cells cs.toArray T)).heap.size) [t] cs := by
  subst hz
  have hn := Blk.new wf T cs.toArray
  refine ⟨fun j u hu => ⟨_, 0, rfl, ⟨hg, hn.lt⟩, by rw [hn.cell]; simpa using hu⟩, ?_⟩
  simp only [repIs]
  refine ⟨cs, [], by simp, hr.kept (hk.alloc hXl _) hX fun b hb => ⟨(hB b hb).1, ?_⟩, rfl⟩
  have h1 := (hB b hb).2
  have h2 := hk.size
  simp; omega

set_option maxRecDepth 100000 in
theorem plain_set (t : Tr) (g : Nat) (x : Value) (w : World) (hb : Blk w g 145 #[x]) (hi : Ifc x) (hok : PlainOk t x w) :
    Calls Tryz.prog 47 #[.iface 113 (ptr g)] w (PlainPost (.mk 7 [] [t] []) w) := by
  have h0 : Below w.heap.size w (w.alloc (.cells zeroT 25)) := (Below.refl _ _).alloc (Nat.le_refl _) _
  have hb0 : Blk (w.alloc (.cells zeroT 25)) w.heap.size 25 zeroT := Blk.new _ _ _
  have hof := setOf_any g x _ (hb.alloc (.cells zeroT 25)) hi
  have hc := hok _ h0
  clear hb hok
  rcases hi with rfl | ⟨T, x, rfl⟩
  all_goals
    go_enter Tryz.func47, Tryz.ntmps47
    go_wp2_with fail
    refine hof.mono ?_
    rintro e w1 ⟨rfl, rfl⟩
    clear hof
    go_wp2_with fail
    refine hc.mono ?_
    rintro e w1 ⟨cs, rfl, hrep, hbel⟩
    clear hc
    obtain ⟨nm, tx, E1, e1, E2, e2, E3, e3, rfl⟩ := hrep.shape
    have hb1 := hb0.below hbel (by simp)
    have hlow := h0.trans (hbel.mono (by simp))
    have ql := hb1.lt
    clear h0 hb0
    have f0 := hb1.frozen 0
    have f1 := hb1.frozen 1
    have f2 := hb1.frozen 2
    have f3 := hb1.frozen 3
    have f4 := hb1.frozen 4
    have f5 := hb1.frozen 5
    have q0 := hb1.cell 0
    have q1 := hb1.cell 1
    have q2 := hb1.cell 2
    have q3 := hb1.cell 3
    have q4 := hb1.cell 4
    have q5 := hb1.cell 5
    simp at q0 q1 q2 q3 q4 q5
    go_wp2
    obtain ⟨hq, hkq⟩ := place6 hb1 (.int .i64 7) (.string ⟨#[]⟩) (.string ⟨#[]⟩) (.slice none 0 0) (.slice (some ⟨w1.heap.size, 0, none⟩) 1 1) (.slice none 0 0)
    have hz : ((((((w1.setCell ⟨w.heap.size, 0, none⟩ (.int .i64 7)).setCell ⟨w.heap.size, 1, none⟩ (.string ⟨#[]⟩)).setCell ⟨w.heap.size, 2, none⟩ (.string ⟨#[]⟩)).setCell ⟨w.heap.size, 3, none⟩ (.slice none 0 0)).setCell ⟨w.heap.size, 4, none⟩ (.slice (some ⟨w1.heap.size, 0, none⟩) 1 1)).setCell ⟨w.heap.size, 5, none⟩ (.slice none 0 0)).heap.size = w1.heap.size := by simp
    generalize ((((((w1.setCell ⟨w.heap.size, 0, none⟩ (.int .i64 7)).setCell ⟨w.heap.size, 1, none⟩ (.string ⟨#[]⟩)).setCell ⟨w.heap.size, 2, none⟩ (.string ⟨#[]⟩)).setCell ⟨w.heap.size, 3, none⟩ (.slice none 0 0)).setCell ⟨w.heap.size, 4, none⟩ (.slice (some ⟨w1.heap.size, 0, none⟩) 1 1)).setCell ⟨w.heap.size, 5, none⟩ (.slice none 0 0)) = wf at *
    have hq' := hq.alloc (.cells #[.int .i64 t.kind, .string nm, .string tx, .slice E1 t.keys.length e1, .slice E2 t.kids.length e2, .slice E3 t.more.length e3] 25)
    obtain ⟨hrow, hrf⟩ := plain_row (w := w) 25 (hkq.mono fun b (hb : w.heap.size < b ∧ b < w1.heap.size) => by omega) hz (by omega) (fun b hb => ⟨by have := hb.1; simp at this; omega, hb.2⟩) (fun b hb => ⟨by have := hb.1; simp at this; omega, hb.2⟩) hrep (fun b hb => by omega)
    have e0 := hq'.cell 0
    have e1 := hq'.cell 1
    have e2 := hq'.cell 2
    have e3 := hq'.cell 3
    have e4 := hq'.cell 4
    have e5 := hq'.cell 5
    refine bodyPost_ret (v := .agg #[.int .i64 7, .string ⟨#[]⟩, .string ⟨#[]⟩, .slice none 0 0, .slice (some ⟨w1.heap.size, 0, none⟩) 1 1, .slice none 0 0]) (by simp [results, Tryz.results47, go_sem, e0, e1, e2, e3, e4, e5]) rfl ?_
    exact plain_post (l := [t]) ((hlow.trans (hkq.below fun b hb => by omega)).alloc (by omega) _) (Nat.le_refl _) (Nat.le_refl _) (Nat.le_refl _) rowAt.nil hrow hrf rowAt.nil (by simp only [repIs])

end Go.Proofs.YtpmfjbmfjfhghaaGreat
