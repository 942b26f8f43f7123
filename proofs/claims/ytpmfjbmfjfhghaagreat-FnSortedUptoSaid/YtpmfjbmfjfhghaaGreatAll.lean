/-
  'impl.all', 'impl.at', over a contract of 'impl.built' at the list's types.
-/
import Derived.Test.YtpmfjbmfjfhghaaGreatNewAny
namespace Go.Proofs.YtpmfjbmfjfhghaaGreat
open Go.RowKit

/-- A type that may be none. -/
def repO (w : World) (F : Nat → Prop) (t : Tr) (v : Value) : Prop := (t.kind = 0 ∧ v = .nilIface) ∨ repP w F t v

def repOs (w : World) (F : Nat → Prop) : List Tr → List Value → Prop
  | [], xs => xs = []
  | t :: l, xs => ∃ x ys, xs = x :: ys ∧ repO w F t x ∧ repOs w F l ys

section
variable {w w' : World} {F F' X : Nat → Prop}
theorem repO.keep (hF : ∀ b, F b → F' b) (hk : Kept X w w') (hX : ∀ b, F b → X b) {t : Tr} {v : Value} (h : repO w F t v) : repO w' F' t v := h.imp id fun h => h.keep hF hk hX
theorem repO.ifc {t : Tr} {v : Value} (h : repO w F t v) : Ifc v := by
  rcases h with ⟨_, h⟩ | h
  · exact .inl h
  · exact h.ifc
theorem repO.rep {t : Tr} {v : Value} (h : repO w F t v) (ht : t.kind ≠ 0) : repP w F t v := by
  rcases h with ⟨h, _⟩ | h
  · exact absurd h ht
  · exact h
theorem repOs.keep (hF : ∀ b, F b → F' b) (hk : Kept X w w') (hX : ∀ b, F b → X b) : ∀ {l : List Tr} {xs : List Value}, repOs w F l xs → repOs w' F' l xs
  | [], xs, h => by simp only [repOs] at h ⊢; exact h
  | t :: l, xs, h => by
    simp only [repOs] at h ⊢
    obtain ⟨x, ys, e, h1, h2⟩ := h
    exact ⟨x, ys, e, h1.keep hF hk hX, repOs.keep hF hk hX h2⟩
theorem repOs.length : ∀ {l : List Tr} {xs : List Value}, repOs w F l xs → xs.length = l.length
  | [], xs, h => by simp only [repOs] at h; subst h; rfl
  | t :: l, xs, h => by
    simp only [repOs] at h
    obtain ⟨x, ys, rfl, h1, h2⟩ := h
    have := repOs.length h2
    simp; omega
theorem repOs.snoc {t : Tr} {x : Value} (ht : repO w F t x) : ∀ {l : List Tr} {xs : List Value}, repOs w F l xs → repOs w F (l ++ [t]) (xs ++ [x])
  | [], xs, h => by simp only [repOs] at h; subst h; exact ⟨x, [], by simp, ht, by simp [repOs]⟩
  | t' :: l, xs, h => by
    simp only [repOs] at h
    obtain ⟨x', ys, rfl, h1, h2⟩ := h
    exact ⟨x', ys ++ [x], by simp, h1, repOs.snoc ht h2⟩
theorem repOs.reps : ∀ {l : List Tr} {xs : List Value}, repOs w F l xs → (∀ t ∈ l, t.kind ≠ 0) → repPs w F l xs
  | [], xs, h, _ => by simp only [repOs] at h; simp only [repPs]; exact h
  | t :: l, xs, h, hn => by
    simp only [repOs] at h
    simp only [repPs]
    obtain ⟨x, ys, e, h1, h2⟩ := h
    exact ⟨x, ys, e, h1.rep (hn t (by simp)), h2.reps fun t ht => hn t (by simp [ht])⟩
theorem repOs.get : ∀ {l : List Tr} {xs : List Value}, repOs w F l xs → ∀ (i : Nat) (hi : i < l.length), ∃ x, xs[i]? = some x ∧ repO w F l[i] x
  | t :: l, xs, h, i, hi => by
    simp only [repOs] at h
    obtain ⟨x, ys, rfl, h1, h2⟩ := h
    cases i with
    | zero => exact ⟨x, rfl, h1⟩
    | succ i => simpa using repOs.get h2 i (by simpa using hi)
end

/-- What 'built' hands over. -/
def BuiltPost (t : Tr) (w : World) (e : Ending) (w' : World) : Prop :=
  ∃ v, e = .returned v ∧ repO w' (fun b => w.heap.size ≤ b ∧ b < w'.heap.size) (norm t) v ∧ Below w.heap.size w w'

/-- 'built' at a type. -/
def BuiltOk (t : Tr) : Prop := ∀ (w : World) (B : Nat → Prop) (cs : List Value), repI w B t cs → (∀ b, B b → b < w.heap.size) → Calls Tryz.prog 43 #[.agg cs.toArray] w (BuiltPost t w)

/-- A loop that appends to a row of its own, the row's slice in the frame. -/
structure PL (w0 : World) (l : List Tr) (v : Value) (j : Nat) (ys : List Value) (wr : World) : Prop where
  below : Below w0.heap.size w0 wr
  own : wr.ownsRow w0.heap.size 68 1 v j ys
  rep : repOs wr (fun b => w0.heap.size ≤ b ∧ b < wr.heap.size ∧ v.ownBlock ≠ some b) l ys

theorem PL.start (w : World) : PL w [] (.slice none 0 0) 0 [] w := ⟨Below.refl _ _, World.ownsRow_nil _ _ _ _, by simp [repOs]⟩

theorem PL.push {w0 wr w1 w2 : World} {l : List Tr} {v : Value} {j m cap gg : Nat} {ys : List Value} {t : Tr} {y : Value} (h : PL w0 l v j ys wr) (hb : Below wr.heap.size wr w1) (hr : repO w1 (fun b => wr.heap.size ≤ b ∧ b < w1.heap.size) t y)
    (o : Obj) (hg : (w1.alloc o).grownBy w2 v.ownBlock) (hown : w2.ownsRow w0.heap.size 68 1 (.slice (some ⟨gg, 0, none⟩) m cap) m (ys ++ [y])) (hat : v.ownBlock = some gg ∨ gg = w1.heap.size + 1) :
    PL w0 (l ++ [t]) (.slice (some ⟨gg, 0, none⟩) m cap) m (ys ++ [y]) w2 := by
  have s0 := h.below.size
  have s1 := hb.size
  have hown1 := own_below h.own hb (Nat.le_refl _)
  have K : Kept (fun b => b < w1.heap.size ∧ v.ownBlock ≠ some b) w1 w2 := ((Kept.refl _ w1).alloc (fun b hb => hb.1) o).grown hg (fun b hb => by simp; omega) fun k hk hX => hX.2 hk
  have s2 := K.size
  have hnew : ∀ b, b < w1.heap.size → v.ownBlock ≠ some b → (Value.slice (some ⟨gg, 0, none⟩) m cap).ownBlock ≠ some b := fun b hlt hne he => by
    simp only [Value.ownBlock, Option.some.injEq] at he
    subst he
    rcases hat with hat | hat
    · exact hne hat
    · omega
  refine ⟨h.below.trans ((hb.mono s0).trans (K.below fun b hb => ⟨by omega, fun e => own_ne h.own hb e.symm⟩)), hown, repOs.snoc ?_ ?_⟩
  · exact hr.keep (fun b hb => ⟨by omega, by omega, hnew b hb.2 fun e => own_ne' h.own hb.1 e.symm⟩) K fun b hb => ⟨hb.2, fun e => own_ne' h.own hb.1 e.symm⟩
  · refine h.rep.keep (fun b hb => ⟨hb.1, by omega, hnew b (by omega) hb.2.2⟩) ((Kept.of_below (X := fun b => b < wr.heap.size ∧ v.ownBlock ≠ some b) hb fun b hb => hb.1).trans (K.mono fun b hb => ⟨by omega, hb.2⟩)) fun b hb => hb.2

set_option maxHeartbeats 1000000 in
set_option maxRecDepth 100000 in
theorem at_any (l : List Tr) (A : Option Addr) (c : Nat) (xs : List Value) (w : World) (B : Nat → Prop) (i : Nat) (hr : repIs w B l xs) (hrow : rowAt w B A xs) (hB : ∀ b, B b → b < w.heap.size) (hok : ∀ t ∈ l, BuiltOk t) (hi : i < l.length) :
    Calls Tryz.prog 67 #[.slice A l.length c, .int .i64 i] w (BuiltPost l[i] w) := by
  obtain ⟨b, off, nm', tx', A1', c1', A2', c2', A3', c3', rfl, hbb, hrj, q0, q1, q2, q3, q4, q5⟩ := hr.at_ hrow i hi
  have hc := hok l[i] (List.getElem_mem hi) w B _ hrj hB
  clear hr hrow hok hrj
  go_enter Tryz.func67, Tryz.ntmps67
  go_wp2_with fail
  refine hc.mono ?_
  rintro e w' ⟨v, rfl, hv, hb⟩
  clear hc q0 q1 q2 q3 q4 q5
  go_wp2
  go_ret
  exact ⟨v, rfl, hv, hb⟩

set_option maxRecDepth 100000 in
theorem at_none (A : Option Addr) (n c : Nat) (w : World) (i : Nat) (hi : n ≤ i) : Calls Tryz.prog 67 #[.slice A n c, .int .i64 i] w (Same .nilIface w) := by
  go_enter Tryz.func67, Tryz.ntmps67
  go_wp2
  go_ret
  exact ⟨rfl, rfl⟩

set_option maxHeartbeats 1000000 in
set_option maxRecDepth 100000 in
theorem all_any (l : List Tr) (A : Option Addr) (c : Nat) (xs : List Value) (w : World) (B : Nat → Prop) (hr : repIs w B l xs) (hrow : rowAt w B A xs) (hB : ∀ b, B b → b < w.heap.size) (hok : ∀ t ∈ l, BuiltOk t) (hlen : l.length ≤ 1048576) :
    Calls Tryz.prog 54 #[.slice A l.length c] w fun e w' => ∃ v ys, e = .returned v ∧ PL w (norms l) v l.length ys w' := by
  obtain ⟨i1, hi, hz0, hz1, hz2⟩ := info_parts infoT
  go_enter Tryz.func54, Tryz.ntmps54
  go_wp2
  go_loopw [8, 3] (fun i v wr => ∃ j : Nat, j ≤ l.length ∧ i = .int .i64 j ∧ ∃ ys, PL w (norms (l.take j)) v j ys wr) (fun i _ _ => l.length - (intOf i).toNat)
  case atStart => exact ⟨0, Nat.zero_le _, rfl, [], by simpa [norms] using PL.start w⟩
  case round =>
    obtain ⟨j, hj, rfl, ys, hp⟩ := hrel
    by_cases hlt : j < l.length
    · obtain ⟨b, off, nm', tx', A1', c1', A2', c2', A3', c3', rfl, hbb, hrj, q0, q1, q2, q3, q4, q5⟩ := hr.at_ hrow j hlt
      have hws := hp.below.size
      have hbb' := hB b hbb
      rw [← hp.below.cell (by exact hbb')] at q0 q1 q2 q3 q4 q5
      have hbel := hp.below.alloc hws (.cells #[.int .i64 l[j].kind, .string nm', .string tx', .slice A1' l[j].keys.length c1', .slice A2' l[j].kids.length c2', .slice A3' l[j].more.length c3'] 25)
      have hc := hok l[j] (List.getElem_mem hlt) _ B _ (hrj.kept (Kept.of_below (X := fun b => b < w.heap.size) hbel fun _ h => h) hB fun _ h => h) (fun b hb => Nat.lt_of_lt_of_le (hB b hb) hbel.size)
      clear hr hrow hok hrj hbel
      go_wp2_with fail
      refine hc.mono ?_
      rintro e w1 ⟨y, rfl, hy, hb1⟩
      have hb2 : Below wr.heap.size wr w1 := ((Below.refl wr.heap.size wr).alloc (Nat.le_refl _) _).trans (hb1.mono (by simp))
      have hown1 := own_below hp.own hb2 (Nat.le_refl _)
      have hs1 := hb2.size
      have hy1 : repO w1 (fun b => wr.heap.size ≤ b ∧ b < w1.heap.size) (norm l[j]) y := hy.keep (X := fun b => b < w1.heap.size) (fun b hb => ⟨by have := hb.1; simp at this; omega, hb.2⟩) (Kept.refl _ _) fun b hb => hb.2
      clear hc q0 q1 q2 q3 q4 q5 hb1 hy
      have hyi := hy1.ifc
      rcases hyi with rfl | ⟨T, y, rfl⟩
      all_goals
        go_wp2_with (at_builtin; go_must (refine wpList_append_lies _ rfl _ _ _ rfl w.heap.size 68 i1 _ 1 16 Tryz.underlying77 hi hz0 hz1 hz2 rfl (by omega) _ j ys (by rfl) (hown1.alloc _) ⟨w1.heap.size, 0, none⟩ 1 1 [_] (by rfl) rfl (news_at w1 [_] _ rfl) (by simp [Value.oneCell']) (by omega) (by unfold maxLen; omega) (by omega) (by simp; omega) (w1.heap.size + 1) (by simp) ?_))
        intro g cap w2 hown2 hg2 hat _
        have hp2 := hp.push hb2 hy1 _ hg2 hown2 hat
        clear hp hb2 hy1 hg2 hown2 hown1
        go_wp2
        go_roundw
        case rel =>
          have e1 : norms (l.take (j + 1)) = norms (l.take j) ++ [norm l[j]] := by rw [norms_map, norms_map, List.take_succ_eq_append_getElem hlt, List.map_append]; rfl
          rw [← e1] at hp2
          exact ⟨j + 1, by omega, by go_num, _, hp2⟩
        case measure => simp [intOf]; omega
    · obtain rfl : j = l.length := by omega
      rw [List.take_length] at hp
      clear hr hrow hok
      go_wp2
      go_ret
      exact ⟨_, ys, rfl, hp⟩

end Go.Proofs.YtpmfjbmfjfhghaaGreat
