/-
  'impl.plain' and 'impl.plains': a type as plain data (1): null, boolean, number, string, set and any types.
-/
import Derived.Test.YtpmfjbmfjfhghaaGreatKind
import Derived.Test.YtpmfjbmfjfhghaaGreatNew
namespace Go.Proofs.YtpmfjbmfjfhghaaGreat
open Go.RowKit

theorem infoI : (Tryz.prog.info? 25).map (fun i => (i.zero, i.size, i.bytes)) = some (some (.agg #[.int .i64 0, .string ⟨#[]⟩, .string ⟨#[]⟩, .slice none 0 0, .slice none 0 0, .slice none 0 0]), 6, 112) := by kernel_rfl

/-- What 'plain' hands over. -/
def PlainPost (t : Tr) (w : World) (e : Ending) (w' : World) : Prop :=
  ∃ cs, e = .returned (.agg cs.toArray) ∧ repI w' (fun b => w.heap.size ≤ b ∧ b < w'.heap.size) t cs ∧ Below w.heap.size w w'

/-- A row of plain types that grows, its slice in the frame. -/
structure IL (w0 : World) (l : List Tr) (v : Value) (j : Nat) (ys : List Value) (wr : World) : Prop where
  below : Below w0.heap.size w0 wr
  own : wr.ownsRow w0.heap.size 25 6 v j ys
  rep : repIs wr (fun b => w0.heap.size ≤ b ∧ b < wr.heap.size ∧ v.ownBlock ≠ some b) l ys

theorem IL.start (w : World) : IL w [] (.slice none 0 0) 0 [] w := ⟨Below.refl _ _, World.ownsRow_nil _ _ _ _, by simp [repIs]⟩

theorem IL.push {w0 wr w1 w2 : World} {l : List Tr} {v : Value} {j m cap gg : Nat} {ys cs : List Value} {t : Tr} (h : IL w0 l v j ys wr) (hb : Below wr.heap.size wr w1) (hr : repI w1 (fun b => wr.heap.size ≤ b ∧ b < w1.heap.size) t cs)
    (o : Obj) (hg : (w1.alloc o).grownBy w2 v.ownBlock) (hown : w2.ownsRow w0.heap.size 25 6 (.slice (some ⟨gg, 0, none⟩) m cap) m (ys ++ cs)) (hat : v.ownBlock = some gg ∨ gg = w1.heap.size + 1) :
    IL w0 (l ++ [t]) (.slice (some ⟨gg, 0, none⟩) m cap) m (ys ++ cs) w2 := by
  have s0 := h.below.size
  have s1 := hb.size
  have hown1 := own_below h.own hb (Nat.le_refl _)
  have K : Kept (fun b => b < w1.heap.size ∧ v.ownBlock ≠ some b) w1 w2 := ((Kept.refl _ w1).alloc (fun b hb => hb.1) o).grown hg (fun b hb => by simp; omega) fun k hk hX => hX.2 hk
  have s2 := K.size
  have hnew : ∀ b, b < w1.heap.size → v.ownBlock ≠ some b → (Value.slice (some ⟨gg, 0, none⟩) m cap).ownBlock ≠ some b := fun b hlt hne he => by
    simp only [Value.ownBlock, Option.some.injEq] at he
    subst he
    rcases hat with hat | hat
    · exact hne hat
    · omega
  refine ⟨h.below.trans ((hb.mono s0).trans (K.below fun b hb => ⟨by omega, fun e => own_ne h.own hb e.symm⟩)), hown, repIs.snoc ?_ ?_⟩
  · exact hr.kept (K) (fun b hb => ⟨hb.2, fun e => own_ne' h.own hb.1 e.symm⟩) (fun b hb => ⟨by omega, by omega, hnew b hb.2 fun e => own_ne' h.own hb.1 e.symm⟩)
  · refine repIs.kept h.rep ((Kept.of_below (X := fun b => b < wr.heap.size ∧ v.ownBlock ≠ some b) hb fun b hb => hb.1).trans (K.mono fun b hb => ⟨by omega, hb.2⟩)) (fun b hb => hb.2) (fun b hb => ⟨hb.1, by omega, hnew b (by omega) hb.2.2⟩)

/-- The contract of 'plain' at the types of a row. -/
def PlainOk (t : Tr) (v : Value) (w : World) : Prop := ∀ W, Below w.heap.size w W → Calls Tryz.prog 47 #[v] W (PlainPost t W)

set_option maxHeartbeats 1000000 in
set_option maxRecDepth 100000 in
theorem plains_any (l : List Tr) (A : Option Addr) (c : Nat) (xs : List Value) (w : World) (F : Nat → Prop) (hr : repPs w F l xs) (hrow : rowAt w F A xs) (hF : ∀ b, F b → b < w.heap.size) (hok : ∀ i (hi : i < l.length) x, xs[i]? = some x → PlainOk l[i] x w) (hlen : l.length ≤ 1048576) :
    Calls Tryz.prog 56 #[.slice A l.length c] w fun e w' => ∃ v ys, e = .returned v ∧ IL w l v l.length ys w' := by
  obtain ⟨i25, gi, ge⟩ := Option.map_eq_some_iff.1 infoI
  have gz0 : i25.zero = some _ := congrArg (fun x => x.1) ge
  have gz1 : i25.size = 6 := congrArg (fun x => x.2.1) ge
  have gz2 : i25.bytes = 112 := congrArg (fun x => x.2.2) ge
  clear ge
  go_enter Tryz.func56, Tryz.ntmps56
  go_wp2
  go_loopw [8, 3] (fun i v wr => ∃ j : Nat, j ≤ l.length ∧ i = .int .i64 j ∧ ∃ ys, IL w (l.take j) v j ys wr) (fun i _ _ => l.length - (intOf i).toNat)
  case atStart => exact ⟨0, Nat.zero_le _, rfl, [], by simpa using IL.start w⟩
  case round =>
    obtain ⟨j, hj, rfl, ys, hp⟩ := hrel
    by_cases hlt : j < l.length
    · obtain ⟨b, off, x, rfl, hbb, hrj, q0, hxj⟩ := hr.at_ hrow j hlt
      have hws := hp.below.size
      have hbb' := hF b hbb
      rw [← hp.below.cell (by exact hbb')] at q0
      have hc := hok j hlt x hxj wr hp.below
      have hxi := hrj.ifc
      clear hr hrow hok hrj
      rcases hxi with rfl | ⟨T, x, rfl⟩
      all_goals
        go_wp2_with fail
        refine hc.mono ?_
        rintro e w1 ⟨cs, rfl, hy, hb1⟩
        obtain ⟨nm, tx, E1, e1, E2, e2, E3, e3, rfl⟩ := hy.shape
        have hown1 := own_below hp.own hb1 (Nat.le_refl _)
        have hs1 := hb1.size
        clear hc q0
        go_wp2_with (at_builtin; go_must (refine wpList_append_lies _ rfl _ _ _ rfl w.heap.size 25 i25 _ 6 112 Tryz.underlying23 gi gz0 gz1 gz2 rfl (by omega) _ j ys (by rfl) (hown1.alloc _) ⟨w1.heap.size, 0, none⟩ 1 1 [_, _, _, _, _, _] (by rfl) rfl (news_at w1 [_, _, _, _, _, _] _ rfl) (by simp [Value.oneCell']) (by omega) (by unfold maxLen; omega) (by omega) (by simp; omega) (w1.heap.size + 1) (by simp) ?_))
        intro g cap w2 hown2 hg2 hat _
        have hp2 := hp.push hb1 hy _ hg2 hown2 hat
        clear hp hb1 hy hg2 hown2 hown1
        go_wp2
        go_roundw
        case rel =>
          rw [← List.take_succ_eq_append_getElem hlt] at hp2
          exact ⟨j + 1, by omega, by go_num, _, hp2⟩
        case measure => simp [intOf]; omega
    · obtain rfl : j = l.length := by omega
      rw [List.take_length] at hp
      clear hr hrow hok
      go_wp2
      go_ret
      exact ⟨_, ys, rfl, hp⟩

end Go.Proofs.YtpmfjbmfjfhghaaGreat
