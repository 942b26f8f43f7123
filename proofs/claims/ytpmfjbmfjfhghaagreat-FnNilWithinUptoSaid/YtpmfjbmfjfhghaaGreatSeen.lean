/-
  THE MAP 'seen' OF 'nilRec': a look-up, a store.
-/
import Derived.Test.YtpmfjbmfjfhghaaGreatPack
import Derived.LaidEql
import Derived.MapKept
import Derived.Maps.OwnOps
namespace Go.Proofs.YtpmfjbmfjfhghaaGreat
open Go.RowKit

/-- A key of the map: a pointer to an array type or an object type that lies there. -/
def SeenKey (w : World) (k : Value) : Prop := ∃ g c t, (k = .iface 102 (ptr g) ∨ k = .iface 109 (ptr g)) ∧ w.heap[g]? = some (.cells c t (0, 0))

def SeenMap (w : World) (g : Nat) : Prop := ∃ es clock, w.heap[g]? = some (.map es clock) ∧ ∀ e ∈ es.toList, SeenKey w e.key ∧ e.val = .agg #[]

/-- What 'seen' may be. -/
def SeenOk (w : World) (s : Value) : Prop := s = .map none ∨ ∃ g, s = .map (some g) ∧ SeenMap w g

theorem infoPA : (Tryz.prog.info? 102).map (fun i => i.comparable) = some true := by kernel_rfl
theorem infoPO : (Tryz.prog.info? 109).map (fun i => i.comparable) = some true := by kernel_rfl
theorem infoA : (Tryz.prog.info? 139).map (fun i => i.size) = some 2 := by kernel_rfl
theorem infoO : (Tryz.prog.info? 142).map (fun i => i.size) = some 2 := by kernel_rfl

theorem of_map {α β : Type} {f : α → β} {o : Option α} {b : β} (h : o.map f = some b) : ∃ a, o = some a ∧ f a = b := by
  cases o with
  | none => cases h
  | some a => exact ⟨a, rfl, Option.some.inj h⟩

theorem uI : ∃ ms, Tryz.prog.underlying 68 = some (.interface ms) := ⟨_, Tryz.underlying68⟩

set_option maxRecDepth 100000 in
/-- Two keys: they are one, or not. -/
theorem equal_keys {w : World} {k k' : Value} (h : SeenKey w k) (h' : SeenKey w k') : (k = k' ∧ (Op.equal 68 k k').run Tryz.prog w = .ok true w) ∨ (Op.equal 68 k k').run Tryz.prog w = .ok false w := by
  obtain ⟨g, c, t, hk, hg⟩ := h
  obtain ⟨g', c', t', hk', hg'⟩ := h'
  obtain ⟨ms, hi⟩ := uI
  obtain ⟨i1, j1, j1'⟩ := of_map infoPA
  obtain ⟨i2, j2, j2'⟩ := of_map infoPO
  obtain ⟨i3, j3, j3'⟩ := of_map infoA
  obtain ⟨i4, j4, j4'⟩ := of_map infoO
  have p1 := Tryz.underlying102
  have p2 := Tryz.underlying109
  have diff : ∀ (T T' : TypeId) (v v' : Value), T ≠ T' → (Op.equal 68 (.iface T v) (.iface T' v')).run Tryz.prog w = .ok false w := fun T T' v v' hne => by
    have h : ∀ d : Nat, (Op.equalIn (d + 1) 68 (.iface T v) (.iface T' v')).run Tryz.prog w = .ok false w := fun d => by simp [Op.equalIn, run_underlying hi, hne]
    exact h 9999
  rcases hk with rfl | rfl <;> rcases hk' with rfl | rfl
  · by_cases e : g = g'
    · subst e
      have h : ∀ d : Nat, (Op.equalIn (d + 2) 68 (.iface 102 (ptr g)) (.iface 102 (ptr g))).run Tryz.prog w = .ok true w := fun d => run_equalIn_iface_ptr_same (P := Tryz.prog) w d _ hi p1 j1 j1' j3
      exact .inl ⟨rfl, h 9998⟩
    · have h : ∀ d : Nat, (Op.equalIn (d + 2) 68 (.iface 102 (ptr g)) (.iface 102 (ptr g'))).run Tryz.prog w = .ok false w := fun d => run_equalIn_iface_ptr_other (P := Tryz.prog) w d hi p1 j1 j1' j3 (by omega) (by intro h; injection h; contradiction) hg hg'
      exact .inr (h 9998)
  · exact .inr (diff _ _ _ _ (by decide))
  · exact .inr (diff _ _ _ _ (by decide))
  · by_cases e : g = g'
    · subst e
      have h : ∀ d : Nat, (Op.equalIn (d + 2) 68 (.iface 109 (ptr g)) (.iface 109 (ptr g))).run Tryz.prog w = .ok true w := fun d => run_equalIn_iface_ptr_same (P := Tryz.prog) w d _ hi p2 j2 j2' j4
      exact .inl ⟨rfl, h 9998⟩
    · have h : ∀ d : Nat, (Op.equalIn (d + 2) 68 (.iface 109 (ptr g)) (.iface 109 (ptr g'))).run Tryz.prog w = .ok false w := fun d => run_equalIn_iface_ptr_other (P := Tryz.prog) w d hi p2 j2 j2' j4 (by omega) (by intro h; injection h; contradiction) hg hg'
      exact .inr (h 9998)

theorem run_findAsking {w : World} {k : Value} (hk : SeenKey w k) : ∀ (l : List MapEntry) (i : Nat), (∀ e ∈ l, SeenKey w e.key ∧ e.val = .agg #[]) →
    (Instr.findAsking 68 k l i).run Tryz.prog w = .ok none w ∨ ∃ j x, (Instr.findAsking 68 k l i).run Tryz.prog w = .ok (some (j, .agg #[])) w ∧ i ≤ j ∧ l[j - i]? = some x ∧ x.key = k
  | [], i, _ => .inl (by simp [Instr.findAsking])
  | e :: l, i, h => by
    have he := h e (by simp)
    rcases equal_keys hk he.1 with ⟨rfl, hr⟩ | hr
    · exact .inr ⟨i, e, by simp [Instr.findAsking, hr, he.2], Nat.le_refl _, by simp, rfl⟩
    · rcases run_findAsking hk l (i + 1) (fun e he => h e (by simp [he])) with h1 | ⟨j, x, h1, h2, h3, h4⟩
      · exact .inl (by simp [Instr.findAsking, hr, h1])
      · refine .inr ⟨j, x, by simp [Instr.findAsking, hr, h1], by omega, ?_, h4⟩
        rw [show j - i = (j - (i + 1)) + 1 by omega]
        simpa using h3

theorem run_findKey_seen {w : World} {k : Value} (hk : SeenKey w k) (l : List MapEntry) (h : ∀ e ∈ l, SeenKey w e.key ∧ e.val = .agg #[]) :
    (Instr.findKey 68 k l).run Tryz.prog w = .ok none w ∨ ∃ j x, (Instr.findKey 68 k l).run Tryz.prog w = .ok (some (j, .agg #[])) w ∧ l[j]? = some x ∧ x.key = k := by
  obtain ⟨ms, hi⟩ := uI
  have now : Instr.findNow (.interface ms) k l 0 = none ∨ l = [] := by
    cases l with
    | nil => exact .inr rfl
    | cons e l =>
      left
      simp [Instr.findNow, Instr.sameNow]
  rcases now with hn | rfl
  · rcases run_findAsking hk l 0 h with h1 | ⟨j, x, h1, _, h3, h4⟩
    · exact .inl (by simp [Instr.findKey, run_underlying hi, hn, h1])
    · exact .inr ⟨j, x, by simp [Instr.findKey, run_underlying hi, hn, h1], by simpa using h3, h4⟩
  · exact .inl (by simp [Instr.findKey, run_underlying hi, Instr.findNow])

theorem run_checkKey_seen {w : World} {k : Value} (hk : SeenKey w k) (em : Bool) : (Instr.checkKey em 10000 68 k).run Tryz.prog w = .ok () w := by
  obtain ⟨g, c, t, hk, hg⟩ := hk
  obtain ⟨ms, hi⟩ := uI
  obtain ⟨i1, j1, j1'⟩ := of_map infoPA
  obtain ⟨i2, j2, j2'⟩ := of_map infoPO
  have p1 := Tryz.underlying102
  have p2 := Tryz.underlying109
  have h : ∀ d : Nat, (Instr.checkKey em (d + 1 + 1) 68 k).run Tryz.prog w = .ok () w := fun d => by
    rcases hk with rfl | rfl
    · simp [Instr.checkKey, run_underlying hi, run_underlying p1, typeInfo, j1, j1']
    · simp [Instr.checkKey, run_underlying hi, run_underlying p2, typeInfo, j2, j2']
  exact h 9998

theorem zero93 (w : World) : (zeroValue 93).run Tryz.prog w = .ok (.agg #[]) w := by kernel_rfl

/-- '_, ok := seen[a]'. -/
theorem seen_lookup {w : World} {k s : Value} (hk : SeenKey w k) (hs : SeenOk w s) : ∃ b : Bool, (Instr.lookup 155 s k true).run Tryz.prog w = .ok (.tuple #[.agg #[], .bool b]) w ∧ (s = .map none → b = false) := by
  have um := Tryz.underlying155
  rcases hs with rfl | ⟨g, rfl, es, clock, hg, hes⟩
  · refine ⟨false, ?_, fun _ => rfl⟩
    rcases run_findKey_seen hk [] (by simp) with h1 | ⟨j, x, _, h3, _⟩
    · simp [Instr.lookup, run_underlying um, run_checkKey_seen hk, h1]
    · simp at h3
  · rcases run_findKey_seen hk es.toList hes with h1 | ⟨j, x, h1, _, _⟩
    · exact ⟨false, by simp [Instr.lookup, run_underlying um, run_getObj_map w g es clock hg, run_checkKey_seen hk, h1], fun _ => rfl⟩
    · exact ⟨true, by simp [Instr.lookup, run_underlying um, run_getObj_map w g es clock hg, run_checkKey_seen hk, h1], fun h => by simp at h⟩

/-- 'seen[a] = struct{}{}'. -/
theorem seen_store {w : World} {k : Value} {g : Nat} (hk : SeenKey w k) (hs : SeenMap w g) : ∃ w' : World, (Instr.mapUpdate 155 (.map (some g)) k (.agg #[])).run Tryz.prog w = .ok () w' ∧ SeenMap w' g ∧ Kept (fun b => b ≠ g) w w' ∧ w'.heap.size = w.heap.size := by
  have um := Tryz.underlying155
  obtain ⟨es, clock, hg, hes⟩ := hs
  have hlt : g < w.heap.size := (Array.getElem?_eq_some_iff.1 hg).1
  -- a key lies elsewhere
  have stays : ∀ (o : Obj) (q : Value), SeenKey w q → SeenKey { w with heap := w.heap.setIfInBounds g o } q := fun o q ⟨g', c, t, hq, hh⟩ => by
    have hne : g' ≠ g := fun e => by subst e; rw [hg] at hh; cases hh
    exact ⟨g', c, t, hq, by rw [(Go.MapKept.heap_set hg).2 g' hne]; exact hh⟩
  have fin : ∀ (es' : Array MapEntry) (clock' : Nat), (∀ e ∈ es'.toList, SeenKey w e.key ∧ e.val = .agg #[]) → SeenMap { w with heap := w.heap.setIfInBounds g (.map es' clock') } g ∧ Kept (fun b => b ≠ g) w { w with heap := w.heap.setIfInBounds g (.map es' clock') } ∧ ({ w with heap := w.heap.setIfInBounds g (.map es' clock') } : World).heap.size = w.heap.size := fun es' clock' h =>
    ⟨⟨es', clock', (Go.MapKept.heap_set hg).1, fun e he => ⟨stays _ _ (h e he).1, (h e he).2⟩⟩, ⟨rfl, rfl, rfl, by simp, fun b hb => (Go.MapKept.heap_set hg).2 b hb⟩, by simp⟩
  rcases run_findKey_seen hk es.toList hes with h1 | ⟨j, x, h1, h2, h3⟩
  · refine ⟨_, by simp [Instr.mapUpdate, run_underlying um, run_getObj_map w g es clock hg, run_checkKey_seen hk, h1, Go.MapKept.run_setObj_map _ hg]; rfl, fin _ _ fun e he => ?_⟩
    simp at he
    rcases he with he | rfl
    · exact hes e (by simpa using he)
    · exact ⟨hk, rfl⟩
  · have hx : es[j]? = some x := by simpa using h2
    have hsb : Instr.sameBits 10000 x.key k = true := by
      rw [h3]
      obtain ⟨g', c, t, hq, _⟩ := hk
      have h : ∀ d : Nat, Instr.sameBits (d + 1) k k = true := fun d => by rcases hq with rfl | rfl <;> simp [Instr.sameBits]
      exact h 9999
    refine ⟨_, by simp [Instr.mapUpdate, run_underlying um, run_getObj_map w g es clock hg, run_checkKey_seen hk, h1, Instr.keyThatStays, hx, hsb, Go.MapKept.run_setObj_map _ hg]; rfl, fin _ _ fun e he => ?_⟩
    obtain ⟨q, hq, rfl⟩ := List.getElem_of_mem he
    simp only [Array.length_toList, Array.size_modify] at hq
    rw [Array.getElem_toList, Array.getElem_modify]
    by_cases e : j = q
    · rw [if_pos e]; exact ⟨hk, rfl⟩
    · rw [if_neg e]; exact hes _ (by simp)

section
variable {w : World} {ops : Array Oper} {rest : List Oper} {o : Oper} {a : Act} {Q : Exit → Act → World → Prop}
/-- The look-up at the operation. -/
theorem wpList_lookup_seen (hg : o.guard = none) (m x : Operand) (hop : o.op = Op.lookup 155 m x true) (s key : Value) (hm : a.eval m = s) (hx : a.eval x = key) (hk : SeenKey w key) (hs : SeenOk w s)
    (hK : ∀ b : Bool, (s = .map none → b = false) → wpList Tryz.prog ops Q rest (a.put o.dst (.tuple #[.agg #[], .bool b])) w) : wpList Tryz.prog ops Q (o :: rest) a w := by
  refine wpList_plain hg fun K' hK' => ?_
  obtain ⟨b, hrun, hb⟩ := seen_lookup hk hs
  unfold Oper.wp
  simp [execOp, hop, hm, hx, hrun, Result.andThen]
  exact hK' _ _ (hK b hb)

/-- The store at the operation. -/
theorem wpList_store_seen (hg : o.guard = none) (m x v : Operand) (hop : o.op = Op.mapUpdate 155 m x v) (g : Nat) (key : Value) (hm : a.eval m = .map (some g)) (hx : a.eval x = key) (hv : a.eval v = .agg #[]) (hk : SeenKey w key) (hs : SeenMap w g)
    (hK : ∀ w', SeenMap w' g → Kept (fun b => b ≠ g) w w' → w'.heap.size = w.heap.size → wpList Tryz.prog ops Q rest (a.put o.dst undef) w') : wpList Tryz.prog ops Q (o :: rest) a w := by
  refine wpList_plain hg fun K' hK' => ?_
  obtain ⟨w', hrun, h1, h2, h3⟩ := seen_store hk hs
  unfold Oper.wp
  simp [execOp, hop, hm, hx, hv, hrun, Result.andThen]
  exact hK' _ _ (hK w' h1 h2 h3)
end

theorem SeenKey.kept {w w' : World} {k : Value} {X : Nat → Prop} (h : SeenKey w k) (hk : Kept X w w') (hX : ∀ g c t, w.heap[g]? = some (.cells c t (0, 0)) → X g) : SeenKey w' k := by
  obtain ⟨g, c, t, h1, h2⟩ := h
  exact ⟨g, c, t, h1, by rw [hk.block g (hX g c t h2)]; exact h2⟩

theorem SeenMap.below {w w' : World} {g : Nat} (h : SeenMap w g) (hb : Below w.heap.size w w') : SeenMap w' g := by
  obtain ⟨es, clock, hg, hes⟩ := h
  have lt : ∀ {q : Nat} {o : Obj}, w.heap[q]? = some o → q < w.heap.size := fun h => (Array.getElem?_eq_some_iff.1 h).1
  exact ⟨es, clock, by rw [hb.block g (lt hg)]; exact hg, fun e he => ⟨(hes e he).1.kept (Kept.of_below (X := fun b => b < w.heap.size) hb fun _ h => h) fun _ _ _ h => lt h, (hes e he).2⟩⟩
theorem SeenOk.below {w w' : World} {s : Value} (h : SeenOk w s) (hb : Below w.heap.size w w') : SeenOk w' s :=
  h.imp id fun ⟨g, e, h⟩ => ⟨g, e, h.below hb⟩

theorem SeenMap.lt {w : World} {g : Nat} (h : SeenMap w g) : g < w.heap.size := by
  obtain ⟨es, clock, hg, _⟩ := h
  exact (Array.getElem?_eq_some_iff.1 hg).1

theorem SeenMap.ne {w : World} {g g' : Nat} {T : TypeId} {cs : Array Value} (h : SeenMap w g) (hb : Blk w g' T cs) : g' ≠ g := fun e => by
  subst e
  obtain ⟨es, clock, hg, _⟩ := h
  unfold Blk at hb
  rw [hb] at hg
  cases hg

theorem SeenMap.empty {w : World} {g : Nat} (h : w.heap[g]? = some (.map #[] 0)) : SeenMap w g := ⟨#[], 0, h, by simp⟩

theorem SeenMap.new (w : World) : SeenMap (w.alloc (.map #[] 0)) w.heap.size := ⟨#[], 0, (Go.MapKept.heap_alloc w _).1, by simp⟩

/-- The blocks that a call with 'seen' leaves alone. -/
def NilX (w : World) (s : Value) (b : Nat) : Prop := b < w.heap.size ∧ s ≠ .map (some b)

/-- What 'nilRec' answers. -/
def NilPost (r : Bool) (s : Value) (w : World) (e : Ending) (w' : World) : Prop := e = .returned (.bool r) ∧ Kept (NilX w s) w w' ∧ SeenOk w' s

/-- What holds while a type's parts are gone through: w0, s0: as the call began; cs: the place of 'seen', which holds s. -/
structure NilR (w0 : World) (s0 : Value) (cs : Nat) (s : Value) (W : World) : Prop where
  kept : Kept (NilX w0 s0) w0 W
  seen : SeenOk W s
  box : Blk W cs 155 #[s]
  old : ∀ b, b < w0.heap.size → s = .map (some b) → s0 = .map (some b)
  fin : s0 = s ∨ s0 = .map none

theorem NilR.next {w0 W W' : World} {s0 s : Value} {cs : Nat} {r : Bool} {e : Ending} (h : NilR w0 s0 cs s W) (hp : NilPost r s W e W') : NilR w0 s0 cs s W' := by
  obtain ⟨_, h2, h3⟩ := hp
  have hsz := h.kept.size
  refine ⟨h.kept.trans (h2.mono fun b hb => ⟨by have := hb.1; omega, fun e => hb.2 (h.old b hb.1 e)⟩), h3, h.box.kept h2 ⟨h.box.lt, fun e => ?_⟩, h.old, h.fin⟩
  rcases h.seen with e' | ⟨g, e', hg⟩
  · rw [e] at e'; cases e'
  · rw [e] at e'
    injection e' with e'
    injection e' with e'
    exact hg.ne h.box e'

theorem NilR.drew {w0 W : World} {s0 s : Value} {cs : Nat} (h : NilR w0 s0 cs s W) : NilR w0 s0 cs s W.drew :=
  ⟨h.kept.drew, h.seen.below ((Below.refl W.heap.size W).drew), h.box.drew, h.old, h.fin⟩

theorem NilR.post {w0 W : World} {s0 s : Value} {cs : Nat} {r : Bool} (h : NilR w0 s0 cs s W) : NilPost r s0 w0 (.returned (.bool r)) W :=
  ⟨rfl, h.kept, h.fin.elim (fun e => e ▸ h.seen) fun e => .inl e⟩

/-- A block that was there, of cells, is as it was. -/
theorem NilR.cell {w0 W : World} {s0 s : Value} {cs : Nat} (h : NilR w0 s0 cs s W) {b o : Nat} (hb : NilX w0 s0 b) : W.cell? ⟨b, o, none⟩ = w0.cell? ⟨b, o, none⟩ := h.kept.cell (p := ⟨b, o, none⟩) hb

end Go.Proofs.YtpmfjbmfjfhghaaGreat
