/-
  'spec.static', 'spec.items': parts of 'spec.In'.
-/
import Derived.Test.YtpmfjbmfjfhghaaGreatVMem
import Derived.Test.YtpmfjbmfjfhghaaGreatShaped
import Derived.Deep.RegionHeld3
import Derived.Deep.DeepCutAuto
namespace Go.Proofs.YtpmfjbmfjfhghaaGreat
open Go.RowKit

theorem BoolPost.sure {p : Prop} {w w' : World} {e : Ending} (h : BoolPost p w e w') (hp : p) : e = .returned (.bool true) ∧ Below w.heap.size w w' := by
  obtain ⟨b, rfl, hb, hB⟩ := h
  have := hb.2 hp
  subst this
  exact ⟨rfl, hB⟩
theorem BoolPost.never {p : Prop} {w w' : World} {e : Ending} (h : BoolPost p w e w') (hp : ¬ p) : e = .returned (.bool false) ∧ Below w.heap.size w w' := by
  obtain ⟨b, rfl, hb, hB⟩ := h
  cases b with
  | false => exact ⟨rfl, hB⟩
  | true => exact absurd (hb.1 rfl) hp

/-- What 'static' answers. -/
def StatPost (ks : List Ky) (l : List Tr) (key : ByteArray) (B : Nat → Prop) (w : World) (e : Ending) (w' : World) : Prop :=
  Below w.heap.size w w' ∧
  ((∃ (j : Nat) (hj : j < ks.length) (hl : j < l.length) (cs : List Value), ks[j] = ⟨4, key⟩ ∧ e = .returned (.tuple #[.agg cs.toArray, .bool true]) ∧ repS w B l[j] cs) ∨
    ((∀ k ∈ ks, k ≠ ⟨4, key⟩) ∧ e = .returned (.tuple #[.agg zero44, .bool false])))


set_option maxHeartbeats 1000000 in
set_option maxRecDepth 100000 in
theorem static_any (k : Int) (ks : List Ky) (l m : List Tr) (key : ByteArray) (w : World) (B : Nat → Prop) (cs : List Value) (hr : repS w B (.mk k ks l m) cs) (hkl : ks.length = l.length) (hlen : l.length ≤ 1048576) (hB : ∀ b, B b → b < w.heap.size) :
    Calls Tryz.prog 78 #[.agg cs.toArray, .string key] w (StatPost ks l key B w) := by
  simp only [repS] at hr
  obtain ⟨A1, c1, A2, c2, A3, c3, xs, ys, rfl, ⟨hc1, hc2, hc3⟩, h1, h2, h3, h4, h5⟩ := hr
  have HKL := Lib.hid hkl
  have hlen1 : ks.length ≤ 1048576 := by omega
  clear hkl
  have hx0 : Blk ((w.alloc (.cells #[.int .i64 k, .slice A1 ks.length c1, .slice A2 l.length c2, .slice A3 m.length c3] 44)).alloc (.cells zero44 44)) w.heap.size 44 #[.int .i64 k, .slice A1 ks.length c1, .slice A2 l.length c2, .slice A3 m.length c3] := (Blk.new _ _ _).alloc _
  have hy0 : Blk ((w.alloc (.cells #[.int .i64 k, .slice A1 ks.length c1, .slice A2 l.length c2, .slice A3 m.length c3] 44)).alloc (.cells zero44 44)) (w.heap.size + 1) 44 zero44 := by simpa using Blk.new (w.alloc _) _ _
  have hl0 : Below w.heap.size w ((w.alloc (.cells #[.int .i64 k, .slice A1 ks.length c1, .slice A2 l.length c2, .slice A3 m.length c3] 44)).alloc (.cells zero44 44)) := ((Below.refl _ _).alloc (Nat.le_refl _) _).alloc (by simp) _
  go_enter Tryz.func78, Tryz.ntmps78
  go_wp2
  generalize (w.alloc (.cells #[.int .i64 k, .slice A1 ks.length c1, .slice A2 l.length c2, .slice A3 m.length c3] 44)).alloc (.cells zero44 44) = w0 at *
  have hyl := hy0.lt
  go_loopw [11] (fun i wr => ∃ j : Nat, j ≤ ks.length ∧ i = .int .i64 j ∧ (∀ q (hq : q < ks.length), q < j → ks[q] ≠ ⟨4, key⟩) ∧ Below w0.heap.size w0 wr) (fun i _ => ks.length - (intOf i).toNat)
  case atStart => exact ⟨0, Nat.zero_le _, rfl, fun _ _ h => absurd h (by omega), Below.refl _ _⟩
  case round =>
    obtain ⟨j, hj, rfl, hno, hb⟩ := hrel
    have HNO := Lib.hid hno
    clear hno
    have hlw := hl0.trans (hb.mono hl0.size)
    have hsz := hb.size
    have hxr := hx0.below hb hx0.lt
    have hyr := hy0.below hb hyl
    have a2 := hxr.cell 2
    have a2l := hxr.lt
    have y4 := hyr.lt
    have y0 := hyr.cell 0
    have y1 := hyr.cell 1
    have y2 := hyr.cell 2
    have y3 := hyr.cell 3
    have z0 := hyr.frozen 0
    have z1 := hyr.frozen 1
    have z2 := hyr.frozen 2
    have z3 := hyr.frozen 3
    simp at a2 y0 y1 y2 y3
    by_cases hlt : j < ks.length
    · obtain ⟨b, off, rfl, hbb, q1, q2⟩ := h1.key j hlt
      have hbl := hB b hbb
      rw [← hlw.cell (by exact hbl)] at q1 q2
      have hlt2 : j < l.length := by have := HKL.out; omega
      obtain ⟨b', off', S1, d1, S2, d2, S3, d3, rfl, hbb', hrj, p0, p1, p2, p3⟩ := h3.at_ h2 j hlt2
      have hbl' := hB b' hbb'
      rw [← hlw.cell (by exact hbl')] at p0 p1 p2 p3
      have hbw' : b' < wr.heap.size := by omega
      obtain ⟨kk, ekk⟩ : ∃ kk, kk = ks[j].kind := ⟨_, rfl⟩
      obtain ⟨tx, etx⟩ : ∃ tx, tx = ks[j].text := ⟨_, rfl⟩
      rw [← ekk] at q1
      rw [← etx] at q2
      have EK := Lib.hid ekk
      have ET := Lib.hid etx
      clear ekk etx
      by_cases hit : kk = 4 ∧ tx.toList = key.toList
      · obtain ⟨rfl, ht⟩ := hit
        have e1 : (tx.toList == key.toList) = true := by simpa using ht
        have HT := Lib.hid ht
        clear ht
        go_wp2
        obtain ⟨hq, hkq⟩ := place4 hyr (.int .i64 l[j].kind) (.slice S1 l[j].keys.length d1) (.slice S2 l[j].kids.length d2) (.slice S3 l[j].more.length d3)
        have hq' := hq.alloc (.cells #[.int .i64 4, .string tx] 72)
        have r0 := hq'.cell 0
        have r1 := hq'.cell 1
        have r2 := hq'.cell 2
        have r3 := hq'.cell 3
        have hlf := (hlw.trans (hkq.below (B := w.heap.size) fun b hb => by omega)).alloc (by have := hkq.size; omega) (.cells #[.int .i64 4, .string tx] 72)
        (try simp only [Exit.inBlock, Exit.then])
        refine bodyPost_ret (v := .tuple #[.agg #[.int .i64 l[j].kind, .slice S1 l[j].keys.length d1, .slice S2 l[j].kids.length d2, .slice S3 l[j].more.length d3], .bool true]) (by simp [results, Tryz.results78, go_sem, r0, r1, r2, r3]) rfl ?_
        exact ⟨hlf, .inl ⟨j, hlt, hlt2, _, Ky.ext' EK.out.symm (by rw [← ET.out]; exact toList_inj HT.out), rfl, hrj⟩⟩
      · have HH := Lib.hid hit
        have hnx : ks[j] ≠ ⟨4, key⟩ := fun e => hit (by rw [EK.out, ET.out, e]; exact ⟨rfl, rfl⟩)
        have HNX := Lib.hid hnx
        clear hit hnx
        by_cases hk4 : kk = 4
        · subst hk4
          have e1 : (tx.toList == key.toList) = false := by
            cases h : (tx.toList == key.toList)
            · rfl
            · exact absurd ⟨rfl, by simpa using h⟩ HH.out
          go_wp2
          go_roundw
          case rel =>
            refine ⟨j + 1, by omega, by go_num, fun q hq hqj => ?_, hb.alloc hsz _⟩
            by_cases e : q = j
            · subst e; exact HNX.out
            · exact HNO.out q hq (by omega)
          case measure => simp [intOf]; omega
        · have e1 : (kk == 4) = false := by simpa using hk4
          clear hk4
          go_wp2
          go_roundw
          case rel =>
            refine ⟨j + 1, by omega, by go_num, fun q hq hqj => ?_, hb.alloc hsz _⟩
            by_cases e : q = j
            · subst e; exact HNX.out
            · exact HNO.out q hq (by omega)
          case measure => simp [intOf]; omega
    · have ej : j = ks.length := by omega
      subst ej
      go_wp2
      obtain ⟨hq, hkq⟩ := place4 hyr (.int .i64 0) (.slice none 0 0) (.slice none 0 0) (.slice none 0 0)
      have r0 := hq.cell 0
      have r1 := hq.cell 1
      have r2 := hq.cell 2
      have r3 := hq.cell 3
      have hlf := hlw.trans (hkq.below (B := w.heap.size) fun b hb => by omega)
      (try simp only [Exit.inBlock, Exit.then])
      refine bodyPost_ret (v := .tuple #[.agg zero44, .bool false]) (by simp [results, Tryz.results78, go_sem, r0, r1, r2, r3]) rfl ?_
      refine ⟨hlf, .inr ⟨fun k hk => ?_, rfl⟩⟩
      obtain ⟨q, hq', rfl⟩ := List.getElem_of_mem hk
      exact HNO.out q hq' hq'

end Go.Proofs.YtpmfjbmfjfhghaaGreat
