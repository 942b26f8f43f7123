/-
  'NewAny', 'NewObject'.
-/
import Derived.Test.YtpmfjbmfjfhghaaGreatSort
import Derived.Laws.CopyOwn
import Derived.Laws.MakeOwn
namespace Go.Proofs.YtpmfjbmfjfhghaaGreat
open Go.RowKit

/-- What is handed over: a value of a tree, in blocks of which none is below the world w. -/
def PackPost (t : Tr) (w : World) (e : Ending) (w' : World) : Prop :=
  ∃ v, e = .returned v ∧ repP w' (fun b => w.heap.size ≤ b ∧ b < w'.heap.size) t v ∧ Below w.heap.size w w'

theorem infoT : (Tryz.prog.info? 68).map (fun i => (i.zero, i.size, i.bytes)) = some (some .nilIface, 1, 16) := by kernel_rfl

/-- 'copy' of a whole row into a new one. -/
theorem run_copy_whole {P : Program} (w : World) (dT sT ty elem : TypeId) (g : Nat) (A : Option Addr) (c : Nat) (cur xs : List Value) (t : TypeId) (F : Nat → Prop)
    (hu : P.underlying dT = some (.slice elem)) (hs : (P.info? elem).map (·.size) = some 1) (hg : Blk w g t cur.toArray) (hn : cur.length = xs.length) (hr : rowAt w F A xs) (h1 : ∀ v ∈ xs, v.oneCell' = true) :
    ∃ w', (Builtin.copy_ #[dT, sT] ty #[.slice (some ⟨g, 0, none⟩) xs.length xs.length, .slice A xs.length c]).run P w = .ok (goInt xs.length) w' ∧ Blk w' g t xs.toArray ∧ Below g w w' := by
  by_cases h0 : xs = []
  · subst h0
    have : cur = [] := List.eq_nil_of_length_eq_zero hn
    subst this
    exact ⟨w, run_copy_none w dT sT ty elem _ _ _ _ _ _ hu hs rfl, hg, Below.refl _ _⟩
  · obtain ⟨b, off, rfl, _, _⟩ := hr 0 (xs[0]'(List.length_pos_iff.2 h0)) (by simp [List.length_pos_iff.2 h0])
    refine ⟨_, run_copy_row P w dT sT ty elem g 0 xs.length xs.length ⟨b, off, none⟩ xs.length c cur.toArray t xs hu hs hg (by simp) ?_ (by simp; omega) h1, ?_, below_setRow (Below.refl _ _) (Nat.le_refl _) _⟩
    · intro j v hv
      obtain ⟨b', off', e, _, hc⟩ := hr j v hv
      injection e with e
      injection e with e1 e2
      subst e1 e2
      unfold Addr.add
      split
      · rename_i h0; subst h0; exact hc
      · exact hc
    · have := setRow_heap w g cur.toArray xs.toArray t (0, 0) hg
      have e : List.drop xs.length cur = [] := List.drop_of_length_le (by omega)
      unfold Blk
      simpa [e] using this

theorem splice_all {α : Type} {L cs : List α} (h : L.length = cs.length) : splice L 0 cs = cs := by
  unfold splice
  rw [List.drop_of_length_le (by omega)]
  simp

set_option maxHeartbeats 1000000 in
set_option maxRecDepth 100000 in
theorem newAny_any (l : List Tr) (xs : List Value) (A : Option Addr) (c : Nat) (F : Nat → Prop) (w : World) (hl : repPs w F l xs) (hr : rowAt w F A xs) (hF : ∀ b, F b → b < w.heap.size) (hg : ∀ t ∈ l, t.good ∧ t.size ≤ 1073741824) (hlen : l.length ≤ 1048576) :
    Calls Tryz.prog 73 #[.slice A l.length c] w fun e w' => ∃ ys, e = .returned (.slice (some ⟨w.heap.size, 0, none⟩) l.length l.length) ∧ Below w.heap.size w w' ∧ w.heap.size < w'.heap.size ∧ rowAt w' (fun b => b = w.heap.size) (some ⟨w.heap.size, 0, none⟩) ys ∧ repPs w' F (sortT l) ys := by
  obtain ⟨i, hi, hi3, hi1, hi2⟩ := info_parts infoT
  have hx := hl.length
  have hmk := run_makeSlice (P := Tryz.prog) (w := w) 90 68 i .nilIface Tryz.underlying90 hi hi3 .i64 .i64 l.length l.length (by omega) (by omega) (by rw [hi1, Int.toNat_natCast]; omega) (by rw [hi2]; omega) (by omega)
  rw [hi1, Int.toNat_natCast, Nat.mul_one] at hmk
  obtain ⟨Z, hZ⟩ : ∃ Z : List Value, Z = (madeCells Value.nilIface.cells l.length).toList := ⟨_, rfl⟩
  have hZl : Z.length = l.length := by rw [hZ]; simp [size_madeCells]
  have e0 : madeCells Value.nilIface.cells l.length = Z.toArray := by rw [hZ]
  rw [e0] at hmk
  have hsz : (Tryz.prog.info? 68).map (·.size) = some 1 := by simp [hi, hi1]
  have hb0 : Blk (w.alloc (.cells Z.toArray 68)) w.heap.size 68 Z.toArray := Blk.new _ _ _
  have hbl0 : Below w.heap.size w (w.alloc (.cells Z.toArray 68)) := (Below.refl _ _).alloc (Nat.le_refl _) _
  have hone : ∀ v ∈ xs, v.oneCell' = true := by
    intro v hv
    obtain ⟨j, hj, rfl⟩ := List.getElem_of_mem hv
    obtain ⟨x, hx, hh⟩ := hl.get j (by omega)
    obtain ⟨T, y, hy, _⟩ := hh.dyn
    have : xs[j] = x := by simpa [hj] using hx
    rw [this, hy]; rfl
  have hK0 : Kept F w (w.alloc (.cells Z.toArray 68)) := Kept.of_below hbl0 hF
  obtain ⟨w2, hcp, hb2, hbl2⟩ := run_copy_whole (P := Tryz.prog) (w.alloc (.cells Z.toArray 68)) 90 77 3 68 w.heap.size A c Z xs 68 F Tryz.underlying90 hsz hb0 (by omega) (hr.kept hK0 (fun _ h => h) fun _ h => h) hone
  rw [hx] at hcp
  have hK2 : Kept F w w2 := hK0.trans (Kept.of_below hbl2 hF)
  have hB2 := hbl0.trans hbl2
  have hs2 : w.heap.size < w2.heap.size := hb2.lt
  have hr2 : rowAt w2 (fun b => b = w.heap.size) (some ⟨w.heap.size, 0, none⟩) xs := fun j u hu => ⟨w.heap.size, 0, rfl, rfl, by rw [hb2.cell]; simpa using hu⟩
  have hso := zzSortedT_any l xs (some ⟨w.heap.size, 0, none⟩) w.heap.size l.length F w2 (hl.keep (fun _ h => h) hK2 fun _ h => h) hr2 (fun b hb => ⟨Nat.lt_trans (hF b hb) hs2, fun e => by have := hF b hb; omega⟩) (fun _ => ⟨hs2, fun i => hb2.frozen i⟩) hg (by omega)
  clear hr hZ e0 hZl hx hl hK0 hb0 hbl0 hone hr2 hsz hbl2 hb2 hi hi1 hi2 hi3
  go_enter Tryz.func73, Tryz.ntmps73
  go_wp2_with fail
  refine hso.mono ?_
  rintro e w' ⟨rfl, hk, ys, hy, hR⟩
  clear hcp hmk
  go_wp2
  go_ret
  exact ⟨ys, rfl, hB2.trans (hk.below fun b hb => ⟨by omega, by omega⟩), Nat.lt_of_lt_of_le hs2 hk.size, hy, hR⟩

set_option maxHeartbeats 1000000 in
set_option maxRecDepth 100000 in
theorem newObject_any (gs : List Nat) (ks : List Ky) (l : List Tr) (vs : List Value) (A : Option Addr) (blk c : Nat) (dp : Value) (F : Nat → Prop) (w : World) (hdp : dp = .pointer none ∨ ∃ g, dp = ptr g)
    (hp : props w F gs ks vs) (hl : repPs w F l vs) (hr : rowAt w (fun b => b = blk) A (gs.map ptr)) (hF : ∀ b, F b → b < w.heap.size ∧ b ≠ blk) (hbz : ks ≠ [] → blk < w.heap.size ∧ ∀ i, w.frozen? ⟨blk, i, none⟩ = false)
    (hk : ∀ k ∈ ks, k.ok) (hnd : ks.Nodup) (hlen : ks.length ≤ 1073741824) :
    Calls Tryz.prog 70 #[.slice A ks.length c, dp] w fun e w' => ∃ g gs' vs', e = .returned (ptr g) ∧ Kept (fun b => b < w.heap.size ∧ b ≠ blk) w w' ∧ w.heap.size ≤ g ∧ Blk w' g 142 #[.slice A ks.length c, dp] ∧
      rowAt w' (fun b => b = blk) A (gs'.map ptr) ∧ props w' F gs' ((sortK (ks.zip l)).map (·.1)) vs' ∧ repPs w' F ((sortK (ks.zip l)).map (·.2)) vs' := by
  have hs := zzSortedP_any gs ks l vs A blk c F w hp hl hr hF hbz hk hnd hlen
  have hb9 : ks ≠ [] → blk < w.heap.size := fun h => (hbz h).1
  clear hp hl hr hbz
  rcases hdp with rfl | ⟨g, rfl⟩
  all_goals
    go_enter Tryz.func70, Tryz.ntmps70
    go_wp2_with fail
    refine hs.mono ?_
    rintro e w1 ⟨rfl, hk1, ys, hy, gs', vs', rfl, hp1, hl1⟩
    clear hs
    go_wp2
    go_ret
    have h1 := hk1.size
    have K1 : ∀ o, Kept (fun b => b < w1.heap.size) w1 (w1.alloc o) := fun o => (Kept.refl _ _).alloc (fun _ h => h) o
    refine ⟨w1.heap.size, gs', vs', rfl, hk1.alloc (fun b hb => by omega) _, h1, Blk.new _ _ _, ?_, hp1.keep (fun _ h => h) (K1 _) (fun b hb => by have := hF b hb; omega), hl1.keep (fun _ h => h) (K1 _) (fun b hb => by have := hF b hb; omega)⟩
    by_cases h0 : gs' = []
    · subst h0; exact rowAt.nil
    · have hne : ks ≠ [] := by
        rintro rfl
        simp [sortK, isort] at hp1
        cases gs' with
        | nil => exact h0 rfl
        | cons g gs' => simp [props] at hp1
      have hb : blk < w1.heap.size := Nat.lt_of_lt_of_le (hb9 hne) h1
      exact hy.kept (K1 _) (fun b hb' => by rw [hb']; exact hb) fun _ h => h

end Go.Proofs.YtpmfjbmfjfhghaaGreat
