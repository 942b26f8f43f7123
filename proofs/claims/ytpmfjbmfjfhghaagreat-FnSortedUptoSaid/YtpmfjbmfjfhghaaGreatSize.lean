/-
  'spec.Size': the number of types in a tree.
-/
import Derived.Test.YtpmfjbmfjfhghaaGreatKind
import Derived.Test.YtpmfjbmfjfhghaaGreatPlain2
import Derived.Test.YtpmfjbmfjfhghaaGreatApp
import Derived.Deep.RegionHeld3
import Derived.Lib.Hide
namespace Go.Proofs.YtpmfjbmfjfhghaaGreat
open Go.RowKit

theorem bd_sizes {l m : List Tr} {k : Int} {ks : List Ky} (h : (Tr.mk k ks l m).bulk ≤ 1048576) : Tr.sizes (l ++ m) + 1 ≤ 1048576 ∧ l.length + m.length ≤ 1048576 := by
  have h1 := Tr.sizes_le_bulks l
  have h2 := Tr.sizes_le_bulks m
  have h3 := Tr.length_sizes l
  have h4 := Tr.length_sizes m
  rw [Tr.sizes_append]
  simp only [Tr.bulk] at h
  omega

theorem sizes_take_le (l : List Tr) (j : Nat) : Tr.sizes (l.take j) ≤ Tr.sizes l := by
  have h := Tr.sizes_append (l.take j) (l.drop j)
  rw [List.take_append_drop] at h
  omega

theorem sizes_take_succ (l : List Tr) (j : Nat) (h : j < l.length) : Tr.sizes (l.take (j + 1)) = Tr.sizes (l.take j) + l[j].size := by
  rw [List.take_succ_eq_append_getElem h, Tr.sizes_append]
  simp [Tr.sizes]

def SizePost (t : Tr) (w : World) (e : Ending) (w' : World) : Prop := e = .returned (.int .i64 t.size) ∧ Below w.heap.size w w'

set_option maxHeartbeats 1000000 in
set_option maxRecDepth 100000 in
theorem size_any (t : Tr) : ∀ (w : World) (B : Nat → Prop) (cs : List Value), repS w B t cs → t.bulk ≤ 1048576 → (∀ b, B b → b < w.heap.size) →
    Calls Tryz.prog 40 #[.agg cs.toArray] w (SizePost t w) := by
  induction t using Tr.ind with
  | h k ks l m il im =>
    intro w B cs hr hbulk hB
    have hbd := bd_sizes hbulk
    simp only [repS] at hr
    obtain ⟨A1, c1, A2, c2, A3, c3, xs, ys, rfl, _, h1, h2, h3, h4, h5⟩ := hr
    obtain ⟨i44, gi, gz0, gz1, gz2⟩ := info_parts info44
    have hlm : ∀ t ∈ l ++ m, ∀ (w : World) (B : Nat → Prop) (cs : List Value), repS w B t cs → t.bulk ≤ 1048576 → (∀ b, B b → b < w.heap.size) →
        Calls Tryz.prog 40 #[.agg cs.toArray] w (SizePost t w) := fun t ht => (List.mem_append.1 ht).elim (il t) (im t)
    have hbl : ∀ t ∈ l ++ m, t.bulk ≤ 1048576 := fun t ht => by
      simp only [Tr.bulk] at hbulk
      have := Tr.bulk_mem ht
      rw [Tr.bulks_append] at this
      omega
    have hl1 := h3.length
    have hl2 := h5.length
    have hrep := repSs.append h5 h3
    obtain ⟨lm, elm⟩ : ∃ lm, lm = l ++ m := ⟨_, rfl⟩
    have hlen := Lib.hid (show 0 + l.length + m.length = lm.length by rw [elm]; simp)
    rw [← elm] at hlm hbl hrep hbd
    have hsz : (Tr.mk k ks l m).size = 1 + Tr.sizes lm := by rw [elm, Tr.sizes_append]; simp only [Tr.size]; omega
    have HSZ := Lib.hid hsz
    clear elm hsz
    have g1 := h3.oneCell
    have g2 := h5.oneCell
    have hX : ∀ b, B b → b < w.heap.size := hB
    clear il im
    go_enter Tryz.func40, Tryz.ntmps40
    go_wp2_with fail
    have hk0 : Kept (fun b => b < w.heap.size) w (((w.alloc (.cells #[.int .i64 k, .slice A1 ks.length c1, .slice A2 l.length c2, .slice A3 m.length c3] 44)).alloc (.cells #[] 44)).drew) :=
      (((Kept.refl _ w).alloc (fun b h => h) _).alloc (fun b h => by simp; omega) _).drew
    have hx0 : Blk (((w.alloc (.cells #[.int .i64 k, .slice A1 ks.length c1, .slice A2 l.length c2, .slice A3 m.length c3] 44)).alloc (.cells #[] 44)).drew) w.heap.size 44 #[.int .i64 k, .slice A1 ks.length c1, .slice A2 l.length c2, .slice A3 m.length c3] := ((Blk.new w _ _).alloc _).drew
    have ho0 : (((w.alloc (.cells #[.int .i64 k, .slice A1 ks.length c1, .slice A2 l.length c2, .slice A3 m.length c3] 44)).alloc (.cells #[] 44)).drew).ownsRow (w.heap.size + 1) 44 4 (.slice (some ⟨w.heap.size + 1, 0, none⟩) 0 0) 0 [] :=
      (own_empty (w.alloc _) _ _ 4 rfl (by simp) (Nat.le_refl _)).drew
    go_region_held3 (fun w' => w'.cell? ⟨w.heap.size, 2, none⟩ = some (.slice A2 l.length c2) ∧ w'.cell? ⟨w.heap.size, 3, none⟩ = some (.slice A3 m.length c3))
      (first | go_keep | exact ⟨by simpa using hx1.cell 2, by simpa using hx1.cell 3⟩ | exact ⟨by simpa using hx2.cell 2, by simpa using hx2.cell 3⟩)
      (first
        | (refine step_append_row _ (by rfl) (.tmp 6) (.tmp 8) _ (by rfl) (w.heap.size + 1) 44 i44 _ 4 80 Tryz.underlying42 gi gz0 gz1 gz2 rfl (by omega) _ 0 [] (by rfl) ho0 B A2 l.length c2 xs (by rfl) hl1 (h2.kept hk0 hX fun _ h => h) g1 (by unfold maxLen; omega) (by omega) (by simp) ?_; intro v1 w1 hown1 hg1 hat1; have hx1 := hx0.grown hg1 (own_ne ho0 (by omega)); have hk1 := hk0.grown hg1 (fun b hb => by simp; omega) (fun q hq hX => own_ne ho0 (by omega) hq.symm); have hz1 : w.heap.size + 1 ≤ w1.heap.size := (by have := hx1.lt; omega))
        | (refine step_append_row _ (by rfl) (.tmp 9) (.tmp 11) _ (by rfl) (w.heap.size + 1) 44 i44 _ 4 80 Tryz.underlying42 gi gz0 gz1 gz2 rfl (by omega) v1 (0 + l.length) ([] ++ xs) (by rfl) hown1 B A3 m.length c3 ys (by rfl) hl2 (h4.kept hk1 hX fun _ h => h) g2 (by unfold maxLen; omega) (by omega) hz1 ?_; intro v2 w2 hown2 hg2 hat2; rw [hlen.out, List.nil_append] at hown2; obtain ⟨Av, cv, rfl, hrv, _⟩ := rowAt.of_own' (B := fun b => b < w2.heap.size) hown2 (fun _ _ h _ => h); have hx2 := hx1.grown hg2 (own_ne hown1 (by omega)); have hk2 := hk1.grown hg2 (fun b hb => by omega) (fun q hq hX => own_ne hown1 (by omega) hq.symm)))
    have hkw : Kept (fun b => b < w.heap.size) w w2 := hk2
    have hrepw : repSs w2 (fun b => b < w2.heap.size) lm (xs ++ ys) := hrep.kept hkw hX fun b hb => Nat.lt_of_lt_of_le (hX b hb) hkw.size
    have hs2 := sizes_take_le lm
    have hlb : lm.length ≤ 1048576 := by have := Tr.length_sizes lm; omega
    clear hx0 ho0 hown1 hg1 hat1 hx1 hk1 hz1 hown2 hg2 hat2 hx2 hk2 hk0 hrep h1 h2 h3 h4 h5 hl1 hl2 g1 g2
    go_wp2
    go_loopw [3, 14] (fun n i wr => ∃ j : Nat, j ≤ lm.length ∧ i = .int .i64 j ∧ n = .int .i64 (1 + Tr.sizes (lm.take j) : Nat) ∧ Below w2.heap.size w2 wr) (fun _ i _ => lm.length - (intOf i).toNat)
    case atStart => exact ⟨0, Nat.zero_le _, rfl, by simp [Tr.sizes], Below.refl _ _⟩
    case round =>
      obtain ⟨j, hj, rfl, rfl, hb⟩ := hrel
      have hsj := hs2 j
      have hws := hb.size
      by_cases hlt : j < lm.length
      · obtain ⟨b, off, A1', c1', A2', c2', A3', c3', rfl, hbb, hrj, q0, q1, q2, q3⟩ := hrepw.at_ hrv j hlt
        rw [← hb.cell (by exact hbb)] at q0 q1 q2 q3
        have hmem := List.getElem_mem hlt
        have hc : ∀ W, Below w2.heap.size w2 W → Calls Tryz.prog 40 #[.agg #[.int .i64 lm[j].kind, .slice A1' lm[j].keys.length c1', .slice A2' lm[j].kids.length c2', .slice A3' lm[j].more.length c3']] W (SizePost lm[j] W) :=
          fun W hW => hlm lm[j] hmem W _ _ (hrj.kept (Kept.of_below (X := fun b => b < w2.heap.size) hW fun _ h => h) (fun _ h => h) fun b hb => Nat.lt_of_lt_of_le hb hW.size) (hbl _ hmem) (fun b hb => hb)
        have hss := hs2 (j + 1)
        have e1 := sizes_take_succ lm j hlt
        rw [e1] at hss
        have HE := Lib.hid e1
        clear e1 hlm hrepw hs2
        go_wp2_with (go_at_call 40; go_must (refine (hc _ (hb.alloc hb.size _)).mono ?_); rintro e wc ⟨rfl, hbc⟩)
        go_roundw
        case rel => exact ⟨j + 1, by omega, by go_num, by rw [HE.out]; go_num, (hb.alloc hb.size _).trans (hbc.mono (by simp; omega))⟩
        case measure => simp [intOf]; omega
      · have ej : j = lm.length := by omega
        subst ej
        rw [List.take_length] at *
        go_wp2
        go_ret
        exact ⟨by rw [HSZ.out]; simp, (hkw.below fun _ h => h).trans (hb.mono hkw.size)⟩

end Go.Proofs.YtpmfjbmfjfhghaaGreat
