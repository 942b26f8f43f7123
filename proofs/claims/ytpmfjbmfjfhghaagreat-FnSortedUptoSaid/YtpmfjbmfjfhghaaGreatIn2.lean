/-
  'spec.items': the items of an array.
-/
import Derived.Test.YtpmfjbmfjfhghaaGreatIn1
import Derived.Test.YtpmfjbmfjfhghaaGreatReg
namespace Go.Proofs.YtpmfjbmfjfhghaaGreat
open Go.RowKit

theorem cell_of {W W1 : World} (h : Below W.heap.size W W1) {b o : Nat} {v : Value} (hb : b < W.heap.size) (hc : W.cell? ⟨b, o, none⟩ = some v) : W1.cell? ⟨b, o, none⟩ = some v := (h.cell (p := ⟨b, o, none⟩) hb).trans hc

/-- 'In' answers at a type, whatever value it is handed. -/
def InOk (t : Tr) : Prop := ∀ (v : Vl) (w : World) (B B' : Nat → Prop) (cs cs' : List Value), repV w B v cs → repS w B' t cs' → VOk v → v.bulk ≤ 1048576 → t.bulk ≤ 1048576 → (∀ b, B b → b < w.heap.size) → (∀ b, B' b → b < w.heap.size) →
  Calls Tryz.prog 24 #[.agg cs.toArray, .agg cs'.toArray] w (BoolPost (InT t v) w)

/-- The first items are those of a type. -/
def ItemsTo (fs gs : List (Vl → Prop)) (vs : List Vl) (j : Nat) : Prop := ∀ i (h : i < vs.length), i < j → (∀ f, fs[i]? = some f → f vs[i]) ∧ (fs.length ≤ i → ∃ f, gs.head? = some f ∧ f vs[i])

theorem ItemsTo.succ {fs gs : List (Vl → Prop)} {vs : List Vl} {j : Nat} (hj : j < vs.length) (h : ItemsTo fs gs vs j) (h1 : ∀ f, fs[j]? = some f → f vs[j]) (h2 : fs.length ≤ j → ∃ f, gs.head? = some f ∧ f vs[j]) : ItemsTo fs gs vs (j + 1) := fun i hi hij => by
  by_cases e : i = j
  · subst e; exact ⟨h1, h2⟩
  · exact h i hi (by omega)

theorem InTs_get (l : List Tr) (j : Nat) (h : j < l.length) : (InTs l)[j]? = some (InT l[j]) := by
  rw [InTs_map]; simp [h]
theorem InTs_head {m : List Tr} (h : 0 < m.length) : (InTs m).head? = some (InT m[0]) := by
  cases m with
  | nil => simp at h
  | cons t m => simp [InTs]
theorem InTs_nil {m : List Tr} : InTs m = [] ↔ m.length = 0 := by
  rw [InTs_map, List.map_eq_nil_iff]
  exact ⟨fun h => by rw [h]; rfl, List.eq_nil_of_length_eq_zero⟩

set_option maxHeartbeats 2000000 in
set_option maxRecDepth 100000 in
theorem items_any (k vk : Int) (ks : List Ky) (l m : List Tr) (s : ByteArray) (vks : List ByteArray) (vs : List Vl) (w : World) (B B' : Nat → Prop) (cs cs' : List Value) (hv : repV w B (.mk vk s vks vs) cs) (hr : repS w B' (.mk k ks l m) cs')
    (hok : VOks vs) (hvb : (Vl.mk vk s vks vs).bulk ≤ 1048576) (htb : (Tr.mk k ks l m).bulk ≤ 1048576) (hB : ∀ b, B b → b < w.heap.size) (hB' : ∀ b, B' b → b < w.heap.size) (il : ∀ t ∈ l, InOk t) (im : ∀ t ∈ m, InOk t) :
    Calls Tryz.prog 44 #[.agg cs.toArray, .agg cs'.toArray] w (BoolPost (ItemsP (InTs l) (InTs m) vs) w) := by
  simp only [repV] at hv
  simp only [repS] at hr
  obtain ⟨V1, d1, V2, d2, vxs, rfl, ⟨hd1, hd2⟩, g1, g2, g3⟩ := hv
  obtain ⟨A1, c1, A2, c2, A3, c3, xs, ys, rfl, ⟨hc1, hc2, hc3⟩, h1, h2, h3, h4, h5⟩ := hr
  rw [VOks_iff] at hok
  simp only [Vl.bulk] at hvb
  simp only [Tr.bulk] at htb
  have b1 := Vl.length_bulks vs
  have b2 := Tr.length_bulks l
  have b3 := Tr.length_bulks m
  have hx0 : Blk ((w.alloc (.cells #[.int .i64 vk, .string s, .slice V1 vks.length d1, .slice V2 vs.length d2] 36)).alloc (.cells #[.int .i64 k, .slice A1 ks.length c1, .slice A2 l.length c2, .slice A3 m.length c3] 44)) w.heap.size 36 #[.int .i64 vk, .string s, .slice V1 vks.length d1, .slice V2 vs.length d2] := (Blk.new _ _ _).alloc _
  have hy0 : Blk ((w.alloc (.cells #[.int .i64 vk, .string s, .slice V1 vks.length d1, .slice V2 vs.length d2] 36)).alloc (.cells #[.int .i64 k, .slice A1 ks.length c1, .slice A2 l.length c2, .slice A3 m.length c3] 44)) (w.heap.size + 1) 44 #[.int .i64 k, .slice A1 ks.length c1, .slice A2 l.length c2, .slice A3 m.length c3] := by simpa using Blk.new (w.alloc _) _ _
  have hl0 : Below w.heap.size w ((w.alloc (.cells #[.int .i64 vk, .string s, .slice V1 vks.length d1, .slice V2 vs.length d2] 36)).alloc (.cells #[.int .i64 k, .slice A1 ks.length c1, .slice A2 l.length c2, .slice A3 m.length c3] 44)) := ((Below.refl _ _).alloc (Nat.le_refl _) _).alloc (by simp) _
  have IL := Lib.hid il
  have IM := Lib.hid im
  have HOK := Lib.hid hok
  clear il im hok
  by_cases hA : vs.length < l.length
  · have HA := Lib.hid hA
    go_enter Tryz.func44, Tryz.ntmps44
    go_wp2
    go_ret
    exact BoolPost.no (fun h => by have := h.1; rw [InTs_length] at this; have := HA.out; omega) hl0
  by_cases hM : m.length = 0 ∧ l.length < vs.length
  · obtain ⟨hm0, hlt0⟩ := hM
    have HM := Lib.hid hm0
    have e0 : ((m.length : Int) == 0) = true := by simp [hm0]
    have e1 : decide (m.length = 0) = true := by simp [hm0]
    clear hm0
    go_enter Tryz.func44, Tryz.ntmps44
    go_wp2
    go_ret
    exact BoolPost.no (fun h => by have := h.2.1 (InTs_nil.2 HM.out); rw [InTs_length] at this; omega) hl0
  have HM := Lib.hid hM
  clear hM
  obtain ⟨w0, ew0⟩ : ∃ w0, w0 = (w.alloc (.cells #[.int .i64 vk, .string s, .slice V1 vks.length d1, .slice V2 vs.length d2] 36)).alloc (.cells #[.int .i64 k, .slice A1 ks.length c1, .slice A2 l.length c2, .slice A3 m.length c3] 44) := ⟨_, rfl⟩
  rw [← ew0] at hx0 hy0 hl0
  have EW := Lib.hid ew0
  clear ew0
  go_enter Tryz.func44, Tryz.ntmps44
  go_upto_region 1 with (fail)
  rw [← EW.out]
  have x3 := hx0.cell 3
  have y2 := hy0.cell 2
  have y3 := hy0.cell 3
  have xl := hx0.lt
  have yl := hy0.lt
  simp at x3 y2 y3
  go_cut [28] (fun c wx => c = .bool false ∧ wx = w0)
  case first =>
    by_cases hm0 : m.length = 0
    · have e0 : ((m.length : Int) == 0) = true := by simp [hm0]
      have e1 : decide (m.length = 0) = true := by simp [hm0]
      have hge : ¬ l.length < vs.length := fun h => HM.out ⟨hm0, h⟩
      clear hm0
      go_wp2
      go_meet
      exact ⟨rfl, rfl⟩
    · have e0 : ((m.length : Int) == 0) = false := beq_eq_false_iff_ne.2 (by omega)
      have e1 : decide (m.length = 0) = false := by simp [hm0]
      clear hm0
      go_wp2
      go_meet
      exact ⟨rfl, rfl⟩
  case rest =>
    obtain ⟨rfl, rfl⟩ := hcut
    clear EW
    go_wp2
    go_loopw [32] (fun i wr => ∃ j : Nat, j ≤ vs.length ∧ i = .int .i64 j ∧ ItemsTo (InTs l) (InTs m) vs j ∧ Below wc.heap.size wc wr) (fun i _ => vs.length - (intOf i).toNat)
    case atStart => exact ⟨0, Nat.zero_le _, rfl, fun _ _ h => absurd h (by omega), Below.refl _ _⟩
    case round =>
      obtain ⟨j, hj, rfl, hit, hb⟩ := hrel
      have HIT := Lib.hid hit
      clear hit x3 y2 y3
      have hlw := hl0.trans (hb.mono hl0.size)
      have hsz := hb.size
      have hxr := hx0.below hb xl
      have hyr := hy0.below hb yl
      by_cases hlt : j < vs.length
      · obtain ⟨b, off, S1, e1, S2, e2, rfl, hbb, hvj, q0, q1, q2, q3⟩ := g3.at_ g2 j hlt
        have hbl := hB b hbb
        rw [← hlw.cell (by exact hbl)] at q0 q1 q2 q3
        have hbw : b < wr.heap.size := by omega
        have hvo : VOk vs[j] := HOK.out _ (List.getElem_mem hlt)
        have hvs : vs[j].bulk ≤ 1048576 := by have := Vl.bulk_mem (List.getElem_mem hlt); omega
        by_cases hst : j < l.length
        · have hd1 : decide (l.length ≤ j) = false := decide_eq_false (by omega)
          obtain ⟨b', off', T1, f1, T2, f2, T3, f3, rfl, hbb', hrj, p0, p1, p2, p3⟩ := h3.at_ h2 j hst
          have hbl' := hB' b' hbb'
          rw [← hlw.cell (by exact hbl')] at p0 p1 p2 p3
          have hbw' : b' < wr.heap.size := by omega
          have hts : l[j].bulk ≤ 1048576 := by have := Tr.bulk_mem (List.getElem_mem hst); omega
          have hc := fun W (hW : Below w.heap.size w W) => IL.out l[j] (List.getElem_mem hst) vs[j] W B B' _ _ (hvj.kept (Kept.of_below (X := fun b => b < w.heap.size) hW fun _ h => h) hB fun _ h => h) (hrj.kept (Kept.of_below (X := fun b => b < w.heap.size) hW fun _ h => h) hB' fun _ h => h) hvo hvs hts (fun b hb => Nat.lt_of_lt_of_le (hB b hb) hW.size) (fun b hb => Nat.lt_of_lt_of_le (hB' b hb) hW.size)
          have hW0 : Below w.heap.size w (wr.alloc (.cells #[.int .i64 vs[j].kind, .string vs[j].text, .slice S1 vs[j].keys.length e1, .slice S2 vs[j].kids.length e2] 36)).drew := (hlw.alloc hlw.size _).drew
          have hX0 := (Blk.new wr 36 #[.int .i64 vs[j].kind, .string vs[j].text, .slice S1 vs[j].keys.length e1, .slice S2 vs[j].kids.length e2]).drew
          have hY0 := (hyr.alloc (.cells #[.int .i64 vs[j].kind, .string vs[j].text, .slice S1 vs[j].keys.length e1, .slice S2 vs[j].kids.length e2] 36)).drew
          have hbW : Below wc.heap.size wc (wr.alloc (.cells #[.int .i64 vs[j].kind, .string vs[j].text, .slice S1 vs[j].keys.length e1, .slice S2 vs[j].kids.length e2] 36)).drew := (hb.alloc hsz _).drew
          have hKI : Hid (∀ f, (InTs l)[j]? = some f → f = InT l[j]) := fun f h => by rw [InTs_get l j hst] at h; exact (Option.some.inj h).symm
          have hbK : b' < (wr.alloc (.cells #[.int .i64 vs[j].kind, .string vs[j].text, .slice S1 vs[j].keys.length e1, .slice S2 vs[j].kids.length e2] 36)).drew.heap.size := by simp; omega
          have hx2 := hY0.cell 2
          have hx3 := hY0.cell 3
          simp at hx2 hx3
          have hS0 : (fun w' => (w'.cell? ⟨w.heap.size + 1, 2, none⟩ = some (.slice (some ⟨b', off', none⟩) l.length c2) ∧ w'.cell? ⟨w.heap.size + 1, 3, none⟩ = some (.slice A3 m.length c3)) ∧ (w'.cell? ⟨wr.heap.size, 0, none⟩ = some (.int .i64 vs[j].kind) ∧ w'.cell? ⟨wr.heap.size, 1, none⟩ = some (.string vs[j].text) ∧ w'.cell? ⟨wr.heap.size, 2, none⟩ = some (.slice S1 vs[j].keys.length e1) ∧ w'.cell? ⟨wr.heap.size, 3, none⟩ = some (.slice S2 vs[j].kids.length e2)) ∧ (w'.cell? ⟨b', off' + j * 4, none⟩ = some (.int .i64 l[j].kind) ∧ w'.cell? ⟨b', off' + j * 4 + 1, none⟩ = some (.slice T1 l[j].keys.length f1) ∧ w'.cell? ⟨b', off' + j * 4 + 2, none⟩ = some (.slice T2 l[j].kids.length f2) ∧ w'.cell? ⟨b', off' + j * 4 + 3, none⟩ = some (.slice T3 l[j].more.length f3))) (wr.alloc (.cells #[.int .i64 vs[j].kind, .string vs[j].text, .slice S1 vs[j].keys.length e1, .slice S2 vs[j].kids.length e2] 36)).drew := ⟨⟨hx2, hx3⟩, ⟨hX0.cell 0, hX0.cell 1, hX0.cell 2, hX0.cell 3⟩, by simpa [World.cell?_alloc_past, hbw'] using p0, by simpa [World.cell?_alloc_past, hbw'] using p1, by simpa [World.cell?_alloc_past, hbw'] using p2, by simpa [World.cell?_alloc_past, hbw'] using p3⟩
          have hk : ∀ W1, Below (wr.alloc (.cells #[.int .i64 vs[j].kind, .string vs[j].text, .slice S1 vs[j].keys.length e1, .slice S2 vs[j].kids.length e2] 36)).drew.heap.size (wr.alloc (.cells #[.int .i64 vs[j].kind, .string vs[j].text, .slice S1 vs[j].keys.length e1, .slice S2 vs[j].kids.length e2] 36)).drew W1 → (fun w' => (w'.cell? ⟨w.heap.size + 1, 2, none⟩ = some (.slice (some ⟨b', off', none⟩) l.length c2) ∧ w'.cell? ⟨w.heap.size + 1, 3, none⟩ = some (.slice A3 m.length c3)) ∧ (w'.cell? ⟨wr.heap.size, 0, none⟩ = some (.int .i64 vs[j].kind) ∧ w'.cell? ⟨wr.heap.size, 1, none⟩ = some (.string vs[j].text) ∧ w'.cell? ⟨wr.heap.size, 2, none⟩ = some (.slice S1 vs[j].keys.length e1) ∧ w'.cell? ⟨wr.heap.size, 3, none⟩ = some (.slice S2 vs[j].kids.length e2)) ∧ (w'.cell? ⟨b', off' + j * 4, none⟩ = some (.int .i64 l[j].kind) ∧ w'.cell? ⟨b', off' + j * 4 + 1, none⟩ = some (.slice T1 l[j].keys.length f1) ∧ w'.cell? ⟨b', off' + j * 4 + 2, none⟩ = some (.slice T2 l[j].kids.length f2) ∧ w'.cell? ⟨b', off' + j * 4 + 3, none⟩ = some (.slice T3 l[j].more.length f3))) W1 := fun W1 h1 => ⟨⟨cell_of h1 hY0.lt hS0.1.1, cell_of h1 hY0.lt hS0.1.2⟩, ⟨cell_of h1 hX0.lt hS0.2.1.1, cell_of h1 hX0.lt hS0.2.1.2.1, cell_of h1 hX0.lt hS0.2.1.2.2.1, cell_of h1 hX0.lt hS0.2.1.2.2.2⟩, cell_of h1 hbK hS0.2.2.1, cell_of h1 hbK hS0.2.2.2.1, cell_of h1 hbK hS0.2.2.2.2.1, cell_of h1 hbK hS0.2.2.2.2.2⟩
          clear hx2 hx3
          by_cases hin : InT l[j] vs[j]
          · have HIN := Lib.hid hin
            have hc' := fun W hW => (hc W hW).mono fun e w' h => h.sure hin
            clear hc hin
            go_wp2_with fail
            refine wp_region_held_drew (S := (fun w' => (w'.cell? ⟨w.heap.size + 1, 2, none⟩ = some (.slice (some ⟨b', off', none⟩) l.length c2) ∧ w'.cell? ⟨w.heap.size + 1, 3, none⟩ = some (.slice A3 m.length c3)) ∧ (w'.cell? ⟨wr.heap.size, 0, none⟩ = some (.int .i64 vs[j].kind) ∧ w'.cell? ⟨wr.heap.size, 1, none⟩ = some (.string vs[j].text) ∧ w'.cell? ⟨wr.heap.size, 2, none⟩ = some (.slice S1 vs[j].keys.length e1) ∧ w'.cell? ⟨wr.heap.size, 3, none⟩ = some (.slice S2 vs[j].kids.length e2)) ∧ (w'.cell? ⟨b', off' + j * 4, none⟩ = some (.int .i64 l[j].kind) ∧ w'.cell? ⟨b', off' + j * 4 + 1, none⟩ = some (.slice T1 l[j].keys.length f1) ∧ w'.cell? ⟨b', off' + j * 4 + 2, none⟩ = some (.slice T2 l[j].kids.length f2) ∧ w'.cell? ⟨b', off' + j * 4 + 3, none⟩ = some (.slice T3 l[j].more.length f3)))) (by kernel_rfl) (hS0) (fun hHeld => ?_)
            refine take_yes (i := 0) (v := ?_) rfl (by kernel_rfl) (by kernel_rfl) (by kernel_rfl) (fun _ _ _ h => h) (by rfl) ?_ hHeld ?_
            rotate_left
            · (intro w hSw; (try dsimp only at hSw); go_simp; (try with_reducible rfl))
            (try simp only [Act.put, List.setIfInBounds_toArray, List.set_cons_zero, List.set_cons_succ])
            refine take_yes (i := 1) (v := ?_) rfl (by kernel_rfl) (by kernel_rfl) (by kernel_rfl) (fun _ _ _ h => h) (by rfl) ?_ hHeld ?_
            rotate_left
            · (intro w hSw; (try dsimp only at hSw); go_simp; (try with_reducible rfl))
            (try simp only [Act.put, List.setIfInBounds_toArray, List.set_cons_zero, List.set_cons_succ])
            refine take_yes (i := 2) (v := ?_) rfl (by kernel_rfl) (by kernel_rfl) (by kernel_rfl) (fun _ _ _ h => h) (by rfl) ?_ hHeld ?_
            rotate_left
            · (intro w hSw; (try dsimp only at hSw); go_simp; (try with_reducible rfl))
            (try simp only [Act.put, List.setIfInBounds_toArray, List.set_cons_zero, List.set_cons_succ])
            refine take_yes (i := 3) (v := ?_) rfl (by kernel_rfl) (by kernel_rfl) (by kernel_rfl) (fun _ _ _ h => h) (by rfl) ?_ hHeld ?_
            rotate_left
            · (intro w hSw; (try dsimp only at hSw); go_simp; (try with_reducible rfl))
            (try simp only [Act.put, List.setIfInBounds_toArray, List.set_cons_zero, List.set_cons_succ])
            refine take_yes (i := 4) (v := ?_) rfl (by kernel_rfl) (by kernel_rfl) (by kernel_rfl) (fun _ _ _ h => h) (by rfl) ?_ hHeld ?_
            rotate_left
            · (intro w hSw; (try dsimp only at hSw); go_simp; (try with_reducible rfl))
            (try simp only [Act.put, List.setIfInBounds_toArray, List.set_cons_zero, List.set_cons_succ])
            refine take_yes (i := 5) (v := ?_) rfl (by kernel_rfl) (by kernel_rfl) (by kernel_rfl) (fun _ _ _ h => h) (by rfl) ?_ hHeld ?_
            rotate_left
            · (intro w hSw; (try dsimp only at hSw); go_simp; (try with_reducible rfl))
            (try simp only [Act.put, List.setIfInBounds_toArray, List.set_cons_zero, List.set_cons_succ])
            refine take_yes (i := 6) (v := ?_) rfl (by kernel_rfl) (by kernel_rfl) (by kernel_rfl) (fun _ _ _ h => h) (by rfl) ?_ hHeld ?_
            rotate_left
            · (intro w hSw; (try dsimp only at hSw); go_simp; (try with_reducible rfl))
            (try simp only [Act.put, List.setIfInBounds_toArray, List.set_cons_zero, List.set_cons_succ])
            refine take_yes (i := 7) (v := ?_) rfl (by kernel_rfl) (by kernel_rfl) (by kernel_rfl) (fun _ _ _ h => h) (by rfl) ?_ hHeld ?_
            rotate_left
            · (intro w hSw; (try dsimp only at hSw); go_simp; (try with_reducible rfl))
            (try simp only [Act.put, List.setIfInBounds_toArray, List.set_cons_zero, List.set_cons_succ])
            refine take_yes (i := 8) (v := ?_) rfl (by kernel_rfl) (by kernel_rfl) (by kernel_rfl) (fun _ _ _ h => h) (by rfl) ?_ hHeld ?_
            rotate_left
            · (intro w hSw; (try dsimp only at hSw); go_simp; (try with_reducible rfl))
            (try simp only [Act.put, List.setIfInBounds_toArray, List.set_cons_zero, List.set_cons_succ])
            refine take_yes (i := 9) (v := ?_) rfl (by kernel_rfl) (by kernel_rfl) (by kernel_rfl) (fun _ _ _ h => h) (by rfl) ?_ hHeld ?_
            rotate_left
            · (intro w hSw; (try dsimp only at hSw); go_simp; (try with_reducible rfl))
            (try simp only [Act.put, List.setIfInBounds_toArray, List.set_cons_zero, List.set_cons_succ])
            refine take_yes (i := 10) (v := ?_) rfl (by kernel_rfl) (by kernel_rfl) (by kernel_rfl) (fun _ _ _ h => h) (by rfl) ?_ hHeld ?_
            rotate_left
            · (intro w hSw; (try dsimp only at hSw); go_simp; (try with_reducible rfl))
            (try simp only [Act.put, List.setIfInBounds_toArray, List.set_cons_zero, List.set_cons_succ])
            refine take_yes (i := 11) (v := ?_) rfl (by kernel_rfl) (by kernel_rfl) (by kernel_rfl) (fun _ _ _ h => h) (by rfl) ?_ hHeld ?_
            rotate_left
            · (intro w hSw; (try dsimp only at hSw); go_simp; (try with_reducible rfl))
            (try simp only [Act.put, List.setIfInBounds_toArray, List.set_cons_zero, List.set_cons_succ])
            refine take_step (i := 12) rfl (by kernel_rfl) (fun K hK => ?_)
            go_simp
            (go_at_call 24; refine (hc' _ hW0).mono ?_; rintro e w1 ⟨rfl, hb1⟩; have hS1 := hk _ hb1; have hlf := hW0.trans (hb1.mono hW0.size); have hbf := hbW.trans (hb1.mono hbW.size))
            (try go_wp2_with fail)
            refine hK.out _ _ (hS1) (fun hHeld => ?_)
            clear hK K
            (try simp only [Act.put, List.setIfInBounds_toArray, List.set_cons_zero, List.set_cons_succ])
            refine take_yes (i := 13) (v := ?_) rfl (by kernel_rfl) (by kernel_rfl) (by kernel_rfl) (fun _ _ _ h => h) (by rfl) ?_ hHeld ?_
            rotate_left
            · (intro w hSw; (try dsimp only at hSw); go_simp; (try with_reducible rfl))
            (try simp only [Act.put, List.setIfInBounds_toArray, List.set_cons_zero, List.set_cons_succ])
            refine take_yes (i := 14) (v := ?_) rfl (by kernel_rfl) (by kernel_rfl) (by kernel_rfl) (fun _ _ _ h => h) (by rfl) ?_ hHeld ?_
            rotate_left
            · (intro w hSw; (try dsimp only at hSw); go_simp; (try with_reducible rfl))
            (try simp only [Act.put, List.setIfInBounds_toArray, List.set_cons_zero, List.set_cons_succ])
            refine take_yes (i := 15) (v := ?_) rfl (by kernel_rfl) (by kernel_rfl) (by kernel_rfl) (fun _ _ _ h => h) (by rfl) ?_ hHeld ?_
            rotate_left
            · (intro w hSw; (try dsimp only at hSw); go_simp; (try with_reducible rfl))
            (try simp only [Act.put, List.setIfInBounds_toArray, List.set_cons_zero, List.set_cons_succ])
            refine take_yes (i := 16) (v := ?_) rfl (by kernel_rfl) (by kernel_rfl) (by kernel_rfl) (fun _ _ _ h => h) (by rfl) ?_ hHeld ?_
            rotate_left
            · (intro w hSw; (try dsimp only at hSw); go_simp; (try with_reducible rfl))
            (try simp only [Act.put, List.setIfInBounds_toArray, List.set_cons_zero, List.set_cons_succ])
            refine take_yes (i := 17) (v := ?_) rfl (by kernel_rfl) (by kernel_rfl) (by kernel_rfl) (fun _ _ _ h => h) (by rfl) ?_ hHeld ?_
            rotate_left
            · (intro w hSw; (try dsimp only at hSw); go_simp; (try with_reducible rfl))
            (try simp only [Act.put, List.setIfInBounds_toArray, List.set_cons_zero, List.set_cons_succ])
            refine take_yes (i := 18) (v := ?_) rfl (by kernel_rfl) (by kernel_rfl) (by kernel_rfl) (fun _ _ _ h => h) (by rfl) ?_ hHeld ?_
            rotate_left
            · (intro w hSw; (try dsimp only at hSw); go_simp; (try with_reducible rfl))
            (try simp only [Act.put, List.setIfInBounds_toArray, List.set_cons_zero, List.set_cons_succ])
            refine take_yes (i := 19) (v := ?_) rfl (by kernel_rfl) (by kernel_rfl) (by kernel_rfl) (fun _ _ _ h => h) (by rfl) ?_ hHeld ?_
            rotate_left
            · (intro w hSw; (try dsimp only at hSw); go_simp; (try with_reducible rfl))
            (try simp only [Act.put, List.setIfInBounds_toArray, List.set_cons_zero, List.set_cons_succ])
            refine take_yes (i := 20) (v := ?_) rfl (by kernel_rfl) (by kernel_rfl) (by kernel_rfl) (fun _ _ _ h => h) (by rfl) ?_ hHeld ?_
            rotate_left
            · (intro w hSw; (try dsimp only at hSw); go_simp; (try with_reducible rfl))
            (try simp only [Act.put, List.setIfInBounds_toArray, List.set_cons_zero, List.set_cons_succ])
            refine take_yes (i := 21) (v := ?_) rfl (by kernel_rfl) (by kernel_rfl) (by kernel_rfl) (fun _ _ _ h => h) (by rfl) ?_ hHeld ?_
            rotate_left
            · (intro w hSw; (try dsimp only at hSw); go_simp; (try with_reducible rfl))
            (try simp only [Act.put, List.setIfInBounds_toArray, List.set_cons_zero, List.set_cons_succ])
            refine take_no (i := 22) rfl (by kernel_rfl) (by kernel_rfl) (by kernel_rfl) (fun _ _ _ h => h) (by rfl) hHeld ?_
            (try simp only [Act.put, List.setIfInBounds_toArray, List.set_cons_zero, List.set_cons_succ])
            refine take_no (i := 23) rfl (by kernel_rfl) (by kernel_rfl) (by kernel_rfl) (fun _ _ _ h => h) (by rfl) hHeld ?_
            (try simp only [Act.put, List.setIfInBounds_toArray, List.set_cons_zero, List.set_cons_succ])
            refine take_no (i := 24) rfl (by kernel_rfl) (by kernel_rfl) (by kernel_rfl) (fun _ _ _ h => h) (by rfl) hHeld ?_
            (try simp only [Act.put, List.setIfInBounds_toArray, List.set_cons_zero, List.set_cons_succ])
            refine take_no (i := 25) rfl (by kernel_rfl) (by kernel_rfl) (by kernel_rfl) (fun _ _ _ h => h) (by rfl) hHeld ?_
            (try simp only [Act.put, List.setIfInBounds_toArray, List.set_cons_zero, List.set_cons_succ])
            refine take_no (i := 26) rfl (by kernel_rfl) (by kernel_rfl) (by kernel_rfl) (fun _ _ _ h => h) (by rfl) hHeld ?_
            (try simp only [Act.put, List.setIfInBounds_toArray, List.set_cons_zero, List.set_cons_succ])
            refine take_no (i := 27) rfl (by kernel_rfl) (by kernel_rfl) (by kernel_rfl) (fun _ _ _ h => h) (by rfl) hHeld ?_
            (try simp only [Act.put, List.setIfInBounds_toArray, List.set_cons_zero, List.set_cons_succ])
            refine take_no (i := 28) rfl (by kernel_rfl) (by kernel_rfl) (by kernel_rfl) (fun _ _ _ h => h) (by rfl) hHeld ?_
            (try simp only [Act.put, List.setIfInBounds_toArray, List.set_cons_zero, List.set_cons_succ])
            refine take_yes (i := 29) (v := ?_) rfl (by kernel_rfl) (by kernel_rfl) (by kernel_rfl) (fun _ _ _ h => h) (by rfl) ?_ hHeld ?_
            rotate_left
            · (intro w hSw; (try dsimp only at hSw); go_simp; (try with_reducible rfl))
            (try simp only [Act.put, List.setIfInBounds_toArray, List.set_cons_zero, List.set_cons_succ])
            refine take_yes (i := 30) (v := ?_) rfl (by kernel_rfl) (by kernel_rfl) (by kernel_rfl) (fun _ _ _ h => h) (by rfl) ?_ hHeld ?_
            rotate_left
            · (intro w hSw; (try dsimp only at hSw); go_simp; (try with_reducible rfl))
            (try simp only [Act.put, List.setIfInBounds_toArray, List.set_cons_zero, List.set_cons_succ])
            refine wpAnyH_done (by kernel_rfl) ?_ _
            go_wp2
            go_roundw
            case rel => exact ⟨j + 1, by omega, by go_num, HIT.out.succ hlt (fun f hf => by rw [hKI.out f hf]; exact HIN.out) (fun h => absurd h (by rw [InTs_length]; omega)), hbf⟩
            case measure => simp [intOf]; omega
          · have HIN := Lib.hid hin
            have hc' := fun W hW => (hc W hW).mono fun e w' h => h.never hin
            clear hc hin
            go_wp2_with fail
            refine wp_region_held_drew (S := (fun w' => (w'.cell? ⟨w.heap.size + 1, 2, none⟩ = some (.slice (some ⟨b', off', none⟩) l.length c2) ∧ w'.cell? ⟨w.heap.size + 1, 3, none⟩ = some (.slice A3 m.length c3)) ∧ (w'.cell? ⟨wr.heap.size, 0, none⟩ = some (.int .i64 vs[j].kind) ∧ w'.cell? ⟨wr.heap.size, 1, none⟩ = some (.string vs[j].text) ∧ w'.cell? ⟨wr.heap.size, 2, none⟩ = some (.slice S1 vs[j].keys.length e1) ∧ w'.cell? ⟨wr.heap.size, 3, none⟩ = some (.slice S2 vs[j].kids.length e2)) ∧ (w'.cell? ⟨b', off' + j * 4, none⟩ = some (.int .i64 l[j].kind) ∧ w'.cell? ⟨b', off' + j * 4 + 1, none⟩ = some (.slice T1 l[j].keys.length f1) ∧ w'.cell? ⟨b', off' + j * 4 + 2, none⟩ = some (.slice T2 l[j].kids.length f2) ∧ w'.cell? ⟨b', off' + j * 4 + 3, none⟩ = some (.slice T3 l[j].more.length f3)))) (by kernel_rfl) (hS0) (fun hHeld => ?_)
            refine take_yes (i := 0) (v := ?_) rfl (by kernel_rfl) (by kernel_rfl) (by kernel_rfl) (fun _ _ _ h => h) (by rfl) ?_ hHeld ?_
            rotate_left
            · (intro w hSw; (try dsimp only at hSw); go_simp; (try with_reducible rfl))
            (try simp only [Act.put, List.setIfInBounds_toArray, List.set_cons_zero, List.set_cons_succ])
            refine take_yes (i := 1) (v := ?_) rfl (by kernel_rfl) (by kernel_rfl) (by kernel_rfl) (fun _ _ _ h => h) (by rfl) ?_ hHeld ?_
            rotate_left
            · (intro w hSw; (try dsimp only at hSw); go_simp; (try with_reducible rfl))
            (try simp only [Act.put, List.setIfInBounds_toArray, List.set_cons_zero, List.set_cons_succ])
            refine take_yes (i := 2) (v := ?_) rfl (by kernel_rfl) (by kernel_rfl) (by kernel_rfl) (fun _ _ _ h => h) (by rfl) ?_ hHeld ?_
            rotate_left
            · (intro w hSw; (try dsimp only at hSw); go_simp; (try with_reducible rfl))
            (try simp only [Act.put, List.setIfInBounds_toArray, List.set_cons_zero, List.set_cons_succ])
            refine take_yes (i := 3) (v := ?_) rfl (by kernel_rfl) (by kernel_rfl) (by kernel_rfl) (fun _ _ _ h => h) (by rfl) ?_ hHeld ?_
            rotate_left
            · (intro w hSw; (try dsimp only at hSw); go_simp; (try with_reducible rfl))
            (try simp only [Act.put, List.setIfInBounds_toArray, List.set_cons_zero, List.set_cons_succ])
            refine take_yes (i := 4) (v := ?_) rfl (by kernel_rfl) (by kernel_rfl) (by kernel_rfl) (fun _ _ _ h => h) (by rfl) ?_ hHeld ?_
            rotate_left
            · (intro w hSw; (try dsimp only at hSw); go_simp; (try with_reducible rfl))
            (try simp only [Act.put, List.setIfInBounds_toArray, List.set_cons_zero, List.set_cons_succ])
            refine take_yes (i := 5) (v := ?_) rfl (by kernel_rfl) (by kernel_rfl) (by kernel_rfl) (fun _ _ _ h => h) (by rfl) ?_ hHeld ?_
            rotate_left
            · (intro w hSw; (try dsimp only at hSw); go_simp; (try with_reducible rfl))
            (try simp only [Act.put, List.setIfInBounds_toArray, List.set_cons_zero, List.set_cons_succ])
            refine take_yes (i := 6) (v := ?_) rfl (by kernel_rfl) (by kernel_rfl) (by kernel_rfl) (fun _ _ _ h => h) (by rfl) ?_ hHeld ?_
            rotate_left
            · (intro w hSw; (try dsimp only at hSw); go_simp; (try with_reducible rfl))
            (try simp only [Act.put, List.setIfInBounds_toArray, List.set_cons_zero, List.set_cons_succ])
            refine take_yes (i := 7) (v := ?_) rfl (by kernel_rfl) (by kernel_rfl) (by kernel_rfl) (fun _ _ _ h => h) (by rfl) ?_ hHeld ?_
            rotate_left
            · (intro w hSw; (try dsimp only at hSw); go_simp; (try with_reducible rfl))
            (try simp only [Act.put, List.setIfInBounds_toArray, List.set_cons_zero, List.set_cons_succ])
            refine take_yes (i := 8) (v := ?_) rfl (by kernel_rfl) (by kernel_rfl) (by kernel_rfl) (fun _ _ _ h => h) (by rfl) ?_ hHeld ?_
            rotate_left
            · (intro w hSw; (try dsimp only at hSw); go_simp; (try with_reducible rfl))
            (try simp only [Act.put, List.setIfInBounds_toArray, List.set_cons_zero, List.set_cons_succ])
            refine take_yes (i := 9) (v := ?_) rfl (by kernel_rfl) (by kernel_rfl) (by kernel_rfl) (fun _ _ _ h => h) (by rfl) ?_ hHeld ?_
            rotate_left
            · (intro w hSw; (try dsimp only at hSw); go_simp; (try with_reducible rfl))
            (try simp only [Act.put, List.setIfInBounds_toArray, List.set_cons_zero, List.set_cons_succ])
            refine take_yes (i := 10) (v := ?_) rfl (by kernel_rfl) (by kernel_rfl) (by kernel_rfl) (fun _ _ _ h => h) (by rfl) ?_ hHeld ?_
            rotate_left
            · (intro w hSw; (try dsimp only at hSw); go_simp; (try with_reducible rfl))
            (try simp only [Act.put, List.setIfInBounds_toArray, List.set_cons_zero, List.set_cons_succ])
            refine take_yes (i := 11) (v := ?_) rfl (by kernel_rfl) (by kernel_rfl) (by kernel_rfl) (fun _ _ _ h => h) (by rfl) ?_ hHeld ?_
            rotate_left
            · (intro w hSw; (try dsimp only at hSw); go_simp; (try with_reducible rfl))
            (try simp only [Act.put, List.setIfInBounds_toArray, List.set_cons_zero, List.set_cons_succ])
            refine take_step (i := 12) rfl (by kernel_rfl) (fun K hK => ?_)
            go_simp
            (go_at_call 24; refine (hc' _ hW0).mono ?_; rintro e w1 ⟨rfl, hb1⟩; have hS1 := hk _ hb1; have hlf := hW0.trans (hb1.mono hW0.size); have hbf := hbW.trans (hb1.mono hbW.size))
            (try go_wp2_with fail)
            refine hK.out _ _ (hS1) (fun hHeld => ?_)
            clear hK K
            (try simp only [Act.put, List.setIfInBounds_toArray, List.set_cons_zero, List.set_cons_succ])
            refine take_yes (i := 13) (v := ?_) rfl (by kernel_rfl) (by kernel_rfl) (by kernel_rfl) (fun _ _ _ h => h) (by rfl) ?_ hHeld ?_
            rotate_left
            · (intro w hSw; (try dsimp only at hSw); go_simp; (try with_reducible rfl))
            (try simp only [Act.put, List.setIfInBounds_toArray, List.set_cons_zero, List.set_cons_succ])
            refine take_yes (i := 14) (v := ?_) rfl (by kernel_rfl) (by kernel_rfl) (by kernel_rfl) (fun _ _ _ h => h) (by rfl) ?_ hHeld ?_
            rotate_left
            · (intro w hSw; (try dsimp only at hSw); go_simp; (try with_reducible rfl))
            (try simp only [Act.put, List.setIfInBounds_toArray, List.set_cons_zero, List.set_cons_succ])
            refine take_yes (i := 15) (v := ?_) rfl (by kernel_rfl) (by kernel_rfl) (by kernel_rfl) (fun _ _ _ h => h) (by rfl) ?_ hHeld ?_
            rotate_left
            · (intro w hSw; (try dsimp only at hSw); go_simp; (try with_reducible rfl))
            (try simp only [Act.put, List.setIfInBounds_toArray, List.set_cons_zero, List.set_cons_succ])
            refine take_no (i := 16) rfl (by kernel_rfl) (by kernel_rfl) (by kernel_rfl) (fun _ _ _ h => h) (by rfl) hHeld ?_
            (try simp only [Act.put, List.setIfInBounds_toArray, List.set_cons_zero, List.set_cons_succ])
            refine take_no (i := 17) rfl (by kernel_rfl) (by kernel_rfl) (by kernel_rfl) (fun _ _ _ h => h) (by rfl) hHeld ?_
            (try simp only [Act.put, List.setIfInBounds_toArray, List.set_cons_zero, List.set_cons_succ])
            refine take_no (i := 18) rfl (by kernel_rfl) (by kernel_rfl) (by kernel_rfl) (fun _ _ _ h => h) (by rfl) hHeld ?_
            (try simp only [Act.put, List.setIfInBounds_toArray, List.set_cons_zero, List.set_cons_succ])
            refine take_no (i := 19) rfl (by kernel_rfl) (by kernel_rfl) (by kernel_rfl) (fun _ _ _ h => h) (by rfl) hHeld ?_
            (try simp only [Act.put, List.setIfInBounds_toArray, List.set_cons_zero, List.set_cons_succ])
            refine take_no (i := 20) rfl (by kernel_rfl) (by kernel_rfl) (by kernel_rfl) (fun _ _ _ h => h) (by rfl) hHeld ?_
            (try simp only [Act.put, List.setIfInBounds_toArray, List.set_cons_zero, List.set_cons_succ])
            refine take_no (i := 21) rfl (by kernel_rfl) (by kernel_rfl) (by kernel_rfl) (fun _ _ _ h => h) (by rfl) hHeld ?_
            (try simp only [Act.put, List.setIfInBounds_toArray, List.set_cons_zero, List.set_cons_succ])
            refine take_no (i := 22) rfl (by kernel_rfl) (by kernel_rfl) (by kernel_rfl) (fun _ _ _ h => h) (by rfl) hHeld ?_
            (try simp only [Act.put, List.setIfInBounds_toArray, List.set_cons_zero, List.set_cons_succ])
            refine take_no (i := 23) rfl (by kernel_rfl) (by kernel_rfl) (by kernel_rfl) (fun _ _ _ h => h) (by rfl) hHeld ?_
            (try simp only [Act.put, List.setIfInBounds_toArray, List.set_cons_zero, List.set_cons_succ])
            refine take_no (i := 24) rfl (by kernel_rfl) (by kernel_rfl) (by kernel_rfl) (fun _ _ _ h => h) (by rfl) hHeld ?_
            (try simp only [Act.put, List.setIfInBounds_toArray, List.set_cons_zero, List.set_cons_succ])
            refine take_no (i := 25) rfl (by kernel_rfl) (by kernel_rfl) (by kernel_rfl) (fun _ _ _ h => h) (by rfl) hHeld ?_
            (try simp only [Act.put, List.setIfInBounds_toArray, List.set_cons_zero, List.set_cons_succ])
            refine take_no (i := 26) rfl (by kernel_rfl) (by kernel_rfl) (by kernel_rfl) (fun _ _ _ h => h) (by rfl) hHeld ?_
            (try simp only [Act.put, List.setIfInBounds_toArray, List.set_cons_zero, List.set_cons_succ])
            refine take_no (i := 27) rfl (by kernel_rfl) (by kernel_rfl) (by kernel_rfl) (fun _ _ _ h => h) (by rfl) hHeld ?_
            (try simp only [Act.put, List.setIfInBounds_toArray, List.set_cons_zero, List.set_cons_succ])
            refine take_no (i := 28) rfl (by kernel_rfl) (by kernel_rfl) (by kernel_rfl) (fun _ _ _ h => h) (by rfl) hHeld ?_
            (try simp only [Act.put, List.setIfInBounds_toArray, List.set_cons_zero, List.set_cons_succ])
            refine take_no (i := 29) rfl (by kernel_rfl) (by kernel_rfl) (by kernel_rfl) (fun _ _ _ h => h) (by rfl) hHeld ?_
            (try simp only [Act.put, List.setIfInBounds_toArray, List.set_cons_zero, List.set_cons_succ])
            refine take_yes (i := 30) (v := ?_) rfl (by kernel_rfl) (by kernel_rfl) (by kernel_rfl) (fun _ _ _ h => h) (by rfl) ?_ hHeld ?_
            rotate_left
            · (intro w hSw; (try dsimp only at hSw); go_simp; (try with_reducible rfl))
            (try simp only [Act.put, List.setIfInBounds_toArray, List.set_cons_zero, List.set_cons_succ])
            refine wpAnyH_done (by kernel_rfl) ?_ _
            go_wp2
            go_ret
            exact BoolPost.no (fun h => HIN.out ((h.2.2 j hlt).1 _ (InTs_get l j hst))) hlf
        · have hd0 : decide (j < l.length) = false := decide_eq_false (by omega)
          have hd1 : decide (l.length ≤ j) = true := decide_eq_true (by omega)
          have hm1 : 0 < m.length := by
            have := HM.out
            omega
          obtain ⟨b', off', T1, f1, T2, f2, T3, f3, rfl, hbb', hrj, p0, p1, p2, p3⟩ := h5.at_ h4 0 hm1
          have hbl' := hB' b' hbb'
          rw [← hlw.cell (by exact hbl')] at p0 p1 p2 p3
          simp only [Nat.zero_mul, Nat.add_zero] at p0 p1 p2 p3
          have hbw' : b' < wr.heap.size := by omega
          have hts : m[0].bulk ≤ 1048576 := by have := Tr.bulk_mem (List.getElem_mem hm1); omega
          have hc := fun W (hW : Below w.heap.size w W) => IM.out m[0] (List.getElem_mem hm1) vs[j] W B B' _ _ (hvj.kept (Kept.of_below (X := fun b => b < w.heap.size) hW fun _ h => h) hB fun _ h => h) (hrj.kept (Kept.of_below (X := fun b => b < w.heap.size) hW fun _ h => h) hB' fun _ h => h) hvo hvs hts (fun b hb => Nat.lt_of_lt_of_le (hB b hb) hW.size) (fun b hb => Nat.lt_of_lt_of_le (hB' b hb) hW.size)
          have hW0 : Below w.heap.size w (wr.alloc (.cells #[.int .i64 vs[j].kind, .string vs[j].text, .slice S1 vs[j].keys.length e1, .slice S2 vs[j].kids.length e2] 36)).drew := (hlw.alloc hlw.size _).drew
          have hX0 := (Blk.new wr 36 #[.int .i64 vs[j].kind, .string vs[j].text, .slice S1 vs[j].keys.length e1, .slice S2 vs[j].kids.length e2]).drew
          have hY0 := (hyr.alloc (.cells #[.int .i64 vs[j].kind, .string vs[j].text, .slice S1 vs[j].keys.length e1, .slice S2 vs[j].kids.length e2] 36)).drew
          have hbW : Below wc.heap.size wc (wr.alloc (.cells #[.int .i64 vs[j].kind, .string vs[j].text, .slice S1 vs[j].keys.length e1, .slice S2 vs[j].kids.length e2] 36)).drew := (hb.alloc hsz _).drew
          have hKI : Hid ((InTs m).head? = some (InT m[0])) := InTs_head (by omega)
          have hbK : b' < (wr.alloc (.cells #[.int .i64 vs[j].kind, .string vs[j].text, .slice S1 vs[j].keys.length e1, .slice S2 vs[j].kids.length e2] 36)).drew.heap.size := by simp; omega
          have hx2 := hY0.cell 2
          have hx3 := hY0.cell 3
          simp at hx2 hx3
          have hS0 : (fun w' => (w'.cell? ⟨w.heap.size + 1, 2, none⟩ = some (.slice A2 l.length c2) ∧ w'.cell? ⟨w.heap.size + 1, 3, none⟩ = some (.slice (some ⟨b', off', none⟩) m.length c3)) ∧ (w'.cell? ⟨wr.heap.size, 0, none⟩ = some (.int .i64 vs[j].kind) ∧ w'.cell? ⟨wr.heap.size, 1, none⟩ = some (.string vs[j].text) ∧ w'.cell? ⟨wr.heap.size, 2, none⟩ = some (.slice S1 vs[j].keys.length e1) ∧ w'.cell? ⟨wr.heap.size, 3, none⟩ = some (.slice S2 vs[j].kids.length e2)) ∧ (w'.cell? ⟨b', off', none⟩ = some (.int .i64 m[0].kind) ∧ w'.cell? ⟨b', off' + 1, none⟩ = some (.slice T1 m[0].keys.length f1) ∧ w'.cell? ⟨b', off' + 2, none⟩ = some (.slice T2 m[0].kids.length f2) ∧ w'.cell? ⟨b', off' + 3, none⟩ = some (.slice T3 m[0].more.length f3))) (wr.alloc (.cells #[.int .i64 vs[j].kind, .string vs[j].text, .slice S1 vs[j].keys.length e1, .slice S2 vs[j].kids.length e2] 36)).drew := ⟨⟨hx2, hx3⟩, ⟨hX0.cell 0, hX0.cell 1, hX0.cell 2, hX0.cell 3⟩, by simpa [World.cell?_alloc_past, hbw'] using p0, by simpa [World.cell?_alloc_past, hbw'] using p1, by simpa [World.cell?_alloc_past, hbw'] using p2, by simpa [World.cell?_alloc_past, hbw'] using p3⟩
          have hk : ∀ W1, Below (wr.alloc (.cells #[.int .i64 vs[j].kind, .string vs[j].text, .slice S1 vs[j].keys.length e1, .slice S2 vs[j].kids.length e2] 36)).drew.heap.size (wr.alloc (.cells #[.int .i64 vs[j].kind, .string vs[j].text, .slice S1 vs[j].keys.length e1, .slice S2 vs[j].kids.length e2] 36)).drew W1 → (fun w' => (w'.cell? ⟨w.heap.size + 1, 2, none⟩ = some (.slice A2 l.length c2) ∧ w'.cell? ⟨w.heap.size + 1, 3, none⟩ = some (.slice (some ⟨b', off', none⟩) m.length c3)) ∧ (w'.cell? ⟨wr.heap.size, 0, none⟩ = some (.int .i64 vs[j].kind) ∧ w'.cell? ⟨wr.heap.size, 1, none⟩ = some (.string vs[j].text) ∧ w'.cell? ⟨wr.heap.size, 2, none⟩ = some (.slice S1 vs[j].keys.length e1) ∧ w'.cell? ⟨wr.heap.size, 3, none⟩ = some (.slice S2 vs[j].kids.length e2)) ∧ (w'.cell? ⟨b', off', none⟩ = some (.int .i64 m[0].kind) ∧ w'.cell? ⟨b', off' + 1, none⟩ = some (.slice T1 m[0].keys.length f1) ∧ w'.cell? ⟨b', off' + 2, none⟩ = some (.slice T2 m[0].kids.length f2) ∧ w'.cell? ⟨b', off' + 3, none⟩ = some (.slice T3 m[0].more.length f3))) W1 := fun W1 h1 => ⟨⟨cell_of h1 hY0.lt hS0.1.1, cell_of h1 hY0.lt hS0.1.2⟩, ⟨cell_of h1 hX0.lt hS0.2.1.1, cell_of h1 hX0.lt hS0.2.1.2.1, cell_of h1 hX0.lt hS0.2.1.2.2.1, cell_of h1 hX0.lt hS0.2.1.2.2.2⟩, cell_of h1 hbK hS0.2.2.1, cell_of h1 hbK hS0.2.2.2.1, cell_of h1 hbK hS0.2.2.2.2.1, cell_of h1 hbK hS0.2.2.2.2.2⟩
          clear hx2 hx3
          by_cases hin : InT m[0] vs[j]
          · have HIN := Lib.hid hin
            have hc' := fun W hW => (hc W hW).mono fun e w' h => h.sure hin
            clear hc hin
            go_wp2_with fail
            refine wp_region_held_drew (S := (fun w' => (w'.cell? ⟨w.heap.size + 1, 2, none⟩ = some (.slice A2 l.length c2) ∧ w'.cell? ⟨w.heap.size + 1, 3, none⟩ = some (.slice (some ⟨b', off', none⟩) m.length c3)) ∧ (w'.cell? ⟨wr.heap.size, 0, none⟩ = some (.int .i64 vs[j].kind) ∧ w'.cell? ⟨wr.heap.size, 1, none⟩ = some (.string vs[j].text) ∧ w'.cell? ⟨wr.heap.size, 2, none⟩ = some (.slice S1 vs[j].keys.length e1) ∧ w'.cell? ⟨wr.heap.size, 3, none⟩ = some (.slice S2 vs[j].kids.length e2)) ∧ (w'.cell? ⟨b', off', none⟩ = some (.int .i64 m[0].kind) ∧ w'.cell? ⟨b', off' + 1, none⟩ = some (.slice T1 m[0].keys.length f1) ∧ w'.cell? ⟨b', off' + 2, none⟩ = some (.slice T2 m[0].kids.length f2) ∧ w'.cell? ⟨b', off' + 3, none⟩ = some (.slice T3 m[0].more.length f3)))) (by kernel_rfl) (hS0) (fun hHeld => ?_)
            refine take_yes (i := 0) (v := ?_) rfl (by kernel_rfl) (by kernel_rfl) (by kernel_rfl) (fun _ _ _ h => h) (by rfl) ?_ hHeld ?_
            rotate_left
            · (intro w hSw; (try dsimp only at hSw); go_simp; (try with_reducible rfl))
            (try simp only [Act.put, List.setIfInBounds_toArray, List.set_cons_zero, List.set_cons_succ])
            refine take_yes (i := 1) (v := ?_) rfl (by kernel_rfl) (by kernel_rfl) (by kernel_rfl) (fun _ _ _ h => h) (by rfl) ?_ hHeld ?_
            rotate_left
            · (intro w hSw; (try dsimp only at hSw); go_simp; (try with_reducible rfl))
            (try simp only [Act.put, List.setIfInBounds_toArray, List.set_cons_zero, List.set_cons_succ])
            refine take_yes (i := 2) (v := ?_) rfl (by kernel_rfl) (by kernel_rfl) (by kernel_rfl) (fun _ _ _ h => h) (by rfl) ?_ hHeld ?_
            rotate_left
            · (intro w hSw; (try dsimp only at hSw); go_simp; (try with_reducible rfl))
            (try simp only [Act.put, List.setIfInBounds_toArray, List.set_cons_zero, List.set_cons_succ])
            refine take_yes (i := 3) (v := ?_) rfl (by kernel_rfl) (by kernel_rfl) (by kernel_rfl) (fun _ _ _ h => h) (by rfl) ?_ hHeld ?_
            rotate_left
            · (intro w hSw; (try dsimp only at hSw); go_simp; (try with_reducible rfl))
            (try simp only [Act.put, List.setIfInBounds_toArray, List.set_cons_zero, List.set_cons_succ])
            refine take_yes (i := 4) (v := ?_) rfl (by kernel_rfl) (by kernel_rfl) (by kernel_rfl) (fun _ _ _ h => h) (by rfl) ?_ hHeld ?_
            rotate_left
            · (intro w hSw; (try dsimp only at hSw); go_simp; (try with_reducible rfl))
            (try simp only [Act.put, List.setIfInBounds_toArray, List.set_cons_zero, List.set_cons_succ])
            refine take_yes (i := 5) (v := ?_) rfl (by kernel_rfl) (by kernel_rfl) (by kernel_rfl) (fun _ _ _ h => h) (by rfl) ?_ hHeld ?_
            rotate_left
            · (intro w hSw; (try dsimp only at hSw); go_simp; (try with_reducible rfl))
            (try simp only [Act.put, List.setIfInBounds_toArray, List.set_cons_zero, List.set_cons_succ])
            refine take_no (i := 6) rfl (by kernel_rfl) (by kernel_rfl) (by kernel_rfl) (fun _ _ _ h => h) (by rfl) hHeld ?_
            (try simp only [Act.put, List.setIfInBounds_toArray, List.set_cons_zero, List.set_cons_succ])
            refine take_no (i := 7) rfl (by kernel_rfl) (by kernel_rfl) (by kernel_rfl) (fun _ _ _ h => h) (by rfl) hHeld ?_
            (try simp only [Act.put, List.setIfInBounds_toArray, List.set_cons_zero, List.set_cons_succ])
            refine take_no (i := 8) rfl (by kernel_rfl) (by kernel_rfl) (by kernel_rfl) (fun _ _ _ h => h) (by rfl) hHeld ?_
            (try simp only [Act.put, List.setIfInBounds_toArray, List.set_cons_zero, List.set_cons_succ])
            refine take_no (i := 9) rfl (by kernel_rfl) (by kernel_rfl) (by kernel_rfl) (fun _ _ _ h => h) (by rfl) hHeld ?_
            (try simp only [Act.put, List.setIfInBounds_toArray, List.set_cons_zero, List.set_cons_succ])
            refine take_no (i := 10) rfl (by kernel_rfl) (by kernel_rfl) (by kernel_rfl) (fun _ _ _ h => h) (by rfl) hHeld ?_
            (try simp only [Act.put, List.setIfInBounds_toArray, List.set_cons_zero, List.set_cons_succ])
            refine take_no (i := 11) rfl (by kernel_rfl) (by kernel_rfl) (by kernel_rfl) (fun _ _ _ h => h) (by rfl) hHeld ?_
            (try simp only [Act.put, List.setIfInBounds_toArray, List.set_cons_zero, List.set_cons_succ])
            refine take_no (i := 12) rfl (by kernel_rfl) (by kernel_rfl) (by kernel_rfl) (fun _ _ _ h => h) (by rfl) hHeld ?_
            (try simp only [Act.put, List.setIfInBounds_toArray, List.set_cons_zero, List.set_cons_succ])
            refine take_no (i := 13) rfl (by kernel_rfl) (by kernel_rfl) (by kernel_rfl) (fun _ _ _ h => h) (by rfl) hHeld ?_
            (try simp only [Act.put, List.setIfInBounds_toArray, List.set_cons_zero, List.set_cons_succ])
            refine take_yes (i := 14) (v := ?_) rfl (by kernel_rfl) (by kernel_rfl) (by kernel_rfl) (fun _ _ _ h => h) (by rfl) ?_ hHeld ?_
            rotate_left
            · (intro w hSw; (try dsimp only at hSw); go_simp; (try with_reducible rfl))
            (try simp only [Act.put, List.setIfInBounds_toArray, List.set_cons_zero, List.set_cons_succ])
            refine take_yes (i := 15) (v := ?_) rfl (by kernel_rfl) (by kernel_rfl) (by kernel_rfl) (fun _ _ _ h => h) (by rfl) ?_ hHeld ?_
            rotate_left
            · (intro w hSw; (try dsimp only at hSw); go_simp; (try with_reducible rfl))
            (try simp only [Act.put, List.setIfInBounds_toArray, List.set_cons_zero, List.set_cons_succ])
            refine take_yes (i := 16) (v := ?_) rfl (by kernel_rfl) (by kernel_rfl) (by kernel_rfl) (fun _ _ _ h => h) (by rfl) ?_ hHeld ?_
            rotate_left
            · (intro w hSw; (try dsimp only at hSw); go_simp; (try with_reducible rfl))
            (try simp only [Act.put, List.setIfInBounds_toArray, List.set_cons_zero, List.set_cons_succ])
            refine take_yes (i := 17) (v := ?_) rfl (by kernel_rfl) (by kernel_rfl) (by kernel_rfl) (fun _ _ _ h => h) (by rfl) ?_ hHeld ?_
            rotate_left
            · (intro w hSw; (try dsimp only at hSw); go_simp; (try with_reducible rfl))
            (try simp only [Act.put, List.setIfInBounds_toArray, List.set_cons_zero, List.set_cons_succ])
            refine take_yes (i := 18) (v := ?_) rfl (by kernel_rfl) (by kernel_rfl) (by kernel_rfl) (fun _ _ _ h => h) (by rfl) ?_ hHeld ?_
            rotate_left
            · (intro w hSw; (try dsimp only at hSw); go_simp; (try with_reducible rfl))
            (try simp only [Act.put, List.setIfInBounds_toArray, List.set_cons_zero, List.set_cons_succ])
            refine take_yes (i := 19) (v := ?_) rfl (by kernel_rfl) (by kernel_rfl) (by kernel_rfl) (fun _ _ _ h => h) (by rfl) ?_ hHeld ?_
            rotate_left
            · (intro w hSw; (try dsimp only at hSw); go_simp; (try with_reducible rfl))
            (try simp only [Act.put, List.setIfInBounds_toArray, List.set_cons_zero, List.set_cons_succ])
            refine take_yes (i := 20) (v := ?_) rfl (by kernel_rfl) (by kernel_rfl) (by kernel_rfl) (fun _ _ _ h => h) (by rfl) ?_ hHeld ?_
            rotate_left
            · (intro w hSw; (try dsimp only at hSw); go_simp; (try with_reducible rfl))
            (try simp only [Act.put, List.setIfInBounds_toArray, List.set_cons_zero, List.set_cons_succ])
            refine take_yes (i := 21) (v := ?_) rfl (by kernel_rfl) (by kernel_rfl) (by kernel_rfl) (fun _ _ _ h => h) (by rfl) ?_ hHeld ?_
            rotate_left
            · (intro w hSw; (try dsimp only at hSw); go_simp; (try with_reducible rfl))
            (try simp only [Act.put, List.setIfInBounds_toArray, List.set_cons_zero, List.set_cons_succ])
            refine take_yes (i := 22) (v := ?_) rfl (by kernel_rfl) (by kernel_rfl) (by kernel_rfl) (fun _ _ _ h => h) (by rfl) ?_ hHeld ?_
            rotate_left
            · (intro w hSw; (try dsimp only at hSw); go_simp; (try with_reducible rfl))
            (try simp only [Act.put, List.setIfInBounds_toArray, List.set_cons_zero, List.set_cons_succ])
            refine take_yes (i := 23) (v := ?_) rfl (by kernel_rfl) (by kernel_rfl) (by kernel_rfl) (fun _ _ _ h => h) (by rfl) ?_ hHeld ?_
            rotate_left
            · (intro w hSw; (try dsimp only at hSw); go_simp; (try with_reducible rfl))
            (try simp only [Act.put, List.setIfInBounds_toArray, List.set_cons_zero, List.set_cons_succ])
            refine take_yes (i := 24) (v := ?_) rfl (by kernel_rfl) (by kernel_rfl) (by kernel_rfl) (fun _ _ _ h => h) (by rfl) ?_ hHeld ?_
            rotate_left
            · (intro w hSw; (try dsimp only at hSw); go_simp; (try with_reducible rfl))
            (try simp only [Act.put, List.setIfInBounds_toArray, List.set_cons_zero, List.set_cons_succ])
            refine take_yes (i := 25) (v := ?_) rfl (by kernel_rfl) (by kernel_rfl) (by kernel_rfl) (fun _ _ _ h => h) (by rfl) ?_ hHeld ?_
            rotate_left
            · (intro w hSw; (try dsimp only at hSw); go_simp; (try with_reducible rfl))
            (try simp only [Act.put, List.setIfInBounds_toArray, List.set_cons_zero, List.set_cons_succ])
            refine take_yes (i := 26) (v := ?_) rfl (by kernel_rfl) (by kernel_rfl) (by kernel_rfl) (fun _ _ _ h => h) (by rfl) ?_ hHeld ?_
            rotate_left
            · (intro w hSw; (try dsimp only at hSw); go_simp; (try with_reducible rfl))
            (try simp only [Act.put, List.setIfInBounds_toArray, List.set_cons_zero, List.set_cons_succ])
            refine take_step (i := 27) rfl (by kernel_rfl) (fun K hK => ?_)
            go_simp
            (go_at_call 24; refine (hc' _ hW0).mono ?_; rintro e w1 ⟨rfl, hb1⟩; have hS1 := hk _ hb1; have hlf := hW0.trans (hb1.mono hW0.size); have hbf := hbW.trans (hb1.mono hbW.size))
            (try go_wp2_with fail)
            refine hK.out _ _ (hS1) (fun hHeld => ?_)
            clear hK K
            (try simp only [Act.put, List.setIfInBounds_toArray, List.set_cons_zero, List.set_cons_succ])
            refine take_yes (i := 28) (v := ?_) rfl (by kernel_rfl) (by kernel_rfl) (by kernel_rfl) (fun _ _ _ h => h) (by rfl) ?_ hHeld ?_
            rotate_left
            · (intro w hSw; (try dsimp only at hSw); go_simp; (try with_reducible rfl))
            (try simp only [Act.put, List.setIfInBounds_toArray, List.set_cons_zero, List.set_cons_succ])
            refine take_yes (i := 29) (v := ?_) rfl (by kernel_rfl) (by kernel_rfl) (by kernel_rfl) (fun _ _ _ h => h) (by rfl) ?_ hHeld ?_
            rotate_left
            · (intro w hSw; (try dsimp only at hSw); go_simp; (try with_reducible rfl))
            (try simp only [Act.put, List.setIfInBounds_toArray, List.set_cons_zero, List.set_cons_succ])
            refine take_yes (i := 30) (v := ?_) rfl (by kernel_rfl) (by kernel_rfl) (by kernel_rfl) (fun _ _ _ h => h) (by rfl) ?_ hHeld ?_
            rotate_left
            · (intro w hSw; (try dsimp only at hSw); go_simp; (try with_reducible rfl))
            (try simp only [Act.put, List.setIfInBounds_toArray, List.set_cons_zero, List.set_cons_succ])
            refine wpAnyH_done (by kernel_rfl) ?_ _
            go_wp2
            go_roundw
            case rel => exact ⟨j + 1, by omega, by go_num, HIT.out.succ hlt (fun f hf => by have := (List.getElem?_eq_some_iff.1 hf).1; rw [InTs_length] at this; omega) (fun _ => ⟨_, hKI.out, HIN.out⟩), hbf⟩
            case measure => simp [intOf]; omega
          · have HIN := Lib.hid hin
            have hc' := fun W hW => (hc W hW).mono fun e w' h => h.never hin
            clear hc hin
            go_wp2_with fail
            refine wp_region_held_drew (S := (fun w' => (w'.cell? ⟨w.heap.size + 1, 2, none⟩ = some (.slice A2 l.length c2) ∧ w'.cell? ⟨w.heap.size + 1, 3, none⟩ = some (.slice (some ⟨b', off', none⟩) m.length c3)) ∧ (w'.cell? ⟨wr.heap.size, 0, none⟩ = some (.int .i64 vs[j].kind) ∧ w'.cell? ⟨wr.heap.size, 1, none⟩ = some (.string vs[j].text) ∧ w'.cell? ⟨wr.heap.size, 2, none⟩ = some (.slice S1 vs[j].keys.length e1) ∧ w'.cell? ⟨wr.heap.size, 3, none⟩ = some (.slice S2 vs[j].kids.length e2)) ∧ (w'.cell? ⟨b', off', none⟩ = some (.int .i64 m[0].kind) ∧ w'.cell? ⟨b', off' + 1, none⟩ = some (.slice T1 m[0].keys.length f1) ∧ w'.cell? ⟨b', off' + 2, none⟩ = some (.slice T2 m[0].kids.length f2) ∧ w'.cell? ⟨b', off' + 3, none⟩ = some (.slice T3 m[0].more.length f3)))) (by kernel_rfl) (hS0) (fun hHeld => ?_)
            refine take_yes (i := 0) (v := ?_) rfl (by kernel_rfl) (by kernel_rfl) (by kernel_rfl) (fun _ _ _ h => h) (by rfl) ?_ hHeld ?_
            rotate_left
            · (intro w hSw; (try dsimp only at hSw); go_simp; (try with_reducible rfl))
            (try simp only [Act.put, List.setIfInBounds_toArray, List.set_cons_zero, List.set_cons_succ])
            refine take_yes (i := 1) (v := ?_) rfl (by kernel_rfl) (by kernel_rfl) (by kernel_rfl) (fun _ _ _ h => h) (by rfl) ?_ hHeld ?_
            rotate_left
            · (intro w hSw; (try dsimp only at hSw); go_simp; (try with_reducible rfl))
            (try simp only [Act.put, List.setIfInBounds_toArray, List.set_cons_zero, List.set_cons_succ])
            refine take_yes (i := 2) (v := ?_) rfl (by kernel_rfl) (by kernel_rfl) (by kernel_rfl) (fun _ _ _ h => h) (by rfl) ?_ hHeld ?_
            rotate_left
            · (intro w hSw; (try dsimp only at hSw); go_simp; (try with_reducible rfl))
            (try simp only [Act.put, List.setIfInBounds_toArray, List.set_cons_zero, List.set_cons_succ])
            refine take_yes (i := 3) (v := ?_) rfl (by kernel_rfl) (by kernel_rfl) (by kernel_rfl) (fun _ _ _ h => h) (by rfl) ?_ hHeld ?_
            rotate_left
            · (intro w hSw; (try dsimp only at hSw); go_simp; (try with_reducible rfl))
            (try simp only [Act.put, List.setIfInBounds_toArray, List.set_cons_zero, List.set_cons_succ])
            refine take_yes (i := 4) (v := ?_) rfl (by kernel_rfl) (by kernel_rfl) (by kernel_rfl) (fun _ _ _ h => h) (by rfl) ?_ hHeld ?_
            rotate_left
            · (intro w hSw; (try dsimp only at hSw); go_simp; (try with_reducible rfl))
            (try simp only [Act.put, List.setIfInBounds_toArray, List.set_cons_zero, List.set_cons_succ])
            refine take_yes (i := 5) (v := ?_) rfl (by kernel_rfl) (by kernel_rfl) (by kernel_rfl) (fun _ _ _ h => h) (by rfl) ?_ hHeld ?_
            rotate_left
            · (intro w hSw; (try dsimp only at hSw); go_simp; (try with_reducible rfl))
            (try simp only [Act.put, List.setIfInBounds_toArray, List.set_cons_zero, List.set_cons_succ])
            refine take_no (i := 6) rfl (by kernel_rfl) (by kernel_rfl) (by kernel_rfl) (fun _ _ _ h => h) (by rfl) hHeld ?_
            (try simp only [Act.put, List.setIfInBounds_toArray, List.set_cons_zero, List.set_cons_succ])
            refine take_no (i := 7) rfl (by kernel_rfl) (by kernel_rfl) (by kernel_rfl) (fun _ _ _ h => h) (by rfl) hHeld ?_
            (try simp only [Act.put, List.setIfInBounds_toArray, List.set_cons_zero, List.set_cons_succ])
            refine take_no (i := 8) rfl (by kernel_rfl) (by kernel_rfl) (by kernel_rfl) (fun _ _ _ h => h) (by rfl) hHeld ?_
            (try simp only [Act.put, List.setIfInBounds_toArray, List.set_cons_zero, List.set_cons_succ])
            refine take_no (i := 9) rfl (by kernel_rfl) (by kernel_rfl) (by kernel_rfl) (fun _ _ _ h => h) (by rfl) hHeld ?_
            (try simp only [Act.put, List.setIfInBounds_toArray, List.set_cons_zero, List.set_cons_succ])
            refine take_no (i := 10) rfl (by kernel_rfl) (by kernel_rfl) (by kernel_rfl) (fun _ _ _ h => h) (by rfl) hHeld ?_
            (try simp only [Act.put, List.setIfInBounds_toArray, List.set_cons_zero, List.set_cons_succ])
            refine take_no (i := 11) rfl (by kernel_rfl) (by kernel_rfl) (by kernel_rfl) (fun _ _ _ h => h) (by rfl) hHeld ?_
            (try simp only [Act.put, List.setIfInBounds_toArray, List.set_cons_zero, List.set_cons_succ])
            refine take_no (i := 12) rfl (by kernel_rfl) (by kernel_rfl) (by kernel_rfl) (fun _ _ _ h => h) (by rfl) hHeld ?_
            (try simp only [Act.put, List.setIfInBounds_toArray, List.set_cons_zero, List.set_cons_succ])
            refine take_no (i := 13) rfl (by kernel_rfl) (by kernel_rfl) (by kernel_rfl) (fun _ _ _ h => h) (by rfl) hHeld ?_
            (try simp only [Act.put, List.setIfInBounds_toArray, List.set_cons_zero, List.set_cons_succ])
            refine take_yes (i := 14) (v := ?_) rfl (by kernel_rfl) (by kernel_rfl) (by kernel_rfl) (fun _ _ _ h => h) (by rfl) ?_ hHeld ?_
            rotate_left
            · (intro w hSw; (try dsimp only at hSw); go_simp; (try with_reducible rfl))
            (try simp only [Act.put, List.setIfInBounds_toArray, List.set_cons_zero, List.set_cons_succ])
            refine take_yes (i := 15) (v := ?_) rfl (by kernel_rfl) (by kernel_rfl) (by kernel_rfl) (fun _ _ _ h => h) (by rfl) ?_ hHeld ?_
            rotate_left
            · (intro w hSw; (try dsimp only at hSw); go_simp; (try with_reducible rfl))
            (try simp only [Act.put, List.setIfInBounds_toArray, List.set_cons_zero, List.set_cons_succ])
            refine take_yes (i := 16) (v := ?_) rfl (by kernel_rfl) (by kernel_rfl) (by kernel_rfl) (fun _ _ _ h => h) (by rfl) ?_ hHeld ?_
            rotate_left
            · (intro w hSw; (try dsimp only at hSw); go_simp; (try with_reducible rfl))
            (try simp only [Act.put, List.setIfInBounds_toArray, List.set_cons_zero, List.set_cons_succ])
            refine take_yes (i := 17) (v := ?_) rfl (by kernel_rfl) (by kernel_rfl) (by kernel_rfl) (fun _ _ _ h => h) (by rfl) ?_ hHeld ?_
            rotate_left
            · (intro w hSw; (try dsimp only at hSw); go_simp; (try with_reducible rfl))
            (try simp only [Act.put, List.setIfInBounds_toArray, List.set_cons_zero, List.set_cons_succ])
            refine take_yes (i := 18) (v := ?_) rfl (by kernel_rfl) (by kernel_rfl) (by kernel_rfl) (fun _ _ _ h => h) (by rfl) ?_ hHeld ?_
            rotate_left
            · (intro w hSw; (try dsimp only at hSw); go_simp; (try with_reducible rfl))
            (try simp only [Act.put, List.setIfInBounds_toArray, List.set_cons_zero, List.set_cons_succ])
            refine take_yes (i := 19) (v := ?_) rfl (by kernel_rfl) (by kernel_rfl) (by kernel_rfl) (fun _ _ _ h => h) (by rfl) ?_ hHeld ?_
            rotate_left
            · (intro w hSw; (try dsimp only at hSw); go_simp; (try with_reducible rfl))
            (try simp only [Act.put, List.setIfInBounds_toArray, List.set_cons_zero, List.set_cons_succ])
            refine take_yes (i := 20) (v := ?_) rfl (by kernel_rfl) (by kernel_rfl) (by kernel_rfl) (fun _ _ _ h => h) (by rfl) ?_ hHeld ?_
            rotate_left
            · (intro w hSw; (try dsimp only at hSw); go_simp; (try with_reducible rfl))
            (try simp only [Act.put, List.setIfInBounds_toArray, List.set_cons_zero, List.set_cons_succ])
            refine take_yes (i := 21) (v := ?_) rfl (by kernel_rfl) (by kernel_rfl) (by kernel_rfl) (fun _ _ _ h => h) (by rfl) ?_ hHeld ?_
            rotate_left
            · (intro w hSw; (try dsimp only at hSw); go_simp; (try with_reducible rfl))
            (try simp only [Act.put, List.setIfInBounds_toArray, List.set_cons_zero, List.set_cons_succ])
            refine take_yes (i := 22) (v := ?_) rfl (by kernel_rfl) (by kernel_rfl) (by kernel_rfl) (fun _ _ _ h => h) (by rfl) ?_ hHeld ?_
            rotate_left
            · (intro w hSw; (try dsimp only at hSw); go_simp; (try with_reducible rfl))
            (try simp only [Act.put, List.setIfInBounds_toArray, List.set_cons_zero, List.set_cons_succ])
            refine take_yes (i := 23) (v := ?_) rfl (by kernel_rfl) (by kernel_rfl) (by kernel_rfl) (fun _ _ _ h => h) (by rfl) ?_ hHeld ?_
            rotate_left
            · (intro w hSw; (try dsimp only at hSw); go_simp; (try with_reducible rfl))
            (try simp only [Act.put, List.setIfInBounds_toArray, List.set_cons_zero, List.set_cons_succ])
            refine take_yes (i := 24) (v := ?_) rfl (by kernel_rfl) (by kernel_rfl) (by kernel_rfl) (fun _ _ _ h => h) (by rfl) ?_ hHeld ?_
            rotate_left
            · (intro w hSw; (try dsimp only at hSw); go_simp; (try with_reducible rfl))
            (try simp only [Act.put, List.setIfInBounds_toArray, List.set_cons_zero, List.set_cons_succ])
            refine take_yes (i := 25) (v := ?_) rfl (by kernel_rfl) (by kernel_rfl) (by kernel_rfl) (fun _ _ _ h => h) (by rfl) ?_ hHeld ?_
            rotate_left
            · (intro w hSw; (try dsimp only at hSw); go_simp; (try with_reducible rfl))
            (try simp only [Act.put, List.setIfInBounds_toArray, List.set_cons_zero, List.set_cons_succ])
            refine take_yes (i := 26) (v := ?_) rfl (by kernel_rfl) (by kernel_rfl) (by kernel_rfl) (fun _ _ _ h => h) (by rfl) ?_ hHeld ?_
            rotate_left
            · (intro w hSw; (try dsimp only at hSw); go_simp; (try with_reducible rfl))
            (try simp only [Act.put, List.setIfInBounds_toArray, List.set_cons_zero, List.set_cons_succ])
            refine take_step (i := 27) rfl (by kernel_rfl) (fun K hK => ?_)
            go_simp
            (go_at_call 24; refine (hc' _ hW0).mono ?_; rintro e w1 ⟨rfl, hb1⟩; have hS1 := hk _ hb1; have hlf := hW0.trans (hb1.mono hW0.size); have hbf := hbW.trans (hb1.mono hbW.size))
            (try go_wp2_with fail)
            refine hK.out _ _ (hS1) (fun hHeld => ?_)
            clear hK K
            (try simp only [Act.put, List.setIfInBounds_toArray, List.set_cons_zero, List.set_cons_succ])
            refine take_yes (i := 28) (v := ?_) rfl (by kernel_rfl) (by kernel_rfl) (by kernel_rfl) (fun _ _ _ h => h) (by rfl) ?_ hHeld ?_
            rotate_left
            · (intro w hSw; (try dsimp only at hSw); go_simp; (try with_reducible rfl))
            (try simp only [Act.put, List.setIfInBounds_toArray, List.set_cons_zero, List.set_cons_succ])
            refine take_yes (i := 29) (v := ?_) rfl (by kernel_rfl) (by kernel_rfl) (by kernel_rfl) (fun _ _ _ h => h) (by rfl) ?_ hHeld ?_
            rotate_left
            · (intro w hSw; (try dsimp only at hSw); go_simp; (try with_reducible rfl))
            (try simp only [Act.put, List.setIfInBounds_toArray, List.set_cons_zero, List.set_cons_succ])
            refine take_yes (i := 30) (v := ?_) rfl (by kernel_rfl) (by kernel_rfl) (by kernel_rfl) (fun _ _ _ h => h) (by rfl) ?_ hHeld ?_
            rotate_left
            · (intro w hSw; (try dsimp only at hSw); go_simp; (try with_reducible rfl))
            (try simp only [Act.put, List.setIfInBounds_toArray, List.set_cons_zero, List.set_cons_succ])
            refine wpAnyH_done (by kernel_rfl) ?_ _
            go_wp2
            go_ret
            exact BoolPost.no (fun h => by obtain ⟨f, hf, hx⟩ := (h.2.2 j hlt).2 (by rw [InTs_length]; omega); rw [hKI.out] at hf; cases hf; exact HIN.out hx) hlf
      · have ej : j = vs.length := by omega
        subst ej
        go_wp2
        go_ret
        refine BoolPost.yes ⟨by rw [InTs_length]; omega, fun h => ?_, fun i hi => HIT.out i hi hi⟩ hlw
        rw [InTs_nil] at h
        rw [InTs_length]
        have := HM.out
        omega

end Go.Proofs.YtpmfjbmfjfhghaaGreat
