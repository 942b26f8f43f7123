/-
  'nilRec' at objects (laid by gen_nil2.py).
-/
import Derived.Test.YtpmfjbmfjfhghaaGreatNil
namespace Go.Proofs.YtpmfjbmfjfhghaaGreat
open Go.RowKit

set_option maxHeartbeats 8000000 in
set_option maxRecDepth 100000 in
/-- Object types whose parts are known. -/
theorem nilRec_obj (g : Nat) (A : Option Addr) (c : Nat) (dp : Value) (gs : List Nat) (ks : List Ky) (vs : List Value) (F : Nat → Prop) (s : Value) (w : World) (hs : SeenOk w s) (hb : Blk w g 142 #[.slice A ks.length c, dp]) (hg : NilX w s g) (hrow : rowAt w F A (gs.map ptr)) (hp : props w F gs ks vs) (hF : ∀ b, F b → NilX w s b)
    (hlen : ks.length ≤ 1048576) (hkid : ∀ i (hi : i < vs.length), (∃ T y, vs[i] = .iface T y) ∧ KidOk w s vs[i] false)
    (hd : dp = .pointer none ∨ ∃ g' T x T' y, dp = ptr g' ∧ NilX w s g' ∧ Blk w g' 132 #[.iface T x, .iface T' y] ∧ KidOk w s (.iface T x) false ∧ KidOk w s (.iface T' y) false) :
    Calls Tryz.prog 79 #[.iface 109 (ptr g), s] w (NilPost false s w) := by
  have hdy : Dyn 109 5 := by simp [Dyn]
  have h1 := fun W => unwrap_any 109 5 (ptr g) W hdy
  have h2 := fun W => unwrapRec_any 109 5 (ptr g) W hdy
  have q0 := hb.cell 0
  have q1 := hb.cell 1
  simp at q0 q1
  have hgl := hg.1
  have hbb : w.heap[g]? = some (.cells #[.slice A ks.length c, dp] 142 (0, 0)) := hb
  have hpl := hp.length
  have hkids : ∀ j, j < ks.length → ∃ b off gp T y, A = some ⟨b, off, none⟩ ∧ NilX w s b ∧ NilX w s gp ∧ w.cell? ⟨b, off + j, none⟩ = some (ptr gp) ∧ w.cell? ⟨gp, 1, none⟩ = some (.iface T y) ∧ KidOk w s (.iface T y) false := fun j hj => by
    obtain ⟨gp, v, h3, h4, h5, h6⟩ := hp.get j hj
    obtain ⟨b, off, hA, hb', hc⟩ := hrow j (ptr gp) (by rw [List.getElem?_map, h3]; rfl)
    have hj' : j < vs.length := by omega
    obtain ⟨⟨T, y, e⟩, hk⟩ := hkid j hj'
    have e2 : v = vs[j] := by rw [List.getElem?_eq_getElem hj'] at h4; exact (Option.some.inj h4).symm
    have h7 := h6.cell 1
    simp at h7
    refine ⟨b, off, gp, T, y, hA, hF _ hb', hF _ h5, hc, ?_, by rw [← e]; exact hk⟩
    rw [h7, e2, e]
  have HKD := Lib.hid hkids
  have hkey : ∀ W, Kept (NilX w s) w W → SeenKey W (.iface 109 (ptr g)) := fun W hW => ⟨g, _, _, .inr rfl, (hW.block g hg).trans hbb⟩
  have hst := NilR.start hs
  have hs1 := hs
  have hmn : ∀ (W : World) (r : Option Nat), Sem.run Tryz.prog (binOp .eql 155 (.map r) (.map none)) W = .ok (.bool r.isNone) W := fun W r => run_eql_map_nil W 155 _ _ r Tryz.underlying155
  clear hdy hb hrow hp hF hkid hkids hbb hpl

  rcases hs with rfl | ⟨g', rfl, hm0⟩ <;> rcases hd with rfl | ⟨gd, T, x, T', y, rfl, hgd, hbd, hk1, hk2⟩
  · go_enter Tryz.func79, Tryz.ntmps79
    go_wp2_with fail
    refine (h1 _).mono ?_
    rintro e w' ⟨rfl, rfl⟩
    go_wp2_with fail
    refine (h2 _).mono ?_
    rintro e w' ⟨rfl, rfl⟩
    go_upto_region 25 with (at_lookup; go_must (refine wpList_lookup_seen (by rfl) _ _ (by rfl) (.map none) _ (by rfl) (by rfl) (hkey _ hst.kept) hst.seen ?_); intro bf hbf)
    obtain rfl : bf = false := by simpa using hbf
    clear hbf
    have hmm := @run_makeMap Tryz.prog
    have hbx : Blk (((w.alloc (.cells #[.map (some (w.heap.size + 1 + 1))] 155)).alloc (.cells #[] 93)).alloc (.map #[] 0)) w.heap.size 155 #[.map (some (w.heap.size + 1 + 1))] := ((Blk.new w 155 _).alloc _).alloc _
    have hkw : Kept (NilX w (.map none)) w (((w.alloc (.cells #[.map (some (w.heap.size + 1 + 1))] 155)).alloc (.cells #[] 93)).alloc (.map #[] 0)) := (((Kept.refl _ w).alloc (fun b hb => hb.1) _).alloc (fun b hb => by have := hb.1; simp; omega) _).alloc (fun b hb => by have := hb.1; simp; omega) _
    have hM : SeenMap (((w.alloc (.cells #[.map (some (w.heap.size + 1 + 1))] 155)).alloc (.cells #[] 93)).alloc (.map #[] 0)) (w.heap.size + 1 + 1) := SeenMap.empty (by simpa using heap_alloc_new ((w.alloc (.cells #[.map (some (w.heap.size + 1 + 1))] 155)).alloc (.cells #[] 93)) (.map #[] 0))
    clear hst hs1
    go_upto_region 30 with (at_mapUpdate; go_must (refine wpList_store_seen (by rfl) _ _ _ (by rfl) (w.heap.size + 1 + 1) _ (by rfl) (by rfl) (by rfl) (hkey _ hkw) hM ?_); intro w1 hm1 hk1 hz1)
    have hR : NilR w (.map none) w.heap.size (.map (some (w.heap.size + 1 + 1))) w1 := ⟨hkw.trans (hk1.mono fun b hb => by have := hb.1; omega), .inr ⟨_, rfl, hm1⟩, hbx.kept hk1 (by omega), fun b hb e => by simp at e; omega, .inr rfl⟩
    have z5 := hR.box.cell 0
    simp at z5
    have z6 := hR.box.lt
    have z7 := (hR.cell (o := 0) hg).trans q0
    have z8 : g < w1.heap.size := by omega
    clear hbx hkw hM hm1 hk1 hz1 hmm
    clear z5 z6
    go_wp2
    go_loopw [93] (fun i wr => ∃ j : Nat, j ≤ ks.length ∧ i = .int .i64 j ∧ NilR w (.map none) w.heap.size (.map (some (w.heap.size + 1 + 1))) wr) (fun i _ => ks.length - (intOf i).toNat)
    case atStart => exact ⟨0, Nat.zero_le _, rfl, hR⟩
    case round =>
      obtain ⟨j, hj, rfl, hr⟩ := hrel
      clear hR z7 z8
      by_cases hlt : j < ks.length
      · obtain ⟨b, off, gp, T1, y1, hA, hnb, hng, p0, p1, hkd⟩ := HKD.out j hlt
        subst hA
        have hr0 := hr.drew
        have hS0 : (fun W => W.cell? ⟨g, 0, none⟩ = some (.slice (some ⟨b, off, none⟩) ks.length c) ∧ W.cell? ⟨b, off + j, none⟩ = some (ptr gp) ∧ W.cell? ⟨gp, 1, none⟩ = some (.iface T1 y1) ∧ W.cell? ⟨w.heap.size, 0, none⟩ = some (.map (some (w.heap.size + 1 + 1)))) wr.drew := ⟨(hr0.cell hg).trans q0, (hr0.cell hnb).trans p0, (hr0.cell hng).trans p1, hr0.box.cell 0⟩
        go_wp2_with fail
        refine wp_region_held_drew (S := (fun W => W.cell? ⟨g, 0, none⟩ = some (.slice (some ⟨b, off, none⟩) ks.length c) ∧ W.cell? ⟨b, off + j, none⟩ = some (ptr gp) ∧ W.cell? ⟨gp, 1, none⟩ = some (.iface T1 y1) ∧ W.cell? ⟨w.heap.size, 0, none⟩ = some (.map (some (w.heap.size + 1 + 1))))) (by kernel_rfl) (hS0) (fun hHeld => ?_)
        refine take_yes (i := 0) (v := ?_) rfl (by kernel_rfl) (by kernel_rfl) (by kernel_rfl) (fun _ _ _ h => h) (by rfl) ?_ hHeld ?_
        rotate_left
        · (intro w hSw; (try dsimp only at hSw); go_simp; (try with_reducible rfl))
        (try simp only [Act.put, List.setIfInBounds_toArray, List.set_cons_zero, List.set_cons_succ])
        refine take_yes (i := 1) (v := ?_) rfl (by kernel_rfl) (by kernel_rfl) (by kernel_rfl) (fun _ _ _ h => h) (by rfl) ?_ hHeld ?_
        rotate_left
        · (intro w hSw; (try dsimp only at hSw); go_simp; (try with_reducible rfl))
        (try simp only [Act.put, List.setIfInBounds_toArray, List.set_cons_zero, List.set_cons_succ])
        refine take_yes (i := 2) (v := ?_) rfl (by kernel_rfl) (by kernel_rfl) (by kernel_rfl) (fun _ _ _ h => h) (by rfl) ?_ hHeld ?_
        rotate_left
        · (intro w hSw; (try dsimp only at hSw); go_simp; (try with_reducible rfl))
        (try simp only [Act.put, List.setIfInBounds_toArray, List.set_cons_zero, List.set_cons_succ])
        refine take_yes (i := 3) (v := ?_) rfl (by kernel_rfl) (by kernel_rfl) (by kernel_rfl) (fun _ _ _ h => h) (by rfl) ?_ hHeld ?_
        rotate_left
        · (intro w hSw; (try dsimp only at hSw); go_simp; (try with_reducible rfl))
        (try simp only [Act.put, List.setIfInBounds_toArray, List.set_cons_zero, List.set_cons_succ])
        refine take_yes (i := 4) (v := ?_) rfl (by kernel_rfl) (by kernel_rfl) (by kernel_rfl) (fun _ _ _ h => h) (by rfl) ?_ hHeld ?_
        rotate_left
        · (intro w hSw; (try dsimp only at hSw); go_simp; (try with_reducible rfl))
        (try simp only [Act.put, List.setIfInBounds_toArray, List.set_cons_zero, List.set_cons_succ])
        refine take_yes (i := 5) (v := ?_) rfl (by kernel_rfl) (by kernel_rfl) (by kernel_rfl) (fun _ _ _ h => h) (by rfl) ?_ hHeld ?_
        rotate_left
        · (intro w hSw; (try dsimp only at hSw); go_simp; (try with_reducible rfl))
        (try simp only [Act.put, List.setIfInBounds_toArray, List.set_cons_zero, List.set_cons_succ])
        refine take_yes (i := 6) (v := ?_) rfl (by kernel_rfl) (by kernel_rfl) (by kernel_rfl) (fun _ _ _ h => h) (by rfl) ?_ hHeld ?_
        rotate_left
        · (intro w hSw; (try dsimp only at hSw); go_simp; (try with_reducible rfl))
        (try simp only [Act.put, List.setIfInBounds_toArray, List.set_cons_zero, List.set_cons_succ])
        refine take_yes (i := 7) (v := ?_) rfl (by kernel_rfl) (by kernel_rfl) (by kernel_rfl) (fun _ _ _ h => h) (by rfl) ?_ hHeld ?_
        rotate_left
        · (intro w hSw; (try dsimp only at hSw); go_simp; (try with_reducible rfl))
        (try simp only [Act.put, List.setIfInBounds_toArray, List.set_cons_zero, List.set_cons_succ])
        refine take_yes (i := 8) (v := ?_) rfl (by kernel_rfl) (by kernel_rfl) (by kernel_rfl) (fun _ _ _ h => h) (by rfl) ?_ hHeld ?_
        rotate_left
        · (intro w hSw; (try dsimp only at hSw); go_simp; (try with_reducible rfl))
        (try simp only [Act.put, List.setIfInBounds_toArray, List.set_cons_zero, List.set_cons_succ])
        refine take_yes (i := 9) (v := ?_) rfl (by kernel_rfl) (by kernel_rfl) (by kernel_rfl) (fun _ _ _ h => h) (by rfl) ?_ hHeld ?_
        rotate_left
        · (intro w hSw; (try dsimp only at hSw); go_simp; (try with_reducible rfl))
        (try simp only [Act.put, List.setIfInBounds_toArray, List.set_cons_zero, List.set_cons_succ])
        refine take_yes (i := 10) (v := ?_) rfl (by kernel_rfl) (by kernel_rfl) (by kernel_rfl) (fun _ _ _ h => h) (by rfl) ?_ hHeld ?_
        rotate_left
        · (intro w hSw; (try dsimp only at hSw); go_simp; (try with_reducible rfl))
        (try simp only [Act.put, List.setIfInBounds_toArray, List.set_cons_zero, List.set_cons_succ])
        refine take_step (i := 11) rfl (by kernel_rfl) (fun K hK => ?_)
        go_simp
        (go_at_call 79; refine (hkd _ _ _ hr0).mono ?_; rintro e w4 hp; have hr4 := hr0.next hp; obtain ⟨rfl, _⟩ := hp)
        (try go_wp2_with fail)
        refine hK.out _ _ (⟨(hr4.cell hg).trans q0, (hr4.cell hnb).trans p0, (hr4.cell hng).trans p1, hr4.box.cell 0⟩) (fun hHeld => ?_)
        clear hK K
        (try simp only [Act.put, List.setIfInBounds_toArray, List.set_cons_zero, List.set_cons_succ])
        refine wpAnyH_done (by kernel_rfl) ?_ _
        clear hr hr0 hS0
        go_wp2
        go_roundw
        case rel => exact ⟨j + 1, by omega, by go_num, hr4⟩
        case measure => simp [intOf]; omega
      · have ej : j = ks.length := by omega
        subst ej
        have z1 := (hr.cell (o := 1) hg).trans q1
        have z8 : g < wr.heap.size := by have := hr.kept.size; omega
        go_wp2
        go_ret
        exact hr.post
  · have d0 := hbd.cell 0
    have d1 := hbd.cell 1
    simp at d0 d1
    clear hbd
    go_enter Tryz.func79, Tryz.ntmps79
    go_wp2_with fail
    refine (h1 _).mono ?_
    rintro e w' ⟨rfl, rfl⟩
    go_wp2_with fail
    refine (h2 _).mono ?_
    rintro e w' ⟨rfl, rfl⟩
    go_upto_region 25 with (at_lookup; go_must (refine wpList_lookup_seen (by rfl) _ _ (by rfl) (.map none) _ (by rfl) (by rfl) (hkey _ hst.kept) hst.seen ?_); intro bf hbf)
    obtain rfl : bf = false := by simpa using hbf
    clear hbf
    have hmm := @run_makeMap Tryz.prog
    have hbx : Blk (((w.alloc (.cells #[.map (some (w.heap.size + 1 + 1))] 155)).alloc (.cells #[] 93)).alloc (.map #[] 0)) w.heap.size 155 #[.map (some (w.heap.size + 1 + 1))] := ((Blk.new w 155 _).alloc _).alloc _
    have hkw : Kept (NilX w (.map none)) w (((w.alloc (.cells #[.map (some (w.heap.size + 1 + 1))] 155)).alloc (.cells #[] 93)).alloc (.map #[] 0)) := (((Kept.refl _ w).alloc (fun b hb => hb.1) _).alloc (fun b hb => by have := hb.1; simp; omega) _).alloc (fun b hb => by have := hb.1; simp; omega) _
    have hM : SeenMap (((w.alloc (.cells #[.map (some (w.heap.size + 1 + 1))] 155)).alloc (.cells #[] 93)).alloc (.map #[] 0)) (w.heap.size + 1 + 1) := SeenMap.empty (by simpa using heap_alloc_new ((w.alloc (.cells #[.map (some (w.heap.size + 1 + 1))] 155)).alloc (.cells #[] 93)) (.map #[] 0))
    clear hst hs1
    go_upto_region 30 with (at_mapUpdate; go_must (refine wpList_store_seen (by rfl) _ _ _ (by rfl) (w.heap.size + 1 + 1) _ (by rfl) (by rfl) (by rfl) (hkey _ hkw) hM ?_); intro w1 hm1 hk1 hz1)
    have hR : NilR w (.map none) w.heap.size (.map (some (w.heap.size + 1 + 1))) w1 := ⟨hkw.trans (hk1.mono fun b hb => by have := hb.1; omega), .inr ⟨_, rfl, hm1⟩, hbx.kept hk1 (by omega), fun b hb e => by simp at e; omega, .inr rfl⟩
    have z5 := hR.box.cell 0
    simp at z5
    have z6 := hR.box.lt
    have z7 := (hR.cell (o := 0) hg).trans q0
    have z8 : g < w1.heap.size := by omega
    clear hbx hkw hM hm1 hk1 hz1 hmm
    clear z5 z6
    go_wp2
    go_loopw [93] (fun i wr => ∃ j : Nat, j ≤ ks.length ∧ i = .int .i64 j ∧ NilR w (.map none) w.heap.size (.map (some (w.heap.size + 1 + 1))) wr) (fun i _ => ks.length - (intOf i).toNat)
    case atStart => exact ⟨0, Nat.zero_le _, rfl, hR⟩
    case round =>
      obtain ⟨j, hj, rfl, hr⟩ := hrel
      clear hR z7 z8
      by_cases hlt : j < ks.length
      · obtain ⟨b, off, gp, T1, y1, hA, hnb, hng, p0, p1, hkd⟩ := HKD.out j hlt
        subst hA
        have hr0 := hr.drew
        have hS0 : (fun W => W.cell? ⟨g, 0, none⟩ = some (.slice (some ⟨b, off, none⟩) ks.length c) ∧ W.cell? ⟨b, off + j, none⟩ = some (ptr gp) ∧ W.cell? ⟨gp, 1, none⟩ = some (.iface T1 y1) ∧ W.cell? ⟨w.heap.size, 0, none⟩ = some (.map (some (w.heap.size + 1 + 1)))) wr.drew := ⟨(hr0.cell hg).trans q0, (hr0.cell hnb).trans p0, (hr0.cell hng).trans p1, hr0.box.cell 0⟩
        go_wp2_with fail
        refine wp_region_held_drew (S := (fun W => W.cell? ⟨g, 0, none⟩ = some (.slice (some ⟨b, off, none⟩) ks.length c) ∧ W.cell? ⟨b, off + j, none⟩ = some (ptr gp) ∧ W.cell? ⟨gp, 1, none⟩ = some (.iface T1 y1) ∧ W.cell? ⟨w.heap.size, 0, none⟩ = some (.map (some (w.heap.size + 1 + 1))))) (by kernel_rfl) (hS0) (fun hHeld => ?_)
        refine take_yes (i := 0) (v := ?_) rfl (by kernel_rfl) (by kernel_rfl) (by kernel_rfl) (fun _ _ _ h => h) (by rfl) ?_ hHeld ?_
        rotate_left
        · (intro w hSw; (try dsimp only at hSw); go_simp; (try with_reducible rfl))
        (try simp only [Act.put, List.setIfInBounds_toArray, List.set_cons_zero, List.set_cons_succ])
        refine take_yes (i := 1) (v := ?_) rfl (by kernel_rfl) (by kernel_rfl) (by kernel_rfl) (fun _ _ _ h => h) (by rfl) ?_ hHeld ?_
        rotate_left
        · (intro w hSw; (try dsimp only at hSw); go_simp; (try with_reducible rfl))
        (try simp only [Act.put, List.setIfInBounds_toArray, List.set_cons_zero, List.set_cons_succ])
        refine take_yes (i := 2) (v := ?_) rfl (by kernel_rfl) (by kernel_rfl) (by kernel_rfl) (fun _ _ _ h => h) (by rfl) ?_ hHeld ?_
        rotate_left
        · (intro w hSw; (try dsimp only at hSw); go_simp; (try with_reducible rfl))
        (try simp only [Act.put, List.setIfInBounds_toArray, List.set_cons_zero, List.set_cons_succ])
        refine take_yes (i := 3) (v := ?_) rfl (by kernel_rfl) (by kernel_rfl) (by kernel_rfl) (fun _ _ _ h => h) (by rfl) ?_ hHeld ?_
        rotate_left
        · (intro w hSw; (try dsimp only at hSw); go_simp; (try with_reducible rfl))
        (try simp only [Act.put, List.setIfInBounds_toArray, List.set_cons_zero, List.set_cons_succ])
        refine take_yes (i := 4) (v := ?_) rfl (by kernel_rfl) (by kernel_rfl) (by kernel_rfl) (fun _ _ _ h => h) (by rfl) ?_ hHeld ?_
        rotate_left
        · (intro w hSw; (try dsimp only at hSw); go_simp; (try with_reducible rfl))
        (try simp only [Act.put, List.setIfInBounds_toArray, List.set_cons_zero, List.set_cons_succ])
        refine take_yes (i := 5) (v := ?_) rfl (by kernel_rfl) (by kernel_rfl) (by kernel_rfl) (fun _ _ _ h => h) (by rfl) ?_ hHeld ?_
        rotate_left
        · (intro w hSw; (try dsimp only at hSw); go_simp; (try with_reducible rfl))
        (try simp only [Act.put, List.setIfInBounds_toArray, List.set_cons_zero, List.set_cons_succ])
        refine take_yes (i := 6) (v := ?_) rfl (by kernel_rfl) (by kernel_rfl) (by kernel_rfl) (fun _ _ _ h => h) (by rfl) ?_ hHeld ?_
        rotate_left
        · (intro w hSw; (try dsimp only at hSw); go_simp; (try with_reducible rfl))
        (try simp only [Act.put, List.setIfInBounds_toArray, List.set_cons_zero, List.set_cons_succ])
        refine take_yes (i := 7) (v := ?_) rfl (by kernel_rfl) (by kernel_rfl) (by kernel_rfl) (fun _ _ _ h => h) (by rfl) ?_ hHeld ?_
        rotate_left
        · (intro w hSw; (try dsimp only at hSw); go_simp; (try with_reducible rfl))
        (try simp only [Act.put, List.setIfInBounds_toArray, List.set_cons_zero, List.set_cons_succ])
        refine take_yes (i := 8) (v := ?_) rfl (by kernel_rfl) (by kernel_rfl) (by kernel_rfl) (fun _ _ _ h => h) (by rfl) ?_ hHeld ?_
        rotate_left
        · (intro w hSw; (try dsimp only at hSw); go_simp; (try with_reducible rfl))
        (try simp only [Act.put, List.setIfInBounds_toArray, List.set_cons_zero, List.set_cons_succ])
        refine take_yes (i := 9) (v := ?_) rfl (by kernel_rfl) (by kernel_rfl) (by kernel_rfl) (fun _ _ _ h => h) (by rfl) ?_ hHeld ?_
        rotate_left
        · (intro w hSw; (try dsimp only at hSw); go_simp; (try with_reducible rfl))
        (try simp only [Act.put, List.setIfInBounds_toArray, List.set_cons_zero, List.set_cons_succ])
        refine take_yes (i := 10) (v := ?_) rfl (by kernel_rfl) (by kernel_rfl) (by kernel_rfl) (fun _ _ _ h => h) (by rfl) ?_ hHeld ?_
        rotate_left
        · (intro w hSw; (try dsimp only at hSw); go_simp; (try with_reducible rfl))
        (try simp only [Act.put, List.setIfInBounds_toArray, List.set_cons_zero, List.set_cons_succ])
        refine take_step (i := 11) rfl (by kernel_rfl) (fun K hK => ?_)
        go_simp
        (go_at_call 79; refine (hkd _ _ _ hr0).mono ?_; rintro e w4 hp; have hr4 := hr0.next hp; obtain ⟨rfl, _⟩ := hp)
        (try go_wp2_with fail)
        refine hK.out _ _ (⟨(hr4.cell hg).trans q0, (hr4.cell hnb).trans p0, (hr4.cell hng).trans p1, hr4.box.cell 0⟩) (fun hHeld => ?_)
        clear hK K
        (try simp only [Act.put, List.setIfInBounds_toArray, List.set_cons_zero, List.set_cons_succ])
        refine wpAnyH_done (by kernel_rfl) ?_ _
        clear hr hr0 hS0
        go_wp2
        go_roundw
        case rel => exact ⟨j + 1, by omega, by go_num, hr4⟩
        case measure => simp [intOf]; omega
      · have ej : j = ks.length := by omega
        subst ej
        have z1 := (hr.cell (o := 1) hg).trans q1
        have z8 : g < wr.heap.size := by have := hr.kept.size; omega
        have hr0 := hr.drew
        go_wp2_with fail
        refine wp_region_held_drew (S := (fun W => W.cell? ⟨g, 1, none⟩ = some (ptr gd) ∧ W.cell? ⟨gd, 0, none⟩ = some (.iface T x) ∧ W.cell? ⟨gd, 1, none⟩ = some (.iface T' y) ∧ W.cell? ⟨w.heap.size, 0, none⟩ = some (.map (some (w.heap.size + 1 + 1))))) (by kernel_rfl) (⟨(hr0.cell hg).trans q1, (hr0.cell hgd).trans d0, (hr0.cell hgd).trans d1, hr0.box.cell 0⟩) (fun hHeld => ?_)
        refine take_yes (i := 0) (v := ?_) rfl (by kernel_rfl) (by kernel_rfl) (by kernel_rfl) (fun _ _ _ h => h) (by rfl) ?_ hHeld ?_
        rotate_left
        · (intro w hSw; (try dsimp only at hSw); go_simp; (try with_reducible rfl))
        (try simp only [Act.put, List.setIfInBounds_toArray, List.set_cons_zero, List.set_cons_succ])
        refine take_yes (i := 1) (v := ?_) rfl (by kernel_rfl) (by kernel_rfl) (by kernel_rfl) (fun _ _ _ h => h) (by rfl) ?_ hHeld ?_
        rotate_left
        · (intro w hSw; (try dsimp only at hSw); go_simp; (try with_reducible rfl))
        (try simp only [Act.put, List.setIfInBounds_toArray, List.set_cons_zero, List.set_cons_succ])
        refine take_yes (i := 2) (v := ?_) rfl (by kernel_rfl) (by kernel_rfl) (by kernel_rfl) (fun _ _ _ h => h) (by rfl) ?_ hHeld ?_
        rotate_left
        · (intro w hSw; (try dsimp only at hSw); go_simp; (try with_reducible rfl))
        (try simp only [Act.put, List.setIfInBounds_toArray, List.set_cons_zero, List.set_cons_succ])
        refine take_yes (i := 3) (v := ?_) rfl (by kernel_rfl) (by kernel_rfl) (by kernel_rfl) (fun _ _ _ h => h) (by rfl) ?_ hHeld ?_
        rotate_left
        · (intro w hSw; (try dsimp only at hSw); go_simp; (try with_reducible rfl))
        (try simp only [Act.put, List.setIfInBounds_toArray, List.set_cons_zero, List.set_cons_succ])
        refine take_yes (i := 4) (v := ?_) rfl (by kernel_rfl) (by kernel_rfl) (by kernel_rfl) (fun _ _ _ h => h) (by rfl) ?_ hHeld ?_
        rotate_left
        · (intro w hSw; (try dsimp only at hSw); go_simp; (try with_reducible rfl))
        (try simp only [Act.put, List.setIfInBounds_toArray, List.set_cons_zero, List.set_cons_succ])
        refine take_yes (i := 5) (v := ?_) rfl (by kernel_rfl) (by kernel_rfl) (by kernel_rfl) (fun _ _ _ h => h) (by rfl) ?_ hHeld ?_
        rotate_left
        · (intro w hSw; (try dsimp only at hSw); go_simp; (try with_reducible rfl))
        (try simp only [Act.put, List.setIfInBounds_toArray, List.set_cons_zero, List.set_cons_succ])
        refine take_yes (i := 6) (v := ?_) rfl (by kernel_rfl) (by kernel_rfl) (by kernel_rfl) (fun _ _ _ h => h) (by rfl) ?_ hHeld ?_
        rotate_left
        · (intro w hSw; (try dsimp only at hSw); go_simp; (try with_reducible rfl))
        (try simp only [Act.put, List.setIfInBounds_toArray, List.set_cons_zero, List.set_cons_succ])
        refine take_yes (i := 7) (v := ?_) rfl (by kernel_rfl) (by kernel_rfl) (by kernel_rfl) (fun _ _ _ h => h) (by rfl) ?_ hHeld ?_
        rotate_left
        · (intro w hSw; (try dsimp only at hSw); go_simp; (try with_reducible rfl))
        (try simp only [Act.put, List.setIfInBounds_toArray, List.set_cons_zero, List.set_cons_succ])
        refine take_step (i := 8) rfl (by kernel_rfl) (fun K hK => ?_)
        go_simp
        (go_at_call 79; refine (hk1 _ _ _ hr0).mono ?_; rintro e w4 hp; have hr4 := hr0.next hp; obtain ⟨rfl, _⟩ := hp)
        (try go_wp2_with fail)
        refine hK.out _ _ (⟨(hr4.cell hg).trans q1, (hr4.cell hgd).trans d0, (hr4.cell hgd).trans d1, hr4.box.cell 0⟩) (fun hHeld => ?_)
        clear hK K
        (try simp only [Act.put, List.setIfInBounds_toArray, List.set_cons_zero, List.set_cons_succ])
        refine take_yes (i := 9) (v := ?_) rfl (by kernel_rfl) (by kernel_rfl) (by kernel_rfl) (fun _ _ _ h => h) (by rfl) ?_ hHeld ?_
        rotate_left
        · (intro w hSw; (try dsimp only at hSw); go_simp; (try with_reducible rfl))
        (try simp only [Act.put, List.setIfInBounds_toArray, List.set_cons_zero, List.set_cons_succ])
        refine take_yes (i := 10) (v := ?_) rfl (by kernel_rfl) (by kernel_rfl) (by kernel_rfl) (fun _ _ _ h => h) (by rfl) ?_ hHeld ?_
        rotate_left
        · (intro w hSw; (try dsimp only at hSw); go_simp; (try with_reducible rfl))
        (try simp only [Act.put, List.setIfInBounds_toArray, List.set_cons_zero, List.set_cons_succ])
        refine take_yes (i := 11) (v := ?_) rfl (by kernel_rfl) (by kernel_rfl) (by kernel_rfl) (fun _ _ _ h => h) (by rfl) ?_ hHeld ?_
        rotate_left
        · (intro w hSw; (try dsimp only at hSw); go_simp; (try with_reducible rfl))
        (try simp only [Act.put, List.setIfInBounds_toArray, List.set_cons_zero, List.set_cons_succ])
        refine take_yes (i := 12) (v := ?_) rfl (by kernel_rfl) (by kernel_rfl) (by kernel_rfl) (fun _ _ _ h => h) (by rfl) ?_ hHeld ?_
        rotate_left
        · (intro w hSw; (try dsimp only at hSw); go_simp; (try with_reducible rfl))
        (try simp only [Act.put, List.setIfInBounds_toArray, List.set_cons_zero, List.set_cons_succ])
        refine take_yes (i := 13) (v := ?_) rfl (by kernel_rfl) (by kernel_rfl) (by kernel_rfl) (fun _ _ _ h => h) (by rfl) ?_ hHeld ?_
        rotate_left
        · (intro w hSw; (try dsimp only at hSw); go_simp; (try with_reducible rfl))
        (try simp only [Act.put, List.setIfInBounds_toArray, List.set_cons_zero, List.set_cons_succ])
        refine take_yes (i := 14) (v := ?_) rfl (by kernel_rfl) (by kernel_rfl) (by kernel_rfl) (fun _ _ _ h => h) (by rfl) ?_ hHeld ?_
        rotate_left
        · (intro w hSw; (try dsimp only at hSw); go_simp; (try with_reducible rfl))
        (try simp only [Act.put, List.setIfInBounds_toArray, List.set_cons_zero, List.set_cons_succ])
        refine take_yes (i := 15) (v := ?_) rfl (by kernel_rfl) (by kernel_rfl) (by kernel_rfl) (fun _ _ _ h => h) (by rfl) ?_ hHeld ?_
        rotate_left
        · (intro w hSw; (try dsimp only at hSw); go_simp; (try with_reducible rfl))
        (try simp only [Act.put, List.setIfInBounds_toArray, List.set_cons_zero, List.set_cons_succ])
        refine take_yes (i := 16) (v := ?_) rfl (by kernel_rfl) (by kernel_rfl) (by kernel_rfl) (fun _ _ _ h => h) (by rfl) ?_ hHeld ?_
        rotate_left
        · (intro w hSw; (try dsimp only at hSw); go_simp; (try with_reducible rfl))
        (try simp only [Act.put, List.setIfInBounds_toArray, List.set_cons_zero, List.set_cons_succ])
        refine take_yes (i := 17) (v := ?_) rfl (by kernel_rfl) (by kernel_rfl) (by kernel_rfl) (fun _ _ _ h => h) (by rfl) ?_ hHeld ?_
        rotate_left
        · (intro w hSw; (try dsimp only at hSw); go_simp; (try with_reducible rfl))
        (try simp only [Act.put, List.setIfInBounds_toArray, List.set_cons_zero, List.set_cons_succ])
        refine take_step (i := 18) rfl (by kernel_rfl) (fun K hK => ?_)
        go_simp
        (go_at_call 79; refine (hk2 _ _ _ hr4).mono ?_; rintro e w5 hp; have hr5 := hr4.next hp; obtain ⟨rfl, _⟩ := hp)
        (try go_wp2_with fail)
        refine hK.out _ _ (⟨(hr5.cell hg).trans q1, (hr5.cell hgd).trans d0, (hr5.cell hgd).trans d1, hr5.box.cell 0⟩) (fun hHeld => ?_)
        clear hK K
        (try simp only [Act.put, List.setIfInBounds_toArray, List.set_cons_zero, List.set_cons_succ])
        refine take_yes (i := 19) (v := ?_) rfl (by kernel_rfl) (by kernel_rfl) (by kernel_rfl) (fun _ _ _ h => h) (by rfl) ?_ hHeld ?_
        rotate_left
        · (intro w hSw; (try dsimp only at hSw); go_simp; (try with_reducible rfl))
        (try simp only [Act.put, List.setIfInBounds_toArray, List.set_cons_zero, List.set_cons_succ])
        refine take_yes (i := 20) (v := ?_) rfl (by kernel_rfl) (by kernel_rfl) (by kernel_rfl) (fun _ _ _ h => h) (by rfl) ?_ hHeld ?_
        rotate_left
        · (intro w hSw; (try dsimp only at hSw); go_simp; (try with_reducible rfl))
        (try simp only [Act.put, List.setIfInBounds_toArray, List.set_cons_zero, List.set_cons_succ])
        refine wpAnyH_done (by kernel_rfl) ?_ _
        go_wp2
        go_ret
        exact hr5.post
  · go_enter Tryz.func79, Tryz.ntmps79
    go_wp2_with fail
    refine (h1 _).mono ?_
    rintro e w' ⟨rfl, rfl⟩
    go_wp2_with fail
    refine (h2 _).mono ?_
    rintro e w' ⟨rfl, rfl⟩
    go_upto_region 25 with (at_lookup; go_must (refine wpList_lookup_seen (by rfl) _ _ (by rfl) (.map (some g')) _ (by rfl) (by rfl) (hkey _ hst.kept) hst.seen ?_); intro bf hbf)
    cases bf with
    | true =>
      go_wp2
      go_ret
      exact NilR.post ⟨(hst.kept.alloc (fun b hb => by have := hb.1; simp; omega) _), hst.seen.below ((Below.refl _ _).alloc (Nat.le_refl _) _), hst.box.alloc _, hst.old, hst.fin⟩
    | false =>
    clear hbf
    have hbx : Blk ((w.alloc (.cells #[.map (some g')] 155)).alloc (.cells #[] 93)) w.heap.size 155 #[.map (some g')] := (Blk.new w 155 _).alloc _
    have hkw : Kept (NilX w (.map (some g'))) w ((w.alloc (.cells #[.map (some g')] 155)).alloc (.cells #[] 93)) := ((Kept.refl _ w).alloc (fun b hb => hb.1) _).alloc (fun b hb => by have := hb.1; simp; omega) _
    have hM : SeenMap ((w.alloc (.cells #[.map (some g')] 155)).alloc (.cells #[] 93)) g' := hm0.below (((Below.refl _ w).alloc (Nat.le_refl _) _).alloc (by simp) _)
    have hgl' := hm0.lt
    clear hst hs1
    go_upto_region 30 with (at_mapUpdate; go_must (refine wpList_store_seen (by rfl) _ _ _ (by rfl) g' _ (by rfl) (by rfl) (by rfl) (hkey _ hkw) hM ?_); intro w1 hm1 hk1 hz1)
    have hR : NilR w (.map (some g')) w.heap.size (.map (some g')) w1 := ⟨hkw.trans (hk1.mono fun b hb e => hb.2 (by rw [e])), .inr ⟨_, rfl, hm1⟩, hbx.kept hk1 (by omega), fun b hb e => e, .inl rfl⟩
    have z5 := hR.box.cell 0
    simp at z5
    have z6 := hR.box.lt
    have z7 := (hR.cell (o := 0) hg).trans q0
    have z8 : g < w1.heap.size := by omega
    clear hbx hkw hM hm1 hk1 hz1
    clear z5 z6
    go_wp2
    go_loopw [93] (fun i wr => ∃ j : Nat, j ≤ ks.length ∧ i = .int .i64 j ∧ NilR w (.map (some g')) w.heap.size (.map (some g')) wr) (fun i _ => ks.length - (intOf i).toNat)
    case atStart => exact ⟨0, Nat.zero_le _, rfl, hR⟩
    case round =>
      obtain ⟨j, hj, rfl, hr⟩ := hrel
      clear hR z7 z8
      by_cases hlt : j < ks.length
      · obtain ⟨b, off, gp, T1, y1, hA, hnb, hng, p0, p1, hkd⟩ := HKD.out j hlt
        subst hA
        have hr0 := hr.drew
        have hS0 : (fun W => W.cell? ⟨g, 0, none⟩ = some (.slice (some ⟨b, off, none⟩) ks.length c) ∧ W.cell? ⟨b, off + j, none⟩ = some (ptr gp) ∧ W.cell? ⟨gp, 1, none⟩ = some (.iface T1 y1) ∧ W.cell? ⟨w.heap.size, 0, none⟩ = some (.map (some g'))) wr.drew := ⟨(hr0.cell hg).trans q0, (hr0.cell hnb).trans p0, (hr0.cell hng).trans p1, hr0.box.cell 0⟩
        go_wp2_with fail
        refine wp_region_held_drew (S := (fun W => W.cell? ⟨g, 0, none⟩ = some (.slice (some ⟨b, off, none⟩) ks.length c) ∧ W.cell? ⟨b, off + j, none⟩ = some (ptr gp) ∧ W.cell? ⟨gp, 1, none⟩ = some (.iface T1 y1) ∧ W.cell? ⟨w.heap.size, 0, none⟩ = some (.map (some g')))) (by kernel_rfl) (hS0) (fun hHeld => ?_)
        refine take_yes (i := 0) (v := ?_) rfl (by kernel_rfl) (by kernel_rfl) (by kernel_rfl) (fun _ _ _ h => h) (by rfl) ?_ hHeld ?_
        rotate_left
        · (intro w hSw; (try dsimp only at hSw); go_simp; (try with_reducible rfl))
        (try simp only [Act.put, List.setIfInBounds_toArray, List.set_cons_zero, List.set_cons_succ])
        refine take_yes (i := 1) (v := ?_) rfl (by kernel_rfl) (by kernel_rfl) (by kernel_rfl) (fun _ _ _ h => h) (by rfl) ?_ hHeld ?_
        rotate_left
        · (intro w hSw; (try dsimp only at hSw); go_simp; (try with_reducible rfl))
        (try simp only [Act.put, List.setIfInBounds_toArray, List.set_cons_zero, List.set_cons_succ])
        refine take_yes (i := 2) (v := ?_) rfl (by kernel_rfl) (by kernel_rfl) (by kernel_rfl) (fun _ _ _ h => h) (by rfl) ?_ hHeld ?_
        rotate_left
        · (intro w hSw; (try dsimp only at hSw); go_simp; (try with_reducible rfl))
        (try simp only [Act.put, List.setIfInBounds_toArray, List.set_cons_zero, List.set_cons_succ])
        refine take_yes (i := 3) (v := ?_) rfl (by kernel_rfl) (by kernel_rfl) (by kernel_rfl) (fun _ _ _ h => h) (by rfl) ?_ hHeld ?_
        rotate_left
        · (intro w hSw; (try dsimp only at hSw); go_simp; (try with_reducible rfl))
        (try simp only [Act.put, List.setIfInBounds_toArray, List.set_cons_zero, List.set_cons_succ])
        refine take_yes (i := 4) (v := ?_) rfl (by kernel_rfl) (by kernel_rfl) (by kernel_rfl) (fun _ _ _ h => h) (by rfl) ?_ hHeld ?_
        rotate_left
        · (intro w hSw; (try dsimp only at hSw); go_simp; (try with_reducible rfl))
        (try simp only [Act.put, List.setIfInBounds_toArray, List.set_cons_zero, List.set_cons_succ])
        refine take_yes (i := 5) (v := ?_) rfl (by kernel_rfl) (by kernel_rfl) (by kernel_rfl) (fun _ _ _ h => h) (by rfl) ?_ hHeld ?_
        rotate_left
        · (intro w hSw; (try dsimp only at hSw); go_simp; (try with_reducible rfl))
        (try simp only [Act.put, List.setIfInBounds_toArray, List.set_cons_zero, List.set_cons_succ])
        refine take_yes (i := 6) (v := ?_) rfl (by kernel_rfl) (by kernel_rfl) (by kernel_rfl) (fun _ _ _ h => h) (by rfl) ?_ hHeld ?_
        rotate_left
        · (intro w hSw; (try dsimp only at hSw); go_simp; (try with_reducible rfl))
        (try simp only [Act.put, List.setIfInBounds_toArray, List.set_cons_zero, List.set_cons_succ])
        refine take_yes (i := 7) (v := ?_) rfl (by kernel_rfl) (by kernel_rfl) (by kernel_rfl) (fun _ _ _ h => h) (by rfl) ?_ hHeld ?_
        rotate_left
        · (intro w hSw; (try dsimp only at hSw); go_simp; (try with_reducible rfl))
        (try simp only [Act.put, List.setIfInBounds_toArray, List.set_cons_zero, List.set_cons_succ])
        refine take_yes (i := 8) (v := ?_) rfl (by kernel_rfl) (by kernel_rfl) (by kernel_rfl) (fun _ _ _ h => h) (by rfl) ?_ hHeld ?_
        rotate_left
        · (intro w hSw; (try dsimp only at hSw); go_simp; (try with_reducible rfl))
        (try simp only [Act.put, List.setIfInBounds_toArray, List.set_cons_zero, List.set_cons_succ])
        refine take_yes (i := 9) (v := ?_) rfl (by kernel_rfl) (by kernel_rfl) (by kernel_rfl) (fun _ _ _ h => h) (by rfl) ?_ hHeld ?_
        rotate_left
        · (intro w hSw; (try dsimp only at hSw); go_simp; (try with_reducible rfl))
        (try simp only [Act.put, List.setIfInBounds_toArray, List.set_cons_zero, List.set_cons_succ])
        refine take_yes (i := 10) (v := ?_) rfl (by kernel_rfl) (by kernel_rfl) (by kernel_rfl) (fun _ _ _ h => h) (by rfl) ?_ hHeld ?_
        rotate_left
        · (intro w hSw; (try dsimp only at hSw); go_simp; (try with_reducible rfl))
        (try simp only [Act.put, List.setIfInBounds_toArray, List.set_cons_zero, List.set_cons_succ])
        refine take_step (i := 11) rfl (by kernel_rfl) (fun K hK => ?_)
        go_simp
        (go_at_call 79; refine (hkd _ _ _ hr0).mono ?_; rintro e w4 hp; have hr4 := hr0.next hp; obtain ⟨rfl, _⟩ := hp)
        (try go_wp2_with fail)
        refine hK.out _ _ (⟨(hr4.cell hg).trans q0, (hr4.cell hnb).trans p0, (hr4.cell hng).trans p1, hr4.box.cell 0⟩) (fun hHeld => ?_)
        clear hK K
        (try simp only [Act.put, List.setIfInBounds_toArray, List.set_cons_zero, List.set_cons_succ])
        refine wpAnyH_done (by kernel_rfl) ?_ _
        clear hr hr0 hS0
        go_wp2
        go_roundw
        case rel => exact ⟨j + 1, by omega, by go_num, hr4⟩
        case measure => simp [intOf]; omega
      · have ej : j = ks.length := by omega
        subst ej
        have z1 := (hr.cell (o := 1) hg).trans q1
        have z8 : g < wr.heap.size := by have := hr.kept.size; omega
        go_wp2
        go_ret
        exact hr.post
  · have d0 := hbd.cell 0
    have d1 := hbd.cell 1
    simp at d0 d1
    clear hbd
    go_enter Tryz.func79, Tryz.ntmps79
    go_wp2_with fail
    refine (h1 _).mono ?_
    rintro e w' ⟨rfl, rfl⟩
    go_wp2_with fail
    refine (h2 _).mono ?_
    rintro e w' ⟨rfl, rfl⟩
    go_upto_region 25 with (at_lookup; go_must (refine wpList_lookup_seen (by rfl) _ _ (by rfl) (.map (some g')) _ (by rfl) (by rfl) (hkey _ hst.kept) hst.seen ?_); intro bf hbf)
    cases bf with
    | true =>
      go_wp2
      go_ret
      exact NilR.post ⟨(hst.kept.alloc (fun b hb => by have := hb.1; simp; omega) _), hst.seen.below ((Below.refl _ _).alloc (Nat.le_refl _) _), hst.box.alloc _, hst.old, hst.fin⟩
    | false =>
    clear hbf
    have hbx : Blk ((w.alloc (.cells #[.map (some g')] 155)).alloc (.cells #[] 93)) w.heap.size 155 #[.map (some g')] := (Blk.new w 155 _).alloc _
    have hkw : Kept (NilX w (.map (some g'))) w ((w.alloc (.cells #[.map (some g')] 155)).alloc (.cells #[] 93)) := ((Kept.refl _ w).alloc (fun b hb => hb.1) _).alloc (fun b hb => by have := hb.1; simp; omega) _
    have hM : SeenMap ((w.alloc (.cells #[.map (some g')] 155)).alloc (.cells #[] 93)) g' := hm0.below (((Below.refl _ w).alloc (Nat.le_refl _) _).alloc (by simp) _)
    have hgl' := hm0.lt
    clear hst hs1
    go_upto_region 30 with (at_mapUpdate; go_must (refine wpList_store_seen (by rfl) _ _ _ (by rfl) g' _ (by rfl) (by rfl) (by rfl) (hkey _ hkw) hM ?_); intro w1 hm1 hk1 hz1)
    have hR : NilR w (.map (some g')) w.heap.size (.map (some g')) w1 := ⟨hkw.trans (hk1.mono fun b hb e => hb.2 (by rw [e])), .inr ⟨_, rfl, hm1⟩, hbx.kept hk1 (by omega), fun b hb e => e, .inl rfl⟩
    have z5 := hR.box.cell 0
    simp at z5
    have z6 := hR.box.lt
    have z7 := (hR.cell (o := 0) hg).trans q0
    have z8 : g < w1.heap.size := by omega
    clear hbx hkw hM hm1 hk1 hz1
    clear z5 z6
    go_wp2
    go_loopw [93] (fun i wr => ∃ j : Nat, j ≤ ks.length ∧ i = .int .i64 j ∧ NilR w (.map (some g')) w.heap.size (.map (some g')) wr) (fun i _ => ks.length - (intOf i).toNat)
    case atStart => exact ⟨0, Nat.zero_le _, rfl, hR⟩
    case round =>
      obtain ⟨j, hj, rfl, hr⟩ := hrel
      clear hR z7 z8
      by_cases hlt : j < ks.length
      · obtain ⟨b, off, gp, T1, y1, hA, hnb, hng, p0, p1, hkd⟩ := HKD.out j hlt
        subst hA
        have hr0 := hr.drew
        have hS0 : (fun W => W.cell? ⟨g, 0, none⟩ = some (.slice (some ⟨b, off, none⟩) ks.length c) ∧ W.cell? ⟨b, off + j, none⟩ = some (ptr gp) ∧ W.cell? ⟨gp, 1, none⟩ = some (.iface T1 y1) ∧ W.cell? ⟨w.heap.size, 0, none⟩ = some (.map (some g'))) wr.drew := ⟨(hr0.cell hg).trans q0, (hr0.cell hnb).trans p0, (hr0.cell hng).trans p1, hr0.box.cell 0⟩
        go_wp2_with fail
        refine wp_region_held_drew (S := (fun W => W.cell? ⟨g, 0, none⟩ = some (.slice (some ⟨b, off, none⟩) ks.length c) ∧ W.cell? ⟨b, off + j, none⟩ = some (ptr gp) ∧ W.cell? ⟨gp, 1, none⟩ = some (.iface T1 y1) ∧ W.cell? ⟨w.heap.size, 0, none⟩ = some (.map (some g')))) (by kernel_rfl) (hS0) (fun hHeld => ?_)
        refine take_yes (i := 0) (v := ?_) rfl (by kernel_rfl) (by kernel_rfl) (by kernel_rfl) (fun _ _ _ h => h) (by rfl) ?_ hHeld ?_
        rotate_left
        · (intro w hSw; (try dsimp only at hSw); go_simp; (try with_reducible rfl))
        (try simp only [Act.put, List.setIfInBounds_toArray, List.set_cons_zero, List.set_cons_succ])
        refine take_yes (i := 1) (v := ?_) rfl (by kernel_rfl) (by kernel_rfl) (by kernel_rfl) (fun _ _ _ h => h) (by rfl) ?_ hHeld ?_
        rotate_left
        · (intro w hSw; (try dsimp only at hSw); go_simp; (try with_reducible rfl))
        (try simp only [Act.put, List.setIfInBounds_toArray, List.set_cons_zero, List.set_cons_succ])
        refine take_yes (i := 2) (v := ?_) rfl (by kernel_rfl) (by kernel_rfl) (by kernel_rfl) (fun _ _ _ h => h) (by rfl) ?_ hHeld ?_
        rotate_left
        · (intro w hSw; (try dsimp only at hSw); go_simp; (try with_reducible rfl))
        (try simp only [Act.put, List.setIfInBounds_toArray, List.set_cons_zero, List.set_cons_succ])
        refine take_yes (i := 3) (v := ?_) rfl (by kernel_rfl) (by kernel_rfl) (by kernel_rfl) (fun _ _ _ h => h) (by rfl) ?_ hHeld ?_
        rotate_left
        · (intro w hSw; (try dsimp only at hSw); go_simp; (try with_reducible rfl))
        (try simp only [Act.put, List.setIfInBounds_toArray, List.set_cons_zero, List.set_cons_succ])
        refine take_yes (i := 4) (v := ?_) rfl (by kernel_rfl) (by kernel_rfl) (by kernel_rfl) (fun _ _ _ h => h) (by rfl) ?_ hHeld ?_
        rotate_left
        · (intro w hSw; (try dsimp only at hSw); go_simp; (try with_reducible rfl))
        (try simp only [Act.put, List.setIfInBounds_toArray, List.set_cons_zero, List.set_cons_succ])
        refine take_yes (i := 5) (v := ?_) rfl (by kernel_rfl) (by kernel_rfl) (by kernel_rfl) (fun _ _ _ h => h) (by rfl) ?_ hHeld ?_
        rotate_left
        · (intro w hSw; (try dsimp only at hSw); go_simp; (try with_reducible rfl))
        (try simp only [Act.put, List.setIfInBounds_toArray, List.set_cons_zero, List.set_cons_succ])
        refine take_yes (i := 6) (v := ?_) rfl (by kernel_rfl) (by kernel_rfl) (by kernel_rfl) (fun _ _ _ h => h) (by rfl) ?_ hHeld ?_
        rotate_left
        · (intro w hSw; (try dsimp only at hSw); go_simp; (try with_reducible rfl))
        (try simp only [Act.put, List.setIfInBounds_toArray, List.set_cons_zero, List.set_cons_succ])
        refine take_yes (i := 7) (v := ?_) rfl (by kernel_rfl) (by kernel_rfl) (by kernel_rfl) (fun _ _ _ h => h) (by rfl) ?_ hHeld ?_
        rotate_left
        · (intro w hSw; (try dsimp only at hSw); go_simp; (try with_reducible rfl))
        (try simp only [Act.put, List.setIfInBounds_toArray, List.set_cons_zero, List.set_cons_succ])
        refine take_yes (i := 8) (v := ?_) rfl (by kernel_rfl) (by kernel_rfl) (by kernel_rfl) (fun _ _ _ h => h) (by rfl) ?_ hHeld ?_
        rotate_left
        · (intro w hSw; (try dsimp only at hSw); go_simp; (try with_reducible rfl))
        (try simp only [Act.put, List.setIfInBounds_toArray, List.set_cons_zero, List.set_cons_succ])
        refine take_yes (i := 9) (v := ?_) rfl (by kernel_rfl) (by kernel_rfl) (by kernel_rfl) (fun _ _ _ h => h) (by rfl) ?_ hHeld ?_
        rotate_left
        · (intro w hSw; (try dsimp only at hSw); go_simp; (try with_reducible rfl))
        (try simp only [Act.put, List.setIfInBounds_toArray, List.set_cons_zero, List.set_cons_succ])
        refine take_yes (i := 10) (v := ?_) rfl (by kernel_rfl) (by kernel_rfl) (by kernel_rfl) (fun _ _ _ h => h) (by rfl) ?_ hHeld ?_
        rotate_left
        · (intro w hSw; (try dsimp only at hSw); go_simp; (try with_reducible rfl))
        (try simp only [Act.put, List.setIfInBounds_toArray, List.set_cons_zero, List.set_cons_succ])
        refine take_step (i := 11) rfl (by kernel_rfl) (fun K hK => ?_)
        go_simp
        (go_at_call 79; refine (hkd _ _ _ hr0).mono ?_; rintro e w4 hp; have hr4 := hr0.next hp; obtain ⟨rfl, _⟩ := hp)
        (try go_wp2_with fail)
        refine hK.out _ _ (⟨(hr4.cell hg).trans q0, (hr4.cell hnb).trans p0, (hr4.cell hng).trans p1, hr4.box.cell 0⟩) (fun hHeld => ?_)
        clear hK K
        (try simp only [Act.put, List.setIfInBounds_toArray, List.set_cons_zero, List.set_cons_succ])
        refine wpAnyH_done (by kernel_rfl) ?_ _
        clear hr hr0 hS0
        go_wp2
        go_roundw
        case rel => exact ⟨j + 1, by omega, by go_num, hr4⟩
        case measure => simp [intOf]; omega
      · have ej : j = ks.length := by omega
        subst ej
        have z1 := (hr.cell (o := 1) hg).trans q1
        have z8 : g < wr.heap.size := by have := hr.kept.size; omega
        have hr0 := hr.drew
        go_wp2_with fail
        refine wp_region_held_drew (S := (fun W => W.cell? ⟨g, 1, none⟩ = some (ptr gd) ∧ W.cell? ⟨gd, 0, none⟩ = some (.iface T x) ∧ W.cell? ⟨gd, 1, none⟩ = some (.iface T' y) ∧ W.cell? ⟨w.heap.size, 0, none⟩ = some (.map (some g')))) (by kernel_rfl) (⟨(hr0.cell hg).trans q1, (hr0.cell hgd).trans d0, (hr0.cell hgd).trans d1, hr0.box.cell 0⟩) (fun hHeld => ?_)
        refine take_yes (i := 0) (v := ?_) rfl (by kernel_rfl) (by kernel_rfl) (by kernel_rfl) (fun _ _ _ h => h) (by rfl) ?_ hHeld ?_
        rotate_left
        · (intro w hSw; (try dsimp only at hSw); go_simp; (try with_reducible rfl))
        (try simp only [Act.put, List.setIfInBounds_toArray, List.set_cons_zero, List.set_cons_succ])
        refine take_yes (i := 1) (v := ?_) rfl (by kernel_rfl) (by kernel_rfl) (by kernel_rfl) (fun _ _ _ h => h) (by rfl) ?_ hHeld ?_
        rotate_left
        · (intro w hSw; (try dsimp only at hSw); go_simp; (try with_reducible rfl))
        (try simp only [Act.put, List.setIfInBounds_toArray, List.set_cons_zero, List.set_cons_succ])
        refine take_yes (i := 2) (v := ?_) rfl (by kernel_rfl) (by kernel_rfl) (by kernel_rfl) (fun _ _ _ h => h) (by rfl) ?_ hHeld ?_
        rotate_left
        · (intro w hSw; (try dsimp only at hSw); go_simp; (try with_reducible rfl))
        (try simp only [Act.put, List.setIfInBounds_toArray, List.set_cons_zero, List.set_cons_succ])
        refine take_yes (i := 3) (v := ?_) rfl (by kernel_rfl) (by kernel_rfl) (by kernel_rfl) (fun _ _ _ h => h) (by rfl) ?_ hHeld ?_
        rotate_left
        · (intro w hSw; (try dsimp only at hSw); go_simp; (try with_reducible rfl))
        (try simp only [Act.put, List.setIfInBounds_toArray, List.set_cons_zero, List.set_cons_succ])
        refine take_yes (i := 4) (v := ?_) rfl (by kernel_rfl) (by kernel_rfl) (by kernel_rfl) (fun _ _ _ h => h) (by rfl) ?_ hHeld ?_
        rotate_left
        · (intro w hSw; (try dsimp only at hSw); go_simp; (try with_reducible rfl))
        (try simp only [Act.put, List.setIfInBounds_toArray, List.set_cons_zero, List.set_cons_succ])
        refine take_yes (i := 5) (v := ?_) rfl (by kernel_rfl) (by kernel_rfl) (by kernel_rfl) (fun _ _ _ h => h) (by rfl) ?_ hHeld ?_
        rotate_left
        · (intro w hSw; (try dsimp only at hSw); go_simp; (try with_reducible rfl))
        (try simp only [Act.put, List.setIfInBounds_toArray, List.set_cons_zero, List.set_cons_succ])
        refine take_yes (i := 6) (v := ?_) rfl (by kernel_rfl) (by kernel_rfl) (by kernel_rfl) (fun _ _ _ h => h) (by rfl) ?_ hHeld ?_
        rotate_left
        · (intro w hSw; (try dsimp only at hSw); go_simp; (try with_reducible rfl))
        (try simp only [Act.put, List.setIfInBounds_toArray, List.set_cons_zero, List.set_cons_succ])
        refine take_yes (i := 7) (v := ?_) rfl (by kernel_rfl) (by kernel_rfl) (by kernel_rfl) (fun _ _ _ h => h) (by rfl) ?_ hHeld ?_
        rotate_left
        · (intro w hSw; (try dsimp only at hSw); go_simp; (try with_reducible rfl))
        (try simp only [Act.put, List.setIfInBounds_toArray, List.set_cons_zero, List.set_cons_succ])
        refine take_step (i := 8) rfl (by kernel_rfl) (fun K hK => ?_)
        go_simp
        (go_at_call 79; refine (hk1 _ _ _ hr0).mono ?_; rintro e w4 hp; have hr4 := hr0.next hp; obtain ⟨rfl, _⟩ := hp)
        (try go_wp2_with fail)
        refine hK.out _ _ (⟨(hr4.cell hg).trans q1, (hr4.cell hgd).trans d0, (hr4.cell hgd).trans d1, hr4.box.cell 0⟩) (fun hHeld => ?_)
        clear hK K
        (try simp only [Act.put, List.setIfInBounds_toArray, List.set_cons_zero, List.set_cons_succ])
        refine take_yes (i := 9) (v := ?_) rfl (by kernel_rfl) (by kernel_rfl) (by kernel_rfl) (fun _ _ _ h => h) (by rfl) ?_ hHeld ?_
        rotate_left
        · (intro w hSw; (try dsimp only at hSw); go_simp; (try with_reducible rfl))
        (try simp only [Act.put, List.setIfInBounds_toArray, List.set_cons_zero, List.set_cons_succ])
        refine take_yes (i := 10) (v := ?_) rfl (by kernel_rfl) (by kernel_rfl) (by kernel_rfl) (fun _ _ _ h => h) (by rfl) ?_ hHeld ?_
        rotate_left
        · (intro w hSw; (try dsimp only at hSw); go_simp; (try with_reducible rfl))
        (try simp only [Act.put, List.setIfInBounds_toArray, List.set_cons_zero, List.set_cons_succ])
        refine take_yes (i := 11) (v := ?_) rfl (by kernel_rfl) (by kernel_rfl) (by kernel_rfl) (fun _ _ _ h => h) (by rfl) ?_ hHeld ?_
        rotate_left
        · (intro w hSw; (try dsimp only at hSw); go_simp; (try with_reducible rfl))
        (try simp only [Act.put, List.setIfInBounds_toArray, List.set_cons_zero, List.set_cons_succ])
        refine take_yes (i := 12) (v := ?_) rfl (by kernel_rfl) (by kernel_rfl) (by kernel_rfl) (fun _ _ _ h => h) (by rfl) ?_ hHeld ?_
        rotate_left
        · (intro w hSw; (try dsimp only at hSw); go_simp; (try with_reducible rfl))
        (try simp only [Act.put, List.setIfInBounds_toArray, List.set_cons_zero, List.set_cons_succ])
        refine take_yes (i := 13) (v := ?_) rfl (by kernel_rfl) (by kernel_rfl) (by kernel_rfl) (fun _ _ _ h => h) (by rfl) ?_ hHeld ?_
        rotate_left
        · (intro w hSw; (try dsimp only at hSw); go_simp; (try with_reducible rfl))
        (try simp only [Act.put, List.setIfInBounds_toArray, List.set_cons_zero, List.set_cons_succ])
        refine take_yes (i := 14) (v := ?_) rfl (by kernel_rfl) (by kernel_rfl) (by kernel_rfl) (fun _ _ _ h => h) (by rfl) ?_ hHeld ?_
        rotate_left
        · (intro w hSw; (try dsimp only at hSw); go_simp; (try with_reducible rfl))
        (try simp only [Act.put, List.setIfInBounds_toArray, List.set_cons_zero, List.set_cons_succ])
        refine take_yes (i := 15) (v := ?_) rfl (by kernel_rfl) (by kernel_rfl) (by kernel_rfl) (fun _ _ _ h => h) (by rfl) ?_ hHeld ?_
        rotate_left
        · (intro w hSw; (try dsimp only at hSw); go_simp; (try with_reducible rfl))
        (try simp only [Act.put, List.setIfInBounds_toArray, List.set_cons_zero, List.set_cons_succ])
        refine take_yes (i := 16) (v := ?_) rfl (by kernel_rfl) (by kernel_rfl) (by kernel_rfl) (fun _ _ _ h => h) (by rfl) ?_ hHeld ?_
        rotate_left
        · (intro w hSw; (try dsimp only at hSw); go_simp; (try with_reducible rfl))
        (try simp only [Act.put, List.setIfInBounds_toArray, List.set_cons_zero, List.set_cons_succ])
        refine take_yes (i := 17) (v := ?_) rfl (by kernel_rfl) (by kernel_rfl) (by kernel_rfl) (fun _ _ _ h => h) (by rfl) ?_ hHeld ?_
        rotate_left
        · (intro w hSw; (try dsimp only at hSw); go_simp; (try with_reducible rfl))
        (try simp only [Act.put, List.setIfInBounds_toArray, List.set_cons_zero, List.set_cons_succ])
        refine take_step (i := 18) rfl (by kernel_rfl) (fun K hK => ?_)
        go_simp
        (go_at_call 79; refine (hk2 _ _ _ hr4).mono ?_; rintro e w5 hp; have hr5 := hr4.next hp; obtain ⟨rfl, _⟩ := hp)
        (try go_wp2_with fail)
        refine hK.out _ _ (⟨(hr5.cell hg).trans q1, (hr5.cell hgd).trans d0, (hr5.cell hgd).trans d1, hr5.box.cell 0⟩) (fun hHeld => ?_)
        clear hK K
        (try simp only [Act.put, List.setIfInBounds_toArray, List.set_cons_zero, List.set_cons_succ])
        refine take_yes (i := 19) (v := ?_) rfl (by kernel_rfl) (by kernel_rfl) (by kernel_rfl) (fun _ _ _ h => h) (by rfl) ?_ hHeld ?_
        rotate_left
        · (intro w hSw; (try dsimp only at hSw); go_simp; (try with_reducible rfl))
        (try simp only [Act.put, List.setIfInBounds_toArray, List.set_cons_zero, List.set_cons_succ])
        refine take_yes (i := 20) (v := ?_) rfl (by kernel_rfl) (by kernel_rfl) (by kernel_rfl) (fun _ _ _ h => h) (by rfl) ?_ hHeld ?_
        rotate_left
        · (intro w hSw; (try dsimp only at hSw); go_simp; (try with_reducible rfl))
        (try simp only [Act.put, List.setIfInBounds_toArray, List.set_cons_zero, List.set_cons_succ])
        refine wpAnyH_done (by kernel_rfl) ?_ _
        go_wp2
        go_ret
        exact hr5.post

end Go.Proofs.YtpmfjbmfjfhghaaGreat
