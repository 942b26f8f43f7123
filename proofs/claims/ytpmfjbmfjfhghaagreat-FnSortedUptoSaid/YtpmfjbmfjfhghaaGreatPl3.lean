/-
  'impl.plain': a type as plain data (4): object types.
-/
import Derived.Test.YtpmfjbmfjfhghaaGreatPl2
import Derived.Test.YtpmfjbmfjfhghaaGreatReg3
import Derived.Test.YtpmfjbmfjfhghaaGreatProper
namespace Go.Proofs.YtpmfjbmfjfhghaaGreat
open Go.RowKit

set_option maxRecDepth 100000 in
theorem objStatic_any (g : Nat) (A : Option Addr) (n c : Nat) (d : Value) (w : World) (hb : Blk w g 142 #[.slice A n c, d]) : Calls Tryz.prog 83 #[ptr g] w (Same (.slice A n c) w) := by
  have q0 := hb.cell 0
  have hg := hb.lt
  simp at q0
  go_enter Tryz.func83, Tryz.ntmps83
  go_wp2
  go_ret
  exact ⟨rfl, rfl⟩

set_option maxRecDepth 100000 in
theorem objDyn_any (g : Nat) (x : Value) (d : Option Addr) (w : World) (hb : Blk w g 142 #[x, .pointer d]) : Calls Tryz.prog 85 #[ptr g] w (Same (.pointer d) w) := by
  have q0 := hb.cell 1
  have hg := hb.lt
  simp at q0
  go_enter Tryz.func85, Tryz.ntmps85
  go_wp2
  go_ret
  exact ⟨rfl, rfl⟩

set_option maxRecDepth 100000 in
theorem plainKey_any (k : Ky) (w : World) (hk : k.ok) : Calls Tryz.prog 84 #[keyVal k] w fun e w' => e = .returned (.agg #[.int .i64 k.kind, .string k.text]) ∧ Below w.heap.size w w' := by
  obtain ⟨k, s⟩ := k
  rcases key_yes hk with ⟨h, ht⟩ | ⟨h, ht⟩ | ⟨h, ht⟩ | h <;> simp only at h <;> subst h
  case' inl => obtain rfl := text_empty.1 ht
  case' inr.inl => obtain rfl := text_empty.1 ht
  case' inr.inr.inl => obtain rfl := text_empty.1 ht
  all_goals
    simp only [keyVal]
    go_enter Tryz.func84, Tryz.ntmps84
    go_wp2
    refine bodyPost_ret (v := .agg #[.int .i64 _, .string _]) (by first | (simp [results, Tryz.results84, go_sem]; done) | (simp [results, Tryz.results84, go_sem]; rfl)) rfl ⟨rfl, ?_⟩
    first
      | exact (Below.refl _ _).alloc (Nat.le_refl _) _
      | exact ((Below.refl _ _).alloc (Nat.le_refl _) _).alloc (by simp) _

theorem infoKey : (Tryz.prog.info? 71).map (fun i => (i.zero, i.size, i.bytes)) = some (some (.agg #[.int .i64 0, .string ⟨#[]⟩]), 2, 24) := by kernel_rfl

/-- A new row of types behind. -/
theorem plain_rows {w w1 wf : World} {X : Nat → Prop} {l : List Tr} {cs : List Value} {g : Nat} (T : TypeId) (hk : Kept X w1 wf) (hz : wf.heap.size = g) (hg : w.heap.size ≤ g) {B : Nat → Prop} (hX : ∀ b, B b → X b) (hB : ∀ b, B b → w.heap.size ≤ b ∧ b < w1.heap.size) (hr : repIs w1 B l cs) (hXl : ∀ b, X b → b < wf.heap.size) :
    rowAt (wf.alloc (.cells cs.toArray T)) (fun b => w.heap.size ≤ b ∧ b < (wf.alloc (.cells cs.toArray T)).heap.size) (some ⟨g, 0, none⟩) cs ∧ repIs (wf.alloc (.cells cs.toArray T)) (fun b => w.heap.size ≤ b ∧ b < (wf.alloc (.cells cs.toArray T)).heap.size) l cs := by
  subst hz
  have hn := Blk.new wf T cs.toArray
  refine ⟨fun j u hu => ⟨_, 0, rfl, ⟨hg, hn.lt⟩, by rw [hn.cell]; simpa using hu⟩, ?_⟩
  refine hr.kept (hk.alloc hXl _) hX fun b hb => ⟨(hB b hb).1, ?_⟩
  have h1 := (hB b hb).2
  have h2 := hk.size
  simp; omega

/-- The static properties that have been copied: two rows, their slices in one block. -/
structure OP (w0 : World) (g : Nat) (ks : List Ky) (l : List Tr) (v1 v2 : Value) (j : Nat) (zs : List Value) (wr : World) : Prop where
  kept : Kept (fun b => b < w0.heap.size ∧ b ≠ g) w0 wr
  out : Blk wr g 25 #[.int .i64 6, .string ⟨#[]⟩, .string ⟨#[]⟩, v1, v2, .slice none 0 0]
  own1 : wr.ownsRow w0.heap.size 71 2 v1 j (keyCells ks)
  own2 : wr.ownsRow w0.heap.size 25 6 v2 j zs
  apart : ∀ b, v1.ownBlock = some b → v2.ownBlock ≠ some b
  rep : repIs wr (fun b => w0.heap.size ≤ b ∧ b < wr.heap.size ∧ v1.ownBlock ≠ some b ∧ v2.ownBlock ≠ some b) l zs

theorem OP.start {w0 : World} {g : Nat} (h : Blk w0 g 25 #[.int .i64 6, .string ⟨#[]⟩, .string ⟨#[]⟩, .slice none 0 0, .slice none 0 0, .slice none 0 0]) : OP w0 g [] [] (.slice none 0 0) (.slice none 0 0) 0 [] w0 :=
  ⟨Kept.refl _ _, h, World.ownsRow_nil _ _ _ _, World.ownsRow_nil _ _ _ _, fun b h => by simp [Value.ownBlock] at h, by simp [repIs]⟩

/-- A row beside the one that grows. -/
theorem own_beside {w w' : World} {base : Nat} {e e' : TypeId} {size size' n n' : Nat} {v v' : Value} {xs xs' : List Value} (h : w.ownsRow base e size v n xs) (_h' : w.ownsRow base e' size' v' n' xs') (hg : w.grownBy w' v'.ownBlock) (ha : ∀ b, v.ownBlock = some b → v'.ownBlock ≠ some b) : w'.ownsRow base e size v n xs :=
  own_kept h ((Kept.refl (fun b => b < w.heap.size ∧ v'.ownBlock ≠ some b) w).grown hg (fun _ hb => hb.1) fun _ hk hX => hX.2 hk) fun b _ hb hv => ⟨hb, ha b hv⟩

theorem OP.push {w0 wr w1 w2 w3 w4 : World} {g j m1 c1 g1 m2 c2 g2 : Nat} {ks ks' : List Ky} {l : List Tr} {t : Tr} {v1 v2 : Value} {zs cs : List Value} (h : OP w0 g ks l v1 v2 j zs wr) (hg : g < w0.heap.size)
    (hb1 : Below wr.heap.size wr w1) (o1 : Obj) (hg1 : (w1.alloc o1).grownBy w2 v1.ownBlock) (hown1 : w2.ownsRow w0.heap.size 71 2 (.slice (some ⟨g1, 0, none⟩) m1 c1) m1 (keyCells ks')) (hat1 : v1.ownBlock = some g1 ∨ g1 = w1.heap.size + 1)
    (hb3 : Below w2.heap.size w2 w3) (hr : repI w3 (fun b => w2.heap.size ≤ b ∧ b < w3.heap.size) t cs) (o2 : Obj) (hg2 : (w3.alloc o2).grownBy w4 v2.ownBlock) (hown2 : w4.ownsRow w0.heap.size 25 6 (.slice (some ⟨g2, 0, none⟩) m2 c2) m2 (zs ++ cs)) (hat2 : v2.ownBlock = some g2 ∨ g2 = w3.heap.size + 1) (hm : m2 = m1) :
    OP w0 g ks' (l ++ [t]) (.slice (some ⟨g1, 0, none⟩) m1 c1) (.slice (some ⟨g2, 0, none⟩) m2 c2) m1 (zs ++ cs) ((w4.setCell ⟨g, 3, none⟩ (.slice (some ⟨g1, 0, none⟩) m1 c1)).setCell ⟨g, 4, none⟩ (.slice (some ⟨g2, 0, none⟩) m2 c2)) := by
  subst hm
  have s0 := h.kept.size
  have s1 := hb1.size
  have s2 : (w1.alloc o1).heap.size ≤ w2.heap.size := (Kept.grown (X := fun _ => False) (Kept.refl _ _) hg1 (fun _ h => h.elim) fun _ _ h => h).size
  have s3 := hb3.size
  have s4 : (w3.alloc o2).heap.size ≤ w4.heap.size := (Kept.grown (X := fun _ => False) (Kept.refl _ _) hg2 (fun _ h => h.elim) fun _ _ h => h).size
  simp only [World.size_alloc] at s2 s4
  have l1 : ∀ b, v1.ownBlock = some b → w0.heap.size ≤ b ∧ b < wr.heap.size := fun b hb => h.own1.lt b hb
  have l2 : ∀ b, v2.ownBlock = some b → w0.heap.size ≤ b ∧ b < wr.heap.size := fun b hb => h.own2.lt b hb
  have lg1 := hown1.lt g1 rfl
  have K1 : Kept (fun b => b < wr.heap.size ∧ v1.ownBlock ≠ some b ∧ v2.ownBlock ≠ some b ∧ b ≠ g) wr w1 := Kept.of_below hb1 fun b hb => hb.1
  have K2 : Kept (fun b => b < w1.heap.size ∧ v1.ownBlock ≠ some b) w1 w2 := ((Kept.refl _ w1).alloc (fun b hb => hb.1) o1).grown hg1 (fun b hb => by simp; omega) fun k hk hX => hX.2 hk
  have K4 : Kept (fun b => b < w3.heap.size ∧ v2.ownBlock ≠ some b ∧ b ≠ g) w3 ((w4.setCell ⟨g, 3, none⟩ (.slice (some ⟨g1, 0, none⟩) m2 c1)).setCell ⟨g, 4, none⟩ (.slice (some ⟨g2, 0, none⟩) m2 c2)) :=
    ((((Kept.refl _ w3).alloc (fun b hb => hb.1) o2).grown hg2 (fun b hb => by simp; omega) fun k hk hX => hX.2.1 hk).setCell (by simp) _).setCell (by simp) _
  have K : Kept (fun b => b < wr.heap.size ∧ v1.ownBlock ≠ some b ∧ v2.ownBlock ≠ some b ∧ b ≠ g) wr ((w4.setCell ⟨g, 3, none⟩ (.slice (some ⟨g1, 0, none⟩) m2 c1)).setCell ⟨g, 4, none⟩ (.slice (some ⟨g2, 0, none⟩) m2 c2)) :=
    (K1.trans (K2.mono fun b hb => ⟨by omega, hb.2.1⟩)).trans ((Kept.of_below (X := fun b => b < wr.heap.size ∧ v1.ownBlock ≠ some b ∧ v2.ownBlock ≠ some b ∧ b ≠ g) hb3 fun b hb => by omega).trans (K4.mono fun b hb => ⟨by omega, hb.2.2.1, hb.2.2.2⟩))
  have ap : ∀ b, (Value.slice (some ⟨g1, 0, none⟩) m2 c1).ownBlock = some b → (Value.slice (some ⟨g2, 0, none⟩) m2 c2).ownBlock ≠ some b := fun b e e' => by
    simp only [Value.ownBlock, Option.some.injEq] at e e'
    subst e
    subst e'
    rcases hat1 with h1 | h1 <;> rcases hat2 with h2 | h2
    · exact h.apart _ h1 h2
    · have := l1 _ h1; omega
    · have := l2 _ h2; omega
    · omega
  have hfar : Kept (fun b => b < w3.heap.size ∧ b ≠ g ∧ v2.ownBlock ≠ some b) w3 w4 := ((Kept.refl _ w3).alloc (fun b hb => hb.1) o2).grown hg2 (fun b hb => by simp; omega) fun k hk hX => hX.2.2 hk
  have hsz : ((w4.setCell ⟨g, 3, none⟩ (.slice (some ⟨g1, 0, none⟩) m2 c1)).setCell ⟨g, 4, none⟩ (.slice (some ⟨g2, 0, none⟩) m2 c2)).heap.size = w4.heap.size := by simp
  refine ⟨h.kept.trans (K.mono fun b hb => ⟨by omega, fun e => ?_, fun e => ?_, hb.2⟩), ?_, ?_, ownsRow_setCell_below (ownsRow_setCell_below hown2 hg _) hg _, ap, repIs.snoc ?_ ?_⟩
  · have := l1 b e; omega
  · have := l2 b e; omega
  · have b1 := (((h.out.below hb1 h.out.lt).alloc o1).grown hg1 (own_ne h.own1 hg)).below hb3 (by have := h.out.lt; omega)
    have b2 := (((b1.alloc o2).grown hg2 (own_ne h.own2 hg)).set_ 3 (.slice (some ⟨g1, 0, none⟩) m2 c1)).set_ 4 (.slice (some ⟨g2, 0, none⟩) m2 c2)
    simpa using b2
  · have q1 : w3.ownsRow w0.heap.size 71 2 (.slice (some ⟨g1, 0, none⟩) m2 c1) m2 (keyCells ks') := own_below hown1 hb3 (Nat.le_refl _)
    have q2 : w4.ownsRow w0.heap.size 71 2 (.slice (some ⟨g1, 0, none⟩) m2 c1) m2 (keyCells ks') := own_kept q1 hfar fun b hb hb' e => ⟨hb', by omega, fun e' => by
      simp only [Value.ownBlock, Option.some.injEq] at e
      subst e
      rcases hat1 with h1 | h1
      · exact h.apart _ h1 e'
      · have := l2 _ e'; omega⟩
    exact ownsRow_setCell_below (ownsRow_setCell_below q2 hg _) hg _
  · refine hr.kept K4 (fun b hb => ⟨hb.2, fun e => ?_, by omega⟩) fun b hb => ⟨by omega, by omega, fun e => ?_, fun e => ?_⟩
    · have := l2 b e; omega
    · simp only [Value.ownBlock, Option.some.injEq] at e; omega
    · simp only [Value.ownBlock, Option.some.injEq] at e
      rcases hat2 with h2 | h2
      · have := l2 _ h2; omega
      · omega
  · refine repIs.kept h.rep K (fun b hb => ⟨hb.2.1, hb.2.2.1, hb.2.2.2, by omega⟩) fun b hb => ⟨hb.1, by omega, fun e => ?_, fun e => ?_⟩
    · simp only [Value.ownBlock, Option.some.injEq] at e
      subst e
      rcases hat1 with h1 | h1
      · exact hb.2.2.1 h1
      · omega
    · simp only [Value.ownBlock, Option.some.injEq] at e
      subst e
      rcases hat2 with h2 | h2
      · exact hb.2.2.2 h2
      · omega

set_option maxHeartbeats 16000000 in
set_option maxRecDepth 100000 in
theorem plain_object (ks : List Ky) (l m : List Tr) (g : Nat) (A : Option Addr) (c : Nat) (dp : Value) (gs : List Nat) (vs : List Value) (w : World) (F : Nat → Prop) (hkl : ks.length = l.length) (hb : Blk w g 142 #[.slice A l.length c, dp]) (hp : props w F gs ks vs) (hr : repPs w F l vs) (hrow : rowAt w F A (gs.map ptr)) (hF : ∀ b, F b → b < w.heap.size) (hko : ∀ k ∈ ks, k.ok)
    (hok : ∀ i (hi : i < l.length) x, vs[i]? = some x → PlainOk l[i] x w) (hlen : l.length ≤ 1048576)
    (hd : (m = [] ∧ dp = .pointer none) ∨ ∃ g' x y s t, dp = ptr g' ∧ Blk w g' 132 #[x, y] ∧ m = [s, t] ∧ Ifc x ∧ Ifc y ∧ PlainOk s x w ∧ PlainOk t y w) :
    Calls Tryz.prog 47 #[.iface 109 (ptr g)] w (PlainPost (.mk 6 ks l m) w) := by
  obtain ⟨i25, gi, ge⟩ := Option.map_eq_some_iff.1 infoI
  have gz0 : i25.zero = some _ := congrArg (fun x => x.1) ge
  have gz1 : i25.size = 6 := congrArg (fun x => x.2.1) ge
  have gz2 : i25.bytes = 112 := congrArg (fun x => x.2.2) ge
  clear ge
  have hgl := hb.lt
  have hL : ∀ W, Below w.heap.size w W → Calls Tryz.prog 83 #[ptr g] W (Same (.slice A l.length c) W) := fun W hW => objStatic_any g A l.length c dp W (hb.below hW hgl)
  have HD := Lib.hid hd
  have HKL := Lib.hid hkl
  clear hd hkl
  have hlow : Below w.heap.size w ((w.alloc (.cells zeroT 25)).alloc (.cells #[.int .i64 6, .string ⟨#[]⟩, .string ⟨#[]⟩, .slice none 0 0, .slice none 0 0, .slice none 0 0] 25)) := ((Below.refl _ _).alloc (Nat.le_refl _) _).alloc (by simp) _
  have hres : Blk ((w.alloc (.cells zeroT 25)).alloc (.cells #[.int .i64 6, .string ⟨#[]⟩, .string ⟨#[]⟩, .slice none 0 0, .slice none 0 0, .slice none 0 0] 25)) w.heap.size 25 zeroT := (Blk.new _ _ _).alloc _
  have hout : Blk ((w.alloc (.cells zeroT 25)).alloc (.cells #[.int .i64 6, .string ⟨#[]⟩, .string ⟨#[]⟩, .slice none 0 0, .slice none 0 0, .slice none 0 0] 25)) (w.heap.size + 1) 25 #[.int .i64 6, .string ⟨#[]⟩, .string ⟨#[]⟩, .slice none 0 0, .slice none 0 0, .slice none 0 0] := by simpa using Blk.new (w.alloc _) _ _
  go_enter Tryz.func47, Tryz.ntmps47
  go_wp2_with fail
  refine (hL _ hlow).mono ?_
  rintro e w' ⟨rfl, rfl⟩
  clear hL
  generalize (w.alloc (.cells zeroT 25)).alloc (.cells #[.int .i64 6, .string ⟨#[]⟩, .string ⟨#[]⟩, .slice none 0 0, .slice none 0 0, .slice none 0 0] 25) = w0 at *
  have hN := hout.lt
  go_wp2
  go_loopw [76] (fun i wr => ∃ j : Nat, j ≤ l.length ∧ i = .int .i64 j ∧ ∃ v1 v2 zs, OP w0 (w.heap.size + 1) (ks.take j) (l.take j) v1 v2 j zs wr) (fun i _ => l.length - (intOf i).toNat)
  case atStart => exact ⟨0, Nat.zero_le _, rfl, _, _, [], OP.start hout⟩
  case round =>
    obtain ⟨j, hj, rfl, v1, v2, zs, hst⟩ := hrel
    have z3 := hst.out.lt
    have z4 := hst.kept.size
    have hlw : Below w.heap.size w wr := hlow.trans (hst.kept.below fun b hb => by omega)
    by_cases hlt : j < l.length
    · have hjk : j < ks.length := by have := HKL.out; omega
      obtain ⟨gp, x, hgp, hxj, hFg, hpb⟩ := hp.get j hjk
      obtain ⟨b, off, rfl, hbb, hq⟩ := hrow j (ptr gp) (by rw [List.getElem?_map, hgp]; rfl)
      have hbb' := hF b hbb
      have hgp' := hF gp hFg
      rw [← hlw.cell (by exact hbb')] at hq
      have hK := fun W => plainKey_any ks[j] W (hko _ (List.getElem_mem hjk))
      have hc := hok j hlt x hxj
      have hxi : Ifc x := by
        obtain ⟨y, e, hy⟩ := hr.get j hlt
        rw [hxj] at e
        exact (Option.some.inj e) ▸ hy.ifc
      have hki := keyVal_ifc ks[j]
      obtain ⟨kv, ekv⟩ : ∃ kv, kv = keyVal ks[j] := ⟨_, rfl⟩
      rw [← ekv] at hki hK hpb
      have hpw : Blk wr gp 129 #[kv, x] := hpb.below hlw hgp'
      obtain ⟨i71, ki, ke⟩ := Option.map_eq_some_iff.1 infoKey
      have kz0 : i71.zero = some _ := congrArg (fun x => x.1) ke
      have kz1 : i71.size = 2 := congrArg (fun x => x.2.1) ke
      have kz2 : i71.bytes = 24 := congrArg (fun x => x.2.2) ke
      clear hp hrow hr hok hFg hpb hgp hxj ke ekv HD hko
      have hlk : ks.length = l.length := HKL.out
      have HLK := Lib.hid hlk
      clear hlk
      have hK0 := hK
      clear hK
      go_wp2_with fail
      refine g_start (S := (fun W => W.cell? ⟨w.heap.size + 1, 3, none⟩ = some v1 ∧ W.cell? ⟨w.heap.size + 1, 4, none⟩ = some v2 ∧ W.cell? ⟨gp, 0, none⟩ = some kv ∧ W.cell? ⟨gp, 1, none⟩ = some x)) (late := Nat.ble 19) (by kernel_rfl) ⟨by simpa using (hst.out.drew).cell 3, by simpa using (hst.out.drew).cell 4, by simpa using (hpw.drew).cell 0, by simpa using (hpw.drew).cell 1⟩ (fun hHeld => ?_)
      refine g_yes (i := 0) (v := ?_) rfl (by kernel_rfl) (by kernel_rfl) (by kernel_rfl) (by kernel_rfl) (by kernel_rfl) (fun _ _ _ h => h) (by rfl) ?_ hHeld ?_
      rotate_left
      · (intro w hSw; (try dsimp only at hSw); obtain ⟨y1, y2, y3, y4⟩ := hSw; go_simp; (try with_reducible rfl))
      (try simp only [Act.put, List.setIfInBounds_toArray, List.set_cons_zero, List.set_cons_succ])
      refine g_yes (i := 1) (v := ?_) rfl (by kernel_rfl) (by kernel_rfl) (by kernel_rfl) (by kernel_rfl) (by kernel_rfl) (fun _ _ _ h => h) (by rfl) ?_ hHeld ?_
      rotate_left
      · (intro w hSw; (try dsimp only at hSw); obtain ⟨y1, y2, y3, y4⟩ := hSw; go_simp; (try with_reducible rfl))
      (try simp only [Act.put, List.setIfInBounds_toArray, List.set_cons_zero, List.set_cons_succ])
      refine g_yes (i := 2) (v := ?_) rfl (by kernel_rfl) (by kernel_rfl) (by kernel_rfl) (by kernel_rfl) (by kernel_rfl) (fun _ _ _ h => h) (by rfl) ?_ hHeld ?_
      rotate_left
      · (intro w hSw; (try dsimp only at hSw); obtain ⟨y1, y2, y3, y4⟩ := hSw; go_simp; (try with_reducible rfl))
      (try simp only [Act.put, List.setIfInBounds_toArray, List.set_cons_zero, List.set_cons_succ])
      refine g_yes (i := 3) (v := ?_) rfl (by kernel_rfl) (by kernel_rfl) (by kernel_rfl) (by kernel_rfl) (by kernel_rfl) (fun _ _ _ h => h) (by rfl) ?_ hHeld ?_
      rotate_left
      · (intro w hSw; (try dsimp only at hSw); obtain ⟨y1, y2, y3, y4⟩ := hSw; go_simp; (try with_reducible rfl))
      (try simp only [Act.put, List.setIfInBounds_toArray, List.set_cons_zero, List.set_cons_succ])
      refine g_yes (i := 4) (v := ?_) rfl (by kernel_rfl) (by kernel_rfl) (by kernel_rfl) (by kernel_rfl) (by kernel_rfl) (fun _ _ _ h => h) (by rfl) ?_ hHeld ?_
      rotate_left
      · (intro w hSw; (try dsimp only at hSw); obtain ⟨y1, y2, y3, y4⟩ := hSw; go_simp; (try with_reducible rfl))
      (try simp only [Act.put, List.setIfInBounds_toArray, List.set_cons_zero, List.set_cons_succ])
      refine g_yes (i := 5) (v := ?_) rfl (by kernel_rfl) (by kernel_rfl) (by kernel_rfl) (by kernel_rfl) (by kernel_rfl) (fun _ _ _ h => h) (by rfl) ?_ hHeld ?_
      rotate_left
      · (intro w hSw; (try dsimp only at hSw); obtain ⟨y1, y2, y3, y4⟩ := hSw; go_simp; (try with_reducible rfl))
      (try simp only [Act.put, List.setIfInBounds_toArray, List.set_cons_zero, List.set_cons_succ])
      refine g_yes (i := 9) (v := ?_) rfl (by kernel_rfl) (by kernel_rfl) (by kernel_rfl) (by kernel_rfl) (by kernel_rfl) (fun _ _ _ h => h) (by rfl) ?_ hHeld ?_
      rotate_left
      · (intro w hSw; (try dsimp only at hSw); obtain ⟨y1, y2, y3, y4⟩ := hSw; go_simp; (try with_reducible rfl))
      (try simp only [Act.put, List.setIfInBounds_toArray, List.set_cons_zero, List.set_cons_succ])
      refine g_yes (i := 10) (v := ?_) rfl (by kernel_rfl) (by kernel_rfl) (by kernel_rfl) (by kernel_rfl) (by kernel_rfl) (fun _ _ _ h => h) (by rfl) ?_ hHeld ?_
      rotate_left
      · (intro w hSw; (try dsimp only at hSw); obtain ⟨y1, y2, y3, y4⟩ := hSw; go_simp; (try with_reducible rfl))
      (try simp only [Act.put, List.setIfInBounds_toArray, List.set_cons_zero, List.set_cons_succ])
      refine g_yes (i := 11) (v := ?_) rfl (by kernel_rfl) (by kernel_rfl) (by kernel_rfl) (by kernel_rfl) (by kernel_rfl) (fun _ _ _ h => h) (by rfl) ?_ hHeld ?_
      rotate_left
      · (intro w hSw; (try dsimp only at hSw); obtain ⟨y1, y2, y3, y4⟩ := hSw; go_simp; (try with_reducible rfl))
      (try simp only [Act.put, List.setIfInBounds_toArray, List.set_cons_zero, List.set_cons_succ])
      refine g_yes (i := 12) (v := ?_) rfl (by kernel_rfl) (by kernel_rfl) (by kernel_rfl) (by kernel_rfl) (by kernel_rfl) (fun _ _ _ h => h) (by rfl) ?_ hHeld ?_
      rotate_left
      · (intro w hSw; (try dsimp only at hSw); obtain ⟨y1, y2, y3, y4⟩ := hSw; go_simp; (try with_reducible rfl))
      (try simp only [Act.put, List.setIfInBounds_toArray, List.set_cons_zero, List.set_cons_succ])
      refine g_yes (i := 13) (v := ?_) rfl (by kernel_rfl) (by kernel_rfl) (by kernel_rfl) (by kernel_rfl) (by kernel_rfl) (fun _ _ _ h => h) (by rfl) ?_ hHeld ?_
      rotate_left
      · (intro w hSw; (try dsimp only at hSw); obtain ⟨y1, y2, y3, y4⟩ := hSw; go_simp; (try with_reducible rfl))
      (try simp only [Act.put, List.setIfInBounds_toArray, List.set_cons_zero, List.set_cons_succ])
      refine g_yes (i := 14) (v := ?_) rfl (by kernel_rfl) (by kernel_rfl) (by kernel_rfl) (by kernel_rfl) (by kernel_rfl) (fun _ _ _ h => h) (by rfl) ?_ hHeld ?_
      rotate_left
      · (intro w hSw; (try dsimp only at hSw); obtain ⟨y1, y2, y3, y4⟩ := hSw; go_simp; (try with_reducible rfl))
      (try simp only [Act.put, List.setIfInBounds_toArray, List.set_cons_zero, List.set_cons_succ])
      refine g_step (i := 6) rfl (by kernel_rfl) (fun K hK => ?_)
      go_simp
      go_at_call 84
      refine (hK0 _).mono ?_
      rintro e w1 ⟨rfl, hb1⟩
      have hbw1 := (Below.refl wr.heap.size wr).drew.trans (hb1.mono (Nat.le_refl _))
      have ob1 := hst.out.below hbw1 z3
      have pb1 := hpw.below hbw1 hpw.lt
      have sz1 := hbw1.size
      have own1 := own_below hst.own1 hbw1 (Nat.le_refl _)
      have own2 := own_below hst.own2 hbw1 (Nat.le_refl _)
      (try go_wp2_with fail)
      refine hK.out _ _ (fun _ => ⟨by simpa using (ob1).cell 3, by simpa using (ob1).cell 4, by simpa using (pb1).cell 0, by simpa using (pb1).cell 1⟩) (fun hHeld => ?_)
      clear hK K
      (try simp only [Act.put, List.setIfInBounds_toArray, List.set_cons_zero, List.set_cons_succ])
      refine g_step (i := 7) rfl (by kernel_rfl) (fun K hK => ?_)
      go_simp
      have ob2 := ob1.alloc (.cells #[.int .i64 ks[j].kind, .string ks[j].text] 71)
      have pb2 := pb1.alloc (.cells #[.int .i64 ks[j].kind, .string ks[j].text] 71)
      have own1' := own1.alloc (.cells #[.int .i64 ks[j].kind, .string ks[j].text] 71)
      have own2' := own2.alloc (.cells #[.int .i64 ks[j].kind, .string ks[j].text] 71)
      refine hK.out _ _ (fun _ => ⟨by simpa using (ob2).cell 3, by simpa using (ob2).cell 4, by simpa using (pb2).cell 0, by simpa using (pb2).cell 1⟩) (fun hHeld => ?_)
      clear hK K
      (try simp only [Act.put, List.setIfInBounds_toArray, List.set_cons_zero, List.set_cons_succ])
      refine g_step (i := 8) rfl (by kernel_rfl) (fun K hK => ?_)
      refine step_append_lies _ (by rfl) _ _ _ (by rfl) w0.heap.size 71 i71 _ 2 24 Tryz.underlying22 ki kz0 kz1 kz2 rfl (by omega) v1 j (keyCells (ks.take j)) (by rfl) own1' ⟨w1.heap.size, 0, none⟩ 1 1 [.int .i64 ks[j].kind, .string ks[j].text] (by rfl) (by rfl) (news_at w1 _ _ rfl) (by simp [Value.oneCell']) (by omega) (by unfold maxLen; omega) (by omega) (by simp; omega) (w1.heap.size + 1) (by simp) ?_
      intro g1 c1 w2 hown1 hg1 hat1 _
      have ob3 := ob2.grown hg1 (own_ne hst.own1 hN)
      have pb3 := pb2.grown hg1 (own_ne hst.own1 (by omega))
      have own3 := own_beside own2' own1' hg1 (fun b h1 h2 => hst.apart b h2 h1)
      have sz2 : (w1.alloc (.cells #[.int .i64 ks[j].kind, .string ks[j].text] 71)).heap.size ≤ w2.heap.size := (Kept.grown (X := fun _ => False) (Kept.refl _ _) hg1 (fun _ h => h.elim) fun _ _ h => h).size
      have hbw2 : Below w.heap.size w w2 := (hlw.trans (hbw1.mono hlw.size)).trans (((Kept.refl (fun b => b < w.heap.size) w1).alloc (fun b hb => by omega) _).grown hg1 (fun b hb => by simp; omega) (fun k hk hX => own_ne hst.own1 (by omega) hk.symm)|>.below fun b hb => hb)
      simp only [World.size_alloc] at sz2
      refine hK.out _ _ (fun _ => ⟨by simpa using (ob3).cell 3, by simpa using (ob3).cell 4, by simpa using (pb3).cell 0, by simpa using (pb3).cell 1⟩) (fun hHeld => ?_)
      clear hK K
      (try simp only [Act.put, List.setIfInBounds_toArray, List.set_cons_zero, List.set_cons_succ])
      have hHeld := hHeld rfl
      refine g_yes (i := 18) (v := ?_) rfl (by kernel_rfl) (by kernel_rfl) (by kernel_rfl) (by kernel_rfl) (by kernel_rfl) (fun _ _ _ h => h) (by rfl) ?_ hHeld ?_
      rotate_left
      · (intro w hSw; (try dsimp only at hSw); obtain ⟨y1, y2, y3, y4⟩ := hSw; go_simp; (try with_reducible rfl))
      (try simp only [Act.put, List.setIfInBounds_toArray, List.set_cons_zero, List.set_cons_succ])
      refine g_step (i := 15) rfl (by kernel_rfl) (fun K hK => ?_)
      go_simp
      go_at_call 47
      refine (hc _ hbw2).mono ?_
      rintro e w3 ⟨cs', rfl, hrep, hb3⟩
      obtain ⟨nm, tx, E1, d1, E2, d2, E3, d3, rfl⟩ := hrep.shape
      have ob4 := ob3.below hb3 ob3.lt
      have pb4 := pb3.below hb3 pb3.lt
      have sz3 := hb3.size
      have own4 := own_below own3 hb3 (Nat.le_refl _)
      (try go_wp2_with fail)
      refine hK.out _ _ (fun _ => ⟨by simpa using (ob4).cell 3, by simpa using (ob4).cell 4, by simpa using (pb4).cell 0, by simpa using (pb4).cell 1⟩) (fun hHeld => ?_)
      clear hK K
      (try simp only [Act.put, List.setIfInBounds_toArray, List.set_cons_zero, List.set_cons_succ])
      refine g_step (i := 16) rfl (by kernel_rfl) (fun K hK => ?_)
      go_simp
      have ob5 := ob4.alloc (.cells #[.int .i64 l[j].kind, .string nm, .string tx, .slice E1 l[j].keys.length d1, .slice E2 l[j].kids.length d2, .slice E3 l[j].more.length d3] 25)
      have pb5 := pb4.alloc (.cells #[.int .i64 l[j].kind, .string nm, .string tx, .slice E1 l[j].keys.length d1, .slice E2 l[j].kids.length d2, .slice E3 l[j].more.length d3] 25)
      have own5 := own4.alloc (.cells #[.int .i64 l[j].kind, .string nm, .string tx, .slice E1 l[j].keys.length d1, .slice E2 l[j].kids.length d2, .slice E3 l[j].more.length d3] 25)
      refine hK.out _ _ (fun _ => ⟨by simpa using (ob5).cell 3, by simpa using (ob5).cell 4, by simpa using (pb5).cell 0, by simpa using (pb5).cell 1⟩) (fun hHeld => ?_)
      clear hK K
      (try simp only [Act.put, List.setIfInBounds_toArray, List.set_cons_zero, List.set_cons_succ])
      refine g_step (i := 17) rfl (by kernel_rfl) (fun K hK => ?_)
      refine step_append_lies _ (by rfl) _ _ _ (by rfl) w0.heap.size 25 i25 _ 6 112 Tryz.underlying23 gi gz0 gz1 gz2 rfl (by omega) v2 j zs (by rfl) own5 ⟨w3.heap.size, 0, none⟩ 1 1 [.int .i64 l[j].kind, .string nm, .string tx, .slice E1 l[j].keys.length d1, .slice E2 l[j].kids.length d2, .slice E3 l[j].more.length d3] (by rfl) (by rfl) (news_at w3 _ _ rfl) (by simp [Value.oneCell']) (by omega) (by unfold maxLen; omega) (by omega) (by simp; omega) (w3.heap.size + 1) (by simp) ?_
      intro g2 c2 w4 hown2 hg2 hat2 _
      have ob6 := ob5.grown hg2 (own_ne hst.own2 hN)
      have pb6 := pb5.grown hg2 (own_ne hst.own2 (by omega))
      have fr3 := ob6.frozen 3
      have fr4 := ob6.frozen 4
      have k3 := ob6.cell 3
      have k4 := ob6.cell 4
      have k5 := ob6.lt
      simp at k3 k4
      have E1 : keyCells (ks.take j) ++ [.int .i64 ks[j].kind, .string ks[j].text] = keyCells (ks.take (j + 1)) := by rw [List.take_succ_eq_append_getElem hjk, keyCells_append]; rfl
      have R := hst.push hN hbw1 _ hg1 (E1 ▸ hown1) hat1 hb3 hrep _ hg2 hown2 hat2 rfl
      refine hK.out _ _ (fun _ => ⟨by simpa using (ob6).cell 3, by simpa using (ob6).cell 4, by simpa using (pb6).cell 0, by simpa using (pb6).cell 1⟩) (fun hHeld => ?_)
      clear hK K
      (try simp only [Act.put, List.setIfInBounds_toArray, List.set_cons_zero, List.set_cons_succ])
      refine g_step (i := 19) rfl (by kernel_rfl) (fun K hK => ?_)
      go_simp
      refine hK.out _ _ (fun h => absurd h (by decide)) (fun hHeld => ?_)
      clear hK K
      (try simp only [Act.put, List.setIfInBounds_toArray, List.set_cons_zero, List.set_cons_succ])
      refine g_step (i := 20) rfl (by kernel_rfl) (fun K hK => ?_)
      go_simp
      refine hK.out _ _ (fun h => absurd h (by decide)) (fun hHeld => ?_)
      clear hK K
      (try simp only [Act.put, List.setIfInBounds_toArray, List.set_cons_zero, List.set_cons_succ])
      refine g_step (i := 21) rfl (by kernel_rfl) (fun K hK => ?_)
      go_simp
      refine hK.out _ _ (fun h => absurd h (by decide)) (fun hHeld => ?_)
      clear hK K
      (try simp only [Act.put, List.setIfInBounds_toArray, List.set_cons_zero, List.set_cons_succ])
      refine g_done (by kernel_rfl) ?_ _
      rw [← List.take_succ_eq_append_getElem hlt] at R
      clear hst hK0 hc hpw hbw1 hbw2 hb1 hb3 hrep own1 own2 own1' own2' own3 own4 own5 ob1 ob2 ob3 ob4 ob5 ob6 pb1 pb2 pb3 pb4 pb5 pb6 hg1 hg2 hown1 hown2 k3 k4 fr3 fr4 hHeld
      go_wp2
      go_roundw
      case rel => exact ⟨j + 1, by omega, by go_num, _, _, _, R⟩
      case measure => simp [intOf]; omega
    · have ej : j = l.length := by omega
      subst ej
      have hkl := HKL.out
      have etk : ks.take l.length = ks := List.take_of_length_le (by omega)
      rw [List.take_length, etk] at hst
      have hres1 := hres.kept hst.kept (by omega)
      have hout1 := hst.out
      have hown1 : wr.ownsRow w0.heap.size 71 2 v1 ks.length (keyCells ks) := by rw [hkl]; exact hst.own1
      obtain ⟨A1, c1, rfl, hrow1, hcap1⟩ := rowAt.of_own' (B := fun b => w.heap.size + 1 < b ∧ b < wr.heap.size) hown1 fun g hg hg' _ => ⟨by omega, hg'⟩
      obtain ⟨A2, c2, rfl, hrow2, hcap2⟩ := rowAt.of_own' (B := fun b => w.heap.size + 1 < b ∧ b < wr.heap.size) hst.own2 fun g hg hg' _ => ⟨by omega, hg'⟩
      have hreps : repIs wr (fun b => w.heap.size + 1 < b ∧ b < wr.heap.size) l zs := repIs.kept hst.rep (Kept.refl (fun _ => True) _) (fun _ _ => trivial) fun b hb => ⟨by omega, hb.2.1⟩
      have hE : ∀ (d : Option Addr), dp = .pointer d → Calls Tryz.prog 85 #[ptr g] wr (Same (.pointer d) wr) := fun d e => objDyn_any g _ d wr (by subst e; exact hb.below hlw hgl)
      clear hst hown1 hp hrow hr hok etk hkl
      rcases HD.out with ⟨rfl, rfl⟩ | ⟨g', x, y, s, t, rfl, hdb, rfl, hxi, hyi, hs, ht⟩
      · have hy := hE none rfl
        clear HD HKL hE
        go_wp2_with fail
        refine hy.mono ?_
        rintro e w' ⟨rfl, rfl⟩
        clear hy
        skip
        have p0 := hout1.cell 0
        have p1 := hout1.cell 1
        have p2 := hout1.cell 2
        have p3 := hout1.cell 3
        have p4 := hout1.cell 4
        have p5 := hout1.cell 5
        simp at p0 p1 p2 p3 p4 p5
        have r0 := hres1.cell 0
        have r1 := hres1.cell 1
        have r2 := hres1.cell 2
        have r3 := hres1.cell 3
        have r4 := hres1.cell 4
        have r5 := hres1.cell 5
        simp at r0 r1 r2 r3 r4 r5
        have fr0 := hres1.frozen 0
        have fr1 := hres1.frozen 1
        have fr2 := hres1.frozen 2
        have fr3 := hres1.frozen 3
        have fr4 := hres1.frozen 4
        have fr5 := hres1.frozen 5
        have rl := hres1.lt
        go_wp2
        obtain ⟨hq, hkq⟩ := place6 hres1 (.int .i64 6) (.string ⟨#[]⟩) (.string ⟨#[]⟩) (.slice A1 ks.length c1) (.slice A2 l.length c2) (.slice none 0 0)
        have e0 := hq.cell 0
        have e1 := hq.cell 1
        have e2 := hq.cell 2
        have e3 := hq.cell 3
        have e4 := hq.cell 4
        have e5 := hq.cell 5
        refine bodyPost_ret (v := .agg #[.int .i64 6, .string ⟨#[]⟩, .string ⟨#[]⟩, .slice A1 ks.length c1, .slice A2 l.length c2, .slice none 0 0]) (by simp [results, Tryz.results47, go_sem, e0, e1, e2, e3, e4, e5]) rfl ?_
        exact plain_end hlw hkq (fun b hb => by omega) (fun b hb => by omega) (fun b hb => by omega) hcap1 hcap2 (Nat.le_refl _) hrow1 hrow2 hreps rowAt.nil (by simp only [repIs])
      · have hy := hE (some ⟨g', 0, none⟩) rfl
        have hdw : Blk wr g' 132 #[x, y] := hdb.below hlw hdb.lt
        have hgl' := hdb.lt
        clear HD HKL hE hdb
        go_wp2_with fail
        refine hy.mono ?_
        rintro e w' ⟨rfl, rfl⟩
        clear hy
        go_wp2_with fail
        refine g_start (S := (fun W => W.cell? ⟨g', 0, none⟩ = some x ∧ W.cell? ⟨g', 1, none⟩ = some y)) (late := Nat.ble 11) (by kernel_rfl) ⟨by simpa using (hdw.drew).cell 0, by simpa using (hdw.drew).cell 1⟩ (fun hHeld => ?_)
        refine g_yes (i := 0) (v := ?_) rfl (by kernel_rfl) (by kernel_rfl) (by kernel_rfl) (by kernel_rfl) (by kernel_rfl) (fun _ _ _ h => h) (by rfl) ?_ hHeld ?_
        rotate_left
        · (intro w hSw; (try dsimp only at hSw); obtain ⟨y1, y2⟩ := hSw; go_simp; (try with_reducible rfl))
        (try simp only [Act.put, List.setIfInBounds_toArray, List.set_cons_zero, List.set_cons_succ])
        refine g_yes (i := 1) (v := ?_) rfl (by kernel_rfl) (by kernel_rfl) (by kernel_rfl) (by kernel_rfl) (by kernel_rfl) (fun _ _ _ h => h) (by rfl) ?_ hHeld ?_
        rotate_left
        · (intro w hSw; (try dsimp only at hSw); obtain ⟨y1, y2⟩ := hSw; go_simp; (try with_reducible rfl))
        (try simp only [Act.put, List.setIfInBounds_toArray, List.set_cons_zero, List.set_cons_succ])
        refine g_yes (i := 2) (v := ?_) rfl (by kernel_rfl) (by kernel_rfl) (by kernel_rfl) (by kernel_rfl) (by kernel_rfl) (fun _ _ _ h => h) (by rfl) ?_ hHeld ?_
        rotate_left
        · (intro w hSw; (try dsimp only at hSw); obtain ⟨y1, y2⟩ := hSw; go_simp; (try with_reducible rfl))
        (try simp only [Act.put, List.setIfInBounds_toArray, List.set_cons_zero, List.set_cons_succ])
        refine g_yes (i := 3) (v := ?_) rfl (by kernel_rfl) (by kernel_rfl) (by kernel_rfl) (by kernel_rfl) (by kernel_rfl) (fun _ _ _ h => h) (by rfl) ?_ hHeld ?_
        rotate_left
        · (intro w hSw; (try dsimp only at hSw); obtain ⟨y1, y2⟩ := hSw; go_simp; (try with_reducible rfl))
        (try simp only [Act.put, List.setIfInBounds_toArray, List.set_cons_zero, List.set_cons_succ])
        refine g_yes (i := 5) (v := ?_) rfl (by kernel_rfl) (by kernel_rfl) (by kernel_rfl) (by kernel_rfl) (by kernel_rfl) (fun _ _ _ h => h) (by rfl) ?_ hHeld ?_
        rotate_left
        · (intro w hSw; (try dsimp only at hSw); obtain ⟨y1, y2⟩ := hSw; go_simp; (try with_reducible rfl))
        (try simp only [Act.put, List.setIfInBounds_toArray, List.set_cons_zero, List.set_cons_succ])
        refine g_yes (i := 6) (v := ?_) rfl (by kernel_rfl) (by kernel_rfl) (by kernel_rfl) (by kernel_rfl) (by kernel_rfl) (fun _ _ _ h => h) (by rfl) ?_ hHeld ?_
        rotate_left
        · (intro w hSw; (try dsimp only at hSw); obtain ⟨y1, y2⟩ := hSw; go_simp; (try with_reducible rfl))
        (try simp only [Act.put, List.setIfInBounds_toArray, List.set_cons_zero, List.set_cons_succ])
        refine g_yes (i := 7) (v := ?_) rfl (by kernel_rfl) (by kernel_rfl) (by kernel_rfl) (by kernel_rfl) (by kernel_rfl) (fun _ _ _ h => h) (by rfl) ?_ hHeld ?_
        rotate_left
        · (intro w hSw; (try dsimp only at hSw); obtain ⟨y1, y2⟩ := hSw; go_simp; (try with_reducible rfl))
        (try simp only [Act.put, List.setIfInBounds_toArray, List.set_cons_zero, List.set_cons_succ])
        refine g_yes (i := 8) (v := ?_) rfl (by kernel_rfl) (by kernel_rfl) (by kernel_rfl) (by kernel_rfl) (by kernel_rfl) (fun _ _ _ h => h) (by rfl) ?_ hHeld ?_
        rotate_left
        · (intro w hSw; (try dsimp only at hSw); obtain ⟨y1, y2⟩ := hSw; go_simp; (try with_reducible rfl))
        (try simp only [Act.put, List.setIfInBounds_toArray, List.set_cons_zero, List.set_cons_succ])
        refine g_step (i := 4) rfl (by kernel_rfl) (fun K hK => ?_)
        go_simp
        go_at_call 47
        refine (hs _ hlw.drew).mono ?_
        rintro e w1 ⟨cs, rfl, hrs, hb1⟩
        obtain ⟨nm, tx, E1, d1, E2, d2, E3, d3, rfl⟩ := hrs.shape
        have hbw1 := (Below.refl wr.heap.size wr).drew.trans (hb1.mono (Nat.le_refl _))
        have sz1 := hbw1.size
        have ob1 := hout1.below hbw1 hout1.lt
        have rb1 := hres1.below hbw1 hres1.lt
        have db1 := hdw.below hbw1 hdw.lt
        have hlw1 := hlw.trans (hbw1.mono hlw.size)
        (try go_wp2_with fail)
        refine hK.out _ _ (fun _ => ⟨by simpa using (db1).cell 0, by simpa using (db1).cell 1⟩) (fun hHeld => ?_)
        clear hK K
        (try simp only [Act.put, List.setIfInBounds_toArray, List.set_cons_zero, List.set_cons_succ])
        refine g_step (i := 9) rfl (by kernel_rfl) (fun K hK => ?_)
        go_simp
        go_at_call 47
        refine (ht _ hlw1).mono ?_
        rintro e w2 ⟨cs', rfl, hrt, hb2⟩
        obtain ⟨nm', tx', E1', d1', E2', d2', E3', d3', rfl⟩ := hrt.shape
        have sz2 := hb2.size
        have ob2 := ob1.below hb2 ob1.lt
        have rb2 := rb1.below hb2 rb1.lt
        have db2 := db1.below hb2 db1.lt
        have hlw2 := hlw1.trans (hb2.mono hlw1.size)
        have rl2 := rb2.lt
        have ol2 := ob2.lt
        (try go_wp2_with fail)
        refine hK.out _ _ (fun _ => ⟨by simpa using (db2).cell 0, by simpa using (db2).cell 1⟩) (fun hHeld => ?_)
        clear hK K
        (try simp only [Act.put, List.setIfInBounds_toArray, List.set_cons_zero, List.set_cons_succ])
        refine g_step (i := 10) rfl (by kernel_rfl) (fun K hK => ?_)
        go_simp
        refine hK.out _ _ (fun _ => ⟨by simpa using (db2.alloc (.cells #[.int .i64 s.kind, .string nm, .string tx, .slice E1 s.keys.length d1, .slice E2 s.kids.length d2, .slice E3 s.more.length d3, .int .i64 t.kind, .string nm', .string tx', .slice E1' t.keys.length d1', .slice E2' t.kids.length d2', .slice E3' t.more.length d3'] 25)).cell 0, by simpa using (db2.alloc (.cells #[.int .i64 s.kind, .string nm, .string tx, .slice E1 s.keys.length d1, .slice E2 s.kids.length d2, .slice E3 s.more.length d3, .int .i64 t.kind, .string nm', .string tx', .slice E1' t.keys.length d1', .slice E2' t.kids.length d2', .slice E3' t.more.length d3'] 25)).cell 1⟩) (fun hHeld => ?_)
        clear hK K
        (try simp only [Act.put, List.setIfInBounds_toArray, List.set_cons_zero, List.set_cons_succ])
        have p0 := ob2.cell 0
        have p1 := ob2.cell 1
        have p2 := ob2.cell 2
        have p3 := ob2.cell 3
        have p4 := ob2.cell 4
        have p5 := ob2.cell 5
        simp at p0 p1 p2 p3 p4 p5
        have fo := ob2.frozen 5
        have r0 := rb2.cell 0
        have r1 := rb2.cell 1
        have r2 := rb2.cell 2
        have r3 := rb2.cell 3
        have r4 := rb2.cell 4
        have r5 := rb2.cell 5
        simp at r0 r1 r2 r3 r4 r5
        have fr0 := rb2.frozen 0
        have fr1 := rb2.frozen 1
        have fr2 := rb2.frozen 2
        have fr3 := rb2.frozen 3
        have fr4 := rb2.frozen 4
        have fr5 := rb2.frozen 5
        refine g_step (i := 11) rfl (by kernel_rfl) (fun K hK => ?_)
        go_simp
        refine hK.out _ _ (fun h => absurd h (by decide)) (fun hHeld => ?_)
        clear hK K
        (try simp only [Act.put, List.setIfInBounds_toArray, List.set_cons_zero, List.set_cons_succ])
        refine g_step (i := 12) rfl (by kernel_rfl) (fun K hK => ?_)
        go_simp
        refine hK.out _ _ (fun h => absurd h (by decide)) (fun hHeld => ?_)
        clear hK K
        (try simp only [Act.put, List.setIfInBounds_toArray, List.set_cons_zero, List.set_cons_succ])
        refine g_done (by kernel_rfl) ?_ _
        go_wp2
        have hr12 : repIs w2 (fun b => w.heap.size + 1 < b ∧ b < w2.heap.size) [s, t] [.int .i64 s.kind, .string nm, .string tx, .slice E1 s.keys.length d1, .slice E2 s.kids.length d2, .slice E3 s.more.length d3, .int .i64 t.kind, .string nm', .string tx', .slice E1' t.keys.length d1', .slice E2' t.kids.length d2', .slice E3' t.more.length d3'] := by
          simp only [repIs]
          exact ⟨[_, _, _, _, _, _], [_, _, _, _, _, _], rfl, hrs.kept (Kept.of_below (X := fun b => b < w1.heap.size) hb2 fun _ h => h) (fun b hb => hb.2) (fun b hb => by have := hb.1; have e : wr.drew.heap.size = wr.heap.size := rfl; omega), [_, _, _, _, _, _], [], by simp, hrt.kept (Kept.refl (fun _ => True) _) (fun _ _ => trivial) (fun b hb => by omega), rfl⟩
        have K12 : Kept (fun b => b < wr.heap.size) wr w2 := (Kept.of_below hbw1 fun _ h => h).trans (Kept.of_below hb2 fun b hb => by omega)
        have hb3 := rb2.far (p := ⟨w.heap.size + 1, 5, none⟩) (by simp) (.slice (some ⟨w2.heap.size, 0, none⟩) 2 2)
        obtain ⟨hq, hkq0⟩ := place6 hb3 (.int .i64 6) (.string ⟨#[]⟩) (.string ⟨#[]⟩) (.slice A1 ks.length c1) (.slice A2 l.length c2) (.slice (some ⟨w2.heap.size, 0, none⟩) 2 2)
        have hz : (((((((w2.setCell ⟨w.heap.size + 1, 5, none⟩ (.slice (some ⟨w2.heap.size, 0, none⟩) 2 2)).setCell ⟨w.heap.size, 0, none⟩ (.int .i64 6)).setCell ⟨w.heap.size, 1, none⟩ (.string ⟨#[]⟩)).setCell ⟨w.heap.size, 2, none⟩ (.string ⟨#[]⟩)).setCell ⟨w.heap.size, 3, none⟩ (.slice A1 ks.length c1)).setCell ⟨w.heap.size, 4, none⟩ (.slice A2 l.length c2)).setCell ⟨w.heap.size, 5, none⟩ (.slice (some ⟨w2.heap.size, 0, none⟩) 2 2)).heap.size = w2.heap.size := by simp
        have hkq : Kept (fun b => b ≠ w.heap.size ∧ b ≠ w.heap.size + 1) w2 _ := ((Kept.refl _ _).setCell (p := ⟨w.heap.size + 1, 5, none⟩) (by simp) (.slice (some ⟨w2.heap.size, 0, none⟩) 2 2)).trans (hkq0.mono fun b hb => hb.1)
        clear hkq0
        generalize (((((((w2.setCell ⟨w.heap.size + 1, 5, none⟩ (.slice (some ⟨w2.heap.size, 0, none⟩) 2 2)).setCell ⟨w.heap.size, 0, none⟩ (.int .i64 6)).setCell ⟨w.heap.size, 1, none⟩ (.string ⟨#[]⟩)).setCell ⟨w.heap.size, 2, none⟩ (.string ⟨#[]⟩)).setCell ⟨w.heap.size, 3, none⟩ (.slice A1 ks.length c1)).setCell ⟨w.heap.size, 4, none⟩ (.slice A2 l.length c2)).setCell ⟨w.heap.size, 5, none⟩ (.slice (some ⟨w2.heap.size, 0, none⟩) 2 2)) = wf at *
        have hq' := hq.alloc (.cells #[.int .i64 s.kind, .string nm, .string tx, .slice E1 s.keys.length d1, .slice E2 s.kids.length d2, .slice E3 s.more.length d3, .int .i64 t.kind, .string nm', .string tx', .slice E1' t.keys.length d1', .slice E2' t.kids.length d2', .slice E3' t.more.length d3'] 25)
        obtain ⟨hrow, hrf⟩ := plain_rows (w := w) 25 (hkq.mono fun b (hb : w.heap.size + 1 < b ∧ b < w2.heap.size) => by omega) hz (by omega) (fun b hb => by omega) (fun b hb => by omega) hr12 (fun b hb => by omega)
        have e0 := hq'.cell 0
        have e1 := hq'.cell 1
        have e2 := hq'.cell 2
        have e3 := hq'.cell 3
        have e4 := hq'.cell 4
        have e5 := hq'.cell 5
        refine bodyPost_ret (v := .agg #[.int .i64 6, .string ⟨#[]⟩, .string ⟨#[]⟩, .slice A1 ks.length c1, .slice A2 l.length c2, .slice (some ⟨w2.heap.size, 0, none⟩) 2 2]) (by simp [results, Tryz.results47, go_sem, e0, e1, e2, e3, e4, e5]) rfl ?_
        exact plain_end (X := fun b => b < wf.heap.size ∧ b ≠ w.heap.size ∧ b ≠ w.heap.size + 1) (m := [s, t]) hlw2 ((hkq.mono fun b hb => hb.2).alloc (fun b hb => hb.1) _) (fun b hb => by omega) (B := fun b => w.heap.size + 1 < b ∧ b < w2.heap.size) (fun b hb => by omega) (fun b hb => by omega) hcap1 hcap2 (Nat.le_refl _) (hrow1.kept K12 (fun b hb => hb.2) (fun b hb => by omega)) (hrow2.kept K12 (fun b hb => hb.2) (fun b hb => by omega)) (hreps.kept K12 (fun b hb => hb.2) (fun b hb => by omega)) hrow hrf

end Go.Proofs.YtpmfjbmfjfhghaaGreat
