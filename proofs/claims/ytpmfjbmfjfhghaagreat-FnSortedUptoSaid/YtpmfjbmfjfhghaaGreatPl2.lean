/-
  'impl.plain': a type as plain data (3): array types.
-/
import Derived.Test.YtpmfjbmfjfhghaaGreatPl1
import Derived.Test.YtpmfjbmfjfhghaaGreatReg2
import Derived.Deep.RegionLaw
namespace Go.Proofs.YtpmfjbmfjfhghaaGreat
open Go.RowKit

set_option maxRecDepth 100000 in
theorem arrLen_any (g : Nat) (A : Option Addr) (n c : Nat) (d : Value) (w : World) (hb : Blk w g 139 #[.slice A n c, d]) : Calls Tryz.prog 80 #[ptr g] w (Same (.int .i64 n) w) := by
  have q0 := hb.cell 0
  have hg := hb.lt
  simp at q0
  go_enter Tryz.func80, Tryz.ntmps80
  go_wp2
  go_ret
  exact ⟨rfl, rfl⟩

set_option maxRecDepth 100000 in
theorem arrDyn_any (g : Nat) (x d : Value) (w : World) (hb : Blk w g 139 #[x, d]) (hi : Ifc d) : Calls Tryz.prog 82 #[ptr g] w (Same d w) := by
  have q0 := hb.cell 1
  have hg := hb.lt
  simp at q0
  rcases hi with rfl | ⟨T, x, rfl⟩
  all_goals
    go_enter Tryz.func82, Tryz.ntmps82
    go_wp2
    go_ret
    exact ⟨rfl, rfl⟩

set_option maxRecDepth 100000 in
theorem arrSel_any (g b off n c i : Nat) (d x : Value) (w : World) (hb : Blk w g 139 #[.slice (some ⟨b, off, none⟩) n c, d]) (hi : i < n) (hx : w.cell? ⟨b, off + i, none⟩ = some x) (hx' : Ifc x) :
    Calls Tryz.prog 81 #[ptr g, .int .i64 i] w (Same x w) := by
  have q0 := hb.cell 0
  have hg := hb.lt
  simp at q0
  rcases hx' with rfl | ⟨T, x, rfl⟩
  all_goals
    go_enter Tryz.func81, Tryz.ntmps81
    go_wp2
    go_ret
    exact ⟨rfl, rfl⟩

/-- The kids that have been copied, their slice in a block. -/
def KRowI (M : Nat) (l : List Tr) (v : Value) (zs : List Value) (wr : World) : Prop := repIs wr (fun b => M ≤ b ∧ b < wr.heap.size ∧ v.ownBlock ≠ some b) l zs

theorem KRowI.push {M g : Nat} {l : List Tr} {t : Tr} {v v' : Value} {zs cs : List Value} {wr w1 wf : World} (h : KRowI M l v zs wr) (hM : M ≤ wr.heap.size) (hb : Below wr.heap.size wr w1) (hg : g < M)
    (hk : Kept (fun b => b < w1.heap.size ∧ b ≠ g ∧ v.ownBlock ≠ some b) w1 wf) (hv : ∀ b, b < w1.heap.size → v.ownBlock ≠ some b → v'.ownBlock ≠ some b)
    (hc : repI w1 (fun b => wr.heap.size ≤ b ∧ b < w1.heap.size) t cs) (hvw : ∀ b, wr.heap.size ≤ b → v.ownBlock ≠ some b) : KRowI M (l ++ [t]) v' (zs ++ cs) wf := by
  have s1 := hb.size
  have s2 := hk.size
  refine repIs.snoc (hc.kept hk (fun b hb => ⟨by omega, by omega, hvw b (by omega)⟩) fun b hb => ⟨by omega, by omega, hv b hb.2 (hvw b (by omega))⟩) ?_
  refine repIs.kept (w := w1) (B := fun b => M ≤ b ∧ b < wr.heap.size ∧ v.ownBlock ≠ some b) ?_ hk (fun b hb => ⟨by omega, by omega, hb.2.2⟩) fun b hb => ⟨by omega, by omega, hv b (by omega) hb.2.2⟩
  exact repIs.kept h (Kept.of_below (X := fun b => b < wr.heap.size) hb fun b hb => hb) (fun b hb => hb.2.1) fun b hb => hb

set_option maxHeartbeats 1000000 in
set_option maxRecDepth 100000 in
theorem plain_array (l m : List Tr) (g : Nat) (A : Option Addr) (c : Nat) (dyn : Value) (xs : List Value) (w : World) (F : Nat → Prop) (hb : Blk w g 139 #[.slice A l.length c, dyn]) (hr : repPs w F l xs) (hrow : rowAt w F A xs) (hF : ∀ b, F b → b < w.heap.size)
    (hok : ∀ i (hi : i < l.length) x, xs[i]? = some x → PlainOk l[i] x w) (hd : (m = [] ∧ dyn = .nilIface) ∨ ∃ t, m = [t] ∧ dyn ≠ .nilIface ∧ Ifc dyn ∧ PlainOk t dyn w) (hlen : l.length ≤ 1048576) :
    Calls Tryz.prog 47 #[.iface 102 (ptr g)] w (PlainPost (.mk 5 [] l m) w) := by
  obtain ⟨i25, gi, ge⟩ := Option.map_eq_some_iff.1 infoI
  have gz0 : i25.zero = some _ := congrArg (fun x => x.1) ge
  have gz1 : i25.size = 6 := congrArg (fun x => x.2.1) ge
  have gz2 : i25.bytes = 112 := congrArg (fun x => x.2.2) ge
  clear ge
  have hgl := hb.lt
  have hL : ∀ W, Below w.heap.size w W → Calls Tryz.prog 80 #[ptr g] W (Same (.int .i64 l.length) W) := fun W hW => arrLen_any g A l.length c dyn W (hb.below hW hgl)
  have hdi : Ifc dyn := by
    rcases hd with ⟨_, rfl⟩ | ⟨_, _, _, h, _⟩
    · exact .inl rfl
    · exact h
  have hY : ∀ W, Below w.heap.size w W → Calls Tryz.prog 82 #[ptr g] W (Same dyn W) := fun W hW => arrDyn_any g _ dyn W (hb.below hW hgl) hdi
  have HD := Lib.hid hd
  clear hd hdi
  have hlow : Below w.heap.size w ((w.alloc (.cells zeroT 25)).alloc (.cells #[.int .i64 5, .string ⟨#[]⟩, .string ⟨#[]⟩, .slice none 0 0, .slice none 0 0, .slice none 0 0] 25)) := ((Below.refl _ _).alloc (Nat.le_refl _) _).alloc (by simp) _
  have hres : Blk ((w.alloc (.cells zeroT 25)).alloc (.cells #[.int .i64 5, .string ⟨#[]⟩, .string ⟨#[]⟩, .slice none 0 0, .slice none 0 0, .slice none 0 0] 25)) w.heap.size 25 zeroT := (Blk.new _ _ _).alloc _
  have hout : Blk ((w.alloc (.cells zeroT 25)).alloc (.cells #[.int .i64 5, .string ⟨#[]⟩, .string ⟨#[]⟩, .slice none 0 0, .slice none 0 0, .slice none 0 0] 25)) (w.heap.size + 1) 25 #[.int .i64 5, .string ⟨#[]⟩, .string ⟨#[]⟩, .slice none 0 0, .slice none 0 0, .slice none 0 0] := by simpa using Blk.new (w.alloc _) _ _
  go_enter Tryz.func47, Tryz.ntmps47
  go_wp2_with fail
  refine (hL _ hlow).mono ?_
  rintro e w' ⟨rfl, rfl⟩
  clear hL
  generalize (w.alloc (.cells zeroT 25)).alloc (.cells #[.int .i64 5, .string ⟨#[]⟩, .string ⟨#[]⟩, .slice none 0 0, .slice none 0 0, .slice none 0 0] 25) = w0 at *
  have hN := hout.lt
  go_wp2
  go_loopw [44] (fun i wr => ∃ j : Nat, j ≤ l.length ∧ i = .int .i64 j ∧ ∃ v zs, Lp w0 (w.heap.size + 1) 25 (fun v => #[.int .i64 5, .string ⟨#[]⟩, .string ⟨#[]⟩, .slice none 0 0, v, .slice none 0 0]) 25 6 v j zs wr ∧ KRowI w0.heap.size (l.take j) v zs wr) (fun i _ => l.length - (intOf i).toNat)
  case atStart => exact ⟨0, Nat.zero_le _, rfl, _, [], Lp.start _ _ hout, by simp [KRowI, repIs]⟩
  case round =>
    obtain ⟨j, hj, rfl, v, zs, hst, hrw⟩ := hrel
    have o0 := hst.out.cell 4
    have f1 := hst.out.frozen 4
    have z3 := hst.out.lt
    have z4 := hst.kept.size
    simp at o0
    have hlw : Below w.heap.size w wr := hlow.trans (hst.kept.below fun b hb => by omega)
    by_cases hlt : j < l.length
    · obtain ⟨b, off, x, rfl, hbb, hrj, q0, hxj⟩ := hr.at_ hrow j hlt
      have hS : ∀ W, Below w.heap.size w W → Calls Tryz.prog 81 #[ptr g, .int .i64 j] W (Same x W) := fun W hW =>
        arrSel_any g b off l.length c j dyn x W (hb.below hW hgl) hlt ((hW.cell (by exact hF b hbb)).trans q0) hrj.ifc
      have hc := hok j hlt x hxj
      have hxi := hrj.ifc
      clear hr hrow hok hrj q0 hY HD
      rcases hxi with rfl | ⟨T, x, rfl⟩
      all_goals
        go_wp2_with fail
        go_region_law
          (first
            | (go_simp; go_at_call 81; refine (hS _ hlw.drew).mono ?_; rintro e wc ⟨rfl, rfl⟩)
            | (go_simp; go_at_call 47; refine (hc _ hlw.drew).mono ?_; rintro e wc ⟨cs', rfl, hrep1, hb1⟩; obtain ⟨nm, tx, S1, d1, S2, d2, S3, d3, rfl⟩ := hrep1.shape; have hbw := (Below.refl wr.heap.size wr).drew.trans hb1; have hown1 := own_below hst.own hbw (Nat.le_refl _); have z5 : wr.heap.size ≤ wc.heap.size := hb1.size; have z6 : w.heap.size + 1 < wc.heap.size := (by omega); have ob1 := hst.out.below hbw z3; have k0 := ob1.cell 4; simp at k0)
            | (go_must (refine step_append_lies _ (by rfl) _ _ _ (by rfl) w0.heap.size 25 i25 _ 6 112 Tryz.underlying23 gi gz0 gz1 gz2 rfl (by omega) v j zs (by rfl) (hown1.alloc _) ⟨wc.heap.size, 0, none⟩ 1 1 [.int .i64 l[j].kind, .string nm, .string tx, .slice S1 l[j].keys.length d1, .slice S2 l[j].kids.length d2, .slice S3 l[j].more.length d3] (by rfl) (by rfl) (news_at wc _ _ rfl) (by simp [Value.oneCell']) (by omega) (by unfold maxLen; omega) (by omega) (by simp; omega) (wc.heap.size + 1) (by simp) ?_); intro gg cap wd hown2 hg2 hat _; have ob2 := Blk.grown (ob1.alloc _) hg2 (own_ne hst.own hN); have k0 := ob2.cell 4; have k7 := ob2.frozen 4; have k8 := ob2.lt; simp at k0))
        all_goals
          obtain ⟨R1, R2, R3⟩ := hst.push (i := 4) hN hbw _ hg2 hown2 hat (by rfl)
          have R4 := hrw.push z4 hbw hN R2 R3 hrep1 (fun b hb e => own_ne' hst.own hb e.symm)
          have e1 := List.take_succ_eq_append_getElem hlt
          rw [← e1] at R4
          clear e1 hst hrw hc hrep1 hb1 hbw hown1 ob1 hown2 hg2 ob2 k0 k7 o0 f1
          go_wp2
          go_roundw
          case rel => exact ⟨j + 1, by omega, by go_num, _, _, R1, R4⟩
          case measure => simp [intOf]; omega
    · have ej : j = l.length := by omega
      subst ej
      rw [List.take_length] at hrw
      have hres1 := hres.kept hst.kept (by omega)
      have hrow1 := hst.own
      have hout1 := hst.out
      clear hr hrow hok hst o0 f1 hlow hres hout
      have hy := hY _ hlw
      obtain ⟨A2, c2, rfl, hrow2, hcap⟩ := rowAt.of_own' (B := fun b => w.heap.size + 1 < b ∧ b < wr.heap.size) hrow1 fun g hg hg' _ => ⟨by omega, hg'⟩
      have hreps : repIs wr (fun b => w.heap.size + 1 < b ∧ b < wr.heap.size) l zs := repIs.kept hrw (Kept.refl (fun _ => True) _) (fun _ _ => trivial) fun b hb => ⟨by omega, hb.2.1⟩
      clear hrw hrow1
      rcases HD.out with ⟨rfl, rfl⟩ | ⟨t, rfl, hne, hdi, hok⟩
      · clear HD
        go_wp2_with fail
        refine hy.mono ?_
        rintro e w' ⟨rfl, rfl⟩
        clear hy hY
        have p0 := hout1.cell 0
        have p1 := hout1.cell 1
        have p2 := hout1.cell 2
        have p3 := hout1.cell 3
        have p4 := hout1.cell 4
        have p5 := hout1.cell 5
        simp at p0 p1 p2 p3 p4 p5
        have r0 := hres1.cell 0
        have r1 := hres1.cell 1
        have r2 := hres1.cell 2
        have r3 := hres1.cell 3
        have r4 := hres1.cell 4
        have r5 := hres1.cell 5
        simp at r0 r1 r2 r3 r4 r5
        have fr0 := hres1.frozen 0
        have fr1 := hres1.frozen 1
        have fr2 := hres1.frozen 2
        have fr3 := hres1.frozen 3
        have fr4 := hres1.frozen 4
        have fr5 := hres1.frozen 5
        have rl := hres1.lt
        go_wp2
        obtain ⟨hq, hkq⟩ := place6 hres1 (.int .i64 5) (.string ⟨#[]⟩) (.string ⟨#[]⟩) (.slice none 0 0) (.slice A2 l.length c2) (.slice none 0 0)
        have e0 := hq.cell 0
        have e1 := hq.cell 1
        have e2 := hq.cell 2
        have e3 := hq.cell 3
        have e4 := hq.cell 4
        have e5 := hq.cell 5
        refine bodyPost_ret (v := .agg #[.int .i64 5, .string ⟨#[]⟩, .string ⟨#[]⟩, .slice none 0 0, .slice A2 l.length c2, .slice none 0 0]) (by simp [results, Tryz.results47, go_sem, e0, e1, e2, e3, e4, e5]) rfl ?_
        exact plain_end hlw hkq (fun b hb => by omega) (fun b hb => by omega) (fun b hb => by omega) (Nat.le_refl _) hcap (Nat.le_refl _) rowAt.nil hrow2 hreps rowAt.nil (by simp only [repIs])
      · clear HD
        have hy2 := hy
        have hc := hok _ hlw
        clear hY hok
        rcases hdi with rfl | ⟨T, dyn, rfl⟩
        · exact absurd rfl hne
        clear hne
        go_wp2_with fail
        refine hy.mono ?_
        rintro e w' ⟨rfl, rfl⟩
        clear hy
        go_wp2_with fail
        refine hy2.mono ?_
        rintro e w' ⟨rfl, rfl⟩
        clear hy2
        go_wp2_with fail
        refine hc.mono ?_
        rintro e w1 ⟨cs, rfl, hrep, hbel⟩
        clear hc
        obtain ⟨nm, tx, S1, d1, S2, d2, S3, d3, rfl⟩ := hrep.shape
        have hb1 := hres1.below hbel (by omega)
        have ho1 := hout1.below hbel (by omega)
        have hlow := hlw.trans (hbel.mono hlw.size)
        have zs1 := hbel.size
        have ql := hb1.lt
        have ql' := ho1.lt
        have hrow3 := hrow2.kept (Kept.of_below (X := fun b => b < wr.heap.size) hbel fun _ h => h) (fun b hb => hb.2) (B' := fun b => w.heap.size + 1 < b ∧ b < w1.heap.size) (fun b hb => ⟨hb.1, by omega⟩)
        have hrep3 := hreps.kept (Kept.of_below (X := fun b => b < wr.heap.size) hbel fun _ h => h) (fun b hb => hb.2) (B' := fun b => w.heap.size + 1 < b ∧ b < w1.heap.size) (fun b hb => ⟨hb.1, by omega⟩)
        clear hrow2 hreps
        have p0 := ho1.cell 0
        have p1 := ho1.cell 1
        have p2 := ho1.cell 2
        have p3 := ho1.cell 3
        have p4 := ho1.cell 4
        have p5 := ho1.cell 5
        simp at p0 p1 p2 p3 p4 p5
        have fo := ho1.frozen 5
        have r0 := hb1.cell 0
        have r1 := hb1.cell 1
        have r2 := hb1.cell 2
        have r3 := hb1.cell 3
        have r4 := hb1.cell 4
        have r5 := hb1.cell 5
        simp at r0 r1 r2 r3 r4 r5
        have fr0 := hb1.frozen 0
        have fr1 := hb1.frozen 1
        have fr2 := hb1.frozen 2
        have fr3 := hb1.frozen 3
        have fr4 := hb1.frozen 4
        have fr5 := hb1.frozen 5
        go_wp2
        have hb2 := hb1.far (p := ⟨w.heap.size + 1, 5, none⟩) (by simp) (.slice (some ⟨w1.heap.size, 0, none⟩) 1 1)
        obtain ⟨hq, hkq0⟩ := place6 hb2 (.int .i64 5) (.string ⟨#[]⟩) (.string ⟨#[]⟩) (.slice none 0 0) (.slice A2 l.length c2) (.slice (some ⟨w1.heap.size, 0, none⟩) 1 1)
        have hz : (((((((w1.setCell ⟨w.heap.size + 1, 5, none⟩ (.slice (some ⟨w1.heap.size, 0, none⟩) 1 1)).setCell ⟨w.heap.size, 0, none⟩ (.int .i64 5)).setCell ⟨w.heap.size, 1, none⟩ (.string ⟨#[]⟩)).setCell ⟨w.heap.size, 2, none⟩ (.string ⟨#[]⟩)).setCell ⟨w.heap.size, 3, none⟩ (.slice none 0 0)).setCell ⟨w.heap.size, 4, none⟩ (.slice A2 l.length c2)).setCell ⟨w.heap.size, 5, none⟩ (.slice (some ⟨w1.heap.size, 0, none⟩) 1 1)).heap.size = w1.heap.size := by simp
        have hkq : Kept (fun b => b ≠ w.heap.size ∧ b ≠ w.heap.size + 1) w1 _ := ((Kept.refl _ _).setCell (p := ⟨w.heap.size + 1, 5, none⟩) (by simp) (.slice (some ⟨w1.heap.size, 0, none⟩) 1 1)).trans (hkq0.mono fun b hb => hb.1)
        clear hkq0
        generalize (((((((w1.setCell ⟨w.heap.size + 1, 5, none⟩ (.slice (some ⟨w1.heap.size, 0, none⟩) 1 1)).setCell ⟨w.heap.size, 0, none⟩ (.int .i64 5)).setCell ⟨w.heap.size, 1, none⟩ (.string ⟨#[]⟩)).setCell ⟨w.heap.size, 2, none⟩ (.string ⟨#[]⟩)).setCell ⟨w.heap.size, 3, none⟩ (.slice none 0 0)).setCell ⟨w.heap.size, 4, none⟩ (.slice A2 l.length c2)).setCell ⟨w.heap.size, 5, none⟩ (.slice (some ⟨w1.heap.size, 0, none⟩) 1 1)) = wf at *
        have hq' := hq.alloc (.cells #[.int .i64 t.kind, .string nm, .string tx, .slice S1 t.keys.length d1, .slice S2 t.kids.length d2, .slice S3 t.more.length d3] 25)
        obtain ⟨hrow, hrf⟩ := plain_row (w := w) 25 (hkq.mono fun b (hb : w.heap.size + 1 < b ∧ b < w1.heap.size) => by omega) hz (by omega) (fun b hb => by omega) (fun b hb => by omega) (hrep) (fun b hb => by omega)
        have e0 := hq'.cell 0
        have e1 := hq'.cell 1
        have e2 := hq'.cell 2
        have e3 := hq'.cell 3
        have e4 := hq'.cell 4
        have e5 := hq'.cell 5
        refine bodyPost_ret (v := .agg #[.int .i64 5, .string ⟨#[]⟩, .string ⟨#[]⟩, .slice none 0 0, .slice A2 l.length c2, .slice (some ⟨w1.heap.size, 0, none⟩) 1 1]) (by simp [results, Tryz.results47, go_sem, e0, e1, e2, e3, e4, e5]) rfl ?_
        exact plain_end (X := fun b => b < wf.heap.size ∧ b ≠ w.heap.size ∧ b ≠ w.heap.size + 1) (m := [t]) hlow ((hkq.mono fun b hb => hb.2).alloc (fun b hb => hb.1) _) (fun b hb => by omega) (fun b hb => by omega) (fun b hb => by omega) (Nat.le_refl _) hcap (Nat.le_refl _) rowAt.nil hrow3 hrep3 hrow hrf

end Go.Proofs.YtpmfjbmfjfhghaaGreat
