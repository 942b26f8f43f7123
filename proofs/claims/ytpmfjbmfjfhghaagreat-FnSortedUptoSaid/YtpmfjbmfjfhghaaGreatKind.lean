/-
  'laws.kind': a type of package impl is copied into one of package spec: the same tree.
-/
import Derived.Test.YtpmfjbmfjfhghaaGreatMem
import Derived.Deep.RegionLaw
import Derived.Deep.DeepMust
namespace Go.Proofs.YtpmfjbmfjfhghaaGreat
open Go.RowKit

theorem info72 : (Tryz.prog.info? 72).map (fun i => (i.zero, i.size, i.bytes)) = some (some (.agg #[.int .i64 0, .string ⟨#[]⟩]), 2, 24) := by kernel_rfl
theorem info44 : (Tryz.prog.info? 44).map (fun i => (i.zero, i.size, i.bytes)) = some (some (.agg #[.int .i64 0, .slice none 0 0, .slice none 0 0, .slice none 0 0]), 4, 80) := by kernel_rfl

abbrev zero44 : Array Value := #[.int .i64 0, .slice none 0 0, .slice none 0 0, .slice none 0 0]

/-- What 'kind' answers. -/
def KindPost (t : Tr) (w : World) (e : Ending) (w' : World) : Prop :=
  ∃ cs', e = .returned (.agg cs'.toArray) ∧ repS w' (fun b => w.heap.size ≤ b ∧ b < w'.heap.size) t cs' ∧ Below w.heap.size w w'

/-- What lies beside: the box of the argument, the place of the result. -/
structure KBox (N : Nat) (bx : Array Value) (wr : World) : Prop where
  box : Blk wr N 25 bx
  res : Blk wr (N + 1) 44 zero44

theorem KBox.kept {N M : Nat} {bx : Array Value} {w0 wr : World} (h : KBox N bx w0) (hk : Kept (fun b => b < M ∧ b ≠ N + 1 + 1) w0 wr) (hM : N + 1 + 1 < M) : KBox N bx wr :=
  ⟨h.box.kept hk (by omega), h.res.kept hk (by omega)⟩

/-- The kids that have been copied. -/
def KRow (M : Nat) (l : List Tr) (v : Value) (zs : List Value) (wr : World) : Prop := repSs wr (fun b => M ≤ b ∧ b < wr.heap.size ∧ v.ownBlock ≠ some b) l zs

theorem KRow.push {M g : Nat} {l : List Tr} {t : Tr} {v v' : Value} {zs cs : List Value} {wr w1 wf W : World} (h : KRow M l v zs wr) (hM : M ≤ wr.heap.size) (hb : Below wr.heap.size wr w1) (hg : g < M)
    (hk : Kept (fun b => b < w1.heap.size ∧ b ≠ g ∧ v.ownBlock ≠ some b) w1 wf) (hv : ∀ b, b < w1.heap.size → v.ownBlock ≠ some b → v'.ownBlock ≠ some b)
    (hc : repS w1 (fun b => W.heap.size ≤ b ∧ b < w1.heap.size) t cs) (hW : wr.heap.size ≤ W.heap.size) (hvw : ∀ b, wr.heap.size ≤ b → v.ownBlock ≠ some b) : KRow M (l ++ [t]) v' (zs ++ cs) wf := by
  have s1 := hb.size
  have s2 := hk.size
  refine repSs.snoc (hc.kept hk (fun b hb => ⟨by omega, by omega, hvw b (by omega)⟩) fun b hb => ⟨by omega, by omega, hv b hb.2 (hvw b (by omega))⟩) ?_
  refine repSs.kept (w := w1) (B := fun b => M ≤ b ∧ b < wr.heap.size ∧ v.ownBlock ≠ some b) ?_ hk (fun b hb => ⟨by omega, by omega, hb.2.2⟩) fun b hb => ⟨by omega, by omega, hv b (by omega) hb.2.2⟩
  exact repSs.kept h (Kept.of_below (X := fun b => b < wr.heap.size) hb fun b hb => hb) (fun b hb => hb.2.1) fun b hb => hb

/-- Four cells laid into the result's place. -/
theorem place4 {wr : World} {g : Nat} {T : TypeId} {x0 x1 x2 x3 : Value} (h : Blk wr g T #[x0, x1, x2, x3]) (y0 y1 y2 y3 : Value) :
    Blk ((((wr.setCell ⟨g, 0, none⟩ y0).setCell ⟨g, 1, none⟩ y1).setCell ⟨g, 2, none⟩ y2).setCell ⟨g, 3, none⟩ y3) g T #[y0, y1, y2, y3] ∧
    Kept (fun b => b ≠ g) wr ((((wr.setCell ⟨g, 0, none⟩ y0).setCell ⟨g, 1, none⟩ y1).setCell ⟨g, 2, none⟩ y2).setCell ⟨g, 3, none⟩ y3) :=
  ⟨by simpa using (((h.set_ 0 y0).set_ 1 y1).set_ 2 y2).set_ 3 y3, ((((Kept.refl _ _).setCell (by simp) _).setCell (by simp) _).setCell (by simp) _).setCell (by simp) _⟩

set_option maxHeartbeats 1000000 in
set_option maxRecDepth 100000 in
theorem kind_any (t : Tr) : ∀ (w : World) (B : Nat → Prop) (cs : List Value), repI w B t cs → t.bulk ≤ 1048576 → (∀ b, B b → b < w.heap.size) →
    Calls Tryz.prog 25 #[.agg cs.toArray] w (KindPost t w) := by
  induction t using Tr.ind with
  | h k ks l m il im =>
    intro w B cs hr hbulk hB
    simp only [repI] at hr
    obtain ⟨nm, tx, A1, c1, A2, c2, A3, c3, xs, ys, rfl, hs, h1, h2, h3, h4, h5⟩ := hr
    simp only [Tr.bulk] at hbulk
    have b1 := length_kyBulk ks
    have b2 := Tr.length_bulks l
    have b3 := Tr.length_bulks m
    obtain ⟨i72, hi, hz0, hz1, hz2⟩ := info_parts info72
    obtain ⟨i44, gi, gz0, gz1, gz2⟩ := info_parts info44
    go_enter Tryz.func25, Tryz.ntmps25
    go_wp2
    have hbx : KBox w.heap.size #[.int .i64 k, .string nm, .string tx, .slice A1 ks.length c1, .slice A2 l.length c2, .slice A3 m.length c3] (((w.alloc (.cells #[.int .i64 k, .string nm, .string tx, .slice A1 ks.length c1, .slice A2 l.length c2, .slice A3 m.length c3] 25)).alloc (.cells zero44 44)).alloc (.cells #[.int .i64 k, .slice none 0 0, .slice none 0 0, .slice none 0 0] 44)) :=
      ⟨((Blk.new _ _ _).alloc _).alloc _, by simpa using (Blk.new (w.alloc _) _ _).alloc _⟩
    have hout : Blk (((w.alloc (.cells #[.int .i64 k, .string nm, .string tx, .slice A1 ks.length c1, .slice A2 l.length c2, .slice A3 m.length c3] 25)).alloc (.cells zero44 44)).alloc (.cells #[.int .i64 k, .slice none 0 0, .slice none 0 0, .slice none 0 0] 44)) (w.heap.size + 1 + 1) 44 #[.int .i64 k, .slice none 0 0, .slice none 0 0, .slice none 0 0] := by simpa using Blk.new ((w.alloc _).alloc _) _ _
    have hlow : Below w.heap.size w (((w.alloc (.cells #[.int .i64 k, .string nm, .string tx, .slice A1 ks.length c1, .slice A2 l.length c2, .slice A3 m.length c3] 25)).alloc (.cells zero44 44)).alloc (.cells #[.int .i64 k, .slice none 0 0, .slice none 0 0, .slice none 0 0] 44)) := (((Below.refl _ _).alloc (Nat.le_refl _) _).alloc (by simp) _).alloc (by simp; omega) _
    generalize ((w.alloc (.cells #[.int .i64 k, .string nm, .string tx, .slice A1 ks.length c1, .slice A2 l.length c2, .slice A3 m.length c3] 25)).alloc (.cells zero44 44)).alloc (.cells #[.int .i64 k, .slice none 0 0, .slice none 0 0, .slice none 0 0] 44) = w0 at *
    have hN := hout.lt
    go_loopw [16] (fun i wr => ∃ j : Nat, j ≤ ks.length ∧ i = .int .i64 j ∧ ∃ v, Lp w0 (w.heap.size + 1 + 1) 44 (fun v => #[.int .i64 k, v, .slice none 0 0, .slice none 0 0]) 72 2 v j (keyCells (ks.take j)) wr) (fun i _ => ks.length - (intOf i).toNat)
    case atStart => exact ⟨0, Nat.zero_le _, rfl, _, Lp.start _ _ hout⟩
    case round =>
      obtain ⟨j, hj, rfl, v, hst⟩ := hrel
      have o0 := hst.out.cell 0
      have o1 := hst.out.cell 1
      have f1 := hst.out.frozen 1
      have z3 := hst.out.lt
      simp at o0 o1
      by_cases hlt : j < ks.length
      · obtain ⟨b, off, rfl, hb, q1, q2⟩ := h1.key j hlt
        have hb' := hB b hb
        rw [← hlow.cell (by exact hb'), ← hst.kept.cell (by exact (show b < w0.heap.size ∧ b ≠ w.heap.size + 1 + 1 from ⟨by omega, by omega⟩))] at q1 q2
        go_wp2_with (at_builtin; go_must (refine wpList_append_lies _ rfl _ _ _ rfl w0.heap.size 72 i72 _ 2 24 Tryz.underlying41 hi hz0 hz1 hz2 rfl (by omega) v j _ (by rfl) ((hst.own.alloc _).alloc _) ⟨wr.heap.size + 1, 0, none⟩ 1 1 [.int .i64 ks[j].kind, .string ks[j].text] (by rfl) rfl (news_at _ [_, _] _ (by simp)) ?c1 (by omega) ?c2 ?c3 ?c4 (wr.heap.size + 1 + 1) (by simp) ?_))
        case c1 => intro u hu; simp at hu; rcases hu with rfl | rfl <;> rfl
        case c2 => unfold maxLen; omega
        case c3 => omega
        case c4 => have := hst.kept.size; simp; omega
        intro g cap w1 hown1 hg1 hat _
        obtain ⟨R1, _, _⟩ := hst.push (i := 1) hN ((Below.refl wr.heap.size wr).alloc (Nat.le_refl _) (.cells #[.int .i64 ks[j].kind, .string ks[j].text] 71)) _ hg1 hown1 (by simpa using hat) (by rfl)
        have ob := Blk.grown ((hst.out.alloc _).alloc _) hg1 (own_ne hst.own hN)
        have p1 := ob.cell 1
        have p2 := ob.frozen 1
        have p3 := ob.lt
        simp at p1
        clear hst hown1 hg1 o0 o1 f1 z3 q1 q2 ob
        go_wp2
        go_roundw
        case rel =>
          refine ⟨j + 1, by omega, by go_num, .slice (some ⟨g, 0, none⟩) (j + 1) cap, ?_⟩
          rw [List.take_succ_eq_append_getElem hlt, keyCells_append]
          exact R1
        case measure => simp [intOf]; omega
      · have ej : j = ks.length := by omega
        subst ej
        rw [List.take_length] at hst
        have hbx1 := hbx.kept hst.kept hN
        have c4 := hbx1.box.cell 4
        simp at c4
        have hlow1 : Below w.heap.size w wr := hlow.trans (hst.kept.below fun b hb => by omega)
        have hown1 := hst.own
        have hout1 := hst.out
        have hN1 : w.heap.size + 1 + 1 < wr.heap.size := hst.out.lt
        clear h1 hst hbx hlow hout o0 o1 f1 z3
        obtain ⟨v1, rfl⟩ : ∃ v1 : Value, v1 = v := ⟨_, rfl⟩
        obtain ⟨w1, rfl⟩ : ∃ w1 : World, w1 = wr := ⟨_, rfl⟩
        go_wp2
        clear c4
        go_loopw [34] (fun i wr => ∃ j : Nat, j ≤ l.length ∧ i = .int .i64 j ∧ ∃ v zs, Lp w1 (w.heap.size + 1 + 1) 44 (fun v => #[.int .i64 k, v1, v, .slice none 0 0]) 44 4 v j zs wr ∧ KRow w1.heap.size (l.take j) v zs wr) (fun i _ => l.length - (intOf i).toNat)
        case atStart => exact ⟨0, Nat.zero_le _, rfl, _, [], Lp.start _ _ hout1, by simp [KRow, repSs]⟩
        case round =>
          obtain ⟨j, hj, rfl, v, zs, hst, hrw⟩ := hrel
          have o0 := hst.out.cell 2
          have f1 := hst.out.frozen 2
          have z3 := hst.out.lt
          have z4 := hst.kept.size
          simp at o0
          by_cases hlt : j < l.length
          · obtain ⟨b, off, nm', tx', A1', c1', A2', c2', A3', c3', rfl, hb, hrj, q0, q1, q2, q3, q4, q5⟩ := h3.at_ h2 j hlt
            have hb' := hB b hb
            have hlw : Below w.heap.size w wr := hlow1.trans (hst.kept.below fun b hb => by omega)
            rw [← hlw.cell (by exact hb')] at q0 q1 q2 q3 q4 q5
            have hbl : l[j].bulk ≤ 1048576 := by have := Tr.bulk_mem (List.getElem_mem hlt); omega
            have hc : ∀ W, Below w.heap.size w W → Calls Tryz.prog 25 #[.agg #[.int .i64 l[j].kind, .string nm', .string tx', .slice A1' l[j].keys.length c1', .slice A2' l[j].kids.length c2', .slice A3' l[j].more.length c3']] W (KindPost l[j] W) :=
              fun W hW => il l[j] (List.getElem_mem hlt) W B _ (hrj.kept (Kept.of_below (X := fun b => b < w.heap.size) hW fun _ h => h) hB fun _ h => h) hbl (fun b hb => Nat.lt_of_lt_of_le (hB b hb) hW.size)
            clear il im
            go_wp2_with fail
            go_region_law
              (first
                | (go_simp; go_at_call 25; refine (hc _ (hlw.alloc hlw.size _).drew).mono ?_; rintro e wc ⟨cs', rfl, hrep1, hb1⟩; obtain ⟨S1, d1, S2, d2, S3, d3, rfl⟩ := hrep1.shape; have hbw := ((Below.refl wr.heap.size wr).alloc (Nat.le_refl _) _).drew.trans (hb1.mono (by simp)); have hown1 := own_below hst.own hbw (Nat.le_refl _); have z5 : wr.heap.size < wc.heap.size := (by have := hb1.size; simp at this; omega); have z6 : w.heap.size + 1 + 1 < wc.heap.size := (by omega); have ob1 := hst.out.below hbw z3; have bb1 := (Blk.new wr 25 #[.int .i64 l[j].kind, .string nm', .string tx', .slice A1' l[j].keys.length c1', .slice A2' l[j].kids.length c2', .slice A3' l[j].more.length c3']).drew.below hb1 (by simp); have k0 := ob1.cell 2; have k1 := bb1.cell 0; have k2 := bb1.cell 1; have k3 := bb1.cell 2; have k4 := bb1.cell 3; have k5 := bb1.cell 4; have k6 := bb1.cell 5; simp at k0 k1 k2 k3 k4 k5 k6)
                | (go_must (refine step_append_lies _ (by rfl) _ _ _ (by rfl) w1.heap.size 44 i44 _ 4 80 Tryz.underlying42 gi gz0 gz1 gz2 rfl (by omega) v j zs (by rfl) (hown1.alloc _) ⟨wc.heap.size, 0, none⟩ 1 1 [.int .i64 l[j].kind, .slice S1 l[j].keys.length d1, .slice S2 l[j].kids.length d2, .slice S3 l[j].more.length d3] (by rfl) (by rfl) (news_at wc _ _ rfl) (by simp [Value.oneCell']) (by omega) (by unfold maxLen; omega) (by omega) (by simp; omega) (wc.heap.size + 1) (by simp) ?_); intro g cap wd hown2 hg2 hat _; have ob2 := Blk.grown (ob1.alloc _) hg2 (own_ne hst.own hN1); have k0 := ob2.cell 2; have k7 := ob2.frozen 2; have k8 := ob2.lt; simp at k0))
            all_goals
              obtain ⟨R1, R2, R3⟩ := hst.push (i := 2) hN1 hbw _ hg2 hown2 hat (by rfl)
              have R4 := hrw.push (W := (wr.alloc (.cells #[.int .i64 l[j].kind, .string nm', .string tx', .slice A1' l[j].keys.length c1', .slice A2' l[j].kids.length c2', .slice A3' l[j].more.length c3'] 25)).drew) z4 hbw hN1 R2 R3 hrep1 (by simp) (fun b hb e => own_ne' hst.own hb e.symm)
              have e1 := List.take_succ_eq_append_getElem hlt
              rw [← e1] at R4
              clear e1 hst hrw hc hrep1 hb1 hbw hown1 ob1 bb1 hown2 hg2 ob2 k0 k1 k2 k3 k4 k5 k6 k7 o0 f1 q0 q1 q2 q3 q4 q5 hrj
              go_wp2
              go_roundw
              case rel => exact ⟨j + 1, by omega, by go_num, _, _, R1, R4⟩
              case measure => simp [intOf]; omega
          · have ej : j = l.length := by omega
            subst ej
            rw [List.take_length] at hrw
            have c5 := (hbx1.kept hst.kept hN1).box.cell 5
            simp at c5
            have hbx2 := hbx1.kept hst.kept hN1
            have hlow2 : Below w.heap.size w wr := hlow1.trans (hst.kept.below fun b hb => by omega)
            have hv1 : wr.ownsRow w0.heap.size 72 2 v1 ks.length (keyCells ks) := own_kept hown1 hst.kept fun g hg hg' _ => ⟨hg', by omega⟩
            have hw1 := hst.kept.size
            have hown2 := hst.own
            have hout2 := hst.out
            have hN2 : w.heap.size + 1 + 1 < wr.heap.size := hst.out.lt
            clear h2 h3 hst il hown1 hout1 o0 f1 z3 z4 hbx1 hlow1
            obtain ⟨v2, rfl⟩ : ∃ v2 : Value, v2 = v := ⟨_, rfl⟩
            obtain ⟨zs2, rfl⟩ : ∃ zs2 : List Value, zs2 = zs := ⟨_, rfl⟩
            have hrw2 := hrw
            clear hrw
            obtain ⟨w2, rfl⟩ : ∃ w2 : World, w2 = wr := ⟨_, rfl⟩
            go_wp2
            clear c5
            go_loopw [49] (fun i wr => ∃ j : Nat, j ≤ m.length ∧ i = .int .i64 j ∧ ∃ v zs, Lp w2 (w.heap.size + 1 + 1) 44 (fun v => #[.int .i64 k, v1, v2, v]) 44 4 v j zs wr ∧ KRow w2.heap.size (m.take j) v zs wr) (fun i _ => m.length - (intOf i).toNat)
            case atStart => exact ⟨0, Nat.zero_le _, rfl, _, [], Lp.start _ _ hout2, by simp [KRow, repSs]⟩
            case round =>
              obtain ⟨j, hj, rfl, v, zs, hst, hrw⟩ := hrel
              have o0 := hst.out.cell 3
              have f1 := hst.out.frozen 3
              have z3 := hst.out.lt
              have z4 := hst.kept.size
              simp at o0
              by_cases hlt : j < m.length
              · obtain ⟨b, off, nm', tx', A1', c1', A2', c2', A3', c3', rfl, hb, hrj, q0, q1, q2, q3, q4, q5⟩ := h5.at_ h4 j hlt
                have hb' := hB b hb
                have hlw : Below w.heap.size w wr := hlow2.trans (hst.kept.below fun b hb => by omega)
                rw [← hlw.cell (by exact hb')] at q0 q1 q2 q3 q4 q5
                have hbl : m[j].bulk ≤ 1048576 := by have := Tr.bulk_mem (List.getElem_mem hlt); omega
                have hc : ∀ W, Below w.heap.size w W → Calls Tryz.prog 25 #[.agg #[.int .i64 m[j].kind, .string nm', .string tx', .slice A1' m[j].keys.length c1', .slice A2' m[j].kids.length c2', .slice A3' m[j].more.length c3']] W (KindPost m[j] W) :=
                  fun W hW => im m[j] (List.getElem_mem hlt) W B _ (hrj.kept (Kept.of_below (X := fun b => b < w.heap.size) hW fun _ h => h) hB fun _ h => h) hbl (fun b hb => Nat.lt_of_lt_of_le (hB b hb) hW.size)
                clear im
                go_wp2_with fail
                go_region_law
                  (first
                    | (go_simp; go_at_call 25; refine (hc _ (hlw.alloc hlw.size _).drew).mono ?_; rintro e wc ⟨cs', rfl, hrep1, hb1⟩; obtain ⟨S1, d1, S2, d2, S3, d3, rfl⟩ := hrep1.shape; have hbw := ((Below.refl wr.heap.size wr).alloc (Nat.le_refl _) _).drew.trans (hb1.mono (by simp)); have hown1 := own_below hst.own hbw (Nat.le_refl _); have z5 : wr.heap.size < wc.heap.size := (by have := hb1.size; simp at this; omega); have z6 : w.heap.size + 1 + 1 < wc.heap.size := (by omega); have ob1 := hst.out.below hbw z3; have bb1 := (Blk.new wr 25 #[.int .i64 m[j].kind, .string nm', .string tx', .slice A1' m[j].keys.length c1', .slice A2' m[j].kids.length c2', .slice A3' m[j].more.length c3']).drew.below hb1 (by simp); have k0 := ob1.cell 3; have k1 := bb1.cell 0; have k2 := bb1.cell 1; have k3 := bb1.cell 2; have k4 := bb1.cell 3; have k5 := bb1.cell 4; have k6 := bb1.cell 5; simp at k0 k1 k2 k3 k4 k5 k6)
                    | (go_must (refine step_append_lies _ (by rfl) _ _ _ (by rfl) w2.heap.size 44 i44 _ 4 80 Tryz.underlying42 gi gz0 gz1 gz2 rfl (by omega) v j zs (by rfl) (hown1.alloc _) ⟨wc.heap.size, 0, none⟩ 1 1 [.int .i64 m[j].kind, .slice S1 m[j].keys.length d1, .slice S2 m[j].kids.length d2, .slice S3 m[j].more.length d3] (by rfl) (by rfl) (news_at wc _ _ rfl) (by simp [Value.oneCell']) (by omega) (by unfold maxLen; omega) (by omega) (by simp; omega) (wc.heap.size + 1) (by simp) ?_); intro g cap wd hown2 hg2 hat _; have ob2 := Blk.grown (ob1.alloc _) hg2 (own_ne hst.own hN2); have k0 := ob2.cell 3; have k7 := ob2.frozen 3; have k8 := ob2.lt; simp at k0))
                all_goals
                  obtain ⟨R1, R2, R3⟩ := hst.push (i := 3) hN2 hbw _ hg2 hown2 hat (by rfl)
                  have R4 := hrw.push (W := (wr.alloc (.cells #[.int .i64 m[j].kind, .string nm', .string tx', .slice A1' m[j].keys.length c1', .slice A2' m[j].kids.length c2', .slice A3' m[j].more.length c3'] 25)).drew) z4 hbw hN2 R2 R3 hrep1 (by simp) (fun b hb e => own_ne' hst.own hb e.symm)
                  have e1 := List.take_succ_eq_append_getElem hlt
                  rw [← e1] at R4
                  clear e1 hst hrw hc hrep1 hb1 hbw hown1 ob1 bb1 hown2 hg2 ob2 k0 k1 k2 k3 k4 k5 k6 k7 o0 f1 q0 q1 q2 q3 q4 q5 hrj
                  go_wp2
                  go_roundw
                  case rel => exact ⟨j + 1, by omega, by go_num, _, _, R1, R4⟩
                  case measure => simp [intOf]; omega
              · have ej : j = m.length := by omega
                subst ej
                rw [List.take_length] at hrw
                have hbx3 := hbx2.kept hst.kept hN2
                have hlow3 : Below w.heap.size w wr := hlow2.trans (hst.kept.below fun b hb => by omega)
                have hv1' : wr.ownsRow w0.heap.size 72 2 v1 ks.length (keyCells ks) := own_kept hv1 hst.kept fun g hg hg' _ => ⟨hg', by omega⟩
                have hv2' : wr.ownsRow w1.heap.size 44 4 v2 l.length zs2 := own_kept hown2 hst.kept fun g hg hg' _ => ⟨hg', by omega⟩
                have hr2' : repSs wr (fun b => w1.heap.size ≤ b ∧ b < wr.heap.size) l zs2 := repSs.kept hrw2 hst.kept (fun b hb => ⟨hb.2.1, by omega⟩) fun b hb => ⟨hb.1, by omega⟩
                have p0 := hst.out.cell 0
                have p1 := hst.out.cell 1
                have p2 := hst.out.cell 2
                have p3 := hst.out.cell 3
                have r0 := hbx3.res.cell 0
                have r1 := hbx3.res.cell 1
                have r2 := hbx3.res.cell 2
                have r3 := hbx3.res.cell 3
                have t0 := hbx3.res.frozen 0
                have t1 := hbx3.res.frozen 1
                have t2 := hbx3.res.frozen 2
                have t3 := hbx3.res.frozen 3
                have t4 := hbx3.res.lt
                simp at p0 p1 p2 p3 r0 r1 r2 r3
                have own3 := hst.own
                obtain ⟨E1, e1, rfl, hrow1, hcap1⟩ := rowAt.of_own' (B := fun b => w.heap.size + 1 < b ∧ b < wr.heap.size) hv1' fun g hg hg' _ => ⟨by omega, hg'⟩
                obtain ⟨E2, e2, rfl, hrow2, hcap2⟩ := rowAt.of_own' (B := fun b => w.heap.size + 1 < b ∧ b < wr.heap.size) hv2' fun g hg hg' _ => ⟨by omega, hg'⟩
                obtain ⟨E3, e3, rfl, hrow3, hcap3⟩ := rowAt.of_own' (B := fun b => w.heap.size + 1 < b ∧ b < wr.heap.size) own3 fun g hg hg' _ => ⟨by omega, hg'⟩
                clear o0 f1 hv1 hst
                go_wp2
                obtain ⟨hq, hkq⟩ := place4 hbx3.res (.int .i64 k) (.slice E1 ks.length e1) (.slice E2 l.length e2) (.slice E3 m.length e3)
                have q0 := hq.cell 0
                have q1 := hq.cell 1
                have q2 := hq.cell 2
                have q3 := hq.cell 3
                generalize (((wr.setCell ⟨w.heap.size + 1, 0, none⟩ (Value.int IntKind.i64 k)).setCell ⟨w.heap.size + 1, 1, none⟩ (Value.slice E1 ks.length e1)).setCell ⟨w.heap.size + 1, 2, none⟩ (Value.slice E2 l.length e2)).setCell ⟨w.heap.size + 1, 3, none⟩ (Value.slice E3 m.length e3) = wf at *
                have sf := hkq.size
                refine bodyPost_ret (v := .agg #[.int .i64 k, .slice E1 ks.length e1, .slice E2 l.length e2, .slice E3 m.length e3]) (by simp [results, Tryz.results25, go_sem, q0, q1, q2, q3]) rfl ?_
                refine ⟨[_, _, _, _], rfl, ?_, hlow3.trans (hkq.below fun b hb => by omega)⟩
                simp only [repS]
                refine ⟨E1, e1, E2, e2, E3, e3, zs2, zs, rfl, ⟨hcap1, hcap2, hcap3⟩, hrow1.kept hkq (fun b hb => by omega) (fun b hb => by omega), hrow2.kept hkq (fun b hb => by omega) (fun b hb => by omega), hr2'.kept hkq (fun b hb => by omega) (fun b hb => by omega), hrow3.kept hkq (fun b hb => by omega) (fun b hb => by omega), ?_⟩
                exact repSs.kept hrw hkq (fun b hb => by omega) (fun b hb => by omega)

end Go.Proofs.YtpmfjbmfjfhghaaGreat
