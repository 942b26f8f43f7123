/-
  HOW VALUES LIE IN MEMORY; 'laws.value' hands a value on.
-/
import Derived.Test.YtpmfjbmfjfhghaaGreatVal
import Derived.Test.YtpmfjbmfjfhghaaGreatMem
import Derived.Test.YtpmfjbmfjfhghaaGreatKind
import Derived.RegionTactic
import Derived.Deep.RegionLaw
import Derived.Lib.Hide
namespace Go.Proofs.YtpmfjbmfjfhghaaGreat
open Go.RowKit

/-- The cells of texts. -/
def strCells (l : List ByteArray) : List Value := l.map Value.string

theorem strCells_at (l : List ByteArray) (i : Nat) (h : i < l.length) : (strCells l)[i]? = some (.string l[i]) := by
  simp [strCells, h]

/-- A text's cell in a row of texts. -/
theorem rowAt.str {w : World} {B : Nat → Prop} {A : Option Addr} {l : List ByteArray} (h : rowAt w B A (strCells l)) (i : Nat) (hi : i < l.length) :
    ∃ b off, A = some ⟨b, off, none⟩ ∧ B b ∧ w.cell? ⟨b, off + i, none⟩ = some (.string l[i]) := h _ _ (strCells_at l i hi)

/-! ### Values of package impl and of package spec: four cells -/
mutual
def repV (w : World) (B : Nat → Prop) : Vl → List Value → Prop
  | .mk k s ks l, cs => ∃ A1 c1 A2 c2 xs, cs = [.int .i64 k, .string s, .slice A1 ks.length c1, .slice A2 l.length c2] ∧
      (ks.length ≤ c1 ∧ l.length ≤ c2) ∧ rowAt w B A1 (strCells ks) ∧ rowAt w B A2 xs ∧ repVs w B l xs
def repVs (w : World) (B : Nat → Prop) : List Vl → List Value → Prop
  | [], xs => xs = []
  | v :: l, xs => ∃ cs ys, xs = cs ++ ys ∧ repV w B v cs ∧ repVs w B l ys
end

theorem repV.length {w : World} {B : Nat → Prop} {v : Vl} {cs : List Value} (h : repV w B v cs) : cs.length = 4 := by
  cases v; simp only [repV] at h; obtain ⟨_, _, _, _, _, rfl, _⟩ := h; rfl

theorem repVs.length {w : World} {B : Nat → Prop} : ∀ {l : List Vl} {xs : List Value}, repVs w B l xs → xs.length = l.length * 4
  | [], xs, h => by simp only [repVs] at h; subst h; rfl
  | t :: l, xs, h => by
    simp only [repVs] at h
    obtain ⟨cs, ys, rfl, h1, h2⟩ := h
    have := h1.length
    have := repVs.length h2
    simp; omega

theorem repVs.snoc {w : World} {B : Nat → Prop} {v : Vl} {cs : List Value} (ht : repV w B v cs) : ∀ {l : List Vl} {xs : List Value}, repVs w B l xs → repVs w B (l ++ [v]) (xs ++ cs)
  | [], xs, h => by simp only [repVs] at h; subst h; exact ⟨cs, [], by simp, ht, by simp [repVs]⟩
  | t' :: l, xs, h => by
    simp only [repVs] at h
    obtain ⟨cs', ys, rfl, h1, h2⟩ := h
    exact ⟨cs', ys ++ cs, by simp, h1, repVs.snoc ht h2⟩

theorem repVs.split {w : World} {B : Nat → Prop} : ∀ {l : List Vl} {xs : List Value}, repVs w B l xs → ∀ (i : Nat) (hi : i < l.length), ∃ ys cs zs, xs = ys ++ (cs ++ zs) ∧ ys.length = i * 4 ∧ repV w B l[i] cs
  | t :: l, xs, h, i, hi => by
    simp only [repVs] at h
    obtain ⟨cs', ys, rfl, h1, h2⟩ := h
    cases i with
    | zero => exact ⟨[], cs', ys, rfl, rfl, h1⟩
    | succ i =>
      obtain ⟨ys', cs, zs, rfl, hl, hr⟩ := repVs.split h2 i (by simpa using hi)
      have := h1.length
      exact ⟨cs' ++ ys', cs, zs, by simp, by simp; omega, hr⟩

theorem repV.shape {w : World} {B : Nat → Prop} {v : Vl} {cs : List Value} (h : repV w B v cs) :
    ∃ A1 c1 A2 c2, cs = [.int .i64 v.kind, .string v.text, .slice A1 v.keys.length c1, .slice A2 v.kids.length c2] := by
  cases v; simp only [repV] at h; obtain ⟨A1, c1, A2, c2, _, rfl, _⟩ := h; exact ⟨A1, c1, A2, c2, rfl⟩

/-- The cells of the i-th. -/
theorem repVs.at_ {w : World} {B : Nat → Prop} {A : Option Addr} {l : List Vl} {xs : List Value} (h : repVs w B l xs) (hr : rowAt w B A xs) (i : Nat) (hi : i < l.length) :
    ∃ b off A1 c1 A2 c2, A = some ⟨b, off, none⟩ ∧ B b ∧ repV w B l[i] [.int .i64 l[i].kind, .string l[i].text, .slice A1 l[i].keys.length c1, .slice A2 l[i].kids.length c2] ∧
      w.cell? ⟨b, off + i * 4, none⟩ = some (.int .i64 l[i].kind) ∧ w.cell? ⟨b, off + i * 4 + 1, none⟩ = some (.string l[i].text) ∧ w.cell? ⟨b, off + i * 4 + 2, none⟩ = some (.slice A1 l[i].keys.length c1) ∧
      w.cell? ⟨b, off + i * 4 + 3, none⟩ = some (.slice A2 l[i].kids.length c2) := by
  obtain ⟨ys, cs, zs, rfl, hl, ht⟩ := h.split i hi
  obtain ⟨A1, c1, A2, c2, rfl⟩ := ht.shape
  obtain ⟨b, off, rfl, hb, h0⟩ := hr.mid 0 _ rfl
  have at' : ∀ (j : Nat) (u : Value), [Value.int .i64 l[i].kind, .string l[i].text, .slice A1 l[i].keys.length c1, .slice A2 l[i].kids.length c2][j]? = some u → w.cell? ⟨b, off + i * 4 + j, none⟩ = some u := fun j u hu => by
    obtain ⟨b', off', e, _, hc⟩ := hr.mid j u hu
    injection e with e
    injection e with e1 e2
    subst e1 e2
    rw [hl, ← Nat.add_assoc] at hc
    exact hc
  exact ⟨b, off, A1, c1, A2, c2, rfl, hb, ht, at' 0 _ rfl, at' 1 _ rfl, at' 2 _ rfl, at' 3 _ rfl⟩

section
variable {w w' : World} {B B' X : Nat → Prop}
mutual
theorem repV.keep (hB : ∀ b, B b → B' b) (hk : ∀ p : Addr, B p.block → w'.cell? p = w.cell? p) : ∀ {v : Vl} {cs : List Value}, repV w B v cs → repV w' B' v cs
  | .mk k s ks l, cs, h => by
    simp only [repV] at h ⊢
    obtain ⟨A1, c1, A2, c2, xs, e, hs, h1, h2, h3⟩ := h
    exact ⟨A1, c1, A2, c2, xs, e, hs, h1.keep hB hk, h2.keep hB hk, repVs.keep hB hk h3⟩
theorem repVs.keep (hB : ∀ b, B b → B' b) (hk : ∀ p : Addr, B p.block → w'.cell? p = w.cell? p) : ∀ {l : List Vl} {xs : List Value}, repVs w B l xs → repVs w' B' l xs
  | [], xs, h => by simp only [repVs] at h ⊢; exact h
  | t :: l, xs, h => by
    simp only [repVs] at h ⊢
    obtain ⟨cs, ys, e, h1, h2⟩ := h
    exact ⟨cs, ys, e, repV.keep hB hk h1, repVs.keep hB hk h2⟩
end
theorem repV.kept {v : Vl} {cs : List Value} (h : repV w B v cs) (hb : Kept X w w') (hX : ∀ b, B b → X b) (hB : ∀ b, B b → B' b) : repV w' B' v cs := h.keep hB fun _ hp => hb.cell (hX _ hp)
theorem repVs.kept {l : List Vl} {xs : List Value} (h : repVs w B l xs) (hb : Kept X w w') (hX : ∀ b, B b → X b) (hB : ∀ b, B b → B' b) : repVs w' B' l xs := h.keep hB fun _ hp => hb.cell (hX _ hp)
end

theorem info36 : (Tryz.prog.info? 36).map (fun i => (i.zero, i.size, i.bytes)) = some (some (.agg #[.int .i64 0, .string ⟨#[]⟩, .slice none 0 0, .slice none 0 0]), 4, 72) := by kernel_rfl

abbrev zero36 : Array Value := #[.int .i64 0, .string ⟨#[]⟩, .slice none 0 0, .slice none 0 0]

/-- What 'value' answers: the value, its keys shared. -/
def ValuePost (v : Vl) (B : Nat → Prop) (w : World) (e : Ending) (w' : World) : Prop :=
  ∃ cs', e = .returned (.agg cs'.toArray) ∧ repV w' (fun b => B b ∨ (w.heap.size ≤ b ∧ b < w'.heap.size)) v cs' ∧ Below w.heap.size w w'

/-- What lies beside: the box of the argument, the place of the result. -/
structure VBox (N : Nat) (bx : Array Value) (wr : World) : Prop where
  box : Blk wr N 29 bx
  res : Blk wr (N + 1) 36 zero36

theorem VBox.kept {N M : Nat} {bx : Array Value} {w0 wr : World} (h : VBox N bx w0) (hk : Kept (fun b => b < M ∧ b ≠ N + 1 + 1) w0 wr) (hM : N + 1 + 1 < M) : VBox N bx wr :=
  ⟨h.box.kept hk (by omega), h.res.kept hk (by omega)⟩

/-- The kids that have been copied. -/
def VRow (B : Nat → Prop) (M : Nat) (l : List Vl) (v : Value) (zs : List Value) (wr : World) : Prop := repVs wr (fun b => B b ∨ (M ≤ b ∧ b < wr.heap.size ∧ v.ownBlock ≠ some b)) l zs

theorem VRow.push {B : Nat → Prop} {M g : Nat} {l : List Vl} {t : Vl} {v v' : Value} {zs cs : List Value} {wr w1 wf W : World} (h : VRow B M l v zs wr) (hM : M ≤ wr.heap.size) (hb : Below wr.heap.size wr w1) (hg : g < M)
    (hk : Kept (fun b => b < w1.heap.size ∧ b ≠ g ∧ v.ownBlock ≠ some b) w1 wf) (hv : ∀ b, b < w1.heap.size → v.ownBlock ≠ some b → v'.ownBlock ≠ some b)
    (hc : repV w1 (fun b => B b ∨ (W.heap.size ≤ b ∧ b < w1.heap.size)) t cs) (hW : wr.heap.size ≤ W.heap.size) (hvw : ∀ b, wr.heap.size ≤ b → v.ownBlock ≠ some b) (hB : ∀ b, B b → b < M ∧ b ≠ g ∧ v.ownBlock ≠ some b) : VRow B M (l ++ [t]) v' (zs ++ cs) wf := by
  have s1 := hb.size
  have s2 := hk.size
  refine repVs.snoc (hc.kept hk (fun b hb => ?_) fun b hb => ?_) ?_
  · rcases hb with hb | hb
    · have := hB b hb; exact ⟨by omega, this.2⟩
    · exact ⟨hb.2, by omega, hvw b (by omega)⟩
  · rcases hb with hb | hb
    · exact .inl hb
    · exact .inr ⟨by omega, by omega, hv b hb.2 (hvw b (by omega))⟩
  refine repVs.kept (w := w1) (B := fun b => B b ∨ (M ≤ b ∧ b < wr.heap.size ∧ v.ownBlock ≠ some b)) ?_ hk (fun b hb => ?_) fun b hb => ?_
  · exact h.kept (Kept.of_below (X := fun b => b < wr.heap.size) hb fun _ h => h) (fun b hb => hb.elim (fun hb => by have := hB b hb; omega) fun hb => hb.2.1) fun b hb => hb
  · rcases hb with hb | hb
    · have := hB b hb; exact ⟨by omega, this.2⟩
    · exact ⟨by omega, by omega, hb.2.2⟩
  · rcases hb with hb | hb
    · exact .inl hb
    · exact .inr ⟨hb.1, by omega, hv b (by omega) hb.2.2⟩

set_option maxHeartbeats 1000000 in
set_option maxRecDepth 100000 in
theorem value_any (t : Vl) : ∀ (w : World) (B : Nat → Prop) (cs : List Value), repV w B t cs → t.bulk ≤ 1048576 → (∀ b, B b → b < w.heap.size) →
    Calls Tryz.prog 21 #[.agg cs.toArray] w (ValuePost t B w) := by
  induction t using Vl.ind with
  | h k s ks l il =>
    intro w B cs hr hbulk hB
    simp only [repV] at hr
    obtain ⟨A1, c1, A2, c2, xs, rfl, hs, h1, h2, h3⟩ := hr
    simp only [Vl.bulk] at hbulk
    have b1 := length_strBulk ks
    have b2 := Vl.length_bulks l
    obtain ⟨i36, gi, gz0, gz1, gz2⟩ := info_parts info36
    go_enter Tryz.func21, Tryz.ntmps21
    go_wp2
    have hbx : VBox w.heap.size #[.int .i64 k, .string s, .slice A1 ks.length c1, .slice A2 l.length c2] (((w.alloc (.cells #[.int .i64 k, .string s, .slice A1 ks.length c1, .slice A2 l.length c2] 29)).alloc (.cells zero36 36)).alloc (.cells #[.int .i64 k, .string s, .slice A1 ks.length c1, .slice none 0 0] 36)) :=
      ⟨((Blk.new _ _ _).alloc _).alloc _, by simpa using (Blk.new (w.alloc _) _ _).alloc _⟩
    have hout : Blk (((w.alloc (.cells #[.int .i64 k, .string s, .slice A1 ks.length c1, .slice A2 l.length c2] 29)).alloc (.cells zero36 36)).alloc (.cells #[.int .i64 k, .string s, .slice A1 ks.length c1, .slice none 0 0] 36)) (w.heap.size + 1 + 1) 36 #[.int .i64 k, .string s, .slice A1 ks.length c1, .slice none 0 0] := by simpa using Blk.new ((w.alloc _).alloc _) _ _
    have hlow : Below w.heap.size w (((w.alloc (.cells #[.int .i64 k, .string s, .slice A1 ks.length c1, .slice A2 l.length c2] 29)).alloc (.cells zero36 36)).alloc (.cells #[.int .i64 k, .string s, .slice A1 ks.length c1, .slice none 0 0] 36)) := (((Below.refl _ _).alloc (Nat.le_refl _) _).alloc (by simp) _).alloc (by simp; omega) _
    generalize ((w.alloc (.cells #[.int .i64 k, .string s, .slice A1 ks.length c1, .slice A2 l.length c2] 29)).alloc (.cells zero36 36)).alloc (.cells #[.int .i64 k, .string s, .slice A1 ks.length c1, .slice none 0 0] 36) = w0 at *
    have hN := hout.lt
    go_loopw [16] (fun i wr => ∃ j : Nat, j ≤ l.length ∧ i = .int .i64 j ∧ ∃ v zs, Lp w0 (w.heap.size + 1 + 1) 36 (fun v => #[.int .i64 k, .string s, .slice A1 ks.length c1, v]) 36 4 v j zs wr ∧ VRow B w0.heap.size (l.take j) v zs wr) (fun i _ => l.length - (intOf i).toNat)
    case atStart => exact ⟨0, Nat.zero_le _, rfl, _, [], Lp.start _ _ hout, by simp [VRow, repVs]⟩
    case round =>
      obtain ⟨j, hj, rfl, v, zs, hst, hrw⟩ := hrel
      have o0 := hst.out.cell 3
      have f1 := hst.out.frozen 3
      have z3 := hst.out.lt
      have z4 := hst.kept.size
      simp at o0
      by_cases hlt : j < l.length
      · obtain ⟨b, off, A1', c1', A2', c2', rfl, hb, hrj, q0, q1, q2, q3⟩ := h3.at_ h2 j hlt
        have hb' := hB b hb
        have hlw : Below w.heap.size w wr := hlow.trans (hst.kept.below fun b hb => by omega)
        rw [← hlw.cell (by exact hb')] at q0 q1 q2 q3
        have hbl : l[j].bulk ≤ 1048576 := by have := Vl.bulk_mem (List.getElem_mem hlt); omega
        have hc : ∀ W, Below w.heap.size w W → Calls Tryz.prog 21 #[.agg #[.int .i64 l[j].kind, .string l[j].text, .slice A1' l[j].keys.length c1', .slice A2' l[j].kids.length c2']] W (ValuePost l[j] B W) :=
          fun W hW => il l[j] (List.getElem_mem hlt) W B _ (hrj.kept (Kept.of_below (X := fun b => b < w.heap.size) hW fun _ h => h) hB fun _ h => h) hbl (fun b hb => Nat.lt_of_lt_of_le (hB b hb) hW.size)
        clear il
        go_wp2_with fail
        go_region_law
          (first
            | (go_simp; go_at_call 21; refine (hc _ (hlw.alloc hlw.size _).drew).mono ?_; rintro e wc ⟨cs', rfl, hrep1, hb1⟩; obtain ⟨S1, d1, S2, d2, rfl⟩ := hrep1.shape; have hbw := ((Below.refl wr.heap.size wr).alloc (Nat.le_refl _) _).drew.trans (hb1.mono (by simp)); have hown1 := own_below hst.own hbw (Nat.le_refl _); have z5 : wr.heap.size < wc.heap.size := (by have := hb1.size; simp at this; omega); have z6 : w.heap.size + 1 + 1 < wc.heap.size := (by omega); have ob1 := hst.out.below hbw z3; have bb1 := (Blk.new wr 29 #[.int .i64 l[j].kind, .string l[j].text, .slice A1' l[j].keys.length c1', .slice A2' l[j].kids.length c2']).drew.below hb1 (by simp); have k0 := ob1.cell 3; have k1 := bb1.cell 0; have k2 := bb1.cell 1; have k3 := bb1.cell 2; have k4 := bb1.cell 3; simp at k0 k1 k2 k3 k4)
            | (go_must (refine step_append_lies _ (by rfl) _ _ _ (by rfl) w0.heap.size 36 i36 _ 4 72 Tryz.underlying34 gi gz0 gz1 gz2 rfl (by omega) v j zs (by rfl) (hown1.alloc _) ⟨wc.heap.size, 0, none⟩ 1 1 [.int .i64 l[j].kind, .string l[j].text, .slice S1 l[j].keys.length d1, .slice S2 l[j].kids.length d2] (by rfl) (by rfl) (news_at wc _ _ rfl) (by simp [Value.oneCell']) (by omega) (by unfold maxLen; omega) (by omega) (by simp; omega) (wc.heap.size + 1) (by simp) ?_); intro g cap wd hown2 hg2 hat _; have ob2 := Blk.grown (ob1.alloc _) hg2 (own_ne hst.own hN); have k0 := ob2.cell 3; have k7 := ob2.frozen 3; have k8 := ob2.lt; simp at k0))
        all_goals
          obtain ⟨R1, R2, R3⟩ := hst.push (i := 3) hN hbw _ hg2 hown2 hat (by rfl)
          have R4 := hrw.push (W := (wr.alloc (.cells #[.int .i64 l[j].kind, .string l[j].text, .slice A1' l[j].keys.length c1', .slice A2' l[j].kids.length c2'] 29)).drew) z4 hbw hN R2 R3 hrep1 (by simp) (fun b hb e => own_ne' hst.own hb e.symm) (fun b hb => ⟨by have := hB b hb; omega, by have := hB b hb; omega, fun e => own_ne hst.own (g := b) (by have := hB b hb; omega) e.symm⟩)
          have e1 := List.take_succ_eq_append_getElem hlt
          rw [← e1] at R4
          clear e1 hst hrw hc hrep1 hb1 hbw hown1 ob1 bb1 hown2 hg2 ob2 k0 k1 k2 k3 k4 k7 o0 f1 q0 q1 q2 q3 hrj
          go_wp2
          go_roundw
          case rel => exact ⟨j + 1, by omega, by go_num, _, _, R1, R4⟩
          case measure => simp [intOf]; omega
      · have ej : j = l.length := by omega
        subst ej
        rw [List.take_length] at hrw
        have hbx1 := hbx.kept hst.kept hN
        have hlow1 : Below w.heap.size w wr := hlow.trans (hst.kept.below fun b hb => by omega)
        have p0 := hst.out.cell 0
        have p1 := hst.out.cell 1
        have p2 := hst.out.cell 2
        have r0 := hbx1.res.cell 0
        have r1 := hbx1.res.cell 1
        have r2 := hbx1.res.cell 2
        have r3 := hbx1.res.cell 3
        have t0 := hbx1.res.frozen 0
        have t1 := hbx1.res.frozen 1
        have t2 := hbx1.res.frozen 2
        have t3 := hbx1.res.frozen 3
        have t4 := hbx1.res.lt
        simp at p0 p1 p2 r0 r1 r2 r3
        have own3 := hst.own
        obtain ⟨E3, e3, rfl, hrow3, hcap3⟩ := rowAt.of_own' (B := fun b => w.heap.size + 1 < b ∧ b < wr.heap.size) own3 fun g hg hg' _ => ⟨by omega, hg'⟩
        clear hst f1
        go_wp2
        obtain ⟨hq, hkq⟩ := place4 hbx1.res (.int .i64 k) (.string s) (.slice A1 ks.length c1) (.slice E3 l.length e3)
        have q0 := hq.cell 0
        have q1 := hq.cell 1
        have q2 := hq.cell 2
        have q3 := hq.cell 3
        generalize (((wr.setCell ⟨w.heap.size + 1, 0, none⟩ (Value.int IntKind.i64 k)).setCell ⟨w.heap.size + 1, 1, none⟩ (Value.string s)).setCell ⟨w.heap.size + 1, 2, none⟩ (Value.slice A1 ks.length c1)).setCell ⟨w.heap.size + 1, 3, none⟩ (Value.slice E3 l.length e3) = wf at *
        have sf := hkq.size
        refine bodyPost_ret (v := .agg #[.int .i64 k, .string s, .slice A1 ks.length c1, .slice E3 l.length e3]) (by simp [results, Tryz.results21, go_sem, q0, q1, q2, q3]) rfl ?_
        have hlw := hlow1.trans (hkq.below fun b hb => by omega)
        refine ⟨[_, _, _, _], rfl, ?_, hlw⟩
        simp only [repV]
        refine ⟨A1, c1, E3, e3, zs, rfl, ⟨hs.1, hcap3⟩, h1.kept (Kept.of_below (X := fun b => b < w.heap.size) hlw fun _ h => h) hB (fun b hb => .inl hb), hrow3.kept hkq (fun b hb => by omega) (fun b hb => .inr (by omega)), ?_⟩
        exact repVs.kept hrw hkq (fun b hb => hb.elim (fun hb => by have := hB b hb; omega) fun hb => by omega) (fun b hb => hb.imp id fun hb => by omega)

end Go.Proofs.YtpmfjbmfjfhghaaGreat
