/-
  'spec.Proper': whether a type is one of values.
-/
import Derived.Test.YtpmfjbmfjfhghaaGreatShaped
import Derived.Deep.DeepCutAuto
import Derived.Deep.RegionHeld3
namespace Go.Proofs.YtpmfjbmfjfhghaaGreat
open Go.RowKit

theorem eqKy (a b : Int) (s t : ByteArray) (w : World) : (binOp .eql 72 (.agg #[.int .i64 a, .string s]) (.agg #[.int .i64 b, .string t])).run Tryz.prog w = .ok (.bool (a == b && s.toList == t.toList)) w := by
  have u3 := Tryz.underlying3
  have u9 := Tryz.underlying9
  have a3 := Tryz.isAgg3
  have z3 := Tryz.sizeOf3
  have a9 := Tryz.isAgg9
  have z9 := Tryz.sizeOf9
  have hS : Tryz.prog.underlying 72 = some (.struct (Tryz.prog.fieldsOf 72)) := by kernel_rfl
  have hp : Tryz.prog.stoodInHeld 72 = false := by kernel_rfl
  rw [run_eql_struct, show (10000 : Nat) = 9999 + 1 from rfl, run_equalIn_agg w 9999 72 _ _ hS hp]
  simp only [Program.fieldsOf, Tryz.underlying72]
  go_simp
  by_cases h1 : a = b <;> by_cases h2 : s.toList = t.toList <;> simp [h1, h2]

theorem text_empty {s : ByteArray} : s.toList = [] ↔ s = .empty := by
  constructor
  · intro h; exact toList_inj (by rw [h, ByteArray.toList_eq]; rfl)
  · intro h; subst h; rw [ByteArray.toList_eq]; rfl

/-- A key as the code asks it. -/
theorem key_no {k : Ky} (h : ¬ k.ok) : (k.kind ≠ 0 ∧ k.kind ≠ 1 ∧ k.kind ≠ 2 ∧ k.kind ≠ 4) ∨ (k.kind ≠ 4 ∧ k.text.toList ≠ []) := by
  by_cases h1 : k.kind = 0 ∨ k.kind = 1 ∨ k.kind = 2 ∨ k.kind = 4
  · right
    exact Classical.byContradiction fun c => h ⟨h1, fun h4 => Classical.byContradiction fun e => c ⟨h4, fun x => e (text_empty.1 x)⟩⟩
  · left; omega
theorem key_yes {k : Ky} (h : k.ok) : (k.kind = 0 ∧ k.text.toList = []) ∨ (k.kind = 1 ∧ k.text.toList = []) ∨ (k.kind = 2 ∧ k.text.toList = []) ∨ k.kind = 4 := by
  obtain ⟨h1, h2⟩ := h
  by_cases h4 : k.kind = 4
  · exact .inr (.inr (.inr h4))
  · have h5 := text_empty.2 (h2 h4)
    rcases h1 with h1 | h1 | h1 | h1
    · exact .inl ⟨h1, h5⟩
    · exact .inr (.inl ⟨h1, h5⟩)
    · exact .inr (.inr (.inl ⟨h1, h5⟩))
    · exact absurd h1 h4

/-- The first keys are proper and different. -/
def KeysTo (ks : List Ky) (j : Nat) : Prop := ∀ i (h : i < ks.length), i < j → ks[i].ok ∧ ∀ q (hq : q < i), ks[q]'(by omega) ≠ ks[i]

theorem KeysTo.all {ks : List Ky} (h : KeysTo ks ks.length) : KeysOk ks := fun i hi => h i hi hi
theorem KeysTo.succ {ks : List Ky} {j : Nat} (hj : j < ks.length) (h : KeysTo ks j) (h1 : ks[j].ok) (h2 : ∀ q (hq : q < j), ks[q]'(by omega) ≠ ks[j]) : KeysTo ks (j + 1) := fun i hi hij => by
  by_cases e : i = j
  · subst e; exact ⟨h1, h2⟩
  · exact h i hi (by omega)

/-- The first trees are proper. -/
def ProperTo (l : List Tr) (j : Nat) : Prop := ∀ i (h : i < l.length), i < j → ProperT l[i]
theorem ProperTo.all {l : List Tr} (h : ProperTo l l.length) : ProperTs l := by
  rw [ProperTs_iff, List.forall_mem_iff_forall_getElem]
  exact fun i hi => h i hi hi

set_option maxHeartbeats 1000000 in
set_option maxRecDepth 100000 in
theorem proper_any (t : Tr) : ∀ (w : World) (B : Nat → Prop) (cs : List Value), repS w B t cs → t.bulk ≤ 1048576 → (∀ b, B b → b < w.heap.size) →
    Calls Tryz.prog 39 #[.agg cs.toArray] w (BoolPost (ProperT t) w) := by
  induction t using Tr.ind with
  | h k ks l m il im =>
    intro w B cs hr hbulk hB
    have hbd := bd_sizes hbulk
    have hs0 := shaped_any (.mk k ks l m) 
    simp only [repS] at hr
    obtain ⟨A1, c1, A2, c2, A3, c3, xs, ys, rfl, hcap, h1, h2, h3, h4, h5⟩ := hr
    have hbk := hbulk
    simp only [Tr.bulk] at hbulk
    have b1 := length_kyBulk ks
    obtain ⟨i44, gi, gz0, gz1, gz2⟩ := info_parts info44
    have hlm : ∀ t ∈ l ++ m, ∀ (w : World) (B : Nat → Prop) (cs : List Value), repS w B t cs → t.bulk ≤ 1048576 → (∀ b, B b → b < w.heap.size) →
        Calls Tryz.prog 39 #[.agg cs.toArray] w (BoolPost (ProperT t) w) := fun t ht => (List.mem_append.1 ht).elim (il t) (im t)
    have hbl : ∀ t ∈ l ++ m, t.bulk ≤ 1048576 := fun t ht => by
      have := Tr.bulk_mem ht
      rw [Tr.bulks_append] at this
      omega
    have hl1 := h3.length
    have hl2 := h5.length
    have g1 := h3.oneCell
    have g2 := h5.oneCell
    have hrep := repSs.append h5 h3
    obtain ⟨lm, elm⟩ : ∃ lm, lm = l ++ m := ⟨_, rfl⟩
    have hlen := Lib.hid (show 0 + l.length + m.length = lm.length by rw [elm]; simp)
    rw [← elm] at hlm hbl hrep hbd
    have hP := Lib.hid (show ProperT (.mk k ks l m) ↔ (Shaped (.mk k ks l m) ∧ (k ≠ 6 → ks = [])) ∧ KeysOk ks ∧ ProperTs lm by rw [elm, ProperTs_append]; simp only [ProperT]; constructor <;> (intro h; simp_all))
    have hsh := fun W (hW : Below w.heap.size w W) => shaped_any (.mk k ks l m) W B [.int .i64 k, .slice A1 ks.length c1, .slice A2 l.length c2, .slice A3 m.length c3] (by simp only [repS]; exact ⟨A1, c1, A2, c2, A3, c3, xs, ys, rfl, hcap, h1.kept (Kept.of_below (X := fun b => b < w.heap.size) hW fun _ h => h) hB fun _ h => h, h2.kept (Kept.of_below (X := fun b => b < w.heap.size) hW fun _ h => h) hB fun _ h => h, h3.kept (Kept.of_below (X := fun b => b < w.heap.size) hW fun _ h => h) hB fun _ h => h, h4.kept (Kept.of_below (X := fun b => b < w.heap.size) hW fun _ h => h) hB fun _ h => h, h5.kept (Kept.of_below (X := fun b => b < w.heap.size) hW fun _ h => h) hB fun _ h => h⟩) hbk (fun b hb => Nat.lt_of_lt_of_le (hB b hb) hW.size)
    have hlow := (Below.refl w.heap.size w).alloc (Nat.le_refl _) (.cells #[.int .i64 k, .slice A1 ks.length c1, .slice A2 l.length c2, .slice A3 m.length c3] 44)
    have hx0 : Blk (w.alloc (.cells #[.int .i64 k, .slice A1 ks.length c1, .slice A2 l.length c2, .slice A3 m.length c3] 44)) w.heap.size 44 #[.int .i64 k, .slice A1 ks.length c1, .slice A2 l.length c2, .slice A3 m.length c3] := Blk.new _ _ _
    clear il im elm hs0
    have hcall := hsh _ hlow
    clear hsh
    go_enter Tryz.func39, Tryz.ntmps39
    go_upto_region 1 with (fail)
    go_cut [22] (fun c wx => ∃ b : Bool, c = .bool b ∧ (b = false ↔ (Shaped (.mk k ks l m) ∧ (k ≠ 6 → ks = []))) ∧ Below w.heap.size w wx ∧ Blk wx w.heap.size 44 #[.int .i64 k, .slice A1 ks.length c1, .slice A2 l.length c2, .slice A3 m.length c3])
    case first =>
      go_wp2_with fail
      refine hcall.mono ?_
      rintro e w1 ⟨bs, rfl, hbs, hb1⟩
      have HBS := Lib.hid hbs
      have hlow1 := hlow.trans (hb1.mono (by simp))
      have hx1 := hx0.below hb1 (by simp)
      have d0 := hx1.cell 0
      have d1 := hx1.cell 1
      have hx1l := hx1.lt
      simp at d0 d1
      clear hbs hlow hx0 hb1 hcall
      cases bs with
      | false =>
        go_wp2_with fail
        go_meet
        exact ⟨true, rfl, ⟨fun h => (by cases h), fun h => (by have := HBS.out.2 h.1; cases this)⟩, hlow1, hx1⟩
      | true =>
        have hS := HBS.out.1 rfl
        by_cases hk6 : k = 6
        · subst hk6
          go_wp2_with fail
          go_meet
          exact ⟨false, rfl, by simp [hS], hlow1, hx1⟩
        · have e1 : (k != 6) = true := by simpa using hk6
          have HK := Lib.hid hk6
          clear hk6
          by_cases h0 : ks.length = 0
          · have e0 : decide (0 < ks.length) = false := decide_eq_false (by omega)
            have HZ := Lib.hid h0
            clear h0
            go_wp2_with fail
            go_meet
            exact ⟨false, rfl, ⟨fun _ => ⟨hS, fun _ => List.eq_nil_of_length_eq_zero HZ.out⟩, fun _ => rfl⟩, hlow1, hx1⟩
          · have e0 : decide (0 < ks.length) = true := decide_eq_true (by omega)
            have HZ := Lib.hid h0
            clear h0
            go_wp2_with fail
            go_meet
            exact ⟨true, rfl, ⟨fun h => (by cases h), fun h => absurd (by rw [h.2 HK.out]; rfl) HZ.out⟩, hlow1, hx1⟩
    case rest =>
      obtain ⟨bs, rfl, hbs, hlow1, hx1⟩ := hcut
      have HBS := Lib.hid hbs
      have d1 := hx1.cell 1
      have hx1l := hx1.lt
      simp at d1
      clear hbs hlow hx0 hcall
      cases bs with
      | true =>
        go_wp2
        go_ret
        exact BoolPost.no (by rw [hP.out]; exact fun h => by have := HBS.out.2 h.1; cases this) hlow1
      | false =>
        go_wp2
        obtain ⟨w1, rfl⟩ : ∃ w1 : World, w1 = wc := ⟨_, rfl⟩
        go_loopw [26] (fun i wr => ∃ j : Nat, j ≤ ks.length ∧ i = .int .i64 j ∧ KeysTo ks j ∧ Below w1.heap.size w1 wr) (fun i _ => ks.length - (intOf i).toNat)
        case atStart => exact ⟨0, Nat.zero_le _, rfl, fun _ _ h => absurd h (by omega), Below.refl _ _⟩
        case round =>
          obtain ⟨j, hj, rfl, hkt, hb⟩ := hrel
          have HT := Lib.hid hkt
          clear hkt
          have hlw := hlow1.trans (hb.mono hlow1.size)
          have hxr := hx1.below hb hx1l
          have d1' := hxr.cell 1
          have hxl := hxr.lt
          simp at d1'
          clear d1
          by_cases hlt : j < ks.length
          · obtain ⟨b, off, rfl, hbb, q1, q2⟩ := h1.key j hlt
            have hbb' := hB b hbb
            rw [← hlw.cell (by exact hbb')] at q1 q2
            obtain ⟨q, hq⟩ : ∃ q, q = ks[j].kind := ⟨_, rfl⟩
            obtain ⟨tx, htx⟩ : ∃ tx, tx = ks[j].text := ⟨_, rfl⟩
            rw [← hq] at q1
            rw [← htx] at q2
            have HQ := Lib.hid hq
            have HX := Lib.hid htx
            clear hq htx
            go_upto_region 6 with (fail)
            go_cut [58] (fun c wx => ∃ b : Bool, c = .bool b ∧ (b = false ↔ ks[j].ok) ∧ wx = wr.alloc (.cells #[.int .i64 q, .string tx] 72))
            case first =>
              by_cases hok : ks[j].ok
              · have HO := Lib.hid hok
                have hy := key_yes hok
                rw [← HQ.out, ← HX.out] at hy
                clear hok
                rcases hy with ⟨rfl, ht⟩ | ⟨rfl, ht⟩ | ⟨rfl, ht⟩ | rfl
                · have ht' : tx.toList.isEmpty = true := by rw [ht]; rfl
                  go_wp2_with fail
                  go_meet
                  exact ⟨false, rfl, ⟨fun _ => HO.out, fun _ => rfl⟩, rfl⟩
                · have ht' : tx.toList.isEmpty = true := by rw [ht]; rfl
                  go_wp2_with fail
                  go_meet
                  exact ⟨false, rfl, ⟨fun _ => HO.out, fun _ => rfl⟩, rfl⟩
                · have ht' : tx.toList.isEmpty = true := by rw [ht]; rfl
                  go_wp2_with fail
                  go_meet
                  exact ⟨false, rfl, ⟨fun _ => HO.out, fun _ => rfl⟩, rfl⟩
                · go_wp2_with fail
                  go_meet
                  exact ⟨false, rfl, ⟨fun _ => HO.out, fun _ => rfl⟩, rfl⟩
              · have HO := Lib.hid hok
                have hno := key_no hok
                rw [← HQ.out, ← HX.out] at hno
                clear hok
                rcases hno with ⟨n0, n1, n2, n4⟩ | ⟨n4, nt⟩
                · have f0 : (q != 0) = true := by simpa using n0
                  have f1 : (q != 1) = true := by simpa using n1
                  have f2 : (q != 2) = true := by simpa using n2
                  have f4 : (q != 4) = true := by simpa using n4
                  clear n0 n1 n2 n4
                  go_wp2_with fail
                  go_meet
                  exact ⟨true, rfl, ⟨fun h => (by cases h), fun h => absurd h HO.out⟩, rfl⟩
                · have f4 : (q != 4) = true := by simpa using n4
                  have nt' : tx.toList.isEmpty = false := by cases h : tx.toList <;> simp_all
                  have hall : q = 0 ∨ q = 1 ∨ q = 2 ∨ ((q != 0) = true ∧ (q != 1) = true ∧ (q != 2) = true) := by
                    by_cases q0 : q = 0
                    · exact .inl q0
                    · by_cases q1 : q = 1
                      · exact .inr (.inl q1)
                      · by_cases q2 : q = 2
                        · exact .inr (.inr (.inl q2))
                        · exact .inr (.inr (.inr ⟨by simpa using q0, by simpa using q1, by simpa using q2⟩))
                  clear n4
                  rcases hall with rfl | rfl | rfl | ⟨f0, f1, f2⟩
                  all_goals
                    go_wp2_with fail
                    go_meet
                    exact ⟨true, rfl, ⟨fun h => (by cases h), fun h => absurd h HO.out⟩, rfl⟩
            case rest =>
              obtain ⟨bk, rfl, hbk', rfl⟩ := hcut
              have HBK := Lib.hid hbk'
              clear hbk'
              cases bk with
              | true =>
                go_wp2
                go_ret
                exact BoolPost.no (by rw [hP.out]; exact fun h => by have := HBK.out.2 (h.2.1 j hlt).1; cases this) (hlw.alloc hlw.size _)
              | false =>
                have hq0 : Blk (wr.alloc (.cells #[.int .i64 q, .string tx] 72)) wr.heap.size 72 #[.int .i64 q, .string tx] := Blk.new _ _ _
                have hlv := hlw.alloc hlw.size (.cells #[.int .i64 q, .string tx] 72)
                have hbv := hb.alloc hb.size (.cells #[.int .i64 q, .string tx] 72)
                have hjc : j ≤ c1 := by have := hcap.1; omega
                clear hb hlw hxr hx1
                go_wp2
                generalize wr.alloc (.cells #[.int .i64 q, .string tx] 72) = w2 at *
                have hq0l := hq0.lt
                go_loopw [64] (fun i wy => ∃ y : Nat, y ≤ j ∧ i = .int .i64 y ∧ (∀ z (hz : z < y) (hzj : z < j), ks[z]'(by omega) ≠ ks[j]) ∧ Below w2.heap.size w2 wy) (fun i _ => j - (intOf i).toNat)
                case atStart => exact ⟨0, Nat.zero_le _, rfl, fun _ h => absurd h (by omega), Below.refl _ _⟩
                case round =>
                  obtain ⟨y, hy, rfl, hd, hby⟩ := hrel
                  have HD := Lib.hid hd
                  clear hd
                  have hlz := hlv.trans (hby.mono hlv.size)
                  have hqy := hq0.below hby hq0l
                  have e0 := hqy.cell 0
                  have e1 := hqy.cell 1
                  have hql := hqy.lt
                  simp at e0 e1
                  by_cases hyj : y < j
                  · obtain ⟨b2, off2, ea, hbb2, p1, p2⟩ := h1.key y (by omega)
                    injection ea with ea
                    injection ea with ea1 ea2
                    subst ea1 ea2
                    rw [← hlz.cell (by exact hbb')] at p1 p2
                    have heq := eqKy ks[y].kind q ks[y].text tx
                    have hsz := hby.size
                    by_cases hsame : ks[y] = ks[j]
                    · have HS := Lib.hid hsame
                      have et : (ks[y].kind == q && ks[y].text.toList == tx.toList) = true := by rw [HQ.out, HX.out, hsame]; simp
                      rw [et] at heq
                      have heq' : ∀ w, Sem.run Tryz.prog (binOp .eql 72 (.agg #[.int .i64 ks[y].kind, .string ks[y].text]) (.agg #[.int .i64 q, .string tx])) w = .ok (.bool true) w := heq
                      clear hsame et heq hq0 hqy
                      go_wp2
                      go_ret
                      exact BoolPost.no (by rw [hP.out]; exact fun h => (h.2.1 j hlt).2 y hyj HS.out) (hlz.alloc hlz.size _)
                    · have HS := Lib.hid hsame
                      have et : (ks[y].kind == q && ks[y].text.toList == tx.toList) = false := by
                        rw [HQ.out, HX.out]
                        cases hc : (ks[y].kind == ks[j].kind && ks[y].text.toList == ks[j].text.toList)
                        · rfl
                        · simp only [Bool.and_eq_true, beq_iff_eq] at hc
                          exact absurd (Ky.ext' hc.1 (toList_inj hc.2)) hsame
                      rw [et] at heq
                      have heq' : ∀ w, Sem.run Tryz.prog (binOp .eql 72 (.agg #[.int .i64 ks[y].kind, .string ks[y].text]) (.agg #[.int .i64 q, .string tx])) w = .ok (.bool false) w := heq
                      clear hsame et heq hq0 hqy
                      go_wp2
                      go_roundw
                      case rel =>
                        refine ⟨y + 1, by omega, by go_num, fun z hz hzj => ?_, hby.alloc (by omega) _⟩
                        by_cases e : z = y
                        · subst e; exact HS.out
                        · exact HD.out z (by omega) hzj
                      case measure => simp [intOf]; omega
                  · have ey : y = j := by omega
                    subst ey
                    go_wp2
                    go_roundw
                    case rel => exact ⟨y + 1, by omega, by go_num, HT.out.succ hlt (by simpa using HBK.out) fun z hz => HD.out z hz hz, hbv.trans (hby.mono hbv.size)⟩
                    case measure => simp [intOf]; omega
          · have ej : j = ks.length := by omega
            subst ej
            have hKs := HT.out.all
            have HKs := Lib.hid hKs
            have HBS2 := HBS
            clear hKs h1 HT
            go_wp2_with fail
            have hX : ∀ b, B b → b < w.heap.size := hB
            have hk0 : Kept (fun b => b < w.heap.size) w ((wr.alloc (.cells #[] 44)).drew) := ((Kept.of_below (X := fun b => b < w.heap.size) hlw fun _ h => h).alloc (fun b h => by omega) _).drew
            have hx0 : Blk ((wr.alloc (.cells #[] 44)).drew) w.heap.size 44 #[.int .i64 k, .slice A1 ks.length c1, .slice A2 l.length c2, .slice A3 m.length c3] := (hxr.alloc _).drew
            have ho0 : ((wr.alloc (.cells #[] 44)).drew).ownsRow (w.heap.size + 1) 44 4 (.slice (some ⟨wr.heap.size, 0, none⟩) 0 0) 0 [] := (own_empty wr _ _ 4 rfl rfl (by omega)).drew
            have c2' := hxr.cell 2
            have c3' := hxr.cell 3
            simp at c2' c3'
            clear d1' hx1 hb hlw
            go_region_held3 (fun w' => w'.cell? ⟨w.heap.size, 2, none⟩ = some (.slice A2 l.length c2) ∧ w'.cell? ⟨w.heap.size, 3, none⟩ = some (.slice A3 m.length c3))
              (first | go_keep | exact ⟨by simpa using hx1.cell 2, by simpa using hx1.cell 3⟩ | exact ⟨by simpa using hx2.cell 2, by simpa using hx2.cell 3⟩)
              (first
                | (refine step_append_row _ (by rfl) (.tmp 73) (.tmp 75) _ (by rfl) (w.heap.size + 1) 44 i44 _ 4 80 Tryz.underlying42 gi gz0 gz1 gz2 rfl (by omega) _ 0 [] (by rfl) ho0 B A2 l.length c2 xs (by rfl) hl1 (h2.kept hk0 hX fun _ h => h) g1 (by unfold maxLen; omega) (by omega) (by simp; omega) ?_; intro v1 w1 hown1 hg1 hat1; have hx1 := hx0.grown hg1 (own_ne ho0 (by omega)); have hk1 := hk0.grown hg1 (fun b hb => by simp; omega) (fun q hq hX => own_ne ho0 (by omega) hq.symm); have hz1 : w.heap.size + 1 ≤ w1.heap.size := (by have := hx1.lt; omega))
                | (refine step_append_row _ (by rfl) (.tmp 76) (.tmp 78) _ (by rfl) (w.heap.size + 1) 44 i44 _ 4 80 Tryz.underlying42 gi gz0 gz1 gz2 rfl (by omega) v1 (0 + l.length) ([] ++ xs) (by rfl) hown1 B A3 m.length c3 ys (by rfl) hl2 (h4.kept hk1 hX fun _ h => h) g2 (by unfold maxLen; omega) (by omega) hz1 ?_; intro v2 w2 hown2 hg2 hat2; rw [hlen.out, List.nil_append] at hown2; obtain ⟨Av, cv, rfl, hrv, _⟩ := rowAt.of_own' (B := fun b => b < w2.heap.size) hown2 (fun _ _ h _ => h); have hx2 := hx1.grown hg2 (own_ne hown1 (by omega)); have hk2 := hk1.grown hg2 (fun b hb => by omega) (fun q hq hX => own_ne hown1 (by omega) hq.symm)))
            have hkw : Kept (fun b => b < w.heap.size) w w2 := hk2
            have hrepw : repSs w2 (fun b => b < w2.heap.size) lm (xs ++ ys) := hrep.kept hkw hX fun b hb => Nat.lt_of_lt_of_le (hX b hb) hkw.size
            have hlb : lm.length ≤ 1048576 := by have := Tr.length_sizes lm; omega
            clear hx0 ho0 hown1 hg1 hat1 hx1 hk1 hz1 hown2 hg2 hat2 hx2 hk2 hk0 hrep h2 h3 h4 h5 hl1 hl2 g1 g2 hxr c2' c3'
            go_wp2
            obtain ⟨w3, rfl⟩ : ∃ w3 : World, w3 = w2 := ⟨_, rfl⟩
            go_loopw [81] (fun i wr => ∃ j : Nat, j ≤ lm.length ∧ i = .int .i64 j ∧ ProperTo lm j ∧ Below w3.heap.size w3 wr) (fun i _ => lm.length - (intOf i).toNat)
            case atStart => exact ⟨0, Nat.zero_le _, rfl, fun _ _ h => absurd h (by omega), Below.refl _ _⟩
            case round =>
              obtain ⟨j, hj, rfl, hpt, hb⟩ := hrel
              have HPT := Lib.hid hpt
              clear hpt
              have hws := hb.size
              have hlw := (hkw.below fun _ h => h).trans (hb.mono hkw.size)
              by_cases hlt : j < lm.length
              · obtain ⟨b, off, A1', c1', A2', c2', A3', c3', rfl, hbb, hrj, q0, q1, q2, q3⟩ := hrepw.at_ hrv j hlt
                rw [← hb.cell (by exact hbb)] at q0 q1 q2 q3
                have hmem := List.getElem_mem hlt
                have hc : ∀ W, Below w3.heap.size w3 W → Calls Tryz.prog 39 #[.agg #[.int .i64 lm[j].kind, .slice A1' lm[j].keys.length c1', .slice A2' lm[j].kids.length c2', .slice A3' lm[j].more.length c3']] W (BoolPost (ProperT lm[j]) W) :=
                  fun W hW => hlm lm[j] hmem W _ _ (hrj.kept (Kept.of_below (X := fun b => b < w3.heap.size) hW fun _ h => h) (fun _ h => h) fun b hb => Nat.lt_of_lt_of_le hb hW.size) (hbl _ hmem) (fun b hb => hb)
                clear hlm hrepw
                go_wp2_with fail
                refine (hc _ (hb.alloc hb.size _)).mono ?_
                rintro e wc ⟨bq, rfl, hbq, hbc⟩
                have HBQ := Lib.hid hbq
                have hbw := (hb.alloc hb.size _).trans (hbc.mono (by simp; omega))
                clear hbq
                cases bq with
                | true =>
                  go_wp2
                  go_roundw
                  case rel =>
                    refine ⟨j + 1, by omega, by go_num, fun q hq hq' => ?_, hbw⟩
                    by_cases e : q = j
                    · subst e; simpa using HBQ.out
                    · exact HPT.out q hq (by omega)
                  case measure => simp [intOf]; omega
                | false =>
                  go_wp2
                  go_ret
                  refine BoolPost.no (by rw [hP.out, ProperTs_iff]; exact fun h => by have := HBQ.out.2 (h.2.2 _ hmem); cases this) ?_
                  exact (hkw.below fun _ h => h).trans (hbw.mono hkw.size)
              · have ej : j = lm.length := by omega
                subst ej
                go_wp2
                go_ret
                exact BoolPost.yes (by rw [hP.out]; exact ⟨by simpa using HBS.out, HKs.out, HPT.out.all⟩) hlw

end Go.Proofs.YtpmfjbmfjfhghaaGreat
