/-
  'spec.digits', 'spec.ProperValue': they answer; a value that is let by is one that 'spec.In' can look into.
-/
import Derived.Test.YtpmfjbmfjfhghaaGreatVMem
import Derived.Test.YtpmfjbmfjfhghaaGreatShaped
import Derived.Test.YtpmfjbmfjfhghaaGreatReg
import Derived.Test.YtpmfjbmfjfhghaaGreatIn2
import Derived.Deep.DeepCutAuto
import Derived.IntWalk
namespace Go.Proofs.YtpmfjbmfjfhghaaGreat
open Go.RowKit

/-- Some truth value comes back; the world is as it was. -/
def SomeBool (w : World) (e : Ending) (w' : World) : Prop := ∃ b : Bool, e = .returned (.bool b) ∧ w = w'

theorem isEmpty_size {s : ByteArray} (h : 0 < s.size) : s.toList.isEmpty = false ∧ ¬ s.toList = [] := by
  have : s.toList ≠ [] := fun e => by
    rw [ByteArray.toList_eq] at e
    cases s with
    | mk d => cases d with
      | mk l => simp at e; subst e; simp [ByteArray.size] at h
  exact ⟨by cases h' : s.toList <;> simp_all, this⟩

theorem size_zero {s : ByteArray} (h : ¬ 0 < s.size) : s.toList = [] := by
  rw [ByteArray.toList_eq]
  cases s with
  | mk d => cases d with
    | mk l => cases l with
      | nil => rfl
      | cons x l => simp [ByteArray.size] at h

set_option maxHeartbeats 1000000 in
set_option maxRecDepth 100000 in
theorem digits_any (s : ByteArray) (w : World) (hs : s.size ≤ 1048576) : Calls Tryz.prog 41 #[.string s] w (SomeBool w) := by
  by_cases h0 : 0 < s.size
  · obtain ⟨e0, e1⟩ := isEmpty_size h0
    by_cases hm : ((s[0].toNat : Int) == 45) = true
    · go_enter Tryz.func41, Tryz.ntmps41
      go_upto_region 3 with (fail)
      obtain ⟨s', es, hs'⟩ : ∃ s', s' = s.extract 1 s.size ∧ s'.size ≤ 1048576 := ⟨_, rfl, by simp; omega⟩
      rw [← es]
      clear es hm e0 e1
      go_wp2
      go_loop [15] (fun i => ∃ j : Nat, j ≤ s'.size ∧ i = .int .i64 j) (fun i => s'.size - (intOf i).toNat)
      case atStart => exact ⟨0, Nat.zero_le _, rfl⟩
      case round =>
        obtain ⟨j, hj, rfl⟩ := hrel
        by_cases hlt : j < s'.size
        · go_wp2
          all_goals first
            | (go_ret; exact ⟨_, rfl, rfl⟩)
            | (go_round
               case rel => exact ⟨j + 1, by omega, by go_num⟩
               case measure => simp [intOf]; omega)
        · by_cases h1 : 0 < s'.size
          · obtain ⟨q0, q1⟩ := isEmpty_size h1
            go_wp2
            all_goals (go_ret; exact ⟨_, rfl, rfl⟩)
          · have q0 := size_zero h1
            go_wp2
            go_ret
            exact ⟨_, rfl, rfl⟩
    · have hm' : ((s[0].toNat : Int) == 45) = false := by simpa using hm
      clear hm
      go_enter Tryz.func41, Tryz.ntmps41
      go_upto_region 3 with (fail)
      clear hm' e0 e1
      go_wp2
      go_loop [15] (fun i => ∃ j : Nat, j ≤ s.size ∧ i = .int .i64 j) (fun i => s.size - (intOf i).toNat)
      case atStart => exact ⟨0, Nat.zero_le _, rfl⟩
      case round =>
        obtain ⟨j, hj, rfl⟩ := hrel
        by_cases hlt : j < s.size
        · go_wp2
          all_goals first
            | (go_ret; exact ⟨_, rfl, rfl⟩)
            | (go_round
               case rel => exact ⟨j + 1, by omega, by go_num⟩
               case measure => simp [intOf]; omega)
        · by_cases h1 : 0 < s.size
          · obtain ⟨q0, q1⟩ := isEmpty_size h1
            go_wp2
            all_goals (go_ret; exact ⟨_, rfl, rfl⟩)
          · have q0 := size_zero h1
            go_wp2
            go_ret
            exact ⟨_, rfl, rfl⟩
  · have e0 := size_zero h0
    go_enter Tryz.func41, Tryz.ntmps41
    go_upto_region 3 with (fail)
    clear e0
    go_wp2
    go_loop [15] (fun i => ∃ j : Nat, j ≤ s.size ∧ i = .int .i64 j) (fun i => s.size - (intOf i).toNat)
    case atStart => exact ⟨0, Nat.zero_le _, rfl⟩
    case round =>
      obtain ⟨j, hj, rfl⟩ := hrel
      by_cases hlt : j < s.size
      · go_wp2
        all_goals first
          | (go_ret; exact ⟨_, rfl, rfl⟩)
          | (go_round
             case rel => exact ⟨j + 1, by omega, by go_num⟩
             case measure => simp [intOf]; omega)
      · by_cases h1 : 0 < s.size
        · obtain ⟨q0, q1⟩ := isEmpty_size h1
          go_wp2
          all_goals (go_ret; exact ⟨_, rfl, rfl⟩)
        · have q0 := size_zero h1
          go_wp2
          go_ret
          exact ⟨_, rfl, rfl⟩

/-- Some truth value comes back; if it is 'true', p holds. -/
def ImpPost (p : Prop) (w : World) (e : Ending) (w' : World) : Prop := ∃ b : Bool, e = .returned (.bool b) ∧ (b = true → p) ∧ Below w.heap.size w w'

/-- The first kids are such values. -/
def VOkTo (l : List Vl) (j : Nat) : Prop := ∀ i (h : i < l.length), i < j → VOk l[i]
theorem VOkTo.succ {l : List Vl} {j : Nat} (hj : j < l.length) (h : VOkTo l j) (h1 : VOk l[j]) : VOkTo l (j + 1) := fun i hi hij => by
  by_cases e : i = j
  · subst e; exact h1
  · exact h i hi (by omega)

set_option maxHeartbeats 4000000 in
set_option maxRecDepth 100000 in
theorem pv_any (v : Vl) : ∀ (w : World) (B : Nat → Prop) (cs : List Value), repV w B v cs → v.bulk ≤ 1048576 → (∀ b, B b → b < w.heap.size) →
    Calls Tryz.prog 20 #[.agg cs.toArray] w (ImpPost (VOk v) w) := by
  induction v using Vl.ind with
  | h k s ks l il =>
    intro w B cs hv hvb hB
    simp only [repV] at hv
    obtain ⟨V1, d1, V2, d2, vxs, rfl, ⟨hd1, hd2⟩, g1, g2, g3⟩ := hv
    simp only [Vl.bulk] at hvb
    have b1 := length_strBulk ks
    have b2 := Vl.length_bulks l
    have hss : s.size ≤ 1048576 := by omega
    have hx0 : Blk (w.alloc (.cells #[.int .i64 k, .string s, .slice V1 ks.length d1, .slice V2 l.length d2] 36)) w.heap.size 36 #[.int .i64 k, .string s, .slice V1 ks.length d1, .slice V2 l.length d2] := Blk.new _ _ _
    have hl0 : Below w.heap.size w (w.alloc (.cells #[.int .i64 k, .string s, .slice V1 ks.length d1, .slice V2 l.length d2] 36)) := (Below.refl _ _).alloc (Nat.le_refl _) _
    obtain ⟨w0, ew0⟩ : ∃ w0, w0 = w.alloc (.cells #[.int .i64 k, .string s, .slice V1 ks.length d1, .slice V2 l.length d2] 36) := ⟨_, rfl⟩
    rw [← ew0] at hx0 hl0
    have EW := Lib.hid ew0
    clear ew0
    have xl := hx0.lt
    have IL := Lib.hid il
    clear il
    go_enter Tryz.func20, Tryz.ntmps20
    go_upto_region 1 with (fail)
    rw [← EW.out]
    have x0 := hx0.cell 0
    have x1 := hx0.cell 1
    have x2 := hx0.cell 2
    have x3 := hx0.cell 3
    simp at x0 x1 x2 x3
    clear EW
    go_cut [38] (fun c wx => ∃ b : Bool, c = .bool b ∧ wx = w0)
    case first =>
      have hdg := digits_any s w0 hss
      by_cases c1 : k < 0
      · go_wp2_with fail
        go_meet
        exact ⟨_, rfl, rfl⟩
      by_cases c2 : 6 < k
      · go_wp2_with fail
        go_meet
        exact ⟨_, rfl, rfl⟩
      by_cases c3 : k = 3
      · subst c3
        go_wp2_with (go_at_call 41; refine hdg.mono ?_; rintro e w1 ⟨b, rfl, rfl⟩)
        all_goals (go_meet; exact ⟨_, rfl, rfl⟩)
      · have c3' : (k == 3) = false := by simpa using c3
        have c3'' : (k != 3) = true := by simpa using c3
        clear c3
        by_cases c4 : k = 4
        · subst c4
          go_wp2_with fail
          all_goals (go_meet; exact ⟨_, rfl, rfl⟩)
        · have c4' : (k != 4) = true := by simpa using c4
          clear c4
          go_wp2_with fail
          all_goals (go_meet; exact ⟨_, rfl, rfl⟩)
    case rest =>
      obtain ⟨b0, rfl, rfl⟩ := hcut
      cases b0 with
      | true =>
        go_wp2
        go_ret
        exact ⟨false, rfl, (fun h => by cases h), hl0⟩
      | false =>
      go_upto_region 3 with (fail)
      go_cut [77] (fun c wx => ∃ b : Bool, c = .bool b ∧ (b = false → k = 6 → ks.length = l.length) ∧ wx = wc)
      case first =>
        by_cases c6 : k = 6
        · subst c6
          by_cases ce : ks.length = l.length
          · have CE := Lib.hid ce
            have e1 : ((ks.length : Int) == (l.length : Int)) = true := by simp [ce]
            have e2 : ((ks.length : Int) != (l.length : Int)) = false := by simp [ce]
            have e3 : decide (ks.length = l.length) = true := by simp [ce]
            clear ce
            go_wp2
            all_goals (go_meet; exact ⟨_, rfl, fun _ _ => CE.out, rfl⟩)
          · have CE := Lib.hid ce
            have e1 : ((ks.length : Int) == (l.length : Int)) = false := beq_eq_false_iff_ne.2 (by omega)
            have e2 : ((ks.length : Int) != (l.length : Int)) = true := bne_iff_ne.2 (by omega)
            have e3 : decide (ks.length = l.length) = false := by simpa using ce
            clear ce
            go_wp2
            all_goals (go_meet; exact ⟨true, rfl, (fun h => by cases h), rfl⟩)
        · have C6 := Lib.hid c6
          have c6' : (k == 6) = false := by simpa using c6
          have c6'' : (k != 6) = true := by simpa using c6
          clear c6
          cases h5 : (k != 5)
          all_goals go_wp2
          all_goals (go_meet; exact ⟨_, rfl, (fun _ h => by first | exact absurd h C6.out | exact h.elim | cases h), rfl⟩)
      case rest =>
        obtain ⟨b2, rfl, hb2, rfl⟩ := hcut
        have HB2 := Lib.hid hb2
        clear hb2
        cases b2 with
        | true =>
          go_wp2
          go_ret
          exact ⟨false, rfl, (fun h => by cases h), hl0⟩
        | false =>
        go_wp2
        obtain ⟨wc, rfl⟩ : ∃ wx : World, wx = wc := ⟨_, rfl⟩
        go_loopw [81] (fun i wr => ∃ j : Nat, j ≤ l.length ∧ i = .int .i64 j ∧ VOkTo l j ∧ Below wc.heap.size wc wr) (fun i _ => l.length - (intOf i).toNat)
        case atStart => exact ⟨0, Nat.zero_le _, rfl, fun _ _ h => absurd h (by omega), Below.refl _ _⟩
        case round =>
          obtain ⟨j, hj, rfl, hok, hb⟩ := hrel
          have HOK := Lib.hid hok
          clear hok x0 x1 x2 x3
          have hlw := hl0.trans (hb.mono hl0.size)
          have hsz := hb.size
          have hxr := hx0.below hb xl
          have xrl := hxr.lt
          by_cases hlt : j < l.length
          · obtain ⟨b, off, S1, e1, S2, e2, rfl, hbb, hvj, q0, q1, q2, q3⟩ := g3.at_ g2 j hlt
            have hbl := hB b hbb
            rw [← hlw.cell (by exact hbl)] at q0 q1 q2 q3
            have hbw : b < wr.heap.size := by omega
            have hvs : l[j].bulk ≤ 1048576 := by have := Vl.bulk_mem (List.getElem_mem hlt); omega
            have hc := fun W (hW : Below w.heap.size w W) => IL.out l[j] (List.getElem_mem hlt) W B _ (hvj.kept (Kept.of_below (X := fun b => b < w.heap.size) hW fun _ h => h) hB fun _ h => h) hvs (fun b hb => Nat.lt_of_lt_of_le (hB b hb) hW.size)
            by_cases c6 : k = 6
            · subst c6
              have hkl := HB2.out (by simp) (by simp)
              have HKL := Lib.hid hkl
              clear hkl
              by_cases hz : j = 0
              · subst hz
                simp only [Nat.zero_mul, Nat.add_zero] at q0 q1 q2 q3
                have hX0 := (Blk.new wr 36 #[.int .i64 l[0].kind, .string l[0].text, .slice S1 l[0].keys.length e1, .slice S2 l[0].kids.length e2]).drew
                have hxw := (hxr.alloc (.cells #[.int .i64 l[0].kind, .string l[0].text, .slice S1 l[0].keys.length e1, .slice S2 l[0].kids.length e2] 36)).drew
                have hW0 : Below w.heap.size w (wr.alloc (.cells #[.int .i64 l[0].kind, .string l[0].text, .slice S1 l[0].keys.length e1, .slice S2 l[0].kids.length e2] 36)).drew := (hlw.alloc hlw.size _).drew
                have hbW : Below wc.heap.size wc (wr.alloc (.cells #[.int .i64 l[0].kind, .string l[0].text, .slice S1 l[0].keys.length e1, .slice S2 l[0].kids.length e2] 36)).drew := (hb.alloc hsz _).drew
                have hx0' := hxw.cell 0
                simp at hx0'
                have hS0 : (fun w' => (w'.cell? ⟨wr.heap.size, 0, none⟩ = some (.int .i64 l[0].kind) ∧ w'.cell? ⟨wr.heap.size, 1, none⟩ = some (.string l[0].text) ∧ w'.cell? ⟨wr.heap.size, 2, none⟩ = some (.slice S1 l[0].keys.length e1) ∧ w'.cell? ⟨wr.heap.size, 3, none⟩ = some (.slice S2 l[0].kids.length e2)) ∧ (w'.cell? ⟨w.heap.size, 0, none⟩ = some (.int .i64 6))) (wr.alloc (.cells #[.int .i64 l[0].kind, .string l[0].text, .slice S1 l[0].keys.length e1, .slice S2 l[0].kids.length e2] 36)).drew := ⟨⟨hX0.cell 0, hX0.cell 1, hX0.cell 2, hX0.cell 3⟩, hx0'⟩
                have hk : ∀ W1, Below (wr.alloc (.cells #[.int .i64 l[0].kind, .string l[0].text, .slice S1 l[0].keys.length e1, .slice S2 l[0].kids.length e2] 36)).drew.heap.size (wr.alloc (.cells #[.int .i64 l[0].kind, .string l[0].text, .slice S1 l[0].keys.length e1, .slice S2 l[0].kids.length e2] 36)).drew W1 → (fun w' => (w'.cell? ⟨wr.heap.size, 0, none⟩ = some (.int .i64 l[0].kind) ∧ w'.cell? ⟨wr.heap.size, 1, none⟩ = some (.string l[0].text) ∧ w'.cell? ⟨wr.heap.size, 2, none⟩ = some (.slice S1 l[0].keys.length e1) ∧ w'.cell? ⟨wr.heap.size, 3, none⟩ = some (.slice S2 l[0].kids.length e2)) ∧ (w'.cell? ⟨w.heap.size, 0, none⟩ = some (.int .i64 6))) W1 := fun W1 h1 => ⟨⟨cell_of h1 hX0.lt hS0.1.1, cell_of h1 hX0.lt hS0.1.2.1, cell_of h1 hX0.lt hS0.1.2.2.1, cell_of h1 hX0.lt hS0.1.2.2.2⟩, cell_of h1 hxw.lt hS0.2⟩
                clear hx0'
                go_wp2_with fail
                refine wp_region_held_drew (S := (fun w' => (w'.cell? ⟨wr.heap.size, 0, none⟩ = some (.int .i64 l[0].kind) ∧ w'.cell? ⟨wr.heap.size, 1, none⟩ = some (.string l[0].text) ∧ w'.cell? ⟨wr.heap.size, 2, none⟩ = some (.slice S1 l[0].keys.length e1) ∧ w'.cell? ⟨wr.heap.size, 3, none⟩ = some (.slice S2 l[0].kids.length e2)) ∧ (w'.cell? ⟨w.heap.size, 0, none⟩ = some (.int .i64 6)))) (by kernel_rfl) (hS0) (fun hHeld => ?_)
                refine take_yes (i := 0) (v := ?_) rfl (by kernel_rfl) (by kernel_rfl) (by kernel_rfl) (fun _ _ _ h => h) (by rfl) ?_ hHeld ?_
                rotate_left
                · (intro w hSw; (try dsimp only at hSw); go_simp; (try with_reducible rfl))
                (try simp only [Act.put, List.setIfInBounds_toArray, List.set_cons_zero, List.set_cons_succ])
                refine take_step (i := 1) rfl (by kernel_rfl) (fun K hK => ?_)
                go_simp
                (go_at_call 20; refine (hc _ hW0).mono ?_; rintro e w2 ⟨bb, rfl, hbb2, hb2⟩; have HBB := Lib.hid hbb2; clear hbb2; have hS1 := hk _ hb2; have hlf := hW0.trans (hb2.mono hW0.size); have hbf := hbW.trans (hb2.mono hbW.size))
                (try go_wp2_with fail)
                refine hK.out _ _ (hS1) (fun hHeld => ?_)
                clear hK K
                (try simp only [Act.put, List.setIfInBounds_toArray, List.set_cons_zero, List.set_cons_succ])
                clear hc hk hS0 hS1
                cases bb with
                | false =>
                  refine take_yes (i := 2) (v := ?_) rfl (by kernel_rfl) (by kernel_rfl) (by kernel_rfl) (fun _ _ _ h => h) (by rfl) ?_ hHeld ?_
                  rotate_left
                  · (intro w hSw; (try dsimp only at hSw); go_simp; (try with_reducible rfl))
                  (try simp only [Act.put, List.setIfInBounds_toArray, List.set_cons_zero, List.set_cons_succ])
                  refine take_yes (i := 3) (v := ?_) rfl (by kernel_rfl) (by kernel_rfl) (by kernel_rfl) (fun _ _ _ h => h) (by rfl) ?_ hHeld ?_
                  rotate_left
                  · (intro w hSw; (try dsimp only at hSw); go_simp; (try with_reducible rfl))
                  (try simp only [Act.put, List.setIfInBounds_toArray, List.set_cons_zero, List.set_cons_succ])
                  refine take_no (i := 4) rfl (by kernel_rfl) (by kernel_rfl) (by kernel_rfl) (fun _ _ _ h => h) (by rfl) hHeld ?_
                  (try simp only [Act.put, List.setIfInBounds_toArray, List.set_cons_zero, List.set_cons_succ])
                  refine take_no (i := 5) rfl (by kernel_rfl) (by kernel_rfl) (by kernel_rfl) (fun _ _ _ h => h) (by rfl) hHeld ?_
                  (try simp only [Act.put, List.setIfInBounds_toArray, List.set_cons_zero, List.set_cons_succ])
                  refine take_no (i := 6) rfl (by kernel_rfl) (by kernel_rfl) (by kernel_rfl) (fun _ _ _ h => h) (by rfl) hHeld ?_
                  (try simp only [Act.put, List.setIfInBounds_toArray, List.set_cons_zero, List.set_cons_succ])
                  refine take_no (i := 7) rfl (by kernel_rfl) (by kernel_rfl) (by kernel_rfl) (fun _ _ _ h => h) (by rfl) hHeld ?_
                  (try simp only [Act.put, List.setIfInBounds_toArray, List.set_cons_zero, List.set_cons_succ])
                  refine take_no (i := 8) rfl (by kernel_rfl) (by kernel_rfl) (by kernel_rfl) (fun _ _ _ h => h) (by rfl) hHeld ?_
                  (try simp only [Act.put, List.setIfInBounds_toArray, List.set_cons_zero, List.set_cons_succ])
                  refine take_no (i := 9) rfl (by kernel_rfl) (by kernel_rfl) (by kernel_rfl) (fun _ _ _ h => h) (by rfl) hHeld ?_
                  (try simp only [Act.put, List.setIfInBounds_toArray, List.set_cons_zero, List.set_cons_succ])
                  refine take_no (i := 10) rfl (by kernel_rfl) (by kernel_rfl) (by kernel_rfl) (fun _ _ _ h => h) (by rfl) hHeld ?_
                  (try simp only [Act.put, List.setIfInBounds_toArray, List.set_cons_zero, List.set_cons_succ])
                  refine take_no (i := 11) rfl (by kernel_rfl) (by kernel_rfl) (by kernel_rfl) (fun _ _ _ h => h) (by rfl) hHeld ?_
                  (try simp only [Act.put, List.setIfInBounds_toArray, List.set_cons_zero, List.set_cons_succ])
                  refine take_no (i := 12) rfl (by kernel_rfl) (by kernel_rfl) (by kernel_rfl) (fun _ _ _ h => h) (by rfl) hHeld ?_
                  (try simp only [Act.put, List.setIfInBounds_toArray, List.set_cons_zero, List.set_cons_succ])
                  refine take_no (i := 13) rfl (by kernel_rfl) (by kernel_rfl) (by kernel_rfl) (fun _ _ _ h => h) (by rfl) hHeld ?_
                  (try simp only [Act.put, List.setIfInBounds_toArray, List.set_cons_zero, List.set_cons_succ])
                  refine take_no (i := 14) rfl (by kernel_rfl) (by kernel_rfl) (by kernel_rfl) (fun _ _ _ h => h) (by rfl) hHeld ?_
                  (try simp only [Act.put, List.setIfInBounds_toArray, List.set_cons_zero, List.set_cons_succ])
                  refine take_no (i := 15) rfl (by kernel_rfl) (by kernel_rfl) (by kernel_rfl) (fun _ _ _ h => h) (by rfl) hHeld ?_
                  (try simp only [Act.put, List.setIfInBounds_toArray, List.set_cons_zero, List.set_cons_succ])
                  refine take_no (i := 16) rfl (by kernel_rfl) (by kernel_rfl) (by kernel_rfl) (fun _ _ _ h => h) (by rfl) hHeld ?_
                  (try simp only [Act.put, List.setIfInBounds_toArray, List.set_cons_zero, List.set_cons_succ])
                  refine take_no (i := 17) rfl (by kernel_rfl) (by kernel_rfl) (by kernel_rfl) (fun _ _ _ h => h) (by rfl) hHeld ?_
                  (try simp only [Act.put, List.setIfInBounds_toArray, List.set_cons_zero, List.set_cons_succ])
                  refine take_no (i := 18) rfl (by kernel_rfl) (by kernel_rfl) (by kernel_rfl) (fun _ _ _ h => h) (by rfl) hHeld ?_
                  (try simp only [Act.put, List.setIfInBounds_toArray, List.set_cons_zero, List.set_cons_succ])
                  refine take_no (i := 19) rfl (by kernel_rfl) (by kernel_rfl) (by kernel_rfl) (fun _ _ _ h => h) (by rfl) hHeld ?_
                  (try simp only [Act.put, List.setIfInBounds_toArray, List.set_cons_zero, List.set_cons_succ])
                  refine take_no (i := 20) rfl (by kernel_rfl) (by kernel_rfl) (by kernel_rfl) (fun _ _ _ h => h) (by rfl) hHeld ?_
                  (try simp only [Act.put, List.setIfInBounds_toArray, List.set_cons_zero, List.set_cons_succ])
                  refine take_no (i := 21) rfl (by kernel_rfl) (by kernel_rfl) (by kernel_rfl) (fun _ _ _ h => h) (by rfl) hHeld ?_
                  (try simp only [Act.put, List.setIfInBounds_toArray, List.set_cons_zero, List.set_cons_succ])
                  refine take_no (i := 22) rfl (by kernel_rfl) (by kernel_rfl) (by kernel_rfl) (fun _ _ _ h => h) (by rfl) hHeld ?_
                  (try simp only [Act.put, List.setIfInBounds_toArray, List.set_cons_zero, List.set_cons_succ])
                  refine take_no (i := 23) rfl (by kernel_rfl) (by kernel_rfl) (by kernel_rfl) (fun _ _ _ h => h) (by rfl) hHeld ?_
                  (try simp only [Act.put, List.setIfInBounds_toArray, List.set_cons_zero, List.set_cons_succ])
                  refine take_no (i := 24) rfl (by kernel_rfl) (by kernel_rfl) (by kernel_rfl) (fun _ _ _ h => h) (by rfl) hHeld ?_
                  (try simp only [Act.put, List.setIfInBounds_toArray, List.set_cons_zero, List.set_cons_succ])
                  refine take_yes (i := 25) (v := ?_) rfl (by kernel_rfl) (by kernel_rfl) (by kernel_rfl) (fun _ _ _ h => h) (by rfl) ?_ hHeld ?_
                  rotate_left
                  · (intro w hSw; (try dsimp only at hSw); go_simp; (try with_reducible rfl))
                  (try simp only [Act.put, List.setIfInBounds_toArray, List.set_cons_zero, List.set_cons_succ])
                  refine wpAnyH_done (by kernel_rfl) ?_ _
                  go_wp2
                  go_ret
                  exact ⟨false, rfl, (fun h => by cases h), hlf⟩
                | true =>
                  refine take_yes (i := 2) (v := ?_) rfl (by kernel_rfl) (by kernel_rfl) (by kernel_rfl) (fun _ _ _ h => h) (by rfl) ?_ hHeld ?_
                  rotate_left
                  · (intro w hSw; (try dsimp only at hSw); go_simp; (try with_reducible rfl))
                  (try simp only [Act.put, List.setIfInBounds_toArray, List.set_cons_zero, List.set_cons_succ])
                  refine take_yes (i := 3) (v := ?_) rfl (by kernel_rfl) (by kernel_rfl) (by kernel_rfl) (fun _ _ _ h => h) (by rfl) ?_ hHeld ?_
                  rotate_left
                  · (intro w hSw; (try dsimp only at hSw); go_simp; (try with_reducible rfl))
                  (try simp only [Act.put, List.setIfInBounds_toArray, List.set_cons_zero, List.set_cons_succ])
                  refine take_yes (i := 4) (v := ?_) rfl (by kernel_rfl) (by kernel_rfl) (by kernel_rfl) (fun _ _ _ h => h) (by rfl) ?_ hHeld ?_
                  rotate_left
                  · (intro w hSw; (try dsimp only at hSw); go_simp; (try with_reducible rfl))
                  (try simp only [Act.put, List.setIfInBounds_toArray, List.set_cons_zero, List.set_cons_succ])
                  refine take_yes (i := 5) (v := ?_) rfl (by kernel_rfl) (by kernel_rfl) (by kernel_rfl) (fun _ _ _ h => h) (by rfl) ?_ hHeld ?_
                  rotate_left
                  · (intro w hSw; (try dsimp only at hSw); go_simp; (try with_reducible rfl))
                  (try simp only [Act.put, List.setIfInBounds_toArray, List.set_cons_zero, List.set_cons_succ])
                  refine take_yes (i := 6) (v := ?_) rfl (by kernel_rfl) (by kernel_rfl) (by kernel_rfl) (fun _ _ _ h => h) (by rfl) ?_ hHeld ?_
                  rotate_left
                  · (intro w hSw; (try dsimp only at hSw); go_simp; (try with_reducible rfl))
                  (try simp only [Act.put, List.setIfInBounds_toArray, List.set_cons_zero, List.set_cons_succ])
                  refine take_yes (i := 7) (v := ?_) rfl (by kernel_rfl) (by kernel_rfl) (by kernel_rfl) (fun _ _ _ h => h) (by rfl) ?_ hHeld ?_
                  rotate_left
                  · (intro w hSw; (try dsimp only at hSw); go_simp; (try with_reducible rfl))
                  (try simp only [Act.put, List.setIfInBounds_toArray, List.set_cons_zero, List.set_cons_succ])
                  refine take_yes (i := 8) (v := ?_) rfl (by kernel_rfl) (by kernel_rfl) (by kernel_rfl) (fun _ _ _ h => h) (by rfl) ?_ hHeld ?_
                  rotate_left
                  · (intro w hSw; (try dsimp only at hSw); go_simp; (try with_reducible rfl))
                  (try simp only [Act.put, List.setIfInBounds_toArray, List.set_cons_zero, List.set_cons_succ])
                  refine take_yes (i := 9) (v := ?_) rfl (by kernel_rfl) (by kernel_rfl) (by kernel_rfl) (fun _ _ _ h => h) (by rfl) ?_ hHeld ?_
                  rotate_left
                  · (intro w hSw; (try dsimp only at hSw); go_simp; (try with_reducible rfl))
                  (try simp only [Act.put, List.setIfInBounds_toArray, List.set_cons_zero, List.set_cons_succ])
                  refine take_yes (i := 10) (v := ?_) rfl (by kernel_rfl) (by kernel_rfl) (by kernel_rfl) (fun _ _ _ h => h) (by rfl) ?_ hHeld ?_
                  rotate_left
                  · (intro w hSw; (try dsimp only at hSw); go_simp; (try with_reducible rfl))
                  (try simp only [Act.put, List.setIfInBounds_toArray, List.set_cons_zero, List.set_cons_succ])
                  refine take_yes (i := 11) (v := ?_) rfl (by kernel_rfl) (by kernel_rfl) (by kernel_rfl) (fun _ _ _ h => h) (by rfl) ?_ hHeld ?_
                  rotate_left
                  · (intro w hSw; (try dsimp only at hSw); go_simp; (try with_reducible rfl))
                  (try simp only [Act.put, List.setIfInBounds_toArray, List.set_cons_zero, List.set_cons_succ])
                  refine take_no (i := 12) rfl (by kernel_rfl) (by kernel_rfl) (by kernel_rfl) (fun _ _ _ h => h) (by rfl) hHeld ?_
                  (try simp only [Act.put, List.setIfInBounds_toArray, List.set_cons_zero, List.set_cons_succ])
                  refine take_no (i := 13) rfl (by kernel_rfl) (by kernel_rfl) (by kernel_rfl) (fun _ _ _ h => h) (by rfl) hHeld ?_
                  (try simp only [Act.put, List.setIfInBounds_toArray, List.set_cons_zero, List.set_cons_succ])
                  refine take_no (i := 14) rfl (by kernel_rfl) (by kernel_rfl) (by kernel_rfl) (fun _ _ _ h => h) (by rfl) hHeld ?_
                  (try simp only [Act.put, List.setIfInBounds_toArray, List.set_cons_zero, List.set_cons_succ])
                  refine take_no (i := 15) rfl (by kernel_rfl) (by kernel_rfl) (by kernel_rfl) (fun _ _ _ h => h) (by rfl) hHeld ?_
                  (try simp only [Act.put, List.setIfInBounds_toArray, List.set_cons_zero, List.set_cons_succ])
                  refine take_no (i := 16) rfl (by kernel_rfl) (by kernel_rfl) (by kernel_rfl) (fun _ _ _ h => h) (by rfl) hHeld ?_
                  (try simp only [Act.put, List.setIfInBounds_toArray, List.set_cons_zero, List.set_cons_succ])
                  refine take_no (i := 17) rfl (by kernel_rfl) (by kernel_rfl) (by kernel_rfl) (fun _ _ _ h => h) (by rfl) hHeld ?_
                  (try simp only [Act.put, List.setIfInBounds_toArray, List.set_cons_zero, List.set_cons_succ])
                  refine take_no (i := 18) rfl (by kernel_rfl) (by kernel_rfl) (by kernel_rfl) (fun _ _ _ h => h) (by rfl) hHeld ?_
                  (try simp only [Act.put, List.setIfInBounds_toArray, List.set_cons_zero, List.set_cons_succ])
                  refine take_no (i := 19) rfl (by kernel_rfl) (by kernel_rfl) (by kernel_rfl) (fun _ _ _ h => h) (by rfl) hHeld ?_
                  (try simp only [Act.put, List.setIfInBounds_toArray, List.set_cons_zero, List.set_cons_succ])
                  refine take_no (i := 20) rfl (by kernel_rfl) (by kernel_rfl) (by kernel_rfl) (fun _ _ _ h => h) (by rfl) hHeld ?_
                  (try simp only [Act.put, List.setIfInBounds_toArray, List.set_cons_zero, List.set_cons_succ])
                  refine take_no (i := 21) rfl (by kernel_rfl) (by kernel_rfl) (by kernel_rfl) (fun _ _ _ h => h) (by rfl) hHeld ?_
                  (try simp only [Act.put, List.setIfInBounds_toArray, List.set_cons_zero, List.set_cons_succ])
                  refine take_no (i := 22) rfl (by kernel_rfl) (by kernel_rfl) (by kernel_rfl) (fun _ _ _ h => h) (by rfl) hHeld ?_
                  (try simp only [Act.put, List.setIfInBounds_toArray, List.set_cons_zero, List.set_cons_succ])
                  refine take_no (i := 23) rfl (by kernel_rfl) (by kernel_rfl) (by kernel_rfl) (fun _ _ _ h => h) (by rfl) hHeld ?_
                  (try simp only [Act.put, List.setIfInBounds_toArray, List.set_cons_zero, List.set_cons_succ])
                  refine take_yes (i := 24) (v := ?_) rfl (by kernel_rfl) (by kernel_rfl) (by kernel_rfl) (fun _ _ _ h => h) (by rfl) ?_ hHeld ?_
                  rotate_left
                  · (intro w hSw; (try dsimp only at hSw); go_simp; (try with_reducible rfl))
                  (try simp only [Act.put, List.setIfInBounds_toArray, List.set_cons_zero, List.set_cons_succ])
                  refine take_yes (i := 25) (v := ?_) rfl (by kernel_rfl) (by kernel_rfl) (by kernel_rfl) (fun _ _ _ h => h) (by rfl) ?_ hHeld ?_
                  rotate_left
                  · (intro w hSw; (try dsimp only at hSw); go_simp; (try with_reducible rfl))
                  (try simp only [Act.put, List.setIfInBounds_toArray, List.set_cons_zero, List.set_cons_succ])
                  refine wpAnyH_done (by kernel_rfl) ?_ _
                  go_wp2
                  go_roundw
                  case rel => exact ⟨0 + 1, by omega, by go_num, HOK.out.succ hlt (HBB.out (by simp)), hbf⟩
                  case measure => simp [intOf]; omega
              · obtain ⟨q, rfl⟩ : ∃ q, j = q + 1 := ⟨j - 1, by omega⟩
                have hq1 : q < ks.length := by have := HKL.out; omega
                have hq2 : q + 1 < ks.length := by have := HKL.out; omega
                obtain ⟨bk, ok, rfl, hbk, k0⟩ := g1.str q hq1
                obtain ⟨bk', ok', ea, _, k1⟩ := g1.str (q + 1) hq2
                injection ea with ea
                injection ea with ea1 ea2
                subst ea1 ea2
                have hbkl := hB bk hbk
                rw [← hlw.cell (by exact hbkl)] at k0 k1
                have hbkw : bk < wr.heap.size := by omega
                clear hz
                have hz0 : (0 : Int) ≤ (q : Int) := by omega
                have hz1 : (q : Int) < (ks.length : Int) := by omega
                have hz2 : (0 : Int) ≤ (q : Int) + 1 := by omega
                have hz3 : (q : Int) + 1 < (ks.length : Int) := by omega
                have hwq : IntKind.i64.wrap (q : Int) = (q : Int) := IntWalk.i64_in _ (by omega)
                have hX0 := (Blk.new wr 36 #[.int .i64 l[q + 1].kind, .string l[q + 1].text, .slice S1 l[q + 1].keys.length e1, .slice S2 l[q + 1].kids.length e2]).drew
                have hxw := (hxr.alloc (.cells #[.int .i64 l[q + 1].kind, .string l[q + 1].text, .slice S1 l[q + 1].keys.length e1, .slice S2 l[q + 1].kids.length e2] 36)).drew
                have hW0 : Below w.heap.size w (wr.alloc (.cells #[.int .i64 l[q + 1].kind, .string l[q + 1].text, .slice S1 l[q + 1].keys.length e1, .slice S2 l[q + 1].kids.length e2] 36)).drew := (hlw.alloc hlw.size _).drew
                have hbW : Below wc.heap.size wc (wr.alloc (.cells #[.int .i64 l[q + 1].kind, .string l[q + 1].text, .slice S1 l[q + 1].keys.length e1, .slice S2 l[q + 1].kids.length e2] 36)).drew := (hb.alloc hsz _).drew
                have hx0' := hxw.cell 0
                simp at hx0'
                have hx2' := hxw.cell 2
                simp at hx2'
                have hS0 : (fun w' => ((w'.cell? ⟨wr.heap.size, 0, none⟩ = some (.int .i64 l[q + 1].kind) ∧ w'.cell? ⟨wr.heap.size, 1, none⟩ = some (.string l[q + 1].text) ∧ w'.cell? ⟨wr.heap.size, 2, none⟩ = some (.slice S1 l[q + 1].keys.length e1) ∧ w'.cell? ⟨wr.heap.size, 3, none⟩ = some (.slice S2 l[q + 1].kids.length e2)) ∧ (w'.cell? ⟨w.heap.size, 0, none⟩ = some (.int .i64 6))) ∧ (w'.cell? ⟨w.heap.size, 2, none⟩ = some (.slice (some ⟨bk, ok, none⟩) ks.length d1) ∧ w'.cell? ⟨bk, ok + q, none⟩ = some (.string ks[q]) ∧ w'.cell? ⟨bk, ok + (q + 1), none⟩ = some (.string ks[q + 1]))) (wr.alloc (.cells #[.int .i64 l[q + 1].kind, .string l[q + 1].text, .slice S1 l[q + 1].keys.length e1, .slice S2 l[q + 1].kids.length e2] 36)).drew := ⟨⟨⟨hX0.cell 0, hX0.cell 1, hX0.cell 2, hX0.cell 3⟩, hx0'⟩, hx2', cell_of ((Below.refl wr.heap.size wr).alloc (Nat.le_refl _) _).drew hbkw k0, cell_of ((Below.refl wr.heap.size wr).alloc (Nat.le_refl _) _).drew hbkw k1⟩
                have hk : ∀ W1, Below (wr.alloc (.cells #[.int .i64 l[q + 1].kind, .string l[q + 1].text, .slice S1 l[q + 1].keys.length e1, .slice S2 l[q + 1].kids.length e2] 36)).drew.heap.size (wr.alloc (.cells #[.int .i64 l[q + 1].kind, .string l[q + 1].text, .slice S1 l[q + 1].keys.length e1, .slice S2 l[q + 1].kids.length e2] 36)).drew W1 → (fun w' => ((w'.cell? ⟨wr.heap.size, 0, none⟩ = some (.int .i64 l[q + 1].kind) ∧ w'.cell? ⟨wr.heap.size, 1, none⟩ = some (.string l[q + 1].text) ∧ w'.cell? ⟨wr.heap.size, 2, none⟩ = some (.slice S1 l[q + 1].keys.length e1) ∧ w'.cell? ⟨wr.heap.size, 3, none⟩ = some (.slice S2 l[q + 1].kids.length e2)) ∧ (w'.cell? ⟨w.heap.size, 0, none⟩ = some (.int .i64 6))) ∧ (w'.cell? ⟨w.heap.size, 2, none⟩ = some (.slice (some ⟨bk, ok, none⟩) ks.length d1) ∧ w'.cell? ⟨bk, ok + q, none⟩ = some (.string ks[q]) ∧ w'.cell? ⟨bk, ok + (q + 1), none⟩ = some (.string ks[q + 1]))) W1 := fun W1 h1 => ⟨⟨⟨cell_of h1 hX0.lt hS0.1.1.1, cell_of h1 hX0.lt hS0.1.1.2.1, cell_of h1 hX0.lt hS0.1.1.2.2.1, cell_of h1 hX0.lt hS0.1.1.2.2.2⟩, cell_of h1 hxw.lt hS0.1.2⟩, cell_of h1 hxw.lt hS0.2.1, cell_of h1 (by simp; omega) hS0.2.2.1, cell_of h1 (by simp; omega) hS0.2.2.2⟩
                clear k0 k1 hx0' hx2'
                go_wp2_with fail
                refine wp_region_held_drew (S := (fun w' => ((w'.cell? ⟨wr.heap.size, 0, none⟩ = some (.int .i64 l[q + 1].kind) ∧ w'.cell? ⟨wr.heap.size, 1, none⟩ = some (.string l[q + 1].text) ∧ w'.cell? ⟨wr.heap.size, 2, none⟩ = some (.slice S1 l[q + 1].keys.length e1) ∧ w'.cell? ⟨wr.heap.size, 3, none⟩ = some (.slice S2 l[q + 1].kids.length e2)) ∧ (w'.cell? ⟨w.heap.size, 0, none⟩ = some (.int .i64 6))) ∧ (w'.cell? ⟨w.heap.size, 2, none⟩ = some (.slice (some ⟨bk, ok, none⟩) ks.length d1) ∧ w'.cell? ⟨bk, ok + q, none⟩ = some (.string ks[q]) ∧ w'.cell? ⟨bk, ok + (q + 1), none⟩ = some (.string ks[q + 1])))) (by kernel_rfl) (hS0) (fun hHeld => ?_)
                refine take_yes (i := 0) (v := ?_) rfl (by kernel_rfl) (by kernel_rfl) (by kernel_rfl) (fun _ _ _ h => h) (by rfl) ?_ hHeld ?_
                rotate_left
                · (intro w hSw; (try dsimp only at hSw); go_simp; (try with_reducible rfl))
                (try simp only [Act.put, List.setIfInBounds_toArray, List.set_cons_zero, List.set_cons_succ])
                refine take_step (i := 1) rfl (by kernel_rfl) (fun K hK => ?_)
                go_simp
                (go_at_call 20; refine (hc _ hW0).mono ?_; rintro e w2 ⟨bb, rfl, hbb2, hb2⟩; have HBB := Lib.hid hbb2; clear hbb2; have hS1 := hk _ hb2; have hlf := hW0.trans (hb2.mono hW0.size); have hbf := hbW.trans (hb2.mono hbW.size))
                (try go_wp2_with fail)
                refine hK.out _ _ (hS1) (fun hHeld => ?_)
                clear hK K
                (try simp only [Act.put, List.setIfInBounds_toArray, List.set_cons_zero, List.set_cons_succ])
                clear hc hk hS0 hS1
                cases bb with
                | false =>
                  refine take_yes (i := 2) (v := ?_) rfl (by kernel_rfl) (by kernel_rfl) (by kernel_rfl) (fun _ _ _ h => h) (by rfl) ?_ hHeld ?_
                  rotate_left
                  · (intro w hSw; (try dsimp only at hSw); go_simp; (try with_reducible rfl))
                  (try simp only [Act.put, List.setIfInBounds_toArray, List.set_cons_zero, List.set_cons_succ])
                  refine take_yes (i := 3) (v := ?_) rfl (by kernel_rfl) (by kernel_rfl) (by kernel_rfl) (fun _ _ _ h => h) (by rfl) ?_ hHeld ?_
                  rotate_left
                  · (intro w hSw; (try dsimp only at hSw); go_simp; (try with_reducible rfl))
                  (try simp only [Act.put, List.setIfInBounds_toArray, List.set_cons_zero, List.set_cons_succ])
                  refine take_no (i := 4) rfl (by kernel_rfl) (by kernel_rfl) (by kernel_rfl) (fun _ _ _ h => h) (by rfl) hHeld ?_
                  (try simp only [Act.put, List.setIfInBounds_toArray, List.set_cons_zero, List.set_cons_succ])
                  refine take_no (i := 5) rfl (by kernel_rfl) (by kernel_rfl) (by kernel_rfl) (fun _ _ _ h => h) (by rfl) hHeld ?_
                  (try simp only [Act.put, List.setIfInBounds_toArray, List.set_cons_zero, List.set_cons_succ])
                  refine take_no (i := 6) rfl (by kernel_rfl) (by kernel_rfl) (by kernel_rfl) (fun _ _ _ h => h) (by rfl) hHeld ?_
                  (try simp only [Act.put, List.setIfInBounds_toArray, List.set_cons_zero, List.set_cons_succ])
                  refine take_no (i := 7) rfl (by kernel_rfl) (by kernel_rfl) (by kernel_rfl) (fun _ _ _ h => h) (by rfl) hHeld ?_
                  (try simp only [Act.put, List.setIfInBounds_toArray, List.set_cons_zero, List.set_cons_succ])
                  refine take_no (i := 8) rfl (by kernel_rfl) (by kernel_rfl) (by kernel_rfl) (fun _ _ _ h => h) (by rfl) hHeld ?_
                  (try simp only [Act.put, List.setIfInBounds_toArray, List.set_cons_zero, List.set_cons_succ])
                  refine take_no (i := 9) rfl (by kernel_rfl) (by kernel_rfl) (by kernel_rfl) (fun _ _ _ h => h) (by rfl) hHeld ?_
                  (try simp only [Act.put, List.setIfInBounds_toArray, List.set_cons_zero, List.set_cons_succ])
                  refine take_no (i := 10) rfl (by kernel_rfl) (by kernel_rfl) (by kernel_rfl) (fun _ _ _ h => h) (by rfl) hHeld ?_
                  (try simp only [Act.put, List.setIfInBounds_toArray, List.set_cons_zero, List.set_cons_succ])
                  refine take_no (i := 11) rfl (by kernel_rfl) (by kernel_rfl) (by kernel_rfl) (fun _ _ _ h => h) (by rfl) hHeld ?_
                  (try simp only [Act.put, List.setIfInBounds_toArray, List.set_cons_zero, List.set_cons_succ])
                  refine take_no (i := 12) rfl (by kernel_rfl) (by kernel_rfl) (by kernel_rfl) (fun _ _ _ h => h) (by rfl) hHeld ?_
                  (try simp only [Act.put, List.setIfInBounds_toArray, List.set_cons_zero, List.set_cons_succ])
                  refine take_no (i := 13) rfl (by kernel_rfl) (by kernel_rfl) (by kernel_rfl) (fun _ _ _ h => h) (by rfl) hHeld ?_
                  (try simp only [Act.put, List.setIfInBounds_toArray, List.set_cons_zero, List.set_cons_succ])
                  refine take_no (i := 14) rfl (by kernel_rfl) (by kernel_rfl) (by kernel_rfl) (fun _ _ _ h => h) (by rfl) hHeld ?_
                  (try simp only [Act.put, List.setIfInBounds_toArray, List.set_cons_zero, List.set_cons_succ])
                  refine take_no (i := 15) rfl (by kernel_rfl) (by kernel_rfl) (by kernel_rfl) (fun _ _ _ h => h) (by rfl) hHeld ?_
                  (try simp only [Act.put, List.setIfInBounds_toArray, List.set_cons_zero, List.set_cons_succ])
                  refine take_no (i := 16) rfl (by kernel_rfl) (by kernel_rfl) (by kernel_rfl) (fun _ _ _ h => h) (by rfl) hHeld ?_
                  (try simp only [Act.put, List.setIfInBounds_toArray, List.set_cons_zero, List.set_cons_succ])
                  refine take_no (i := 17) rfl (by kernel_rfl) (by kernel_rfl) (by kernel_rfl) (fun _ _ _ h => h) (by rfl) hHeld ?_
                  (try simp only [Act.put, List.setIfInBounds_toArray, List.set_cons_zero, List.set_cons_succ])
                  refine take_no (i := 18) rfl (by kernel_rfl) (by kernel_rfl) (by kernel_rfl) (fun _ _ _ h => h) (by rfl) hHeld ?_
                  (try simp only [Act.put, List.setIfInBounds_toArray, List.set_cons_zero, List.set_cons_succ])
                  refine take_no (i := 19) rfl (by kernel_rfl) (by kernel_rfl) (by kernel_rfl) (fun _ _ _ h => h) (by rfl) hHeld ?_
                  (try simp only [Act.put, List.setIfInBounds_toArray, List.set_cons_zero, List.set_cons_succ])
                  refine take_no (i := 20) rfl (by kernel_rfl) (by kernel_rfl) (by kernel_rfl) (fun _ _ _ h => h) (by rfl) hHeld ?_
                  (try simp only [Act.put, List.setIfInBounds_toArray, List.set_cons_zero, List.set_cons_succ])
                  refine take_no (i := 21) rfl (by kernel_rfl) (by kernel_rfl) (by kernel_rfl) (fun _ _ _ h => h) (by rfl) hHeld ?_
                  (try simp only [Act.put, List.setIfInBounds_toArray, List.set_cons_zero, List.set_cons_succ])
                  refine take_no (i := 22) rfl (by kernel_rfl) (by kernel_rfl) (by kernel_rfl) (fun _ _ _ h => h) (by rfl) hHeld ?_
                  (try simp only [Act.put, List.setIfInBounds_toArray, List.set_cons_zero, List.set_cons_succ])
                  refine take_no (i := 23) rfl (by kernel_rfl) (by kernel_rfl) (by kernel_rfl) (fun _ _ _ h => h) (by rfl) hHeld ?_
                  (try simp only [Act.put, List.setIfInBounds_toArray, List.set_cons_zero, List.set_cons_succ])
                  refine take_no (i := 24) rfl (by kernel_rfl) (by kernel_rfl) (by kernel_rfl) (fun _ _ _ h => h) (by rfl) hHeld ?_
                  (try simp only [Act.put, List.setIfInBounds_toArray, List.set_cons_zero, List.set_cons_succ])
                  refine take_yes (i := 25) (v := ?_) rfl (by kernel_rfl) (by kernel_rfl) (by kernel_rfl) (fun _ _ _ h => h) (by rfl) ?_ hHeld ?_
                  rotate_left
                  · (intro w hSw; (try dsimp only at hSw); go_simp; (try with_reducible rfl))
                  (try simp only [Act.put, List.setIfInBounds_toArray, List.set_cons_zero, List.set_cons_succ])
                  refine wpAnyH_done (by kernel_rfl) ?_ _
                  go_wp2
                  go_ret
                  exact ⟨false, rfl, (fun h => by cases h), hlf⟩
                | true =>
                  refine take_yes (i := 2) (v := ?_) rfl (by kernel_rfl) (by kernel_rfl) (by kernel_rfl) (fun _ _ _ h => h) (by rfl) ?_ hHeld ?_
                  rotate_left
                  · (intro w hSw; (try dsimp only at hSw); go_simp; (try with_reducible rfl))
                  (try simp only [Act.put, List.setIfInBounds_toArray, List.set_cons_zero, List.set_cons_succ])
                  refine take_yes (i := 3) (v := ?_) rfl (by kernel_rfl) (by kernel_rfl) (by kernel_rfl) (fun _ _ _ h => h) (by rfl) ?_ hHeld ?_
                  rotate_left
                  · (intro w hSw; (try dsimp only at hSw); go_simp; (try with_reducible rfl))
                  (try simp only [Act.put, List.setIfInBounds_toArray, List.set_cons_zero, List.set_cons_succ])
                  refine take_yes (i := 4) (v := ?_) rfl (by kernel_rfl) (by kernel_rfl) (by kernel_rfl) (fun _ _ _ h => h) (by rfl) ?_ hHeld ?_
                  rotate_left
                  · (intro w hSw; (try dsimp only at hSw); go_simp; (try with_reducible rfl))
                  (try simp only [Act.put, List.setIfInBounds_toArray, List.set_cons_zero, List.set_cons_succ])
                  refine take_yes (i := 5) (v := ?_) rfl (by kernel_rfl) (by kernel_rfl) (by kernel_rfl) (fun _ _ _ h => h) (by rfl) ?_ hHeld ?_
                  rotate_left
                  · (intro w hSw; (try dsimp only at hSw); go_simp; (try with_reducible rfl))
                  (try simp only [Act.put, List.setIfInBounds_toArray, List.set_cons_zero, List.set_cons_succ])
                  refine take_yes (i := 6) (v := ?_) rfl (by kernel_rfl) (by kernel_rfl) (by kernel_rfl) (fun _ _ _ h => h) (by rfl) ?_ hHeld ?_
                  rotate_left
                  · (intro w hSw; (try dsimp only at hSw); go_simp; (try with_reducible rfl))
                  (try simp only [Act.put, List.setIfInBounds_toArray, List.set_cons_zero, List.set_cons_succ])
                  refine take_yes (i := 7) (v := ?_) rfl (by kernel_rfl) (by kernel_rfl) (by kernel_rfl) (fun _ _ _ h => h) (by rfl) ?_ hHeld ?_
                  rotate_left
                  · (intro w hSw; (try dsimp only at hSw); go_simp; (try with_reducible rfl))
                  (try simp only [Act.put, List.setIfInBounds_toArray, List.set_cons_zero, List.set_cons_succ])
                  refine take_yes (i := 8) (v := ?_) rfl (by kernel_rfl) (by kernel_rfl) (by kernel_rfl) (fun _ _ _ h => h) (by rfl) ?_ hHeld ?_
                  rotate_left
                  · (intro w hSw; (try dsimp only at hSw); go_simp; (try with_reducible rfl))
                  (try simp only [Act.put, List.setIfInBounds_toArray, List.set_cons_zero, List.set_cons_succ])
                  refine take_yes (i := 9) (v := ?_) rfl (by kernel_rfl) (by kernel_rfl) (by kernel_rfl) (fun _ _ _ h => h) (by rfl) ?_ hHeld ?_
                  rotate_left
                  · (intro w hSw; (try dsimp only at hSw); go_simp; (try with_reducible rfl))
                  (try simp only [Act.put, List.setIfInBounds_toArray, List.set_cons_zero, List.set_cons_succ])
                  refine take_yes (i := 10) (v := ?_) rfl (by kernel_rfl) (by kernel_rfl) (by kernel_rfl) (fun _ _ _ h => h) (by rfl) ?_ hHeld ?_
                  rotate_left
                  · (intro w hSw; (try dsimp only at hSw); go_simp; (try with_reducible rfl))
                  (try simp only [Act.put, List.setIfInBounds_toArray, List.set_cons_zero, List.set_cons_succ])
                  refine take_yes (i := 11) (v := ?_) rfl (by kernel_rfl) (by kernel_rfl) (by kernel_rfl) (fun _ _ _ h => h) (by rfl) ?_ hHeld ?_
                  rotate_left
                  · (intro w hSw; (try dsimp only at hSw); go_simp; (try with_reducible rfl))
                  (try simp only [Act.put, List.setIfInBounds_toArray, List.set_cons_zero, List.set_cons_succ])
                  refine take_yes (i := 12) (v := ?_) rfl (by kernel_rfl) (by kernel_rfl) (by kernel_rfl) (fun _ _ _ h => h) (by rfl) ?_ hHeld ?_
                  rotate_left
                  · (intro w hSw; (try dsimp only at hSw); go_simp; (try with_reducible rfl))
                  (try simp only [Act.put, List.setIfInBounds_toArray, List.set_cons_zero, List.set_cons_succ])
                  refine take_yes (i := 13) (v := ?_) rfl (by kernel_rfl) (by kernel_rfl) (by kernel_rfl) (fun _ _ _ h => h) (by rfl) ?_ hHeld ?_
                  rotate_left
                  · (intro w hSw; (try dsimp only at hSw); go_simp; (try with_reducible rfl))
                  (try simp only [Act.put, List.setIfInBounds_toArray, List.set_cons_zero, List.set_cons_succ])
                  refine take_yes (i := 14) (v := ?_) rfl (by kernel_rfl) (by kernel_rfl) (by kernel_rfl) (fun _ _ _ h => h) (by rfl) ?_ hHeld ?_
                  rotate_left
                  · (intro w hSw; (try dsimp only at hSw); go_simp; (try with_reducible rfl))
                  (try simp only [Act.put, List.setIfInBounds_toArray, List.set_cons_zero, List.set_cons_succ])
                  refine take_yes (i := 15) (v := ?_) rfl (by kernel_rfl) (by kernel_rfl) (by kernel_rfl) (fun _ _ _ h => h) (by rfl) ?_ hHeld ?_
                  rotate_left
                  · (intro w hSw; (try dsimp only at hSw); go_simp; (try with_reducible rfl))
                  (try simp only [Act.put, List.setIfInBounds_toArray, List.set_cons_zero, List.set_cons_succ])
                  refine take_yes (i := 16) (v := ?_) rfl (by kernel_rfl) (by kernel_rfl) (by kernel_rfl) (fun _ _ _ h => h) (by rfl) ?_ hHeld ?_
                  rotate_left
                  · (intro w hSw; (try dsimp only at hSw); go_simp; (try with_reducible rfl))
                  (try simp only [Act.put, List.setIfInBounds_toArray, List.set_cons_zero, List.set_cons_succ])
                  refine take_yes (i := 17) (v := ?_) rfl (by kernel_rfl) (by kernel_rfl) (by kernel_rfl) (fun _ _ _ h => h) (by rfl) ?_ hHeld ?_
                  rotate_left
                  · (intro w hSw; (try dsimp only at hSw); go_simp; (try with_reducible rfl))
                  (try simp only [Act.put, List.setIfInBounds_toArray, List.set_cons_zero, List.set_cons_succ])
                  refine take_yes (i := 18) (v := ?_) rfl (by kernel_rfl) (by kernel_rfl) (by kernel_rfl) (fun _ _ _ h => h) (by rfl) ?_ hHeld ?_
                  rotate_left
                  · (intro w hSw; (try dsimp only at hSw); go_simp; (try with_reducible rfl))
                  (try simp only [Act.put, List.setIfInBounds_toArray, List.set_cons_zero, List.set_cons_succ])
                  refine take_yes (i := 19) (v := ?_) rfl (by kernel_rfl) (by kernel_rfl) (by kernel_rfl) (fun _ _ _ h => h) (by rfl) ?_ hHeld ?_
                  rotate_left
                  · (intro w hSw; (try dsimp only at hSw); go_simp; (try with_reducible rfl))
                  (try simp only [Act.put, List.setIfInBounds_toArray, List.set_cons_zero, List.set_cons_succ])
                  refine take_yes (i := 20) (v := ?_) rfl (by kernel_rfl) (by kernel_rfl) (by kernel_rfl) (fun _ _ _ h => h) (by rfl) ?_ hHeld ?_
                  rotate_left
                  · (intro w hSw; (try dsimp only at hSw); go_simp; (try with_reducible rfl))
                  (try simp only [Act.put, List.setIfInBounds_toArray, List.set_cons_zero, List.set_cons_succ])
                  refine take_yes (i := 21) (v := ?_) rfl (by kernel_rfl) (by kernel_rfl) (by kernel_rfl) (fun _ _ _ h => h) (by rfl) ?_ hHeld ?_
                  rotate_left
                  · (intro w hSw; (try dsimp only at hSw); go_simp; (try with_reducible rfl))
                  (try simp only [Act.put, List.setIfInBounds_toArray, List.set_cons_zero, List.set_cons_succ])
                  refine take_yes (i := 22) (v := ?_) rfl (by kernel_rfl) (by kernel_rfl) (by kernel_rfl) (fun _ _ _ h => h) (by rfl) ?_ hHeld ?_
                  rotate_left
                  · (intro w hSw; (try dsimp only at hSw); go_simp; (try with_reducible rfl))
                  (try simp only [Act.put, List.setIfInBounds_toArray, List.set_cons_zero, List.set_cons_succ])
                  refine take_yes (i := 23) (v := ?_) rfl (by kernel_rfl) (by kernel_rfl) (by kernel_rfl) (fun _ _ _ h => h) (by rfl) ?_ hHeld ?_
                  rotate_left
                  · (intro w hSw; (try dsimp only at hSw); go_simp; (try with_reducible rfl))
                  (try simp only [Act.put, List.setIfInBounds_toArray, List.set_cons_zero, List.set_cons_succ])
                  refine take_yes (i := 24) (v := ?_) rfl (by kernel_rfl) (by kernel_rfl) (by kernel_rfl) (fun _ _ _ h => h) (by rfl) ?_ hHeld ?_
                  rotate_left
                  · (intro w hSw; (try dsimp only at hSw); go_simp; (try with_reducible rfl))
                  (try simp only [Act.put, List.setIfInBounds_toArray, List.set_cons_zero, List.set_cons_succ])
                  refine take_yes (i := 25) (v := ?_) rfl (by kernel_rfl) (by kernel_rfl) (by kernel_rfl) (fun _ _ _ h => h) (by rfl) ?_ hHeld ?_
                  rotate_left
                  · (intro w hSw; (try dsimp only at hSw); go_simp; (try with_reducible rfl))
                  (try simp only [Act.put, List.setIfInBounds_toArray, List.set_cons_zero, List.set_cons_succ])
                  refine wpAnyH_done (by kernel_rfl) ?_ _
                  cases hbq : Op.bytesLess ks[q].toList ks[q + 1].toList
                  · go_wp2
                    go_ret
                    exact ⟨false, rfl, (fun h => by cases h), hlf⟩
                  · go_wp2
                    go_roundw
                    case rel => exact ⟨q + 1 + 1, by omega, by go_num, HOK.out.succ hlt (HBB.out (by simp)), hbf⟩
                    case measure => simp [intOf]; omega
            · have c6' : (k == 6) = false := by simpa using c6
              clear c6
              have hX0 := (Blk.new wr 36 #[.int .i64 l[j].kind, .string l[j].text, .slice S1 l[j].keys.length e1, .slice S2 l[j].kids.length e2]).drew
              have hxw := (hxr.alloc (.cells #[.int .i64 l[j].kind, .string l[j].text, .slice S1 l[j].keys.length e1, .slice S2 l[j].kids.length e2] 36)).drew
              have hW0 : Below w.heap.size w (wr.alloc (.cells #[.int .i64 l[j].kind, .string l[j].text, .slice S1 l[j].keys.length e1, .slice S2 l[j].kids.length e2] 36)).drew := (hlw.alloc hlw.size _).drew
              have hbW : Below wc.heap.size wc (wr.alloc (.cells #[.int .i64 l[j].kind, .string l[j].text, .slice S1 l[j].keys.length e1, .slice S2 l[j].kids.length e2] 36)).drew := (hb.alloc hsz _).drew
              have hx0' := hxw.cell 0
              simp at hx0'
              have hS0 : (fun w' => (w'.cell? ⟨wr.heap.size, 0, none⟩ = some (.int .i64 l[j].kind) ∧ w'.cell? ⟨wr.heap.size, 1, none⟩ = some (.string l[j].text) ∧ w'.cell? ⟨wr.heap.size, 2, none⟩ = some (.slice S1 l[j].keys.length e1) ∧ w'.cell? ⟨wr.heap.size, 3, none⟩ = some (.slice S2 l[j].kids.length e2)) ∧ (w'.cell? ⟨w.heap.size, 0, none⟩ = some (.int .i64 k))) (wr.alloc (.cells #[.int .i64 l[j].kind, .string l[j].text, .slice S1 l[j].keys.length e1, .slice S2 l[j].kids.length e2] 36)).drew := ⟨⟨hX0.cell 0, hX0.cell 1, hX0.cell 2, hX0.cell 3⟩, hx0'⟩
              have hk : ∀ W1, Below (wr.alloc (.cells #[.int .i64 l[j].kind, .string l[j].text, .slice S1 l[j].keys.length e1, .slice S2 l[j].kids.length e2] 36)).drew.heap.size (wr.alloc (.cells #[.int .i64 l[j].kind, .string l[j].text, .slice S1 l[j].keys.length e1, .slice S2 l[j].kids.length e2] 36)).drew W1 → (fun w' => (w'.cell? ⟨wr.heap.size, 0, none⟩ = some (.int .i64 l[j].kind) ∧ w'.cell? ⟨wr.heap.size, 1, none⟩ = some (.string l[j].text) ∧ w'.cell? ⟨wr.heap.size, 2, none⟩ = some (.slice S1 l[j].keys.length e1) ∧ w'.cell? ⟨wr.heap.size, 3, none⟩ = some (.slice S2 l[j].kids.length e2)) ∧ (w'.cell? ⟨w.heap.size, 0, none⟩ = some (.int .i64 k))) W1 := fun W1 h1 => ⟨⟨cell_of h1 hX0.lt hS0.1.1, cell_of h1 hX0.lt hS0.1.2.1, cell_of h1 hX0.lt hS0.1.2.2.1, cell_of h1 hX0.lt hS0.1.2.2.2⟩, cell_of h1 hxw.lt hS0.2⟩
              clear hx0'
              go_wp2_with fail
              refine wp_region_held_drew (S := (fun w' => (w'.cell? ⟨wr.heap.size, 0, none⟩ = some (.int .i64 l[j].kind) ∧ w'.cell? ⟨wr.heap.size, 1, none⟩ = some (.string l[j].text) ∧ w'.cell? ⟨wr.heap.size, 2, none⟩ = some (.slice S1 l[j].keys.length e1) ∧ w'.cell? ⟨wr.heap.size, 3, none⟩ = some (.slice S2 l[j].kids.length e2)) ∧ (w'.cell? ⟨w.heap.size, 0, none⟩ = some (.int .i64 k)))) (by kernel_rfl) (hS0) (fun hHeld => ?_)
              refine take_yes (i := 0) (v := ?_) rfl (by kernel_rfl) (by kernel_rfl) (by kernel_rfl) (fun _ _ _ h => h) (by rfl) ?_ hHeld ?_
              rotate_left
              · (intro w hSw; (try dsimp only at hSw); go_simp; (try with_reducible rfl))
              (try simp only [Act.put, List.setIfInBounds_toArray, List.set_cons_zero, List.set_cons_succ])
              refine take_step (i := 1) rfl (by kernel_rfl) (fun K hK => ?_)
              go_simp
              (go_at_call 20; refine (hc _ hW0).mono ?_; rintro e w2 ⟨bb, rfl, hbb2, hb2⟩; have HBB := Lib.hid hbb2; clear hbb2; have hS1 := hk _ hb2; have hlf := hW0.trans (hb2.mono hW0.size); have hbf := hbW.trans (hb2.mono hbW.size))
              (try go_wp2_with fail)
              refine hK.out _ _ (hS1) (fun hHeld => ?_)
              clear hK K
              (try simp only [Act.put, List.setIfInBounds_toArray, List.set_cons_zero, List.set_cons_succ])
              clear hc hk hS0 hS1
              cases bb with
              | false =>
                refine take_yes (i := 2) (v := ?_) rfl (by kernel_rfl) (by kernel_rfl) (by kernel_rfl) (fun _ _ _ h => h) (by rfl) ?_ hHeld ?_
                rotate_left
                · (intro w hSw; (try dsimp only at hSw); go_simp; (try with_reducible rfl))
                (try simp only [Act.put, List.setIfInBounds_toArray, List.set_cons_zero, List.set_cons_succ])
                refine take_yes (i := 3) (v := ?_) rfl (by kernel_rfl) (by kernel_rfl) (by kernel_rfl) (fun _ _ _ h => h) (by rfl) ?_ hHeld ?_
                rotate_left
                · (intro w hSw; (try dsimp only at hSw); go_simp; (try with_reducible rfl))
                (try simp only [Act.put, List.setIfInBounds_toArray, List.set_cons_zero, List.set_cons_succ])
                refine take_no (i := 4) rfl (by kernel_rfl) (by kernel_rfl) (by kernel_rfl) (fun _ _ _ h => h) (by rfl) hHeld ?_
                (try simp only [Act.put, List.setIfInBounds_toArray, List.set_cons_zero, List.set_cons_succ])
                refine take_no (i := 5) rfl (by kernel_rfl) (by kernel_rfl) (by kernel_rfl) (fun _ _ _ h => h) (by rfl) hHeld ?_
                (try simp only [Act.put, List.setIfInBounds_toArray, List.set_cons_zero, List.set_cons_succ])
                refine take_no (i := 6) rfl (by kernel_rfl) (by kernel_rfl) (by kernel_rfl) (fun _ _ _ h => h) (by rfl) hHeld ?_
                (try simp only [Act.put, List.setIfInBounds_toArray, List.set_cons_zero, List.set_cons_succ])
                refine take_no (i := 7) rfl (by kernel_rfl) (by kernel_rfl) (by kernel_rfl) (fun _ _ _ h => h) (by rfl) hHeld ?_
                (try simp only [Act.put, List.setIfInBounds_toArray, List.set_cons_zero, List.set_cons_succ])
                refine take_no (i := 8) rfl (by kernel_rfl) (by kernel_rfl) (by kernel_rfl) (fun _ _ _ h => h) (by rfl) hHeld ?_
                (try simp only [Act.put, List.setIfInBounds_toArray, List.set_cons_zero, List.set_cons_succ])
                refine take_no (i := 9) rfl (by kernel_rfl) (by kernel_rfl) (by kernel_rfl) (fun _ _ _ h => h) (by rfl) hHeld ?_
                (try simp only [Act.put, List.setIfInBounds_toArray, List.set_cons_zero, List.set_cons_succ])
                refine take_no (i := 10) rfl (by kernel_rfl) (by kernel_rfl) (by kernel_rfl) (fun _ _ _ h => h) (by rfl) hHeld ?_
                (try simp only [Act.put, List.setIfInBounds_toArray, List.set_cons_zero, List.set_cons_succ])
                refine take_no (i := 11) rfl (by kernel_rfl) (by kernel_rfl) (by kernel_rfl) (fun _ _ _ h => h) (by rfl) hHeld ?_
                (try simp only [Act.put, List.setIfInBounds_toArray, List.set_cons_zero, List.set_cons_succ])
                refine take_no (i := 12) rfl (by kernel_rfl) (by kernel_rfl) (by kernel_rfl) (fun _ _ _ h => h) (by rfl) hHeld ?_
                (try simp only [Act.put, List.setIfInBounds_toArray, List.set_cons_zero, List.set_cons_succ])
                refine take_no (i := 13) rfl (by kernel_rfl) (by kernel_rfl) (by kernel_rfl) (fun _ _ _ h => h) (by rfl) hHeld ?_
                (try simp only [Act.put, List.setIfInBounds_toArray, List.set_cons_zero, List.set_cons_succ])
                refine take_no (i := 14) rfl (by kernel_rfl) (by kernel_rfl) (by kernel_rfl) (fun _ _ _ h => h) (by rfl) hHeld ?_
                (try simp only [Act.put, List.setIfInBounds_toArray, List.set_cons_zero, List.set_cons_succ])
                refine take_no (i := 15) rfl (by kernel_rfl) (by kernel_rfl) (by kernel_rfl) (fun _ _ _ h => h) (by rfl) hHeld ?_
                (try simp only [Act.put, List.setIfInBounds_toArray, List.set_cons_zero, List.set_cons_succ])
                refine take_no (i := 16) rfl (by kernel_rfl) (by kernel_rfl) (by kernel_rfl) (fun _ _ _ h => h) (by rfl) hHeld ?_
                (try simp only [Act.put, List.setIfInBounds_toArray, List.set_cons_zero, List.set_cons_succ])
                refine take_no (i := 17) rfl (by kernel_rfl) (by kernel_rfl) (by kernel_rfl) (fun _ _ _ h => h) (by rfl) hHeld ?_
                (try simp only [Act.put, List.setIfInBounds_toArray, List.set_cons_zero, List.set_cons_succ])
                refine take_no (i := 18) rfl (by kernel_rfl) (by kernel_rfl) (by kernel_rfl) (fun _ _ _ h => h) (by rfl) hHeld ?_
                (try simp only [Act.put, List.setIfInBounds_toArray, List.set_cons_zero, List.set_cons_succ])
                refine take_no (i := 19) rfl (by kernel_rfl) (by kernel_rfl) (by kernel_rfl) (fun _ _ _ h => h) (by rfl) hHeld ?_
                (try simp only [Act.put, List.setIfInBounds_toArray, List.set_cons_zero, List.set_cons_succ])
                refine take_no (i := 20) rfl (by kernel_rfl) (by kernel_rfl) (by kernel_rfl) (fun _ _ _ h => h) (by rfl) hHeld ?_
                (try simp only [Act.put, List.setIfInBounds_toArray, List.set_cons_zero, List.set_cons_succ])
                refine take_no (i := 21) rfl (by kernel_rfl) (by kernel_rfl) (by kernel_rfl) (fun _ _ _ h => h) (by rfl) hHeld ?_
                (try simp only [Act.put, List.setIfInBounds_toArray, List.set_cons_zero, List.set_cons_succ])
                refine take_no (i := 22) rfl (by kernel_rfl) (by kernel_rfl) (by kernel_rfl) (fun _ _ _ h => h) (by rfl) hHeld ?_
                (try simp only [Act.put, List.setIfInBounds_toArray, List.set_cons_zero, List.set_cons_succ])
                refine take_no (i := 23) rfl (by kernel_rfl) (by kernel_rfl) (by kernel_rfl) (fun _ _ _ h => h) (by rfl) hHeld ?_
                (try simp only [Act.put, List.setIfInBounds_toArray, List.set_cons_zero, List.set_cons_succ])
                refine take_no (i := 24) rfl (by kernel_rfl) (by kernel_rfl) (by kernel_rfl) (fun _ _ _ h => h) (by rfl) hHeld ?_
                (try simp only [Act.put, List.setIfInBounds_toArray, List.set_cons_zero, List.set_cons_succ])
                refine take_yes (i := 25) (v := ?_) rfl (by kernel_rfl) (by kernel_rfl) (by kernel_rfl) (fun _ _ _ h => h) (by rfl) ?_ hHeld ?_
                rotate_left
                · (intro w hSw; (try dsimp only at hSw); go_simp; (try with_reducible rfl))
                (try simp only [Act.put, List.setIfInBounds_toArray, List.set_cons_zero, List.set_cons_succ])
                refine wpAnyH_done (by kernel_rfl) ?_ _
                go_wp2
                go_ret
                exact ⟨false, rfl, (fun h => by cases h), hlf⟩
              | true =>
                refine take_yes (i := 2) (v := ?_) rfl (by kernel_rfl) (by kernel_rfl) (by kernel_rfl) (fun _ _ _ h => h) (by rfl) ?_ hHeld ?_
                rotate_left
                · (intro w hSw; (try dsimp only at hSw); go_simp; (try with_reducible rfl))
                (try simp only [Act.put, List.setIfInBounds_toArray, List.set_cons_zero, List.set_cons_succ])
                refine take_yes (i := 3) (v := ?_) rfl (by kernel_rfl) (by kernel_rfl) (by kernel_rfl) (fun _ _ _ h => h) (by rfl) ?_ hHeld ?_
                rotate_left
                · (intro w hSw; (try dsimp only at hSw); go_simp; (try with_reducible rfl))
                (try simp only [Act.put, List.setIfInBounds_toArray, List.set_cons_zero, List.set_cons_succ])
                refine take_yes (i := 4) (v := ?_) rfl (by kernel_rfl) (by kernel_rfl) (by kernel_rfl) (fun _ _ _ h => h) (by rfl) ?_ hHeld ?_
                rotate_left
                · (intro w hSw; (try dsimp only at hSw); go_simp; (try with_reducible rfl))
                (try simp only [Act.put, List.setIfInBounds_toArray, List.set_cons_zero, List.set_cons_succ])
                refine take_yes (i := 5) (v := ?_) rfl (by kernel_rfl) (by kernel_rfl) (by kernel_rfl) (fun _ _ _ h => h) (by rfl) ?_ hHeld ?_
                rotate_left
                · (intro w hSw; (try dsimp only at hSw); go_simp; (try with_reducible rfl))
                (try simp only [Act.put, List.setIfInBounds_toArray, List.set_cons_zero, List.set_cons_succ])
                refine take_yes (i := 6) (v := ?_) rfl (by kernel_rfl) (by kernel_rfl) (by kernel_rfl) (fun _ _ _ h => h) (by rfl) ?_ hHeld ?_
                rotate_left
                · (intro w hSw; (try dsimp only at hSw); go_simp; (try with_reducible rfl))
                (try simp only [Act.put, List.setIfInBounds_toArray, List.set_cons_zero, List.set_cons_succ])
                refine take_yes (i := 7) (v := ?_) rfl (by kernel_rfl) (by kernel_rfl) (by kernel_rfl) (fun _ _ _ h => h) (by rfl) ?_ hHeld ?_
                rotate_left
                · (intro w hSw; (try dsimp only at hSw); go_simp; (try with_reducible rfl))
                (try simp only [Act.put, List.setIfInBounds_toArray, List.set_cons_zero, List.set_cons_succ])
                refine take_no (i := 8) rfl (by kernel_rfl) (by kernel_rfl) (by kernel_rfl) (fun _ _ _ h => h) (by rfl) hHeld ?_
                (try simp only [Act.put, List.setIfInBounds_toArray, List.set_cons_zero, List.set_cons_succ])
                refine take_no (i := 9) rfl (by kernel_rfl) (by kernel_rfl) (by kernel_rfl) (fun _ _ _ h => h) (by rfl) hHeld ?_
                (try simp only [Act.put, List.setIfInBounds_toArray, List.set_cons_zero, List.set_cons_succ])
                refine take_yes (i := 10) (v := ?_) rfl (by kernel_rfl) (by kernel_rfl) (by kernel_rfl) (fun _ _ _ h => h) (by rfl) ?_ hHeld ?_
                rotate_left
                · (intro w hSw; (try dsimp only at hSw); go_simp; (try with_reducible rfl))
                (try simp only [Act.put, List.setIfInBounds_toArray, List.set_cons_zero, List.set_cons_succ])
                refine take_yes (i := 11) (v := ?_) rfl (by kernel_rfl) (by kernel_rfl) (by kernel_rfl) (fun _ _ _ h => h) (by rfl) ?_ hHeld ?_
                rotate_left
                · (intro w hSw; (try dsimp only at hSw); go_simp; (try with_reducible rfl))
                (try simp only [Act.put, List.setIfInBounds_toArray, List.set_cons_zero, List.set_cons_succ])
                refine take_no (i := 12) rfl (by kernel_rfl) (by kernel_rfl) (by kernel_rfl) (fun _ _ _ h => h) (by rfl) hHeld ?_
                (try simp only [Act.put, List.setIfInBounds_toArray, List.set_cons_zero, List.set_cons_succ])
                refine take_no (i := 13) rfl (by kernel_rfl) (by kernel_rfl) (by kernel_rfl) (fun _ _ _ h => h) (by rfl) hHeld ?_
                (try simp only [Act.put, List.setIfInBounds_toArray, List.set_cons_zero, List.set_cons_succ])
                refine take_no (i := 14) rfl (by kernel_rfl) (by kernel_rfl) (by kernel_rfl) (fun _ _ _ h => h) (by rfl) hHeld ?_
                (try simp only [Act.put, List.setIfInBounds_toArray, List.set_cons_zero, List.set_cons_succ])
                refine take_no (i := 15) rfl (by kernel_rfl) (by kernel_rfl) (by kernel_rfl) (fun _ _ _ h => h) (by rfl) hHeld ?_
                (try simp only [Act.put, List.setIfInBounds_toArray, List.set_cons_zero, List.set_cons_succ])
                refine take_no (i := 16) rfl (by kernel_rfl) (by kernel_rfl) (by kernel_rfl) (fun _ _ _ h => h) (by rfl) hHeld ?_
                (try simp only [Act.put, List.setIfInBounds_toArray, List.set_cons_zero, List.set_cons_succ])
                refine take_no (i := 17) rfl (by kernel_rfl) (by kernel_rfl) (by kernel_rfl) (fun _ _ _ h => h) (by rfl) hHeld ?_
                (try simp only [Act.put, List.setIfInBounds_toArray, List.set_cons_zero, List.set_cons_succ])
                refine take_no (i := 18) rfl (by kernel_rfl) (by kernel_rfl) (by kernel_rfl) (fun _ _ _ h => h) (by rfl) hHeld ?_
                (try simp only [Act.put, List.setIfInBounds_toArray, List.set_cons_zero, List.set_cons_succ])
                refine take_no (i := 19) rfl (by kernel_rfl) (by kernel_rfl) (by kernel_rfl) (fun _ _ _ h => h) (by rfl) hHeld ?_
                (try simp only [Act.put, List.setIfInBounds_toArray, List.set_cons_zero, List.set_cons_succ])
                refine take_no (i := 20) rfl (by kernel_rfl) (by kernel_rfl) (by kernel_rfl) (fun _ _ _ h => h) (by rfl) hHeld ?_
                (try simp only [Act.put, List.setIfInBounds_toArray, List.set_cons_zero, List.set_cons_succ])
                refine take_no (i := 21) rfl (by kernel_rfl) (by kernel_rfl) (by kernel_rfl) (fun _ _ _ h => h) (by rfl) hHeld ?_
                (try simp only [Act.put, List.setIfInBounds_toArray, List.set_cons_zero, List.set_cons_succ])
                refine take_no (i := 22) rfl (by kernel_rfl) (by kernel_rfl) (by kernel_rfl) (fun _ _ _ h => h) (by rfl) hHeld ?_
                (try simp only [Act.put, List.setIfInBounds_toArray, List.set_cons_zero, List.set_cons_succ])
                refine take_no (i := 23) rfl (by kernel_rfl) (by kernel_rfl) (by kernel_rfl) (fun _ _ _ h => h) (by rfl) hHeld ?_
                (try simp only [Act.put, List.setIfInBounds_toArray, List.set_cons_zero, List.set_cons_succ])
                refine take_yes (i := 24) (v := ?_) rfl (by kernel_rfl) (by kernel_rfl) (by kernel_rfl) (fun _ _ _ h => h) (by rfl) ?_ hHeld ?_
                rotate_left
                · (intro w hSw; (try dsimp only at hSw); go_simp; (try with_reducible rfl))
                (try simp only [Act.put, List.setIfInBounds_toArray, List.set_cons_zero, List.set_cons_succ])
                refine take_yes (i := 25) (v := ?_) rfl (by kernel_rfl) (by kernel_rfl) (by kernel_rfl) (fun _ _ _ h => h) (by rfl) ?_ hHeld ?_
                rotate_left
                · (intro w hSw; (try dsimp only at hSw); go_simp; (try with_reducible rfl))
                (try simp only [Act.put, List.setIfInBounds_toArray, List.set_cons_zero, List.set_cons_succ])
                refine wpAnyH_done (by kernel_rfl) ?_ _
                go_wp2
                go_roundw
                case rel => exact ⟨j + 1, by omega, by go_num, HOK.out.succ hlt (HBB.out (by simp)), hbf⟩
                case measure => simp [intOf]; omega
          · have ej : j = l.length := by omega
            subst ej
            go_wp2
            go_ret
            refine ⟨true, rfl, fun _ => ?_, hlw⟩
            simp only [VOk]
            refine ⟨HB2.out (by simp), (VOks_iff l).2 ?_⟩
            rw [List.forall_mem_iff_forall_getElem]
            exact fun i hi => HOK.out i hi hi

end Go.Proofs.YtpmfjbmfjfhghaaGreat
