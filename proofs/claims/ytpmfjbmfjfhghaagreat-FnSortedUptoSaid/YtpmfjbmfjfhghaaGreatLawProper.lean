/-
  'laws.proper': whether types are those that are compared.
-/
import Derived.Test.YtpmfjbmfjfhghaaGreatProper
namespace Go.Proofs.YtpmfjbmfjfhghaaGreat
open Go.RowKit

/-- A type that is compared: proper, with at most 60 types in it. -/
def Fine (t : Tr) : Prop := ProperT t ∧ t.size ≤ 60

def FineTo (l : List Tr) (j : Nat) : Prop := ∀ i (h : i < l.length), i < j → Fine l[i]
theorem FineTo.all {l : List Tr} (h : FineTo l l.length) : ∀ t ∈ l, Fine t := by
  rw [List.forall_mem_iff_forall_getElem]
  exact fun i hi => h i hi hi

set_option maxHeartbeats 1000000 in
set_option maxRecDepth 100000 in
theorem lawProper_any (l : List Tr) (A : Option Addr) (c : Nat) (xs : List Value) (w : World) (B : Nat → Prop) (hr : repIs w B l xs) (hrow : rowAt w B A xs) (hbulk : Tr.bulks l ≤ 1048576) (hB : ∀ b, B b → b < w.heap.size) :
    Calls Tryz.prog 19 #[.slice A l.length c] w (BoolPost (∀ t ∈ l, Fine t) w) := by
  have hlen := Tr.length_bulks l
  have hbl : ∀ t ∈ l, t.bulk ≤ 1048576 := fun t ht => by have := Tr.bulk_mem ht; omega
  go_enter Tryz.func19, Tryz.ntmps19
  go_wp2
  go_loopw [7] (fun i wr => ∃ j : Nat, j ≤ l.length ∧ i = .int .i64 j ∧ FineTo l j ∧ Below w.heap.size w wr) (fun i _ => l.length - (intOf i).toNat)
  case atStart => exact ⟨0, Nat.zero_le _, rfl, fun _ _ h => absurd h (by omega), Below.refl _ _⟩
  case round =>
    obtain ⟨j, hj, rfl, hft, hb⟩ := hrel
    have HF := Lib.hid hft
    clear hft
    have hws := hb.size
    by_cases hlt : j < l.length
    · obtain ⟨b, off, nm', tx', A1', c1', A2', c2', A3', c3', rfl, hbb, hrj, q0, q1, q2, q3, q4, q5⟩ := hr.at_ hrow j hlt
      have hbb' := hB b hbb
      rw [← hb.cell (by exact hbb')] at q0 q1 q2 q3 q4 q5
      have hmem := List.getElem_mem hlt
      have hbt := hbl _ hmem
      have hk : ∀ W, Below w.heap.size w W → Calls Tryz.prog 25 #[.agg #[.int .i64 l[j].kind, .string nm', .string tx', .slice A1' l[j].keys.length c1', .slice A2' l[j].kids.length c2', .slice A3' l[j].more.length c3']] W (KindPost l[j] W) :=
        fun W hW => kind_any l[j] W B _ (hrj.kept (Kept.of_below (X := fun b => b < w.heap.size) hW fun _ h => h) hB fun _ h => h) hbt (fun b hb => Nat.lt_of_lt_of_le (hB b hb) hW.size)
      have hx0 : Blk (wr.alloc (.cells #[.int .i64 l[j].kind, .string nm', .string tx', .slice A1' l[j].keys.length c1', .slice A2' l[j].kids.length c2', .slice A3' l[j].more.length c3'] 25)) wr.heap.size 25 #[.int .i64 l[j].kind, .string nm', .string tx', .slice A1' l[j].keys.length c1', .slice A2' l[j].kids.length c2', .slice A3' l[j].more.length c3'] := Blk.new _ _ _
      have hb0 := hb.alloc hb.size (.cells #[.int .i64 l[j].kind, .string nm', .string tx', .slice A1' l[j].keys.length c1', .slice A2' l[j].kids.length c2', .slice A3' l[j].more.length c3'] 25)
      clear hr hrow hbl
      go_wp2_with fail
      refine (hk _ hb0).mono ?_
      rintro e w1 ⟨cs', rfl, hrep1, hb1⟩
      have hbw1 := hb0.trans (hb1.mono hb0.size)
      have hx1 := hx0.below hb1 hx0.lt
      have hp := proper_any l[j] w1 _ cs' hrep1 hbt (fun b hb => hb.2)
      clear hb0 hx0 hrep1
      go_wp2_with fail
      refine hp.mono ?_
      rintro e w2 ⟨bp, rfl, hbp, hb2⟩
      have HBP := Lib.hid hbp
      have hbw2 := hbw1.trans (hb2.mono hbw1.size)
      have hx2 := hx1.below hb2 hx1.lt
      clear hbp hp hx1
      cases bp with
      | false =>
        go_wp2
        go_ret
        exact BoolPost.no (fun h => by have := HBP.out.2 (h _ hmem).1; cases this) hbw2
      | true =>
        have k0 := hx2.cell 0
        have k1 := hx2.cell 1
        have k2 := hx2.cell 2
        have k3 := hx2.cell 3
        have k4 := hx2.cell 4
        have k5 := hx2.cell 5
        have k6 := hx2.lt
        simp at k0 k1 k2 k3 k4 k5
        go_wp2_with fail
        refine (hk _ hbw2).mono ?_
        rintro e w3 ⟨cs2, rfl, hrep3, hb3⟩
        have hbw3 := hbw2.trans (hb3.mono hbw2.size)
        have hsz := size_any l[j] w3 _ cs2 hrep3 hbt (fun b hb => hb.2)
        clear k0 k1 k2 k3 k4 k5 k6 hrep3
        go_wp2_with fail
        refine hsz.mono ?_
        rintro e w4 ⟨rfl, hb4⟩
        have hbw4 := hbw3.trans (hb4.mono hbw3.size)
        by_cases h60 : l[j].size ≤ 60
        · have e60 : decide (60 < (l[j].size : Int)) = false := decide_eq_false (by omega)
          have H60 := Lib.hid h60
          clear h60 hsz
          go_wp2
          go_roundw
          case rel =>
            refine ⟨j + 1, by omega, by go_num, fun q hq hq' => ?_, hbw4⟩
            by_cases e : q = j
            · subst e; exact ⟨by simpa using HBP.out, H60.out⟩
            · exact HF.out q hq (by omega)
          case measure => simp [intOf]; omega
        · have e60 : decide (60 < (l[j].size : Int)) = true := decide_eq_true (by omega)
          have H60 := Lib.hid h60
          clear h60 hsz
          go_wp2
          go_ret
          exact BoolPost.no (fun h => H60.out (h _ hmem).2) hbw4
    · have ej : j = l.length := by omega
      subst ej
      go_wp2
      go_ret
      exact BoolPost.yes HF.out.all hb

end Go.Proofs.YtpmfjbmfjfhghaaGreat
