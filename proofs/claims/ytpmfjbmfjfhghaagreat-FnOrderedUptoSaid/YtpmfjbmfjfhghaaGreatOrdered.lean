/-
  'laws.ordered': at the any types without arrays, objects and sets (laid by gen_ordered.py).
-/
import Derived.Test.YtpmfjbmfjfhghaaGreatLaw
import Derived.Test.YtpmfjbmfjfhghaaGreatPl
namespace Go.Proofs.YtpmfjbmfjfhghaaGreat
open Go.RowKit

set_option maxRecDepth 100000 in
/-- A type without parts. -/
theorem ordered_leaf (k : Int) (nm tx : ByteArray) (ks : List Ky) (A1 A2 A3 : Option Addr) (c1 c2 c3 : Nat) (w : World) :
    Calls Tryz.prog 28 #[.agg #[.int .i64 k, .string nm, .string tx, .slice A1 ks.length c1, .slice A2 0 c2, .slice A3 0 c3]] w (BoolAt true w) := by
  go_enter Tryz.func28, Tryz.ntmps28
  go_wp2
  go_loopw [10] (fun i wr => i = .int .i64 0 ∧ wr = w.alloc (.cells #[.int .i64 k, .string nm, .string tx, .slice A1 ks.length c1, .slice A2 0 c2, .slice A3 0 c3] 25)) (fun _ _ => 0)
  case atStart => exact ⟨rfl, rfl⟩
  case round =>
    obtain ⟨rfl, rfl⟩ := hrel
    go_wp2
    go_loopw [42] (fun i wr => i = .int .i64 0 ∧ wr = w.alloc (.cells #[.int .i64 k, .string nm, .string tx, .slice A1 ks.length c1, .slice A2 0 c2, .slice A3 0 c3] 25)) (fun _ _ => 0)
    case atStart => exact ⟨rfl, rfl⟩
    case round =>
      obtain ⟨rfl, rfl⟩ := hrel
      go_wp2
      go_ret
      exact ⟨rfl, (Below.refl _ _).alloc (Nat.le_refl _) _⟩

/-- A leaf. -/
def Leaf (t : Tr) : Prop := t.keys = [] ∧ t.kids = [] ∧ t.more = []

set_option maxHeartbeats 4000000 in
set_option maxRecDepth 100000 in
theorem ordered_any8 (l : List Tr) (nm tx : ByteArray) (A1 A2 A3 : Option Addr) (c1 c2 c3 : Nat) (xs : List Value) (w : World) (B : Nat → Prop) (hr : repIs w B l xs) (hrow : rowAt w B A2 xs) (hB : ∀ b, B b → b < w.heap.size) (hlen : l.length ≤ 1048576)
    (hleaf : ∀ t ∈ l, Leaf t) (hn : ∀ t ∈ l, Nice t) (hs : ∀ i (h : i + 1 < l.length), cmp (norm (l[i]'(by omega))) (norm l[i + 1]) ≤ 0) :
    Calls Tryz.prog 28 #[.agg #[.int .i64 8, .string nm, .string tx, .slice A1 0 c1, .slice A2 l.length c2, .slice A3 0 c3]] w (BoolAt true w) := by
  have hb0 : Below w.heap.size w (w.alloc (.cells #[.int .i64 8, .string nm, .string tx, .slice A1 0 c1, .slice A2 l.length c2, .slice A3 0 c3] 25)) := (Below.refl _ _).alloc (Nat.le_refl _) _
  have hx0 : Blk (w.alloc (.cells #[.int .i64 8, .string nm, .string tx, .slice A1 0 c1, .slice A2 l.length c2, .slice A3 0 c3] 25)) w.heap.size 25 #[.int .i64 8, .string nm, .string tx, .slice A1 0 c1, .slice A2 l.length c2, .slice A3 0 c3] := Blk.new _ _ _
  go_enter Tryz.func28, Tryz.ntmps28
  go_wp2
  generalize w.alloc (.cells #[.int .i64 8, .string nm, .string tx, .slice A1 0 c1, .slice A2 l.length c2, .slice A3 0 c3] 25) = w0 at *
  have hN := hx0.lt
  go_loopw [10] (fun i wr => ∃ j : Nat, j ≤ l.length ∧ i = .int .i64 j ∧ Below w0.heap.size w0 wr) (fun i _ => l.length - (intOf i).toNat)
  case atStart => exact ⟨0, Nat.zero_le _, rfl, Below.refl _ _⟩
  case round =>
    obtain ⟨j, hj, rfl, hbel⟩ := hrel
    have hx1 := hx0.below hbel hN
    have hlw := hb0.trans (hbel.mono hb0.size)
    have sz := hbel.size
    by_cases hlt : j < l.length
    · obtain ⟨b, off, nm', tx', B1, d1, B2, d2, B3, d3, hA, hbb, hrj, q0, q1, q2, q3, q4, q5⟩ := hr.at_ hrow j hlt
      have hbb' := hB b hbb
      rw [← hlw.cell (by exact hbb')] at q0 q1 q2 q3 q4 q5
      obtain ⟨lf1, lf2, lf3⟩ := hleaf _ (List.getElem_mem hlt)
      have e1 : l[j].keys.length = 0 := by rw [lf1]; rfl
      have e2 : l[j].kids.length = 0 := by rw [lf2]; rfl
      have e3 : l[j].more.length = 0 := by rw [lf3]; rfl
      rw [e1] at q3 hrj
      rw [e2] at q4 hrj
      rw [e3] at q5 hrj
      clear e1 e2 e3 lf1 lf2 lf3
      have hnj := hn _ (List.getElem_mem hlt)
      have ho : ∀ W, Calls Tryz.prog 28 #[.agg #[.int .i64 l[j].kind, .string nm', .string tx', .slice B1 0 d1, .slice B2 0 d2, .slice B3 0 d3]] W (BoolAt true W) := fun W => ordered_leaf l[j].kind nm' tx' [] B1 B2 B3 d1 d2 d3 W
      have hrw : ∀ W, Below w.heap.size w W → repI W (fun b => b < W.heap.size) l[j] [.int .i64 l[j].kind, .string nm', .string tx', .slice B1 0 d1, .slice B2 0 d2, .slice B3 0 d3] := fun W hW =>
        hrj.kept (Kept.of_below (X := fun b => b < w.heap.size) hW fun _ h => h) hB fun b hb => Nat.lt_of_lt_of_le (hB b hb) hW.size
      subst hA
      rcases Nat.eq_zero_or_pos j with rfl | hpos
      · simp only [Nat.zero_mul, Nat.add_zero] at q0 q1 q2 q3 q4 q5
        have hx2 := (hx1.alloc (.cells #[.int .i64 l[0].kind, .string nm', .string tx', .slice B1 0 d1, .slice B2 0 d2, .slice B3 0 d3] 25)).drew
        have hk2 := (Blk.new wr 25 #[.int .i64 l[0].kind, .string nm', .string tx', .slice B1 0 d1, .slice B2 0 d2, .slice B3 0 d3]).drew
        have hl2 : Below wr.heap.size wr (wr.alloc (.cells #[.int .i64 l[0].kind, .string nm', .string tx', .slice B1 0 d1, .slice B2 0 d2, .slice B3 0 d3] 25)).drew := ((Below.refl _ _).alloc (Nat.le_refl _) _).drew
        have hlw2 := hlw.trans (hl2.mono hlw.size)
        go_wp2_with fail
        refine wp_region_held_drew (S := (fun W => Blk W w.heap.size 25 #[.int .i64 8, .string nm, .string tx, .slice A1 0 c1, .slice (some ⟨b, off, none⟩) l.length c2, .slice A3 0 c3] ∧ Blk W wr.heap.size 25 #[.int .i64 l[0].kind, .string nm', .string tx', .slice B1 0 d1, .slice B2 0 d2, .slice B3 0 d3])) (by kernel_rfl) (⟨hx2, hk2⟩) (fun hHeld => ?_)
        refine take_yes (i := 0) (v := ?_) rfl (by kernel_rfl) (by kernel_rfl) (by kernel_rfl) (fun _ _ _ h => h) (by rfl) ?_ hHeld ?_
        rotate_left
        · (intro w hSw; obtain ⟨S1, S2⟩ := hSw; obtain ⟨z0, z1, z2, z3, z4, z5, z6⟩ := Blk.six (by exact S1); obtain ⟨y0, y1, y2, y3, y4, y5, y6⟩ := Blk.six (by exact S2); go_simp; (try with_reducible rfl))
        (try simp only [Act.put, List.setIfInBounds_toArray, List.set_cons_zero, List.set_cons_succ])
        refine take_yes (i := 1) (v := ?_) rfl (by kernel_rfl) (by kernel_rfl) (by kernel_rfl) (fun _ _ _ h => h) (by rfl) ?_ hHeld ?_
        rotate_left
        · (intro w hSw; obtain ⟨S1, S2⟩ := hSw; obtain ⟨z0, z1, z2, z3, z4, z5, z6⟩ := Blk.six (by exact S1); obtain ⟨y0, y1, y2, y3, y4, y5, y6⟩ := Blk.six (by exact S2); go_simp; (try with_reducible rfl))
        (try simp only [Act.put, List.setIfInBounds_toArray, List.set_cons_zero, List.set_cons_succ])
        refine take_yes (i := 2) (v := ?_) rfl (by kernel_rfl) (by kernel_rfl) (by kernel_rfl) (fun _ _ _ h => h) (by rfl) ?_ hHeld ?_
        rotate_left
        · (intro w hSw; obtain ⟨S1, S2⟩ := hSw; obtain ⟨z0, z1, z2, z3, z4, z5, z6⟩ := Blk.six (by exact S1); obtain ⟨y0, y1, y2, y3, y4, y5, y6⟩ := Blk.six (by exact S2); go_simp; (try with_reducible rfl))
        (try simp only [Act.put, List.setIfInBounds_toArray, List.set_cons_zero, List.set_cons_succ])
        refine take_yes (i := 3) (v := ?_) rfl (by kernel_rfl) (by kernel_rfl) (by kernel_rfl) (fun _ _ _ h => h) (by rfl) ?_ hHeld ?_
        rotate_left
        · (intro w hSw; obtain ⟨S1, S2⟩ := hSw; obtain ⟨z0, z1, z2, z3, z4, z5, z6⟩ := Blk.six (by exact S1); obtain ⟨y0, y1, y2, y3, y4, y5, y6⟩ := Blk.six (by exact S2); go_simp; (try with_reducible rfl))
        (try simp only [Act.put, List.setIfInBounds_toArray, List.set_cons_zero, List.set_cons_succ])
        refine take_yes (i := 4) (v := ?_) rfl (by kernel_rfl) (by kernel_rfl) (by kernel_rfl) (fun _ _ _ h => h) (by rfl) ?_ hHeld ?_
        rotate_left
        · (intro w hSw; obtain ⟨S1, S2⟩ := hSw; obtain ⟨z0, z1, z2, z3, z4, z5, z6⟩ := Blk.six (by exact S1); obtain ⟨y0, y1, y2, y3, y4, y5, y6⟩ := Blk.six (by exact S2); go_simp; (try with_reducible rfl))
        (try simp only [Act.put, List.setIfInBounds_toArray, List.set_cons_zero, List.set_cons_succ])
        refine take_yes (i := 5) (v := ?_) rfl (by kernel_rfl) (by kernel_rfl) (by kernel_rfl) (fun _ _ _ h => h) (by rfl) ?_ hHeld ?_
        rotate_left
        · (intro w hSw; obtain ⟨S1, S2⟩ := hSw; obtain ⟨z0, z1, z2, z3, z4, z5, z6⟩ := Blk.six (by exact S1); obtain ⟨y0, y1, y2, y3, y4, y5, y6⟩ := Blk.six (by exact S2); go_simp; (try with_reducible rfl))
        (try simp only [Act.put, List.setIfInBounds_toArray, List.set_cons_zero, List.set_cons_succ])
        refine take_yes (i := 6) (v := ?_) rfl (by kernel_rfl) (by kernel_rfl) (by kernel_rfl) (fun _ _ _ h => h) (by rfl) ?_ hHeld ?_
        rotate_left
        · (intro w hSw; obtain ⟨S1, S2⟩ := hSw; obtain ⟨z0, z1, z2, z3, z4, z5, z6⟩ := Blk.six (by exact S1); obtain ⟨y0, y1, y2, y3, y4, y5, y6⟩ := Blk.six (by exact S2); go_simp; (try with_reducible rfl))
        (try simp only [Act.put, List.setIfInBounds_toArray, List.set_cons_zero, List.set_cons_succ])
        refine take_yes (i := 7) (v := ?_) rfl (by kernel_rfl) (by kernel_rfl) (by kernel_rfl) (fun _ _ _ h => h) (by rfl) ?_ hHeld ?_
        rotate_left
        · (intro w hSw; obtain ⟨S1, S2⟩ := hSw; obtain ⟨z0, z1, z2, z3, z4, z5, z6⟩ := Blk.six (by exact S1); obtain ⟨y0, y1, y2, y3, y4, y5, y6⟩ := Blk.six (by exact S2); go_simp; (try with_reducible rfl))
        (try simp only [Act.put, List.setIfInBounds_toArray, List.set_cons_zero, List.set_cons_succ])
        refine take_no (i := 8) rfl (by kernel_rfl) (by kernel_rfl) (by kernel_rfl) (fun _ _ _ h => h) (by rfl) hHeld ?_
        (try simp only [Act.put, List.setIfInBounds_toArray, List.set_cons_zero, List.set_cons_succ])
        refine take_no (i := 9) rfl (by kernel_rfl) (by kernel_rfl) (by kernel_rfl) (fun _ _ _ h => h) (by rfl) hHeld ?_
        (try simp only [Act.put, List.setIfInBounds_toArray, List.set_cons_zero, List.set_cons_succ])
        refine take_no (i := 10) rfl (by kernel_rfl) (by kernel_rfl) (by kernel_rfl) (fun _ _ _ h => h) (by rfl) hHeld ?_
        (try simp only [Act.put, List.setIfInBounds_toArray, List.set_cons_zero, List.set_cons_succ])
        refine take_no (i := 11) rfl (by kernel_rfl) (by kernel_rfl) (by kernel_rfl) (fun _ _ _ h => h) (by rfl) hHeld ?_
        (try simp only [Act.put, List.setIfInBounds_toArray, List.set_cons_zero, List.set_cons_succ])
        refine take_no (i := 12) rfl (by kernel_rfl) (by kernel_rfl) (by kernel_rfl) (fun _ _ _ h => h) (by rfl) hHeld ?_
        (try simp only [Act.put, List.setIfInBounds_toArray, List.set_cons_zero, List.set_cons_succ])
        refine take_no (i := 13) rfl (by kernel_rfl) (by kernel_rfl) (by kernel_rfl) (fun _ _ _ h => h) (by rfl) hHeld ?_
        (try simp only [Act.put, List.setIfInBounds_toArray, List.set_cons_zero, List.set_cons_succ])
        refine take_no (i := 14) rfl (by kernel_rfl) (by kernel_rfl) (by kernel_rfl) (fun _ _ _ h => h) (by rfl) hHeld ?_
        (try simp only [Act.put, List.setIfInBounds_toArray, List.set_cons_zero, List.set_cons_succ])
        refine take_no (i := 15) rfl (by kernel_rfl) (by kernel_rfl) (by kernel_rfl) (fun _ _ _ h => h) (by rfl) hHeld ?_
        (try simp only [Act.put, List.setIfInBounds_toArray, List.set_cons_zero, List.set_cons_succ])
        refine take_no (i := 16) rfl (by kernel_rfl) (by kernel_rfl) (by kernel_rfl) (fun _ _ _ h => h) (by rfl) hHeld ?_
        (try simp only [Act.put, List.setIfInBounds_toArray, List.set_cons_zero, List.set_cons_succ])
        refine take_yes (i := 17) (v := ?_) rfl (by kernel_rfl) (by kernel_rfl) (by kernel_rfl) (fun _ _ _ h => h) (by rfl) ?_ hHeld ?_
        rotate_left
        · (intro w hSw; obtain ⟨S1, S2⟩ := hSw; obtain ⟨z0, z1, z2, z3, z4, z5, z6⟩ := Blk.six (by exact S1); obtain ⟨y0, y1, y2, y3, y4, y5, y6⟩ := Blk.six (by exact S2); go_simp; (try with_reducible rfl))
        (try simp only [Act.put, List.setIfInBounds_toArray, List.set_cons_zero, List.set_cons_succ])
        refine take_yes (i := 18) (v := ?_) rfl (by kernel_rfl) (by kernel_rfl) (by kernel_rfl) (fun _ _ _ h => h) (by rfl) ?_ hHeld ?_
        rotate_left
        · (intro w hSw; obtain ⟨S1, S2⟩ := hSw; obtain ⟨z0, z1, z2, z3, z4, z5, z6⟩ := Blk.six (by exact S1); obtain ⟨y0, y1, y2, y3, y4, y5, y6⟩ := Blk.six (by exact S2); go_simp; (try with_reducible rfl))
        (try simp only [Act.put, List.setIfInBounds_toArray, List.set_cons_zero, List.set_cons_succ])
        refine take_yes (i := 19) (v := ?_) rfl (by kernel_rfl) (by kernel_rfl) (by kernel_rfl) (fun _ _ _ h => h) (by rfl) ?_ hHeld ?_
        rotate_left
        · (intro w hSw; obtain ⟨S1, S2⟩ := hSw; obtain ⟨z0, z1, z2, z3, z4, z5, z6⟩ := Blk.six (by exact S1); obtain ⟨y0, y1, y2, y3, y4, y5, y6⟩ := Blk.six (by exact S2); go_simp; (try with_reducible rfl))
        (try simp only [Act.put, List.setIfInBounds_toArray, List.set_cons_zero, List.set_cons_succ])
        refine take_step (i := 20) rfl (by kernel_rfl) (fun K hK => ?_)
        go_simp
        (go_at_call 28; refine (ho _).mono ?_; rintro e w4 ⟨rfl, h4⟩; have hx4 := hx2.below h4 hx2.lt; have hk4 := hk2.below h4 hk2.lt; have hlw4 := hlw2.trans (h4.mono hlw2.size))
        (try go_wp2_with fail)
        refine hK.out _ _ (⟨hx4, hk4⟩) (fun hHeld => ?_)
        clear hK K
        (try simp only [Act.put, List.setIfInBounds_toArray, List.set_cons_zero, List.set_cons_succ])
        refine take_yes (i := 21) (v := ?_) rfl (by kernel_rfl) (by kernel_rfl) (by kernel_rfl) (fun _ _ _ h => h) (by rfl) ?_ hHeld ?_
        rotate_left
        · (intro w hSw; obtain ⟨S1, S2⟩ := hSw; obtain ⟨z0, z1, z2, z3, z4, z5, z6⟩ := Blk.six (by exact S1); obtain ⟨y0, y1, y2, y3, y4, y5, y6⟩ := Blk.six (by exact S2); go_simp; (try with_reducible rfl))
        (try simp only [Act.put, List.setIfInBounds_toArray, List.set_cons_zero, List.set_cons_succ])
        refine take_yes (i := 22) (v := ?_) rfl (by kernel_rfl) (by kernel_rfl) (by kernel_rfl) (fun _ _ _ h => h) (by rfl) ?_ hHeld ?_
        rotate_left
        · (intro w hSw; obtain ⟨S1, S2⟩ := hSw; obtain ⟨z0, z1, z2, z3, z4, z5, z6⟩ := Blk.six (by exact S1); obtain ⟨y0, y1, y2, y3, y4, y5, y6⟩ := Blk.six (by exact S2); go_simp; (try with_reducible rfl))
        (try simp only [Act.put, List.setIfInBounds_toArray, List.set_cons_zero, List.set_cons_succ])
        refine wpAnyH_done (by kernel_rfl) ?_ _
        have hbel2 : Below w0.heap.size w0 _ := hbel.trans (((hl2).trans (h4.mono (hl2).size)).mono sz)
        clear hx2 hk2 hx4 hk4 hHeld
        go_wp2
        go_roundw
        case rel => exact ⟨0 + 1, by omega, by go_num, hbel2⟩
        case measure => simp [intOf]; omega
      · obtain ⟨i, rfl⟩ : ∃ i, j = i + 1 := ⟨j - 1, by omega⟩
        have hi : i < l.length := by omega
        obtain ⟨b', off', nn, tt, E1, g1, E2, g2, E3, g3, hA, _, hri, r0, r1, r2, r3, r4, r5⟩ := hr.at_ hrow i hi
        obtain ⟨rfl, rfl⟩ : b = b' ∧ off = off' := by
          have := Option.some.inj hA
          injection this with h1 h2
          exact ⟨h1, h2⟩
        have hni := hn _ (List.getElem_mem hi)
        have hC : ∀ W, Below w.heap.size w W → Calls Tryz.prog 30 #[.agg #[.int .i64 l[i].kind, .string nn, .string tt, .slice E1 l[i].keys.length g1, .slice E2 l[i].kids.length g2, .slice E3 l[i].more.length g3], .agg #[.int .i64 l[i + 1].kind, .string nm', .string tx', .slice B1 0 d1, .slice B2 0 d2, .slice B3 0 d3]] W (IntPost (cmp (norm l[i]) (norm l[i + 1])) W) := fun W hW =>
          implCompare_any l[i] l[i + 1] _ _ W (fun b => b < W.heap.size) (fun b => b < W.heap.size) (hri.kept (Kept.of_below (X := fun b => b < w.heap.size) hW fun _ h => h) hB fun b hb => Nat.lt_of_lt_of_le (hB b hb) hW.size) (hrw W hW) (fun _ h => h) (fun _ h => h) hni hnj
        have hle := hs i hlt
        obtain ⟨C, eC⟩ : ∃ C, C = cmp (norm l[i]) (norm l[i + 1]) := ⟨_, rfl⟩
        rw [← eC] at hC hle
        have ew : IntKind.i64.wrap (i : Int) = (i : Int) := IntWalk.i64_in _ (by omega)
        have hi0 : (0 : Int) ≤ (i : Int) := by omega
        have hi1 : (i : Int) < (l.length : Int) := by omega
        have hi2 : ((i : Int)).toNat = i := Int.toNat_natCast i
        have hgt : ¬ (0 < C) := by omega
        have hgt' : decide (0 < C) = false := decide_eq_false hgt
        clear eC hri hs
        have hx2 := (hx1.alloc (.cells #[.int .i64 l[i + 1].kind, .string nm', .string tx', .slice B1 0 d1, .slice B2 0 d2, .slice B3 0 d3] 25)).drew
        have hk2 := (Blk.new wr 25 #[.int .i64 l[i + 1].kind, .string nm', .string tx', .slice B1 0 d1, .slice B2 0 d2, .slice B3 0 d3]).drew
        have hl2 : Below wr.heap.size wr (wr.alloc (.cells #[.int .i64 l[i + 1].kind, .string nm', .string tx', .slice B1 0 d1, .slice B2 0 d2, .slice B3 0 d3] 25)).drew := ((Below.refl _ _).alloc (Nat.le_refl _) _).drew
        have hlw2 := hlw.trans (hl2.mono hlw.size)
        go_wp2_with fail
        refine wp_region_held_drew (S := (fun W => Blk W w.heap.size 25 #[.int .i64 8, .string nm, .string tx, .slice A1 0 c1, .slice (some ⟨b, off, none⟩) l.length c2, .slice A3 0 c3] ∧ Blk W wr.heap.size 25 #[.int .i64 l[i + 1].kind, .string nm', .string tx', .slice B1 0 d1, .slice B2 0 d2, .slice B3 0 d3] ∧ (W.cell? ⟨b, off + i * 6, none⟩ = some (.int .i64 l[i].kind) ∧ W.cell? ⟨b, off + i * 6 + 1, none⟩ = some (.string nn) ∧ W.cell? ⟨b, off + i * 6 + 2, none⟩ = some (.string tt) ∧ W.cell? ⟨b, off + i * 6 + 3, none⟩ = some (.slice E1 l[i].keys.length g1) ∧ W.cell? ⟨b, off + i * 6 + 4, none⟩ = some (.slice E2 l[i].kids.length g2) ∧ W.cell? ⟨b, off + i * 6 + 5, none⟩ = some (.slice E3 l[i].more.length g3)))) (by kernel_rfl) (⟨hx2, hk2, by rw [hlw2.cell (by exact hbb'), hlw2.cell (by exact hbb'), hlw2.cell (by exact hbb'), hlw2.cell (by exact hbb'), hlw2.cell (by exact hbb'), hlw2.cell (by exact hbb')]; exact ⟨r0, r1, r2, r3, r4, r5⟩⟩) (fun hHeld => ?_)
        refine take_yes (i := 0) (v := ?_) rfl (by kernel_rfl) (by kernel_rfl) (by kernel_rfl) (fun _ _ _ h => h) (by rfl) ?_ hHeld ?_
        rotate_left
        · (intro w hSw; obtain ⟨S1, S2, p0, p1, p2, p3, p4, p5⟩ := hSw; obtain ⟨z0, z1, z2, z3, z4, z5, z6⟩ := Blk.six (by exact S1); obtain ⟨y0, y1, y2, y3, y4, y5, y6⟩ := Blk.six (by exact S2); go_simp; (try with_reducible rfl))
        (try simp only [Act.put, List.setIfInBounds_toArray, List.set_cons_zero, List.set_cons_succ])
        refine take_yes (i := 1) (v := ?_) rfl (by kernel_rfl) (by kernel_rfl) (by kernel_rfl) (fun _ _ _ h => h) (by rfl) ?_ hHeld ?_
        rotate_left
        · (intro w hSw; obtain ⟨S1, S2, p0, p1, p2, p3, p4, p5⟩ := hSw; obtain ⟨z0, z1, z2, z3, z4, z5, z6⟩ := Blk.six (by exact S1); obtain ⟨y0, y1, y2, y3, y4, y5, y6⟩ := Blk.six (by exact S2); go_simp; (try with_reducible rfl))
        (try simp only [Act.put, List.setIfInBounds_toArray, List.set_cons_zero, List.set_cons_succ])
        refine take_yes (i := 2) (v := ?_) rfl (by kernel_rfl) (by kernel_rfl) (by kernel_rfl) (fun _ _ _ h => h) (by rfl) ?_ hHeld ?_
        rotate_left
        · (intro w hSw; obtain ⟨S1, S2, p0, p1, p2, p3, p4, p5⟩ := hSw; obtain ⟨z0, z1, z2, z3, z4, z5, z6⟩ := Blk.six (by exact S1); obtain ⟨y0, y1, y2, y3, y4, y5, y6⟩ := Blk.six (by exact S2); go_simp; (try with_reducible rfl))
        (try simp only [Act.put, List.setIfInBounds_toArray, List.set_cons_zero, List.set_cons_succ])
        refine take_yes (i := 3) (v := ?_) rfl (by kernel_rfl) (by kernel_rfl) (by kernel_rfl) (fun _ _ _ h => h) (by rfl) ?_ hHeld ?_
        rotate_left
        · (intro w hSw; obtain ⟨S1, S2, p0, p1, p2, p3, p4, p5⟩ := hSw; obtain ⟨z0, z1, z2, z3, z4, z5, z6⟩ := Blk.six (by exact S1); obtain ⟨y0, y1, y2, y3, y4, y5, y6⟩ := Blk.six (by exact S2); go_simp; (try with_reducible rfl))
        (try simp only [Act.put, List.setIfInBounds_toArray, List.set_cons_zero, List.set_cons_succ])
        refine take_yes (i := 4) (v := ?_) rfl (by kernel_rfl) (by kernel_rfl) (by kernel_rfl) (fun _ _ _ h => h) (by rfl) ?_ hHeld ?_
        rotate_left
        · (intro w hSw; obtain ⟨S1, S2, p0, p1, p2, p3, p4, p5⟩ := hSw; obtain ⟨z0, z1, z2, z3, z4, z5, z6⟩ := Blk.six (by exact S1); obtain ⟨y0, y1, y2, y3, y4, y5, y6⟩ := Blk.six (by exact S2); go_simp; (try with_reducible rfl))
        (try simp only [Act.put, List.setIfInBounds_toArray, List.set_cons_zero, List.set_cons_succ])
        refine take_yes (i := 5) (v := ?_) rfl (by kernel_rfl) (by kernel_rfl) (by kernel_rfl) (fun _ _ _ h => h) (by rfl) ?_ hHeld ?_
        rotate_left
        · (intro w hSw; obtain ⟨S1, S2, p0, p1, p2, p3, p4, p5⟩ := hSw; obtain ⟨z0, z1, z2, z3, z4, z5, z6⟩ := Blk.six (by exact S1); obtain ⟨y0, y1, y2, y3, y4, y5, y6⟩ := Blk.six (by exact S2); go_simp; (try with_reducible rfl))
        (try simp only [Act.put, List.setIfInBounds_toArray, List.set_cons_zero, List.set_cons_succ])
        refine take_yes (i := 6) (v := ?_) rfl (by kernel_rfl) (by kernel_rfl) (by kernel_rfl) (fun _ _ _ h => h) (by rfl) ?_ hHeld ?_
        rotate_left
        · (intro w hSw; obtain ⟨S1, S2, p0, p1, p2, p3, p4, p5⟩ := hSw; obtain ⟨z0, z1, z2, z3, z4, z5, z6⟩ := Blk.six (by exact S1); obtain ⟨y0, y1, y2, y3, y4, y5, y6⟩ := Blk.six (by exact S2); go_simp; (try with_reducible rfl))
        (try simp only [Act.put, List.setIfInBounds_toArray, List.set_cons_zero, List.set_cons_succ])
        refine take_yes (i := 7) (v := ?_) rfl (by kernel_rfl) (by kernel_rfl) (by kernel_rfl) (fun _ _ _ h => h) (by rfl) ?_ hHeld ?_
        rotate_left
        · (intro w hSw; obtain ⟨S1, S2, p0, p1, p2, p3, p4, p5⟩ := hSw; obtain ⟨z0, z1, z2, z3, z4, z5, z6⟩ := Blk.six (by exact S1); obtain ⟨y0, y1, y2, y3, y4, y5, y6⟩ := Blk.six (by exact S2); go_simp; (try with_reducible rfl))
        (try simp only [Act.put, List.setIfInBounds_toArray, List.set_cons_zero, List.set_cons_succ])
        refine take_yes (i := 8) (v := ?_) rfl (by kernel_rfl) (by kernel_rfl) (by kernel_rfl) (fun _ _ _ h => h) (by rfl) ?_ hHeld ?_
        rotate_left
        · (intro w hSw; obtain ⟨S1, S2, p0, p1, p2, p3, p4, p5⟩ := hSw; obtain ⟨z0, z1, z2, z3, z4, z5, z6⟩ := Blk.six (by exact S1); obtain ⟨y0, y1, y2, y3, y4, y5, y6⟩ := Blk.six (by exact S2); go_simp; (try with_reducible rfl))
        (try simp only [Act.put, List.setIfInBounds_toArray, List.set_cons_zero, List.set_cons_succ])
        refine take_yes (i := 9) (v := ?_) rfl (by kernel_rfl) (by kernel_rfl) (by kernel_rfl) (fun _ _ _ h => h) (by rfl) ?_ hHeld ?_
        rotate_left
        · (intro w hSw; obtain ⟨S1, S2, p0, p1, p2, p3, p4, p5⟩ := hSw; obtain ⟨z0, z1, z2, z3, z4, z5, z6⟩ := Blk.six (by exact S1); obtain ⟨y0, y1, y2, y3, y4, y5, y6⟩ := Blk.six (by exact S2); go_simp; (try with_reducible rfl))
        (try simp only [Act.put, List.setIfInBounds_toArray, List.set_cons_zero, List.set_cons_succ])
        refine take_yes (i := 10) (v := ?_) rfl (by kernel_rfl) (by kernel_rfl) (by kernel_rfl) (fun _ _ _ h => h) (by rfl) ?_ hHeld ?_
        rotate_left
        · (intro w hSw; obtain ⟨S1, S2, p0, p1, p2, p3, p4, p5⟩ := hSw; obtain ⟨z0, z1, z2, z3, z4, z5, z6⟩ := Blk.six (by exact S1); obtain ⟨y0, y1, y2, y3, y4, y5, y6⟩ := Blk.six (by exact S2); go_simp; (try with_reducible rfl))
        (try simp only [Act.put, List.setIfInBounds_toArray, List.set_cons_zero, List.set_cons_succ])
        refine take_yes (i := 11) (v := ?_) rfl (by kernel_rfl) (by kernel_rfl) (by kernel_rfl) (fun _ _ _ h => h) (by rfl) ?_ hHeld ?_
        rotate_left
        · (intro w hSw; obtain ⟨S1, S2, p0, p1, p2, p3, p4, p5⟩ := hSw; obtain ⟨z0, z1, z2, z3, z4, z5, z6⟩ := Blk.six (by exact S1); obtain ⟨y0, y1, y2, y3, y4, y5, y6⟩ := Blk.six (by exact S2); go_simp; (try with_reducible rfl))
        (try simp only [Act.put, List.setIfInBounds_toArray, List.set_cons_zero, List.set_cons_succ])
        refine take_yes (i := 12) (v := ?_) rfl (by kernel_rfl) (by kernel_rfl) (by kernel_rfl) (fun _ _ _ h => h) (by rfl) ?_ hHeld ?_
        rotate_left
        · (intro w hSw; obtain ⟨S1, S2, p0, p1, p2, p3, p4, p5⟩ := hSw; obtain ⟨z0, z1, z2, z3, z4, z5, z6⟩ := Blk.six (by exact S1); obtain ⟨y0, y1, y2, y3, y4, y5, y6⟩ := Blk.six (by exact S2); go_simp; (try with_reducible rfl))
        (try simp only [Act.put, List.setIfInBounds_toArray, List.set_cons_zero, List.set_cons_succ])
        refine take_yes (i := 13) (v := ?_) rfl (by kernel_rfl) (by kernel_rfl) (by kernel_rfl) (fun _ _ _ h => h) (by rfl) ?_ hHeld ?_
        rotate_left
        · (intro w hSw; obtain ⟨S1, S2, p0, p1, p2, p3, p4, p5⟩ := hSw; obtain ⟨z0, z1, z2, z3, z4, z5, z6⟩ := Blk.six (by exact S1); obtain ⟨y0, y1, y2, y3, y4, y5, y6⟩ := Blk.six (by exact S2); go_simp; (try with_reducible rfl))
        (try simp only [Act.put, List.setIfInBounds_toArray, List.set_cons_zero, List.set_cons_succ])
        refine take_yes (i := 14) (v := ?_) rfl (by kernel_rfl) (by kernel_rfl) (by kernel_rfl) (fun _ _ _ h => h) (by rfl) ?_ hHeld ?_
        rotate_left
        · (intro w hSw; obtain ⟨S1, S2, p0, p1, p2, p3, p4, p5⟩ := hSw; obtain ⟨z0, z1, z2, z3, z4, z5, z6⟩ := Blk.six (by exact S1); obtain ⟨y0, y1, y2, y3, y4, y5, y6⟩ := Blk.six (by exact S2); go_simp; (try with_reducible rfl))
        (try simp only [Act.put, List.setIfInBounds_toArray, List.set_cons_zero, List.set_cons_succ])
        refine take_step (i := 15) rfl (by kernel_rfl) (fun K hK => ?_)
        go_simp
        (go_at_call 30; refine (hC _ hlw2).mono ?_; rintro e w3 ⟨rfl, h3⟩; have hx3 := hx2.below h3 hx2.lt; have hk3 := hk2.below h3 hk2.lt; have hlw3 := hlw2.trans (h3.mono hlw2.size))
        (try go_wp2_with fail)
        refine hK.out _ _ (⟨hx3, hk3, by rw [hlw3.cell (by exact hbb'), hlw3.cell (by exact hbb'), hlw3.cell (by exact hbb'), hlw3.cell (by exact hbb'), hlw3.cell (by exact hbb'), hlw3.cell (by exact hbb')]; exact ⟨r0, r1, r2, r3, r4, r5⟩⟩) (fun hHeld => ?_)
        clear hK K
        (try simp only [Act.put, List.setIfInBounds_toArray, List.set_cons_zero, List.set_cons_succ])
        refine take_yes (i := 16) (v := ?_) rfl (by kernel_rfl) (by kernel_rfl) (by kernel_rfl) (fun _ _ _ h => h) (by rfl) ?_ hHeld ?_
        rotate_left
        · (intro w hSw; obtain ⟨S1, S2, p0, p1, p2, p3, p4, p5⟩ := hSw; obtain ⟨z0, z1, z2, z3, z4, z5, z6⟩ := Blk.six (by exact S1); obtain ⟨y0, y1, y2, y3, y4, y5, y6⟩ := Blk.six (by exact S2); go_simp; (try with_reducible rfl))
        (try simp only [Act.put, List.setIfInBounds_toArray, List.set_cons_zero, List.set_cons_succ])
        refine take_yes (i := 17) (v := ?_) rfl (by kernel_rfl) (by kernel_rfl) (by kernel_rfl) (fun _ _ _ h => h) (by rfl) ?_ hHeld ?_
        rotate_left
        · (intro w hSw; obtain ⟨S1, S2, p0, p1, p2, p3, p4, p5⟩ := hSw; obtain ⟨z0, z1, z2, z3, z4, z5, z6⟩ := Blk.six (by exact S1); obtain ⟨y0, y1, y2, y3, y4, y5, y6⟩ := Blk.six (by exact S2); go_simp; (try with_reducible rfl))
        (try simp only [Act.put, List.setIfInBounds_toArray, List.set_cons_zero, List.set_cons_succ])
        refine take_yes (i := 18) (v := ?_) rfl (by kernel_rfl) (by kernel_rfl) (by kernel_rfl) (fun _ _ _ h => h) (by rfl) ?_ hHeld ?_
        rotate_left
        · (intro w hSw; obtain ⟨S1, S2, p0, p1, p2, p3, p4, p5⟩ := hSw; obtain ⟨z0, z1, z2, z3, z4, z5, z6⟩ := Blk.six (by exact S1); obtain ⟨y0, y1, y2, y3, y4, y5, y6⟩ := Blk.six (by exact S2); go_simp; (try with_reducible rfl))
        (try simp only [Act.put, List.setIfInBounds_toArray, List.set_cons_zero, List.set_cons_succ])
        refine take_yes (i := 19) (v := ?_) rfl (by kernel_rfl) (by kernel_rfl) (by kernel_rfl) (fun _ _ _ h => h) (by rfl) ?_ hHeld ?_
        rotate_left
        · (intro w hSw; obtain ⟨S1, S2, p0, p1, p2, p3, p4, p5⟩ := hSw; obtain ⟨z0, z1, z2, z3, z4, z5, z6⟩ := Blk.six (by exact S1); obtain ⟨y0, y1, y2, y3, y4, y5, y6⟩ := Blk.six (by exact S2); go_simp; (try with_reducible rfl))
        (try simp only [Act.put, List.setIfInBounds_toArray, List.set_cons_zero, List.set_cons_succ])
        refine take_step (i := 20) rfl (by kernel_rfl) (fun K hK => ?_)
        go_simp
        (go_at_call 28; refine (ho _).mono ?_; rintro e w4 ⟨rfl, h4⟩; have hx4 := hx3.below h4 hx3.lt; have hk4 := hk3.below h4 hk3.lt; have hlw4 := hlw3.trans (h4.mono hlw3.size))
        (try go_wp2_with fail)
        refine hK.out _ _ (⟨hx4, hk4, by rw [hlw4.cell (by exact hbb'), hlw4.cell (by exact hbb'), hlw4.cell (by exact hbb'), hlw4.cell (by exact hbb'), hlw4.cell (by exact hbb'), hlw4.cell (by exact hbb')]; exact ⟨r0, r1, r2, r3, r4, r5⟩⟩) (fun hHeld => ?_)
        clear hK K
        (try simp only [Act.put, List.setIfInBounds_toArray, List.set_cons_zero, List.set_cons_succ])
        refine take_yes (i := 21) (v := ?_) rfl (by kernel_rfl) (by kernel_rfl) (by kernel_rfl) (fun _ _ _ h => h) (by rfl) ?_ hHeld ?_
        rotate_left
        · (intro w hSw; obtain ⟨S1, S2, p0, p1, p2, p3, p4, p5⟩ := hSw; obtain ⟨z0, z1, z2, z3, z4, z5, z6⟩ := Blk.six (by exact S1); obtain ⟨y0, y1, y2, y3, y4, y5, y6⟩ := Blk.six (by exact S2); go_simp; (try with_reducible rfl))
        (try simp only [Act.put, List.setIfInBounds_toArray, List.set_cons_zero, List.set_cons_succ])
        refine take_yes (i := 22) (v := ?_) rfl (by kernel_rfl) (by kernel_rfl) (by kernel_rfl) (fun _ _ _ h => h) (by rfl) ?_ hHeld ?_
        rotate_left
        · (intro w hSw; obtain ⟨S1, S2, p0, p1, p2, p3, p4, p5⟩ := hSw; obtain ⟨z0, z1, z2, z3, z4, z5, z6⟩ := Blk.six (by exact S1); obtain ⟨y0, y1, y2, y3, y4, y5, y6⟩ := Blk.six (by exact S2); go_simp; (try with_reducible rfl))
        (try simp only [Act.put, List.setIfInBounds_toArray, List.set_cons_zero, List.set_cons_succ])
        refine wpAnyH_done (by kernel_rfl) ?_ _
        have hbel2 : Below w0.heap.size w0 _ := hbel.trans (((hl2.trans (h3.mono hl2.size)).trans (h4.mono (hl2.trans (h3.mono hl2.size)).size)).mono sz)
        clear hx2 hk2 hx4 hk4 hHeld hx3 hk3
        go_wp2
        go_roundw
        case rel => exact ⟨i + 1 + 1, by omega, by go_num, hbel2⟩
        case measure => simp [intOf]; omega
    · have ej : j = l.length := by omega
      subst ej
      have q5 := hx1.cell 5
      simp at q5
      clear hr hrow
      go_wp2
      go_loopw [42] (fun i w' => i = .int .i64 0 ∧ w' = wr) (fun _ _ => 0)
      case atStart => exact ⟨rfl, rfl⟩
      case round =>
        obtain ⟨rfl, rfl⟩ := hrel
        go_wp2
        go_ret
        exact ⟨rfl, hlw⟩

    end Go.Proofs.YtpmfjbmfjfhghaaGreat
