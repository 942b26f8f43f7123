/-
  'laws.FnOrder': THE WALK. (First seat only.)
-/
import Derived.Test.YtpmfjbmfjfhghaaFits
namespace Go.Proofs.Ytpmfjbmfjfhghaa
open Go.RowKit

theorem Blk.six {w : World} {g : Nat} {T : TypeId} {x0 x1 x2 x3 x4 x5 : Value} (h : Blk w g T #[x0, x1, x2, x3, x4, x5]) :
    w.cell? ⟨g, 0, none⟩ = some x0 ∧ w.cell? ⟨g, 1, none⟩ = some x1 ∧ w.cell? ⟨g, 2, none⟩ = some x2 ∧ w.cell? ⟨g, 3, none⟩ = some x3 ∧ w.cell? ⟨g, 4, none⟩ = some x4 ∧ w.cell? ⟨g, 5, none⟩ = some x5 ∧ g < w.heap.size :=
  ⟨h.cell 0, h.cell 1, h.cell 2, h.cell 3, h.cell 4, h.cell 5, h.lt⟩

theorem Fine.nice {t : Tr} (h : Fine t) (hb : t.bulk ≤ 1048576) : Nice t := ⟨h.1, hb⟩

set_option maxHeartbeats 4000000 in
set_option maxRecDepth 100000 in
theorem fnOrder_walk (a b c : Tr) (ca cb cc : List Value) (w : World) (ha : repI w (fun b => b < w.heap.size) a ca) (hb : repI w (fun b => b < w.heap.size) b cb) (hc : repI w (fun b => b < w.heap.size) c cc) (ba : a.bulk ≤ 1048576) (bb : b.bulk ≤ 1048576) (bc : c.bulk ≤ 1048576) (bs : a.bulk + b.bulk + c.bulk ≤ 1048576) :
    Calls Try.prog 3 #[.agg ca.toArray, .agg cb.toArray, .agg cc.toArray] w (TruePost w) := by
  have keepI : ∀ {t : Tr} {cs : List Value} {W : World}, repI w (fun b => b < w.heap.size) t cs → Below w.heap.size w W → repI W (fun b => b < w.heap.size) t cs := fun h hW => h.kept (Kept.of_below (X := fun b => b < w.heap.size) hW fun _ h => h) (fun _ h => h) fun _ h => h
  have upI : ∀ {W : World}, Below w.heap.size w W → ∀ b, b < w.heap.size → b < W.heap.size := fun hW b hb => Nat.lt_of_lt_of_le hb hW.size
  have hfa : ∀ W, Below w.heap.size w W → Calls Try.prog 4 #[.agg ca.toArray] W (TruePost W) := fun W hW => fits1_any a ca W _ (keepI ha hW) (upI hW) ba
  have hfb : ∀ W, Below w.heap.size w W → Calls Try.prog 4 #[.agg cb.toArray] W (TruePost W) := fun W hW => fits1_any b cb W _ (keepI hb hW) (upI hW) bb
  have hfc : ∀ W, Below w.heap.size w W → Calls Try.prog 4 #[.agg cc.toArray] W (TruePost W) := fun W hW => fits1_any c cc W _ (keepI hc hW) (upI hW) bc
  have hpr : ∀ W A, Below w.heap.size w W → rowAt W (fun b => b < W.heap.size) A (ca ++ (cb ++ (cc ++ []))) → Calls Try.prog 5 #[.slice A 3 3] W (BoolPost (∀ t ∈ [a, b, c], Fine t) W) := fun W A hW hA =>
    lawProper_any [a, b, c] A 3 (ca ++ (cb ++ (cc ++ []))) W (fun b => b < W.heap.size) (by
      simp only [repIs]
      exact ⟨ca, _, rfl, (keepI ha hW).kept (X := fun _ => True) (Kept.refl _ _) (fun _ _ => trivial) (upI hW), cb, _, rfl, (keepI hb hW).kept (X := fun _ => True) (Kept.refl _ _) (fun _ _ => trivial) (upI hW), cc, _, rfl, (keepI hc hW).kept (X := fun _ => True) (Kept.refl _ _) (fun _ _ => trivial) (upI hW), rfl⟩) hA (by simp only [Tr.bulks]; omega) (fun _ h => h)
  have hcmp : ∀ (W : World) (t t' : Tr) (cs cs' : List Value), Below w.heap.size w W → repI w (fun b => b < w.heap.size) t cs → repI w (fun b => b < w.heap.size) t' cs' → Nice t → Nice t' → Calls Try.prog 7 #[.agg cs.toArray, .agg cs'.toArray] W (IntPost (cmp (norm t) (norm t')) W) := fun W t t' cs cs' hW h h' n n' =>
    implCompare_any t t' cs cs' W _ _ (keepI h hW) (keepI h' hW) (upI hW) (upI hW) n n'
  have hw := fun W => works_any W
  have cab := fun W hW => hcmp W a b ca cb hW ha hb
  have cbc := fun W hW => hcmp W b c cb cc hW hb hc
  have cac := fun W hW => hcmp W a c ca cc hW ha hc
  have caa := fun W hW => hcmp W a a ca ca hW ha ha
  have cba := fun W hW => hcmp W b a cb ca hW hb ha
  obtain ⟨na, ta, A1, a1, A2, a2, A3, a3, rfl⟩ := ha.shape
  obtain ⟨nb, tb, B1, b1, B2, b2, B3, b3, rfl⟩ := hb.shape
  obtain ⟨nc, tc, C1, c1, C2, c2, C3, c3, rfl⟩ := hc.shape
  have bnd : Nice a → Nice b → Nice c → (-1 ≤ cmp (norm a) (norm b) ∧ cmp (norm a) (norm b) ≤ 1) ∧ (-1 ≤ cmp (norm b) (norm c) ∧ cmp (norm b) (norm c) ≤ 1) ∧ -1 ≤ cmp (norm a) (norm c) ∧ Tri (cmp (norm a) (norm b)) (cmp (norm b) (norm c)) (cmp (norm a) (norm c)) ∧ cmp (norm b) (norm a) = - cmp (norm a) (norm b) ∧ cmp (norm a) (norm a) = 0 := fun n1 n2 n3 =>
    ⟨cmp_linear.rng _ _ n1.norm_good n2.norm_good, cmp_linear.rng _ _ n2.norm_good n3.norm_good, (cmp_linear.rng _ _ n1.norm_good n3.norm_good).1, cmp_linear.tri _ _ _ n1.norm_good n2.norm_good n3.norm_good, cmp_linear.anti _ _ n1.norm_good n2.norm_good, cmp_self n1.norm_good⟩
  have BND := Lib.hid bnd
  have BA := Lib.hid ba
  have BB := Lib.hid bb
  have BC := Lib.hid bc
  obtain ⟨X, eX⟩ : ∃ X, X = cmp (norm a) (norm b) := ⟨_, rfl⟩
  obtain ⟨Y, eY⟩ : ∃ Y, Y = cmp (norm b) (norm c) := ⟨_, rfl⟩
  obtain ⟨Z, eZ⟩ : ∃ Z, Z = cmp (norm a) (norm c) := ⟨_, rfl⟩
  rw [← eX] at cab
  rw [← eY] at cbc
  rw [← eZ] at cac
  have EX := Lib.hid eX
  have EY := Lib.hid eY
  have EZ := Lib.hid eZ
  clear ha hb hc hcmp keepI upI bnd ba bb bc bs eX eY eZ
  have hA0 : Blk (((w.alloc (.cells #[.int .i64 a.kind, .string na, .string ta, .slice A1 a.keys.length a1, .slice A2 a.kids.length a2, .slice A3 a.more.length a3] 25)).alloc (.cells #[.int .i64 b.kind, .string nb, .string tb, .slice B1 b.keys.length b1, .slice B2 b.kids.length b2, .slice B3 b.more.length b3] 25)).alloc (.cells #[.int .i64 c.kind, .string nc, .string tc, .slice C1 c.keys.length c1, .slice C2 c.kids.length c2, .slice C3 c.more.length c3] 25)) w.heap.size 25 #[.int .i64 a.kind, .string na, .string ta, .slice A1 a.keys.length a1, .slice A2 a.kids.length a2, .slice A3 a.more.length a3] := ((Blk.new w _ _).alloc _).alloc _
  have hB0 : Blk (((w.alloc (.cells #[.int .i64 a.kind, .string na, .string ta, .slice A1 a.keys.length a1, .slice A2 a.kids.length a2, .slice A3 a.more.length a3] 25)).alloc (.cells #[.int .i64 b.kind, .string nb, .string tb, .slice B1 b.keys.length b1, .slice B2 b.kids.length b2, .slice B3 b.more.length b3] 25)).alloc (.cells #[.int .i64 c.kind, .string nc, .string tc, .slice C1 c.keys.length c1, .slice C2 c.kids.length c2, .slice C3 c.more.length c3] 25)) (w.heap.size + 1) 25 #[.int .i64 b.kind, .string nb, .string tb, .slice B1 b.keys.length b1, .slice B2 b.kids.length b2, .slice B3 b.more.length b3] := by simpa using (Blk.new (w.alloc _) _ _).alloc _
  have hC0 : Blk (((w.alloc (.cells #[.int .i64 a.kind, .string na, .string ta, .slice A1 a.keys.length a1, .slice A2 a.kids.length a2, .slice A3 a.more.length a3] 25)).alloc (.cells #[.int .i64 b.kind, .string nb, .string tb, .slice B1 b.keys.length b1, .slice B2 b.kids.length b2, .slice B3 b.more.length b3] 25)).alloc (.cells #[.int .i64 c.kind, .string nc, .string tc, .slice C1 c.keys.length c1, .slice C2 c.kids.length c2, .slice C3 c.more.length c3] 25)) (w.heap.size + 1 + 1) 25 #[.int .i64 c.kind, .string nc, .string tc, .slice C1 c.keys.length c1, .slice C2 c.kids.length c2, .slice C3 c.more.length c3] := by simpa using Blk.new ((w.alloc _).alloc _) _ _
  have hl0 : Below w.heap.size w (((w.alloc (.cells #[.int .i64 a.kind, .string na, .string ta, .slice A1 a.keys.length a1, .slice A2 a.kids.length a2, .slice A3 a.more.length a3] 25)).alloc (.cells #[.int .i64 b.kind, .string nb, .string tb, .slice B1 b.keys.length b1, .slice B2 b.kids.length b2, .slice B3 b.more.length b3] 25)).alloc (.cells #[.int .i64 c.kind, .string nc, .string tc, .slice C1 c.keys.length c1, .slice C2 c.kids.length c2, .slice C3 c.more.length c3] 25)) := (((Below.refl _ _).alloc (Nat.le_refl _) _).alloc (by simp) _).alloc (by simp; omega) _
  go_enter Try.func3, Try.ntmps3
  go_wp2_with fail
  refine (hfa _ hl0).mono ?_
  rintro e w1 ⟨rfl, h1⟩
  have hA1 := hA0.below h1 hA0.lt
  have hB1 := hB0.below h1 hB0.lt
  have hC1 := hC0.below h1 hC0.lt
  have hl1 := hl0.trans (h1.mono hl0.size)
  clear hfa hA0 hB0 hC0 hl0 h1
  obtain ⟨q0, q1, q2, q3, q4, q5, q6⟩ := hB1.six
  go_wp2_with fail
  refine (hfb _ hl1).mono ?_
  rintro e w2 ⟨rfl, h2⟩
  have hA2 := hA1.below h2 hA1.lt
  have hB2 := hB1.below h2 hB1.lt
  have hC2 := hC1.below h2 hC1.lt
  have hl2 := hl1.trans (h2.mono hl1.size)
  clear hfb hA1 hB1 hC1 hl1 h2 q0 q1 q2 q3 q4 q5 q6
  obtain ⟨q0, q1, q2, q3, q4, q5, q6⟩ := hC2.six
  go_wp2_with fail
  refine (hfc _ hl2).mono ?_
  rintro e w3 ⟨rfl, h3⟩
  have hA3 := hA2.below h3 hA2.lt
  have hB3 := hB2.below h3 hB2.lt
  have hC3 := hC2.below h3 hC2.lt
  have hl3 := hl2.trans (h3.mono hl2.size)
  clear hfc hA2 hB2 hC2 hl2 h3 q0 q1 q2 q3 q4 q5 q6
  obtain ⟨q0, q1, q2, q3, q4, q5, q6⟩ := hA3.six
  obtain ⟨r0, r1, r2, r3, r4, r5, r6⟩ := hB3.six
  obtain ⟨s0, s1, s2, s3, s4, s5, s6⟩ := hC3.six
  have hp := hpr (w3.alloc (.cells #[.int .i64 a.kind, .string na, .string ta, .slice A1 a.keys.length a1, .slice A2 a.kids.length a2, .slice A3 a.more.length a3, .int .i64 b.kind, .string nb, .string tb, .slice B1 b.keys.length b1, .slice B2 b.kids.length b2, .slice B3 b.more.length b3, .int .i64 c.kind, .string nc, .string tc, .slice C1 c.keys.length c1, .slice C2 c.kids.length c2, .slice C3 c.more.length c3] 25)) (some ⟨w3.heap.size, 0, none⟩) (hl3.alloc hl3.size _) (fun j u hu => ⟨w3.heap.size, 0, rfl, by simp, by rw [(Blk.new _ _ _).cell]; simpa using hu⟩)
  have hb9 := hl3.alloc hl3.size (.cells #[.int .i64 a.kind, .string na, .string ta, .slice A1 a.keys.length a1, .slice A2 a.kids.length a2, .slice A3 a.more.length a3, .int .i64 b.kind, .string nb, .string tb, .slice B1 b.keys.length b1, .slice B2 b.kids.length b2, .slice B3 b.more.length b3, .int .i64 c.kind, .string nc, .string tc, .slice C1 c.keys.length c1, .slice C2 c.kids.length c2, .slice C3 c.more.length c3] 25)
  have hA4 := hA3.alloc (.cells #[.int .i64 a.kind, .string na, .string ta, .slice A1 a.keys.length a1, .slice A2 a.kids.length a2, .slice A3 a.more.length a3, .int .i64 b.kind, .string nb, .string tb, .slice B1 b.keys.length b1, .slice B2 b.kids.length b2, .slice B3 b.more.length b3, .int .i64 c.kind, .string nc, .string tc, .slice C1 c.keys.length c1, .slice C2 c.kids.length c2, .slice C3 c.more.length c3] 25)
  have hB4 := hB3.alloc (.cells #[.int .i64 a.kind, .string na, .string ta, .slice A1 a.keys.length a1, .slice A2 a.kids.length a2, .slice A3 a.more.length a3, .int .i64 b.kind, .string nb, .string tb, .slice B1 b.keys.length b1, .slice B2 b.kids.length b2, .slice B3 b.more.length b3, .int .i64 c.kind, .string nc, .string tc, .slice C1 c.keys.length c1, .slice C2 c.kids.length c2, .slice C3 c.more.length c3] 25)
  have hC4 := hC3.alloc (.cells #[.int .i64 a.kind, .string na, .string ta, .slice A1 a.keys.length a1, .slice A2 a.kids.length a2, .slice A3 a.more.length a3, .int .i64 b.kind, .string nb, .string tb, .slice B1 b.keys.length b1, .slice B2 b.kids.length b2, .slice B3 b.more.length b3, .int .i64 c.kind, .string nc, .string tc, .slice C1 c.keys.length c1, .slice C2 c.kids.length c2, .slice C3 c.more.length c3] 25)
  clear hpr
  go_wp2_with fail
  refine hp.mono ?_
  rintro e w5 ⟨bp, rfl, hbp, h5⟩
  have HBP := Lib.hid hbp
  have hA5 := hA4.below h5 hA4.lt
  have hB5 := hB4.below h5 hB4.lt
  have hC5 := hC4.below h5 hC4.lt
  have hl5 := hb9.trans (h5.mono hb9.size)
  clear hp hbp hA3 hB3 hC3 hA4 hB4 hC4 hb9 hl3 h5 q0 q1 q2 q3 q4 q5 q6 r0 r1 r2 r3 r4 r5 r6 s0 s1 s2 s3 s4 s5 s6
  cases bp with
  | false =>
    clear hA5 hB5 hC5 cab cbc cac caa cba
    go_wp2_with fail
    refine (hw _).mono ?_
    rintro e w6 ⟨rfl, h6⟩
    go_wp2
    go_ret
    exact ⟨rfl, hl5.trans (h6.mono hl5.size)⟩
  | true =>
    have hfine := HBP.out.1 rfl
    have n1 : Nice a := (hfine a (by simp)).nice BA.out
    have n2 : Nice b := (hfine b (by simp)).nice BB.out
    have n3 : Nice c := (hfine c (by simp)).nice BC.out
    have hq := BND.out n1 n2 n3
    rw [← EX.out, ← EY.out, ← EZ.out] at hq
    obtain ⟨⟨x1, x2⟩, ⟨y1, y2⟩, z1, htri, hanti, hself⟩ := hq
    have kab := fun W hW => cab W hW n1 n2
    have kbc := fun W hW => cbc W hW n2 n3
    have kac := fun W hW => cac W hW n1 n3
    have kaa := fun W hW => caa W hW n1 n1
    have kba := fun W hW => cba W hW n2 n1
    rw [hself] at kaa
    rw [hanti] at kba
    have HT := Lib.hid htri
    clear cab cbc cac caa cba hfine n1 n2 n3 htri hanti hself
    have hA6 := hA5.drew
    have hB6 := hB5.drew
    have hC6 := hC5.drew
    have hl6 := hl5.drew
    go_wp2_with fail
    go_region_held3 (fun w' => w'.cell? ⟨w.heap.size, 0, none⟩ = some (.int .i64 a.kind) ∧ w'.cell? ⟨w.heap.size, 1, none⟩ = some (.string na) ∧ w'.cell? ⟨w.heap.size, 2, none⟩ = some (.string ta) ∧ w'.cell? ⟨w.heap.size, 3, none⟩ = some (.slice A1 a.keys.length a1) ∧ w'.cell? ⟨w.heap.size, 4, none⟩ = some (.slice A2 a.kids.length a2) ∧ w'.cell? ⟨w.heap.size, 5, none⟩ = some (.slice A3 a.more.length a3) ∧ w'.cell? ⟨w.heap.size + 1, 0, none⟩ = some (.int .i64 b.kind) ∧ w'.cell? ⟨w.heap.size + 1, 1, none⟩ = some (.string nb) ∧ w'.cell? ⟨w.heap.size + 1, 2, none⟩ = some (.string tb) ∧ w'.cell? ⟨w.heap.size + 1, 3, none⟩ = some (.slice B1 b.keys.length b1) ∧ w'.cell? ⟨w.heap.size + 1, 4, none⟩ = some (.slice B2 b.kids.length b2) ∧ w'.cell? ⟨w.heap.size + 1, 5, none⟩ = some (.slice B3 b.more.length b3) ∧ w'.cell? ⟨w.heap.size + 1 + 1, 0, none⟩ = some (.int .i64 c.kind) ∧ w'.cell? ⟨w.heap.size + 1 + 1, 1, none⟩ = some (.string nc) ∧ w'.cell? ⟨w.heap.size + 1 + 1, 2, none⟩ = some (.string tc) ∧ w'.cell? ⟨w.heap.size + 1 + 1, 3, none⟩ = some (.slice C1 c.keys.length c1) ∧ w'.cell? ⟨w.heap.size + 1 + 1, 4, none⟩ = some (.slice C2 c.kids.length c2) ∧ w'.cell? ⟨w.heap.size + 1 + 1, 5, none⟩ = some (.slice C3 c.more.length c3))
      (first | exact ⟨hA6.cell 0, hA6.cell 1, hA6.cell 2, hA6.cell 3, hA6.cell 4, hA6.cell 5, hB6.cell 0, hB6.cell 1, hB6.cell 2, hB6.cell 3, hB6.cell 4, hB6.cell 5, hC6.cell 0, hC6.cell 1, hC6.cell 2, hC6.cell 3, hC6.cell 4, hC6.cell 5⟩ | exact ⟨hA7.cell 0, hA7.cell 1, hA7.cell 2, hA7.cell 3, hA7.cell 4, hA7.cell 5, hB7.cell 0, hB7.cell 1, hB7.cell 2, hB7.cell 3, hB7.cell 4, hB7.cell 5, hC7.cell 0, hC7.cell 1, hC7.cell 2, hC7.cell 3, hC7.cell 4, hC7.cell 5⟩ | exact ⟨hA8.cell 0, hA8.cell 1, hA8.cell 2, hA8.cell 3, hA8.cell 4, hA8.cell 5, hB8.cell 0, hB8.cell 1, hB8.cell 2, hB8.cell 3, hB8.cell 4, hB8.cell 5, hC8.cell 0, hC8.cell 1, hC8.cell 2, hC8.cell 3, hC8.cell 4, hC8.cell 5⟩ | exact ⟨hA9.cell 0, hA9.cell 1, hA9.cell 2, hA9.cell 3, hA9.cell 4, hA9.cell 5, hB9.cell 0, hB9.cell 1, hB9.cell 2, hB9.cell 3, hB9.cell 4, hB9.cell 5, hC9.cell 0, hC9.cell 1, hC9.cell 2, hC9.cell 3, hC9.cell 4, hC9.cell 5⟩)
      (first
        | (go_at_call 7; have z9 := hl8.size; refine (kac _ hl8).mono ?_; rintro e w9 ⟨rfl, h9⟩; have hA9 := hA8.below h9 hA8.lt; have hB9 := hB8.below h9 hB8.lt; have hC9 := hC8.below h9 hC8.lt; have hl9 := hl8.trans (h9.mono hl8.size))
        | (go_at_call 7; have z9 := hl7.size; refine (kbc _ hl7).mono ?_; rintro e w8 ⟨rfl, h8⟩; have hA8 := hA7.below h8 hA7.lt; have hB8 := hB7.below h8 hB7.lt; have hC8 := hC7.below h8 hC7.lt; have hl8 := hl7.trans (h8.mono hl7.size))
        | (go_at_call 7; refine (kab _ hl6).mono ?_; rintro e w7 ⟨rfl, h7⟩; have hA7 := hA6.below h7 hA6.lt; have hB7 := hB6.below h7 hB6.lt; have hC7 := hC6.below h7 hC6.lt; have hl7 := hl6.trans (h7.mono hl6.size)))
    clear hA5 hA6 hA7 hA8 hB5 hB6 hB7 hB8 hC5 hC6 hC7 hC8 hl5 hl6 hl7 hl8 kab kbc kac
    obtain ⟨q0, q1, q2, q3, q4, q5, q6⟩ := hA9.six
    go_wp2_with fail
    refine (kaa _ hl9).mono ?_
    rintro e w10 ⟨rfl, h10⟩
    have hA10 := hA9.below h10 hA9.lt
    have hB10 := hB9.below h10 hB9.lt
    have hC10 := hC9.below h10 hC9.lt
    have hl10 := hl9.trans (h10.mono hl9.size)
    clear q0 q1 q2 q3 q4 q5 q6 hA9 hB9 hC9 hl9 kaa
    obtain ⟨q0, q1, q2, q3, q4, q5, q6⟩ := hA10.six
    obtain ⟨r0, r1, r2, r3, r4, r5, r6⟩ := hB10.six
    go_wp2_with fail
    refine (kba _ hl10).mono ?_
    rintro e w11 ⟨rfl, h11⟩
    have hl11 := hl10.trans (h11.mono hl10.size)
    clear q0 q1 q2 q3 q4 q5 q6 r0 r1 r2 r3 r4 r5 r6 hA10 hB10 hC10 kba
    have fin : ∀ (e : Ending) (W' : World), e = .returned (.bool true) ∧ Below w11.heap.size w11 W' → TruePost w e W' := fun e W' h => ⟨h.1, hl11.trans (h.2.mono hl11.size)⟩
    clear EX EY EZ BND HBP BA BB BC
    have hX : X = -1 ∨ X = 0 ∨ X = 1 := by omega
    have hY : Y = -1 ∨ Y = 0 ∨ Y = 1 := by omega
    rcases hX with rfl | rfl | rfl
    · rcases hY with rfl | rfl | rfl
      · obtain rfl : Z = -1 := by have := HT.out.2.2 (by omega) (by omega); omega
        go_wp2_with fail
        refine (hw _).mono ?_
        rintro e w12 ⟨rfl, h12⟩
        go_wp2
        go_ret
        exact fin _ _ ⟨rfl, h12⟩
      · obtain rfl : Z = -1 := HT.out.2.1 rfl
        go_wp2_with fail
        refine (hw _).mono ?_
        rintro e w12 ⟨rfl, h12⟩
        go_wp2
        go_ret
        exact fin _ _ ⟨rfl, h12⟩
      · go_wp2_with fail
        refine (hw _).mono ?_
        rintro e w12 ⟨rfl, h12⟩
        go_wp2
        go_ret
        exact fin _ _ ⟨rfl, h12⟩
    · obtain rfl : Z = Y := HT.out.1 rfl
      rcases hY with rfl | rfl | rfl
      · go_wp2_with fail
        refine (hw _).mono ?_
        rintro e w12 ⟨rfl, h12⟩
        go_wp2
        go_ret
        exact fin _ _ ⟨rfl, h12⟩
      · go_wp2_with fail
        refine (hw _).mono ?_
        rintro e w12 ⟨rfl, h12⟩
        go_wp2
        go_ret
        exact fin _ _ ⟨rfl, h12⟩
      · go_wp2_with fail
        refine (hw _).mono ?_
        rintro e w12 ⟨rfl, h12⟩
        go_wp2
        go_ret
        exact fin _ _ ⟨rfl, h12⟩
    · go_wp2_with fail
      refine (hw _).mono ?_
      rintro e w12 ⟨rfl, h12⟩
      go_wp2
      go_ret
      exact fin _ _ ⟨rfl, h12⟩

end Go.Proofs.Ytpmfjbmfjfhghaa
