/-
  'laws.FnVariadic': THE WALK (laid by gen_variadic.py).
-/
import Derived.Test.YtpmfjbmfjfhghaaGreatFuncAll
namespace Go.Proofs.YtpmfjbmfjfhghaaGreat
open Go.RowKit

set_option maxHeartbeats 4000000 in
set_option maxRecDepth 100000 in
theorem fnVariadic_walk (A : Option Addr) (l : List Tr) (c : Nat) (xs : List Value) (a : Tr) (ca : List Value) (n : Int) (w : World) (hlc : l.length ≤ c) (hr : repIs w (fun b => b < w.heap.size) l xs) (hrow : rowAt w (fun b => b < w.heap.size) A xs) (ha : TA w a ca) (hb : Tr.bulks l + 5 * l.length + 1 ≤ 1048576) :
    Calls Tryz.prog 9 #[.slice A l.length c, .agg ca.toArray, .int .i64 n] w (TruePost w) := by
  obtain ⟨na, ta, A1, a1, A2, a2, A3, a3, rfl⟩ := ha.rep.shape
  have hA0 : Blk (w.alloc (.cells #[.int .i64 a.kind, .string na, .string ta, .slice A1 a.keys.length a1, .slice A2 a.kids.length a2, .slice A3 a.more.length a3] 25)) (w.heap.size) 25 #[.int .i64 a.kind, .string na, .string ta, .slice A1 a.keys.length a1, .slice A2 a.kids.length a2, .slice A3 a.more.length a3] := by simpa using (Blk.new (w) _ _)
  have hl0 : Below w.heap.size w (w.alloc (.cells #[.int .i64 a.kind, .string na, .string ta, .slice A1 a.keys.length a1, .slice A2 a.kids.length a2, .slice A3 a.more.length a3] 25)) := (Below.refl w.heap.size w).alloc (Nat.le_refl _) _
  have hlen : (l.length : Int) ≤ 1048576 := by omega
  have HB := Lib.hid hb
  clear hb
  go_enter Tryz.func9, Tryz.ntmps9
  go_wp2_with fail
  refine (ha.fits hl0).mono ?_
  rintro e w1 ⟨rfl, h1⟩
  have hA1 := hA0.below h1 hA0.lt
  have hl1 := hl0.trans (h1.mono hl0.size)
  clear hA0 hl0 h1
  by_cases h12 : 12 < (l.length : Int)
  · skip
    go_wp2_with fail
    refine (works_any _).mono ?_
    rintro e wz ⟨rfl, hz⟩
    go_wp2
    go_ret
    exact ⟨rfl, hl1.trans (hz.mono hl1.size)⟩
  have hr1 := hr.kept (Kept.of_below (X := fun b => b < w.heap.size) hl1 fun _ h => h) (fun _ h => h) (upB hl1)
  have hrow1 := rowAt_up hrow hl1
  have hp := lawProper_any l A c xs w1 _ hr1 hrow1 (by have := HB.out; omega) fun _ h => h
  clear hr1 hrow1
  go_wp2_with fail
  refine (hp).mono ?_
  rintro e w2 ⟨bp, rfl, hbp, h2⟩
  have HBP := Lib.hid hbp
  clear hp hbp
  have hA2 := hA1.below h2 hA1.lt
  have hl2 := hl1.trans (h2.mono hl1.size)
  clear hA1 hl1 h2
  cases bp with
  | false =>
    go_wp2_with fail
    refine (works_any _).mono ?_
    rintro e wz ⟨rfl, hz⟩
    go_wp2
    go_ret
    exact ⟨rfl, hl2.trans (hz.mono hl2.size)⟩
  | true =>
    have HF := Lib.hid (HBP.out.1 rfl)
    clear HBP
    obtain ⟨q0, q1, q2, q3, q4, q5, q6⟩ := hA2.six
    have hp := ha.proper1 (c := 1) (hl2.alloc hl2.size (.cells #[.int .i64 a.kind, .string na, .string ta, .slice A1 a.keys.length a1, .slice A2 a.kids.length a2, .slice A3 a.more.length a3] 25)) (new_row [.int .i64 a.kind, .string na, .string ta, .slice A1 a.keys.length a1, .slice A2 a.kids.length a2, .slice A3 a.more.length a3] _)
    have hA3 := hA2.alloc (.cells #[.int .i64 a.kind, .string na, .string ta, .slice A1 a.keys.length a1, .slice A2 a.kids.length a2, .slice A3 a.more.length a3] 25)
    have hl3 := hl2.alloc hl2.size  (.cells #[.int .i64 a.kind, .string na, .string ta, .slice A1 a.keys.length a1, .slice A2 a.kids.length a2, .slice A3 a.more.length a3] 25)
    go_wp2_with fail
    refine (hp).mono ?_
    rintro e w4 ⟨bq, rfl, hbq, h4⟩
    have HBQ := Lib.hid hbq
    clear hp hbq hA2 hl2
    have hA4 := hA3.below h4 hA3.lt
    have hl4 := hl3.trans (h4.mono hl3.size)
    clear q0 q1 q2 q3 q4 q5 q6
    clear hA3 hl3 h4
    cases bq with
    | false =>
      go_wp2_with fail
      refine (works_any _).mono ?_
      rintro e wz ⟨rfl, hz⟩
      go_wp2
      go_ret
      exact ⟨rfl, hl4.trans (hz.mono hl4.size)⟩
    | true =>
      have n1 : Nice a := (HBQ.out.1 rfl).nice ha.bulk
      clear HBQ
      by_cases hi : n < (l.length : Int)
      · have hi' : decide (n < (l.length : Int)) = true := decide_eq_true hi
        go_wp2_with fail
        refine (works_any _).mono ?_
        rintro e wz ⟨rfl, hz⟩
        go_wp2
        go_ret
        exact ⟨rfl, hl4.trans (hz.mono hl4.size)⟩
      by_cases hj : 100 < n
      · have hj' : decide (100 < n) = true := decide_eq_true hj
        go_wp2_with fail
        refine (works_any _).mono ?_
        rintro e wz ⟨rfl, hz⟩
        go_wp2
        go_ret
        exact ⟨rfl, hl4.trans (hz.mono hl4.size)⟩
      obtain ⟨m, rfl⟩ := Int.eq_ofNat_of_zero_le (by omega : 0 ≤ n)
      have hi' : decide ((m : Int) < (l.length : Int)) = false := decide_eq_false hi
      have hj' : decide (100 < (m : Int)) = false := decide_eq_false hj
      obtain ⟨q0, q1, q2, q3, q4, q5, q6⟩ := hA4.six
      have hbl : Below w.heap.size w ((w4.alloc (.cells #[.int .i64 0, .string ⟨#[]⟩, .string ⟨#[]⟩, .slice none 0 0, .slice none 0 0, .slice none 0 0, .int .i64 a.kind, .string na, .string ta, .slice A1 a.keys.length a1, .slice A2 a.kids.length a2, .slice A3 a.more.length a3] 25)).alloc (.cells #[.int .i64 9, .string ⟨#[]⟩, .string ⟨#[]⟩, .slice none 0 0, .slice A l.length c, .slice (some ⟨w4.heap.size, 0, none⟩) 2 2] 25)) := (hl4.alloc hl4.size _).alloc (by have := hl4.size; simp; omega) _
      have hbn : Below w4.heap.size w4 ((w4.alloc (.cells #[.int .i64 0, .string ⟨#[]⟩, .string ⟨#[]⟩, .slice none 0 0, .slice none 0 0, .slice none 0 0, .int .i64 a.kind, .string na, .string ta, .slice A1 a.keys.length a1, .slice A2 a.kids.length a2, .slice A3 a.more.length a3] 25)).alloc (.cells #[.int .i64 9, .string ⟨#[]⟩, .string ⟨#[]⟩, .slice none 0 0, .slice A l.length c, .slice (some ⟨w4.heap.size, 0, none⟩) 2 2] 25)) := ((Below.refl _ _).alloc (Nat.le_refl _) _).alloc (by simp) _
      have hAf : Blk ((w4.alloc (.cells #[.int .i64 0, .string ⟨#[]⟩, .string ⟨#[]⟩, .slice none 0 0, .slice none 0 0, .slice none 0 0, .int .i64 a.kind, .string na, .string ta, .slice A1 a.keys.length a1, .slice A2 a.kids.length a2, .slice A3 a.more.length a3] 25)).alloc (.cells #[.int .i64 9, .string ⟨#[]⟩, .string ⟨#[]⟩, .slice none 0 0, .slice A l.length c, .slice (some ⟨w4.heap.size, 0, none⟩) 2 2] 25)) w.heap.size 25 #[.int .i64 a.kind, .string na, .string ta, .slice A1 a.keys.length a1, .slice A2 a.kids.length a2, .slice A3 a.more.length a3] := (hA4.alloc _).alloc _
      have hfr : repI ((w4.alloc (.cells #[.int .i64 0, .string ⟨#[]⟩, .string ⟨#[]⟩, .slice none 0 0, .slice none 0 0, .slice none 0 0, .int .i64 a.kind, .string na, .string ta, .slice A1 a.keys.length a1, .slice A2 a.kids.length a2, .slice A3 a.more.length a3] 25)).alloc (.cells #[.int .i64 9, .string ⟨#[]⟩, .string ⟨#[]⟩, .slice none 0 0, .slice A l.length c, .slice (some ⟨w4.heap.size, 0, none⟩) 2 2] 25)) (fun b => b < ((w4.alloc (.cells #[.int .i64 0, .string ⟨#[]⟩, .string ⟨#[]⟩, .slice none 0 0, .slice none 0 0, .slice none 0 0, .int .i64 a.kind, .string na, .string ta, .slice A1 a.keys.length a1, .slice A2 a.kids.length a2, .slice A3 a.more.length a3] 25)).alloc (.cells #[.int .i64 9, .string ⟨#[]⟩, .string ⟨#[]⟩, .slice none 0 0, .slice A l.length c, .slice (some ⟨w4.heap.size, 0, none⟩) 2 2] 25)).heap.size) (.mk 9 [] l [.mk 0 [] [] [], a]) [.int .i64 9, .string ⟨#[]⟩, .string ⟨#[]⟩, .slice none 0 0, .slice A l.length c, .slice (some ⟨w4.heap.size, 0, none⟩) 2 2] := by
        simp only [repI, List.length_nil, List.length_cons]
        refine ⟨_, _, none, 0, A, c, some ⟨w4.heap.size, 0, none⟩, 2, xs, [.int .i64 0, .string ⟨#[]⟩, .string ⟨#[]⟩, .slice none 0 0, .slice none 0 0, .slice none 0 0, .int .i64 a.kind, .string na, .string ta, .slice A1 a.keys.length a1, .slice A2 a.kids.length a2, .slice A3 a.more.length a3], rfl, ⟨by decide, by decide, Nat.le_refl _, hlc, Nat.le_refl _⟩, rowAt.nil, rowAt_up hrow hbl, hr.kept (Kept.of_below (X := fun b => b < w.heap.size) hbl fun _ h => h) (fun _ h => h) (upB hbl), rowAt_up (new_row [.int .i64 0, .string ⟨#[]⟩, .string ⟨#[]⟩, .slice none 0 0, .slice none 0 0, .slice none 0 0, .int .i64 a.kind, .string na, .string ta, .slice A1 a.keys.length a1, .slice A2 a.kids.length a2, .slice A3 a.more.length a3] 25) ((Below.refl _ _).alloc (Nat.le_refl _) _), ?_⟩
        simp only [repIs]
        exact ⟨[.int .i64 0, .string ⟨#[]⟩, .string ⟨#[]⟩, .slice none 0 0, .slice none 0 0, .slice none 0 0], [.int .i64 a.kind, .string na, .string ta, .slice A1 a.keys.length a1, .slice A2 a.kids.length a2, .slice A3 a.more.length a3], rfl, (none_rep0 _).keep (fun _ h => h.elim) fun _ _ => rfl, [.int .i64 a.kind, .string na, .string ta, .slice A1 a.keys.length a1, .slice A2 a.kids.length a2, .slice A3 a.more.length a3], [], by simp, (ha.up hbl).rep, rfl⟩
      have hfn := arg_variadic l (.mk 0 [] [] []) a (by omega) (fun t ht => (HF.out t ht).nice (by have := Tr.bulk_mem ht; have := HB.out; omega)) rfl n1 m (by omega) _ _ _ hfr fun _ h => h
      have harg := argument_any (norm a) 9 ⟨#[]⟩ ⟨#[]⟩ none A (some ⟨w4.heap.size, 0, none⟩) 0 0 l.length c 2 2 (m : Int) _ (by omega) hfn
      have hg := n1.1.good
      have nn : Nice (norm a) := ⟨norm_proper a n1.1, by rw [norm_bulk a hg]; exact n1.2⟩
      have hz : cmp (norm (norm a)) (norm a) = 0 := by rw [norm_norm a hg]; exact cmp_self (norm_good a hg).1
      clear hfr hfn hbn
      go_wp2_with fail
      refine harg.mono ?_
      rintro e wx ⟨cs', rfl, hx, hxb⟩
      obtain ⟨nx, tx, X1, x1, X2, x2, X3, x3, rfl⟩ := hx.shape
      have hlx := hbl.trans (hxb.mono hbl.size)
      have hAx := hAf.below hxb hAf.lt
      have htx : TA wx (norm a) [.int .i64 (norm a).kind, .string nx, .string tx, .slice X1 (norm a).keys.length x1, .slice X2 (norm a).kids.length x2, .slice X3 (norm a).more.length x3] := ⟨hx.kept (Kept.refl (fun _ => True) _) (fun _ _ => trivial) fun _ hb => hb.2, nn.2⟩
      have hax := ha.up hlx
      clear harg hbl hxb hx hAf hg
      clear q0 q1 q2 q3 q4 q5 q6
      obtain ⟨q0, q1, q2, q3, q4, q5, q6⟩ := hAx.six
      have hby : Below wx.heap.size wx (wx.alloc (.cells #[.int .i64 (norm a).kind, .string nx, .string tx, .slice X1 (norm a).keys.length x1, .slice X2 (norm a).kids.length x2, .slice X3 (norm a).more.length x3] 25)) := (Below.refl _ _).alloc (Nat.le_refl _) _
      go_wp2_with fail
      refine (int_to (htx.cmp hax nn n1 hby) hz).mono ?_
      rintro e wy ⟨rfl, hyb⟩
      have hly := hlx.trans ((hby.trans (hyb.mono hby.size)).mono hlx.size)
      clear q0 q1 q2 q3 q4 q5 q6 hby hyb htx hax hAx
      go_wp2_with fail
      refine (works_any _).mono ?_
      rintro e wz ⟨rfl, hz'⟩
      go_wp2
      go_ret
      exact ⟨rfl, hly.trans (hz'.mono hly.size)⟩

end Go.Proofs.YtpmfjbmfjfhghaaGreat
