/-
  'spec.In' says which values a type has.
-/
import Derived.Test.YtpmfjbmfjfhghaaGreatIn4
import Derived.Test.YtpmfjbmfjfhghaaGreatPlain5
namespace Go.Proofs.YtpmfjbmfjfhghaaGreat
open Go.RowKit

theorem in_leaf (k : Int) (v : Vl) (hk : k = 1 ∨ k = 2 ∨ k = 3 ∨ k = 4) : InT (.mk k [] [] []) v ↔ (k = 1 ∧ v.kind = 0) ∨ (k = 2 ∧ (v.kind = 1 ∨ v.kind = 2)) ∨ (k = 3 ∧ v.kind = 3) ∨ (k = 4 ∧ v.kind = 4) := by
  simp only [InT, InK]
  omega

/-- The first kids do not have the value. -/
def NoneTo (fs : List (Vl → Prop)) (v : Vl) (j : Nat) : Prop := ∀ i (h : i < fs.length), i < j → ¬ fs[i] v

set_option maxHeartbeats 4000000 in
set_option maxRecDepth 100000 in
theorem in_any (t : Tr) : ProperT t → InOk t := by
  induction t using Tr.ind with
  | h k ks l m il im =>
    intro hp v w B B' cs cs' hv hr hok hvb htb hB hB'
    cases v with
    | mk vk s vks vs =>
    have hv0 := hv
    have hr0 := hr
    simp only [ProperT, ProperTs_iff] at hp
    obtain ⟨hsh, hks, hko, hpl, hpm⟩ := hp
    have il' : ∀ t ∈ l, InOk t := fun t ht => il t ht (hpl t ht)
    have im' : ∀ t ∈ m, InOk t := fun t ht => im t ht (hpm t ht)
    clear il im hpl hpm
    simp only [repV] at hv
    simp only [repS] at hr
    obtain ⟨V1, d1, V2, d2, vxs, rfl, ⟨hd1, hd2⟩, g1, g2, g3⟩ := hv
    obtain ⟨A1, c1, A2, c2, A3, c3, xs, ys, rfl, ⟨hc1, hc2, hc3⟩, h1, h2, h3, h4, h5⟩ := hr
    have hl0 : Below w.heap.size w ((w.alloc (.cells #[.int .i64 vk, .string s, .slice V1 vks.length d1, .slice V2 vs.length d2] 36)).alloc (.cells #[.int .i64 k, .slice A1 ks.length c1, .slice A2 l.length c2, .slice A3 m.length c3] 44)) := ((Below.refl _ _).alloc (Nat.le_refl _) _).alloc (by simp) _
    simp only [Shaped] at hsh
    rcases hsh with ⟨hk, rfl, rfl⟩ | ⟨rfl, hm⟩ | ⟨rfl, hkl, hm⟩ | ⟨rfl, hl, rfl⟩ | ⟨rfl, _, rfl, _⟩
    · obtain rfl := hks (by omega)
      have hin := in_leaf k (.mk vk s vks vs) hk
      simp only [Vl.kind] at hin
      have HIN := Lib.hid hin
      clear hin il' im' hks hko
      rcases hk with rfl | rfl | rfl | rfl
      · go_enter Tryz.func24, Tryz.ntmps24
        go_wp2
        go_ret
        exact ⟨_, rfl, by rw [HIN.out]; simp, hl0⟩
      · by_cases e1 : vk = 1
        · subst e1
          go_enter Tryz.func24, Tryz.ntmps24
          go_wp2
          go_ret
          exact ⟨_, rfl, by rw [HIN.out]; simp, hl0⟩
        · have e2 : (vk == 1) = false := by simpa using e1
          have E1 := Lib.hid e1
          clear e1
          go_enter Tryz.func24, Tryz.ntmps24
          go_wp2
          go_ret
          exact ⟨_, rfl, by rw [HIN.out]; have := E1.out; simp [this], hl0⟩
      · go_enter Tryz.func24, Tryz.ntmps24
        go_wp2
        go_ret
        exact ⟨_, rfl, by rw [HIN.out]; simp, hl0⟩
      · go_enter Tryz.func24, Tryz.ntmps24
        go_wp2
        go_ret
        exact ⟨_, rfl, by rw [HIN.out]; simp, hl0⟩
    · have hin : InT (.mk 5 ks l m) (.mk vk s vks vs) ↔ vk = 5 ∧ ItemsP (InTs l) (InTs m) vs := by simp [InT, InK, Vl.kind, Vl.kids]
      have HIN := Lib.hid hin
      simp only [VOk] at hok
      have hc := items_any 5 vk ks l m s vks vs ((w.alloc (.cells #[.int .i64 vk, .string s, .slice V1 vks.length d1, .slice V2 vs.length d2] 36)).alloc (.cells #[.int .i64 5, .slice A1 ks.length c1, .slice A2 l.length c2, .slice A3 m.length c3] 44)) B B' _ _ (hv0.kept (Kept.of_below (X := fun b => b < w.heap.size) hl0 fun _ h => h) hB fun _ h => h) (hr0.kept (Kept.of_below (X := fun b => b < w.heap.size) hl0 fun _ h => h) hB' fun _ h => h) hok.2 hvb htb (fun b hb => Nat.lt_of_lt_of_le (hB b hb) hl0.size) (fun b hb => Nat.lt_of_lt_of_le (hB' b hb) hl0.size) il' im'
      have HC := Lib.hid hc
      clear hin hc il' im' hks hko hok hv0 hr0 hm
      by_cases e1 : vk = 5
      · subst e1
        go_enter Tryz.func24, Tryz.ntmps24
        go_wp2_with fail
        refine HC.out.mono ?_
        rintro e w1 ⟨b, rfl, hb, hbl⟩
        have HB := Lib.hid hb
        clear hb
        go_wp2
        go_ret
        exact ⟨_, rfl, by rw [HIN.out, HB.out]; simp, hl0.trans (hbl.mono hl0.size)⟩
      · have e2 : (vk == 5) = false := by simpa using e1
        have E1 := Lib.hid e1
        clear e1
        go_enter Tryz.func24, Tryz.ntmps24
        go_wp2
        go_ret
        exact BoolPost.no (by rw [HIN.out]; exact fun h => E1.out h.1) hl0
    · have hin : InT (.mk 6 ks l m) (.mk vk s vks vs) ↔ vk = 6 ∧ PropsP (ks.zip (InTs l)) (InTs m) vks vs := by simp [InT, InK, Vl.kind, Vl.kids, Vl.keys]
      have HIN := Lib.hid hin
      simp only [VOk] at hok
      by_cases e1 : vk = 6
      · subst e1
        have hc : Calls Tryz.prog 45 #[.agg #[.int .i64 6, .string s, .slice V1 vks.length d1, .slice V2 vs.length d2], .agg #[.int .i64 6, .slice A1 ks.length c1, .slice A2 l.length c2, .slice A3 m.length c3]] ((w.alloc (.cells #[.int .i64 6, .string s, .slice V1 vks.length d1, .slice V2 vs.length d2] 36)).alloc (.cells #[.int .i64 6, .slice A1 ks.length c1, .slice A2 l.length c2, .slice A3 m.length c3] 44)) (BoolPost (PropsP (ks.zip (InTs l)) (InTs m) vks vs) ((w.alloc (.cells #[.int .i64 6, .string s, .slice V1 vks.length d1, .slice V2 vs.length d2] 36)).alloc (.cells #[.int .i64 6, .slice A1 ks.length c1, .slice A2 l.length c2, .slice A3 m.length c3] 44))) := by
          have hv1 := hv0.kept (Kept.of_below (X := fun b => b < w.heap.size) hl0 fun _ h => h) hB fun _ h => h
          have hr1 := hr0.kept (Kept.of_below (X := fun b => b < w.heap.size) hl0 fun _ h => h) hB' fun _ h => h
          rcases hm with rfl | hm
          · exact properties_none 6 6 ks l s vks vs _ B B' _ _ hv1 hr1 (hok.1 rfl) hkl hko.nodup hok.2 hvb htb (fun b hb => Nat.lt_of_lt_of_le (hB b hb) hl0.size) (fun b hb => Nat.lt_of_lt_of_le (hB' b hb) hl0.size) il' im'
          · match m, hm with
            | [m0, m1], _ => exact properties_two 6 6 ks l m0 m1 s vks vs _ B B' _ _ hv1 hr1 (hok.1 rfl) hkl hko.nodup hok.2 hvb htb (fun b hb => Nat.lt_of_lt_of_le (hB b hb) hl0.size) (fun b hb => Nat.lt_of_lt_of_le (hB' b hb) hl0.size) il' im'
        have HC := Lib.hid hc
        clear hin hc il' im' hks hko hok hv0 hr0 hm hkl
        go_enter Tryz.func24, Tryz.ntmps24
        go_wp2_with fail
        refine HC.out.mono ?_
        rintro e w1 ⟨b, rfl, hb, hbl⟩
        have HB := Lib.hid hb
        clear hb
        go_wp2
        go_ret
        exact ⟨_, rfl, by rw [HIN.out, HB.out]; simp, hl0.trans (hbl.mono hl0.size)⟩
      · have e2 : (vk == 6) = false := by simpa using e1
        have E1 := Lib.hid e1
        clear e1 hin il' im' hks hko hok hv0 hr0 hm hkl
        go_enter Tryz.func24, Tryz.ntmps24
        go_wp2
        go_ret
        exact BoolPost.no (by rw [HIN.out]; exact fun h => E1.out h.1) hl0
    · have HIN := Lib.hid (show ¬ InT (.mk 7 ks l []) (.mk vk s vks vs) by simp [InT, InK])
      have HL := Lib.hid hl
      clear hl il' im' hks hko
      go_enter Tryz.func24, Tryz.ntmps24
      go_wp2
      go_ret
      exact BoolPost.no HIN.out hl0
    · obtain rfl := hks (by decide)
      have HIN := Lib.hid (InT_any l (.mk vk s vks vs))
      have HI := Lib.hid il'
      have HO := Lib.hid hok
      have hl1 : l.length ≤ 1048576 := by simp only [Tr.bulk] at htb; have := Tr.length_bulks l; omega
      simp only [Tr.bulk] at htb
      have hx0 : Blk ((w.alloc (.cells #[.int .i64 vk, .string s, .slice V1 vks.length d1, .slice V2 vs.length d2] 36)).alloc (.cells #[.int .i64 8, .slice A1 ([] : List Ky).length c1, .slice A2 l.length c2, .slice A3 ([] : List Tr).length c3] 44)) w.heap.size 36 #[.int .i64 vk, .string s, .slice V1 vks.length d1, .slice V2 vs.length d2] := (Blk.new _ _ _).alloc _
      have hy0 : Blk ((w.alloc (.cells #[.int .i64 vk, .string s, .slice V1 vks.length d1, .slice V2 vs.length d2] 36)).alloc (.cells #[.int .i64 8, .slice A1 ([] : List Ky).length c1, .slice A2 l.length c2, .slice A3 ([] : List Tr).length c3] 44)) (w.heap.size + 1) 44 #[.int .i64 8, .slice A1 ([] : List Ky).length c1, .slice A2 l.length c2, .slice A3 ([] : List Tr).length c3] := by simpa using Blk.new (w.alloc _) _ _
      clear il' im' hks hko hr0 hok
      simp only [List.length_nil] at hx0 hy0 hl0
      go_enter Tryz.func24, Tryz.ntmps24
      go_wp2
      generalize (w.alloc (.cells #[.int .i64 vk, .string s, .slice V1 vks.length d1, .slice V2 vs.length d2] 36)).alloc (.cells #[.int .i64 8, .slice A1 0 c1, .slice A2 l.length c2, .slice A3 0 c3] 44) = w0 at *
      have xl := hx0.lt
      have yl := hy0.lt
      go_loopw [59] (fun i wr => ∃ j : Nat, j ≤ l.length ∧ i = .int .i64 j ∧ (∀ q (hq : q < l.length), q < j → ¬ InT l[q] (.mk vk s vks vs)) ∧ Below w0.heap.size w0 wr) (fun i _ => l.length - (intOf i).toNat)
      case atStart => exact ⟨0, Nat.zero_le _, rfl, fun _ _ h => absurd h (by omega), Below.refl _ _⟩
      case round =>
        obtain ⟨j, hj, rfl, hno, hb⟩ := hrel
        have HNO := Lib.hid hno
        clear hno
        have hlw := hl0.trans (hb.mono hl0.size)
        have hsz := hb.size
        have hxr := hx0.below hb xl
        have hyr := hy0.below hb yl
        have x0 := hxr.cell 0
        have x1 := hxr.cell 1
        have x2 := hxr.cell 2
        have x3 := hxr.cell 3
        have xrl := hxr.lt
        have y2 := hyr.cell 2
        simp at x0 x1 x2 x3 y2
        by_cases hlt : j < l.length
        · obtain ⟨b', off', T1, f1, T2, f2, T3, f3, rfl, hbb', hrj, p0, p1, p2, p3⟩ := h3.at_ h2 j hlt
          have hbl' := hB' b' hbb'
          rw [← hlw.cell (by exact hbl')] at p0 p1 p2 p3
          have hbw' : b' < wr.heap.size := by omega
          have hts : l[j].bulk ≤ 1048576 := by have := Tr.bulk_mem (List.getElem_mem hlt); omega
          have hc := fun W (hW : Below w.heap.size w W) => HI.out l[j] (List.getElem_mem hlt) (.mk vk s vks vs) W B B' _ _ (hv0.kept (Kept.of_below (X := fun b => b < w.heap.size) hW fun _ h => h) hB fun _ h => h) (hrj.kept (Kept.of_below (X := fun b => b < w.heap.size) hW fun _ h => h) hB' fun _ h => h) HO.out hvb hts (fun b hb => Nat.lt_of_lt_of_le (hB b hb) hW.size) (fun b hb => Nat.lt_of_lt_of_le (hB' b hb) hW.size)
          clear hv0
          go_wp2_with fail
          refine (hc _ (hlw.alloc hlw.size _)).mono ?_
          rintro e w1 ⟨b, rfl, hbq, hb1⟩
          have HQ := Lib.hid hbq
          have hlf := (hlw.alloc hlw.size _).trans (hb1.mono (by simp; omega))
          have hbf := (hb.alloc hsz _).trans (hb1.mono (by simp; omega))
          clear hbq hc
          cases b with
          | true =>
            go_wp2
            go_ret
            exact BoolPost.yes (HIN.out.2 (.inr ⟨_, List.getElem_mem hlt, HQ.out.1 (by simp)⟩)) hlf
          | false =>
            go_wp2
            go_roundw
            case rel =>
              refine ⟨j + 1, by omega, by go_num, fun q hq hqj => ?_, hbf⟩
              by_cases e : q = j
              · subst e; exact fun h => by have := HQ.out.2 h; cases this
              · exact HNO.out q hq (by omega)
            case measure => simp [intOf]; omega
        · have ej : j = l.length := by omega
          subst ej
          go_wp2
          go_ret
          refine ⟨_, rfl, ?_, hlw⟩
          rw [HIN.out]
          have hz : (∃ t, t ∈ l ∧ InT t (.mk vk s vks vs)) ↔ False := by
            refine ⟨?_, False.elim⟩
            rintro ⟨t, ht, hx⟩
            obtain ⟨q, hq, rfl⟩ := List.getElem_of_mem ht
            exact HNO.out q hq hq hx
          rw [hz]
          simp

end Go.Proofs.YtpmfjbmfjfhghaaGreat
