/-
  'spec.properties': the properties of an object (laid by gen_in3.py).
-/
import Derived.Test.YtpmfjbmfjfhghaaGreatIn2
namespace Go.Proofs.YtpmfjbmfjfhghaaGreat
open Go.RowKit

theorem zip_fst {ks : List Ky} {l : List Tr} (h : ks.length = l.length) : (ks.zip (InTs l)).map (·.1) = ks := List.map_fst_zip (by rw [InTs_length]; omega)

theorem stat_mem {ks : List Ky} {l : List Tr} (hn : ks.Nodup) {K : Ky} {j : Nat} (hj : j < ks.length) (hl : j < l.length) (hK : ks[j] = K) (f : Vl → Prop) : (K, f) ∈ ks.zip (InTs l) ↔ f = InT l[j] := by
  constructor
  · intro h
    obtain ⟨i, hi, e⟩ := List.getElem_of_mem h
    rw [List.length_zip, InTs_length] at hi
    rw [List.getElem_zip] at e
    injection e with e1 e2
    have hij : i = j := by
      rw [← hK] at e1
      rw [List.Nodup, List.pairwise_iff_getElem] at hn
      rcases Nat.lt_trichotomy i j with h' | h' | h'
      · exact absurd e1 (hn i j (by omega) hj h')
      · exact h'
      · exact absurd e1.symm (hn j i hj (by omega) h')
    subst hij
    have e3 := InTs_get l i hl
    rw [List.getElem?_eq_getElem (by rw [InTs_length]; exact hl)] at e3
    rw [← e2]
    exact Option.some.inj e3
  · rintro rfl
    have e3 := InTs_get l j hl
    rw [List.getElem?_eq_getElem (by rw [InTs_length]; exact hl)] at e3
    have e4 := Option.some.inj e3
    rw [← hK, ← e4]
    have hz : j < (ks.zip (InTs l)).length := by rw [List.length_zip, InTs_length]; omega
    have : (ks.zip (InTs l))[j] = (ks[j], (InTs l)[j]'(by rw [InTs_length]; exact hl)) := List.getElem_zip
    rw [← this]
    exact List.getElem_mem hz

/-- The first properties fit. -/
def PropsTo (ps : List (Ky × (Vl → Prop))) (gs : List (Vl → Prop)) (keys : List ByteArray) (kids : List Vl) (j : Nat) : Prop := ∀ i (h : i < keys.length), i < j → ∀ x, kids[i]? = some x → PropFits ps gs keys[i] x

theorem PropsTo.succ {ps : List (Ky × (Vl → Prop))} {gs : List (Vl → Prop)} {keys : List ByteArray} {kids : List Vl} {j : Nat} (hj : j < keys.length) (hl : j < kids.length) (h : PropsTo ps gs keys kids j) (h1 : PropFits ps gs keys[j] kids[j]) : PropsTo ps gs keys kids (j + 1) := fun i hi hij x hx => by
  by_cases e : i = j
  · subst e
    rw [List.getElem?_eq_getElem hl] at hx
    cases hx
    exact h1
  · exact h i hi (by omega) x hx

theorem countP_take (p : ByteArray → Bool) (l : List ByteArray) (j : Nat) (h : j < l.length) : (l.take (j + 1)).countP p = (l.take j).countP p + if p l[j] then 1 else 0 := by
  rw [List.take_succ_eq_append_getElem h, List.countP_append]
  simp [List.countP_cons]

theorem strV_rep (s : ByteArray) (w : World) : repV w (fun _ => False) (strV s) [.int .i64 4, .string s, .slice none 0 0, .slice none 0 0] := by
  simp only [strV, repV]
  exact ⟨none, 0, none, 0, [], rfl, ⟨by simp, by simp⟩, rowAt.nil, rowAt.nil, by simp [repVs]⟩

theorem strV_bulk (s : ByteArray) : (strV s).bulk = 1 + s.size := by simp [strV, Vl.bulk, Vl.bulks, strBulk]

set_option maxHeartbeats 4000000 in
set_option maxRecDepth 100000 in
theorem properties_none (k vk : Int) (ks : List Ky) (l : List Tr) (s : ByteArray) (vks : List ByteArray) (vs : List Vl) (w : World) (B B' : Nat → Prop) (cs cs' : List Value) (hv : repV w B (.mk vk s vks vs) cs) (hr : repS w B' (.mk k ks l []) cs')
    (hkv : vks.length = vs.length) (hkl : ks.length = l.length) (hnd : ks.Nodup) (hok : VOks vs) (hvb : (Vl.mk vk s vks vs).bulk ≤ 1048576) (htb : (Tr.mk k ks l []).bulk ≤ 1048576) (hB : ∀ b, B b → b < w.heap.size) (hB' : ∀ b, B' b → b < w.heap.size) (il : ∀ t ∈ l, InOk t) (im : ∀ t ∈ [], InOk t) :
    Calls Tryz.prog 45 #[.agg cs.toArray, .agg cs'.toArray] w (BoolPost (PropsP (ks.zip (InTs l)) (InTs []) vks vs) w) := by
  have hr0 := hr
  simp only [repV] at hv
  simp only [repS] at hr
  obtain ⟨V1, d1, V2, d2, vxs, rfl, ⟨hd1, hd2⟩, g1, g2, g3⟩ := hv
  obtain ⟨A1, c1, A2, c2, A3, c3, xs, ys, rfl, ⟨hc1, hc2, hc3⟩, h1, h2, h3, h4, h5⟩ := hr
  rw [VOks_iff] at hok
  simp only [Vl.bulk] at hvb
  simp only [Tr.bulk, Tr.bulks] at htb
  simp only [List.length_nil] at hr0
  have b1 := Vl.length_bulks vs
  have b2 := Tr.length_bulks l
  have hll : l.length ≤ 1048576 := by omega
  have hx0 : Blk ((w.alloc (.cells #[.int .i64 vk, .string s, .slice V1 vks.length d1, .slice V2 vs.length d2] 36)).alloc (.cells #[.int .i64 k, .slice A1 ks.length c1, .slice A2 l.length c2, .slice A3 0 c3] 44)) w.heap.size 36 #[.int .i64 vk, .string s, .slice V1 vks.length d1, .slice V2 vs.length d2] := (Blk.new _ _ _).alloc _
  have hy0 : Blk ((w.alloc (.cells #[.int .i64 vk, .string s, .slice V1 vks.length d1, .slice V2 vs.length d2] 36)).alloc (.cells #[.int .i64 k, .slice A1 ks.length c1, .slice A2 l.length c2, .slice A3 0 c3] 44)) (w.heap.size + 1) 44 #[.int .i64 k, .slice A1 ks.length c1, .slice A2 l.length c2, .slice A3 0 c3] := by simpa using Blk.new (w.alloc _) _ _
  have hl0 : Below w.heap.size w ((w.alloc (.cells #[.int .i64 vk, .string s, .slice V1 vks.length d1, .slice V2 vs.length d2] 36)).alloc (.cells #[.int .i64 k, .slice A1 ks.length c1, .slice A2 l.length c2, .slice A3 0 c3] 44)) := ((Below.refl _ _).alloc (Nat.le_refl _) _).alloc (by simp) _
  have IL := Lib.hid il
  have IM := Lib.hid im
  have HOK := Lib.hid hok
  have HKV := Lib.hid hkv
  have HKL := Lib.hid hkl
  have HND := Lib.hid hnd
  have hst := fun (key : ByteArray) W (hW : Below w.heap.size w W) => static_any k ks l [] key W B' ([.int .i64 k, .slice A1 ks.length c1, .slice A2 l.length c2, .slice A3 0 c3]) (hr0.kept (Kept.of_below (X := fun b => b < w.heap.size) hW fun _ h => h) hB' fun _ h => h) hkl hll (fun b hb => Nat.lt_of_lt_of_le (hB' b hb) hW.size)
  have hkl2 : vks.length ≤ 1048576 := by omega
  have hkl3 : ks.length ≤ 1048576 := by omega
  clear il im hok hkv hkl hnd hr0
  go_enter Tryz.func45, Tryz.ntmps45
  go_wp2
  generalize (w.alloc (.cells #[.int .i64 vk, .string s, .slice V1 vks.length d1, .slice V2 vs.length d2] 36)).alloc (.cells #[.int .i64 k, .slice A1 ks.length c1, .slice A2 l.length c2, .slice A3 0 c3] 44) = w0 at *
  have xl := hx0.lt
  have yl := hy0.lt
  go_loopw [5, 13] (fun f i wr => ∃ j c : Nat, j ≤ vks.length ∧ i = .int .i64 j ∧ f = .int .i64 c ∧ c ≤ j ∧ c = (vks.take j).countP (isStat ks) ∧ PropsTo (ks.zip (InTs l)) (InTs []) vks vs j ∧ Below w0.heap.size w0 wr) (fun _ i _ => vks.length - (intOf i).toNat)
  case atStart => exact ⟨0, 0, Nat.zero_le _, rfl, rfl, Nat.le_refl _, by simp, fun _ _ h => absurd h (by omega), Below.refl _ _⟩
  case round =>
    obtain ⟨j, c, hj, rfl, rfl, hcj, hcc, hpt, hb⟩ := hrel
    have HC := Lib.hid hcc
    have HP := Lib.hid hpt
    clear hcc hpt
    have hlw := hl0.trans (hb.mono hl0.size)
    have hsz := hb.size
    have hxr := hx0.below hb xl
    have hyr := hy0.below hb yl
    have x2 := hxr.cell 2
    have x3 := hxr.cell 3
    have y0 := hyr.cell 0
    have y1 := hyr.cell 1
    have y2 := hyr.cell 2
    have y3 := hyr.cell 3
    have xrl := hxr.lt
    have yrl := hyr.lt
    simp at x2 x3 y0 y1 y2 y3
    by_cases hlt : j < vks.length
    · have hlv : j < vs.length := by have := HKV.out; omega
      obtain ⟨bk, ok, rfl, hbk, qk⟩ := g1.str j hlt
      obtain ⟨b, off, S1, e1, S2, e2, rfl, hbb, hvj, q0, q1, q2, q3⟩ := g3.at_ g2 j hlv
      have hbkl := hB bk hbk
      have hbl := hB b hbb
      rw [← hlw.cell (by exact hbkl)] at qk
      rw [← hlw.cell (by exact hbl)] at q0 q1 q2 q3
      have hbw : b < wr.heap.size := by omega
      have hvo : VOk vs[j] := HOK.out _ (List.getElem_mem hlv)
      have hvs : vs[j].bulk ≤ 1048576 := by have := Vl.bulk_mem (List.getElem_mem hlv); omega
      have hks : vks[j].size ≤ 1048000 + 576 := by have := strBulk_mem (List.getElem_mem hlt); omega
      have hsb : (strV vks[j]).bulk ≤ 1048576 := by have := strBulk_mem (List.getElem_mem hlt); rw [strV_bulk]; omega
      obtain ⟨key, ekey⟩ : ∃ key, key = vks[j] := ⟨_, rfl⟩
      rw [← ekey] at qk hsb
      have EK := Lib.hid ekey
      have hstk := hst key wr hlw
      clear ekey hst hks
      go_wp2_with fail
      refine hstk.mono ?_
      rintro e w1 ⟨hb1, ⟨n, hn, hnl, cs, hnk, rfl, hrn⟩ | ⟨hno, rfl⟩⟩
      · obtain ⟨T1, f1, T2, f2, T3, f3, rfl⟩ := hrn.shape
        have HNK := Lib.hid hnk
        have hlw1 := hlw.trans (hb1.mono hlw.size)
        have hbw1 := hb.trans (hb1.mono hsz)
        have hz1 := hb1.size
        have hts : l[n].bulk ≤ 1048576 := by have := Tr.bulk_mem (List.getElem_mem hnl); omega
        have hc := fun W (hW : Below wr.heap.size wr W) => IL.out l[n] (List.getElem_mem hnl) vs[j] W B B' _ _ (hvj.kept (Kept.of_below (X := fun b => b < w.heap.size) (hlw.trans (hW.mono hlw.size)) fun _ h => h) hB fun _ h => h) (hrn.kept (Kept.of_below (X := fun b => b < wr.heap.size) hW fun _ h => h) (fun b hb => Nat.lt_of_lt_of_le (hB' b hb) hlw.size) fun _ h => h) hvo hvs hts (fun b hb => Nat.lt_of_lt_of_le (hB b hb) (hlw.trans (hW.mono hlw.size)).size) (fun b hb => Nat.lt_of_lt_of_le (hB' b hb) (hlw.trans (hW.mono hlw.size)).size)
        have hW0 : Below wr.heap.size wr (w1.alloc (.cells #[.int .i64 l[n].kind, .slice T1 l[n].keys.length f1, .slice T2 l[n].kids.length f2, .slice T3 l[n].more.length f3] 44)).drew := (hb1.alloc hz1 _).drew
        have hX0 := (Blk.new w1 44 #[.int .i64 l[n].kind, .slice T1 l[n].keys.length f1, .slice T2 l[n].kids.length f2, .slice T3 l[n].more.length f3]).drew
        have hxw := ((hxr.below hb1 xrl).alloc (.cells #[.int .i64 l[n].kind, .slice T1 l[n].keys.length f1, .slice T2 l[n].kids.length f2, .slice T3 l[n].more.length f3] 44)).drew
        have hyw := ((hyr.below hb1 yrl).alloc (.cells #[.int .i64 l[n].kind, .slice T1 l[n].keys.length f1, .slice T2 l[n].kids.length f2, .slice T3 l[n].more.length f3] 44)).drew
        have hx3 := hxw.cell 3
        simp at hx3
        have kq : ∀ {o : Nat} {v : Value}, wr.cell? ⟨b, o, none⟩ = some v → (w1.alloc (.cells #[.int .i64 l[n].kind, .slice T1 l[n].keys.length f1, .slice T2 l[n].kids.length f2, .slice T3 l[n].more.length f3] 44)).drew.cell? ⟨b, o, none⟩ = some v := fun h => cell_of hW0 hbw h
        have hS0 : (fun w' => (w'.cell? ⟨w.heap.size, 3, none⟩ = some (.slice (some ⟨b, off, none⟩) vs.length d2)) ∧ (w'.cell? ⟨b, off + j * 4, none⟩ = some (.int .i64 vs[j].kind) ∧ w'.cell? ⟨b, off + j * 4 + 1, none⟩ = some (.string vs[j].text) ∧ w'.cell? ⟨b, off + j * 4 + 2, none⟩ = some (.slice S1 vs[j].keys.length e1) ∧ w'.cell? ⟨b, off + j * 4 + 3, none⟩ = some (.slice S2 vs[j].kids.length e2)) ∧ (w'.cell? ⟨w1.heap.size, 0, none⟩ = some (.int .i64 l[n].kind) ∧ w'.cell? ⟨w1.heap.size, 1, none⟩ = some (.slice T1 l[n].keys.length f1) ∧ w'.cell? ⟨w1.heap.size, 2, none⟩ = some (.slice T2 l[n].kids.length f2) ∧ w'.cell? ⟨w1.heap.size, 3, none⟩ = some (.slice T3 l[n].more.length f3))) (w1.alloc (.cells #[.int .i64 l[n].kind, .slice T1 l[n].keys.length f1, .slice T2 l[n].kids.length f2, .slice T3 l[n].more.length f3] 44)).drew := ⟨hx3, ⟨kq q0, kq q1, kq q2, kq q3⟩, hX0.cell 0, hX0.cell 1, hX0.cell 2, hX0.cell 3⟩
        have hk : ∀ W1, Below (w1.alloc (.cells #[.int .i64 l[n].kind, .slice T1 l[n].keys.length f1, .slice T2 l[n].kids.length f2, .slice T3 l[n].more.length f3] 44)).drew.heap.size (w1.alloc (.cells #[.int .i64 l[n].kind, .slice T1 l[n].keys.length f1, .slice T2 l[n].kids.length f2, .slice T3 l[n].more.length f3] 44)).drew W1 → (fun w' => (w'.cell? ⟨w.heap.size, 3, none⟩ = some (.slice (some ⟨b, off, none⟩) vs.length d2)) ∧ (w'.cell? ⟨b, off + j * 4, none⟩ = some (.int .i64 vs[j].kind) ∧ w'.cell? ⟨b, off + j * 4 + 1, none⟩ = some (.string vs[j].text) ∧ w'.cell? ⟨b, off + j * 4 + 2, none⟩ = some (.slice S1 vs[j].keys.length e1) ∧ w'.cell? ⟨b, off + j * 4 + 3, none⟩ = some (.slice S2 vs[j].kids.length e2)) ∧ (w'.cell? ⟨w1.heap.size, 0, none⟩ = some (.int .i64 l[n].kind) ∧ w'.cell? ⟨w1.heap.size, 1, none⟩ = some (.slice T1 l[n].keys.length f1) ∧ w'.cell? ⟨w1.heap.size, 2, none⟩ = some (.slice T2 l[n].kids.length f2) ∧ w'.cell? ⟨w1.heap.size, 3, none⟩ = some (.slice T3 l[n].more.length f3))) W1 := fun W1 h1 => ⟨cell_of h1 hxw.lt hS0.1, ⟨cell_of h1 (Nat.lt_of_lt_of_le hbw hW0.size) hS0.2.1.1, cell_of h1 (Nat.lt_of_lt_of_le hbw hW0.size) hS0.2.1.2.1, cell_of h1 (Nat.lt_of_lt_of_le hbw hW0.size) hS0.2.1.2.2.1, cell_of h1 (Nat.lt_of_lt_of_le hbw hW0.size) hS0.2.1.2.2.2⟩, cell_of h1 hX0.lt hS0.2.2.1, cell_of h1 hX0.lt hS0.2.2.2.1, cell_of h1 hX0.lt hS0.2.2.2.2.1, cell_of h1 hX0.lt hS0.2.2.2.2.2⟩
        clear hx3 hnk hstk
        by_cases hin : InT l[n] vs[j]
        · have HIN := Lib.hid hin
          have hc' := fun W hW => (hc W hW).mono fun e w' h => h.sure hin
          clear hc hin
          go_wp2_with fail
          refine wp_region_held_drew (S := (fun w' => (w'.cell? ⟨w.heap.size, 3, none⟩ = some (.slice (some ⟨b, off, none⟩) vs.length d2)) ∧ (w'.cell? ⟨b, off + j * 4, none⟩ = some (.int .i64 vs[j].kind) ∧ w'.cell? ⟨b, off + j * 4 + 1, none⟩ = some (.string vs[j].text) ∧ w'.cell? ⟨b, off + j * 4 + 2, none⟩ = some (.slice S1 vs[j].keys.length e1) ∧ w'.cell? ⟨b, off + j * 4 + 3, none⟩ = some (.slice S2 vs[j].kids.length e2)) ∧ (w'.cell? ⟨w1.heap.size, 0, none⟩ = some (.int .i64 l[n].kind) ∧ w'.cell? ⟨w1.heap.size, 1, none⟩ = some (.slice T1 l[n].keys.length f1) ∧ w'.cell? ⟨w1.heap.size, 2, none⟩ = some (.slice T2 l[n].kids.length f2) ∧ w'.cell? ⟨w1.heap.size, 3, none⟩ = some (.slice T3 l[n].more.length f3)))) (by kernel_rfl) (hS0) (fun hHeld => ?_)
          refine take_yes (i := 0) (v := ?_) rfl (by kernel_rfl) (by kernel_rfl) (by kernel_rfl) (fun _ _ _ h => h) (by rfl) ?_ hHeld ?_
          rotate_left
          · (intro w hSw; (try dsimp only at hSw); go_simp; (try with_reducible rfl))
          (try simp only [Act.put, List.setIfInBounds_toArray, List.set_cons_zero, List.set_cons_succ])
          refine take_yes (i := 1) (v := ?_) rfl (by kernel_rfl) (by kernel_rfl) (by kernel_rfl) (fun _ _ _ h => h) (by rfl) ?_ hHeld ?_
          rotate_left
          · (intro w hSw; (try dsimp only at hSw); go_simp; (try with_reducible rfl))
          (try simp only [Act.put, List.setIfInBounds_toArray, List.set_cons_zero, List.set_cons_succ])
          refine take_yes (i := 2) (v := ?_) rfl (by kernel_rfl) (by kernel_rfl) (by kernel_rfl) (fun _ _ _ h => h) (by rfl) ?_ hHeld ?_
          rotate_left
          · (intro w hSw; (try dsimp only at hSw); go_simp; (try with_reducible rfl))
          (try simp only [Act.put, List.setIfInBounds_toArray, List.set_cons_zero, List.set_cons_succ])
          refine take_yes (i := 3) (v := ?_) rfl (by kernel_rfl) (by kernel_rfl) (by kernel_rfl) (fun _ _ _ h => h) (by rfl) ?_ hHeld ?_
          rotate_left
          · (intro w hSw; (try dsimp only at hSw); go_simp; (try with_reducible rfl))
          (try simp only [Act.put, List.setIfInBounds_toArray, List.set_cons_zero, List.set_cons_succ])
          refine take_yes (i := 4) (v := ?_) rfl (by kernel_rfl) (by kernel_rfl) (by kernel_rfl) (fun _ _ _ h => h) (by rfl) ?_ hHeld ?_
          rotate_left
          · (intro w hSw; (try dsimp only at hSw); go_simp; (try with_reducible rfl))
          (try simp only [Act.put, List.setIfInBounds_toArray, List.set_cons_zero, List.set_cons_succ])
          refine take_yes (i := 5) (v := ?_) rfl (by kernel_rfl) (by kernel_rfl) (by kernel_rfl) (fun _ _ _ h => h) (by rfl) ?_ hHeld ?_
          rotate_left
          · (intro w hSw; (try dsimp only at hSw); go_simp; (try with_reducible rfl))
          (try simp only [Act.put, List.setIfInBounds_toArray, List.set_cons_zero, List.set_cons_succ])
          refine take_yes (i := 6) (v := ?_) rfl (by kernel_rfl) (by kernel_rfl) (by kernel_rfl) (fun _ _ _ h => h) (by rfl) ?_ hHeld ?_
          rotate_left
          · (intro w hSw; (try dsimp only at hSw); go_simp; (try with_reducible rfl))
          (try simp only [Act.put, List.setIfInBounds_toArray, List.set_cons_zero, List.set_cons_succ])
          refine take_yes (i := 7) (v := ?_) rfl (by kernel_rfl) (by kernel_rfl) (by kernel_rfl) (fun _ _ _ h => h) (by rfl) ?_ hHeld ?_
          rotate_left
          · (intro w hSw; (try dsimp only at hSw); go_simp; (try with_reducible rfl))
          (try simp only [Act.put, List.setIfInBounds_toArray, List.set_cons_zero, List.set_cons_succ])
          refine take_step (i := 8) rfl (by kernel_rfl) (fun K hK => ?_)
          go_simp
          (go_at_call 24; refine (hc' _ hW0).mono ?_; rintro e w2 ⟨rfl, hb2⟩; have hS1 := hk _ hb2; have hxf := hxw.below hb2 hxw.lt; have hyf := hyw.below hb2 hyw.lt; have hW2 := hW0.trans (hb2.mono hW0.size))
          (try go_wp2_with fail)
          refine hK.out _ _ (hS1) (fun hHeld => ?_)
          clear hK K
          (try simp only [Act.put, List.setIfInBounds_toArray, List.set_cons_zero, List.set_cons_succ])
          refine take_yes (i := 9) (v := ?_) rfl (by kernel_rfl) (by kernel_rfl) (by kernel_rfl) (fun _ _ _ h => h) (by rfl) ?_ hHeld ?_
          rotate_left
          · (intro w hSw; (try dsimp only at hSw); go_simp; (try with_reducible rfl))
          (try simp only [Act.put, List.setIfInBounds_toArray, List.set_cons_zero, List.set_cons_succ])
          refine take_yes (i := 10) (v := ?_) rfl (by kernel_rfl) (by kernel_rfl) (by kernel_rfl) (fun _ _ _ h => h) (by rfl) ?_ hHeld ?_
          rotate_left
          · (intro w hSw; (try dsimp only at hSw); go_simp; (try with_reducible rfl))
          (try simp only [Act.put, List.setIfInBounds_toArray, List.set_cons_zero, List.set_cons_succ])
          refine wpAnyH_done (by kernel_rfl) ?_ _
          have hlf := hlw.trans (hW2.mono hlw.size)
          have hbf := hb.trans (hW2.mono hsz)
          clear hc' hk hS0 kq hS1
          go_wp2
          go_roundw
          case rel =>
            refine ⟨j + 1, c + 1, by omega, by go_num, by go_num, by omega, ?_, HP.out.succ hlt hlv (.inl ⟨_, (stat_mem HND.out hn hnl (HNK.out.trans (by rw [EK.out])) _).2 rfl, HIN.out⟩), hbf⟩
            rw [countP_take _ _ _ hlt, ← HC.out, if_pos (by unfold isStat; rw [decide_eq_true_eq, ← EK.out, ← HNK.out]; exact List.getElem_mem hn)]
          case measure => simp [intOf]; omega
        · have HIN := Lib.hid hin
          have hc' := fun W hW => (hc W hW).mono fun e w' h => h.never hin
          clear hc hin
          go_wp2_with fail
          refine wp_region_held_drew (S := (fun w' => (w'.cell? ⟨w.heap.size, 3, none⟩ = some (.slice (some ⟨b, off, none⟩) vs.length d2)) ∧ (w'.cell? ⟨b, off + j * 4, none⟩ = some (.int .i64 vs[j].kind) ∧ w'.cell? ⟨b, off + j * 4 + 1, none⟩ = some (.string vs[j].text) ∧ w'.cell? ⟨b, off + j * 4 + 2, none⟩ = some (.slice S1 vs[j].keys.length e1) ∧ w'.cell? ⟨b, off + j * 4 + 3, none⟩ = some (.slice S2 vs[j].kids.length e2)) ∧ (w'.cell? ⟨w1.heap.size, 0, none⟩ = some (.int .i64 l[n].kind) ∧ w'.cell? ⟨w1.heap.size, 1, none⟩ = some (.slice T1 l[n].keys.length f1) ∧ w'.cell? ⟨w1.heap.size, 2, none⟩ = some (.slice T2 l[n].kids.length f2) ∧ w'.cell? ⟨w1.heap.size, 3, none⟩ = some (.slice T3 l[n].more.length f3)))) (by kernel_rfl) (hS0) (fun hHeld => ?_)
          refine take_yes (i := 0) (v := ?_) rfl (by kernel_rfl) (by kernel_rfl) (by kernel_rfl) (fun _ _ _ h => h) (by rfl) ?_ hHeld ?_
          rotate_left
          · (intro w hSw; (try dsimp only at hSw); go_simp; (try with_reducible rfl))
          (try simp only [Act.put, List.setIfInBounds_toArray, List.set_cons_zero, List.set_cons_succ])
          refine take_yes (i := 1) (v := ?_) rfl (by kernel_rfl) (by kernel_rfl) (by kernel_rfl) (fun _ _ _ h => h) (by rfl) ?_ hHeld ?_
          rotate_left
          · (intro w hSw; (try dsimp only at hSw); go_simp; (try with_reducible rfl))
          (try simp only [Act.put, List.setIfInBounds_toArray, List.set_cons_zero, List.set_cons_succ])
          refine take_yes (i := 2) (v := ?_) rfl (by kernel_rfl) (by kernel_rfl) (by kernel_rfl) (fun _ _ _ h => h) (by rfl) ?_ hHeld ?_
          rotate_left
          · (intro w hSw; (try dsimp only at hSw); go_simp; (try with_reducible rfl))
          (try simp only [Act.put, List.setIfInBounds_toArray, List.set_cons_zero, List.set_cons_succ])
          refine take_yes (i := 3) (v := ?_) rfl (by kernel_rfl) (by kernel_rfl) (by kernel_rfl) (fun _ _ _ h => h) (by rfl) ?_ hHeld ?_
          rotate_left
          · (intro w hSw; (try dsimp only at hSw); go_simp; (try with_reducible rfl))
          (try simp only [Act.put, List.setIfInBounds_toArray, List.set_cons_zero, List.set_cons_succ])
          refine take_yes (i := 4) (v := ?_) rfl (by kernel_rfl) (by kernel_rfl) (by kernel_rfl) (fun _ _ _ h => h) (by rfl) ?_ hHeld ?_
          rotate_left
          · (intro w hSw; (try dsimp only at hSw); go_simp; (try with_reducible rfl))
          (try simp only [Act.put, List.setIfInBounds_toArray, List.set_cons_zero, List.set_cons_succ])
          refine take_yes (i := 5) (v := ?_) rfl (by kernel_rfl) (by kernel_rfl) (by kernel_rfl) (fun _ _ _ h => h) (by rfl) ?_ hHeld ?_
          rotate_left
          · (intro w hSw; (try dsimp only at hSw); go_simp; (try with_reducible rfl))
          (try simp only [Act.put, List.setIfInBounds_toArray, List.set_cons_zero, List.set_cons_succ])
          refine take_yes (i := 6) (v := ?_) rfl (by kernel_rfl) (by kernel_rfl) (by kernel_rfl) (fun _ _ _ h => h) (by rfl) ?_ hHeld ?_
          rotate_left
          · (intro w hSw; (try dsimp only at hSw); go_simp; (try with_reducible rfl))
          (try simp only [Act.put, List.setIfInBounds_toArray, List.set_cons_zero, List.set_cons_succ])
          refine take_yes (i := 7) (v := ?_) rfl (by kernel_rfl) (by kernel_rfl) (by kernel_rfl) (fun _ _ _ h => h) (by rfl) ?_ hHeld ?_
          rotate_left
          · (intro w hSw; (try dsimp only at hSw); go_simp; (try with_reducible rfl))
          (try simp only [Act.put, List.setIfInBounds_toArray, List.set_cons_zero, List.set_cons_succ])
          refine take_step (i := 8) rfl (by kernel_rfl) (fun K hK => ?_)
          go_simp
          (go_at_call 24; refine (hc' _ hW0).mono ?_; rintro e w2 ⟨rfl, hb2⟩; have hS1 := hk _ hb2; have hxf := hxw.below hb2 hxw.lt; have hyf := hyw.below hb2 hyw.lt; have hW2 := hW0.trans (hb2.mono hW0.size))
          (try go_wp2_with fail)
          refine hK.out _ _ (hS1) (fun hHeld => ?_)
          clear hK K
          (try simp only [Act.put, List.setIfInBounds_toArray, List.set_cons_zero, List.set_cons_succ])
          refine take_yes (i := 9) (v := ?_) rfl (by kernel_rfl) (by kernel_rfl) (by kernel_rfl) (fun _ _ _ h => h) (by rfl) ?_ hHeld ?_
          rotate_left
          · (intro w hSw; (try dsimp only at hSw); go_simp; (try with_reducible rfl))
          (try simp only [Act.put, List.setIfInBounds_toArray, List.set_cons_zero, List.set_cons_succ])
          refine take_yes (i := 10) (v := ?_) rfl (by kernel_rfl) (by kernel_rfl) (by kernel_rfl) (fun _ _ _ h => h) (by rfl) ?_ hHeld ?_
          rotate_left
          · (intro w hSw; (try dsimp only at hSw); go_simp; (try with_reducible rfl))
          (try simp only [Act.put, List.setIfInBounds_toArray, List.set_cons_zero, List.set_cons_succ])
          refine wpAnyH_done (by kernel_rfl) ?_ _
          have hlf := hlw.trans (hW2.mono hlw.size)
          have hbf := hb.trans (hW2.mono hsz)
          have x3' := hxf.cell 3
          have y3' := hyf.cell 3
          simp at x3' y3'
          clear hc' hk hS0 kq hS1 hX0
          go_wp2_with fail
          refine wp_region_held_drew (S := (fun w' => w'.cell? ⟨w.heap.size + 1, 3, none⟩ = some (.slice A3 0 c3))) (by kernel_rfl) (hyf.drew.cell 3) (fun hHeld => ?_)
          refine take_yes (i := 0) (v := ?_) rfl (by kernel_rfl) (by kernel_rfl) (by kernel_rfl) (fun _ _ _ h => h) (by rfl) ?_ hHeld ?_
          rotate_left
          · (intro w hSw; (try dsimp only at hSw); go_simp; (try with_reducible rfl))
          (try simp only [Act.put, List.setIfInBounds_toArray, List.set_cons_zero, List.set_cons_succ])
          refine take_yes (i := 1) (v := ?_) rfl (by kernel_rfl) (by kernel_rfl) (by kernel_rfl) (fun _ _ _ h => h) (by rfl) ?_ hHeld ?_
          rotate_left
          · (intro w hSw; (try dsimp only at hSw); go_simp; (try with_reducible rfl))
          (try simp only [Act.put, List.setIfInBounds_toArray, List.set_cons_zero, List.set_cons_succ])
          refine take_no (i := 2) rfl (by kernel_rfl) (by kernel_rfl) (by kernel_rfl) (fun _ _ _ h => h) (by rfl) hHeld ?_
          (try simp only [Act.put, List.setIfInBounds_toArray, List.set_cons_zero, List.set_cons_succ])
          refine take_no (i := 3) rfl (by kernel_rfl) (by kernel_rfl) (by kernel_rfl) (fun _ _ _ h => h) (by rfl) hHeld ?_
          (try simp only [Act.put, List.setIfInBounds_toArray, List.set_cons_zero, List.set_cons_succ])
          refine take_no (i := 4) rfl (by kernel_rfl) (by kernel_rfl) (by kernel_rfl) (fun _ _ _ h => h) (by rfl) hHeld ?_
          (try simp only [Act.put, List.setIfInBounds_toArray, List.set_cons_zero, List.set_cons_succ])
          refine take_no (i := 5) rfl (by kernel_rfl) (by kernel_rfl) (by kernel_rfl) (fun _ _ _ h => h) (by rfl) hHeld ?_
          (try simp only [Act.put, List.setIfInBounds_toArray, List.set_cons_zero, List.set_cons_succ])
          refine take_yes (i := 6) (v := ?_) rfl (by kernel_rfl) (by kernel_rfl) (by kernel_rfl) (fun _ _ _ h => h) (by rfl) ?_ hHeld ?_
          rotate_left
          · (intro w hSw; (try dsimp only at hSw); go_simp; (try with_reducible rfl))
          (try simp only [Act.put, List.setIfInBounds_toArray, List.set_cons_zero, List.set_cons_succ])
          refine take_yes (i := 7) (v := ?_) rfl (by kernel_rfl) (by kernel_rfl) (by kernel_rfl) (fun _ _ _ h => h) (by rfl) ?_ hHeld ?_
          rotate_left
          · (intro w hSw; (try dsimp only at hSw); go_simp; (try with_reducible rfl))
          (try simp only [Act.put, List.setIfInBounds_toArray, List.set_cons_zero, List.set_cons_succ])
          refine take_no (i := 8) rfl (by kernel_rfl) (by kernel_rfl) (by kernel_rfl) (fun _ _ _ h => h) (by rfl) hHeld ?_
          (try simp only [Act.put, List.setIfInBounds_toArray, List.set_cons_zero, List.set_cons_succ])
          refine take_no (i := 9) rfl (by kernel_rfl) (by kernel_rfl) (by kernel_rfl) (fun _ _ _ h => h) (by rfl) hHeld ?_
          (try simp only [Act.put, List.setIfInBounds_toArray, List.set_cons_zero, List.set_cons_succ])
          refine take_no (i := 10) rfl (by kernel_rfl) (by kernel_rfl) (by kernel_rfl) (fun _ _ _ h => h) (by rfl) hHeld ?_
          (try simp only [Act.put, List.setIfInBounds_toArray, List.set_cons_zero, List.set_cons_succ])
          refine take_no (i := 11) rfl (by kernel_rfl) (by kernel_rfl) (by kernel_rfl) (fun _ _ _ h => h) (by rfl) hHeld ?_
          (try simp only [Act.put, List.setIfInBounds_toArray, List.set_cons_zero, List.set_cons_succ])
          refine take_no (i := 12) rfl (by kernel_rfl) (by kernel_rfl) (by kernel_rfl) (fun _ _ _ h => h) (by rfl) hHeld ?_
          (try simp only [Act.put, List.setIfInBounds_toArray, List.set_cons_zero, List.set_cons_succ])
          refine take_no (i := 13) rfl (by kernel_rfl) (by kernel_rfl) (by kernel_rfl) (fun _ _ _ h => h) (by rfl) hHeld ?_
          (try simp only [Act.put, List.setIfInBounds_toArray, List.set_cons_zero, List.set_cons_succ])
          refine take_no (i := 14) rfl (by kernel_rfl) (by kernel_rfl) (by kernel_rfl) (fun _ _ _ h => h) (by rfl) hHeld ?_
          (try simp only [Act.put, List.setIfInBounds_toArray, List.set_cons_zero, List.set_cons_succ])
          refine take_no (i := 15) rfl (by kernel_rfl) (by kernel_rfl) (by kernel_rfl) (fun _ _ _ h => h) (by rfl) hHeld ?_
          (try simp only [Act.put, List.setIfInBounds_toArray, List.set_cons_zero, List.set_cons_succ])
          refine take_yes (i := 16) (v := ?_) rfl (by kernel_rfl) (by kernel_rfl) (by kernel_rfl) (fun _ _ _ h => h) (by rfl) ?_ hHeld ?_
          rotate_left
          · (intro w hSw; (try dsimp only at hSw); go_simp; (try with_reducible rfl))
          (try simp only [Act.put, List.setIfInBounds_toArray, List.set_cons_zero, List.set_cons_succ])
          refine take_yes (i := 17) (v := ?_) rfl (by kernel_rfl) (by kernel_rfl) (by kernel_rfl) (fun _ _ _ h => h) (by rfl) ?_ hHeld ?_
          rotate_left
          · (intro w hSw; (try dsimp only at hSw); go_simp; (try with_reducible rfl))
          (try simp only [Act.put, List.setIfInBounds_toArray, List.set_cons_zero, List.set_cons_succ])
          refine take_no (i := 18) rfl (by kernel_rfl) (by kernel_rfl) (by kernel_rfl) (fun _ _ _ h => h) (by rfl) hHeld ?_
          (try simp only [Act.put, List.setIfInBounds_toArray, List.set_cons_zero, List.set_cons_succ])
          refine take_no (i := 19) rfl (by kernel_rfl) (by kernel_rfl) (by kernel_rfl) (fun _ _ _ h => h) (by rfl) hHeld ?_
          (try simp only [Act.put, List.setIfInBounds_toArray, List.set_cons_zero, List.set_cons_succ])
          refine take_no (i := 20) rfl (by kernel_rfl) (by kernel_rfl) (by kernel_rfl) (fun _ _ _ h => h) (by rfl) hHeld ?_
          (try simp only [Act.put, List.setIfInBounds_toArray, List.set_cons_zero, List.set_cons_succ])
          refine take_no (i := 21) rfl (by kernel_rfl) (by kernel_rfl) (by kernel_rfl) (fun _ _ _ h => h) (by rfl) hHeld ?_
          (try simp only [Act.put, List.setIfInBounds_toArray, List.set_cons_zero, List.set_cons_succ])
          refine take_no (i := 22) rfl (by kernel_rfl) (by kernel_rfl) (by kernel_rfl) (fun _ _ _ h => h) (by rfl) hHeld ?_
          (try simp only [Act.put, List.setIfInBounds_toArray, List.set_cons_zero, List.set_cons_succ])
          refine take_no (i := 23) rfl (by kernel_rfl) (by kernel_rfl) (by kernel_rfl) (fun _ _ _ h => h) (by rfl) hHeld ?_
          (try simp only [Act.put, List.setIfInBounds_toArray, List.set_cons_zero, List.set_cons_succ])
          refine take_no (i := 24) rfl (by kernel_rfl) (by kernel_rfl) (by kernel_rfl) (fun _ _ _ h => h) (by rfl) hHeld ?_
          (try simp only [Act.put, List.setIfInBounds_toArray, List.set_cons_zero, List.set_cons_succ])
          refine take_no (i := 25) rfl (by kernel_rfl) (by kernel_rfl) (by kernel_rfl) (fun _ _ _ h => h) (by rfl) hHeld ?_
          (try simp only [Act.put, List.setIfInBounds_toArray, List.set_cons_zero, List.set_cons_succ])
          refine take_no (i := 26) rfl (by kernel_rfl) (by kernel_rfl) (by kernel_rfl) (fun _ _ _ h => h) (by rfl) hHeld ?_
          (try simp only [Act.put, List.setIfInBounds_toArray, List.set_cons_zero, List.set_cons_succ])
          refine take_no (i := 27) rfl (by kernel_rfl) (by kernel_rfl) (by kernel_rfl) (fun _ _ _ h => h) (by rfl) hHeld ?_
          (try simp only [Act.put, List.setIfInBounds_toArray, List.set_cons_zero, List.set_cons_succ])
          refine take_no (i := 28) rfl (by kernel_rfl) (by kernel_rfl) (by kernel_rfl) (fun _ _ _ h => h) (by rfl) hHeld ?_
          (try simp only [Act.put, List.setIfInBounds_toArray, List.set_cons_zero, List.set_cons_succ])
          refine take_yes (i := 29) (v := ?_) rfl (by kernel_rfl) (by kernel_rfl) (by kernel_rfl) (fun _ _ _ h => h) (by rfl) ?_ hHeld ?_
          rotate_left
          · (intro w hSw; (try dsimp only at hSw); go_simp; (try with_reducible rfl))
          (try simp only [Act.put, List.setIfInBounds_toArray, List.set_cons_zero, List.set_cons_succ])
          refine take_yes (i := 30) (v := ?_) rfl (by kernel_rfl) (by kernel_rfl) (by kernel_rfl) (fun _ _ _ h => h) (by rfl) ?_ hHeld ?_
          rotate_left
          · (intro w hSw; (try dsimp only at hSw); go_simp; (try with_reducible rfl))
          (try simp only [Act.put, List.setIfInBounds_toArray, List.set_cons_zero, List.set_cons_succ])
          refine wpAnyH_done (by kernel_rfl) ?_ _
          go_wp2
          go_ret
          refine BoolPost.no (fun h => ?_) (hlf.drew)
          rcases h.1 j hlt _ (List.getElem?_eq_getElem hlv) with ⟨f, hf, hx⟩ | ⟨hf, _⟩
          · rw [(stat_mem HND.out hn hnl (HNK.out.trans (by rw [EK.out])) f).1 hf] at hx; exact HIN.out hx
          · rw [zip_fst HKL.out] at hf; exact hf (by rw [← EK.out, ← HNK.out]; exact List.getElem_mem hn)
      · have HNO := Lib.hid hno
        have hlw1 := hlw.trans (hb1.mono hlw.size)
        have hbw1 := hb.trans (hb1.mono hsz)
        have hz1 := hb1.size
        have hW0 : Below wr.heap.size wr (w1.alloc (.cells zero44 44)).drew := (hb1.alloc hz1 _).drew
        have hxw := ((hxr.below hb1 xrl).alloc (.cells zero44 44)).drew
        have hyw := ((hyr.below hb1 yrl).alloc (.cells zero44 44)).drew
        clear hno hstk
        go_wp2_with fail
        refine wp_region_held_drew (S := (fun _ => True)) (by kernel_rfl) (trivial) (fun hHeld => ?_)
        refine take_yes (i := 0) (v := ?_) rfl (by kernel_rfl) (by kernel_rfl) (by kernel_rfl) (fun _ _ _ h => h) (by rfl) ?_ hHeld ?_
        rotate_left
        · (intro w hSw; (try dsimp only at hSw); go_simp; (try with_reducible rfl))
        (try simp only [Act.put, List.setIfInBounds_toArray, List.set_cons_zero, List.set_cons_succ])
        refine take_yes (i := 1) (v := ?_) rfl (by kernel_rfl) (by kernel_rfl) (by kernel_rfl) (fun _ _ _ h => h) (by rfl) ?_ hHeld ?_
        rotate_left
        · (intro w hSw; (try dsimp only at hSw); go_simp; (try with_reducible rfl))
        (try simp only [Act.put, List.setIfInBounds_toArray, List.set_cons_zero, List.set_cons_succ])
        refine take_no (i := 2) rfl (by kernel_rfl) (by kernel_rfl) (by kernel_rfl) (fun _ _ _ h => h) (by rfl) hHeld ?_
        (try simp only [Act.put, List.setIfInBounds_toArray, List.set_cons_zero, List.set_cons_succ])
        refine take_no (i := 3) rfl (by kernel_rfl) (by kernel_rfl) (by kernel_rfl) (fun _ _ _ h => h) (by rfl) hHeld ?_
        (try simp only [Act.put, List.setIfInBounds_toArray, List.set_cons_zero, List.set_cons_succ])
        refine take_no (i := 4) rfl (by kernel_rfl) (by kernel_rfl) (by kernel_rfl) (fun _ _ _ h => h) (by rfl) hHeld ?_
        (try simp only [Act.put, List.setIfInBounds_toArray, List.set_cons_zero, List.set_cons_succ])
        refine take_no (i := 5) rfl (by kernel_rfl) (by kernel_rfl) (by kernel_rfl) (fun _ _ _ h => h) (by rfl) hHeld ?_
        (try simp only [Act.put, List.setIfInBounds_toArray, List.set_cons_zero, List.set_cons_succ])
        refine take_no (i := 6) rfl (by kernel_rfl) (by kernel_rfl) (by kernel_rfl) (fun _ _ _ h => h) (by rfl) hHeld ?_
        (try simp only [Act.put, List.setIfInBounds_toArray, List.set_cons_zero, List.set_cons_succ])
        refine take_no (i := 7) rfl (by kernel_rfl) (by kernel_rfl) (by kernel_rfl) (fun _ _ _ h => h) (by rfl) hHeld ?_
        (try simp only [Act.put, List.setIfInBounds_toArray, List.set_cons_zero, List.set_cons_succ])
        refine take_no (i := 8) rfl (by kernel_rfl) (by kernel_rfl) (by kernel_rfl) (fun _ _ _ h => h) (by rfl) hHeld ?_
        (try simp only [Act.put, List.setIfInBounds_toArray, List.set_cons_zero, List.set_cons_succ])
        refine take_yes (i := 9) (v := ?_) rfl (by kernel_rfl) (by kernel_rfl) (by kernel_rfl) (fun _ _ _ h => h) (by rfl) ?_ hHeld ?_
        rotate_left
        · (intro w hSw; (try dsimp only at hSw); go_simp; (try with_reducible rfl))
        (try simp only [Act.put, List.setIfInBounds_toArray, List.set_cons_zero, List.set_cons_succ])
        refine take_yes (i := 10) (v := ?_) rfl (by kernel_rfl) (by kernel_rfl) (by kernel_rfl) (fun _ _ _ h => h) (by rfl) ?_ hHeld ?_
        rotate_left
        · (intro w hSw; (try dsimp only at hSw); go_simp; (try with_reducible rfl))
        (try simp only [Act.put, List.setIfInBounds_toArray, List.set_cons_zero, List.set_cons_succ])
        refine wpAnyH_done (by kernel_rfl) ?_ _
        have hW1 : Below wr.heap.size wr (w1.alloc (.cells zero44 44)).drew.drew := hW0.drew
        have hlf := hlw.trans (hW1.mono hlw.size)
        have hbf := hb.trans (hW1.mono hsz)
        have hX1 := hxw.drew
        have hY1 := hyw.drew
        have y3' := hY1.cell 3
        simp at y3'
        go_wp2_with fail
        refine wp_region_held_drew (S := (fun w' => w'.cell? ⟨w.heap.size + 1, 3, none⟩ = some (.slice A3 0 c3))) (by kernel_rfl) (hY1.cell 3) (fun hHeld => ?_)
        refine take_yes (i := 0) (v := ?_) rfl (by kernel_rfl) (by kernel_rfl) (by kernel_rfl) (fun _ _ _ h => h) (by rfl) ?_ hHeld ?_
        rotate_left
        · (intro w hSw; (try dsimp only at hSw); go_simp; (try with_reducible rfl))
        (try simp only [Act.put, List.setIfInBounds_toArray, List.set_cons_zero, List.set_cons_succ])
        refine take_yes (i := 1) (v := ?_) rfl (by kernel_rfl) (by kernel_rfl) (by kernel_rfl) (fun _ _ _ h => h) (by rfl) ?_ hHeld ?_
        rotate_left
        · (intro w hSw; (try dsimp only at hSw); go_simp; (try with_reducible rfl))
        (try simp only [Act.put, List.setIfInBounds_toArray, List.set_cons_zero, List.set_cons_succ])
        refine take_yes (i := 2) (v := ?_) rfl (by kernel_rfl) (by kernel_rfl) (by kernel_rfl) (fun _ _ _ h => h) (by rfl) ?_ hHeld ?_
        rotate_left
        · (intro w hSw; (try dsimp only at hSw); go_simp; (try with_reducible rfl))
        (try simp only [Act.put, List.setIfInBounds_toArray, List.set_cons_zero, List.set_cons_succ])
        refine take_yes (i := 3) (v := ?_) rfl (by kernel_rfl) (by kernel_rfl) (by kernel_rfl) (fun _ _ _ h => h) (by rfl) ?_ hHeld ?_
        rotate_left
        · (intro w hSw; (try dsimp only at hSw); go_simp; (try with_reducible rfl))
        (try simp only [Act.put, List.setIfInBounds_toArray, List.set_cons_zero, List.set_cons_succ])
        refine take_yes (i := 4) (v := ?_) rfl (by kernel_rfl) (by kernel_rfl) (by kernel_rfl) (fun _ _ _ h => h) (by rfl) ?_ hHeld ?_
        rotate_left
        · (intro w hSw; (try dsimp only at hSw); go_simp; (try with_reducible rfl))
        (try simp only [Act.put, List.setIfInBounds_toArray, List.set_cons_zero, List.set_cons_succ])
        refine take_yes (i := 5) (v := ?_) rfl (by kernel_rfl) (by kernel_rfl) (by kernel_rfl) (fun _ _ _ h => h) (by rfl) ?_ hHeld ?_
        rotate_left
        · (intro w hSw; (try dsimp only at hSw); go_simp; (try with_reducible rfl))
        (try simp only [Act.put, List.setIfInBounds_toArray, List.set_cons_zero, List.set_cons_succ])
        refine take_yes (i := 6) (v := ?_) rfl (by kernel_rfl) (by kernel_rfl) (by kernel_rfl) (fun _ _ _ h => h) (by rfl) ?_ hHeld ?_
        rotate_left
        · (intro w hSw; (try dsimp only at hSw); go_simp; (try with_reducible rfl))
        (try simp only [Act.put, List.setIfInBounds_toArray, List.set_cons_zero, List.set_cons_succ])
        refine take_yes (i := 7) (v := ?_) rfl (by kernel_rfl) (by kernel_rfl) (by kernel_rfl) (fun _ _ _ h => h) (by rfl) ?_ hHeld ?_
        rotate_left
        · (intro w hSw; (try dsimp only at hSw); go_simp; (try with_reducible rfl))
        (try simp only [Act.put, List.setIfInBounds_toArray, List.set_cons_zero, List.set_cons_succ])
        refine take_no (i := 8) rfl (by kernel_rfl) (by kernel_rfl) (by kernel_rfl) (fun _ _ _ h => h) (by rfl) hHeld ?_
        (try simp only [Act.put, List.setIfInBounds_toArray, List.set_cons_zero, List.set_cons_succ])
        refine take_no (i := 9) rfl (by kernel_rfl) (by kernel_rfl) (by kernel_rfl) (fun _ _ _ h => h) (by rfl) hHeld ?_
        (try simp only [Act.put, List.setIfInBounds_toArray, List.set_cons_zero, List.set_cons_succ])
        refine take_no (i := 10) rfl (by kernel_rfl) (by kernel_rfl) (by kernel_rfl) (fun _ _ _ h => h) (by rfl) hHeld ?_
        (try simp only [Act.put, List.setIfInBounds_toArray, List.set_cons_zero, List.set_cons_succ])
        refine take_no (i := 11) rfl (by kernel_rfl) (by kernel_rfl) (by kernel_rfl) (fun _ _ _ h => h) (by rfl) hHeld ?_
        (try simp only [Act.put, List.setIfInBounds_toArray, List.set_cons_zero, List.set_cons_succ])
        refine take_no (i := 12) rfl (by kernel_rfl) (by kernel_rfl) (by kernel_rfl) (fun _ _ _ h => h) (by rfl) hHeld ?_
        (try simp only [Act.put, List.setIfInBounds_toArray, List.set_cons_zero, List.set_cons_succ])
        refine take_no (i := 13) rfl (by kernel_rfl) (by kernel_rfl) (by kernel_rfl) (fun _ _ _ h => h) (by rfl) hHeld ?_
        (try simp only [Act.put, List.setIfInBounds_toArray, List.set_cons_zero, List.set_cons_succ])
        refine take_no (i := 14) rfl (by kernel_rfl) (by kernel_rfl) (by kernel_rfl) (fun _ _ _ h => h) (by rfl) hHeld ?_
        (try simp only [Act.put, List.setIfInBounds_toArray, List.set_cons_zero, List.set_cons_succ])
        refine take_no (i := 15) rfl (by kernel_rfl) (by kernel_rfl) (by kernel_rfl) (fun _ _ _ h => h) (by rfl) hHeld ?_
        (try simp only [Act.put, List.setIfInBounds_toArray, List.set_cons_zero, List.set_cons_succ])
        refine take_yes (i := 16) (v := ?_) rfl (by kernel_rfl) (by kernel_rfl) (by kernel_rfl) (fun _ _ _ h => h) (by rfl) ?_ hHeld ?_
        rotate_left
        · (intro w hSw; (try dsimp only at hSw); go_simp; (try with_reducible rfl))
        (try simp only [Act.put, List.setIfInBounds_toArray, List.set_cons_zero, List.set_cons_succ])
        refine take_yes (i := 17) (v := ?_) rfl (by kernel_rfl) (by kernel_rfl) (by kernel_rfl) (fun _ _ _ h => h) (by rfl) ?_ hHeld ?_
        rotate_left
        · (intro w hSw; (try dsimp only at hSw); go_simp; (try with_reducible rfl))
        (try simp only [Act.put, List.setIfInBounds_toArray, List.set_cons_zero, List.set_cons_succ])
        refine take_no (i := 18) rfl (by kernel_rfl) (by kernel_rfl) (by kernel_rfl) (fun _ _ _ h => h) (by rfl) hHeld ?_
        (try simp only [Act.put, List.setIfInBounds_toArray, List.set_cons_zero, List.set_cons_succ])
        refine take_no (i := 19) rfl (by kernel_rfl) (by kernel_rfl) (by kernel_rfl) (fun _ _ _ h => h) (by rfl) hHeld ?_
        (try simp only [Act.put, List.setIfInBounds_toArray, List.set_cons_zero, List.set_cons_succ])
        refine take_no (i := 20) rfl (by kernel_rfl) (by kernel_rfl) (by kernel_rfl) (fun _ _ _ h => h) (by rfl) hHeld ?_
        (try simp only [Act.put, List.setIfInBounds_toArray, List.set_cons_zero, List.set_cons_succ])
        refine take_no (i := 21) rfl (by kernel_rfl) (by kernel_rfl) (by kernel_rfl) (fun _ _ _ h => h) (by rfl) hHeld ?_
        (try simp only [Act.put, List.setIfInBounds_toArray, List.set_cons_zero, List.set_cons_succ])
        refine take_no (i := 22) rfl (by kernel_rfl) (by kernel_rfl) (by kernel_rfl) (fun _ _ _ h => h) (by rfl) hHeld ?_
        (try simp only [Act.put, List.setIfInBounds_toArray, List.set_cons_zero, List.set_cons_succ])
        refine take_no (i := 23) rfl (by kernel_rfl) (by kernel_rfl) (by kernel_rfl) (fun _ _ _ h => h) (by rfl) hHeld ?_
        (try simp only [Act.put, List.setIfInBounds_toArray, List.set_cons_zero, List.set_cons_succ])
        refine take_no (i := 24) rfl (by kernel_rfl) (by kernel_rfl) (by kernel_rfl) (fun _ _ _ h => h) (by rfl) hHeld ?_
        (try simp only [Act.put, List.setIfInBounds_toArray, List.set_cons_zero, List.set_cons_succ])
        refine take_no (i := 25) rfl (by kernel_rfl) (by kernel_rfl) (by kernel_rfl) (fun _ _ _ h => h) (by rfl) hHeld ?_
        (try simp only [Act.put, List.setIfInBounds_toArray, List.set_cons_zero, List.set_cons_succ])
        refine take_no (i := 26) rfl (by kernel_rfl) (by kernel_rfl) (by kernel_rfl) (fun _ _ _ h => h) (by rfl) hHeld ?_
        (try simp only [Act.put, List.setIfInBounds_toArray, List.set_cons_zero, List.set_cons_succ])
        refine take_no (i := 27) rfl (by kernel_rfl) (by kernel_rfl) (by kernel_rfl) (fun _ _ _ h => h) (by rfl) hHeld ?_
        (try simp only [Act.put, List.setIfInBounds_toArray, List.set_cons_zero, List.set_cons_succ])
        refine take_no (i := 28) rfl (by kernel_rfl) (by kernel_rfl) (by kernel_rfl) (fun _ _ _ h => h) (by rfl) hHeld ?_
        (try simp only [Act.put, List.setIfInBounds_toArray, List.set_cons_zero, List.set_cons_succ])
        refine take_yes (i := 29) (v := ?_) rfl (by kernel_rfl) (by kernel_rfl) (by kernel_rfl) (fun _ _ _ h => h) (by rfl) ?_ hHeld ?_
        rotate_left
        · (intro w hSw; (try dsimp only at hSw); go_simp; (try with_reducible rfl))
        (try simp only [Act.put, List.setIfInBounds_toArray, List.set_cons_zero, List.set_cons_succ])
        refine take_yes (i := 30) (v := ?_) rfl (by kernel_rfl) (by kernel_rfl) (by kernel_rfl) (fun _ _ _ h => h) (by rfl) ?_ hHeld ?_
        rotate_left
        · (intro w hSw; (try dsimp only at hSw); go_simp; (try with_reducible rfl))
        (try simp only [Act.put, List.setIfInBounds_toArray, List.set_cons_zero, List.set_cons_succ])
        refine wpAnyH_done (by kernel_rfl) ?_ _
        go_wp2
        go_ret
        refine BoolPost.no (fun h => ?_) hlf
        rcases h.1 j hlt _ (List.getElem?_eq_getElem hlv) with ⟨f, hf, hx⟩ | ⟨_, f0, f1, e, _⟩
        · exact HNO.out ⟨4, vks[j]⟩ (by have := (List.of_mem_zip hf).1; exact this) (by rw [EK.out])
        · simp [InTs] at e
    · have ej : j = vks.length := by omega
      subst ej
      clear hst
      go_wp2
      go_ret
      refine ⟨_, rfl, ?_, hlw⟩
      have hC := HC.out
      rw [List.take_length] at hC
      have hz : (ks.zip (InTs l)).length = ks.length := by rw [List.length_zip, InTs_length]; have := HKL.out; omega
      have hP : PropsP (ks.zip (InTs l)) (InTs []) vks vs ↔ vks.countP (isStat ks) = ks.length := by
        unfold PropsP
        rw [zip_fst HKL.out, hz]
        exact ⟨fun h => h.2, fun h => ⟨fun i hi x hx => HP.out i hi hi x hx, h⟩⟩
      rw [hP, ← hC]
      simp only [beq_iff_eq]
      omega

end Go.Proofs.YtpmfjbmfjfhghaaGreat
