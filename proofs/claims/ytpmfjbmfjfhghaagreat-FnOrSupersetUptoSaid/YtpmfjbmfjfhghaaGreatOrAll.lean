/-
  'Any.Union', 'Any.Merge', 'Or', 'impl.Or', and the union of two arguments of a law (joined out of XUnion, XMerge, XOr, XImplOr, XOrLaw by merge_tpl.py).
-/
import Derived.Test.YtpmfjbmfjfhghaaGreatNewAny
import Derived.Test.YtpmfjbmfjfhghaaGreatContains
import Derived.Test.YtpmfjbmfjfhghaaGreatApp
import Derived.Test.YtpmfjbmfjfhghaaGreatReg
import Derived.Test.YtpmfjbmfjfhghaaGreatPl
import Derived.Test.YtpmfjbmfjfhghaaGreatLaw
namespace Go.Proofs.YtpmfjbmfjfhghaaGreat
open Go.RowKit

/-- The row as it has been merged so far. -/
structure UL (w0 : World) (F : Nat → Prop) (us : List Tr) (v : Value) (zs : List Value) (wr : World) : Prop where
  below : Below w0.heap.size w0 wr
  own : wr.ownsRow w0.heap.size 68 1 v us.length zs
  rep : repPs wr F us zs

/-- An any type comes back: its types are the arguments' or new. -/
def AnyPost (l : List Tr) (F : Nat → Prop) (w : World) (e : Ending) (w' : World) : Prop :=
  ∃ A c zs, e = .returned (.slice A l.length c) ∧ l.length ≤ c ∧ rowAt w' (fun b => F b ∨ (w.heap.size ≤ b ∧ b < w'.heap.size)) A zs ∧ repPs w' (fun b => F b ∨ (w.heap.size ≤ b ∧ b < w'.heap.size)) l zs ∧ Below w.heap.size w w'

theorem UL.post {w0 wr : World} {F : Nat → Prop} {us : List Tr} {v : Value} {zs : List Value} (h : UL w0 F us v zs wr) : AnyPost us F w0 (.returned v) wr := by
  obtain ⟨A, c, rfl, hr, hc⟩ := rowAt.of_own' (B := fun b => F b ∨ (w0.heap.size ≤ b ∧ b < wr.heap.size)) h.own fun g hg hg' _ => .inr ⟨hg, hg'⟩
  exact ⟨A, c, zs, rfl, hc, hr, h.rep.keep (fun _ h => .inl h) (Kept.refl (fun _ => True) _) (fun _ _ => trivial), h.below⟩

theorem UL.push {w0 wr w1 w2 : World} {F : Nat → Prop} {us : List Tr} {v v' : Value} {zs : List Value} {t : Tr} {x : Value} (h : UL w0 F us v zs wr) (hF : ∀ b, F b → b < w0.heap.size) (hb : Below wr.heap.size wr w1) (o : Obj) (hg : (w1.alloc o).grownBy w2 v.ownBlock) (hown : w2.ownsRow w0.heap.size 68 1 v' (us.length + 1) (zs ++ [x])) (hr : repP wr F t x) :
    UL w0 F (us ++ [t]) v' (zs ++ [x]) w2 := by
  have s0 := h.below.size
  have s1 := hb.size
  have K : Kept (fun b => b < w0.heap.size) wr w2 := ((Kept.of_below (X := fun b => b < w0.heap.size) hb fun b hb => by omega).alloc (fun b hb => by omega) o).grown hg (fun b hb => by simp; omega) fun k hk hX => own_ne h.own hX hk.symm
  exact ⟨h.below.trans (K.below fun _ h => h), by rw [List.length_append]; exact hown, (h.rep.keep (fun _ h => h) K hF).snoc (hr.keep (fun _ h => h) K hF)⟩

theorem repPs.append {w : World} {F : Nat → Prop} {m : List Tr} {ys : List Value} (hm : repPs w F m ys) : ∀ {l : List Tr} {xs : List Value}, repPs w F l xs → repPs w F (l ++ m) (xs ++ ys)
  | [], xs, h => by simp only [repPs] at h; subst h; exact hm
  | t :: l, xs, h => by
    simp only [repPs] at h
    obtain ⟨x, zs, rfl, h1, h2⟩ := h
    exact ⟨x, zs ++ ys, rfl, h1, repPs.append hm h2⟩

theorem repPs.drop {w : World} {F : Nat → Prop} : ∀ {l : List Tr} {xs : List Value} (i : Nat), repPs w F l xs → repPs w F (l.drop i) (xs.drop i)
  | l, xs, 0, h => h
  | [], xs, i + 1, h => by simp only [repPs] at h; subst h; simp [repPs]
  | t :: l, xs, i + 1, h => by
    simp only [repPs] at h
    obtain ⟨x, zs, rfl, _, h2⟩ := h
    exact repPs.drop i h2

theorem repPs.one {w : World} {F : Nat → Prop} {l : List Tr} {xs : List Value} (h : repPs w F l xs) : ∀ u ∈ xs, u.oneCell' = true := fun u hu => by
  obtain ⟨j, hj, rfl⟩ := List.getElem_of_mem hu
  obtain ⟨x, hx, hh⟩ := h.get j (by rw [← h.length]; exact hj)
  obtain ⟨T, y, rfl, _⟩ := hh.dyn
  rw [List.getElem?_eq_getElem hj] at hx
  rw [Option.some.inj hx]
  rfl

theorem rowAt.dropped {w : World} {F : Nat → Prop} {A : Option Addr} {ys : List Value} (h : rowAt w F A ys) (j : Nat) : rowAt w F (Option.map (fun x => x.add j) A) (ys.drop j) := fun q u hu => by
  rw [List.getElem?_drop] at hu
  obtain ⟨b, off, rfl, hb, hc⟩ := h (j + q) u hu
  exact ⟨b, off + j, by simp [Addr.add], hb, by rw [Nat.add_assoc]; exact hc⟩

theorem UL.rest {w0 wr w2 : World} {F : Nat → Prop} {us m : List Tr} {v v' : Value} {zs ys : List Value} (h : UL w0 F us v zs wr) (hF : ∀ b, F b → b < w0.heap.size) (hg : wr.grownBy w2 v.ownBlock) (hown : w2.ownsRow w0.heap.size 68 1 v' (us.length + m.length) (zs ++ ys)) (hr : repPs wr F m ys) :
    UL w0 F (us ++ m) v' (zs ++ ys) w2 := by
  have s0 := h.below.size
  have K : Kept (fun b => b < w0.heap.size) wr w2 := (Kept.refl _ _).grown hg (fun b hb => by omega) fun k hk hX => own_ne h.own hX hk.symm
  exact ⟨h.below.trans (K.below fun _ h => h), by rw [List.length_append]; exact hown, repPs.append (hr.keep (fun _ h => h) K hF) (h.rep.keep (fun _ h => h) K hF)⟩

theorem infoTy : (Tryz.prog.info? 68).map (fun i => (i.zero, i.size, i.bytes)) = some (some .nilIface, 1, 16) := by kernel_rfl

set_option maxHeartbeats 2000000 in
set_option maxRecDepth 100000 in
theorem union_any (l m : List Tr) (xs ys : List Value) (A A' : Option Addr) (c c' : Nat) (F : Nat → Prop) (w : World) (hr : repPs w F l xs) (hx : rowAt w F A xs) (hr' : repPs w F m ys) (hx' : rowAt w F A' ys) (hF : ∀ b, F b → b < w.heap.size) (h8 : Row8 l) (h8' : Row8 m) (hc : l.length ≤ c) (hc' : m.length ≤ c') :
    Calls Tryz.prog 111 #[.slice A l.length c, .slice A' m.length c'] w (AnyPost (unionT l m) F w) := by
  obtain ⟨i1, gi, gz0, gz1, gz2⟩ := info_parts infoTy
  have hl := h8.len
  have hm := h8'.len
  have H8 := Lib.hid h8
  have H8' := Lib.hid h8'
  clear h8 h8'
  by_cases hl0 : l = []
  · subst hl0
    have e : unionT [] m = [] := by simp [unionT]
    rw [e]
    clear hr hr' hx'
    go_enter Tryz.func111, Tryz.ntmps111
    go_wp2
    go_ret
    exact ⟨A, c, [], rfl, hc, rowAt.nil, by simp [repPs], Below.refl _ _⟩
  have hl1 : 0 < l.length := List.length_pos_iff.2 hl0
  by_cases hm0 : m = []
  · subst hm0
    have e : unionT l [] = [] := by simp [unionT]
    rw [e]
    clear hr hr' hx'
    have e0 : ((l.length : Int) == 0) = false := beq_eq_false_iff_ne.2 (by omega)
    go_enter Tryz.func111, Tryz.ntmps111
    go_wp2
    go_ret
    exact ⟨A', c', [], rfl, hc', rowAt.nil, by simp [repPs], Below.refl _ _⟩
  have hm1 : 0 < m.length := List.length_pos_iff.2 hm0
  have e0 : ((l.length : Int) == 0) = false := beq_eq_false_iff_ne.2 (by omega)
  have e0' : ((m.length : Int) == 0) = false := beq_eq_false_iff_ne.2 (by omega)
  obtain ⟨w0, hmk, hown0, hgr0⟩ := run_make_own (P := Tryz.prog) w w.heap.size 90 68 i1 .nilIface 1 Tryz.underlying90 gi gz0 gz1 .i64 .i64 (max l.length m.length) (by rw [gz2]; omega) (by unfold maxLen; omega) (Nat.le_refl _)
  have emax : ((max l.length m.length : Nat) : Int) = max (l.length : Int) (m.length : Int) := by omega
  rw [emax] at hmk
  have hK0 : Kept (fun b => b < w.heap.size) w w0 := (Kept.refl _ _).grown hgr0 (fun _ h => h) fun k h => by cases h
  have hst0 : UL w F [] (.slice (some ⟨w.heap.size, 0, none⟩) 0 (max l.length m.length)) [] w0 := ⟨hK0.below fun _ h => h, hown0, by simp [repPs]⟩
  clear hgr0 hown0 emax
  go_enter Tryz.func111, Tryz.ntmps111
  go_wp2
  clear hmk
  go_loopw [9, 10, 8] (fun s9 s10 v wr => ∃ (i j : Nat) (us : List Tr) (zs : List Value), i ≤ l.length ∧ j ≤ m.length ∧ s9 = .int .i64 i ∧ s10 = .int .i64 j ∧ UL w F us v zs wr ∧ us.length ≤ i + j ∧ unionL l m = us ++ unionL (l.drop i) (m.drop j)) (fun s9 s10 _ _ => (l.length - (intOf s9).toNat) + (m.length - (intOf s10).toNat))
  case atStart => exact ⟨0, 0, [], [], Nat.zero_le _, Nat.zero_le _, rfl, rfl, hst0, Nat.zero_le _, rfl⟩
  case round =>
    obtain ⟨i, j, us, zs, hil, hjm, rfl, rfl, hst, hul, heq⟩ := hrel
    have HEQ := Lib.hid heq
    clear heq hst0 hK0
    have hrk := hr.keep (fun _ h => h) (Kept.of_below (X := fun b => b < w.heap.size) hst.below fun _ h => h) hF
    have hxk := hx.kept (Kept.of_below (X := fun b => b < w.heap.size) hst.below fun _ h => h) hF (fun _ h => h)
    have hrk' := hr'.keep (fun _ h => h) (Kept.of_below (X := fun b => b < w.heap.size) hst.below fun _ h => h) hF
    have hxk' := hx'.kept (Kept.of_below (X := fun b => b < w.heap.size) hst.below fun _ h => h) hF (fun _ h => h)
    have hll := hr.length
    have hml := hr'.length
    have hsw := hst.below.size
    by_cases hi : i < l.length
    · have f0 : ((i : Int) == (l.length : Int)) = false := beq_eq_false_iff_ne.2 (by omega)
      by_cases hj : j < m.length
      · have f0' : ((j : Int) == (m.length : Int)) = false := beq_eq_false_iff_ne.2 (by omega)
        obtain ⟨b, off, x, rfl, hb, hrx, q0, _⟩ := hrk.at_ hxk i hi
        obtain ⟨b', off', y, rfl, hb', hry, q0', _⟩ := hrk'.at_ hxk' j hj
        have hcall := fun q => compare_any l[i] m[j] x y F F (wr.drewN q) (H8.out.good _ (List.getElem_mem hi)) (H8'.out.good _ (List.getElem_mem hj)) (H8.out.size _ (List.getElem_mem hi)) (H8'.out.size _ (List.getElem_mem hj)) (hrx.drewN q) (hry.drewN q)
        have hrng := cmp_linear.rng l[i] m[j] (H8.out.good _ (List.getElem_mem hi)) (H8'.out.good _ (List.getElem_mem hj))
        obtain ⟨d, ed⟩ : ∃ d, d = cmp l[i] m[j] := ⟨_, rfl⟩
        rw [← ed] at hcall hrng
        have HC := Lib.hid hcall
        have HED := Lib.hid ed
        clear hcall ed
        obtain ⟨T, x, rfl, _⟩ := hrx.dyn
        obtain ⟨T', y, rfl, _⟩ := hry.dyn
        have hs2 : ∀ n, UL w F us _ zs (wr.drewN n) := fun n => ⟨⟨hst.below.os, hst.below.tape, hst.below.output, hst.below.size, hst.below.block⟩, hst.own, hst.rep.drewN n⟩
        obtain rfl | rfl | rfl : d = -1 ∨ d = 0 ∨ d = 1 := by omega
        · go_wp2_with fail
          go_quiet ((go_at_call 50; go_must (exact CmpPost.quiet (HC.out _))))
          have q1 : (wr.drewN nq).cell? ⟨b, off + i, none⟩ = some (.iface T x) := q0
          have hst2 := hs2 nq
          have hr2 := hrx.drewN nq
          clear hst hs2 hr hr' hx hx' hrk hxk hrk' hxk'
          go_wp2_with (at_builtin; go_must (refine wpList_append_lies _ rfl _ _ _ rfl w.heap.size 68 i1 _ 1 16 Tryz.underlying90 gi gz0 gz1 gz2 rfl (by omega) _ us.length zs (by rfl) (hst2.own.alloc _) ⟨wr.heap.size, 0, none⟩ 1 1 [_] (by rfl) rfl (news_at (wr.drewN nq) [_] _ rfl) (by simp [Value.oneCell']) (by omega) (by unfold maxLen; omega) (by omega) (by simp; omega) (wr.heap.size + 1) (by simp) ?_))
          intro g cap w2 hown2 hg2 _ _
          have hu2 := hst2.push hF (Below.refl _ _) _ hg2 hown2 hr2
          clear hst2 hown2 hg2 hr2 q1
          go_wp2
          go_roundw
          case rel =>
            refine ⟨i + 1, j, us ++ [l[i]], _, by omega, by omega, by first | rfl | go_num, by first | rfl | go_num, hu2, by simp; omega, ?_⟩
            rw [HEQ.out, List.drop_eq_getElem_cons hi, List.drop_eq_getElem_cons hj, unionL, if_pos (by rw [← HED.out]; decide)]
            simp [List.append_assoc]
          case measure => simp [intOf]; omega
        · go_wp2_with fail
          go_quiet ((go_at_call 50; go_must (exact CmpPost.quiet (HC.out _))))
          have q1 : (wr.drewN nq).cell? ⟨b, off + i, none⟩ = some (.iface T x) := q0
          have hst2 := hs2 nq
          have hr2 := hrx.drewN nq
          clear hst hs2 hr hr' hx hx' hrk hxk hrk' hxk'
          go_wp2_with (at_builtin; go_must (refine wpList_append_lies _ rfl _ _ _ rfl w.heap.size 68 i1 _ 1 16 Tryz.underlying90 gi gz0 gz1 gz2 rfl (by omega) _ us.length zs (by rfl) (hst2.own.alloc _) ⟨wr.heap.size, 0, none⟩ 1 1 [_] (by rfl) rfl (news_at (wr.drewN nq) [_] _ rfl) (by simp [Value.oneCell']) (by omega) (by unfold maxLen; omega) (by omega) (by simp; omega) (wr.heap.size + 1) (by simp) ?_))
          intro g cap w2 hown2 hg2 _ _
          have hu2 := hst2.push hF (Below.refl _ _) _ hg2 hown2 hr2
          clear hst2 hown2 hg2 hr2 q1
          go_wp2
          go_roundw
          case rel =>
            refine ⟨i + 1, j + 1, us ++ [l[i]], _, by omega, by omega, by first | rfl | go_num, by first | rfl | go_num, hu2, by simp; omega, ?_⟩
            rw [HEQ.out, List.drop_eq_getElem_cons hi, List.drop_eq_getElem_cons hj, unionL, if_neg (by rw [← HED.out]; decide), if_pos HED.out.symm]
            simp [List.append_assoc]
          case measure => simp [intOf]; omega
        · go_wp2_with fail
          go_quiet ((go_at_call 50; go_must (exact CmpPost.quiet (HC.out _))))
          have q1 : (wr.drewN nq).cell? ⟨b', off' + j, none⟩ = some (.iface T' y) := q0'
          have hst2 := hs2 nq
          have hr2 := hry.drewN nq
          clear hst hs2 hr hr' hx hx' hrk hxk hrk' hxk'
          go_wp2_with (at_builtin; go_must (refine wpList_append_lies _ rfl _ _ _ rfl w.heap.size 68 i1 _ 1 16 Tryz.underlying90 gi gz0 gz1 gz2 rfl (by omega) _ us.length zs (by rfl) (hst2.own.alloc _) ⟨wr.heap.size, 0, none⟩ 1 1 [_] (by rfl) rfl (news_at (wr.drewN nq) [_] _ rfl) (by simp [Value.oneCell']) (by omega) (by unfold maxLen; omega) (by omega) (by simp; omega) (wr.heap.size + 1) (by simp) ?_))
          intro g cap w2 hown2 hg2 _ _
          have hu2 := hst2.push hF (Below.refl _ _) _ hg2 hown2 hr2
          clear hst2 hown2 hg2 hr2 q1
          go_wp2
          go_roundw
          case rel =>
            refine ⟨i, j + 1, us ++ [m[j]], _, by omega, by omega, by first | rfl | go_num, by first | rfl | go_num, hu2, by simp; omega, ?_⟩
            rw [HEQ.out, List.drop_eq_getElem_cons hi, List.drop_eq_getElem_cons hj, unionL, if_neg (by rw [← HED.out]; decide), if_neg (by rw [← HED.out]; decide)]
            simp [List.append_assoc]
          case measure => simp [intOf]; omega
      · obtain rfl : j = m.length := by omega
        have e : unionT l m = us ++ l.drop i := by
          rw [unionT, if_neg (by simp [hl0, hm0]), HEQ.out, List.drop_length, unionL_nil]
        have hreps := hrk.drop i
        have hrow := hxk.dropped i
        have hone := hrk.one
        have elen : us.length + (l.length - i) = us.length + (l.drop i).length := by rw [List.length_drop]
        clear hr hr' hx hx' hrk hxk hrk' hxk'
        go_wp2_with (at_builtin; go_must (refine wpList_append_row _ rfl _ _ _ rfl w.heap.size 68 i1 _ 1 16 Tryz.underlying90 gi gz0 gz1 gz2 rfl (by omega) _ us.length zs (by rfl) hst.own F (Option.map (fun x => x.add i) A) (l.length - i) (c - i) (xs.drop i) (by rfl) (by rw [List.length_drop]; omega) hrow (fun u hu => hone u (List.mem_of_mem_drop hu)) (by unfold maxLen; omega) (by omega) hsw ?_))
        intro v' w2 hown2 hg2 _
        have hu2 := hst.rest hF hg2 (by first | exact hown2 | (rw [← elen]; exact hown2)) hreps
        clear hst hown2 hg2 hrow hreps hone
        go_wp2
        go_ret
        rw [e]
        exact hu2.post
    · obtain rfl : i = l.length := by omega
      by_cases hj : j < m.length
      · have e : unionT l m = us ++ m.drop j := by
          rw [unionT, if_neg (by simp [hl0, hm0]), HEQ.out, List.drop_length, unionL]
        have hreps := hrk'.drop j
        have hrow := hxk'.dropped j
        have hone := hrk'.one
        have elen : us.length + (m.length - j) = us.length + (m.drop j).length := by rw [List.length_drop]
        clear hr hr' hx hx' hrk hxk hrk' hxk'
        go_wp2_with (at_builtin; go_must (refine wpList_append_row _ rfl _ _ _ rfl w.heap.size 68 i1 _ 1 16 Tryz.underlying90 gi gz0 gz1 gz2 rfl (by omega) _ us.length zs (by rfl) hst.own F (Option.map (fun x => x.add j) A') (m.length - j) (c' - j) (ys.drop j) (by rfl) (by rw [List.length_drop]; omega) hrow (fun u hu => hone u (List.mem_of_mem_drop hu)) (by unfold maxLen; omega) (by omega) hsw ?_))
        intro v' w2 hown2 hg2 _
        have hu2 := hst.rest hF hg2 (by first | exact hown2 | (rw [← elen]; exact hown2)) hreps
        clear hst hown2 hg2 hrow hreps hone
        go_wp2
        go_ret
        rw [e]
        exact hu2.post
      · obtain rfl : j = m.length := by omega
        have e : unionT l m = us := by
          rw [unionT, if_neg (by simp [hl0, hm0]), HEQ.out]
          simp [unionL]
        clear hr hr' hx hx' hrk hxk hrk' hxk'
        go_wp2
        go_ret
        rw [e]
        exact hst.post

/-- 'copy' of a part of a row into a part of another one. -/
theorem run_copy_part {P : Program} (w : World) (dT sT ty elem : TypeId) (g o dLen dCap : Nat) (A : Option Addr) (n c : Nat) (cur xs : List Value) (t : TypeId) (F : Nat → Prop)
    (hu : P.underlying dT = some (.slice elem)) (hs : (P.info? elem).map (·.size) = some 1) (hg : Blk w g t cur.toArray) (hn : xs.length = min n dLen) (ho : o + xs.length ≤ cur.length) (hr : rowAt w F A xs) (h1 : ∀ v ∈ xs, v.oneCell' = true) :
    ∃ w', (Builtin.copy_ #[dT, sT] ty #[.slice (some ⟨g, o, none⟩) dLen dCap, .slice A n c]).run P w = .ok (goInt xs.length) w' ∧ Blk w' g t (cur.take o ++ xs ++ cur.drop (o + xs.length)).toArray ∧ Below g w w' := by
  by_cases h0 : xs = []
  · subst h0
    refine ⟨w, run_copy_none w dT sT ty elem _ _ _ _ _ _ hu hs ?_, by simpa using hg, Below.refl _ _⟩
    simpa using hn.symm
  · obtain ⟨b, off, rfl, _, _⟩ := hr 0 (xs[0]'(List.length_pos_iff.2 h0)) (by simp [List.length_pos_iff.2 h0])
    refine ⟨_, run_copy_row P w dT sT ty elem g o dLen dCap ⟨b, off, none⟩ n c cur.toArray t xs hu hs hg (by simpa using hn) ?_ (by simpa using ho) h1, ?_, below_setRow (Below.refl _ _) (Nat.le_refl _) _⟩
    · intro j v hv
      obtain ⟨b', off', e, _, hc⟩ := hr j v hv
      injection e with e
      injection e with e1 e2
      subst e1 e2
      unfold Addr.add
      split
      · rename_i h0; subst h0; exact hc
      · exact hc
    · exact setRow_heap w g cur.toArray _ t (0, 0) hg

theorem ins_cells {α : Type} (xs cur : List α) (p : Nat) (v : α) (h : cur.length = xs.length + 1) (hp : p ≤ xs.length) :
    (((xs.take p ++ cur.drop p).set p v).take (p + 1) ++ xs.drop p ++ ((xs.take p ++ cur.drop p).set p v).drop (p + 1 + (xs.drop p).length)) = xs.take p ++ v :: xs.drop p := by
  have hl : (xs.take p).length = p := by rw [List.length_take]; omega
  have hd : ((xs.take p ++ cur.drop p).set p v).drop (p + 1 + (xs.drop p).length) = [] := List.drop_of_length_le (by simp; omega)
  rw [hd, List.append_nil]
  have ht : ((xs.take p ++ cur.drop p).set p v).take (p + 1) = xs.take p ++ [v] := by
    rw [List.set_append_right _ _ (by omega), hl, Nat.sub_self]
    obtain ⟨y, ys, e⟩ : ∃ y ys, cur.drop p = y :: ys := by
      cases hc : cur.drop p with
      | nil => have := congrArg List.length hc; simp at this; omega
      | cons y ys => exact ⟨y, ys, rfl⟩
    rw [e, List.set_cons_zero, List.take_append, hl, List.take_of_length_le (by omega)]
    simp
  rw [ht, List.append_assoc]
  rfl

theorem repPs.take {w : World} {F : Nat → Prop} : ∀ {l : List Tr} {xs : List Value} (i : Nat), repPs w F l xs → repPs w F (l.take i) (xs.take i)
  | l, xs, 0, h => by simp [repPs]
  | [], xs, i + 1, h => by simp only [repPs] at h; subst h; simp [repPs]
  | t :: l, xs, i + 1, h => by
    simp only [repPs] at h
    obtain ⟨x, zs, rfl, h1, h2⟩ := h
    exact ⟨x, zs.take i, rfl, h1, repPs.take i h2⟩

theorem rowAt.taken {w : World} {F : Nat → Prop} {A : Option Addr} {ys : List Value} (h : rowAt w F A ys) (j : Nat) : rowAt w F A (ys.take j) := fun q u hu => by
  rw [List.getElem?_take] at hu
  split at hu
  · exact h q u hu
  · cases hu

set_option maxHeartbeats 2000000 in
set_option maxRecDepth 100000 in
theorem merge_any (l : List Tr) (t : Tr) (xs : List Value) (v : Value) (A : Option Addr) (c : Nat) (F : Nat → Prop) (w : World) (hr : repPs w F l xs) (hx : rowAt w F A xs) (ht : repP w F t v) (hF : ∀ b, F b → b < w.heap.size) (h8 : Row8 l) (hg : t.good) (hs : t.size ≤ 1073741824) (hk : t.kind ≠ 8) (hc : l.length ≤ c) :
    Calls Tryz.prog 98 #[.slice A l.length c, v] w (AnyPost (mergeT l t) F w) := by
  have hco := anyContains_any l t xs v A c F F w hr hx ht h8 hg hs
  have hbs := fun W (h1 : repPs W F l xs) (h2 : rowAt W F A xs) (h3 : repP W F t v) => bsearch_any l t xs v A c F F W h1 h2 h3 h8 hg hs
  have hlen := h8.len
  have hxl := hr.length
  have hpl := place_le l t
  obtain ⟨i1, gi, gz0, gz1, gz2⟩ := info_parts infoTy
  have hsz : (Tryz.prog.info? 68).map (·.size) = some 1 := by simp [gi, gz1]
  have hone := hr.one
  obtain ⟨T, y, rfl, hd⟩ := ht.dyn
  have hne : T ≠ 90 := by
    rcases hd with ⟨rfl, _⟩ | ⟨rfl, _⟩ | ⟨rfl, _⟩ | ⟨rfl, _⟩ | ⟨rfl, _⟩ | ⟨rfl, _⟩ | ⟨rfl, _⟩ | ⟨_, h⟩ | ⟨rfl, _⟩
    case inr.inr.inr.inr.inr.inr.inr.inl => exact absurd (by omega) hk
    all_goals decide
  by_cases hcon : (hasT l t || l.isEmpty) = true
  · have e : mergeT l t = l := by
      rw [mergeT, if_pos]
      rcases Bool.or_eq_true _ _ ▸ hcon with h | h
      · exact .inr h
      · exact .inl (List.isEmpty_iff.1 h)
    rw [e]
    rw [hcon] at hco
    have hfin : ∀ q, AnyPost l F w (.returned (.slice A l.length c)) (w.drewN q) := fun q => ⟨A, c, xs, rfl, hc, (hx.kept ((Kept.refl (fun _ => True) w).drewN q) (fun _ _ => trivial) fun _ h => .inl h), (hr.drewN q).keep (fun _ h => .inl h) (Kept.refl (fun _ => True) _) (fun _ _ => trivial), ((Kept.refl (fun b => b < w.heap.size) w).drewN q).below fun _ h => h⟩
    clear hbs hr hx ht hk
    rcases hd with ⟨rfl, _⟩ | ⟨rfl, _⟩ | ⟨rfl, _⟩ | ⟨rfl, _⟩ | ⟨rfl, _⟩ | ⟨rfl, _⟩ | ⟨rfl, _⟩ | ⟨rfl, _⟩ | ⟨rfl, _⟩
    case inr.inr.inr.inr.inr.inr.inr.inl => exact absurd rfl hne
    all_goals
      clear hne
      go_enter Tryz.func98, Tryz.ntmps98
      go_wp2_with fail
      refine hco.mono ?_
      rintro e w' ⟨rfl, q, rfl⟩
      clear hco
      go_wp2
      go_ret
      exact hfin q
  · have hcf : (hasT l t || l.isEmpty) = false := by simpa using hcon
    rw [hcf] at hco
    have e : mergeT l t = insT l t := by
      rw [mergeT, if_neg]
      intro h
      refine hcon ?_
      rw [Bool.or_eq_true]
      exact h.symm.imp id fun h => by rw [h]; rfl
    rw [e]
    have hmk := fun q => run_makeSlice (P := Tryz.prog) (w := w.drewN q) 90 68 i1 .nilIface Tryz.underlying90 gi gz0 .i64 .i64 ((l.length : Int) + 1) ((l.length : Int) + 1) (by omega) (by omega) (by rw [gz1]; omega) (by rw [gz2]; omega) (by omega)
    have etn : ((l.length : Int) + 1).toNat = l.length + 1 := by omega
    simp only [gz1, etn, Nat.mul_one] at hmk
    obtain ⟨Z, hZ⟩ : ∃ Z : List Value, Z = (madeCells Value.nilIface.cells (l.length + 1)).toList := ⟨_, rfl⟩
    have hZl : Z.length = l.length + 1 := by rw [hZ]; simp [size_madeCells]
    have e0 : madeCells Value.nilIface.cells (l.length + 1) = Z.toArray := by rw [hZ]
    simp only [e0] at hmk
    have hbl : ∀ q, Below w.heap.size w ((w.drewN q).alloc (.cells Z.toArray 68)) := fun q => (((Kept.refl (fun b => b < w.heap.size) w).drewN q).below fun _ h => h).alloc (Nat.le_refl _) _
    have hbs1 : ∀ q, Calls Tryz.prog 99 #[.slice A l.length c, .iface T y, .func (.func 50) #[] #[]] ((w.drewN q).alloc (.cells Z.toArray 68)) (FoundPost (place l t) (hasT l t) ((w.drewN q).alloc (.cells Z.toArray 68))) := fun q =>
      hbs _ (hr.keep (fun _ h => h) (Kept.of_below (hbl q) fun _ h => h) hF) (hx.kept (Kept.of_below (hbl q) fun _ h => h) hF fun _ h => h) (ht.keep (fun _ h => h) (Kept.of_below (hbl q) fun _ h => h) hF)
    have HMK := Lib.hid hmk
    obtain ⟨p, ep⟩ : ∃ p, p = place l t := ⟨_, rfl⟩
    rw [← ep] at hbs1 hpl
    have HEP := Lib.hid ep
    have hpx : (xs.take p).length = p := by rw [List.length_take]; omega
    have big : ∀ q n, ∃ w3, (Builtin.copy_ #[90, 90] 3 #[.slice (some ⟨w.heap.size, 0, none⟩) (l.length + 1) (l.length + 1), .slice A p c]).run Tryz.prog (((w.drewN q).alloc (.cells Z.toArray 68)).drewN n) = .ok (goInt p) w3 ∧
        w3.frozen? ⟨w.heap.size, p, none⟩ = false ∧ (∃ u, w3.cell? ⟨w.heap.size, p, none⟩ = some u) ∧ w.heap.size < w3.heap.size ∧
        (p = l.length → AnyPost (insT l t) F w (.returned (.slice (some ⟨w.heap.size, 0, none⟩) (l.length + 1) (l.length + 1))) (w3.setCell ⟨w.heap.size, p, none⟩ (.iface T y)).drew) ∧
        ∃ w5, (Builtin.copy_ #[90, 90] 3 #[.slice (some ⟨w.heap.size, p + 1, none⟩) (l.length - p) (l.length - p), .slice (Option.map (fun x => x.add p) A) (l.length - p) (c - p)]).run Tryz.prog (w3.setCell ⟨w.heap.size, p, none⟩ (.iface T y)).drew = .ok (goInt (l.length - p : Nat)) w5 ∧
        AnyPost (insT l t) F w (.returned (.slice (some ⟨w.heap.size, 0, none⟩) (l.length + 1) (l.length + 1))) w5 := by
      intro q n
      have hb0 : Blk (((w.drewN q).alloc (.cells Z.toArray 68)).drewN n) w.heap.size 68 Z.toArray := Blk.new (w.drewN q) _ _
      have k0 : Kept (fun b => b < w.heap.size) w (((w.drewN q).alloc (.cells Z.toArray 68)).drewN n) := (Kept.of_below (hbl q) fun _ h => h).drewN n
      obtain ⟨w3, h3, b3, l3⟩ := run_copy_part (P := Tryz.prog) _ 90 90 3 68 w.heap.size 0 (l.length + 1) (l.length + 1) A p c Z (xs.take p) 68 F Tryz.underlying90 hsz hb0 (by rw [hpx]; omega) (by omega) ((hx.taken p).kept k0 hF fun _ h => h) (fun u hu => hone u (List.mem_of_mem_take hu))
      rw [hpx] at h3
      have b3' : Blk w3 w.heap.size 68 (xs.take p ++ Z.drop p).toArray := by
        have := b3
        rw [hpx] at this
        simpa using this
      have k3 : Kept (fun b => b < w.heap.size) w w3 := k0.trans (Kept.of_below l3 fun _ h => h)
      have hlz : (xs.take p ++ Z.drop p).length = l.length + 1 := by rw [List.length_append, hpx, List.length_drop]; omega
      have hcp : ∃ u, w3.cell? ⟨w.heap.size, p, none⟩ = some u := by
        rw [b3'.cell]
        exact ⟨(xs.take p ++ Z.drop p)[p]'(by omega), by rw [List.getElem?_toArray, List.getElem?_eq_getElem]⟩
      have b4 : Blk (w3.setCell ⟨w.heap.size, p, none⟩ (.iface T y)).drew w.heap.size 68 ((xs.take p ++ Z.drop p).set p (.iface T y)).toArray := by
        have := b3'.set_ p (.iface T y)
        rwa [List.setIfInBounds_toArray] at this
      have k4 : Kept (fun b => b < w.heap.size) w (w3.setCell ⟨w.heap.size, p, none⟩ (.iface T y)).drew := (k3.setCell (by simp) _).drew
      have hdl : (xs.drop p).length = l.length - p := by rw [List.length_drop]; omega
      obtain ⟨w5, h5, b5, l5⟩ := run_copy_part (P := Tryz.prog) _ 90 90 3 68 w.heap.size (p + 1) (l.length - p) (l.length - p) (Option.map (fun x => x.add p) A) (l.length - p) (c - p) _ (xs.drop p) 68 F Tryz.underlying90 hsz b4 (by rw [hdl]; omega) (by rw [List.length_set, hlz, hdl]; omega) ((hx.dropped p).kept k4 hF fun _ h => h) (fun u hu => hone u (List.mem_of_mem_drop hu))
      rw [hdl] at h5
      rw [ins_cells xs Z p _ (by omega) (by omega)] at b5
      have k5 : Kept (fun b => b < w.heap.size) w w5 := k4.trans (Kept.of_below l5 fun _ h => h)
      have hF5 : ∀ b, F b → F b ∨ (w.heap.size ≤ b ∧ b < w5.heap.size) := fun _ h => .inl h
      have hil : (insT l t).length = l.length + 1 := by rw [insT, ← HEP.out, List.length_append, List.length_take, List.length_cons, List.length_drop]; omega
      refine ⟨w3, h3, b3'.frozen p, hcp, b3'.lt, fun hpl => ?_, w5, h5, ?_⟩
      · have e4 : (xs.take p ++ Z.drop p).set p (.iface T y) = xs.take p ++ .iface T y :: xs.drop p := by
          have := ins_cells xs Z p (.iface T y) (by omega) (by omega)
          have hd0 : xs.drop p = [] := List.drop_of_length_le (by omega)
          rw [hd0, List.append_nil, List.length_nil, Nat.add_zero, List.take_append_drop] at this
          rw [this, hd0]
        rw [e4] at b4
        have hF4 : ∀ b, F b → F b ∨ (w.heap.size ≤ b ∧ b < (w3.setCell ⟨w.heap.size, p, none⟩ (.iface T y)).drew.heap.size) := fun _ h => .inl h
        rw [← hil]
        refine ⟨_, _, xs.take p ++ .iface T y :: xs.drop p, rfl, Nat.le_refl _, fun j u hu => ⟨w.heap.size, 0, rfl, .inr ⟨Nat.le_refl _, b4.lt⟩, by rw [b4.cell]; simpa using hu⟩, ?_, k4.below fun _ h => h⟩
        rw [insT, ← HEP.out]
        refine repPs.append ?_ ((hr.take p).keep hF4 k4 hF)
        simp only [repPs]
        exact ⟨_, _, rfl, ht.keep hF4 k4 hF, (hr.drop p).keep hF4 k4 hF⟩
      rw [← hil]
      refine ⟨_, _, xs.take p ++ .iface T y :: xs.drop p, rfl, Nat.le_refl _, fun j u hu => ⟨w.heap.size, 0, rfl, .inr ⟨Nat.le_refl _, b5.lt⟩, by rw [b5.cell]; simpa using hu⟩, ?_, k5.below fun _ h => h⟩
      rw [insT, ← HEP.out]
      refine repPs.append ?_ ((hr.take p).keep hF5 k5 hF)
      simp only [repPs]
      exact ⟨_, _, rfl, ht.keep hF5 k5 hF, (hr.drop p).keep hF5 k5 hF⟩
    have BIG := Lib.hid big
    have hnone := fun (W : World) (d a : Option Addr) (dc sc : Nat) => run_copy_none (P := Tryz.prog) W 90 90 3 68 d a 0 dc 0 sc Tryz.underlying90 hsz rfl
    have ew : IntKind.i64.wrap ((p : Int) + 1) = (p : Int) + 1 := IntWalk.i64_in _ (by omega)
    have et : ((p : Int) + 1).toNat = p + 1 := by omega
    have ei : (0 : Int) ≤ (p : Int) + 1 := by omega
    have ej : (p : Int) + 1 ≤ (l.length : Int) + 1 := by omega
    clear hbs e0 hZ hmk ep big hr hx ht hk hbl hone hsz hxl hpx hZl gi gz0 gz1 gz2
    rcases hd with ⟨rfl, _⟩ | ⟨rfl, _⟩ | ⟨rfl, _⟩ | ⟨rfl, _⟩ | ⟨rfl, _⟩ | ⟨rfl, _⟩ | ⟨rfl, _⟩ | ⟨rfl, _⟩ | ⟨rfl, _⟩
    case inr.inr.inr.inr.inr.inr.inr.inl => exact absurd rfl hne
    all_goals
      clear hne
      go_enter Tryz.func98, Tryz.ntmps98
      go_wp2_with fail
      refine hco.mono ?_
      rintro e w' ⟨rfl, q, rfl⟩
      have hmk := HMK.out q
      go_wp2_with fail
      refine (hbs1 q).mono ?_
      rintro e w' ⟨rfl, n, rfl⟩
      obtain ⟨w3, h3, fr3, ⟨u3, c3⟩, s3, hfin0, w5, h5, hfin⟩ := BIG.out q n
      clear hmk
      go_wp2
      clear h3
      rcases Nat.eq_or_lt_of_le hpl with hpe | hpe
      · have hfin1 := hfin0 hpe
        have h5n := fun (W : World) (a : Option Addr) (sc : Nat) => hnone W (some ⟨w.heap.size, 0, none⟩) a 0 sc
        have en : l.length + 1 = p + 1 := by omega
        rw [en] at hfin1
        have en2 : l.length + 1 - (p + 1) = 0 := by omega
        have en3 : l.length - p = 0 := by omega
        clear h5 hfin hfin0 hnone hpe
        by_cases hcp : c = p
        all_goals
          refine wp_region_held_drew (S := (fun _ => True)) (by kernel_rfl) (trivial) (fun hHeld => ?_)
          refine take_yes (i := 0) (v := ?_) rfl (by kernel_rfl) (by kernel_rfl) (by kernel_rfl) (fun _ _ _ h => h) (by rfl) ?_ hHeld ?_
          rotate_left
          · (intro w hSw; (try dsimp only at hSw); go_simp; (try with_reducible rfl))
          (try simp only [Act.put, List.setIfInBounds_toArray, List.set_cons_zero, List.set_cons_succ])
          refine take_yes (i := 1) (v := ?_) rfl (by kernel_rfl) (by kernel_rfl) (by kernel_rfl) (fun _ _ _ h => h) (by rfl) ?_ hHeld ?_
          rotate_left
          · (intro w hSw; (try dsimp only at hSw); go_simp; (try with_reducible rfl))
          (try simp only [Act.put, List.setIfInBounds_toArray, List.set_cons_zero, List.set_cons_succ])
          refine take_yes (i := 2) (v := ?_) rfl (by kernel_rfl) (by kernel_rfl) (by kernel_rfl) (fun _ _ _ h => h) (by rfl) ?_ hHeld ?_
          rotate_left
          · (intro w hSw; (try dsimp only at hSw); go_simp; (try with_reducible rfl))
          (try simp only [Act.put, List.setIfInBounds_toArray, List.set_cons_zero, List.set_cons_succ])
          refine take_yes (i := 3) (v := ?_) rfl (by kernel_rfl) (by kernel_rfl) (by kernel_rfl) (fun _ _ _ h => h) (by rfl) ?_ hHeld ?_
          rotate_left
          · (intro w hSw; (try dsimp only at hSw); go_simp; (try with_reducible rfl))
          (try simp only [Act.put, List.setIfInBounds_toArray, List.set_cons_zero, List.set_cons_succ])
          refine take_yes (i := 4) (v := ?_) rfl (by kernel_rfl) (by kernel_rfl) (by kernel_rfl) (fun _ _ _ h => h) (by rfl) ?_ hHeld ?_
          rotate_left
          · (intro w hSw; (try dsimp only at hSw); go_simp; (try with_reducible rfl))
          (try simp only [Act.put, List.setIfInBounds_toArray, List.set_cons_zero, List.set_cons_succ])
          refine take_yes (i := 5) (v := ?_) rfl (by kernel_rfl) (by kernel_rfl) (by kernel_rfl) (fun _ _ _ h => h) (by rfl) ?_ hHeld ?_
          rotate_left
          · (intro w hSw; (try dsimp only at hSw); go_simp; (try with_reducible rfl))
          (try simp only [Act.put, List.setIfInBounds_toArray, List.set_cons_zero, List.set_cons_succ])
          refine take_yes (i := 6) (v := ?_) rfl (by kernel_rfl) (by kernel_rfl) (by kernel_rfl) (fun _ _ _ h => h) (by rfl) ?_ hHeld ?_
          rotate_left
          · (intro w hSw; (try dsimp only at hSw); go_simp; (try with_reducible rfl))
          (try simp only [Act.put, List.setIfInBounds_toArray, List.set_cons_zero, List.set_cons_succ])
          refine take_step (i := 7) rfl (by kernel_rfl) (fun K hK => ?_)
          go_simp
          skip
          (try go_wp2_with fail)
          refine hK.out _ _ (trivial) (fun hHeld => ?_)
          clear hK K
          (try simp only [Act.put, List.setIfInBounds_toArray, List.set_cons_zero, List.set_cons_succ])
          refine wpAnyH_done (by kernel_rfl) ?_ _
          go_wp2
          go_ret
          exact hfin1
      · have en : ¬ l.length + 1 = p + 1 := by omega
        have en2 : l.length + 1 - (p + 1) = l.length - p := by omega
        have en3 : ¬ c = p := by omega
        clear hfin0 hnone
        refine wp_region_held_drew (S := (fun _ => True)) (by kernel_rfl) (trivial) (fun hHeld => ?_)
        refine take_yes (i := 0) (v := ?_) rfl (by kernel_rfl) (by kernel_rfl) (by kernel_rfl) (fun _ _ _ h => h) (by rfl) ?_ hHeld ?_
        rotate_left
        · (intro w hSw; (try dsimp only at hSw); go_simp; (try with_reducible rfl))
        (try simp only [Act.put, List.setIfInBounds_toArray, List.set_cons_zero, List.set_cons_succ])
        refine take_yes (i := 1) (v := ?_) rfl (by kernel_rfl) (by kernel_rfl) (by kernel_rfl) (fun _ _ _ h => h) (by rfl) ?_ hHeld ?_
        rotate_left
        · (intro w hSw; (try dsimp only at hSw); go_simp; (try with_reducible rfl))
        (try simp only [Act.put, List.setIfInBounds_toArray, List.set_cons_zero, List.set_cons_succ])
        refine take_yes (i := 2) (v := ?_) rfl (by kernel_rfl) (by kernel_rfl) (by kernel_rfl) (fun _ _ _ h => h) (by rfl) ?_ hHeld ?_
        rotate_left
        · (intro w hSw; (try dsimp only at hSw); go_simp; (try with_reducible rfl))
        (try simp only [Act.put, List.setIfInBounds_toArray, List.set_cons_zero, List.set_cons_succ])
        refine take_yes (i := 3) (v := ?_) rfl (by kernel_rfl) (by kernel_rfl) (by kernel_rfl) (fun _ _ _ h => h) (by rfl) ?_ hHeld ?_
        rotate_left
        · (intro w hSw; (try dsimp only at hSw); go_simp; (try with_reducible rfl))
        (try simp only [Act.put, List.setIfInBounds_toArray, List.set_cons_zero, List.set_cons_succ])
        refine take_yes (i := 4) (v := ?_) rfl (by kernel_rfl) (by kernel_rfl) (by kernel_rfl) (fun _ _ _ h => h) (by rfl) ?_ hHeld ?_
        rotate_left
        · (intro w hSw; (try dsimp only at hSw); go_simp; (try with_reducible rfl))
        (try simp only [Act.put, List.setIfInBounds_toArray, List.set_cons_zero, List.set_cons_succ])
        refine take_yes (i := 5) (v := ?_) rfl (by kernel_rfl) (by kernel_rfl) (by kernel_rfl) (fun _ _ _ h => h) (by rfl) ?_ hHeld ?_
        rotate_left
        · (intro w hSw; (try dsimp only at hSw); go_simp; (try with_reducible rfl))
        (try simp only [Act.put, List.setIfInBounds_toArray, List.set_cons_zero, List.set_cons_succ])
        refine take_yes (i := 6) (v := ?_) rfl (by kernel_rfl) (by kernel_rfl) (by kernel_rfl) (fun _ _ _ h => h) (by rfl) ?_ hHeld ?_
        rotate_left
        · (intro w hSw; (try dsimp only at hSw); go_simp; (try with_reducible rfl))
        (try simp only [Act.put, List.setIfInBounds_toArray, List.set_cons_zero, List.set_cons_succ])
        refine take_step (i := 7) rfl (by kernel_rfl) (fun K hK => ?_)
        go_simp
        skip
        (try go_wp2_with fail)
        refine hK.out _ _ (trivial) (fun hHeld => ?_)
        clear hK K
        (try simp only [Act.put, List.setIfInBounds_toArray, List.set_cons_zero, List.set_cons_succ])
        refine wpAnyH_done (by kernel_rfl) ?_ _
        go_wp2
        go_ret
        exact hfin

/-- A type comes back: its blocks are the arguments' or new. -/
def OrPost (t : Tr) (F : Nat → Prop) (w : World) (e : Ending) (w' : World) : Prop :=
  ∃ u, e = .returned u ∧ repP w' (fun b => F b ∨ (w.heap.size ≤ b ∧ b < w'.heap.size)) t u ∧ Below w.heap.size w w'

theorem AnyPost.or {l : List Tr} {F : Nat → Prop} {w w' : World} {v : Value} (h : AnyPost l F w (.returned v) w') : OrPost (.mk 8 [] l []) F w (.returned (.iface 90 v)) w' := by
  obtain ⟨A, c, zs, e, hc, hr, hl, hb⟩ := h
  cases e
  refine ⟨_, rfl, ?_, hb⟩
  simp only [repP]
  exact .inr (.inr (.inr (.inr ⟨by simp, by simp, by simp, A, c, zs, rfl, hc, hr, hl⟩)))

set_option maxHeartbeats 2000000 in
set_option maxRecDepth 100000 in
theorem merge8_any (l m : List Tr) (A A' : Option Addr) (c c' : Nat) (P : Ending → World → Prop) (w : World) (h : Calls Tryz.prog 111 #[.slice A l.length c, .slice A' m.length c'] w fun e w' => ∃ A'' n c'', e = .returned (.slice A'' n c'') ∧ P (.returned (.slice A'' n c'')) w') :
    Calls Tryz.prog 98 #[.slice A l.length c, .iface 90 (.slice A' m.length c')] w P := by
  go_enter Tryz.func98, Tryz.ntmps98
  go_wp2_with fail
  refine h.mono ?_
  rintro e w' ⟨A'', n, c'', rfl, hp⟩
  clear h
  go_wp2
  first
    | (go_ret; exact hp)
    | exact hp

theorem no_fn (T : TypeId) (n : Int) (x : Value) (hd : Dyn T n) (h : T ≠ 75) (W : World) : (Instr.typeAssert (.iface T x) 68 75 true).run Tryz.prog W = .ok (.tuple #[.pointer none, .bool false]) W := by
  rcases hd with ⟨rfl, _⟩ | ⟨rfl, _⟩ | ⟨rfl, _⟩ | ⟨rfl, _⟩ | ⟨rfl, _⟩ | ⟨rfl, _⟩ | ⟨rfl, _⟩ | ⟨rfl, _⟩ | ⟨rfl, _⟩
  case inr.inr.inr.inr.inr.inr.inr.inr => exact absurd rfl h
  all_goals go_simp

theorem no_any (T : TypeId) (n : Int) (x : Value) (hd : Dyn T n) (h : T ≠ 90) (W : World) : (Instr.typeAssert (.iface T x) 68 90 true).run Tryz.prog W = .ok (.tuple #[.slice none 0 0, .bool false]) W := by
  rcases hd with ⟨rfl, _⟩ | ⟨rfl, _⟩ | ⟨rfl, _⟩ | ⟨rfl, _⟩ | ⟨rfl, _⟩ | ⟨rfl, _⟩ | ⟨rfl, _⟩ | ⟨rfl, _⟩ | ⟨rfl, _⟩
  case inr.inr.inr.inr.inr.inr.inr.inl => exact absurd rfl h
  all_goals go_simp

set_option maxHeartbeats 2000000 in
set_option maxRecDepth 100000 in
/-- Neither is an any type. -/
theorem or_none (T T' : TypeId) (x y : Value) (w : World) (n n' d : Int) (hd : Dyn T n) (hd' : Dyn T' n') (h1 : T ≠ 75) (h2 : T' ≠ 75) (h3 : T ≠ 90) (h4 : T' ≠ 90) (P : Ending → World → Prop)
    (hc : Calls Tryz.prog 50 #[.iface T x, .iface T' y] w (CmpPost d w)) (hz : d = 0 → ∀ q, P (.returned (.iface T x)) (w.drewN q))
    (hn : d ≠ 0 → ∀ q, Calls Tryz.prog 73 #[.slice (some ⟨w.heap.size, 0, none⟩) 2 2] ((w.drewN q).alloc (.cells #[.iface T x, .iface T' y] 68)) fun e w' => ∃ A'' n c'', e = .returned (.slice A'' n c'') ∧ P (.returned (.iface 90 (.slice A'' n c''))) w') :
    Calls Tryz.prog 57 #[.iface T x, .iface T' y] w P := by
  have hu := fun W => unwrap_any T n x W hd
  have hu' := fun W => unwrap_any T' n' y W hd'
  have b1 := no_fn T n x hd h1
  have b2 := no_fn T' n' y hd' h2
  have b3 := no_any T n x hd h3
  have b4 := no_any T' n' y hd' h4
  have HZ := Lib.hid hz
  have HN := Lib.hid hn
  clear hz hn
  by_cases h0 : d = 0
  · have hz0 := HZ.out h0
    subst h0
    go_enter Tryz.func57, Tryz.ntmps57
    go_wp2_with fail
    refine (hu _).mono ?_
    rintro e w' ⟨rfl, rfl⟩
    go_wp2_with fail
    refine (hu' _).mono ?_
    rintro e w' ⟨rfl, rfl⟩
    go_wp2_with fail
    refine hc.mono ?_
    rintro e w' ⟨rfl, q, rfl⟩
    have hf := hz0 q
    clear hc hu hu'
    go_wp2
    first
      | (go_ret; exact hf)
      | exact hf
  · have e0 : (d == 0) = false := beq_eq_false_iff_ne.2 h0
    have hn := HN.out h0
    clear h0
    go_enter Tryz.func57, Tryz.ntmps57
    go_wp2_with fail
    refine (hu _).mono ?_
    rintro e w' ⟨rfl, rfl⟩
    go_wp2_with fail
    refine (hu' _).mono ?_
    rintro e w' ⟨rfl, rfl⟩
    go_wp2_with fail
    refine hc.mono ?_
    rintro e w' ⟨rfl, q, rfl⟩
    have hnq := hn q
    clear hc hu hu' hn
    go_wp2_with fail
    refine hnq.mono ?_
    rintro e w' ⟨A'', m, c'', rfl, hf⟩
    clear hnq
    go_wp2
    first
      | (go_ret; exact hf)
      | exact hf

set_option maxHeartbeats 2000000 in
set_option maxRecDepth 100000 in
/-- The first one is an any type. -/
theorem or_left (T' : TypeId) (A : Option Addr) (k c : Nat) (y : Value) (w : World) (n' : Int) (hd' : Dyn T' n') (h2 : T' ≠ 75) (P : Ending → World → Prop)
    (hm : Calls Tryz.prog 98 #[.slice A k c, .iface T' y] w fun e w' => ∃ A'' n c'', e = .returned (.slice A'' n c'') ∧ P (.returned (.iface 90 (.slice A'' n c''))) w') (hy : T' = 90 → ∃ A' n c', y = .slice A' n c') :
    Calls Tryz.prog 57 #[.iface 90 (.slice A k c), .iface T' y] w P := by
  have hd : Dyn 90 7 := by simp [Dyn]
  have hu := fun W => unwrap_any 90 7 (.slice A k c) W hd
  have hu' := fun W => unwrap_any T' n' y W hd'
  have b2 := no_fn T' n' y hd' h2
  by_cases h4 : T' = 90
  · obtain ⟨A', m', c', rfl⟩ := hy h4
    subst h4
    clear hy b2
    go_enter Tryz.func57, Tryz.ntmps57
    go_wp2_with fail
    refine (hu _).mono ?_
    rintro e w' ⟨rfl, rfl⟩
    go_wp2_with fail
    refine (hu' _).mono ?_
    rintro e w' ⟨rfl, rfl⟩
    go_wp2_with fail
    refine hm.mono ?_
    rintro e w' ⟨A'', m, c'', rfl, hf⟩
    clear hm hu hu'
    go_wp2
    first
      | (go_ret; exact hf)
      | exact hf
  · have b4 := no_any T' n' y hd' h4
    clear hy
    go_enter Tryz.func57, Tryz.ntmps57
    go_wp2_with fail
    refine (hu _).mono ?_
    rintro e w' ⟨rfl, rfl⟩
    go_wp2_with fail
    refine (hu' _).mono ?_
    rintro e w' ⟨rfl, rfl⟩
    go_wp2_with fail
    refine hm.mono ?_
    rintro e w' ⟨A'', m, c'', rfl, hf⟩
    clear hm hu hu'
    go_wp2
    first
      | (go_ret; exact hf)
      | exact hf

set_option maxHeartbeats 2000000 in
set_option maxRecDepth 100000 in
/-- Only the second one is an any type. -/
theorem or_right (T : TypeId) (A : Option Addr) (k c : Nat) (x : Value) (w : World) (n : Int) (hd : Dyn T n) (h1 : T ≠ 75) (h3 : T ≠ 90) (P : Ending → World → Prop)
    (hm : Calls Tryz.prog 98 #[.slice A k c, .iface T x] w fun e w' => ∃ A'' n c'', e = .returned (.slice A'' n c'') ∧ P (.returned (.iface 90 (.slice A'' n c''))) w') :
    Calls Tryz.prog 57 #[.iface T x, .iface 90 (.slice A k c)] w P := by
  have hd' : Dyn 90 7 := by simp [Dyn]
  have hu' := fun W => unwrap_any 90 7 (.slice A k c) W hd'
  have hu := fun W => unwrap_any T n x W hd
  have b1 := no_fn T n x hd h1
  have b3 := no_any T n x hd h3
  go_enter Tryz.func57, Tryz.ntmps57
  go_wp2_with fail
  refine (hu _).mono ?_
  rintro e w' ⟨rfl, rfl⟩
  go_wp2_with fail
  refine (hu' _).mono ?_
  rintro e w' ⟨rfl, rfl⟩
  go_wp2_with fail
  refine hm.mono ?_
  rintro e w' ⟨A'', m, c'', rfl, hf⟩
  clear hm hu hu'
  go_wp2
  first
    | (go_ret; exact hf)
    | exact hf

theorem repP.any8 {w : World} {F : Nat → Prop} {l : List Tr} {x : Value} (h : repP w F (.mk 8 [] l []) x) : ∃ A c xs, x = .iface 90 (.slice A l.length c) ∧ l.length ≤ c ∧ rowAt w F A xs ∧ repPs w F l xs := by
  simp only [repP] at h
  rcases h with ⟨h, _⟩ | ⟨h, _⟩ | ⟨h, _⟩ | ⟨h, _⟩ | ⟨_, _, _, A, c, xs, hv, h⟩
  · omega
  · omega
  · omega
  · omega
  · exact ⟨A, c, xs, hv, h⟩

theorem dyn_nofn {T : TypeId} {k : Int} (hd : Dyn T (k - 1)) (hk : k ≤ 8) : T ≠ 75 := by
  rcases hd with ⟨rfl, _⟩ | ⟨rfl, _⟩ | ⟨rfl, _⟩ | ⟨rfl, _⟩ | ⟨rfl, _⟩ | ⟨rfl, _⟩ | ⟨rfl, _⟩ | ⟨rfl, _⟩ | ⟨_, h⟩
  case inr.inr.inr.inr.inr.inr.inr.inr => omega
  all_goals decide

theorem dyn_noany {T : TypeId} {k : Int} (hd : Dyn T (k - 1)) (hk : k ≠ 8) : T ≠ 90 := by
  rcases hd with ⟨rfl, _⟩ | ⟨rfl, _⟩ | ⟨rfl, _⟩ | ⟨rfl, _⟩ | ⟨rfl, _⟩ | ⟨rfl, _⟩ | ⟨rfl, _⟩ | ⟨_, h⟩ | ⟨rfl, _⟩
  case inr.inr.inr.inr.inr.inr.inr.inl => omega
  all_goals decide

theorem AnyPost.hand {l : List Tr} {F : Nat → Prop} {w : World} {f : FuncId} {args : Array Value} (h : Calls Tryz.prog f args w (AnyPost l F w)) :
    Calls Tryz.prog f args w fun e w' => ∃ A'' n c'', e = .returned (.slice A'' n c'') ∧ OrPost (.mk 8 [] l []) F w (.returned (.iface 90 (.slice A'' n c''))) w' :=
  h.mono fun e w' h => by
    have h' := h
    obtain ⟨A, c, zs, rfl, _⟩ := h
    exact ⟨A, _, c, rfl, h'.or⟩

theorem or_any (a b : Tr) (x y : Value) (F : Nat → Prop) (w : World) (hx : repP w F a x) (hy : repP w F b y) (hF : ∀ b, F b → b < w.heap.size) (ha : Kpt a) (hb : Kpt b) (sa : a.size ≤ 1048576) (sb : b.size ≤ 1048576) :
    Calls Tryz.prog 57 #[x, y] w (OrPost (orT a b) F w) := by
  have ka := hx.kind_rng
  have kb := hy.kind_rng
  by_cases k8 : a.kind = 8
  · obtain ⟨l, rfl, hl, _, _⟩ := ha.any k8
    obtain ⟨A, c, xs, rfl, hc, hrow, hreps⟩ := hx.any8
    have h8 := ha.row8 sa
    by_cases k8' : b.kind = 8
    · obtain ⟨m, rfl, hm, _, _⟩ := hb.any k8'
      obtain ⟨A', c', ys, rfl, hc', hrow', hreps'⟩ := hy.any8
      have h8' := hb.row8 sb
      have e : orT (.mk 8 [] l []) (.mk 8 [] m []) = .mk 8 [] (unionT l m) [] := by simp only [orT, kind_mk, kids_mk, if_pos trivial]
      rw [e]
      have hu := union_any l m xs ys A A' c c' F w hreps hrow hreps' hrow' hF h8 h8' hc hc'
      refine or_left _ A l.length c _ w 7 (by simp [Dyn]) (by decide) _ ?_ (fun _ => ⟨A', _, c', rfl⟩)
      exact merge8_any l m A A' c c' _ w ((AnyPost.hand hu).mono fun e w' ⟨A'', n, c'', h1, h2⟩ => ⟨A'', n, c'', h1, A'', n, c'', rfl, h2⟩)
    · have e : orT (.mk 8 [] l []) b = .mk 8 [] (mergeT l b) [] := by simp only [orT, kind_mk, kids_mk, if_pos trivial, if_neg k8']
      rw [e]
      have hm := merge_any l b xs y A c F w hreps hrow hy hF h8 hb.good (by omega) k8' hc
      obtain ⟨T', y, rfl, hd'⟩ := hy.dyn
      exact or_left T' A l.length c y w _ hd' (dyn_nofn hd' kb.2) _ (AnyPost.hand hm) (fun h => absurd h (dyn_noany hd' k8'))
  · by_cases k8' : b.kind = 8
    · obtain ⟨m, rfl, hm, _, _⟩ := hb.any k8'
      obtain ⟨A', c', ys, rfl, hc', hrow', hreps'⟩ := hy.any8
      have h8' := hb.row8 sb
      have e : orT a (.mk 8 [] m []) = .mk 8 [] (mergeT m a) [] := by simp only [orT, kind_mk, kids_mk, if_neg k8, if_pos trivial]
      rw [e]
      have hm := merge_any m a ys x A' c' F w hreps' hrow' hx hF h8' ha.good (by omega) k8 hc'
      obtain ⟨T, x, rfl, hd⟩ := hx.dyn
      exact or_right T A' m.length c' x w _ hd (dyn_nofn hd ka.2) (dyn_noany hd k8) _ (AnyPost.hand hm)
    · have hcmp := compare_any a b x y F F w ha.good hb.good (by omega) (by omega) hx hy
      have hx0 := hx
      have hy0 := hy
      obtain ⟨T, x, rfl, hd⟩ := hx.dyn
      obtain ⟨T', y, rfl, hd'⟩ := hy.dyn
      refine or_none T T' x y w _ _ (cmp a b) hd hd' (dyn_nofn hd ka.2) (dyn_nofn hd' kb.2) (dyn_noany hd k8) (dyn_noany hd' k8') _ hcmp (fun h0 q => ?_) (fun h0 q => ?_)
      · have e : orT a b = a := by simp only [orT, if_neg k8, if_neg k8', if_pos h0]
        rw [e]
        exact ⟨_, rfl, (hx0.drewN q).keep (fun _ h => .inl h) (Kept.refl (fun _ => True) _) (fun _ _ => trivial), ((Kept.refl (fun b => b < w.heap.size) w).drewN q).below fun _ h => h⟩
      · have e : orT a b = .mk 8 [] (sortT [a, b]) [] := by simp only [orT, if_neg k8, if_neg k8', if_neg h0]
        rw [e]
        have hK : Kept (fun b => b < w.heap.size) w ((w.drewN q).alloc (.cells #[.iface T x, .iface T' y] 68)) := ((Kept.refl _ w).drewN q).alloc (fun _ h => h) _
        have hnb := Blk.new (w.drewN q) 68 #[.iface T x, .iface T' y]
        have hrow : rowAt ((w.drewN q).alloc (.cells #[.iface T x, .iface T' y] 68)) (fun b => F b ∨ b = w.heap.size) (some ⟨w.heap.size, 0, none⟩) [.iface T x, .iface T' y] := fun j u hu => ⟨w.heap.size, 0, rfl, .inr rfl, by
          have := hnb.cell (0 + j)
          refine this.trans ?_
          simpa using hu⟩
        have hl2 : repPs ((w.drewN q).alloc (.cells #[.iface T x, .iface T' y] 68)) (fun b => F b ∨ b = w.heap.size) [a, b] [.iface T x, .iface T' y] := by
          simp only [repPs]
          exact ⟨_, _, rfl, hx0.keep (fun b hb => .inl hb) hK hF, _, _, rfl, hy0.keep (fun b hb => .inl hb) hK hF, rfl⟩
        have hsW : ((w.drewN q).alloc (.cells #[.iface T x, .iface T' y] 68)).heap.size = w.heap.size + 1 := by simp [World.drewN]
        have hsl : (sortT [a, b]).length = 2 := by rw [sortT, isort_length]; rfl
        refine (newAny_any [a, b] _ _ 2 _ _ hl2 hrow (fun b hb => by rw [hsW]; rcases hb with h | h; exact Nat.lt_succ_of_lt (hF b h); omega) (fun t ht => ?_) (by simp)).mono ?_
        · rcases List.mem_cons.1 ht with rfl | ht
          · exact ⟨ha.good, by omega⟩
          · obtain rfl := List.mem_singleton.1 ht
            exact ⟨hb.good, by omega⟩
        · rintro e w' ⟨ys, rfl, hbl, hlt, hR, hY⟩
          refine ⟨_, 2, 2, rfl, _, rfl, ?_, (hK.below fun _ h => h).trans (hbl.mono (by omega))⟩
          simp only [repP]
          refine .inr (.inr (.inr (.inr ⟨by simp, by simp, by simp, some ⟨_, 0, none⟩, 2, ys, by rw [hsl], by omega, ?_, ?_⟩)))
          · exact hR.kept (Kept.refl (fun _ => True) _) (fun _ _ => trivial) fun b hb => .inr (by omega)
          · exact hY.keep (fun b hb => hb.imp id fun h => by omega) (Kept.refl (fun _ => True) _) fun _ _ => trivial

set_option maxHeartbeats 4000000 in
set_option maxRecDepth 100000 in
theorem implOr_any (a b : Tr) (ca cb : List Value) (w : World) (B B' : Nat → Prop) (hr : repI w B a ca) (hr' : repI w B' b cb) (hB : ∀ b, B b → b < w.heap.size) (hB' : ∀ b, B' b → b < w.heap.size) (ha : Nice a) (hb : Nice b) (hs : a.size + b.size + 1 ≤ 1048576) :
    Calls Tryz.prog 36 #[.agg ca.toArray, .agg cb.toArray] w (PlainPost (orT (norm a) (norm b)) w) := by
  obtain ⟨na, ta, A1, a1, A2, a2, A3, a3, rfl⟩ := hr.shape
  obtain ⟨nb, tb, B1, b1, B2, b2, B3, b3, rfl⟩ := hr'.shape
  have hb1 : ∀ W, Below w.heap.size w W → Calls Tryz.prog 43 #[.agg #[.int .i64 a.kind, .string na, .string ta, .slice A1 a.keys.length a1, .slice A2 a.kids.length a2, .slice A3 a.more.length a3]] W (BuiltPost a W) := fun W hW =>
    built_any a ha.1 ha.2 W B _ (hr.kept (Kept.of_below (X := fun b => b < w.heap.size) hW fun _ h => h) hB fun _ h => h) (fun b hb => Nat.lt_of_lt_of_le (hB b hb) hW.size)
  have hb2 : ∀ W, Below w.heap.size w W → Calls Tryz.prog 43 #[.agg #[.int .i64 b.kind, .string nb, .string tb, .slice B1 b.keys.length b1, .slice B2 b.kids.length b2, .slice B3 b.more.length b3]] W (BuiltPost b W) := fun W hW =>
    built_any b hb.1 hb.2 W B' _ (hr'.kept (Kept.of_below (X := fun b => b < w.heap.size) hW fun _ h => h) hB' fun _ h => h) (fun b hb => Nat.lt_of_lt_of_le (hB' b hb) hW.size)
  have hN := Lib.hid ha
  have hN' := Lib.hid hb
  have sa := (norm_good a ha.1.good).2
  have sb := (norm_good b hb.1.good).2
  have hos := orT_size ha.kpt hb.kpt
  have hok := (orT_kpt ha.kpt hb.kpt).good
  have HS : (orT (norm a) (norm b)).size ≤ 1048576 := by omega
  obtain ⟨U, eU⟩ : ∃ U, U = orT (norm a) (norm b) := ⟨_, rfl⟩
  rw [← eU] at hok HS ⊢
  have EU := Lib.hid eU
  clear hr hr' ha hb hos sa sb eU
  have hx0 : Blk ((((w.alloc (.cells #[.int .i64 a.kind, .string na, .string ta, .slice A1 a.keys.length a1, .slice A2 a.kids.length a2, .slice A3 a.more.length a3] 25)).alloc (.cells #[.int .i64 b.kind, .string nb, .string tb, .slice B1 b.keys.length b1, .slice B2 b.kids.length b2, .slice B3 b.more.length b3] 25)).alloc (.cells zeroT 25)).drew) w.heap.size 25 #[.int .i64 a.kind, .string na, .string ta, .slice A1 a.keys.length a1, .slice A2 a.kids.length a2, .slice A3 a.more.length a3] := (((Blk.new w _ _).alloc _).alloc _).drew
  have hy0 : Blk ((((w.alloc (.cells #[.int .i64 a.kind, .string na, .string ta, .slice A1 a.keys.length a1, .slice A2 a.kids.length a2, .slice A3 a.more.length a3] 25)).alloc (.cells #[.int .i64 b.kind, .string nb, .string tb, .slice B1 b.keys.length b1, .slice B2 b.kids.length b2, .slice B3 b.more.length b3] 25)).alloc (.cells zeroT 25)).drew) (w.heap.size + 1) 25 #[.int .i64 b.kind, .string nb, .string tb, .slice B1 b.keys.length b1, .slice B2 b.kids.length b2, .slice B3 b.more.length b3] := (by simpa using ((Blk.new (w.alloc (.cells #[.int .i64 a.kind, .string na, .string ta, .slice A1 a.keys.length a1, .slice A2 a.kids.length a2, .slice A3 a.more.length a3] 25)) _ _).alloc _).drew)
  have hz0 : Blk ((((w.alloc (.cells #[.int .i64 a.kind, .string na, .string ta, .slice A1 a.keys.length a1, .slice A2 a.kids.length a2, .slice A3 a.more.length a3] 25)).alloc (.cells #[.int .i64 b.kind, .string nb, .string tb, .slice B1 b.keys.length b1, .slice B2 b.kids.length b2, .slice B3 b.more.length b3] 25)).alloc (.cells zeroT 25)).drew) (w.heap.size + 1 + 1) 25 zeroT := (by simpa using (Blk.new ((w.alloc (.cells #[.int .i64 a.kind, .string na, .string ta, .slice A1 a.keys.length a1, .slice A2 a.kids.length a2, .slice A3 a.more.length a3] 25)).alloc (.cells #[.int .i64 b.kind, .string nb, .string tb, .slice B1 b.keys.length b1, .slice B2 b.kids.length b2, .slice B3 b.more.length b3] 25)) _ _).drew)
  have hl0 : Below w.heap.size w ((((w.alloc (.cells #[.int .i64 a.kind, .string na, .string ta, .slice A1 a.keys.length a1, .slice A2 a.kids.length a2, .slice A3 a.more.length a3] 25)).alloc (.cells #[.int .i64 b.kind, .string nb, .string tb, .slice B1 b.keys.length b1, .slice B2 b.kids.length b2, .slice B3 b.more.length b3] 25)).alloc (.cells zeroT 25)).drew) := ((((Below.refl _ _).alloc (Nat.le_refl _) _).alloc (by simp) _).alloc (by simp; omega) _).drew
  go_enter Tryz.func36, Tryz.ntmps36
  go_wp2_with fail
  refine wp_region_held_drew (S := (fun W => Blk W w.heap.size 25 #[.int .i64 a.kind, .string na, .string ta, .slice A1 a.keys.length a1, .slice A2 a.kids.length a2, .slice A3 a.more.length a3] ∧ Blk W (w.heap.size + 1) 25 #[.int .i64 b.kind, .string nb, .string tb, .slice B1 b.keys.length b1, .slice B2 b.kids.length b2, .slice B3 b.more.length b3])) (by kernel_rfl) (⟨hx0, hy0⟩) (fun hHeld => ?_)
  refine take_yes (i := 0) (v := ?_) rfl (by kernel_rfl) (by kernel_rfl) (by kernel_rfl) (fun _ _ _ h => h) (by rfl) ?_ hHeld ?_
  rotate_left
  · (intro w hSw; obtain ⟨S1, S2⟩ := hSw; obtain ⟨z0, z1, z2, z3, z4, z5, z6⟩ := Blk.six (by exact S1); obtain ⟨y0, y1, y2, y3, y4, y5, y6⟩ := Blk.six (by exact S2); go_simp; (try with_reducible rfl))
  (try simp only [Act.put, List.setIfInBounds_toArray, List.set_cons_zero, List.set_cons_succ])
  refine take_yes (i := 2) (v := ?_) rfl (by kernel_rfl) (by kernel_rfl) (by kernel_rfl) (fun _ _ _ h => h) (by rfl) ?_ hHeld ?_
  rotate_left
  · (intro w hSw; obtain ⟨S1, S2⟩ := hSw; obtain ⟨z0, z1, z2, z3, z4, z5, z6⟩ := Blk.six (by exact S1); obtain ⟨y0, y1, y2, y3, y4, y5, y6⟩ := Blk.six (by exact S2); go_simp; (try with_reducible rfl))
  (try simp only [Act.put, List.setIfInBounds_toArray, List.set_cons_zero, List.set_cons_succ])
  refine take_step (i := 1) rfl (by kernel_rfl) (fun K hK => ?_)
  go_simp
  (go_at_call 43; refine (hb1 _ hl0).mono ?_; rintro e w1 ⟨x, rfl, hxr, hxb⟩; have hx1 := hx0.below hxb hx0.lt; have hy1 := hy0.below hxb hy0.lt; have hz1 := hz0.below hxb hz0.lt; have hl1 := hl0.trans (hxb.mono hl0.size))
  (try go_wp2_with fail)
  refine hK.out _ _ (⟨hx1, hy1⟩) (fun hHeld => ?_)
  clear hK K
  (try simp only [Act.put, List.setIfInBounds_toArray, List.set_cons_zero, List.set_cons_succ])
  refine take_step (i := 3) rfl (by kernel_rfl) (fun K hK => ?_)
  go_simp
  (go_at_call 43; refine (hb2 _ hl1).mono ?_; rintro e w2 ⟨y, rfl, hyr, hyb⟩; have hx2 := hx1.below hyb hx1.lt; have hy2 := hy1.below hyb hy1.lt; have hz2 := hz1.below hyb hz1.lt; have hl2 := hl1.trans (hyb.mono hl1.size))
  (try go_wp2_with fail)
  refine hK.out _ _ (⟨hx2, hy2⟩) (fun hHeld => ?_)
  clear hK K
  (try simp only [Act.put, List.setIfInBounds_toArray, List.set_cons_zero, List.set_cons_succ])
  refine take_step (i := 4) rfl (by kernel_rfl) (fun K hK => ?_)
  go_simp
  (go_at_call 57; refine (or_any _ _ x y (fun b => b < w2.heap.size) w2 ((hxr.rep hN.out.kind).keep (fun b h => Nat.lt_of_lt_of_le h.2 hyb.size) (Kept.of_below (X := fun b => b < w1.heap.size) hyb fun _ h => h) fun _ h => h.2) ((hyr.rep hN'.out.kind).keep (fun _ h => h.2) (Kept.refl (fun _ => True) _) fun _ _ => trivial) (fun _ h => h) hN.out.kpt hN'.out.kpt hN.out.norm_size' hN'.out.norm_size').mono ?_; rintro e w3 ⟨u, rfl, hur, hub⟩; rw [← EU.out] at hur; have hx3 := hx2.below hub hx2.lt; have hy3 := hy2.below hub hy2.lt; have hz3 := hz2.below hub hz2.lt; have hl3 := hl2.trans (hub.mono hl2.size))
  (try go_wp2_with fail)
  refine hK.out _ _ (⟨hx3, hy3⟩) (fun hHeld => ?_)
  clear hK K
  (try simp only [Act.put, List.setIfInBounds_toArray, List.set_cons_zero, List.set_cons_succ])
  refine take_step (i := 5) rfl (by kernel_rfl) (fun K hK => ?_)
  go_simp
  (go_at_call 47; refine (plain_any U w3 _ u hok HS hur (fun b h => by rcases h with h | h; exact Nat.lt_of_lt_of_le h hub.size; exact h.2)).mono ?_; rintro e w4 ⟨cs, rfl, hrep, hpb⟩; obtain ⟨nm, tx, E1, e1, E2, e2, E3, e3, rfl⟩ := hrep.shape; have hx4 := hx3.below hpb hx3.lt; have hy4 := hy3.below hpb hy3.lt; have hz4 := hz3.below hpb hz3.lt; have hl4 := hl3.trans (hpb.mono hl3.size))
  (try go_wp2_with fail)
  refine hK.out _ _ (⟨hx4, hy4⟩) (fun hHeld => ?_)
  clear hK K
  (try simp only [Act.put, List.setIfInBounds_toArray, List.set_cons_zero, List.set_cons_succ])
  have f0 := hz4.frozen 0
  have f1 := hz4.frozen 1
  have f2 := hz4.frozen 2
  have f3 := hz4.frozen 3
  have f4 := hz4.frozen 4
  have f5 := hz4.frozen 5
  have q0 := hz4.cell 0
  have q1 := hz4.cell 1
  have q2 := hz4.cell 2
  have q3 := hz4.cell 3
  have q4 := hz4.cell 4
  have q5 := hz4.cell 5
  simp at q0 q1 q2 q3 q4 q5
  have ql := hz4.lt
  have ql2 := hz0.lt
  obtain ⟨hq, hkq⟩ := place6 hz4 (.int .i64 U.kind) (.string nm) (.string tx) (.slice E1 U.keys.length e1) (.slice E2 U.kids.length e2) (.slice E3 U.more.length e3)
  refine take_step (i := 6) rfl (by kernel_rfl) (fun K hK => ?_)
  go_simp
  refine hK.out _ _ (⟨hx4.kept hkq (by omega), hy4.kept hkq (by omega)⟩) (fun hHeld => ?_)
  clear hK K
  (try simp only [Act.put, List.setIfInBounds_toArray, List.set_cons_zero, List.set_cons_succ])
  refine wpAnyH_done (by kernel_rfl) ?_ _
  have p0 := hq.cell 0
  have p1 := hq.cell 1
  have p2 := hq.cell 2
  have p3 := hq.cell 3
  have p4 := hq.cell 4
  have p5 := hq.cell 5
  have sk := hkq.size
  have s3 := hpb.size
  have b3 : w.heap.size + 1 + 1 < w3.heap.size := hz3.lt
  go_wp2
  refine bodyPost_ret (v := .agg #[.int .i64 U.kind, .string nm, .string tx, .slice E1 U.keys.length e1, .slice E2 U.kids.length e2, .slice E3 U.more.length e3]) (by simp [results, Tryz.results36, go_sem, p0, p1, p2, p3, p4, p5]) rfl ?_
  exact ⟨_, rfl, hrep.kept hkq (fun b hb => by omega) (fun b hb => by omega), hl4.trans (hkq.below fun b hb => by omega)⟩

/-- A type of the law's own comes back. -/
def TyPost (t : Tr) (w : World) (e : Ending) (w' : World) : Prop := ∃ cs', e = .returned (.agg cs'.toArray) ∧ TA w' t cs' ∧ Below w.heap.size w w'

theorem to_int {P : Program} {f : FuncId} {args : Array Value} {W : World} {c d : Int} (h : Calls P f args W (IntPost d W)) (e : d = c) : Calls P f args W (IntPost c W) := e ▸ h
theorem to_bool {P : Program} {f : FuncId} {args : Array Value} {W : World} {c d : Bool} (h : Calls P f args W (BoolAt d W)) (e : d = c) : Calls P f args W (BoolAt c W) := e ▸ h

structure OrNice (a b : Tr) : Prop where
  left : Kpt (norm a)
  right : Kpt (norm b)
  kpt : Kpt (orT (norm a) (norm b))
  bulk : (orT (norm a) (norm b)).bulk ≤ 1048576
  kept : norm (orT (norm a) (norm b)) = orT (norm a) (norm b)

theorem OrNice.nice {a b : Tr} (h : OrNice a b) : Nice (orT (norm a) (norm b)) := ⟨h.kpt.proper, h.bulk⟩

theorem or_nice {a b : Tr} (ha : Nice a) (hb : Nice b) (bs : a.bulk + b.bulk + 1 ≤ 1048576) : OrNice a b := by
  have k := orT_kpt ha.kpt hb.kpt
  refine ⟨ha.kpt, hb.kpt, k, ?_, k.fix⟩
  have h := orT_bulk ha.kpt hb.kpt
  rw [norm_bulk a ha.1.good, norm_bulk b hb.1.good] at h
  omega

theorem or_nice_self {a : Tr} (ha : Nice a) : OrNice a a := by
  have k := orT_kpt ha.kpt ha.kpt
  refine ⟨ha.kpt, ha.kpt, k, ?_, k.fix⟩
  rw [orT_self ha.kpt, norm_bulk a ha.1.good]
  exact ha.2

theorem or_at {a b : Tr} {ca cb : List Value} {w W : World} (ha : TA w a ca) (hb : TA w b cb) (na : Fine a) (nb : Fine b) (on : OrNice a b) (hW : Below w.heap.size w W) :
    Calls Tryz.prog 36 #[.agg ca.toArray, .agg cb.toArray] W (TyPost (orT (norm a) (norm b)) W) :=
  (implOr_any a b ca cb W _ _ (ha.up hW).rep (hb.up hW).rep (fun _ h => h) (fun _ h => h) (na.nice ha.bulk) (nb.nice hb.bulk) (by have h1 := na.2; have h2 := nb.2; omega)).mono fun _ _ ⟨cs', he, hr, hB⟩ =>
    ⟨cs', he, ⟨hr.kept (Kept.refl (fun _ => True) _) (fun _ _ => trivial) fun _ hb => hb.2, on.bulk⟩, hB⟩

end Go.Proofs.YtpmfjbmfjfhghaaGreat
