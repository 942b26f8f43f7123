/-
  'slices.BinarySearchFunc' at any types; 'Contains'.
-/
import Derived.Test.YtpmfjbmfjfhghaaGreatCmpAny
import Derived.Test.YtpmfjbmfjfhghaaGreatPlain5
import Derived.Deep.RegionHeld3
import Derived.IntWalk
namespace Go.Proofs.YtpmfjbmfjfhghaaGreat
open Go.RowKit

/-- What a search answers. -/
def FoundPost (i : Nat) (b : Bool) (w : World) (e : Ending) (w' : World) : Prop := e = .returned (.tuple #[.int .i64 i, .bool b]) ∧ ∃ n, w' = w.drewN n

/-- The types of an any type, as they are searched. -/
structure Row8 (l : List Tr) : Prop where
  good : ∀ t ∈ l, t.good
  size : ∀ t ∈ l, t.size ≤ 1073741824
  len : l.length ≤ 1048576
  sorted : l.Pairwise fun a b => leT a b = true

theorem Row8.mono {l : List Tr} (h : Row8 l) {t : Tr} (ht : t.good) {i j : Nat} (hij : i ≤ j) (hj : j < l.length) (hc : cmp l[j] t < 0) : cmp (l[i]'(by omega)) t < 0 := by
  by_cases e : i = j
  · subst e; exact hc
  · have hs := (List.pairwise_iff_getElem.1 h.sorted) i j (by omega) hj (by omega)
    simp only [leT, decide_eq_true_eq] at hs
    have tri := cmp_linear.tri (l[i]'(by omega)) l[j] t (h.good _ (List.getElem_mem _)) (h.good _ (List.getElem_mem _)) ht
    obtain ⟨t1, t2, t3⟩ := tri
    by_cases h0 : cmp (l[i]'(by omega)) l[j] = 0
    · rw [t1 h0]; exact hc
    · exact t3 (by omega) hc

theorem hasT_of {l : List Tr} {t : Tr} (h : Row8 l) (ht : t.good) {i : Nat} (h1 : ∀ j (h : j < l.length), j < i → cmp l[j] t < 0) (h2 : ∀ h : i < l.length, ¬ cmp l[i] t < 0) : hasT l t = true ↔ ∃ h : i < l.length, cmp l[i] t = 0 := by
  unfold hasT
  rw [List.any_eq_true]
  constructor
  · rintro ⟨x, hx, e⟩
    obtain ⟨q, hq, rfl⟩ := List.getElem_of_mem hx
    simp only [decide_eq_true_eq] at e
    have hqi : ¬ q < i := fun hlt => by have := h1 q hq hlt; omega
    refine ⟨by omega, ?_⟩
    by_cases e' : q = i
    · subst e'; exact e
    · have hil : i < l.length := by omega
      have hs := (List.pairwise_iff_getElem.1 h.sorted) i q hil hq (by omega)
      simp only [leT, decide_eq_true_eq] at hs
      have hle : cmp l[i] t ≤ 0 := (cmp_linear.tri l[i] l[q] t (h.good _ (List.getElem_mem _)) (h.good _ (List.getElem_mem _)) ht).le hs (by omega)
      have := h2 hil
      omega
  · rintro ⟨hi', e⟩
    exact ⟨l[i], List.getElem_mem _, by simpa using e⟩

set_option maxHeartbeats 2000000 in
set_option maxRecDepth 100000 in
theorem bsearch_any (l : List Tr) (t : Tr) (xs : List Value) (v : Value) (A : Option Addr) (c : Nat) (F F' : Nat → Prop) (w : World) (hr : repPs w F l xs) (hx : rowAt w F A xs) (ht : repP w F' t v) (h8 : Row8 l) (hg : t.good) (hs : t.size ≤ 1073741824) :
    Calls Tryz.prog 99 #[.slice A l.length c, v, .func (.func 50) #[] #[]] w (FoundPost (place l t) (hasT l t) w) := by
  have hlen := h8.len
  have H8 := Lib.hid h8
  have HG := Lib.hid hg
  clear h8 hg
  go_enter Tryz.func99, Tryz.ntmps99
  go_wp2
  go_loopw [9, 10] (fun s9 s10 wr => ∃ lo hi q : Nat, s9 = .int .i64 lo ∧ s10 = .int .i64 hi ∧ lo ≤ hi ∧ hi ≤ l.length ∧ (∀ j (h : j < l.length), j < lo → cmp l[j] t < 0) ∧ (∀ j (h : j < l.length), hi ≤ j → 0 ≤ cmp l[j] t) ∧ wr = w.drewN q) (fun s9 s10 _ => (intOf s10).toNat - (intOf s9).toNat)
  case atStart => exact ⟨0, l.length, 0, rfl, rfl, Nat.zero_le _, Nat.le_refl _, fun _ _ h => absurd h (by omega), fun _ h h' => absurd h (by omega), rfl⟩
  case round =>
    obtain ⟨lo, hi, q, rfl, rfl, hlh, hin, h1, h2, rfl⟩ := hrel
    have H1 := Lib.hid h1
    have H2 := Lib.hid h2
    clear h1 h2
    by_cases hlt : lo < hi
    · obtain ⟨m, em⟩ : ∃ m, m = (lo + hi) / 2 := ⟨_, rfl⟩
      have hml : m < l.length := by omega
      obtain ⟨b, off, x, rfl, hb, hrx, q0, hx0⟩ := hr.at_ hx m hml
      have hcall := compare_any l[m] t x v F F' (w.drewN q) (H8.out.good _ (List.getElem_mem hml)) HG.out (H8.out.size _ (List.getElem_mem hml)) hs (hrx.drewN q) (ht.drewN q)
      have q1 : (w.drewN q).cell? ⟨b, off + (lo + hi) / 2, none⟩ = some x := by rw [← em]; exact q0
      obtain ⟨d, ed⟩ : ∃ d, d = cmp l[m] t := ⟨_, rfl⟩
      rw [← ed] at hcall
      have ED := Lib.hid ed
      have EM := Lib.hid em
      clear ed em hx0 q0 hr hx
      by_cases hd : d < 0
      · go_wp2_with fail
        refine hcall.mono ?_
        rintro e w' ⟨rfl, n, rfl⟩
        clear hcall
        go_wp2
        go_roundw
        case rel =>
          refine ⟨m + 1, hi, q + n, by rw [EM.out]; go_num, rfl, by have := EM.out; omega, hin, fun j hj hjm => ?_, fun j hj h => H2.out j hj h, rfl⟩
          exact H8.out.mono HG.out (i := j) (j := m) (by omega) hml (by rw [← ED.out]; exact hd)
        case measure => have := EM.out; simp [intOf]; omega
      · go_wp2_with fail
        refine hcall.mono ?_
        rintro e w' ⟨rfl, n, rfl⟩
        clear hcall
        go_wp2
        go_roundw
        case rel =>
          refine ⟨lo, m, q + n, rfl, by rw [EM.out]; go_num, by have := EM.out; omega, by omega, fun j hj hjm => H1.out j hj hjm, fun j hj h => ?_, rfl⟩
          refine Int.not_lt.1 fun hneg => ?_
          have := H8.out.mono HG.out (i := m) (j := j) h hj hneg
          rw [← ED.out] at this
          omega
        case measure => have := EM.out; simp [intOf]; omega
    · obtain rfl : hi = lo := by omega
      have hpl : place l t = hi := place_of hin (fun j hj h => H1.out j hj h) (fun h => Int.not_lt.2 (H2.out hi h (Nat.le_refl _)))
      have hha := hasT_of H8.out HG.out (i := hi) (fun j hj h => H1.out j hj h) (fun h => Int.not_lt.2 (H2.out hi h (Nat.le_refl _)))
      have HPL := Lib.hid hpl
      have HH := Lib.hid hha
      clear hha hpl
      by_cases hn : hi < l.length
      · obtain ⟨b, off, x, rfl, hb, hrx, q0, hx0⟩ := hr.at_ hx hi hn
        have hcall := compare_any l[hi] t x v F F' (w.drewN q) (H8.out.good _ (List.getElem_mem hn)) HG.out (H8.out.size _ (List.getElem_mem hn)) hs (hrx.drewN q) (ht.drewN q)
        obtain ⟨d, ed⟩ : ∃ d, d = cmp l[hi] t := ⟨_, rfl⟩
        rw [← ed] at hcall
        have ED := Lib.hid ed
        clear ed hx0 hr hx
        by_cases hd : d = 0
        · subst hd
          have hv : hasT l t = true := HH.out.2 ⟨hn, ED.out.symm⟩
          have HV := Lib.hid hv
          clear hv
          go_wp2_with fail
          refine hcall.mono ?_
          rintro e w' ⟨rfl, n, rfl⟩
          clear hcall
          go_wp2
          go_ret2
          exact ⟨by rw [HPL.out, HV.out]; rfl, q + n, rfl⟩
        · have hv : hasT l t = false := by
            cases hc : hasT l t
            · rfl
            · obtain ⟨_, e⟩ := HH.out.1 hc
              exact absurd (ED.out.trans e) hd
          have HV := Lib.hid hv
          clear hv
          have e0 : (d == 0) = false := by simpa using hd
          clear hd
          go_wp2_with fail
          refine hcall.mono ?_
          rintro e w' ⟨rfl, n, rfl⟩
          clear hcall
          go_wp2
          go_ret2
          exact ⟨by rw [HPL.out, HV.out]; rfl, q + n, rfl⟩
      · have hv : hasT l t = false := by
          cases hc : hasT l t
          · rfl
          · obtain ⟨h', _⟩ := HH.out.1 hc
            exact absurd h' hn
        have HV := Lib.hid hv
        clear hv
        go_wp2
        go_ret2
        exact ⟨by rw [HPL.out, HV.out]; rfl, q, rfl⟩

theorem FoundPost.quiet {P : Program} {f : FuncId} {args : Array Value} {w : World} {i : Nat} {b : Bool} (h : Calls P f args w (FoundPost i b w)) : Calls P f args w fun e w'' => ∃ n, e = .returned (.tuple #[.int .i64 i, .bool b]) ∧ w'' = w.drewN n :=
  h.mono fun _ _ ⟨he, n, hn⟩ => ⟨n, he, hn⟩

/-- A truth value comes back; the world has but drawn. -/
def BoolDrew (b : Bool) (w : World) (e : Ending) (w' : World) : Prop := e = .returned (.bool b) ∧ ∃ n, w' = w.drewN n

set_option maxHeartbeats 1000000 in
set_option maxRecDepth 100000 in
theorem anyContains_any (l : List Tr) (t : Tr) (xs : List Value) (v : Value) (A : Option Addr) (c : Nat) (F F' : Nat → Prop) (w : World) (hr : repPs w F l xs) (hx : rowAt w F A xs) (ht : repP w F' t v) (h8 : Row8 l) (hg : t.good) (hs : t.size ≤ 1073741824) :
    Calls Tryz.prog 61 #[.slice A l.length c, v] w (BoolDrew (hasT l t || l.isEmpty) w) := by
  have hb := bsearch_any l t xs v A c F F' w hr hx ht h8 hg hs
  obtain ⟨T, x, rfl, hd⟩ := ht.dyn
  have hk := ht.kind_rng
  have HB := Lib.hid hb
  have hne : T ≠ 75 := by
    rcases hd with ⟨rfl, _⟩ | ⟨rfl, _⟩ | ⟨rfl, _⟩ | ⟨rfl, _⟩ | ⟨rfl, _⟩ | ⟨rfl, _⟩ | ⟨rfl, _⟩ | ⟨rfl, _⟩ | ⟨_, h⟩
    case inr.inr.inr.inr.inr.inr.inr.inr => omega
    all_goals decide
  have hlen : l.isEmpty = ((l.length : Int) == 0) := by
    cases l with
    | nil => rfl
    | cons a l => symm; exact beq_eq_false_iff_ne.2 (by simp only [List.length_cons]; omega)
  have HL := Lib.hid hlen
  clear hb ht hr hx h8 hg hs hlen hk
  cases hh : hasT l t
  case true =>
    rw [hh] at HB
    rcases hd with ⟨rfl, _⟩ | ⟨rfl, _⟩ | ⟨rfl, _⟩ | ⟨rfl, _⟩ | ⟨rfl, _⟩ | ⟨rfl, _⟩ | ⟨rfl, _⟩ | ⟨rfl, _⟩ | ⟨rfl, _⟩
    case inr.inr.inr.inr.inr.inr.inr.inr => exact absurd rfl hne
    all_goals
      clear hne
      go_enter Tryz.func61, Tryz.ntmps61
      go_wp2_with fail
      refine HB.out.mono ?_
      rintro e w' ⟨rfl, n, rfl⟩
      go_wp2
      go_ret
      exact ⟨by simp, n, rfl⟩
  case false =>
    rw [hh] at HB
    rcases hd with ⟨rfl, _⟩ | ⟨rfl, _⟩ | ⟨rfl, _⟩ | ⟨rfl, _⟩ | ⟨rfl, _⟩ | ⟨rfl, _⟩ | ⟨rfl, _⟩ | ⟨rfl, _⟩ | ⟨rfl, _⟩
    case inr.inr.inr.inr.inr.inr.inr.inr => exact absurd rfl hne
    all_goals
      clear hne
      go_enter Tryz.func61, Tryz.ntmps61
      go_wp2_with fail
      refine HB.out.mono ?_
      rintro e w' ⟨rfl, n, rfl⟩
      go_wp2
      go_ret
      refine ⟨?_, n, rfl⟩
      rw [HL.out, Bool.false_or]
      rfl

/-- 'Contains', as the code finds it. -/
def containsB (a b : Tr) : Bool := if a.kind = 8 then hasT a.kids b || a.kids.isEmpty else decide (cmp a b = 0)

theorem Kpt.row8 {l : List Tr} (h : Kpt (.mk 8 [] l [])) (hb : (Tr.mk 8 [] l []).size ≤ 1048576) : Row8 l := by
  obtain ⟨l', e, h1, _, h3⟩ := h.any rfl
  simp only [Tr.mk.injEq, true_and, and_true] at e
  subst e
  simp only [Tr.size] at hb
  have := Tr.length_sizes l
  exact ⟨fun t ht => (h1 t ht).1.good, fun t ht => by have := Tr.size_mem ht; omega, by omega, h3⟩

theorem containsB_iff {a b : Tr} (ha : Kpt a) (hb : Kpt b) : containsB a b = true ↔ containsT a b := by
  unfold containsB containsT
  by_cases hk : a.kind = 8
  · rw [if_pos hk, if_pos hk]
    obtain ⟨l, rfl, h1, _, _⟩ := ha.any hk
    rw [kids_mk, Bool.or_eq_true, hasT_iff (fun t ht => (h1 t ht).1.good) hb.good, List.isEmpty_iff]
    exact Or.comm
  · rw [if_neg hk, if_neg hk, decide_eq_true_eq]
    exact ha.eq hb

set_option maxHeartbeats 1000000 in
set_option maxRecDepth 100000 in
theorem contains_any (a b : Tr) (x y : Value) (F F' : Nat → Prop) (w : World) (hx : repP w F a x) (hy : repP w F' b y) (ha : Kpt a) (hb : Kpt b) (sa : a.size ≤ 1048576) (sb : b.size ≤ 1048576) :
    Calls Tryz.prog 42 #[x, y] w (BoolDrew (containsB a b) w) := by
  have hcmp := compare_any a b x y F F' w ha.good hb.good (by omega) (by omega) hx hy
  obtain ⟨T, z, rfl, hd⟩ := hx.dyn
  obtain ⟨T', z', rfl, hd'⟩ := hy.dyn
  have hun := fun W => unwrap_any T _ z W hd
  have hk := hx.kind_rng
  by_cases hk8 : a.kind = 8
  · obtain ⟨l, rfl, h1, h2, h3⟩ := ha.any hk8
    have h8 := ha.row8 sa
    have hT : T = 90 := by
      simp only [Tr.kind] at hd
      rcases hd with ⟨_, h⟩ | ⟨_, h⟩ | ⟨_, h⟩ | ⟨_, h⟩ | ⟨_, h⟩ | ⟨_, h⟩ | ⟨_, h⟩ | ⟨h, _⟩ | ⟨_, h⟩
      case inr.inr.inr.inr.inr.inr.inr.inl => exact h
      all_goals omega
    subst hT
    simp only [repP] at hx
    obtain ⟨A, c, xs, rfl, hc, hrow, hreps⟩ : ∃ A c xs, z = .slice A l.length c ∧ l.length ≤ c ∧ rowAt w F A xs ∧ repPs w F l xs := by
      rcases hx with ⟨h, _⟩ | ⟨h, _⟩ | ⟨h, _⟩ | ⟨h, _⟩ | ⟨_, _, _, A, c, xs, hv, h⟩
      · omega
      · omega
      · omega
      · omega
      · exact ⟨A, c, xs, by injection hv, h⟩
    have hc8 := anyContains_any l b xs _ A c F F' w hreps hrow hy h8 hb.good (by omega)
    have e : containsB (.mk 8 [] l []) b = (hasT l b || l.isEmpty) := by unfold containsB; rw [kind_mk, if_pos rfl, kids_mk]
    rw [e]
    have HC := Lib.hid hc8
    clear e hc8 hcmp hx hy ha hb hd hd' hreps hrow h8 hk h1 h2 h3 hk8
    go_enter Tryz.func42, Tryz.ntmps42
    go_wp2_with fail
    refine (hun _).mono ?_
    rintro e w' ⟨rfl, rfl⟩
    go_wp2_with fail
    refine HC.out.mono ?_
    rintro e w' ⟨rfl, n, rfl⟩
    go_wp2
    go_ret
    exact ⟨rfl, n, rfl⟩
  · have e : containsB a b = decide (cmp a b = 0) := by unfold containsB; rw [if_neg hk8]
    rw [e]
    obtain ⟨d, ed⟩ : ∃ d, d = cmp a b := ⟨_, rfl⟩
    rw [← ed] at hcmp ⊢
    have hne : T ≠ 90 := by
      rcases hd with ⟨rfl, _⟩ | ⟨rfl, _⟩ | ⟨rfl, _⟩ | ⟨rfl, _⟩ | ⟨rfl, _⟩ | ⟨rfl, _⟩ | ⟨rfl, _⟩ | ⟨_, h⟩ | ⟨rfl, _⟩
      case inr.inr.inr.inr.inr.inr.inr.inl => omega
      all_goals decide
    have HC := Lib.hid hcmp
    clear e ed hcmp hx hy ha hb hd' hk hk8
    rcases hd with ⟨rfl, _⟩ | ⟨rfl, _⟩ | ⟨rfl, _⟩ | ⟨rfl, _⟩ | ⟨rfl, _⟩ | ⟨rfl, _⟩ | ⟨rfl, _⟩ | ⟨rfl, _⟩ | ⟨rfl, _⟩
    case inr.inr.inr.inr.inr.inr.inr.inl => exact absurd rfl hne
    all_goals
      clear hne
      go_enter Tryz.func42, Tryz.ntmps42
      go_wp2_with fail
      refine (hun _).mono ?_
      rintro e w' ⟨rfl, rfl⟩
      go_wp2_with fail
      refine HC.out.mono ?_
      rintro e w' ⟨rfl, n, rfl⟩
      go_wp2
      go_ret
      exact ⟨rfl, n, rfl⟩

end Go.Proofs.YtpmfjbmfjfhghaaGreat
