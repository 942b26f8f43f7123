/-
  'impl.Sorted': the types in order, as plain data. (The insertion sort by the shelf's contract: at most 12 types.)
-/
import Derived.Test.YtpmfjbmfjfhghaaGreatSort
import Derived.Test.YtpmfjbmfjfhghaaGreatPl
namespace Go.Proofs.YtpmfjbmfjfhghaaGreat
open Go.RowKit Go.Proofs

/-- What insertionSortCmpFunc does at types: it sorts the row. -/
theorem insT_any (l : List Tr) (xs : List Value) (A : Option Addr) (blk cap : Nat) (F : Nat → Prop) (w : World) (hl : repPs w F l xs) (hr : rowAt w (fun b => b = blk) A xs) (hF : ∀ b, F b → b < w.heap.size ∧ b ≠ blk) (hbz : l ≠ [] → blk < w.heap.size ∧ ∀ i, w.frozen? ⟨blk, i, none⟩ = false)
    (hg : ∀ t ∈ l, t.good ∧ t.size ≤ 1073741824) (hlen : l.length ≤ 1073741824) :
    Calls Tryz.prog 109 #[.slice A l.length cap, .int .i64 0, .int .i64 l.length, .func (.func 50) #[] #[]] w (SortPost (.tuple #[]) blk A w fun ys w' => repPs w' F (sortT l) ys) := by
  obtain ⟨L, e1, e2⟩ := El.of hl hg
  have hn : L.length = l.length := by rw [← e1]; simp
  cases L with
  | nil =>
    simp at e1 e2
    subst e1 e2
    refine (AnyF.insertionSortCmpFunc_none (P := Tryz.prog) (ρ := Tryz.sortTypes_ren) { Tryz.sortTypes with } A cap _ w).mono ?_
    rintro e w' ⟨rfl, rfl⟩
    exact ⟨rfl, Kept.refl _ _, [], rowAt.nil, by simp [sortT, isort, repPs]⟩
  | cons x0 L =>
    obtain ⟨b, off, rfl, rfl, _⟩ := hr 0 (El.enc x0) (by rw [← e2]; rfl)
    obtain ⟨hblk, hz⟩ := hbz (fun e => by simp [e] at hn)
    haveI : Inhabited (El w F) := ⟨x0⟩
    have hH : Go.Sort.Holds (α := El w F) El.enc w b off (x0 :: L).toArray := holds_of (F := fun b' => b' = b) (by rw [e2]; exact hr) hz
    have hcmp : CmpLays1 (α := El w F) Tryz.prog 50 #[] El.enc El.cf b off (x0 :: L).toArray.size w := by
      intro m os dk _ x y
      have hk := Kept.sorted (α := El w F) El.enc w b off m dk os
      refine (compare_any x.1.1 y.1.1 x.1.2 y.1.2 F F (sortWorld (α := El w F) El.enc w b off m dk os) x.2.2.1 y.2.2.1 x.2.2.2 y.2.2.2 (x.2.1.keep (fun _ h => h) hk hF) (y.2.1.keep (fun _ h => h) hk hF)).mono ?_
      exact fun _ _ h => h.grown
    have hsz : (x0 :: L).toArray.size = l.length := by simpa using hn
    have hs := Any.insertionSortCmpFunc_s (P := Tryz.prog) (ρ := Tryz.sortTypes_ren) { Tryz.sortTypes with } El.enc El.cf 50 #[] b off cap 0 l.length (x0 :: L).toArray (x0 :: L).toArray w w (enters_of Tryz.func50 (by kernel_rfl) rfl) hcmp ⟨El.one, hH, hblk⟩ rfl (SW.start hH) (Nat.zero_le _) (by omega) (by omega)
    rw [hsz] at hs
    refine hs.mono ?_
    rintro e w' ⟨rfl, n, os, rfl⟩
    have hps := Go.Sort.insertionSort_holds (lt := ltOf El.cf) El.swo (x0 :: L).toArray 0 (x0 :: L).toArray.size (Nat.zero_le _) (Nat.le_refl _)
    rw [hsz] at hps
    obtain ⟨d', hd'⟩ : ∃ d', d' = Go.Sort.insertionSort (ltOf El.cf) (x0 :: L).toArray 0 l.length := ⟨_, rfl⟩
    rw [← hd'] at hps ⊢
    rw [← hsz] at hps
    obtain ⟨hp, hq⟩ := hps
    obtain ⟨hperm, hsort⟩ := sorted_list (L := x0 :: L) (d' := d') hp hq
    have hk := Kept.sorted (α := El w F) El.enc w b off n d' os
    have hW : Go.Sort.Holds El.enc (sortWorld (α := El w F) El.enc w b off n d' os) b off d' := SW.holds ⟨n, os, rfl⟩ hblk hH hp.1
    refine ⟨rfl, hk, d'.toList.map El.enc, of_holds hW rfl, ?_⟩
    have hrep := El.reps hk hF d'.toList
    have et : d'.toList.map (fun x => x.1.1) = sortT l := by
      refine sortT_unique (fun t ht => (hg t ht).1) ?_ ?_
      · rw [← e1]; exact hperm.map _
      · rw [List.pairwise_map]; exact hsort.imp fun h => El.le h
    rwa [et] at hrep

set_option maxHeartbeats 1000000 in
set_option maxRecDepth 100000 in
/-- stableCmpFunc at 12 types or fewer. -/
theorem stableT_any (l : List Tr) (xs : List Value) (A : Option Addr) (blk cap : Nat) (F : Nat → Prop) (w : World) (hl : repPs w F l xs) (hr : rowAt w (fun b => b = blk) A xs) (hF : ∀ b, F b → b < w.heap.size ∧ b ≠ blk) (hbz : l ≠ [] → blk < w.heap.size ∧ ∀ i, w.frozen? ⟨blk, i, none⟩ = false)
    (hg : ∀ t ∈ l, t.good ∧ t.size ≤ 1073741824) (hlen : l.length ≤ 12) :
    Calls Tryz.prog 96 #[.slice A l.length cap, .int .i64 l.length, .func (.func 50) #[] #[]] w (SortPost (.tuple #[]) blk A w fun ys w' => repPs w' F (sortT l) ys) := by
  have hs := insT_any l xs A blk cap F w hl hr hF hbz hg (by omega)
  clear hl hr hbz hg
  go_enter Tryz.func96, Tryz.ntmps96
  have h20 : ¬ 20 ≤ (l.length : Int) := by omega
  have h21 : ¬ 20 < (l.length : Int) := by omega
  go_wp2_with fail
  go_loopw [7, 8] (fun y z wr => y = .int .i64 0 ∧ z = .int .i64 20 ∧ wr = w) (fun _ _ _ => 0)
  case atStart => exact ⟨rfl, rfl, rfl⟩
  case round =>
    obtain ⟨rfl, rfl, rfl⟩ := hrel
    go_wp2_with fail
    refine hs.mono ?_
    rintro e w2 ⟨rfl, hk, ys, hy, hR⟩
    clear hs
    go_wp2_with fail
    go_loopw [6, 7, 8] (fun x y z wr2 => x = .int .i64 20 ∧ wr2 = w2) (fun _ _ _ _ => 0)
    case atStart => exact ⟨rfl, rfl⟩
    case round =>
      obtain ⟨rfl, rfl⟩ := hrel
      go_wp2
      go_end0
      exact ⟨rfl, hk, ys, hy, hR⟩

set_option maxHeartbeats 1000000 in
set_option maxRecDepth 100000 in
/-- slices.SortStableFunc at 12 types or fewer. -/
theorem sortStableT_any (l : List Tr) (xs : List Value) (A : Option Addr) (blk cap : Nat) (F : Nat → Prop) (w : World) (hl : repPs w F l xs) (hr : rowAt w (fun b => b = blk) A xs) (hF : ∀ b, F b → b < w.heap.size ∧ b ≠ blk) (hbz : l ≠ [] → blk < w.heap.size ∧ ∀ i, w.frozen? ⟨blk, i, none⟩ = false)
    (hg : ∀ t ∈ l, t.good ∧ t.size ≤ 1073741824) (hlen : l.length ≤ 12) :
    Calls Tryz.prog 55 #[.slice A l.length cap, .func (.func 50) #[] #[]] w (SortPost (.tuple #[]) blk A w fun ys w' => repPs w' F (sortT l) ys) := by
  have hs := stableT_any l xs A blk cap F w hl hr hF hbz hg hlen
  clear hl hr hbz hg
  go_enter Tryz.func55, Tryz.ntmps55
  go_wp2_with fail
  refine hs.mono ?_
  rintro e w' ⟨rfl, hk, ys, hy, hR⟩
  go_wp2
  go_end0
  exact ⟨rfl, hk, ys, hy, hR⟩

/-- A row of the call's own, as the sort asks it. -/
theorem own_blk {w : World} {base n : Nat} {e : TypeId} {v : Value} {xs : List Value} (h : w.ownsRow base e 1 v n xs) : ∃ A c blk, v = .slice A n c ∧ n ≤ c ∧ rowAt w (fun b => b = blk) A xs ∧ (∀ b, v.ownBlock ≠ some b → n ≠ 0 → b ≠ blk) ∧ (n ≠ 0 → base ≤ blk ∧ blk < w.heap.size ∧ ∀ i, w.frozen? ⟨blk, i, none⟩ = false) ∧ (n = 0 → blk = w.heap.size) := by
  have hc := h
  rcases h.2 with ⟨rfl, rfl⟩ | ⟨g, cap, cur, rfl, hb, hg, hcap, _⟩
  · have hx : xs = [] := List.eq_nil_of_length_eq_zero (by simpa using h.1)
    subst hx
    exact ⟨none, 0, w.heap.size, rfl, Nat.le_refl _, rowAt.nil, fun _ _ h => absurd rfl h, fun h => absurd rfl h, fun _ => rfl⟩
  · by_cases h0 : n = 0
    · subst h0
      have hx : xs = [] := List.eq_nil_of_length_eq_zero (by simpa using h.1)
      subst hx
      exact ⟨some ⟨g, 0, none⟩, cap, w.heap.size, rfl, hcap, rowAt.nil, fun _ _ h => absurd rfl h, fun h => absurd rfl h, fun _ => rfl⟩
    · have hgl : g < w.heap.size := Blk.lt hg
      exact ⟨some ⟨g, 0, none⟩, cap, g, rfl, hcap, rowAt.of_own hc fun b _ _ e => by simp only [Value.ownBlock, Option.some.injEq] at e; exact e.symm, fun b hb _ e => hb (by rw [e]; rfl), fun _ => ⟨hb, hgl, fun i => Blk.frozen hg i⟩, fun h => absurd h h0⟩

set_option maxHeartbeats 1000000 in
set_option maxRecDepth 100000 in
theorem implSorted_any (l : List Tr) (A : Option Addr) (c : Nat) (xs : List Value) (w : World) (B : Nat → Prop) (hr : repIs w B l xs) (hrow : rowAt w B A xs) (hB : ∀ b, B b → b < w.heap.size) (hn : ∀ t ∈ l, Nice t) (hlen : l.length ≤ 12) :
    Calls Tryz.prog 35 #[.slice A l.length c] w fun e w' => ∃ A' c' ys, e = .returned (.slice A' l.length c') ∧ l.length ≤ c' ∧ rowAt w' (fun b => b < w'.heap.size) A' ys ∧ repIs w' (fun b => b < w'.heap.size) (sortT (norms l)) ys ∧ Below w.heap.size w w' := by
  have ha := all_any l A c xs w B hr hrow hB (fun t ht => built_any t (hn t ht).1 (hn t ht).2) (by omega)
  have hmem : ∀ t ∈ norms l, ∃ s ∈ l, t = norm s := fun t ht => by rw [norms_map] at ht; obtain ⟨s, hs, rfl⟩ := List.mem_map.1 ht; exact ⟨s, hs, rfl⟩
  have hg : ∀ t ∈ norms l, t.good ∧ t.size ≤ 1048576 ∧ t.kind ≠ 0 := fun t ht => by
    obtain ⟨s, hs, rfl⟩ := hmem t ht
    exact ⟨(norm_good s (hn s hs).1.good).1, (hn s hs).norm_size', (hn s hs).kind⟩
  have hnl : (norms l).length = l.length := by rw [norms_map, List.length_map]
  have hsl : (sortT (norms l)).length = l.length := by rw [sortT, isort_length, hnl]
  have hsm : ∀ t, t ∈ sortT (norms l) ↔ t ∈ norms l := fun t => (isort_perm leT _).mem_iff
  clear hr hrow hn hmem
  go_enter Tryz.func35, Tryz.ntmps35
  go_wp2_with fail
  refine ha.mono ?_
  rintro e w1 ⟨v, ys, rfl, hbel, hown, hrep⟩
  clear ha
  obtain ⟨A1, c1, blk, rfl, hc1, hrow1, hne, hblk, hblk0⟩ := own_blk hown
  have hrep' := hrep.reps (fun t ht => (hg t ht).2.2)
  have hF : repPs w1 (fun b => b < w1.heap.size ∧ b ≠ blk) (norms l) ys := hrep'.keep (fun b hb => ⟨hb.2.1, by
    by_cases h0 : l.length = 0
    · have := hblk0 h0; omega
    · exact hne b hb.2.2 h0⟩) (Kept.refl (fun _ => True) _) fun _ _ => trivial
  have hblkw : w.heap.size ≤ blk := by
    by_cases h0 : l.length = 0
    · have := hblk0 h0; have := hbel.size; omega
    · exact (hblk h0).1
  have hs := sortStableT_any (norms l) ys A1 blk c1 _ w1 hF hrow1 (fun _ h => h) (fun h => by
    have h0 : l.length ≠ 0 := fun e => h (List.eq_nil_of_length_eq_zero (by omega))
    exact (hblk h0).2) (fun t ht => ⟨(hg t ht).1, by have := (hg t ht).2.1; omega⟩) (by omega)
  rw [hnl] at hs
  have HG := Lib.hid hg
  have HNL := Lib.hid hnl
  have HSL := Lib.hid hsl
  have HSM := Lib.hid hsm
  have HBK := Lib.hid hblk
  clear hown hrep hrep' hrow1 hne hblk hblk0 hF hg hnl hsl hsm
  go_wp2_with fail
  refine hs.mono ?_
  rintro e w2 ⟨rfl, hk, ys2, hy, hR⟩
  clear hs
  have hs1 := hbel.size
  have hs2 := hk.size
  have hbel2 : Below w.heap.size w w2 := hbel.trans (hk.below fun b hb => by omega)
  have hyl : ys2.length = l.length := hR.length.trans HSL.out
  have hrow2 : rowAt w2 (fun b => b < w2.heap.size) A1 ys2 := by
    by_cases h0 : l.length = 0
    · have e0 : ys2 = [] := List.eq_nil_of_length_eq_zero (by omega)
      rw [e0]; exact rowAt.nil
    · exact hy.keep (fun b hb => by have := (HBK.out h0).2.1; omega) fun _ _ => rfl
  have hrep2 : repPs w2 (fun b => b < w2.heap.size) (sortT (norms l)) ys2 := hR.keep (fun b hb => by omega) (Kept.refl (fun _ => True) _) fun _ _ => trivial
  have hgs : ∀ t ∈ sortT (norms l), t.good ∧ t.size ≤ 1048576 := fun t ht => by
    have := HG.out t ((HSM.out t).1 ht)
    exact ⟨this.1, this.2.1⟩
  have hp := plains_any (sortT (norms l)) A1 c1 ys2 w2 _ hrep2 hrow2 (fun _ h => h) (fun i hi x hx W hW => by
    obtain ⟨y, e, hr⟩ := hrep2.get i hi
    rw [hx] at e
    obtain rfl := Option.some.inj e
    have hm := hgs _ (List.getElem_mem hi)
    exact plain_any _ W _ x hm.1 hm.2 (hr.keep (fun _ h => h) (Kept.of_below (X := fun b => b < w2.heap.size) hW fun _ h => h) fun _ h => h) (fun b hb => Nat.lt_of_lt_of_le hb hW.size)) (by have := HSL.out; omega)
  rw [HSL.out] at hp
  clear hrow2 hrep2 hgs hy hR hyl hk hbel
  go_wp2_with fail
  refine hp.mono ?_
  rintro e w3 ⟨v, ys3, rfl, hbel3, hown3, hrep3⟩
  obtain ⟨A3, c3, rfl, hrow3, hc3⟩ := rowAt.of_own' (B := fun b => b < w3.heap.size) hown3 fun g _ hg _ => hg
  clear hp
  go_wp2
  go_ret
  exact ⟨A3, c3, ys3, rfl, hc3, hrow3, hrep3.kept (Kept.refl (fun _ => True) _) (fun _ _ => trivial) fun b hb => hb.2.1, hbel2.trans (hbel3.mono hbel2.size)⟩

end Go.Proofs.YtpmfjbmfjfhghaaGreat
