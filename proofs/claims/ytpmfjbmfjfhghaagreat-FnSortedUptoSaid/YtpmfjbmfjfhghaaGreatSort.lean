/-
  'zzSorted' at types and at static properties, by the shelf's contract of slices.SortFunc.
-/
import Derived.Test.YtpmfjbmfjfhghaaGreatSort0
import Derived.Test.YtpmfjbmfjfhghaaGreatLay
import Derived.Shelf.SlSortCmp.NoneTotal
namespace Go.Proofs.YtpmfjbmfjfhghaaGreat
open Go.RowKit Go.Proofs

/-- What a sort leaves. -/
def SortPost (v : Value) (blk : Nat) (A : Option Addr) (w : World) (R : List Value → World → Prop) (e : Ending) (w' : World) : Prop :=
  e = .returned v ∧ Kept (fun b => b < w.heap.size ∧ b ≠ blk) w w' ∧ ∃ ys, rowAt w' (fun b => b = blk) A ys ∧ R ys w'

theorem CmpPost.grown {w : World} {c : Int} {e : Ending} {w' : World} (h : CmpPost c w e w') : e = .returned (.int .i64 c) ∧ ∃ q os, w' = Go.Sort.grow (w.drewN q) os := by
  obtain ⟨he, n, hw⟩ := h
  exact ⟨he, n, #[], by rw [hw, Go.Sort.grow_empty]⟩

theorem bitsLen_any (n : Nat) (w : World) (h : n ≤ 1073741824) : Calls Tryz.prog 117 #[.int .u64 n] w (Same (.int .i64 (Lib.bitLen n : Nat)) w) := by
  have h := Any.bits_Len (SlLaysF0.n15.bits (P := Tryz.prog) (ρ := Tryz.sortProps_ren) { Tryz.sortProps with }) (n : Int) w (by omega) (by omega)
  rw [Int.toNat_natCast] at h
  exact h.mono fun _ _ ⟨a, b⟩ => ⟨a, b.symm⟩

/-- What pdqsort does at types: it sorts the row. -/
theorem pdqT_any (l : List Tr) (xs : List Value) (A : Option Addr) (blk cap lim : Nat) (F : Nat → Prop) (w : World) (hl : repPs w F l xs) (hr : rowAt w (fun b => b = blk) A xs) (hF : ∀ b, F b → b < w.heap.size ∧ b ≠ blk) (hbz : l ≠ [] → blk < w.heap.size ∧ ∀ i, w.frozen? ⟨blk, i, none⟩ = false)
    (hg : ∀ t ∈ l, t.good ∧ t.size ≤ 1073741824) (hlen : l.length ≤ 1073741824) (hlim : lim < 4611686018427387904) :
    Calls Tryz.prog 118 #[.slice A l.length cap, .int .i64 0, .int .i64 l.length, .int .i64 lim, .func (.func 50) #[] #[]] w (SortPost (.tuple #[]) blk A w fun ys w' => repPs w' F (sortT l) ys) := by
  obtain ⟨L, e1, e2⟩ := El.of hl hg
  have hn : L.length = l.length := by rw [← e1]; simp
  cases L with
  | nil =>
    simp at e1 e2
    subst e1 e2
    refine (AnyF.pdqsortCmpFunc_none (P := Tryz.prog) (ρ := Tryz.sortTypes_ren) { Tryz.sortTypes with } A cap lim _ w).mono ?_
    rintro e w' ⟨rfl, rfl⟩
    exact ⟨rfl, Kept.refl _ _, [], rowAt.nil, by simp [sortT, isort, repPs]⟩
  | cons x0 L =>
    obtain ⟨b, off, rfl, rfl, _⟩ := hr 0 (El.enc x0) (by rw [← e2]; rfl)
    obtain ⟨hblk, hz⟩ := hbz (fun e => by simp [e] at hn)
    haveI : Inhabited (El w F) := ⟨x0⟩
    have hH : Go.Sort.Holds (α := El w F) El.enc w b off (x0 :: L).toArray := holds_of (F := fun b' => b' = b) (by rw [e2]; exact hr) hz
    have hcmp : CmpLays1 (α := El w F) Tryz.prog 50 #[] El.enc El.cf b off (x0 :: L).toArray.size w := by
      intro m os dk _ x y
      have hk := Kept.sorted (α := El w F) El.enc w b off m dk os
      refine (compare_any x.1.1 y.1.1 x.1.2 y.1.2 F F (sortWorld (α := El w F) El.enc w b off m dk os) x.2.2.1 y.2.2.1 x.2.2.2 y.2.2.2 (x.2.1.keep (fun _ h => h) hk hF) (y.2.1.keep (fun _ h => h) hk hF)).mono ?_
      exact fun _ _ h => h.grown
    have hsz : (x0 :: L).toArray.size = l.length := by simpa using hn
    have hs := Any.pdqsortCmpFunc_all Tryz.sortTypes El.enc El.cf 50 #[] El.swo b off cap (x0 :: L).toArray w (enters_of Tryz.func50 (by kernel_rfl) rfl) hcmp ⟨El.one, hH, hblk⟩ (l.length + 1) 0 l.length lim (x0 :: L).toArray w (by omega) rfl (SW.start hH) (Nat.zero_le _) (by omega) (by omega) hlim (Or.inl rfl)
    rw [hsz] at hs
    refine hs.mono ?_
    rintro e w' ⟨rfl, n, os, rfl⟩
    have hps := Go.Sort.pdq_sorts (ltOf El.cf) El.swo (x0 :: L).toArray 0 (x0 :: L).toArray.size lim true true (Nat.zero_le _) (Nat.le_refl _) (Or.inl rfl)
    rw [hsz] at hps
    obtain ⟨d', hd'⟩ : ∃ d', d' = Go.Sort.pdq (ltOf El.cf) (x0 :: L).toArray 0 l.length lim true true := ⟨_, rfl⟩
    rw [← hd'] at hps ⊢
    rw [← hsz] at hps
    obtain ⟨hp, hq⟩ := hps
    obtain ⟨hperm, hsort⟩ := sorted_list (L := x0 :: L) (d' := d') hp hq
    have hk := Kept.sorted (α := El w F) El.enc w b off n d' os
    have hW : Go.Sort.Holds El.enc (sortWorld (α := El w F) El.enc w b off n d' os) b off d' := SW.holds ⟨n, os, rfl⟩ hblk hH hp.1
    refine ⟨rfl, hk, d'.toList.map El.enc, of_holds hW rfl, ?_⟩
    have hrep := El.reps hk hF d'.toList
    have et : d'.toList.map (fun x => x.1.1) = sortT l := by
      refine sortT_unique (fun t ht => (hg t ht).1) ?_ ?_
      · rw [← e1]; exact hperm.map _
      · rw [List.pairwise_map]; exact hsort.imp fun h => El.le h
    rwa [et] at hrep

set_option maxHeartbeats 1000000 in
/-- slices.SortFunc at types. -/
theorem sortFuncT_any (l : List Tr) (xs : List Value) (A : Option Addr) (blk cap : Nat) (F : Nat → Prop) (w : World) (hl : repPs w F l xs) (hr : rowAt w (fun b => b = blk) A xs) (hF : ∀ b, F b → b < w.heap.size ∧ b ≠ blk) (hbz : l ≠ [] → blk < w.heap.size ∧ ∀ i, w.frozen? ⟨blk, i, none⟩ = false)
    (hg : ∀ t ∈ l, t.good ∧ t.size ≤ 1073741824) (hlen : l.length ≤ 1073741824) :
    Calls Tryz.prog 113 #[.slice A l.length cap, .func (.func 50) #[] #[]] w (SortPost (.tuple #[]) blk A w fun ys w' => repPs w' F (sortT l) ys) := by
  have hlim : Lib.bitLen l.length < 4611686018427387904 := Nat.lt_of_le_of_lt (Lib.bitLen_le l.length 62 (by omega) (by omega)) (by omega)
  have hs := pdqT_any l xs A blk cap (Lib.bitLen l.length) F w hl hr hF hbz hg hlen hlim
  have hb := bitsLen_any l.length w hlen
  have wr : IntKind.u64.wrap (l.length : Int) = l.length := by simp [IntKind.wrap, IntKind.bits, IntKind.signed]; omega
  clear hl hr hbz hg
  go_enter Tryz.func113, Tryz.ntmps113
  go_wp2_with fail
  refine hb.mono ?_
  rintro e w' ⟨rfl, rfl⟩
  go_wp2_with fail
  refine hs.mono ?_
  rintro e w' ⟨rfl, hk, ys, hy, hR⟩
  go_wp2
  go_end0
  exact ⟨rfl, hk, ys, hy, hR⟩

set_option maxHeartbeats 1000000 in
/-- 'zzSorted' at types. -/
theorem zzSortedT_any (l : List Tr) (xs : List Value) (A : Option Addr) (blk cap : Nat) (F : Nat → Prop) (w : World) (hl : repPs w F l xs) (hr : rowAt w (fun b => b = blk) A xs) (hF : ∀ b, F b → b < w.heap.size ∧ b ≠ blk) (hbz : l ≠ [] → blk < w.heap.size ∧ ∀ i, w.frozen? ⟨blk, i, none⟩ = false)
    (hg : ∀ t ∈ l, t.good ∧ t.size ≤ 1073741824) (hlen : l.length ≤ 1073741824) :
    Calls Tryz.prog 102 #[.slice A l.length cap, .func (.func 50) #[] #[]] w (SortPost (.slice A l.length cap) blk A w fun ys w' => repPs w' F (sortT l) ys) := by
  have hs := sortFuncT_any l xs A blk cap F w hl hr hF hbz hg hlen
  clear hl hr hbz hg
  go_enter Tryz.func102, Tryz.ntmps102
  go_wp2_with fail
  refine hs.mono ?_
  rintro e w' ⟨rfl, hk, ys, hy, hR⟩
  go_wp2
  go_ret
  exact ⟨rfl, hk, ys, hy, hR⟩

set_option maxHeartbeats 1000000 in
/-- slices.SortFunc at static properties. -/
theorem sortFuncP_any (gs : List Nat) (ks : List Ky) (l : List Tr) (vs : List Value) (A : Option Addr) (blk cap : Nat) (F : Nat → Prop) (w : World) (hp : props w F gs ks vs) (hl : repPs w F l vs) (hr : rowAt w (fun b => b = blk) A (gs.map ptr)) (hF : ∀ b, F b → b < w.heap.size ∧ b ≠ blk) (hbz : ks ≠ [] → blk < w.heap.size ∧ ∀ i, w.frozen? ⟨blk, i, none⟩ = false)
    (hk : ∀ k ∈ ks, k.ok) (hnd : ks.Nodup) (hlen : ks.length ≤ 1073741824) :
    Calls Tryz.prog 112 #[.slice A ks.length cap, .func (.func 101) #[] #[]] w
      (SortPost (.tuple #[]) blk A w fun ys w' => ∃ gs' vs', ys = gs'.map ptr ∧ props w' F gs' ((sortK (ks.zip l)).map (·.1)) vs' ∧ repPs w' F ((sortK (ks.zip l)).map (·.2)) vs') := by
  obtain ⟨L, e1, e2⟩ := Pl.of hp hl hk
  have q1 := hp.length
  have q2 := hl.length
  have hn : L.length = ks.length := by
    have := congrArg List.length e2
    simp at this; omega
  cases L with
  | nil =>
    simp at e2 hn
    subst e2
    have h0 : ks = [] := List.eq_nil_of_length_eq_zero hn.symm
    subst h0
    have hv : vs = [] := List.eq_nil_of_length_eq_zero (by simpa using q1.2)
    subst hv
    have hl0 : l = [] := List.eq_nil_of_length_eq_zero (by simpa using q2.symm)
    subst hl0
    refine (AnyF.slices_SortFunc_none { Tryz.sortProps with } A cap _ w).mono ?_
    rintro e w' ⟨rfl, rfl⟩
    exact ⟨rfl, Kept.refl _ _, [], rowAt.nil, [], [], rfl, by simp [sortK, isort, props], by simp [sortK, isort, repPs]⟩
  | cons x0 L =>
    obtain ⟨b, off, rfl, rfl, _⟩ := hr 0 (Pl.enc x0) (by rw [← e2]; rfl)
    obtain ⟨hblk, hz⟩ := hbz (fun e => by simp [e] at hn)
    haveI : Inhabited (Pl w F) := ⟨x0⟩
    have hH : Go.Sort.Holds (α := Pl w F) Pl.enc w b off (x0 :: L).toArray := holds_of (F := fun b' => b' = b) (by rw [e2]; exact hr) hz
    have hcmp : CmpLays1 (α := Pl w F) Tryz.prog 101 #[] Pl.enc Pl.cf b off (x0 :: L).toArray.size w := by
      intro m os dk _ x y
      have hk := Kept.sorted (α := Pl w F) Pl.enc w b off m dk os
      refine (cmpSpKey_any x.1.1 y.1.1 x.1.2.1.1 y.1.2.1.1 x.1.2.2 y.1.2.2 (sortWorld (α := Pl w F) Pl.enc w b off m dk os) (x.2.2.1.kept hk (hF _ x.2.1)) (y.2.2.1.kept hk (hF _ y.2.1))).mono ?_
      exact fun _ _ h => h.grown
    have hs := Any.slices_SortFunc Tryz.sortProps Pl.enc Pl.one Pl.cf Pl.swo 101 #[] b off cap (x0 :: L).toArray w (enters_of Tryz.func101 (by kernel_rfl) rfl) hcmp hH hblk (by simp at hn ⊢; omega)
    rw [show (x0 :: L).toArray.size = ks.length by simpa using hn] at hs
    refine hs.mono ?_
    rintro e w' ⟨rfl, d', n, os, hpi, hq, rfl⟩
    obtain ⟨hperm, hsort⟩ := sorted_list (L := x0 :: L) (d' := d') (by rw [show (x0 :: L).toArray.size = ks.length by simpa using hn]; exact hpi) (by rw [show (x0 :: L).toArray.size = ks.length by simpa using hn]; exact hq)
    have hkp := Kept.sorted (α := Pl w F) Pl.enc w b off n d' os
    have hd : d'.size = (x0 :: L).toArray.size := hpi.1
    have hW : Go.Sort.Holds Pl.enc (sortWorld (α := Pl w F) Pl.enc w b off n d' os) b off d' := SW.holds ⟨n, os, rfl⟩ hblk hH hd
    obtain ⟨r1, r2⟩ := Pl.reps hkp hF d'.toList
    have et : d'.toList.map (fun x => x.1.2.1) = sortK (ks.zip l) := by
      refine sortK_unique ?_ ?_ ?_ ?_
      · intro p hp; exact hk p.1 (List.of_mem_zip hp).1
      · rw [show ((ks.zip l).map (·.1)) = ks from List.map_fst_zip (by omega)]; exact hnd
      · rw [← e1]; exact hperm.map _
      · rw [List.pairwise_map]; exact hsort.imp fun h => Pl.le h
    refine ⟨rfl, hkp, d'.toList.map Pl.enc, of_holds hW rfl, d'.toList.map (fun x => x.1.1), d'.toList.map (fun x => x.1.2.2), by simp [Pl.enc, Function.comp_def], ?_, ?_⟩
    · rw [← et, List.map_map]; exact r1
    · rw [← et, List.map_map]; exact r2

set_option maxHeartbeats 1000000 in
/-- 'zzSorted' at static properties. -/
theorem zzSortedP_any (gs : List Nat) (ks : List Ky) (l : List Tr) (vs : List Value) (A : Option Addr) (blk cap : Nat) (F : Nat → Prop) (w : World) (hp : props w F gs ks vs) (hl : repPs w F l vs) (hr : rowAt w (fun b => b = blk) A (gs.map ptr)) (hF : ∀ b, F b → b < w.heap.size ∧ b ≠ blk) (hbz : ks ≠ [] → blk < w.heap.size ∧ ∀ i, w.frozen? ⟨blk, i, none⟩ = false)
    (hk : ∀ k ∈ ks, k.ok) (hnd : ks.Nodup) (hlen : ks.length ≤ 1073741824) :
    Calls Tryz.prog 100 #[.slice A ks.length cap, .func (.func 101) #[] #[]] w
      (SortPost (.slice A ks.length cap) blk A w fun ys w' => ∃ gs' vs', ys = gs'.map ptr ∧ props w' F gs' ((sortK (ks.zip l)).map (·.1)) vs' ∧ repPs w' F ((sortK (ks.zip l)).map (·.2)) vs') := by
  have hs := sortFuncP_any gs ks l vs A blk cap F w hp hl hr hF hbz hk hnd hlen
  clear hl hr hbz hp
  go_enter Tryz.func100, Tryz.ntmps100
  go_wp2_with fail
  refine hs.mono ?_
  rintro e w' ⟨rfl, hk, ys, hy, hR⟩
  go_wp2
  go_ret
  exact ⟨rfl, hk, ys, hy, hR⟩

end Go.Proofs.YtpmfjbmfjfhghaaGreat
