/-
  'Compare' at array types.
-/
import Derived.Test.YtpmfjbmfjfhghaaGreatCompare
import Derived.LaidEqlPtr
namespace Go.Proofs.YtpmfjbmfjfhghaaGreat
open Go.RowKit

theorem size_of_map {i : Option TypeInfo} {n : Nat} (h : i.map (·.size) = some n) : ∃ j, i = some j ∧ j.size = n := by
  cases i with
  | none => simp at h
  | some j => exact ⟨j, rfl, by simpa using h⟩

theorem infoArr : (Tryz.prog.info? 139).map (·.size) = some 2 := by kernel_rfl
theorem infoObj : (Tryz.prog.info? 142).map (·.size) = some 2 := by kernel_rfl

theorem eql_arr_same (g : Nat) (w : World) : Sem.run Tryz.prog (binOp .eql 102 (ptr g) (ptr g)) w = .ok (.bool true) w := by
  obtain ⟨j, hj, _⟩ := size_of_map infoArr
  exact run_eql_ptr_same w _ Tryz.underlying102 hj
theorem eql_arr_other {g g' : Nat} {w : World} {t t' : TypeId} {cs cs' : Array Value} (hb : Blk w g t cs) (hb' : Blk w g' t' cs') (hne : g ≠ g') : Sem.run Tryz.prog (binOp .eql 102 (ptr g) (ptr g')) w = .ok (.bool false) w := by
  obtain ⟨j, hj, hs⟩ := size_of_map infoArr
  exact run_eql_ptr_other w Tryz.underlying102 hj (by omega) (by intro e; injection e; omega) hb hb'
theorem eql_obj_same (g : Nat) (w : World) : Sem.run Tryz.prog (binOp .eql 109 (ptr g) (ptr g)) w = .ok (.bool true) w := by
  obtain ⟨j, hj, _⟩ := size_of_map infoObj
  exact run_eql_ptr_same w _ Tryz.underlying109 hj
theorem eql_obj_other {g g' : Nat} {w : World} {t t' : TypeId} {cs cs' : Array Value} (hb : Blk w g t cs) (hb' : Blk w g' t' cs') (hne : g ≠ g') : Sem.run Tryz.prog (binOp .eql 109 (ptr g) (ptr g')) w = .ok (.bool false) w := by
  obtain ⟨j, hj, hs⟩ := size_of_map infoObj
  exact run_eql_ptr_other w Tryz.underlying109 hj (by omega) (by intro e; injection e; omega) hb hb'

/-- What the dynamic types' comparison comes to. -/
def DynCmp (P : Program) (w : World) (d d' : Value) (D : Int) : Prop :=
  (d = .nilIface ∧ d' = .nilIface ∧ D = 0) ∨ ((∃ T y, d = .iface T y) ∧ d' = .nilIface ∧ D = 1) ∨ (d = .nilIface ∧ (∃ T y, d' = .iface T y) ∧ D = -1) ∨
  ((∃ T y, d = .iface T y) ∧ (∃ T y, d' = .iface T y) ∧ ∀ q, Calls P 50 #[d, d'] (w.drewN q) (CmpPost D (w.drewN q)))

set_option maxHeartbeats 1000000 in
set_option maxRecDepth 100000 in
/-- One array type, twice. -/
theorem compare_arr_same (g : Nat) (w : World) (h : CmpHead (.iface 102 (ptr g)) 4) :
    Calls Tryz.prog 50 #[.iface 102 (ptr g), .iface 102 (ptr g)] w (Same (.int .i64 0) w) := by
  have h' := h
  have hpe := eql_arr_same g w
  obtain ⟨h1, h2, h3⟩ := h
  obtain ⟨h1', h2', h3'⟩ := h'
  have H1 := Lib.hid h1
  have H2 := Lib.hid h2
  have H3 := Lib.hid h3
  have H1' := Lib.hid h1'
  have H2' := Lib.hid h2'
  have H3' := Lib.hid h3'
  clear h1 h2 h3 h1' h2' h3'
  go_enter Tryz.func50, Tryz.ntmps50
  go_wp2_with fail
  refine (H1.out _).mono ?_
  rintro e w' ⟨rfl, rfl⟩
  go_wp2_with fail
  refine (H2.out _).mono ?_
  rintro e w' ⟨rfl, rfl⟩
  go_wp2_with fail
  refine (H1'.out _).mono ?_
  rintro e w' ⟨rfl, rfl⟩
  go_wp2_with fail
  refine (H2'.out _).mono ?_
  rintro e w' ⟨rfl, rfl⟩
  go_wp2_with fail
  refine (H3.out _).mono ?_
  rintro e w' ⟨rfl, rfl⟩
  go_wp2_with fail
  refine (H3'.out _).mono ?_
  rintro e w' ⟨rfl, rfl⟩
  go_wp2
  go_ret
  exact ⟨rfl, rfl⟩

set_option maxHeartbeats 1000000 in
set_option maxRecDepth 100000 in
theorem compare_arr (g g' : Nat) (A A' : Option Addr) (n n' c c' : Nat) (d d' : Value) (D S : Int) (w : World) (h : CmpHead (.iface 102 (ptr g)) 4) (h' : CmpHead (.iface 102 (ptr g')) 4)
    (hb : Blk w g 139 #[.slice A n c, d]) (hb' : Blk w g' 139 #[.slice A' n' c', d']) (hne : g ≠ g') (hd : DynCmp Tryz.prog w d d' D)
    (hs : ∀ q, Calls Tryz.prog 92 #[.slice A n c, .slice A' n' c', .func (.func 50) #[] #[]] (w.drewN q) (CmpPost S (w.drewN q))) :
    Calls Tryz.prog 50 #[.iface 102 (ptr g), .iface 102 (ptr g')] w (CmpPost (andThen D S) w) := by
  obtain ⟨h1, h2, h3⟩ := h
  obtain ⟨h1', h2', h3'⟩ := h'
  have H1 := Lib.hid h1
  have H2 := Lib.hid h2
  have H3 := Lib.hid h3
  have H1' := Lib.hid h1'
  have H2' := Lib.hid h2'
  have H3' := Lib.hid h3'
  have HS := Lib.hid hs
  have hpe := eql_arr_other hb hb' hne
  have c0 := hb.cell 0
  have c0' := hb'.cell 0
  have c1 := hb.cell 1
  have c1' := hb'.cell 1
  simp at c0 c0' c1 c1'
  clear h1 h2 h3 h1' h2' h3' hs hb hb'
  rcases hd with ⟨rfl, rfl, rfl⟩ | ⟨⟨T, y, rfl⟩, rfl, rfl⟩ | ⟨rfl, ⟨T, y, rfl⟩, rfl⟩ | ⟨⟨T, y, rfl⟩, ⟨T', y', rfl⟩, hd⟩
  · -- neither has a dynamic type
    go_enter Tryz.func50, Tryz.ntmps50
    go_wp2_with fail
    refine (H1.out _).mono ?_
    rintro e w' ⟨rfl, rfl⟩
    go_wp2_with fail
    refine (H2.out _).mono ?_
    rintro e w' ⟨rfl, rfl⟩
    go_wp2_with fail
    refine (H1'.out _).mono ?_
    rintro e w' ⟨rfl, rfl⟩
    go_wp2_with fail
    refine (H2'.out _).mono ?_
    rintro e w' ⟨rfl, rfl⟩
    go_wp2_with fail
    refine (H3.out _).mono ?_
    rintro e w' ⟨rfl, rfl⟩
    go_wp2_with fail
    refine (H3'.out _).mono ?_
    rintro e w' ⟨rfl, rfl⟩
    go_wp2_with fail
    go_quiet ((go_at_call 92; go_must (exact CmpPost.quiet (HS.out _))))
    go_wp2_with fail
    go_ret
    exact ⟨by first | (simp [andThen]; done) | (simp [andThen]; rfl), _, rfl⟩
  · -- the first one has
    go_enter Tryz.func50, Tryz.ntmps50
    go_wp2_with fail
    refine (H1.out _).mono ?_
    rintro e w' ⟨rfl, rfl⟩
    go_wp2_with fail
    refine (H2.out _).mono ?_
    rintro e w' ⟨rfl, rfl⟩
    go_wp2_with fail
    refine (H1'.out _).mono ?_
    rintro e w' ⟨rfl, rfl⟩
    go_wp2_with fail
    refine (H2'.out _).mono ?_
    rintro e w' ⟨rfl, rfl⟩
    go_wp2_with fail
    refine (H3.out _).mono ?_
    rintro e w' ⟨rfl, rfl⟩
    go_wp2_with fail
    refine (H3'.out _).mono ?_
    rintro e w' ⟨rfl, rfl⟩
    go_wp2_with fail
    go_ret
    exact ⟨rfl, 0, rfl⟩
  · -- the second one has
    go_enter Tryz.func50, Tryz.ntmps50
    go_wp2_with fail
    refine (H1.out _).mono ?_
    rintro e w' ⟨rfl, rfl⟩
    go_wp2_with fail
    refine (H2.out _).mono ?_
    rintro e w' ⟨rfl, rfl⟩
    go_wp2_with fail
    refine (H1'.out _).mono ?_
    rintro e w' ⟨rfl, rfl⟩
    go_wp2_with fail
    refine (H2'.out _).mono ?_
    rintro e w' ⟨rfl, rfl⟩
    go_wp2_with fail
    refine (H3.out _).mono ?_
    rintro e w' ⟨rfl, rfl⟩
    go_wp2_with fail
    refine (H3'.out _).mono ?_
    rintro e w' ⟨rfl, rfl⟩
    go_wp2_with fail
    go_ret
    exact ⟨rfl, 0, rfl⟩
  · -- both have
    have HD := Lib.hid hd
    clear hd
    by_cases h0 : D = 0
    · subst h0
      go_enter Tryz.func50, Tryz.ntmps50
      go_wp2_with fail
      refine (H1.out _).mono ?_
      rintro e w' ⟨rfl, rfl⟩
      go_wp2_with fail
      refine (H2.out _).mono ?_
      rintro e w' ⟨rfl, rfl⟩
      go_wp2_with fail
      refine (H1'.out _).mono ?_
      rintro e w' ⟨rfl, rfl⟩
      go_wp2_with fail
      refine (H2'.out _).mono ?_
      rintro e w' ⟨rfl, rfl⟩
      go_wp2_with fail
      refine (H3.out _).mono ?_
      rintro e w' ⟨rfl, rfl⟩
      go_wp2_with fail
      refine (H3'.out _).mono ?_
      rintro e w' ⟨rfl, rfl⟩
      go_wp2_with fail
      go_quiet ((go_at_call 50; go_must (exact CmpPost.quiet (HD.out _))))
      go_wp2_with fail
      go_quiet ((go_at_call 92; go_must (exact CmpPost.quiet2 (HS.out _))))
      go_wp2_with fail
      go_ret
      exact ⟨by first | (simp [andThen]; done) | (simp [andThen]; rfl), _, World.drewN_drewN _ _ _⟩
    · have e0 : (D != 0) = true := by simpa using h0
      have H0 := Lib.hid h0
      clear h0
      go_enter Tryz.func50, Tryz.ntmps50
      go_wp2_with fail
      refine (H1.out _).mono ?_
      rintro e w' ⟨rfl, rfl⟩
      go_wp2_with fail
      refine (H2.out _).mono ?_
      rintro e w' ⟨rfl, rfl⟩
      go_wp2_with fail
      refine (H1'.out _).mono ?_
      rintro e w' ⟨rfl, rfl⟩
      go_wp2_with fail
      refine (H2'.out _).mono ?_
      rintro e w' ⟨rfl, rfl⟩
      go_wp2_with fail
      refine (H3.out _).mono ?_
      rintro e w' ⟨rfl, rfl⟩
      go_wp2_with fail
      refine (H3'.out _).mono ?_
      rintro e w' ⟨rfl, rfl⟩
      go_wp2_with fail
      go_quiet ((go_at_call 50; go_must (exact CmpPost.quiet (HD.out _))))
      go_wp2_with fail
      go_ret
      have h0 := H0.out
      exact ⟨by first | (simp [andThen, h0]; done) | (simp [andThen, h0]; rfl), _, rfl⟩

end Go.Proofs.YtpmfjbmfjfhghaaGreat
