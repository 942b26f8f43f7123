/-
  AN ARGUMENT OF TYPE impl.Value, READ AS A TREE; 'laws.zzFits4'.
-/
import Derived.Test.YtpmfjbmfjfhghaaGreatOpen
import Derived.Test.YtpmfjbmfjfhghaaGreatVMem
import Derived.Test.YtpmfjbmfjfhghaaGreatFits
namespace Go.Proofs.YtpmfjbmfjfhghaaGreat
open Go.ChangeShapes Go.WideShapes Go.RowKit

section
variable {H : Type} {enc : TypeId × Value → H} {w : World} {base : Nat} {spare : Nat → Bool} {held : Bool}

theorem list4 {α : Type} {l : List α} (h : l.length = 4) : ∃ a b c d, l = [a, b, c, d] := by
  match l, h with
  | [a, b, c, d], _ => exact ⟨a, b, c, d, rfl⟩

theorem cellsSs : Tryz.prog.cellsOf 26 = 1 := by kernel_rfl
theorem cellsVs : Tryz.prog.cellsOf 27 = 1 := by kernel_rfl
theorem cellsV : Tryz.prog.cellsOf 29 = 4 := by kernel_rfl

theorem strBulk_append (ks : List ByteArray) (k : ByteArray) : strBulk (ks ++ [k]) = strBulk ks + strBulk [k] := by
  induction ks with
  | nil => simp [strBulk]
  | cons x ks ih => simp only [List.cons_append, strBulk] at ih ⊢; omega

theorem vbulks_snoc (l : List Vl) (t : Vl) : Vl.bulks (l ++ [t]) = Vl.bulks l + t.bulk := by
  induction l with
  | nil => simp [Vl.bulks]
  | cons x l ih => simp only [List.cons_append, Vl.bulks, ih]; omega

theorem strCells_append (l m : List ByteArray) : strCells (l ++ m) = strCells l ++ strCells m := by simp [strCells]

set_option maxRecDepth 100000 in
theorem trod_value (fuel : Nat) : ∀ (cs : List Value) (x : DataW H × List MemPlace), DataW.trod enc Tryz.prog w base spare held fuel 29 cs = some x → Rows.uptoBulk x.1 ≤ 1048576 →
    ∃ t : Vl, repV w (fun b => b < w.heap.size) t cs ∧ t.bulk ≤ Rows.uptoBulk x.1 := by
  induction fuel using Nat.strongRecOn with
  | ind fuel ih =>
    intro cs x h hM
    obtain ⟨xs, n, rfl, rfl, hl, hxl, hf⟩ := DataW.trod_struct Tryz.underlying29 h
    rw [cellsV] at hl
    obtain ⟨c0, c1, c2, c3, rfl⟩ := list4 hl
    obtain ⟨y0, y1, y2, y3, rfl⟩ := list4 (l := xs) hxl
    have g0 : DataW.trod enc Tryz.prog w base spare held n 3 [c0] = some y0 := by simpa [cellsI] using hf 0 _ rfl
    have g1 : DataW.trod enc Tryz.prog w base spare held n 9 [c1] = some y1 := by simpa [cellsS] using hf 1 _ rfl
    have g2 : DataW.trod enc Tryz.prog w base spare held n 26 [c2] = some y2 := by simpa [cellsSs] using hf 2 _ rfl
    have g3 : DataW.trod enc Tryz.prog w base spare held n 27 [c3] = some y3 := by simpa [cellsVs] using hf 3 _ rfl
    simp only [Rows.uptoBulk, Rows.uptoBulkAll, List.map_cons, List.map_nil] at hM ⊢
    obtain ⟨k, e0, rfl, _⟩ := DataW.trod_int Tryz.underlying3 g0
    obtain ⟨s1, e1, rfl, _⟩ := DataW.trod_string Tryz.underlying9 g1
    simp only [List.cons.injEq, and_true] at e0 e1
    subst e0 e1
    simp only [Rows.uptoBulk, str_size] at hM ⊢
    obtain ⟨A3, ks, k3, xs3, e3, l3, r3, w3, b3⟩ := trod_row (M := 1048576) (rep := fun (k : ByteArray) cs => cs = strCells [k]) (reps := fun l xs => xs = strCells l) (bulk := fun k => strBulk [k]) (bulks := strBulk) Tryz.underlying26 cellsS rfl
      (fun l xs t cs h h' => by rw [h, h', strCells_append]) rfl strBulk_append (fun n cs x _ h _ => by
        obtain ⟨s, e, rfl, _⟩ := DataW.trod_string Tryz.underlying9 h
        exact ⟨s, e, by simp only [strBulk, Rows.uptoBulk, str_size]; omega⟩) g2 (by omega)
    obtain ⟨A4, l, k4, xs4, e4, l4, r4, w4, b4⟩ := trod_row (M := 1048576) (rep := repV w (fun b => b < w.heap.size)) (reps := repVs w (fun b => b < w.heap.size)) (bulk := Vl.bulk) (bulks := Vl.bulks) Tryz.underlying27 cellsV (by simp [repVs])
      (fun l xs t cs h h' => repVs.snoc h' h) (by simp [Vl.bulks]) vbulks_snoc (fun m cs x hm h hb => ih m (by omega) cs x h hb) g3 (by omega)
    simp only [List.cons.injEq, and_true] at e3 e4
    subst e3 e4
    subst r3
    refine ⟨.mk k s1 ks l, ?_, by simp only [Vl.bulk]; omega⟩
    simp only [repV]
    exact ⟨A3, k3, A4, k4, xs4, rfl, ⟨l3, l4⟩, w3, w4, r4⟩

set_option maxRecDepth 100000 in
/-- An argument of type impl.Value. -/
theorem open_value {r : Reach} {b0 : Nat} {v : Value} {d : DataW H} {p : List MemPlace} (hv : Value.okWide Tryz.prog w r b0 29 v) (h : DataW.Trod enc Tryz.prog w base spare held 29 v d p) (hb : Rows.uptoBulk d ≤ 1048576) :
    ∃ (t : Vl) (cs : List Value), v = .agg cs.toArray ∧ repV w (fun b => b < w.heap.size) t cs ∧ t.bulk ≤ Rows.uptoBulk d := by
  obtain ⟨cs, rfl, hsz⟩ := okWide_struct Tryz.underlying29 hv
  obtain ⟨fuel, hf⟩ := h
  obtain ⟨t, hr, ht⟩ := trod_value fuel _ _ hf hb
  exact ⟨t, cs.toList, by simp, by simpa [Value.cells] using hr, ht⟩
end

theorem fits5_any (A : Option Addr) (l : List ByteArray) (c : Nat) (w : World) (B : Nat → Prop) (hr : rowAt w B A (strCells l)) (hb : strBulk l ≤ 1048576) :
    Calls Tryz.prog 38 #[.slice A l.length c] w (Same (.bool true) w) := by
  have hlen := length_strBulk l
  go_enter Tryz.func38, Tryz.ntmps38
  go_wp2
  go_loop [10] (fun i => ∃ k : Nat, k ≤ l.length ∧ i = .int .i64 k) (fun i => l.length - (intOf i).toNat)
  case atStart => exact ⟨0, Nat.zero_le _, rfl⟩
  case round =>
    obtain ⟨k, hk, rfl⟩ := hrel
    by_cases hlt : k < l.length
    · obtain ⟨b, off, rfl, hbb, q⟩ := hr.str k hlt
      have hs := strBulk_mem (List.getElem_mem hlt)
      obtain ⟨s, es⟩ : ∃ s, s = l[k] := ⟨_, rfl⟩
      rw [← es] at q hs
      clear es hr
      go_wp2
      go_round
      case rel => exact ⟨k + 1, by omega, by go_num⟩
      case measure => simp [intOf]; omega
    · go_wp2
      go_ret
      exact ⟨rfl, rfl⟩

set_option maxHeartbeats 1000000 in
set_option maxRecDepth 100000 in
theorem fits4_any (v : Vl) (cs : List Value) (w : World) (B : Nat → Prop) (hr : repV w B v cs) (hB : ∀ b, B b → b < w.heap.size) (hb : v.bulk ≤ 1048576) :
    Calls Tryz.prog 18 #[.agg cs.toArray] w (TruePost w) := by
  cases v with
  | mk k s ks l =>
    simp only [repV] at hr
    obtain ⟨A1, c1, A2, c2, xs, rfl, _, h1, h2, h3⟩ := hr
    simp only [Vl.bulk] at hb
    have b1 := length_strBulk ks
    have b2 := Vl.length_bulks l
    have hl0 : Below w.heap.size w (w.alloc (.cells #[.int .i64 k, .string s, .slice A1 ks.length c1, .slice A2 l.length c2] 29)) := (Below.refl _ _).alloc (Nat.le_refl _) _
    have hf := fits5_any A1 ks c1 (w.alloc (.cells #[.int .i64 k, .string s, .slice A1 ks.length c1, .slice A2 l.length c2] 29)) B (h1.kept (Kept.of_below (X := fun b => b < w.heap.size) hl0 fun _ h => h) hB fun _ h => h) (by omega)
    have e1 : decide (2147483647 < (s.size : Int)) = false := decide_eq_false (by omega)
    have e3 : decide (2147483647 < (l.length : Int)) = false := decide_eq_false (by omega)
    clear h1 h2 h3
    go_enter Tryz.func18, Tryz.ntmps18
    go_wp2_with fail
    refine hf.mono ?_
    rintro e w1 ⟨rfl, rfl⟩
    go_wp2
    go_ret
    exact ⟨rfl, hl0⟩

end Go.Proofs.YtpmfjbmfjfhghaaGreat
