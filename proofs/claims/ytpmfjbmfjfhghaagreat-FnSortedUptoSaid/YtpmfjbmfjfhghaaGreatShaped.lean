/-
  'spec.shaped': whether a type has as many parts as its kind has.
-/
import Derived.Test.YtpmfjbmfjfhghaaGreatSize
namespace Go.Proofs.YtpmfjbmfjfhghaaGreat
open Go.RowKit

/-- A bool that tells whether p. -/
def BoolPost (p : Prop) (w : World) (e : Ending) (w' : World) : Prop := ∃ b : Bool, e = .returned (.bool b) ∧ (b = true ↔ p) ∧ Below w.heap.size w w'

theorem BoolPost.yes {p : Prop} {w w' : World} (h : p) (hb : Below w.heap.size w w') : BoolPost p w (.returned (.bool true)) w' := ⟨true, rfl, by simp [h], hb⟩
theorem BoolPost.no {p : Prop} {w w' : World} (h : ¬ p) (hb : Below w.heap.size w w') : BoolPost p w (.returned (.bool false)) w' := ⟨false, rfl, by simp [h], hb⟩

set_option maxHeartbeats 1000000 in
set_option maxRecDepth 100000 in
theorem shaped_any (t : Tr) (w : World) (B : Nat → Prop) (cs : List Value) (hr : repS w B t cs) (hbulk : t.bulk ≤ 1048576) (hB : ∀ b, B b → b < w.heap.size) :
    Calls Tryz.prog 59 #[.agg cs.toArray] w (BoolPost (Shaped t) w) := by
  cases t with
  | mk k ks l m =>
    simp only [repS] at hr
    obtain ⟨A1, c1, A2, c2, A3, c3, xs, ys, rfl, _, h1, h2, h3, h4, h5⟩ := hr
    simp only [Tr.bulk] at hbulk
    have b1 := length_kyBulk ks
    have b2 := Tr.length_bulks l
    have b3 := Tr.length_bulks m

    by_cases hk : k = 1 ∨ k = 2 ∨ k = 3 ∨ k = 4
    · have HS := Lib.hid (show Shaped (.mk k ks l m) ↔ (l.length = 0 ∧ m.length = 0) by simp only [Shaped, ← List.length_eq_zero_iff]; omega)
      rcases hk with rfl | rfl | rfl | rfl
      all_goals
        go_enter Tryz.func59, Tryz.ntmps59
        go_wp2
        all_goals go_ret
        all_goals refine ⟨_, rfl, ?_, (Below.refl _ _).alloc (Nat.le_refl _) _⟩
        all_goals rw [HS.out]
        all_goals first | (simp [*]; done) | (simp [*]; omega)
    · by_cases hk5 : k = 5
      · have HS := Lib.hid (show Shaped (.mk k ks l m) ↔ m.length ≤ 1 by simp only [Shaped, ← List.length_eq_zero_iff]; omega)
        subst hk5
        go_enter Tryz.func59, Tryz.ntmps59
        go_wp2
        all_goals go_ret
        all_goals refine ⟨_, rfl, ?_, (Below.refl _ _).alloc (Nat.le_refl _) _⟩
        all_goals rw [HS.out]
        all_goals simp
        all_goals omega
      · by_cases hk6 : k = 6
        · have HS := Lib.hid (show Shaped (.mk k ks l m) ↔ ks.length = l.length ∧ (m.length = 0 ∨ m.length = 2) by simp only [Shaped, ← List.length_eq_zero_iff]; omega)
          subst hk6
          go_enter Tryz.func59, Tryz.ntmps59
          go_wp2
          all_goals go_ret
          all_goals refine ⟨_, rfl, ?_, (Below.refl _ _).alloc (Nat.le_refl _) _⟩
          all_goals rw [HS.out]
          all_goals first | (simp [*]; done) | (simp [*]; omega)
        · by_cases hk7 : k = 7
          · have HS := Lib.hid (show Shaped (.mk k ks l m) ↔ l.length = 1 ∧ m.length = 0 by simp only [Shaped, ← List.length_eq_zero_iff]; omega)
            subst hk7
            go_enter Tryz.func59, Tryz.ntmps59
            go_wp2
            all_goals go_ret
            all_goals refine ⟨_, rfl, ?_, (Below.refl _ _).alloc (Nat.le_refl _) _⟩
            all_goals rw [HS.out]
            all_goals first | (simp [*]; done) | (simp [*]; omega)
          · by_cases hk8 : k = 8
            · have HS := Lib.hid (show Shaped (.mk k ks l m) ↔ (∀ j (h : j < l.length), l[j].kind ≠ 8) ∧ m.length = 0 ∧ l.length ≠ 1 by
                simp only [Shaped, ← List.length_eq_zero_iff, List.forall_mem_iff_forall_getElem]
                constructor
                · intro h; rcases h with h | h | h | h | h
                  · omega
                  · omega
                  · omega
                  · omega
                  · exact h.2
                · exact fun h => .inr (.inr (.inr (.inr ⟨hk8, h⟩))))
              subst hk8
              have hx0 : Blk (w.alloc (.cells #[.int .i64 8, .slice A1 ks.length c1, .slice A2 l.length c2, .slice A3 m.length c3] 44)) w.heap.size 44 #[.int .i64 8, .slice A1 ks.length c1, .slice A2 l.length c2, .slice A3 m.length c3] := Blk.new _ _ _
              have hlow := (Below.refl w.heap.size w).alloc (Nat.le_refl _) (.cells #[.int .i64 8, .slice A1 ks.length c1, .slice A2 l.length c2, .slice A3 m.length c3] 44)
              go_enter Tryz.func59, Tryz.ntmps59
              go_wp2
              generalize w.alloc (.cells #[.int .i64 8, .slice A1 ks.length c1, .slice A2 l.length c2, .slice A3 m.length c3] 44) = w0 at *
              have hw0 := hx0.lt
              go_loopw [66] (fun i wr => ∃ j : Nat, j ≤ l.length ∧ i = .int .i64 j ∧ (∀ q (h : q < l.length), q < j → l[q].kind ≠ 8) ∧ Below w0.heap.size w0 wr) (fun i _ => l.length - (intOf i).toNat)
              case atStart => exact ⟨0, Nat.zero_le _, rfl, fun q _ hq => absurd hq (by omega), Below.refl _ _⟩
              case round =>
                obtain ⟨j, hj, rfl, hno, hb⟩ := hrel
                have hb0 := hx0.below hb hw0
                have hws := hb.size
                have HN := Lib.hid hno
                clear hno
                by_cases hlt : j < l.length
                · obtain ⟨b, off, A1', c1', A2', c2', A3', c3', rfl, hbb, hrj, q0, q1, q2, q3⟩ := h3.at_ h2 j hlt
                  have hlw := hlow.trans (hb.mono hlow.size)
                  have hbb' := hB b hbb
                  rw [← hlw.cell (by exact hbb')] at q0 q1 q2 q3
                  clear hx0 hlow h1 h3 h4 h5
                  by_cases hk : l[j].kind = 8
                  · have HK := Lib.hid hk
                    have e1 : (l[j].kind == 8) = true := by simpa using hk
                    clear hk
                    go_wp2
                    go_ret
                    exact BoolPost.no (by rw [HS.out]; exact fun h => h.1 j hlt HK.out) (hlw.alloc hlw.size _)
                  · have HK := Lib.hid hk
                    have e1 : (l[j].kind == 8) = false := by simpa using hk
                    clear hk
                    go_wp2
                    go_roundw
                    case rel =>
                      refine ⟨j + 1, by omega, by go_num, fun q hq hq' => ?_, hb.alloc (by omega) _⟩
                      by_cases e : q = j
                      · subst e; exact HK.out
                      · exact HN.out q hq (by omega)
                    case measure => simp [intOf]; omega
                · have d2 := hb0.cell 2
                  have d3 := hb0.cell 3
                  simp at d2 d3
                  have hlw := hlow.trans (hb.mono hlow.size)
                  clear hx0 hlow
                  go_wp2
                  all_goals go_ret
                  all_goals refine ⟨_, rfl, ?_, hlw⟩
                  all_goals rw [HS.out]
                  all_goals refine Iff.trans ?_ (and_iff_right (fun q hq => HN.out q hq (by omega))).symm
                  all_goals clear HS HN
                  all_goals first | (simp [*]; done) | (simp [*]; omega)
            · have HS := Lib.hid (show ¬ Shaped (.mk k ks l m) by simp only [Shaped]; omega)
              go_enter Tryz.func59, Tryz.ntmps59
              go_wp2
              go_ret
              exact BoolPost.no HS.out ((Below.refl _ _).alloc (Nat.le_refl _) _)

end Go.Proofs.YtpmfjbmfjfhghaaGreat
