/-
  PLAIN LAWS: THE TEXT OF A TYPE.
-/
import Derived.Test.YtpmfjbmfjfhghaaGreatPlain4
import Derived.Lib.Join
namespace Go.Proofs.YtpmfjbmfjfhghaaGreat

/-- The text of a key. -/
def keyText (k : Ky) : ByteArray :=
  if k.kind = 1 ∨ k.kind = 2 then (if k.kind == 2 then ⟨#[116, 114, 117, 101]⟩ else ⟨#[102, 97, 108, 115, 101]⟩) else if k.kind = 4 then k.text else ⟨#[60, 110, 105, 108, 62]⟩

/-- Texts, joined by a comma and a blank. -/
def joined (L : List ByteArray) : ByteArray := ⟨(Lib.join (L.map (·.data.toList)) [44, 32]).toArray⟩

def angled (p : ByteArray) (L : List ByteArray) : ByteArray := if L.length = 0 then p else p ++ ((⟨#[60]⟩ ++ joined L) ++ ⟨#[62]⟩)

def keyed : List Ky → List ByteArray → List ByteArray
  | k :: ks, s :: L => ((keyText k ++ ⟨#[58, 32]⟩) ++ s) :: keyed ks L
  | _, _ => []

/-- The text of a type, out of its parts' texts. -/
def node (k : Int) (ks : List Ky) (L M : List ByteArray) : ByteArray :=
  if k = 1 then ⟨#[110, 117, 108, 108]⟩
  else if k = 2 then ⟨#[98, 111, 111, 108, 101, 97, 110]⟩
  else if k = 3 then ⟨#[110, 117, 109, 98, 101, 114]⟩
  else if k = 4 then ⟨#[115, 116, 114, 105, 110, 103]⟩
  else if k = 5 then (match M with
    | [] => angled ⟨#[97, 114, 114, 97, 121]⟩ L
    | s :: _ => angled ⟨#[97, 114, 114, 97, 121]⟩ L ++ ((⟨#[91]⟩ ++ s) ++ ⟨#[93]⟩))
  else if k = 6 then (match M with
    | [s, r] => angled ⟨#[111, 98, 106, 101, 99, 116]⟩ (keyed ks L) ++ ((⟨#[91]⟩ ++ ((s ++ ⟨#[58, 32]⟩) ++ r)) ++ ⟨#[93]⟩)
    | _ => angled ⟨#[111, 98, 106, 101, 99, 116]⟩ (keyed ks L))
  else if k = 7 then (match L with
    | s :: _ => (⟨#[115, 101, 116, 91]⟩ ++ s) ++ ⟨#[93]⟩
    | [] => ⟨#[]⟩)
  else if k = 8 then (if L.length = 0 then ⟨#[97, 110, 121]⟩ else (⟨#[97, 110, 121, 60]⟩ ++ joined L) ++ ⟨#[62]⟩)
  else ⟨#[]⟩

mutual
def text : Tr → ByteArray
  | .mk k ks l m => node k ks (texts l) (texts m)
def texts : List Tr → List ByteArray
  | [] => []
  | t :: l => text t :: texts l
end

theorem texts_map (l : List Tr) : texts l = l.map text := by
  induction l with
  | nil => rfl
  | cons t l ih => simp only [texts, List.map_cons, ih]

/-! ### How long it is -/

def sumS : List ByteArray → Nat
  | [] => 0
  | s :: L => s.size + 4 + sumS L

theorem sumS_mem {s : ByteArray} {L : List ByteArray} (h : s ∈ L) : s.size + 4 ≤ sumS L := by
  induction L with
  | nil => cases h
  | cons x L ih =>
    simp only [sumS]
    rcases List.mem_cons.1 h with rfl | h
    · omega
    · have := ih h; omega

theorem size_lit (a : Array UInt8) : (ByteArray.mk a).size = a.size := rfl

theorem keyText_size (k : Ky) : (keyText k).size ≤ k.text.size + 5 := by
  unfold keyText
  split
  · split <;> simp only [size_lit, List.size_toArray, List.length_cons, List.length_nil] <;> omega
  · split
    · omega
    · simp only [size_lit, List.size_toArray, List.length_cons, List.length_nil]; omega

theorem keyed_sum : ∀ (ks : List Ky) (L : List ByteArray), sumS (keyed ks L) ≤ 8 * kyBulk ks + sumS L
  | [], _ => by simp [keyed, sumS]
  | _ :: _, [] => by simp [keyed, sumS]
  | k :: ks, s :: L => by
    have h1 := keyed_sum ks L
    have h2 := keyText_size k
    simp only [keyed, sumS, kyBulk, ByteArray.size_append, size_lit, List.size_toArray, List.length_cons, List.length_nil]
    omega

theorem keyed_length : ∀ (ks : List Ky) (L : List ByteArray), ks.length = L.length → (keyed ks L).length = L.length
  | [], [], _ => rfl
  | [], _ :: _, h => by simp at h
  | _ :: _, [], h => by simp at h
  | k :: ks, s :: L, h => by simp only [keyed, List.length_cons, keyed_length ks L (by simpa using h)]

theorem lens_sum : ∀ (L : List ByteArray), Lib.lens (L.map (·.data.toList)) + 4 * L.length = sumS L
  | [] => rfl
  | s :: L => by
    have := lens_sum L
    have e : s.data.toList.length = s.size := Array.length_toList
    simp only [Lib.lens, List.map_cons, List.sum_cons, sumS, List.length_cons] at this ⊢
    omega

theorem join_size (L : List ByteArray) : (Lib.join (L.map (·.data.toList)) [44, 32]).length ≤ sumS L := by
  cases L with
  | nil => simp [Lib.join_nil]
  | cons s L =>
    have h := lens_sum L
    have e : s.data.toList.length = s.size := Array.length_toList
    rw [List.map_cons, Lib.join_cons, List.length_append, Lib.joinTail_length, e]
    simp only [sumS, List.length_cons, List.length_nil, List.length_map]
    omega

theorem joined_size (L : List ByteArray) : (joined L).size ≤ sumS L := by
  have := join_size L
  simpa [joined, ByteArray.size] using this

theorem angled_size (p : ByteArray) (L : List ByteArray) : (angled p L).size ≤ p.size + 2 + sumS L := by
  have := joined_size L
  unfold angled
  split
  · omega
  · simp only [ByteArray.size_append, size_lit, List.size_toArray, List.length_cons, List.length_nil]; omega

theorem node_size (k : Int) (ks : List Ky) (L M : List ByteArray) : (node k ks L M).size + 4 ≤ 32 + 8 * kyBulk ks + sumS L + sumS M := by
  have h1 := keyed_sum ks L
  have h2 := joined_size L
  have h5 := angled_size ⟨#[97, 114, 114, 97, 121]⟩ L
  have h6 := angled_size ⟨#[111, 98, 106, 101, 99, 116]⟩ (keyed ks L)
  simp only [size_lit, List.size_toArray, List.length_cons, List.length_nil] at h5 h6
  unfold node
  repeat' split
  all_goals
    try simp only [ByteArray.size_append, size_lit, List.size_toArray, List.length_cons, List.length_nil, sumS] at h2 ⊢
    omega

mutual
theorem text_size : ∀ t : Tr, (text t).size + 4 ≤ 32 * t.bulk
  | .mk k ks l m => by
    have h := node_size k ks (texts l) (texts m)
    have h1 := texts_size l
    have h2 := texts_size m
    simp only [text, Tr.bulk]
    omega
theorem texts_size : ∀ l : List Tr, sumS (texts l) ≤ 32 * Tr.bulks l
  | [] => by simp [texts, sumS]
  | t :: l => by
    have h := text_size t
    have h1 := texts_size l
    simp only [texts, sumS, Tr.bulks]
    omega
end

end Go.Proofs.YtpmfjbmfjfhghaaGreat
