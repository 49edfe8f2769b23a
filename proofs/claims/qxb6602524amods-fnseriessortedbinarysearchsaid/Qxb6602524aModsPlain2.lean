/-
  Seat b6602524aM: the plain law of the binary search over a sorted list.
-/
import Derived.Test.Qxb6602524aModsPlain
namespace Go.Proofs.Qxb6602524aMods
namespace Plain

theorem ser_append (l m : List Int) (x : Int) : serC (l ++ m) x = serC l x + serC m x := by
  unfold serC
  rw [List.filter_append, List.length_append]
theorem ser_none (l : List Int) (x : Int) (h : ∀ z ∈ l, x < z) : serC l x = 0 := by
  unfold serC
  rw [List.filter_eq_nil_iff.2 (fun z hz => by have := h z hz; simp; omega)]
  rfl
/-- All that lie before p are at most x, all from p on are above it: p of them are at most x. -/
theorem ser_split (l : List Int) (x : Int) (p : Nat) (hp : p ≤ l.length) (h1 : ∀ j, j < p → l.getD j 0 ≤ x) (h2 : ∀ j, p ≤ j → j < l.length → x < l.getD j 0) : serC l x = p := by
  have e : l = l.take p ++ l.drop p := (List.take_append_drop p l).symm
  rw [e, ser_append, ser_top (l.take p) x, ser_none (l.drop p) x]
  · simp; omega
  · intro z hz
    obtain ⟨j, hj, rfl⟩ := List.getElem_of_mem hz
    have hj' : p + j < l.length := by simp at hj; omega
    have := h2 (p + j) (by omega) hj'
    simpa [List.getD, hj'] using this
  · intro z hz
    obtain ⟨j, hj, rfl⟩ := List.getElem_of_mem hz
    have hj' : j < p := by simp at hj; omega
    have hjl : j < l.length := by omega
    have := h1 j hj'
    simpa [List.getD, hjl] using this

/-- Neighbours are in order, up to place m. -/
def Adj (l : List Int) (m : Nat) : Prop := ∀ j, j < m → l.getD j 0 ≤ l.getD (j + 1) 0
theorem Adj.step {l : List Int} {m : Nat} (h : Adj l m) (hm : l.getD m 0 ≤ l.getD (m + 1) 0) : Adj l (m + 1) := by
  intro j hj
  by_cases e : j = m
  · subst e; exact hm
  · exact h j (by omega)
theorem Adj.le {l : List Int} {m : Nat} (h : Adj l m) (i : Nat) : ∀ d, i + d ≤ m → l.getD i 0 ≤ l.getD (i + d) 0
  | 0, _ => Int.le_refl _
  | d + 1, hd => by
    have h1 := Adj.le h i d (by omega)
    have h2 := h (i + d) (by omega)
    have e : i + (d + 1) = i + d + 1 := by omega
    rw [e]
    omega

/-- What the binary search knows at its round's head: lo, hi. -/
def Spanned (l : List Int) (x : Int) (lo hi : Nat) : Prop := (∀ j, j < lo → l.getD j 0 ≤ x) ∧ ∀ j, hi ≤ j → j < l.length → x < l.getD j 0
theorem Spanned.up {l : List Int} {x : Int} {lo hi m mid : Nat} (hs : Adj l m) (hm : l.length ≤ m + 1) (hf : Spanned l x lo hi) (hmid : mid < l.length) (h : l.getD mid 0 ≤ x) : Spanned l x (mid + 1) hi := by
  refine ⟨fun j hj => ?_, hf.2⟩
  have := hs.le j (mid - j) (by omega)
  rw [show j + (mid - j) = mid from by omega] at this
  omega
theorem Spanned.down {l : List Int} {x : Int} {lo hi m mid : Nat} (hs : Adj l m) (hm : l.length ≤ m + 1) (hf : Spanned l x lo hi) (h : x < l.getD mid 0) : Spanned l x lo mid := by
  refine ⟨hf.1, fun j hj hl => ?_⟩
  have := hs.le mid (j - mid) (by omega)
  rw [show mid + (j - mid) = j from by omega] at this
  omega
theorem Spanned.done {l : List Int} {x : Int} {lo hi : Nat} (hf : Spanned l x lo hi) (h1 : lo ≤ hi) (h2 : ¬ lo < hi) (h3 : hi ≤ l.length) : serC l x = lo := by
  obtain rfl : lo = hi := by omega
  exact ser_split l x lo h3 hf.1 hf.2
theorem spanned_start (l : List Int) (x : Int) (n : Nat) (h : l.length ≤ n) : Spanned l x 0 n := ⟨fun j hj => by omega, fun j h1 h2 => by omega⟩
/-- The elements of the copy are in order as those that came in. -/
theorem Adj.take {l : List Int} {m n : Nat} (h : Adj l m) (hm : n ≤ m + 1) : Adj (l.take n) (n - 1) := by
  intro j hj
  have h1 : j < n := by omega
  have h2 : j + 1 < n := by omega
  have e1 : (l.take n).getD j 0 = l.getD j 0 := by simp [List.getD, h1]
  have e2 : (l.take n).getD (j + 1) 0 = l.getD (j + 1) 0 := by simp [List.getD, h2]
  rw [e1, e2]
  exact h j (by omega)

end Plain
end Go.Proofs.Qxb6602524aMods
