/-
  Seat b6602405aM: the thin shims' contracts; the iterator's block among what is new.
-/
import Derived.Test.Qxb6602405aModsCalls
namespace Go.Proofs.Qxb6602405aMods
open Go.RowKit Plain

theorem zclass_any (s : ByteArray) (w : World) :
    Calls Trym.prog 9 #[.string s] w fun e w' => e = .returned (.bool (nameB clsR s.data.toList)) ∧ ∃ pos, w' = w.iter s pos := by
  go_enter Trym.func9, Trym.ntmps9
  go_wp2_with (go_at_call 19; refine (class_any _ _).mono ?_; rintro e w' ⟨rfl, pos, rfl⟩)
  go_ret
  exact ⟨rfl, _, rfl⟩

theorem zlimit_any (s : ByteArray) (w : World) :
    Calls Trym.prog 12 #[.string s] w fun e w' => e = .returned (.bool (nameB limR s.data.toList)) ∧ ∃ pos, w' = w.iter s pos := by
  go_enter Trym.func12, Trym.ntmps12
  go_wp2_with (go_at_call 21; refine (limit_any _ _).mono ?_; rintro e w' ⟨rfl, pos, rfl⟩)
  go_ret
  exact ⟨rfl, _, rfl⟩

theorem zdigits_any (s : ByteArray) (w : World) :
    Calls Trym.prog 14 #[.string s] w fun e w' => e = .returned (.bool (nameB digR s.data.toList)) ∧ ∃ pos, w' = w.iter s pos := by
  go_enter Trym.func14, Trym.ntmps14
  go_wp2_with (go_at_call 22; refine (digits_any _ _).mono ?_; rintro e w' ⟨rfl, pos, rfl⟩)
  go_ret
  exact ⟨rfl, _, rfl⟩

/-- The iterator's block is no row of cells: nothing of it is frozen. -/
theorem frozen_iter (w : World) (s : ByteArray) (pos : Nat) (a : Addr) : (w.iter s pos).frozen? a = w.frozen? a := by
  by_cases h : a.block = w.heap.size
  · have e1 : (w.iter s pos).heap[a.block]? = some (.stringIter s pos) := by rw [h]; exact World.iter_heap w s pos
    have e2 : w.heap[a.block]? = none := by rw [h]; simp
    simp [World.frozen?, e1, e2]
  · exact World.frozen?_alloc_old _ _ _ h

theorem grown_iter {W w' : World} (h : Grown W w') (s : ByteArray) (pos : Nat) : Grown W (w'.iter s pos) :=
  ⟨World.keptBut_trans h.1 (World.keptBut_alloc _ _ _), fun a => (frozen_iter _ _ _ a).trans (h.2.1 a), Nat.le_trans h.2.2 (by show w'.heap.size ≤ (w'.heap.push _).size; simp)⟩

theorem size_cls : clsA.size ≤ maxLen := by unfold maxLen; decide
theorem size_lim : limA.size ≤ maxLen := by unfold maxLen; decide
theorem size_dig : digA.size ≤ maxLen := by unfold maxLen; decide
theorem size_pun : punA.size ≤ maxLen := by unfold maxLen; decide
theorem size_let : letA.size ≤ maxLen := by unfold maxLen; decide

end Go.Proofs.Qxb6602405aMods
