/-
  Seat b6602524aM: a slice that came in, copied into a row of the call's own.
-/
import Derived.Test.Qxb6602524aModsRows
import Derived.Test.Qxb6602524aModsPlain
import Derived.WalkKit
import Derived.WalkSpells
import Derived.WalkLawsBesides
import Derived.Laws.CopyOwn
import Derived.Deep.OwnRows
namespace Go.Proofs.Qxb6602524aMods
open Go.RowKit Plain

/-- Block b of the world w bears the numbers zs, from its head on. -/
def Row (k : IntKind) (w : World) (b : Nat) (zs : List Int) : Prop :=
  b < w.heap.size ∧ ∀ j, j < zs.length → w.cell? ⟨b, j, none⟩ = some (.int k (zs.getD j 0))

theorem Row.later {k : IntKind} {w w' : World} {b : Nat} {zs : List Int} (h : Row k w b zs) (hB : Below w.heap.size w w') : Row k w' b zs :=
  ⟨Nat.lt_of_lt_of_le h.1 hB.size, fun j hj => (hB.cell (p := ⟨b, j, none⟩) h.1).trans (h.2 j hj)⟩

/-- The numbers of a slice that came in, as cells, in a later world. -/
theorem src_at {k : IntKind} {w W : World} {x : Addr} {zs : List Int} {len : Nat} (hB : Below w.heap.size w W) (hl : len ≤ zs.length)
    (hc : ∀ i, i < zs.length → w.cell? (x.add i) = some (.int k (zs.getD i 0))) :
    ∀ j v, ((zs.take len).map (Value.int k))[j]? = some v → W.cell? (x.add j) = some v := by
  intro j v hj
  have hlt : j < len := by
    have := (List.getElem?_eq_some_iff.1 hj).1
    simp at this; omega
  have h := hc j (by omega)
  rw [hB.cell (World.block_lt_of_cell? _ _ h), h]
  have hjz : j < zs.length := by omega
  simp [hlt, hjz] at hj
  rw [← hj]
  simp [List.getD, hjz]

theorem splice_whole {α : Type} (L cs : List α) (h : L.length = cs.length) : splice L 0 cs = cs := by
  unfold splice
  rw [List.drop_of_length_le (by omega)]
  simp

/-- Behind the copy the new row bears the slice's elements. -/
theorem row_copied {k : IntKind} {W : World} {g len : Nat} {L : List Value} {t : TypeId} {zs : List Int} (hL : L.length = len) (hl : len ≤ zs.length)
    (hg : W.heap[g]? = some (.cells (splice L 0 ((zs.take len).map (Value.int k))).toArray t (0, 0))) : Row k W g (zs.take len) := by
  rw [splice_whole _ _ (by simp; omega)] at hg
  refine ⟨?_, fun j hj => ?_⟩
  · rcases Nat.lt_or_ge g W.heap.size with h | h
    · exact h
    · rw [Array.getElem?_eq_none h] at hg; cases hg
  · unfold World.cell?
    rw [hg]
    have hj' : j < len := by simp at hj; omega
    have hjz : j < zs.length := by omega
    simp [hj', hjz, List.getD]

theorem ints_one {k : IntKind} (l : List Int) : ∀ v ∈ l.map (Value.int k), v.oneCell' = true := by
  intro v hv
  simp at hv
  obtain ⟨n, _, rfl⟩ := hv
  rfl

/-- 'c := make([]T, len(xs)); copy(c, xs)': the new row bears the elements; nothing that was there has turned. -/
theorem made_copied (T E : TypeId) (k : IntKind) (bytes : Nat) (hT : Trym.prog.underlying T = some (.slice E))
    (hi : (Trym.prog.info? E).map (fun i => (i.zero, i.size, i.bytes)) = some (some (.int k 0), 1, bytes)) (hb : bytes ≤ 8)
    (x : Addr) (len cap : Nat) (zs : List Int) (w : World) (h : len ≤ 65536) (hl : len ≤ zs.length) (hc : ∀ i, i < zs.length → w.cell? (x.add i) = some (.int k (zs.getD i 0))) :
    ∃ (L : Array Value) (W : World),
      (∀ w : World, (Instr.makeSlice T (.int .i64 (len : Int)) (.int .i64 (len : Int))).run Trym.prog w = .ok (.slice (some ⟨w.heap.size, 0, none⟩) len len) (w.alloc (.cells L E))) ∧
      (∀ ty, (Builtin.copy_ #[T, T] ty #[.slice (some ⟨w.heap.size, 0, none⟩) len len, .slice (some x) len cap]).run Trym.prog (w.alloc (.cells L E)) = .ok (.int .i64 len) W) ∧
      Row k W w.heap.size (zs.take len) ∧ Below w.heap.size w W := by
  have hlen : ((zs.take len).map (Value.int k)).length = len := by simp; omega
  have hz : (Trym.prog.info? E).map (·.size) = some 1 := by
    cases hq : Trym.prog.info? E with
    | none => rw [hq] at hi; cases hi
    | some i => rw [hq] at hi; simp at hi ⊢; exact hi.2.1
  have hal : Below w.heap.size w (w.alloc (.cells (madeCells #[.int k 0] len) E)) := (Below.refl _ _).alloc (Nat.le_refl _) _
  have hg : (w.alloc (.cells (madeCells #[.int k 0] len) E)).heap[w.heap.size]? = some (.cells (madeCells #[.int k 0] len) E (0, 0)) := by
    show (w.heap.push _)[w.heap.size]? = _
    simp
  refine ⟨madeCells #[.int k 0] len, (w.alloc (.cells (madeCells #[.int k 0] len) E)).setRow w.heap.size (((madeCells #[.int k 0] len).toList.take 0 ++ ((zs.take len).map (Value.int k)) ++ (madeCells #[.int k 0] len).toList.drop (0 + ((zs.take len).map (Value.int k)).length)).toArray), ?_, ?_, ?_, below_setRow hal (Nat.le_refl _) _⟩
  · intro w
    refine run_make_row' T E (.int k 0) bytes hT hi rfl .i64 .i64 len ?_ (by omega) w
    have : bytes * len ≤ 8 * len := Nat.mul_le_mul_right _ hb
    omega
  · intro ty
    have := run_copy_row (P := Trym.prog) (w.alloc (.cells (madeCells #[.int k 0] len) E)) T T ty E w.heap.size 0 len len x len cap _ E ((zs.take len).map (Value.int k)) hT hz hg
      (by rw [hlen]; exact (Nat.min_self len).symm) (src_at hal hl hc) (by rw [hlen, size_madeCells]; omega) (ints_one _)
    rw [this, hlen]
    rfl
  · refine row_copied (L := (madeCells #[.int k 0] len).toList) (t := E) (by simp [size_madeCells]) hl ?_
    have := setRow_heap (w.alloc (.cells (madeCells #[.int k 0] len) E)) w.heap.size _ (((madeCells #[.int k 0] len).toList.take 0 ++ ((zs.take len).map (Value.int k)) ++ (madeCells #[.int k 0] len).toList.drop (0 + ((zs.take len).map (Value.int k)).length)).toArray) E _ hg
    rw [this]
    simp [splice]

theorem info29 : (Trym.prog.info? 29).map (fun i => (i.zero, i.size, i.bytes)) = some (some (.int .u64 0), 1, 8) := by kernel_rfl
theorem info5 : (Trym.prog.info? 5).map (fun i => (i.zero, i.size, i.bytes)) = some (some (.int .u8 0), 1, 1) := by kernel_rfl

end Go.Proofs.Qxb6602524aMods
