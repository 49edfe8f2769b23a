/-
  Seat b6602524aM: the contract of series, and of its shim ZZSeries.
-/
import Derived.Test.Qxb6602524aModsRows
import Derived.Test.Qxb6602524aModsPlain
import Derived.Test.Qxb6602524aModsSlices
import Derived.WalkKit
import Derived.WalkSpells
import Derived.WalkLawsBesides
namespace Go.Proofs.Qxb6602524aMods
open Go.RowKit Plain
set_option linter.unusedSimpArgs false

theorem ret_u64 {a b : Int} (h : a = b) : Ending.returned (.int .u64 a) = .returned (.int .u64 b) := by rw [h]

set_option maxHeartbeats 1000000 in
theorem series_any (b off len cap : Nat) (zs : List Int) (x : Int) (u v : Value) (w : World) (hz : zs.length = len) (hl : len ≤ 65536)
    (hc : ∀ j, j < len → w.cell? ⟨b, off + j, none⟩ = some (.int .u64 (zs.getD j 0))) (hb : b < w.heap.size) :
    Calls Trym.prog 18 #[.agg #[u, v, .slice (some ⟨b, off, none⟩) len cap], .int .u64 x] w fun e w' => e = .returned (.int .u64 (serC zs x)) ∧ Below w.heap.size w w' := by
  have HZ : Hid (zs.length = len) := hz
  have HC : Hid (∀ j, j < len → w.cell? ⟨b, off + j, none⟩ = some (.int .u64 (zs.getD j 0))) := hc
  clear hz hc
  go_enter Trym.func18, Trym.ntmps18
  go_wp2
  go_loop [5, 7, 11] (fun n _ i => ∃ k N : Nat, k ≤ len ∧ N ≤ k ∧ i = .int .i64 k ∧ n = .int .u64 N ∧ Hid (N = serC (zs.take k) x)) (fun _ _ i => len - (intOf i).toNat)
  case atStart => exact ⟨0, 0, Nat.zero_le _, Nat.le_refl _, rfl, rfl, rfl⟩
  case round =>
    obtain ⟨k, N, hk, hN, rfl, rfl, H⟩ := hrel
    by_cases hlt : k < len
    · have hcell : w.cell? ⟨b, off + k, none⟩ = some (.int .u64 (zs.getD k 0)) := HC.out k hlt
      have HS : Hid (serC (zs.take (k + 1)) x = N + if zs.getD k 0 ≤ x then 1 else 0) := by
        have := ser_take_succ zs k x (by rw [HZ.out]; exact hlt)
        rw [← H.out] at this
        exact this
      obtain ⟨z, hz⟩ : ∃ z, zs.getD k 0 = z := ⟨_, rfl⟩
      rw [hz] at hcell HS
      clear hz
      by_cases ht : z ≤ x
      · go_wp2
        go_round
        case rel => exact ⟨k + 1, N + 1, by omega, by omega, by go_num, by go_num, by have := HS.out; rw [if_pos ht] at this; exact this.symm⟩
        case measure => simp [intOf]; omega
      · go_wp2
        go_round
        case rel => exact ⟨k + 1, N, by omega, by omega, by go_num, rfl, by have := HS.out; rw [if_neg ht] at this; exact this.symm⟩
        case measure => simp [intOf]; omega
    · go_wp2
      go_ret
      refine ⟨ret_u64 ?_, (Below.refl _ _).alloc (Nat.le_refl _) _⟩
      rw [H.out, List.take_of_length_le (by rw [HZ.out]; omega)]

/-- No starts, a nil slice: series 0. -/
theorem series_nil (x : Int) (u v : Value) (w : World) :
    Calls Trym.prog 18 #[.agg #[u, v, .slice none 0 0], .int .u64 x] w fun e w' => e = .returned (.int .u64 0) ∧ Below w.heap.size w w' := by
  go_enter Trym.func18, Trym.ntmps18
  go_wp2
  refine wp_loop_rounds 1 ?_
  rw [rounds_succ]
  go_wp2
  go_ret
  exact ⟨rfl, (Below.refl _ _).alloc (Nat.le_refl _) _⟩

set_option maxHeartbeats 1000000 in
theorem zseries_any (b off len cap : Nat) (zs : List Int) (x : Int) (w : World) (hz : zs.length = len) (hl : len ≤ 65536)
    (hc : ∀ j, j < len → w.cell? ⟨b, off + j, none⟩ = some (.int .u64 (zs.getD j 0))) (hb : b < w.heap.size) :
    Calls Trym.prog 15 #[.slice (some ⟨b, off, none⟩) len cap, .int .u64 x] w fun e w' => e = .returned (.int .u64 (serC zs x)) ∧ Below w.heap.size w w' := by
  have HZ : Hid (zs.length = len) := hz
  have HC : Hid (∀ j, j < len → w.cell? ⟨b, off + j, none⟩ = some (.int .u64 (zs.getD j 0))) := hc
  clear hz hc
  go_enter Trym.func15, Trym.ntmps15
  go_wp2_with (go_at_call 18; refine (series_any b off len cap zs x _ _ _ HZ.out hl HC.out hb).mono ?_; rintro e w' ⟨rfl, hbel⟩)
  go_ret
  exact ⟨rfl, by assumption⟩

set_option maxHeartbeats 1000000 in
theorem zseries_nil (x : Int) (w : World) :
    Calls Trym.prog 15 #[.slice none 0 0, .int .u64 x] w fun e w' => e = .returned (.int .u64 0) ∧ Below w.heap.size w w' := by
  go_enter Trym.func15, Trym.ntmps15
  go_wp2_with (go_at_call 18; refine (series_nil x _ _ _).mono ?_; rintro e w' ⟨rfl, hbel⟩)
  go_ret
  exact ⟨rfl, by assumption⟩

/-- The shim over a row of the call's own: what it answers; the row is left. -/
theorem zseries_row (b len : Nat) (zs : List Int) (x : Int) (w : World) (hz : zs.length = len) (hl : len ≤ 65536) (hr : Row .u64 w b zs) :
    Calls Trym.prog 15 #[.slice (some ⟨b, 0, none⟩) len len, .int .u64 x] w fun e w' => e = .returned (.int .u64 (serC zs x)) ∧ Row .u64 w' b zs ∧ Below w.heap.size w w' :=
  (zseries_any b 0 len len zs x w hz hl (fun j hj => by rw [Nat.zero_add]; exact hr.2 j (by omega)) hr.1).mono fun e w' ⟨he, hb⟩ => ⟨he, hr.later hb, hb⟩

end Go.Proofs.Qxb6602524aMods
