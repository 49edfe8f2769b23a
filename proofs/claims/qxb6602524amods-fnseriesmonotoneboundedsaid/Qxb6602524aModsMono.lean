/-
  Seat b6602524aM: the walk of FnSeriesMonotoneBounded.
-/
import Derived.Test.Qxb6602524aModsSeries
import Derived.OpenShut
namespace Go.Proofs.Qxb6602524aMods
open Go.RowKit Plain

theorem bytes16_any (a : Option Addr) (len cap : Nat) (i j : Int) (w : World) (h : ¬ 65536 < len) :
    Calls Trym.prog 16 #[.slice a len cap, .int .u64 i, .int .u64 j] w fun e w' => e = .returned (.bool true) ∧ w = w' := by
  go_enter Trym.func16, Trym.ntmps16
  go_wp2
  go_ret
  exact ⟨rfl, rfl⟩

theorem mono_big (a : Option Addr) (len cap : Nat) (i j : Int) (w : World) (h : 65536 < len) (hm : len ≤ maxLen) :
    Calls Trym.prog 7 #[.slice a len cap, .int .u64 i, .int .u64 j] w fun e w' => e = .returned (.bool true) ∧ Below w.heap.size w w' := by
  unfold maxLen at hm
  go_enter Trym.func7, Trym.ntmps7
  go_wp2
  all_goals
    go_ret
    exact ⟨rfl, Below.refl _ _⟩

set_option maxHeartbeats 1000000 in
theorem mono_nil (i j : Int) (w : World) :
    Calls Trym.prog 7 #[.slice none 0 0, .int .u64 i, .int .u64 j] w fun e w' => e = .returned (.bool true) ∧ Below w.heap.size w w' := by
  by_cases hij : j < i
  all_goals
    go_enter Trym.func7, Trym.ntmps7
    go_wp2_with (go_at_call 16; refine (bytes16_any _ _ _ _ _ _ (by omega)).mono ?_; rintro e w' ⟨rfl, rfl⟩)
    refine (zseries_nil _ _).mono ?_
    rintro e w1 ⟨rfl, h1⟩
    go_wp2_with fail
    refine (zseries_nil _ _).mono ?_
    rintro e w2 ⟨rfl, h2⟩
    go_wp2_with fail
    refine (zseries_nil _ _).mono ?_
    rintro e w3 ⟨rfl, h3⟩
    go_wp2_with fail
    go_ret
    exact ⟨rfl, (h1.trans (h2.mono h1.size)).trans (h3.mono (Nat.le_trans h1.size h2.size))⟩

/-- The three answers, as plain numbers. -/
theorem three (zs : List Int) (i j : Int) (h : i ≤ j) (hw : ∀ n ∈ zs, n ≤ 18446744073709551615) :
    ∃ A B : Nat, serC zs i = A ∧ serC zs j = B ∧ A ≤ B ∧ B ≤ zs.length ∧ serC zs 18446744073709551615 = zs.length :=
  ⟨_, _, rfl, rfl, ser_mono zs i j h, ser_le zs j, ser_top zs _ hw⟩

set_option maxHeartbeats 1000000 in
theorem mono_some (x : Addr) (len cap : Nat) (zs : List Int) (i j : Int) (w : World) (hl : len ≤ zs.length) (hbig : ¬ 65536 < len)
    (hc : ∀ k, k < zs.length → w.cell? (x.add k) = some (.int .u64 (zs.getD k 0))) (hw : ∀ n ∈ zs, n ≤ 18446744073709551615) :
    Calls Trym.prog 7 #[.slice (some x) len cap, .int .u64 i, .int .u64 j] w fun e w' => e = .returned (.bool true) ∧ Below w.heap.size w w' := by
  obtain ⟨L, W, hmk, hcopy, hrow, hbel⟩ := made_copied 28 29 .u64 8 Trym.underlying28 info29 (by omega) x len cap zs w (by omega) hl hc
  have hlt : (zs.take len).length = len := by simp; omega
  have HR : Hid (Row .u64 W w.heap.size (zs.take len)) := hrow
  have hw' : ∀ n ∈ zs.take len, n ≤ 18446744073709551615 := fun n hn => hw n (List.mem_of_mem_take hn)
  clear hrow hc hw hl
  by_cases hij : j < i
  · obtain ⟨A, B, hA, hB, hAB, hBT, hT⟩ := three (zs.take len) j i (by omega) hw'
    rw [hlt] at hBT hT
    have HA : Hid (∀ W, Row .u64 W w.heap.size (zs.take len) → Calls Trym.prog 15 #[.slice (some ⟨w.heap.size, 0, none⟩) len len, .int .u64 j] W fun e w' => e = .returned (.int .u64 A) ∧ Row .u64 w' w.heap.size (zs.take len) ∧ Below W.heap.size W w') := fun W hr => hA ▸ zseries_row w.heap.size len (zs.take len) j W hlt (by omega) hr
    have HB : Hid (∀ W, Row .u64 W w.heap.size (zs.take len) → Calls Trym.prog 15 #[.slice (some ⟨w.heap.size, 0, none⟩) len len, .int .u64 i] W fun e w' => e = .returned (.int .u64 B) ∧ Row .u64 w' w.heap.size (zs.take len) ∧ Below W.heap.size W w') := fun W hr => hB ▸ zseries_row w.heap.size len (zs.take len) i W hlt (by omega) hr
    have HT : Hid (∀ W, Row .u64 W w.heap.size (zs.take len) → Calls Trym.prog 15 #[.slice (some ⟨w.heap.size, 0, none⟩) len len, .int .u64 18446744073709551615] W fun e w' => e = .returned (.int .u64 (len : Nat)) ∧ Row .u64 w' w.heap.size (zs.take len) ∧ Below W.heap.size W w') := fun W hr => by have h := zseries_row w.heap.size len (zs.take len) 18446744073709551615 W hlt (by omega) hr; rw [hT] at h; exact h
    clear hA hB hT hw' hlt
    go_enter Trym.func7, Trym.ntmps7
    go_wp2_with (go_at_call 16; refine (bytes16_any _ _ _ _ _ _ hbig).mono ?_; rintro e w' ⟨rfl, rfl⟩)
    refine (HA.out _ HR.out).mono ?_
    rintro e w1 ⟨rfl, r1, h1⟩
    have R1 : Hid (Row .u64 w1 w.heap.size (zs.take len)) := r1
    clear r1
    go_wp2_with fail
    refine (HB.out _ R1.out).mono ?_
    rintro e w2 ⟨rfl, r2, h2⟩
    have R2 : Hid (Row .u64 w2 w.heap.size (zs.take len)) := r2
    clear r2
    go_wp2_with fail
    refine (HT.out _ R2.out).mono ?_
    rintro e w3 ⟨rfl, r3, h3⟩
    clear r3
    go_wp2_with fail
    go_ret
    refine ⟨rfl, ?_⟩
    have s0 := hbel.size
    have s1 := h1.size
    have s2 := h2.size
    exact ((hbel.trans (h1.mono s0)).trans (h2.mono (by omega))).trans (h3.mono (by omega))
  · obtain ⟨A, B, hA, hB, hAB, hBT, hT⟩ := three (zs.take len) i j (by omega) hw'
    rw [hlt] at hBT hT
    have HA : Hid (∀ W, Row .u64 W w.heap.size (zs.take len) → Calls Trym.prog 15 #[.slice (some ⟨w.heap.size, 0, none⟩) len len, .int .u64 i] W fun e w' => e = .returned (.int .u64 A) ∧ Row .u64 w' w.heap.size (zs.take len) ∧ Below W.heap.size W w') := fun W hr => hA ▸ zseries_row w.heap.size len (zs.take len) i W hlt (by omega) hr
    have HB : Hid (∀ W, Row .u64 W w.heap.size (zs.take len) → Calls Trym.prog 15 #[.slice (some ⟨w.heap.size, 0, none⟩) len len, .int .u64 j] W fun e w' => e = .returned (.int .u64 B) ∧ Row .u64 w' w.heap.size (zs.take len) ∧ Below W.heap.size W w') := fun W hr => hB ▸ zseries_row w.heap.size len (zs.take len) j W hlt (by omega) hr
    have HT : Hid (∀ W, Row .u64 W w.heap.size (zs.take len) → Calls Trym.prog 15 #[.slice (some ⟨w.heap.size, 0, none⟩) len len, .int .u64 18446744073709551615] W fun e w' => e = .returned (.int .u64 (len : Nat)) ∧ Row .u64 w' w.heap.size (zs.take len) ∧ Below W.heap.size W w') := fun W hr => by have h := zseries_row w.heap.size len (zs.take len) 18446744073709551615 W hlt (by omega) hr; rw [hT] at h; exact h
    clear hA hB hT hw' hlt
    go_enter Trym.func7, Trym.ntmps7
    go_wp2_with (go_at_call 16; refine (bytes16_any _ _ _ _ _ _ hbig).mono ?_; rintro e w' ⟨rfl, rfl⟩)
    refine (HA.out _ HR.out).mono ?_
    rintro e w1 ⟨rfl, r1, h1⟩
    have R1 : Hid (Row .u64 w1 w.heap.size (zs.take len)) := r1
    clear r1
    go_wp2_with fail
    refine (HB.out _ R1.out).mono ?_
    rintro e w2 ⟨rfl, r2, h2⟩
    have R2 : Hid (Row .u64 w2 w.heap.size (zs.take len)) := r2
    clear r2
    go_wp2_with fail
    refine (HT.out _ R2.out).mono ?_
    rintro e w3 ⟨rfl, r3, h3⟩
    clear r3
    go_wp2_with fail
    go_ret
    refine ⟨rfl, ?_⟩
    have s0 := hbel.size
    have s1 := h1.size
    have s2 := h2.size
    exact ((hbel.trans (h1.mono s0)).trans (h2.mono (by omega))).trans (h3.mono (by omega))

end Go.Proofs.Qxb6602524aMods
