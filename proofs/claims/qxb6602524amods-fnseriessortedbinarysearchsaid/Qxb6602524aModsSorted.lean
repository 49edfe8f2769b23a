/-
  Seat b6602524aM: the walk of FnSeriesSortedBinarySearch.
-/
import Derived.Test.Qxb6602524aModsPlain2
import Derived.Test.Qxb6602524aModsSeries
import Derived.OpenShut
import Derived.Deep.QuietTactic
import Derived.BigQuiet
namespace Go.Proofs.Qxb6602524aMods
open Go.RowKit Plain

theorem bytes14_any (a : Option Addr) (len cap : Nat) (i : Int) (w : World) (h : ¬ 65536 < len) :
    Calls Trym.prog 14 #[.slice a len cap, .int .u64 i] w fun e w' => e = .returned (.bool true) ∧ w = w' := by
  go_enter Trym.func14, Trym.ntmps14
  go_wp2
  go_ret
  exact ⟨rfl, rfl⟩

theorem sorted_big (a : Option Addr) (len cap : Nat) (i : Int) (w : World) (h : 65536 < len) (hm : len ≤ maxLen) :
    Calls Trym.prog 6 #[.slice a len cap, .int .u64 i] w fun e w' => e = .returned (.bool true) ∧ Below w.heap.size w w' := by
  unfold maxLen at hm
  go_enter Trym.func6, Trym.ntmps6
  go_wp2
  all_goals
    go_ret
    exact ⟨rfl, Below.refl _ _⟩

set_option maxHeartbeats 1000000 in
theorem sorted_nil (i : Int) (w : World) :
    Calls Trym.prog 6 #[.slice none 0 0, .int .u64 i] w fun e w' => e = .returned (.bool true) ∧ Below w.heap.size w w' := by
  go_enter Trym.func6, Trym.ntmps6
  go_wp2_with (go_at_call 14; refine (bytes14_any _ _ _ _ _ (by omega)).mono ?_; rintro e w' ⟨rfl, rfl⟩)
  refine wp_loop_rounds 1 ?_
  rw [rounds_succ]
  go_wp2_with fail
  refine wp_loop_rounds 1 ?_
  rw [rounds_succ]
  go_wp2_with fail
  refine (zseries_nil _ _).mono ?_
  rintro e w1 ⟨rfl, h1⟩
  go_wp2_with fail
  go_ret
  exact ⟨rfl, h1⟩

set_option maxHeartbeats 1000000 in
theorem sorted_zero (x : Addr) (cap : Nat) (i : Int) (w : World) :
    Calls Trym.prog 6 #[.slice (some x) 0 cap, .int .u64 i] w fun e w' => e = .returned (.bool true) ∧ Below w.heap.size w w' := by
  obtain ⟨L, W, hmk, hcopy, hrow, hbel⟩ := made_copied 28 29 .u64 8 Trym.underlying28 info29 (by omega) x 0 cap [] w (by omega) (Nat.le_refl _) (fun k hk => by cases hk)
  have HR : Hid (Row .u64 W w.heap.size (([] : List Int).take 0)) := hrow
  clear hrow
  simp only [Int.natCast_zero] at hmk hcopy
  go_enter Trym.func6, Trym.ntmps6
  go_wp2_with (go_at_call 14; refine (bytes14_any _ _ _ _ _ (by omega)).mono ?_; rintro e w' ⟨rfl, rfl⟩)
  refine wp_loop_rounds 1 ?_
  rw [rounds_succ]
  go_wp2_with fail
  refine wp_loop_rounds 1 ?_
  rw [rounds_succ]
  go_wp2_with fail
  refine (zseries_row w.heap.size 0 (([] : List Int).take 0) i _ rfl (by omega) HR.out).mono ?_
  rintro e w1 ⟨rfl, _, h1⟩
  go_wp2_with fail
  go_ret
  exact ⟨rfl, hbel.trans (h1.mono hbel.size)⟩

set_option maxHeartbeats 1000000 in
theorem sorted_some (b off len cap : Nat) (zs : List Int) (x : Int) (w : World) (hl : len ≤ zs.length) (hbig : ¬ 65536 < len)
    (hc : ∀ k, k < zs.length → w.cell? ⟨b, off + k, none⟩ = some (.int .u64 (zs.getD k 0))) :
    Calls Trym.prog 6 #[.slice (some ⟨b, off, none⟩) len cap, .int .u64 x] w fun e w' => e = .returned (.bool true) ∧ Below w.heap.size w w' := by
  have HL : Hid (len ≤ zs.length) := hl
  have HC : Hid (∀ k, k < zs.length → w.cell? ⟨b, off + k, none⟩ = some (.int .u64 (zs.getD k 0))) := hc
  clear hc hl
  go_enter Trym.func6, Trym.ntmps6
  go_wp2_with (go_at_call 14; refine (bytes14_any _ _ _ _ _ hbig).mono ?_; rintro e w' ⟨rfl, rfl⟩)
  go_loopw [5] (fun i wr => ∃ m : Nat, (m + 1 ≤ len ∨ m = 0) ∧ i = .int .i64 ((m : Int) + 1) ∧ Hid (Adj zs m) ∧ Below w.heap.size w wr ∧ Hid (∀ k, k < zs.length → wr.cell? ⟨b, off + k, none⟩ = some (.int .u64 (zs.getD k 0)))) (fun i _ => len - (intOf i).toNat)
  case atStart => exact ⟨0, .inr rfl, by go_num, fun j hj => by omega, Below.refl _ _, HC.out⟩
  case round =>
    obtain ⟨m, hm, rfl, HA, hb, HW⟩ := hrel
    by_cases hlt : m + 1 < len
    · have hl := HL.out
      have c0 := HW.out m (by omega)
      have c1 := HW.out (m + 1) (by omega)
      obtain ⟨y0, e0⟩ : ∃ y, zs.getD m 0 = y := ⟨_, rfl⟩
      obtain ⟨y1, e1⟩ : ∃ y, zs.getD (m + 1) 0 = y := ⟨_, rfl⟩
      rw [e0] at c0
      rw [e1] at c1
      have E0 : Hid (zs.getD m 0 = y0) := e0
      have E1 : Hid (zs.getD (m + 1) 0 = y1) := e1
      clear e0 e1 hl
      go_wp2
      go_quiet (fail)
      go_wp2
      · go_ret
        exact ⟨rfl, below_drewN hb _⟩
      · have hy : ¬ y1 < y0 := by omega
        go_roundw
        case rel => exact ⟨m + 1, .inl (by omega), by go_num, HA.out.step (by rw [E0.out, E1.out]; omega), below_drewN hb _, HW.out⟩
        case measure => simp [intOf]; omega
    · obtain ⟨L, W, hmk, hcopy, hrow, hbel⟩ := made_copied 28 29 .u64 8 Trym.underlying28 info29 (by omega) ⟨b, off, none⟩ len cap zs wr (by omega) HL.out (fun k hk => by rw [Go.WideShapes.add_plain]; exact HW.out k hk)
      have HR : Hid (Row .u64 W wr.heap.size (zs.take len)) := hrow
      have HT : Hid ((zs.take len).length = len) := by show _ = _; have := HL.out; simp; omega
      have HS : Hid (Adj (zs.take len) (len - 1)) := HA.out.take (by omega)
      have HB : Hid (Below w.heap.size w W) := hb.trans (hbel.mono hb.size)
      clear hrow hb hbel HW HA HC HL
      go_wp2
      go_loop [7, 8, 9] (fun lo hi _ => ∃ l h : Nat, l ≤ h ∧ h ≤ len ∧ lo = .int .i64 l ∧ hi = .int .i64 h ∧ Hid (Spanned (zs.take len) x l h)) (fun lo hi _ => (intOf hi).toNat - (intOf lo).toNat)
      case atStart => exact ⟨0, len, Nat.zero_le _, Nat.le_refl _, rfl, rfl, spanned_start _ _ _ (Nat.le_of_eq HT.out)⟩
      case round =>
        obtain ⟨l, h, hlh, hh, rfl, rfl, HF⟩ := hrel
        by_cases hlth : l < h
        · have hcell := HR.out.2 (l + (h - l) / 2) (by rw [HT.out]; omega)
          obtain ⟨z, hz⟩ : ∃ z, (zs.take len).getD (l + (h - l) / 2) 0 = z := ⟨_, rfl⟩
          rw [hz] at hcell
          have HZ : Hid ((zs.take len).getD (l + (h - l) / 2) 0 = z) := hz
          clear hz
          clear hmk hcopy
          by_cases ht : z ≤ x
          · go_wp2
            go_round
            case rel => exact ⟨l + (h - l) / 2 + 1, h, by omega, hh, by go_num, rfl, HF.out.up HS.out (by rw [HT.out]; omega) (by rw [HT.out]; omega) (by rw [HZ.out]; exact ht)⟩
            case measure => simp only [intOf]; omega
          · go_wp2
            go_round
            case rel => exact ⟨l, l + (h - l) / 2, by omega, by omega, rfl, by go_num, HF.out.down HS.out (by rw [HT.out]; omega) (by rw [HZ.out]; omega)⟩
            case measure => simp only [intOf]; omega
        · have hser : serC (zs.take len) x = l := HF.out.done hlh hlth (by rw [HT.out]; exact hh)
          have HV : Hid (Calls Trym.prog 15 #[.slice (some ⟨wr.heap.size, 0, none⟩) len len, .int .u64 x] W fun e w' => e = .returned (.int .u64 l) ∧ Row .u64 w' wr.heap.size (zs.take len) ∧ Below W.heap.size W w') := hser ▸ zseries_row wr.heap.size len (zs.take len) x W HT.out (by omega) HR.out
          clear hser hmk hcopy
          go_wp2_with fail
          refine HV.out.mono ?_
          rintro e w1 ⟨rfl, _, h1⟩
          go_wp2_with fail
          go_ret
          exact ⟨rfl, HB.out.trans (h1.mono HB.out.size)⟩

end Go.Proofs.Qxb6602524aMods
