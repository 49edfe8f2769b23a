/-
  Seat b6602524aM: the contracts of ValidEntryName and of zzInAlphabet.
-/
import Derived.Test.Qxb6602524aModsRows
import Derived.Test.Qxb6602524aModsPlain
import Derived.WalkKit
import Derived.WalkSpells
import Derived.WalkLawsBesides
import Derived.Laws.IdiomStrings
namespace Go.Proofs.Qxb6602524aMods
open Go.RowKit Plain
set_option linter.unusedSimpArgs false

theorem ret_bool {a b : Bool} (h : a = b) : Ending.returned (.bool a) = .returned (.bool b) := by rw [h]
theorem toNat_eq {a b : UInt8} (h : ((a.toNat : Int) == (b.toNat : Int)) = true) : a = b := by
  simp at h
  exact UInt8.toNat_inj.1 (by omega)
theorem toNat_ne {a b : UInt8} (h : ((a.toNat : Int) == (b.toNat : Int)) = false) : (a == b) = false := by
  simp at h ⊢
  intro e; subst e; exact h rfl

/-- What the conversion of a string to bytes leaves, its capacity and its mark unknown. -/
theorem conv_bytes (s : ByteArray) (w : World) : ∃ (cap : Nat) (C : Array Value) (M : Nat × Nat),
    (convert 9 25 (.string s)).run Trym.prog w = .ok (.slice (some ⟨w.heap.size, 0, none⟩) s.size cap) (w.drew.alloc (.cells C 5 M)) ∧
    ∀ j, (h : j < s.size) → (w.alloc (.cells C 5 M)).cell? ⟨w.heap.size, j, none⟩ = some (.int .u8 s[j].toNat) := by
  refine ⟨_, _, _, run_bytes_of_string (P := Trym.prog) w 9 25 5 s Trym.underlying9 Trym.underlying25 Trym.underlying5, fun j h => ?_⟩
  rw [World.cell?_alloc_mark, bytesRow_at s _ j h]
  rfl

theorem valid_short (s : ByteArray) (h : s.size = 0 ∨ 64 < s.size) : validB s.data.toList = false := by
  have hl : s.data.toList.length = s.size := by simp
  unfold validB
  rw [hl]
  rcases h with h | h
  · simp [h]
  · have : ¬ s.size ≤ 64 := by omega
    simp [this]
theorem valid_miss (s : ByteArray) (k : Nat) (hk : k < s.size) (h : entR (s[k].toNat : Int) = false) : validB s.data.toList = false := by
  unfold validB
  rw [all_miss (fun c => entR (c.toNat : Int)) s.data.toList k (by simpa using hk) h]
  simp
theorem valid_step (s : ByteArray) (k : Nat) (hk : k < s.size) (H : (s.data.toList.take k).all (fun c => entR (c.toNat : Int)) = true) (h : entR (s[k].toNat : Int) = true) :
    (s.data.toList.take (k + 1)).all (fun c => entR (c.toNat : Int)) = true := by
  rw [all_take_succ _ _ k (by simpa using hk), H]
  exact h
theorem valid_end (s : ByteArray) (k : Nat) (h0 : 0 < s.size) (h1 : s.size ≤ 64) (hk : ¬ k < s.size) (H : (s.data.toList.take k).all (fun c => entR (c.toNat : Int)) = true) : validB s.data.toList = true := by
  rw [List.take_of_length_le (by simp; omega)] at H
  have hl : s.data.toList.length = s.size := by simp
  unfold validB
  rw [H, hl]
  simp; omega

set_option maxHeartbeats 1000000 in
theorem valid_any (s : ByteArray) (w : World) (hs : s.size ≤ maxLen) :
    Calls Trym.prog 11 #[.string s] w fun e w' => e = .returned (.bool (validB s.data.toList)) ∧ Below w.heap.size w w' := by
  unfold maxLen at hs
  by_cases h0 : s.size = 0
  · have hz : ((s.size : Int) == 0) = true := by simp [h0]
    have hv := valid_short s (.inl h0)
    clear h0
    go_enter Trym.func11, Trym.ntmps11
    go_wp2
    go_ret
    exact ⟨ret_bool hv.symm, Below.refl _ _⟩
  have hz : ((s.size : Int) == 0) = false := by simp [h0]
  by_cases h1 : 64 < s.size
  · have HV : Hid (validB s.data.toList = false) := valid_short s (.inr h1)
    go_enter Trym.func11, Trym.ntmps11
    go_wp2
    go_ret
    exact ⟨ret_bool HV.out.symm, Below.refl _ _⟩
  have hp : 0 < s.size := by omega
  clear h0
  obtain ⟨cap, C, M, hconv, hcell⟩ := conv_bytes s w
  have HC : Hid (∀ j, (h : j < s.size) → (w.alloc (.cells C 5 M)).cell? ⟨w.heap.size, j, none⟩ = some (.int .u8 s[j].toNat)) := hcell
  clear hcell
  go_enter Trym.func11, Trym.ntmps11
  go_wp2
  go_loop [4, 16] (fun _ i => ∃ k : Nat, k ≤ s.size ∧ i = .int .i64 k ∧ Hid ((s.data.toList.take k).all (fun c => entR (c.toNat : Int)) = true)) (fun _ i => s.size - (intOf i).toNat)
  case atStart => exact ⟨0, Nat.zero_le _, rfl, rfl⟩
  case round =>
    obtain ⟨k, hk, rfl, H⟩ := hrel
    by_cases hlt : k < s.size
    · have hcell := HC.out k hlt
      have hb := s[k].toNat_lt
      rcases (show (0 ≤ (s[k].toNat : Int) ∧ (s[k].toNat : Int) ≤ 47) ∨ (48 ≤ (s[k].toNat : Int) ∧ (s[k].toNat : Int) ≤ 57) ∨ (58 ≤ (s[k].toNat : Int) ∧ (s[k].toNat : Int) ≤ 96) ∨ (97 ≤ (s[k].toNat : Int) ∧ (s[k].toNat : Int) ≤ 122) ∨ (123 ≤ (s[k].toNat : Int) ∧ (s[k].toNat : Int) ≤ 255) from by omega) with ⟨x1, x2⟩ | ⟨x1, x2⟩ | ⟨x1, x2⟩ | ⟨x1, x2⟩ | ⟨x1, x2⟩
      all_goals
        go_wp2
      all_goals
        first
          | (exfalso
             simp only [Bool.not_eq_false', Bool.not_eq_true', Bool.and_eq_true, Bool.or_eq_true, Bool.and_eq_false_imp, Bool.or_eq_false_iff, decide_eq_true_eq, decide_eq_false_iff_not, beq_iff_eq, beq_eq_false_iff_ne] at *
             omega)
          | (go_ret
             exact ⟨ret_bool (valid_miss s k hlt (by simp only [entR, decide_eq_false_iff_not]; omega)).symm, ((Below.refl _ _).alloc (Nat.le_refl _) _).drew⟩)
          | (go_round
             case rel => exact ⟨k + 1, by omega, by go_num, valid_step s k hlt H.out (by simp only [entR, decide_eq_true_eq]; omega)⟩
             case measure => simp [intOf]; omega)
    · go_wp2
      go_ret
      exact ⟨ret_bool (valid_end s k hp (by omega) hlt H.out).symm, ((Below.refl _ _).alloc (Nat.le_refl _) _).drew⟩

theorem ent_size : entA.size = 36 := by decide
theorem ent_lt {k : Nat} (h : k < 36) : k < entA.data.toList.length := by
  rw [Array.length_toList]; show k < entA.size; rw [ent_size]; exact h
set_option maxHeartbeats 1000000 in
theorem inAlpha_any (c : UInt8) (w : World) :
    Calls Trym.prog 10 #[.int .u8 c.toNat] w fun e w' => e = .returned (.bool (inB entA.data.toList c)) ∧ w' = w := by
  go_enter Trym.func10, Trym.ntmps10
  go_wp2
  go_loop [3] (fun i => ∃ k : Nat, k ≤ 36 ∧ i = .int .i64 k ∧ Hid (inB (entA.data.toList.take k) c = false)) (fun i => 36 - (intOf i).toNat)
  case atStart => exact ⟨0, Nat.zero_le _, rfl, rfl⟩
  case round =>
    obtain ⟨k, hk, rfl, H⟩ := hrel
    by_cases hlt : k < 36
    · have hx : k < entA.size := by rw [ent_size]; exact hlt
      have HX : Hid (k < entA.size) := hx
      clear hx
      go_wp2
      · have ht : (((entA[k]'HX.out).toNat : Int) == (c.toNat : Int)) = true := by assumption
        go_ret
        exact ⟨ret_bool (inB_hit _ k (ent_lt hlt) c (toNat_eq ht)).symm, rfl⟩
      · have ht : (((entA[k]'HX.out).toNat : Int) == (c.toNat : Int)) = false := by assumption
        go_round
        case rel => exact ⟨k + 1, by omega, by go_num, (by rw [inB_take_succ _ k (ent_lt hlt), H.out]; exact toNat_ne ht : inB (entA.data.toList.take (k + 1)) c = false)⟩
        case measure => simp [intOf]; omega
    · go_wp2
      go_ret
      exact ⟨ret_bool (by rw [← H.out, List.take_of_length_le (by have := ent_size; simp; omega)]), rfl⟩

end Go.Proofs.Qxb6602524aMods
