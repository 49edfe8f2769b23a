/-
  Seat b6602405aM: the callees' contracts.
-/
import Derived.Test.Qxb6602405aModsRows
import Derived.Test.Qxb6602405aModsPlain
import Derived.WalkKit
import Derived.WalkSpells
import Derived.WalkLawsBesides
namespace Go.Proofs.Qxb6602405aMods
open Go.RowKit Plain
set_option linter.unusedSimpArgs false

theorem ret_bool {a b : Bool} (h : a = b) : Ending.returned (.bool a) = .returned (.bool b) := by rw [h]
theorem toNat_eq {a b : UInt8} (h : ((a.toNat : Int) == (b.toNat : Int)) = true) : a = b := by
  simp at h
  exact UInt8.toNat_inj.1 (by omega)
theorem toNat_ne {a b : UInt8} (h : ((a.toNat : Int) == (b.toNat : Int)) = false) : (a == b) = false := by
  simp at h ⊢
  intro e; subst e; exact h rfl

set_option maxHeartbeats 400000 in
theorem in_any (c : UInt8) (alpha : ByteArray) (w : World) (ha : alpha.size ≤ maxLen) :
    Calls Trym.prog 20 #[.int .u8 c.toNat, .string alpha] w fun e w' => e = .returned (.bool (inB alpha.data.toList c)) ∧ w' = w := by
  unfold maxLen at ha
  go_enter Trym.func20, Trym.ntmps20
  go_wp2
  go_loop [5] (fun i => ∃ k : Nat, k ≤ alpha.size ∧ i = .int .i64 k ∧ Hid (inB (alpha.data.toList.take k) c = false)) (fun i => alpha.size - (intOf i).toNat)
  case atStart => exact ⟨0, Nat.zero_le _, rfl, rfl⟩
  case round =>
    obtain ⟨k, hk, rfl, H⟩ := hrel
    by_cases hlt : k < alpha.size
    · go_wp2
      · have ht : ((alpha[k].toNat : Int) == (c.toNat : Int)) = true := by assumption
        go_ret
        exact ⟨ret_bool (inB_hit _ k (by simpa using hlt) c (toNat_eq ht)).symm, rfl⟩
      · have ht : ((alpha[k].toNat : Int) == (c.toNat : Int)) = false := by assumption
        go_round
        case rel => exact ⟨k + 1, by omega, by go_num, (by rw [inB_take_succ _ k (by simpa using hlt), H.out]; exact toNat_ne ht : inB (alpha.data.toList.take (k + 1)) c = false)⟩
        case measure => simp [intOf]; omega
    · go_wp2
      go_ret
      exact ⟨ret_bool (by rw [← H.out, List.take_of_length_le (by simp; omega)]), rfl⟩

set_option maxHeartbeats 400000 in
theorem allIn_any (s alpha : ByteArray) (w : World) (hs : s.size ≤ maxLen) (ha : alpha.size ≤ maxLen) :
    Calls Trym.prog 10 #[.string s, .string alpha] w fun e w' => e = .returned (.bool (allInB s.data.toList alpha.data.toList)) ∧ w' = w := by
  have hs' := hs
  unfold maxLen at hs'
  go_enter Trym.func10, Trym.ntmps10
  go_wp2
  go_loop [5] (fun i => ∃ k : Nat, k ≤ s.size ∧ i = .int .i64 k ∧ Hid ((s.data.toList.take k).all (inB alpha.data.toList) = true)) (fun i => s.size - (intOf i).toNat)
  case atStart => exact ⟨0, Nat.zero_le _, rfl, rfl⟩
  case round =>
    obtain ⟨k, hk, rfl, H⟩ := hrel
    by_cases hlt : k < s.size
    · obtain ⟨b, hb⟩ : ∃ b, inB alpha.data.toList s[k] = b := ⟨_, rfl⟩
      have hc : ∀ w, Calls Trym.prog 20 #[.int .u8 s[k].toNat, .string alpha] w fun e w' => e = .returned (.bool b) ∧ w' = w := fun w => hb ▸ in_any s[k] alpha w ha
      have HB : Hid (inB alpha.data.toList s[k] = b) := hb
      clear hb
      have HC : Hid (∀ w, Calls Trym.prog 20 #[.int .u8 s[k].toNat, .string alpha] w fun e w' => e = .returned (.bool b) ∧ w' = w) := hc
      clear hc
      cases b
      · go_wp2_with (go_at_call 20; refine (HC.out _).mono ?_; rintro e w' ⟨rfl, rfl⟩)
        go_ret
        exact ⟨ret_bool (all_miss _ _ k (by simpa using hlt) HB.out).symm, rfl⟩
      · go_wp2_with (go_at_call 20; refine (HC.out _).mono ?_; rintro e w' ⟨rfl, rfl⟩)
        go_round
        case rel => exact ⟨k + 1, by omega, by go_num, (by rw [all_take_succ _ _ k (by simpa using hlt), H.out]; exact HB.out : (s.data.toList.take (k + 1)).all (inB alpha.data.toList) = true)⟩
        case measure => simp [intOf]; omega
    · go_wp2
      go_ret
      exact ⟨ret_bool (by unfold allInB; rw [← H.out, List.take_of_length_le (by simp; omega)]), rfl⟩

set_option maxHeartbeats 400000 in
theorem noneOf_any (s set : ByteArray) (w : World) (hs : s.size ≤ maxLen) (ha : set.size ≤ maxLen) :
    Calls Trym.prog 16 #[.string s, .string set] w fun e w' => e = .returned (.bool (noneOfB s.data.toList set.data.toList)) ∧ w' = w := by
  have hs' := hs
  unfold maxLen at hs'
  go_enter Trym.func16, Trym.ntmps16
  go_wp2
  go_loop [5] (fun i => ∃ k : Nat, k ≤ s.size ∧ i = .int .i64 k ∧ Hid ((s.data.toList.take k).all (fun c => !inB set.data.toList c) = true)) (fun i => s.size - (intOf i).toNat)
  case atStart => exact ⟨0, Nat.zero_le _, rfl, rfl⟩
  case round =>
    obtain ⟨k, hk, rfl, H⟩ := hrel
    by_cases hlt : k < s.size
    · obtain ⟨b, hb⟩ : ∃ b, inB set.data.toList s[k] = b := ⟨_, rfl⟩
      have hc : ∀ w, Calls Trym.prog 20 #[.int .u8 s[k].toNat, .string set] w fun e w' => e = .returned (.bool b) ∧ w' = w := fun w => hb ▸ in_any s[k] set w ha
      have HN : Hid ((!inB set.data.toList s[k]) = !b) := congrArg _ hb
      clear hb
      have HC : Hid (∀ w, Calls Trym.prog 20 #[.int .u8 s[k].toNat, .string set] w fun e w' => e = .returned (.bool b) ∧ w' = w) := hc
      clear hc
      cases b
      · go_wp2_with (go_at_call 20; refine (HC.out _).mono ?_; rintro e w' ⟨rfl, rfl⟩)
        go_round
        case rel => exact ⟨k + 1, by omega, by go_num, (by rw [all_take_succ _ _ k (by simpa using hlt), H.out]; exact HN.out : (s.data.toList.take (k + 1)).all (fun c => !inB set.data.toList c) = true)⟩
        case measure => simp [intOf]; omega
      · go_wp2_with (go_at_call 20; refine (HC.out _).mono ?_; rintro e w' ⟨rfl, rfl⟩)
        go_ret
        exact ⟨ret_bool (all_miss (fun c => !inB set.data.toList c) _ k (by simpa using hlt) HN.out).symm, rfl⟩
    · go_wp2
      go_ret
      exact ⟨ret_bool (by unfold noneOfB; rw [← H.out, List.take_of_length_le (by simp; omega)]), rfl⟩

/-- What a round of a range over a string does where the rune passes the test, or not. -/
theorem name_miss (t : Int → Bool) (s : ByteArray) (pos : Nat) (hp : pos < s.size) (h : t (s[pos].toNat : Int) = false) : nameB t s.data.toList = false := by
  unfold nameB
  rw [all_miss (fun c => t (c.toNat : Int)) s.data.toList pos (by simpa using hp) h]
  simp
theorem name_step (t : Int → Bool) (s : ByteArray) (pos : Nat) (hp : pos < s.size) (H : (s.data.toList.take pos).all (fun c => t (c.toNat : Int)) = true) (h : t (s[pos].toNat : Int) = true) :
    (s.data.toList.take (pos + 1)).all (fun c => t (c.toNat : Int)) = true := by
  rw [all_take_succ _ _ pos (by simpa using hp), H]
  exact h
theorem name_end (t : Int → Bool) (s : ByteArray) (pos : Nat) (hp : ¬ pos < s.size) (H : (s.data.toList.take pos).all (fun c => t (c.toNat : Int)) = true) :
    nameB t s.data.toList = !s.data.toList.isEmpty := by
  rw [List.take_of_length_le (by simp; omega)] at H
  unfold nameB
  rw [H]
  simp

theorem name_end' (t : Int → Bool) (s : ByteArray) (pos : Nat) (hp : ¬ pos < s.size) (H : (s.data.toList.take pos).all (fun c => t (c.toNat : Int)) = true) :
    nameB t s.data.toList = !s.toList.isEmpty := by
  rw [name_end t s pos hp H, ByteArray.toList_eq]

set_option maxHeartbeats 1000000 in
theorem class_any (s : ByteArray) (w : World) :
    Calls Trym.prog 19 #[.string s] w fun e w' => e = .returned (.bool (nameB clsR s.data.toList)) ∧ ∃ pos, w' = w.iter s pos := by
  go_enter Trym.func19, Trym.ntmps19
  go_wp2
  go_loopw [4] (fun _ w' => ∃ pos : Nat, w' = w.iter s pos ∧ Hid ((s.data.toList.take pos).all (fun c => clsR (c.toNat : Int)) = true)) (fun _ w' => s.size - w'.iterPos w.heap.size)
  case atStart => exact ⟨0, rfl, rfl⟩
  case round =>
    obtain ⟨pos, rfl, H⟩ := hrel
    by_cases hp : pos < s.size
    · by_cases ha : (s[pos]'hp).toNat < 128
      · have hnx : ∀ ty, (Instr.next (.pointer (some ⟨w.heap.size, 0, none⟩)) true ty).run Trym.prog (w.iter s pos) = _ := fun ty => run_next_ascii w s pos ty hp ha
        rcases (show (0 ≤ (s[pos].toNat : Int) ∧ (s[pos].toNat : Int) ≤ 47) ∨ (48 ≤ (s[pos].toNat : Int) ∧ (s[pos].toNat : Int) ≤ 57) ∨ (58 ≤ (s[pos].toNat : Int) ∧ (s[pos].toNat : Int) ≤ 64) ∨ (65 ≤ (s[pos].toNat : Int) ∧ (s[pos].toNat : Int) ≤ 90) ∨ (91 ≤ (s[pos].toNat : Int) ∧ (s[pos].toNat : Int) ≤ 96) ∨ (97 ≤ (s[pos].toNat : Int) ∧ (s[pos].toNat : Int) ≤ 122) ∨ (123 ≤ (s[pos].toNat : Int) ∧ (s[pos].toNat : Int) ≤ 127) from by omega) with ⟨x1, x2⟩ | ⟨x1, x2⟩ | ⟨x1, x2⟩ | ⟨x1, x2⟩ | ⟨x1, x2⟩ | ⟨x1, x2⟩ | ⟨x1, x2⟩
        all_goals
          go_wp2
        all_goals
          first
            | (exfalso
               simp only [Bool.not_eq_false', Bool.not_eq_true', decide_eq_true_eq, decide_eq_false_iff_not, beq_iff_eq, beq_eq_false_iff_ne] at *
               omega)
            | (go_ret
               exact ⟨ret_bool (name_miss clsR s pos hp (by simp only [clsR, decide_eq_false_iff_not]; omega)).symm, _, rfl⟩)
            | (go_roundw
               case rel => exact ⟨pos + 1, rfl, name_step clsR s pos hp H.out (by simp only [clsR, decide_eq_true_eq]; omega)⟩
               case measure => simp; omega)
      · have hd : 128 ≤ ((Utf8.decode s pos).1 : Int) := by have := (decode_high s pos hp (by omega)).1; omega
        have hnx : ∀ ty, (Instr.next (.pointer (some ⟨w.heap.size, 0, none⟩)) true ty).run Trym.prog (w.iter s pos) = _ := fun ty => run_next_any w s pos ty hp
        go_wp2
        all_goals
          first
            | (exfalso
               simp only [Bool.not_eq_false', Bool.not_eq_true', decide_eq_true_eq, decide_eq_false_iff_not, beq_iff_eq, beq_eq_false_iff_ne] at *
               omega)
            | (go_ret
               exact ⟨ret_bool (name_miss clsR s pos hp (by simp only [clsR, decide_eq_false_iff_not]; omega)).symm, _, rfl⟩)
    · have hnx : ∀ ty, (Instr.next (.pointer (some ⟨w.heap.size, 0, none⟩)) true ty).run Trym.prog (w.iter s pos) = _ := fun ty => run_next_end w s pos ty hp
      go_wp2
      go_ret
      exact ⟨ret_bool (name_end' clsR s pos hp H.out).symm, _, rfl⟩

set_option maxHeartbeats 1000000 in
theorem limit_any (s : ByteArray) (w : World) :
    Calls Trym.prog 21 #[.string s] w fun e w' => e = .returned (.bool (nameB limR s.data.toList)) ∧ ∃ pos, w' = w.iter s pos := by
  go_enter Trym.func21, Trym.ntmps21
  go_wp2
  go_loopw [4] (fun _ w' => ∃ pos : Nat, w' = w.iter s pos ∧ Hid ((s.data.toList.take pos).all (fun c => limR (c.toNat : Int)) = true)) (fun _ w' => s.size - w'.iterPos w.heap.size)
  case atStart => exact ⟨0, rfl, rfl⟩
  case round =>
    obtain ⟨pos, rfl, H⟩ := hrel
    by_cases hp : pos < s.size
    · by_cases ha : (s[pos]'hp).toNat < 128
      · have hnx : ∀ ty, (Instr.next (.pointer (some ⟨w.heap.size, 0, none⟩)) true ty).run Trym.prog (w.iter s pos) = _ := fun ty => run_next_ascii w s pos ty hp ha
        rcases (show (0 ≤ (s[pos].toNat : Int) ∧ (s[pos].toNat : Int) ≤ 44) ∨ (45 ≤ (s[pos].toNat : Int) ∧ (s[pos].toNat : Int) ≤ 45) ∨ (46 ≤ (s[pos].toNat : Int) ∧ (s[pos].toNat : Int) ≤ 46) ∨ (47 ≤ (s[pos].toNat : Int) ∧ (s[pos].toNat : Int) ≤ 47) ∨ (48 ≤ (s[pos].toNat : Int) ∧ (s[pos].toNat : Int) ≤ 57) ∨ (58 ≤ (s[pos].toNat : Int) ∧ (s[pos].toNat : Int) ≤ 64) ∨ (65 ≤ (s[pos].toNat : Int) ∧ (s[pos].toNat : Int) ≤ 90) ∨ (91 ≤ (s[pos].toNat : Int) ∧ (s[pos].toNat : Int) ≤ 94) ∨ (95 ≤ (s[pos].toNat : Int) ∧ (s[pos].toNat : Int) ≤ 95) ∨ (96 ≤ (s[pos].toNat : Int) ∧ (s[pos].toNat : Int) ≤ 96) ∨ (97 ≤ (s[pos].toNat : Int) ∧ (s[pos].toNat : Int) ≤ 122) ∨ (123 ≤ (s[pos].toNat : Int) ∧ (s[pos].toNat : Int) ≤ 127) from by omega) with ⟨x1, x2⟩ | ⟨x1, x2⟩ | ⟨x1, x2⟩ | ⟨x1, x2⟩ | ⟨x1, x2⟩ | ⟨x1, x2⟩ | ⟨x1, x2⟩ | ⟨x1, x2⟩ | ⟨x1, x2⟩ | ⟨x1, x2⟩ | ⟨x1, x2⟩ | ⟨x1, x2⟩
        all_goals
          go_wp2
        all_goals
          first
            | (exfalso
               simp only [Bool.not_eq_false', Bool.not_eq_true', decide_eq_true_eq, decide_eq_false_iff_not, beq_iff_eq, beq_eq_false_iff_ne] at *
               omega)
            | (go_ret
               exact ⟨ret_bool (name_miss limR s pos hp (by simp only [limR, decide_eq_false_iff_not]; omega)).symm, _, rfl⟩)
            | (go_roundw
               case rel => exact ⟨pos + 1, rfl, name_step limR s pos hp H.out (by simp only [limR, decide_eq_true_eq]; omega)⟩
               case measure => simp; omega)
      · have hd : 128 ≤ ((Utf8.decode s pos).1 : Int) := by have := (decode_high s pos hp (by omega)).1; omega
        have hnx : ∀ ty, (Instr.next (.pointer (some ⟨w.heap.size, 0, none⟩)) true ty).run Trym.prog (w.iter s pos) = _ := fun ty => run_next_any w s pos ty hp
        go_wp2
        all_goals
          first
            | (exfalso
               simp only [Bool.not_eq_false', Bool.not_eq_true', decide_eq_true_eq, decide_eq_false_iff_not, beq_iff_eq, beq_eq_false_iff_ne] at *
               omega)
            | (go_ret
               exact ⟨ret_bool (name_miss limR s pos hp (by simp only [limR, decide_eq_false_iff_not]; omega)).symm, _, rfl⟩)
    · have hnx : ∀ ty, (Instr.next (.pointer (some ⟨w.heap.size, 0, none⟩)) true ty).run Trym.prog (w.iter s pos) = _ := fun ty => run_next_end w s pos ty hp
      go_wp2
      go_ret
      exact ⟨ret_bool (name_end' limR s pos hp H.out).symm, _, rfl⟩

set_option maxHeartbeats 1000000 in
theorem digits_any (s : ByteArray) (w : World) :
    Calls Trym.prog 22 #[.string s] w fun e w' => e = .returned (.bool (nameB digR s.data.toList)) ∧ ∃ pos, w' = w.iter s pos := by
  go_enter Trym.func22, Trym.ntmps22
  go_wp2
  go_loopw [4] (fun _ w' => ∃ pos : Nat, w' = w.iter s pos ∧ Hid ((s.data.toList.take pos).all (fun c => digR (c.toNat : Int)) = true)) (fun _ w' => s.size - w'.iterPos w.heap.size)
  case atStart => exact ⟨0, rfl, rfl⟩
  case round =>
    obtain ⟨pos, rfl, H⟩ := hrel
    by_cases hp : pos < s.size
    · by_cases ha : (s[pos]'hp).toNat < 128
      · have hnx : ∀ ty, (Instr.next (.pointer (some ⟨w.heap.size, 0, none⟩)) true ty).run Trym.prog (w.iter s pos) = _ := fun ty => run_next_ascii w s pos ty hp ha
        rcases (show (0 ≤ (s[pos].toNat : Int) ∧ (s[pos].toNat : Int) ≤ 47) ∨ (48 ≤ (s[pos].toNat : Int) ∧ (s[pos].toNat : Int) ≤ 57) ∨ (58 ≤ (s[pos].toNat : Int) ∧ (s[pos].toNat : Int) ≤ 127) from by omega) with ⟨x1, x2⟩ | ⟨x1, x2⟩ | ⟨x1, x2⟩
        all_goals
          go_wp2
        all_goals
          first
            | (exfalso
               simp only [Bool.not_eq_false', Bool.not_eq_true', decide_eq_true_eq, decide_eq_false_iff_not, beq_iff_eq, beq_eq_false_iff_ne] at *
               omega)
            | (go_ret
               exact ⟨ret_bool (name_miss digR s pos hp (by simp only [digR, decide_eq_false_iff_not]; omega)).symm, _, rfl⟩)
            | (go_roundw
               case rel => exact ⟨pos + 1, rfl, name_step digR s pos hp H.out (by simp only [digR, decide_eq_true_eq]; omega)⟩
               case measure => simp; omega)
      · have hd : 128 ≤ ((Utf8.decode s pos).1 : Int) := by have := (decode_high s pos hp (by omega)).1; omega
        have hnx : ∀ ty, (Instr.next (.pointer (some ⟨w.heap.size, 0, none⟩)) true ty).run Trym.prog (w.iter s pos) = _ := fun ty => run_next_any w s pos ty hp
        go_wp2
        all_goals
          first
            | (exfalso
               simp only [Bool.not_eq_false', Bool.not_eq_true', decide_eq_true_eq, decide_eq_false_iff_not, beq_iff_eq, beq_eq_false_iff_ne] at *
               omega)
            | (go_ret
               exact ⟨ret_bool (name_miss digR s pos hp (by simp only [digR, decide_eq_false_iff_not]; omega)).symm, _, rfl⟩)
    · have hnx : ∀ ty, (Instr.next (.pointer (some ⟨w.heap.size, 0, none⟩)) true ty).run Trym.prog (w.iter s pos) = _ := fun ty => run_next_end w s pos ty hp
      go_wp2
      go_ret
      exact ⟨ret_bool (name_end' digR s pos hp H.out).symm, _, rfl⟩

end Go.Proofs.Qxb6602405aMods
