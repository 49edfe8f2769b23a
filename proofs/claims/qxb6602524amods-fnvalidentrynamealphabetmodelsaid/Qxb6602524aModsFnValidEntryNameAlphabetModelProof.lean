/-
  Seat b6602524aM: the proof of Rows.FnValidEntryNameAlphabetModelSaid. The frame is the kit shell for this law; the walk is ours.
-/
import Derived.Test.Qxb6602524aModsRows
import Derived.Test.Qxb6602524aModsNames
import Derived.Below
import Derived.WalkKit
import Derived.ProofKit
import Derived.OpenShut
import Derived.ShutString
namespace Go.Proofs.Qxb6602524aMods.fnValidEntryNameAlphabetModel
open Go.ChangeShapes Go.WideShapes Go.ChangeAt Go.RowKit
open Go.ChangeMaps (open_string shut_string)
open Plain
set_option linter.unusedVariables false      -- a walk need not use every 'w<i>' (that an integer argument fits its kind)

theorem own : ownKnob Trym.prog.godebug = none := by kernel_rfl

/-! ### The walk -/
theorem bytes_any (s : ByteArray) (w : World) (h : ¬ 1048576 < s.size) :
    Calls Trym.prog 9 #[.string s] w fun e w' => e = .returned (.bool true) ∧ w' = w := by
  go_enter Trym.func9, Trym.ntmps9
  go_wp2
  go_ret
  exact ⟨rfl, rfl⟩

set_option maxHeartbeats 1000000 in
theorem walk (a0 : ByteArray) (w0 : a0.size ≤ maxLen) (w : World) :
    Calls Trym.prog 3 #[.string a0] w fun e w' => e = .returned (.bool true) ∧ Below w.heap.size w w' := by
  by_cases hbig : 1048576 < a0.size
  · go_enter Trym.func3, Trym.ntmps3
    go_wp2
    go_ret
    exact ⟨rfl, Below.refl _ _⟩
  have hlen : a0.data.toList.length = a0.size := by simp
  have HL : Hid (a0.data.toList.length = a0.size) := hlen
  clear hlen
  go_enter Trym.func3, Trym.ntmps3
  go_wp2_with (go_at_call 9; refine (bytes_any a0 _ hbig).mono ?_; rintro e w' ⟨rfl, rfl⟩)
  go_loop [3, 4] (fun n i => ∃ k N : Nat, k ≤ a0.size ∧ i = .int .i64 k ∧ n = .int .i64 N ∧ N ≤ k ∧ Hid (N = cntB (inB entA.data.toList) (a0.data.toList.take k))) (fun _ i => a0.size - (intOf i).toNat)
  case atStart => exact ⟨0, 0, Nat.zero_le _, rfl, rfl, Nat.le_refl _, rfl⟩
  case round =>
    obtain ⟨k, N, hk, rfl, rfl, hN, H⟩ := hrel
    by_cases hlt : k < a0.size
    · obtain ⟨b, hb⟩ : ∃ b, inB entA.data.toList a0[k] = b := ⟨_, rfl⟩
      have hc : ∀ w, Calls Trym.prog 10 #[.int .u8 a0[k].toNat] w fun e w' => e = .returned (.bool b) ∧ w' = w := fun w => hb ▸ inAlpha_any a0[k] w
      have HS : Hid (cntB (inB entA.data.toList) (a0.data.toList.take (k + 1)) = N + if b then 1 else 0) := by
        have := cnt_take_succ (inB entA.data.toList) a0.data.toList k (by rw [HL.out]; exact hlt)
        rw [← H.out] at this
        rw [← hb]
        exact this
      have HC : Hid (∀ w, Calls Trym.prog 10 #[.int .u8 a0[k].toNat] w fun e w' => e = .returned (.bool b) ∧ w' = w) := hc
      clear hc hb
      cases b
      · go_wp2_with (go_at_call 10; refine (HC.out _).mono ?_; rintro e w' ⟨rfl, rfl⟩)
        go_round
        case rel => exact ⟨k + 1, N, by omega, by go_num, rfl, by omega, HS.out.symm⟩
        case measure => simp [intOf]; omega
      · go_wp2_with (go_at_call 10; refine (HC.out _).mono ?_; rintro e w' ⟨rfl, rfl⟩)
        go_round
        case rel => exact ⟨k + 1, N + 1, by omega, by go_num, by go_num, by omega, HS.out.symm⟩
        case measure => simp [intOf]; omega
    · have hlaw := valid_law a0.data.toList
      rw [show cntB (inB entA.data.toList) a0.data.toList = N by rw [H.out, List.take_of_length_le (by rw [HL.out]; omega)], HL.out] at hlaw
      clear H
      obtain ⟨b, hb⟩ : ∃ b, validB a0.data.toList = b := ⟨_, rfl⟩
      have hc : ∀ w, Calls Trym.prog 11 #[.string a0] w fun e w' => e = .returned (.bool b) ∧ Below w.heap.size w w' := fun w => hb ▸ valid_any a0 w w0
      have HC : Hid (∀ w, Calls Trym.prog 11 #[.string a0] w fun e w' => e = .returned (.bool b) ∧ Below w.heap.size w w') := hc
      rw [hb] at hlaw
      clear hb hc
      rcases (show a0.size < 1 ∨ 64 < a0.size ∨ (1 ≤ a0.size ∧ a0.size ≤ 64 ∧ N = a0.size) ∨ (1 ≤ a0.size ∧ a0.size ≤ 64 ∧ N ≠ a0.size) from by omega) with h | h | ⟨h1, h2, h3⟩ | ⟨h1, h2, h3⟩
      · obtain rfl : b = false := by rw [hlaw]; simp; omega
        clear hlaw
        go_wp2_with (go_at_call 11; refine (HC.out _).mono ?_; rintro e w' ⟨rfl, hb⟩)
        go_ret
        exact ⟨rfl, by assumption⟩
      · obtain rfl : b = false := by rw [hlaw]; simp; omega
        clear hlaw
        go_wp2_with (go_at_call 11; refine (HC.out _).mono ?_; rintro e w' ⟨rfl, hb⟩)
        go_ret
        exact ⟨rfl, by assumption⟩
      · obtain rfl : b = true := by rw [hlaw]; simp; omega
        have ht : ((N : Int) == (a0.size : Int)) = true := by simp [h3]
        clear hlaw h3
        go_wp2_with (go_at_call 11; refine (HC.out _).mono ?_; rintro e w' ⟨rfl, hb⟩)
        go_ret
        exact ⟨rfl, by assumption⟩
      · obtain rfl : b = false := by rw [hlaw]; simp; omega
        have ht : ((N : Int) == (a0.size : Int)) = false := by simp; omega
        clear hlaw h3
        go_wp2_with (go_at_call 11; refine (HC.out _).mono ?_; rintro e w' ⟨rfl, hb⟩)
        go_ret
        exact ⟨rfl, by assumption⟩

/-! ### The row's step: the shell's own -/
set_option maxRecDepth 100000 in
theorem lifted (os : Os) (started : os.Started) (H : Type) (enc : TypeId × Value → H) :
    ReturnsInHanded {} Trym.checked os 3 .any (Rows.fnValidEntryNameAlphabetModelSpec.pre6 enc Trym.prog Trym.f3 Rows.fnValidEntryNameAlphabetModelRow.domain false) (Rows.fnValidEntryNameAlphabetModelSpec.post enc Trym.prog Trym.f3 false true false false) := by
  refine returnsInHanded_of_change (C := Trym.checked) own started (by kernel_rfl) Trym.func3
    (ChangeSpec.witness6 (enc := enc) (C := Trym.checked) false ⟨#[], #[.string ByteArray.empty], []⟩ 8 (by kernel_rfl) (by kernel_rfl) (by kernel_rfl) (by kernel_rfl)) ?_
  intro W base args ds gs before hval0 hW hcnd _
  have hval : ∀ (j : Nat) t v, Trym.f3.params[j]? = some t → args[j]? = some v → Value.okWide Trym.prog W .any base t v := hval0
  have hW' := hW
  obtain ⟨p, q, hA0, hV, rfl, hfz, hnd⟩ := hW
  have hA : DataW.TrodAll enc Trym.prog W 0 (fun _ => true) true Trym.f3.params.toList args.toList ds p := hA0
  rw [Trym.params3] at hA hval
  obtain ⟨v0, vs0, d0, ds0, p0, q0, hargs, rfl, rfl, h0, r0⟩ := trodAll_cons hA
  obtain ⟨rfl, rfl, rfl⟩ := trodAll_nil r0
  obtain rfl : args = #[v0] := by cases args; simp_all
  obtain ⟨rfl, rfl⟩ := trodVars_none hV
  obtain ⟨a0, rfl, rfl, rfl, w0⟩ := open_string Trym.underlying9 (hval 0 9 v0 rfl rfl) h0
  clear hA0 hval0
  refine (walk a0 w0 W).mono fun e W' ⟨he, bel⟩ => ?_
  subst he
  exact ⟨_, rfl, _, _, _, [], _, [], hW', trodAll_mk1 (shut_bool Trym.underlying4 _), (trodAll_cons_mk (shut_string Trym.underlying9 w0) trodAll_mk0), rfl, bel.frame _, fun h => by cases h⟩

theorem over : Rows.fnValidEntryNameAlphabetModelRow.holds Trym.pinned (OpenSpec.ofChange Rows.fnValidEntryNameAlphabetModelSpec) :=
  OpenClaim.holds_of_wide 3 Trym.f3 rfl rfl rfl rfl rfl rfl rfl ⟨rfl, rfl, rfl, rfl, rfl⟩ rfl rfl rfl rfl rfl (by kernel_rfl) Trym.func3 (by kernel_rfl)
    (of_decide_eq_true (by kernel_rfl)) (by unfold Func.isWrapper; first | (rw [if_pos (by decide +kernel)]; kernel_rfl) | (rw [if_neg (by decide +kernel)]; exact ⟨rfl, rfl⟩))
    (fun os started H enc _ => lifted os started H enc)

/-- The statement. -/
theorem proved : Rows.FnValidEntryNameAlphabetModelSaid :=
  over
#print axioms proved
end Go.Proofs.Qxb6602524aMods.fnValidEntryNameAlphabetModel
