/-
  Seat b6602405aM: the proof of Rows.FnAllDigitsExactlyNonEmptyAsciiDigitsSaid. The frame is the kit shell for this law; the walk is ours.
-/
import Derived.Test.Qxb6602405aModsRows
import Derived.Test.Qxb6602405aModsShims
import Derived.WalkKit
import Derived.ProofKit
import Derived.OpenShut
import Derived.ShutString
namespace Go.Proofs.Qxb6602405aMods.fnAllDigitsExactlyNonEmptyAsciiDigits
open Go.ChangeShapes Go.WideShapes Go.ChangeAt Go.RowKit
open Go.ChangeMaps (open_string shut_string)
open Plain
set_option linter.unusedVariables false      -- a walk need not use every 'w<i>' (that an integer argument fits its kind)

theorem own : ownKnob Trym.prog.godebug = none := by kernel_rfl

/-! ### The walk -/
set_option maxHeartbeats 1000000 in
theorem walk (a0 : ByteArray) (w0 : a0.size ≤ maxLen) (w : World) :
    Calls Trym.prog 5 #[.string a0] w fun e w' => e = .returned (.bool true) ∧ Grown w w' := by
  by_cases hbig : 1048576 < a0.size
  · go_enter Trym.func5, Trym.ntmps5
    go_wp2
    go_ret
    exact ⟨rfl, Grown.refl _⟩
  · obtain ⟨b, hb⟩ : ∃ b, allInB a0.data.toList digA.data.toList = b := ⟨_, rfl⟩
    have hall : ∀ w, Calls Trym.prog 10 #[.string a0, .string digA] w fun e w' => e = .returned (.bool b) ∧ w' = w := fun w => hb ▸ allIn_any a0 digA w w0 size_dig
    have hlaw := digits_law a0.data.toList
    rw [hb] at hlaw
    clear hb
    obtain ⟨n, hn⟩ : ∃ n, nameB digR a0.data.toList = n := ⟨_, rfl⟩
    have hnm : ∀ w, Calls Trym.prog 14 #[.string a0] w fun e w' => e = .returned (.bool n) ∧ ∃ pos, w' = w.iter a0 pos := fun w => hn ▸ zdigits_any a0 w
    rw [hn] at hlaw
    clear hn
    have HA : Hid (∀ w, Calls Trym.prog 10 #[.string a0, .string digA] w fun e w' => e = .returned (.bool b) ∧ w' = w) := hall
    have HN : Hid (∀ w, Calls Trym.prog 14 #[.string a0] w fun e w' => e = .returned (.bool n) ∧ ∃ pos, w' = w.iter a0 pos) := hnm
    clear hall hnm
    by_cases h0 : a0.size = 0
    · have hz : ¬ (0 : Int) < (a0.size : Int) := by omega
      have he : n = false := by rw [hlaw, List.isEmpty_iff.2 (List.eq_nil_of_length_eq_zero (by simpa using h0))]; rfl
      clear hlaw h0
      subst he
      go_enter Trym.func5, Trym.ntmps5
      go_wp2_with (first | (go_at_call 14; refine (HN.out _).mono ?_; rintro e w' ⟨rfl, pos, rfl⟩) | (go_at_call 10; refine (HA.out _).mono ?_; rintro e w' ⟨rfl, rfl⟩) | go_in)
      go_ret
      exact ⟨rfl, grown_iter (Grown.refl _) _ _⟩
    · have hz : (0 : Int) < (a0.size : Int) := by omega
      have he : n = b := by
        rw [hlaw]
        cases hl : a0.data.toList with
        | nil => exact absurd (by simpa using congrArg List.length hl) h0
        | cons x l => simp
      clear hlaw h0
      subst he
      cases n
      all_goals
        go_enter Trym.func5, Trym.ntmps5
        go_wp2_with (first | (go_at_call 14; refine (HN.out _).mono ?_; rintro e w' ⟨rfl, pos, rfl⟩) | (go_at_call 10; refine (HA.out _).mono ?_; rintro e w' ⟨rfl, rfl⟩) | go_in)
        go_ret
        exact ⟨rfl, grown_iter (Grown.refl _) _ _⟩

/-! ### The row's step: the shell's own -/
set_option maxRecDepth 100000 in
theorem lifted (os : Os) (started : os.Started) (H : Type) (enc : TypeId × Value → H) :
    ReturnsInHanded {} Trym.checked os 5 .any (Rows.fnAllDigitsExactlyNonEmptyAsciiDigitsSpec.pre6 enc Trym.prog Trym.f5 Rows.fnAllDigitsExactlyNonEmptyAsciiDigitsRow.domain false) (Rows.fnAllDigitsExactlyNonEmptyAsciiDigitsSpec.post enc Trym.prog Trym.f5 false true false false) := by
  refine returnsInHanded_of_change (C := Trym.checked) own started (by kernel_rfl) Trym.func5
    (ChangeSpec.witness6 (enc := enc) (C := Trym.checked) false ⟨#[], #[.string ByteArray.empty], []⟩ 8 (by kernel_rfl) (by kernel_rfl) (by kernel_rfl) (by kernel_rfl)) ?_
  intro W base args ds gs before hval0 hW hcnd _
  have hval : ∀ (j : Nat) t v, Trym.f5.params[j]? = some t → args[j]? = some v → Value.okWide Trym.prog W .any base t v := hval0
  have hW' := hW
  obtain ⟨p, q, hA0, hV, rfl, hfz, hnd⟩ := hW
  have hA : DataW.TrodAll enc Trym.prog W 0 (fun _ => true) true Trym.f5.params.toList args.toList ds p := hA0
  rw [Trym.params5] at hA hval
  obtain ⟨v0, vs0, d0, ds0, p0, q0, hargs, rfl, rfl, h0, r0⟩ := trodAll_cons hA
  obtain ⟨rfl, rfl, rfl⟩ := trodAll_nil r0
  obtain rfl : args = #[v0] := by cases args; simp_all
  obtain ⟨rfl, rfl⟩ := trodVars_none hV
  obtain ⟨a0, rfl, rfl, rfl, w0⟩ := open_string Trym.underlying9 (hval 0 9 v0 rfl rfl) h0
  clear hA0 hval0
  simp only [List.append_nil] at hW'
  refine (walk a0 w0 W).mono fun e W' ⟨he, hg⟩ => ?_
  subst he
  exact ⟨_, rfl, post_of_same (pa := []) (pv := []) hW' (fun _ _ _ => (trodAll_cons_mk (shut_bool Trym.underlying4 _) trodAll_mk0)) (fun sp _ => (trodAll_cons_mk (shut_string Trym.underlying9 w0) trodAll_mk0)) (fun _ _ => rfl) rfl
    (hg.frame _) hg.2.1 (ok_one (by kernel_rfl) rfl (okWide_bool_mk Trym.underlying4 _))⟩

theorem over : Rows.fnAllDigitsExactlyNonEmptyAsciiDigitsRow.holds Trym.pinned (OpenSpec.ofChange Rows.fnAllDigitsExactlyNonEmptyAsciiDigitsSpec) :=
  OpenClaim.holds_of_wide 5 Trym.f5 rfl rfl rfl rfl rfl rfl rfl ⟨rfl, rfl, rfl, rfl, rfl⟩ rfl rfl rfl rfl rfl (by kernel_rfl) Trym.func5 (by kernel_rfl)
    (of_decide_eq_true (by kernel_rfl)) (by unfold Func.isWrapper; first | (rw [if_pos (by decide +kernel)]; kernel_rfl) | (rw [if_neg (by decide +kernel)]; exact ⟨rfl, rfl⟩))
    (fun os started H enc _ => lifted os started H enc)

/-- The statement. -/
theorem proved : Rows.FnAllDigitsExactlyNonEmptyAsciiDigitsSaid :=
  over
#print axioms proved
end Go.Proofs.Qxb6602405aMods.fnAllDigitsExactlyNonEmptyAsciiDigits
