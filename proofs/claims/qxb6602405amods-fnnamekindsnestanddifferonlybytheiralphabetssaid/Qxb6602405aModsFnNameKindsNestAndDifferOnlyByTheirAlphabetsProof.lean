/-
  Seat b6602405aM: the proof of Rows.FnNameKindsNestAndDifferOnlyByTheirAlphabetsSaid. The frame is the kit shell for this law; the walk is ours.
-/
import Derived.Test.Qxb6602405aModsRows
import Derived.Test.Qxb6602405aModsShims
import Derived.WalkKit
import Derived.ProofKit
import Derived.OpenShut
import Derived.ShutString
namespace Go.Proofs.Qxb6602405aMods.fnNameKindsNestAndDifferOnlyByTheirAlphabets
open Go.ChangeShapes Go.WideShapes Go.ChangeAt Go.RowKit
open Go.ChangeMaps (open_string shut_string)
open Plain
set_option linter.unusedVariables false      -- a walk need not use every 'w<i>' (that an integer argument fits its kind)

theorem own : ownKnob Trym.prog.godebug = none := by kernel_rfl

/-! ### The walk -/
theorem bytes_any (s : ByteArray) (w : World) (h : ¬ 1048576 < s.size) :
    Calls Trym.prog 15 #[.string s] w fun e w' => e = .returned (.bool true) ∧ w' = w := by
  go_enter Trym.func15, Trym.ntmps15
  go_wp2
  go_ret
  exact ⟨rfl, rfl⟩

/-- The five answers, and how they hang together. -/
theorem answers (l : List UInt8) : ∃ d c m p q : Bool, nameB digR l = d ∧ nameB clsR l = c ∧ nameB limR l = m ∧ noneOfB l punA.data.toList = p ∧ noneOfB l letA.data.toList = q ∧
    ((m = false ∧ c = false ∧ d = false) ∨ (m = true ∧ p = false ∧ c = false ∧ d = false) ∨ (m = true ∧ p = true ∧ c = true ∧ q = d)) := by
  refine ⟨_, _, _, _, _, rfl, rfl, rfl, rfl, rfl, ?_⟩
  have h1 := class_of_limit l
  have h2 := digits_of_class l
  revert h1 h2
  generalize nameB digR l = d
  generalize nameB clsR l = c
  generalize nameB limR l = m
  generalize noneOfB l punA.data.toList = p
  generalize noneOfB l letA.data.toList = q
  revert d c m p q
  decide

set_option maxHeartbeats 1000000 in
theorem walk (a0 : ByteArray) (w0 : a0.size ≤ maxLen) (w : World) :
    Calls Trym.prog 6 #[.string a0] w fun e w' => e = .returned (.bool true) ∧ Grown w w' := by
  by_cases hbig : 1048576 < a0.size
  · go_enter Trym.func6, Trym.ntmps6
    go_wp2
    go_ret
    exact ⟨rfl, Grown.refl _⟩
  obtain ⟨d, c, m, p, q, hd, hc, hm, hp, hq, hall⟩ := answers a0.data.toList
  have HD : Hid (∀ w, Calls Trym.prog 14 #[.string a0] w fun e w' => e = .returned (.bool d) ∧ ∃ pos, w' = w.iter a0 pos) := fun w => hd ▸ zdigits_any a0 w
  have HC : Hid (∀ w, Calls Trym.prog 9 #[.string a0] w fun e w' => e = .returned (.bool c) ∧ ∃ pos, w' = w.iter a0 pos) := fun w => hc ▸ zclass_any a0 w
  have HM : Hid (∀ w, Calls Trym.prog 12 #[.string a0] w fun e w' => e = .returned (.bool m) ∧ ∃ pos, w' = w.iter a0 pos) := fun w => hm ▸ zlimit_any a0 w
  have HP : Hid (∀ w, Calls Trym.prog 16 #[.string a0, .string punA] w fun e w' => e = .returned (.bool p) ∧ w' = w) := fun w => hp ▸ noneOf_any a0 punA w w0 size_pun
  have HQ : Hid (∀ w, Calls Trym.prog 16 #[.string a0, .string letA] w fun e w' => e = .returned (.bool q) ∧ w' = w) := fun w => hq ▸ noneOf_any a0 letA w w0 size_let
  clear hd hc hm hp hq
  rcases hall with ⟨rfl, rfl, rfl⟩ | ⟨rfl, rfl, rfl, rfl⟩ | ⟨rfl, rfl, rfl, rfl⟩
  · go_enter Trym.func6, Trym.ntmps6
    go_wp2_with (first | (go_at_call 15; refine (bytes_any a0 _ hbig).mono ?_; rintro e w' ⟨rfl, rfl⟩) | (go_at_call 14; refine (HD.out _).mono ?_; rintro e w' ⟨rfl, p1, rfl⟩) | (go_at_call 9; refine (HC.out _).mono ?_; rintro e w' ⟨rfl, p2, rfl⟩) | (go_at_call 12; refine (HM.out _).mono ?_; rintro e w' ⟨rfl, p3, rfl⟩))
    go_ret
    exact ⟨rfl, grown_iter (grown_iter (grown_iter (Grown.refl _) _ _) _ _) _ _⟩
  · go_enter Trym.func6, Trym.ntmps6
    go_wp2_with (first | (go_at_call 15; refine (bytes_any a0 _ hbig).mono ?_; rintro e w' ⟨rfl, rfl⟩) | (go_at_call 14; refine (HD.out _).mono ?_; rintro e w' ⟨rfl, p1, rfl⟩) | (go_at_call 9; refine (HC.out _).mono ?_; rintro e w' ⟨rfl, p2, rfl⟩) | (go_at_call 12; refine (HM.out _).mono ?_; rintro e w' ⟨rfl, p3, rfl⟩))
    refine (HP.out _).mono ?_
    rintro e w' ⟨rfl, rfl⟩
    go_wp2_with fail
    go_ret
    exact ⟨rfl, grown_iter (grown_iter (grown_iter (Grown.refl _) _ _) _ _) _ _⟩
  · cases q
    all_goals
      go_enter Trym.func6, Trym.ntmps6
      go_wp2_with (first | (go_at_call 15; refine (bytes_any a0 _ hbig).mono ?_; rintro e w' ⟨rfl, rfl⟩) | (go_at_call 14; refine (HD.out _).mono ?_; rintro e w' ⟨rfl, p1, rfl⟩) | (go_at_call 9; refine (HC.out _).mono ?_; rintro e w' ⟨rfl, p2, rfl⟩) | (go_at_call 12; refine (HM.out _).mono ?_; rintro e w' ⟨rfl, p3, rfl⟩))
      refine (HP.out _).mono ?_
      rintro e w' ⟨rfl, rfl⟩
      go_wp2_with fail
      refine (HQ.out _).mono ?_
      rintro e w' ⟨rfl, rfl⟩
      go_wp2_with fail
      go_ret
      exact ⟨rfl, grown_iter (grown_iter (grown_iter (Grown.refl _) _ _) _ _) _ _⟩

/-! ### The row's step: the shell's own -/
set_option maxRecDepth 100000 in
theorem lifted (os : Os) (started : os.Started) (H : Type) (enc : TypeId × Value → H) :
    ReturnsInHanded {} Trym.checked os 6 .any (Rows.fnNameKindsNestAndDifferOnlyByTheirAlphabetsSpec.pre6 enc Trym.prog Trym.f6 Rows.fnNameKindsNestAndDifferOnlyByTheirAlphabetsRow.domain false) (Rows.fnNameKindsNestAndDifferOnlyByTheirAlphabetsSpec.post enc Trym.prog Trym.f6 false true false false) := by
  refine returnsInHanded_of_change (C := Trym.checked) own started (by kernel_rfl) Trym.func6
    (ChangeSpec.witness6 (enc := enc) (C := Trym.checked) false ⟨#[], #[.string ByteArray.empty], []⟩ 8 (by kernel_rfl) (by kernel_rfl) (by kernel_rfl) (by kernel_rfl)) ?_
  intro W base args ds gs before hval0 hW hcnd _
  have hval : ∀ (j : Nat) t v, Trym.f6.params[j]? = some t → args[j]? = some v → Value.okWide Trym.prog W .any base t v := hval0
  have hW' := hW
  obtain ⟨p, q, hA0, hV, rfl, hfz, hnd⟩ := hW
  have hA : DataW.TrodAll enc Trym.prog W 0 (fun _ => true) true Trym.f6.params.toList args.toList ds p := hA0
  rw [Trym.params6] at hA hval
  obtain ⟨v0, vs0, d0, ds0, p0, q0, hargs, rfl, rfl, h0, r0⟩ := trodAll_cons hA
  obtain ⟨rfl, rfl, rfl⟩ := trodAll_nil r0
  obtain rfl : args = #[v0] := by cases args; simp_all
  obtain ⟨rfl, rfl⟩ := trodVars_none hV
  obtain ⟨a0, rfl, rfl, rfl, w0⟩ := open_string Trym.underlying9 (hval 0 9 v0 rfl rfl) h0
  clear hA0 hval0
  simp only [List.append_nil] at hW'
  refine (walk a0 w0 W).mono fun e W' ⟨he, hg⟩ => ?_
  subst he
  exact ⟨_, rfl, post_of_same (pa := []) (pv := []) hW' (fun _ _ _ => (trodAll_cons_mk (shut_bool Trym.underlying4 _) trodAll_mk0)) (fun sp _ => (trodAll_cons_mk (shut_string Trym.underlying9 w0) trodAll_mk0)) (fun _ _ => rfl) rfl
    (hg.frame _) hg.2.1 (ok_one (by kernel_rfl) rfl (okWide_bool_mk Trym.underlying4 _))⟩

theorem over : Rows.fnNameKindsNestAndDifferOnlyByTheirAlphabetsRow.holds Trym.pinned (OpenSpec.ofChange Rows.fnNameKindsNestAndDifferOnlyByTheirAlphabetsSpec) :=
  OpenClaim.holds_of_wide 6 Trym.f6 rfl rfl rfl rfl rfl rfl rfl ⟨rfl, rfl, rfl, rfl, rfl⟩ rfl rfl rfl rfl rfl (by kernel_rfl) Trym.func6 (by kernel_rfl)
    (of_decide_eq_true (by kernel_rfl)) (by unfold Func.isWrapper; first | (rw [if_pos (by decide +kernel)]; kernel_rfl) | (rw [if_neg (by decide +kernel)]; exact ⟨rfl, rfl⟩))
    (fun os started H enc _ => lifted os started H enc)

/-- The statement. -/
theorem proved : Rows.FnNameKindsNestAndDifferOnlyByTheirAlphabetsSaid :=
  over
#print axioms proved
end Go.Proofs.Qxb6602405aMods.fnNameKindsNestAndDifferOnlyByTheirAlphabets
