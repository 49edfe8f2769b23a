/-
  Seat b6602524aM: the plain mathematics: entry names, hexadecimal digits, series. No Go in sight.
-/
import Derived.KernelRfl
namespace Go.Proofs.Qxb6602524aMods
namespace Plain

/-- The test on one byte, as Go's text has it. -/
def entR (r : Int) : Bool := decide ((48 ≤ r ∧ r ≤ 57) ∨ (97 ≤ r ∧ r ≤ 122))
/-- A valid entry name: 1 to 64 bytes, each passes. -/
def validB (l : List UInt8) : Bool := decide (1 ≤ l.length) && decide (l.length ≤ 64) && l.all fun c => entR (c.toNat : Int)
/-- 'c' is one of the bytes of 'alpha'. -/
def inB (alpha : List UInt8) (c : UInt8) : Bool := alpha.any (· == c)
/-- How many bytes pass. -/
def cntB (t : UInt8 → Bool) (l : List UInt8) : Nat := (l.filter t).length

theorem inB_take_succ (l : List UInt8) (k : Nat) (h : k < l.length) (c : UInt8) : inB (l.take (k + 1)) c = (inB (l.take k) c || l[k] == c) := by
  unfold inB
  rw [List.take_succ_eq_append_getElem h, List.any_append]
  simp
theorem inB_hit (l : List UInt8) (k : Nat) (h : k < l.length) (c : UInt8) (e : l[k] = c) : inB l c = true := by
  unfold inB
  rw [List.any_eq_true]
  exact ⟨l[k], List.getElem_mem h, by simp [e]⟩
theorem all_take_succ (t : UInt8 → Bool) (l : List UInt8) (k : Nat) (h : k < l.length) : (l.take (k + 1)).all t = ((l.take k).all t && t l[k]) := by
  rw [List.take_succ_eq_append_getElem h, List.all_append]
  simp
theorem all_miss (t : UInt8 → Bool) (l : List UInt8) (k : Nat) (h : k < l.length) (e : t l[k] = false) : l.all t = false := by
  rw [List.all_eq_false]
  exact ⟨l[k], List.getElem_mem h, by simp [e]⟩
theorem cnt_take_succ (t : UInt8 → Bool) (l : List UInt8) (k : Nat) (h : k < l.length) : cntB t (l.take (k + 1)) = cntB t (l.take k) + if t l[k] then 1 else 0 := by
  unfold cntB
  rw [List.take_succ_eq_append_getElem h, List.filter_append, List.length_append]
  cases ht : t l[k] <;> simp [ht]
theorem cnt_le (t : UInt8 → Bool) (l : List UInt8) : cntB t l ≤ l.length := List.length_filter_le _ _
theorem cnt_all (t : UInt8 → Bool) : ∀ l : List UInt8, decide (cntB t l = l.length) = l.all t
  | [] => rfl
  | c :: l => by
    have ih := cnt_all t l
    have hl := cnt_le t l
    unfold cntB at ih hl ⊢
    cases h : t c
    · simp only [List.filter_cons, h, List.length_cons, List.all_cons, Bool.false_and]
      simp; omega
    · simp only [List.filter_cons, h, List.length_cons, List.all_cons, Bool.true_and, if_true]
      rw [← ih]; simp

/-- The alphabet of entry names, as the dump has it. -/
def entA : ByteArray := ⟨#[48, 49, 50, 51, 52, 53, 54, 55, 56, 57, 97, 98, 99, 100, 101, 102, 103, 104, 105, 106, 107, 108, 109, 110, 111, 112, 113, 114, 115, 116, 117, 118, 119, 120, 121, 122]⟩
theorem of_all (f : UInt8 → Bool) (h : ∀ n, n < 256 → f (UInt8.ofNat n) = true) (c : UInt8) : f c = true := by
  have := h c.toNat c.toNat_lt
  rwa [UInt8.ofNat_toNat] at this
theorem ent_byte (c : UInt8) : entR (c.toNat : Int) = inB entA.data.toList c := by
  have := of_all (fun c => entR (c.toNat : Int) == inB entA.data.toList c) (by decide +kernel) c
  simpa using this

/-- The law on names: valid, exactly when 1 to 64 bytes, all counted in the alphabet. -/
theorem valid_law (l : List UInt8) : validB l = (decide (1 ≤ l.length) && decide (l.length ≤ 64) && decide (cntB (inB entA.data.toList) l = l.length)) := by
  unfold validB
  rw [cnt_all, show (fun c : UInt8 => entR (c.toNat : Int)) = inB entA.data.toList from funext ent_byte]

/-- The series: how many starts are at most x. -/
def serC (l : List Int) (x : Int) : Nat := (l.filter fun z => decide (z ≤ x)).length
theorem ser_le (l : List Int) (x : Int) : serC l x ≤ l.length := List.length_filter_le _ _
theorem ser_take_succ (l : List Int) (k : Nat) (x : Int) (h : k < l.length) : serC (l.take (k + 1)) x = serC (l.take k) x + if l.getD k 0 ≤ x then 1 else 0 := by
  unfold serC
  rw [List.take_succ_eq_append_getElem h, List.filter_append, List.length_append]
  have e : l.getD k 0 = l[k] := by simp [List.getD, h]
  rw [e]
  by_cases ht : l[k] ≤ x <;> simp [ht]
theorem ser_mono (l : List Int) (x y : Int) (h : x ≤ y) : serC l x ≤ serC l y := by
  unfold serC
  induction l with
  | nil => simp
  | cons z l ih =>
    simp only [List.filter_cons]
    by_cases h1 : z ≤ x
    · have h2 : z ≤ y := by omega
      simp [h1, h2, ih]
    · by_cases h2 : z ≤ y
      · simp [h1, h2]; omega
      · simp [h1, h2, ih]
theorem ser_top (l : List Int) (x : Int) (h : ∀ z ∈ l, z ≤ x) : serC l x = l.length := by
  unfold serC
  rw [List.filter_eq_self.2 (fun z hz => by simpa using h z hz)]

end Plain
end Go.Proofs.Qxb6602524aMods
