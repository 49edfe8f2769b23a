/-
  Seat b6602405aM: the plain mathematics of the name tests: lists of bytes, no Go in sight.
-/
import Derived.KernelRfl
namespace Go.Proofs.Qxb6602405aMods
namespace Plain

/-- 'c' is one of the bytes of 'alpha'. -/
def inB (alpha : List UInt8) (c : UInt8) : Bool := alpha.any (· == c)
/-- Every byte of 's' is one of 'alpha''s. -/
def allInB (s alpha : List UInt8) : Bool := s.all (inB alpha)
/-- No byte of 's' is one of 'set''s. -/
def noneOfB (s set : List UInt8) : Bool := s.all fun c => !inB set c

/-- The three tests on a rune, as Go's text has them. -/
def digR (r : Int) : Bool := decide (48 ≤ r ∧ r ≤ 57)
def clsR (r : Int) : Bool := decide ((65 ≤ r ∧ r ≤ 90) ∨ (97 ≤ r ∧ r ≤ 122) ∨ (48 ≤ r ∧ r ≤ 57))
def limR (r : Int) : Bool := decide ((65 ≤ r ∧ r ≤ 90) ∨ (97 ≤ r ∧ r ≤ 122) ∨ (48 ≤ r ∧ r ≤ 57) ∨ r = 95 ∨ r = 45 ∨ r = 46)

/-- A name: not empty, and every byte passes. -/
def nameB (t : Int → Bool) (s : List UInt8) : Bool := !s.isEmpty && s.all fun c => t (c.toNat : Int)

theorem inB_take_succ (l : List UInt8) (k : Nat) (h : k < l.length) (c : UInt8) : inB (l.take (k + 1)) c = (inB (l.take k) c || l[k] == c) := by
  unfold inB
  rw [List.take_succ_eq_append_getElem h, List.any_append]
  simp
theorem inB_hit (l : List UInt8) (k : Nat) (h : k < l.length) (c : UInt8) (e : l[k] = c) : inB l c = true := by
  unfold inB
  rw [List.any_eq_true]
  exact ⟨l[k], List.getElem_mem h, by simp [e]⟩
theorem all_take_succ (t : UInt8 → Bool) (l : List UInt8) (k : Nat) (h : k < l.length) : (l.take (k + 1)).all t = ((l.take k).all t && t l[k]) := by
  rw [List.take_succ_eq_append_getElem h, List.all_append]
  simp
theorem all_miss (t : UInt8 → Bool) (l : List UInt8) (k : Nat) (h : k < l.length) (e : t l[k] = false) : l.all t = false := by
  rw [List.all_eq_false]
  exact ⟨l[k], List.getElem_mem h, by simp [e]⟩

/-- The alphabets, as the dump has them. -/
def digA : ByteArray := ⟨#[48, 49, 50, 51, 52, 53, 54, 55, 56, 57]⟩
def letA : ByteArray := ⟨#[65, 66, 67, 68, 69, 70, 71, 72, 73, 74, 75, 76, 77, 78, 79, 80, 81, 82, 83, 84, 85, 86, 87, 88, 89, 90, 97, 98, 99, 100, 101, 102, 103, 104, 105, 106, 107, 108, 109, 110, 111, 112, 113, 114, 115, 116, 117, 118, 119, 120, 121, 122]⟩
def punA : ByteArray := ⟨#[95, 45, 46]⟩
def clsA : ByteArray := ⟨#[65, 66, 67, 68, 69, 70, 71, 72, 73, 74, 75, 76, 77, 78, 79, 80, 81, 82, 83, 84, 85, 86, 87, 88, 89, 90, 97, 98, 99, 100, 101, 102, 103, 104, 105, 106, 107, 108, 109, 110, 111, 112, 113, 114, 115, 116, 117, 118, 119, 120, 121, 122, 48, 49, 50, 51, 52, 53, 54, 55, 56, 57]⟩
def limA : ByteArray := ⟨#[65, 66, 67, 68, 69, 70, 71, 72, 73, 74, 75, 76, 77, 78, 79, 80, 81, 82, 83, 84, 85, 86, 87, 88, 89, 90, 97, 98, 99, 100, 101, 102, 103, 104, 105, 106, 107, 108, 109, 110, 111, 112, 113, 114, 115, 116, 117, 118, 119, 120, 121, 122, 48, 49, 50, 51, 52, 53, 54, 55, 56, 57, 95, 45, 46]⟩

theorem of_all (f : UInt8 → Bool) (h : ∀ n, n < 256 → f (UInt8.ofNat n) = true) (c : UInt8) : f c = true := by
  have := h c.toNat c.toNat_lt
  rwa [UInt8.ofNat_toNat] at this
theorem dig_byte (c : UInt8) : (digR (c.toNat : Int) == inB digA.data.toList c) = true := of_all (fun c => digR (c.toNat : Int) == inB digA.data.toList c) (by decide +kernel) c
theorem cls_byte (c : UInt8) : (clsR (c.toNat : Int) == inB clsA.data.toList c) = true := of_all (fun c => clsR (c.toNat : Int) == inB clsA.data.toList c) (by decide +kernel) c
theorem lim_byte (c : UInt8) : (limR (c.toNat : Int) == inB limA.data.toList c) = true := of_all (fun c => limR (c.toNat : Int) == inB limA.data.toList c) (by decide +kernel) c
theorem cls_lim_byte (c : UInt8) : (clsR (c.toNat : Int) == (limR (c.toNat : Int) && !inB punA.data.toList c)) = true := of_all (fun c => clsR (c.toNat : Int) == (limR (c.toNat : Int) && !inB punA.data.toList c)) (by decide +kernel) c
theorem dig_cls_byte (c : UInt8) : (digR (c.toNat : Int) == (clsR (c.toNat : Int) && !inB letA.data.toList c)) = true := of_all (fun c => digR (c.toNat : Int) == (clsR (c.toNat : Int) && !inB letA.data.toList c)) (by decide +kernel) c

theorem all_and (f g : UInt8 → Bool) : ∀ l : List UInt8, l.all (fun c => f c && g c) = (l.all f && l.all g)
  | [] => rfl
  | c :: l => by
    simp only [List.all_cons, all_and f g l]
    cases f c <;> cases g c <;> simp

theorem name_law (t : Int → Bool) (alpha : List UInt8) (h : ∀ c : UInt8, (t (c.toNat : Int) == inB alpha c) = true) (l : List UInt8) : nameB t l = (!l.isEmpty && allInB l alpha) := by
  unfold nameB allInB
  rw [show (fun c : UInt8 => t (c.toNat : Int)) = inB alpha from funext fun c => by simpa using h c]
theorem nest_law (t u : Int → Bool) (set : List UInt8) (h : ∀ c : UInt8, (t (c.toNat : Int) == (u (c.toNat : Int) && !inB set c)) = true) (l : List UInt8) : nameB t l = (nameB u l && noneOfB l set) := by
  unfold nameB noneOfB
  rw [show (fun c : UInt8 => t (c.toNat : Int)) = (fun c => u (c.toNat : Int) && !inB set c) from funext fun c => by simpa using h c, all_and, Bool.and_assoc]

theorem digits_law (l : List UInt8) : nameB digR l = (!l.isEmpty && allInB l digA.data.toList) := name_law _ _ dig_byte l
theorem class_law (l : List UInt8) : nameB clsR l = (!l.isEmpty && allInB l clsA.data.toList) := name_law _ _ cls_byte l
theorem limit_law (l : List UInt8) : nameB limR l = (!l.isEmpty && allInB l limA.data.toList) := name_law _ _ lim_byte l
theorem class_of_limit (l : List UInt8) : nameB clsR l = (nameB limR l && noneOfB l punA.data.toList) := nest_law _ _ _ cls_lim_byte l
theorem digits_of_class (l : List UInt8) : nameB digR l = (nameB clsR l && noneOfB l letA.data.toList) := nest_law _ _ _ dig_cls_byte l

end Plain
end Go.Proofs.Qxb6602405aMods
