/-
  Seat b6602524aM: the walk of FnValidEntryNameHexDigest.
-/
import Derived.Test.Qxb6602524aModsNames
import Derived.Test.Qxb6602524aModsSlices
import Derived.OpenShut
namespace Go.Proofs.Qxb6602524aMods
open Go.RowKit Plain

theorem bytes13_any (a : Option Addr) (len cap : Nat) (w : World) (h : ¬ 65536 < len) :
    Calls Trym.prog 13 #[.slice a len cap] w fun e w' => e = .returned (.bool true) ∧ w = w' := by
  go_enter Trym.func13, Trym.ntmps13
  go_wp2
  go_ret
  exact ⟨rfl, rfl⟩

theorem hex_big (a : Option Addr) (len cap : Nat) (w : World) (h : 65536 < len) (hm : len ≤ maxLen) :
    Calls Trym.prog 5 #[.slice a len cap] w fun e w' => e = .returned (.bool true) ∧ Below w.heap.size w w' := by
  unfold maxLen at hm
  go_enter Trym.func5, Trym.ntmps5
  go_wp2
  all_goals
    go_ret
    exact ⟨rfl, Below.refl _ _⟩

/-- make([]byte, n): a new row of n zeros. -/
theorem make8 (n : Nat) (c : Int) (hn : c = (n : Int)) (h : n ≤ 131072) (w : World) :
    (Instr.makeSlice 25 (.int .i64 c) (.int .i64 c)).run Trym.prog w = .ok (.slice (some ⟨w.heap.size, 0, none⟩) n n) (w.alloc (.cells (madeCells #[.int .u8 0] n) 5)) := by
  subst hn
  exact run_make_row' 25 5 (.int .u8 0) 1 Trym.underlying25 info5 rfl .i64 .i64 n (by omega) (by omega) w

theorem valid_empty (w : World) : Calls Trym.prog 11 #[.string ⟨#[]⟩] w fun e w' => e = .returned (.bool false) ∧ Below w.heap.size w w' :=
  valid_any ⟨#[]⟩ w (by decide)

set_option maxHeartbeats 1000000 in
theorem hex_nil (w : World) :
    Calls Trym.prog 5 #[.slice none 0 0] w fun e w' => e = .returned (.bool true) ∧ Below w.heap.size w w' := by
  have hmk := fun w => make8 0 0 rfl (by omega) w
  have hback : (convert 25 9 (.slice (some ⟨w.heap.size, 0, none⟩) 0 0)).run Trym.prog (w.alloc (.cells (madeCells #[.int .u8 0] 0) 5)) = _ :=
    run_convert_bytes_back (P := Trym.prog) (w.alloc (.cells (madeCells #[.int .u8 0] 0) 5)) 25 9 5 ⟨w.heap.size, 0, none⟩ 0 [] Trym.underlying25 Trym.underlying5 Trym.underlying9 (fun j hj => by cases hj)
  go_enter Trym.func5, Trym.ntmps5
  go_wp2_with (go_at_call 13; refine (bytes13_any _ _ _ _ (by omega)).mono ?_; rintro e w' ⟨rfl, rfl⟩)
  refine wp_loop_rounds 1 ?_
  rw [rounds_succ]
  go_wp2_with fail
  refine (valid_empty _).mono ?_
  rintro e w1 ⟨rfl, h1⟩
  go_wp2_with fail
  go_ret
  exact ⟨rfl, ((Below.refl _ _).alloc (Nat.le_refl _) _).trans (h1.mono (by simp))⟩

/-- Block h bears the bytes B, none frozen. -/
def Buf (w : World) (h : Nat) (B : List UInt8) : Prop := ∀ j, (hj : j < B.length) → w.cell? ⟨h, j, none⟩ = some (.int .u8 B[j].toNat) ∧ w.frozen? ⟨h, j, none⟩ = false

theorem Buf.store {w : World} {h : Nat} {B : List UInt8} (hb : Buf w h B) (i : Nat) (hi : i < B.length) (c : UInt8) :
    Buf (w.setCell ⟨h, i, none⟩ (.int .u8 c.toNat)) h (B.set i c) := by
  intro j hj
  rw [List.length_set] at hj
  refine ⟨?_, by rw [World.frozen?_setCell]; exact (hb j hj).2⟩
  by_cases e : i = j
  · subst e
    rw [World.cell?_setCell_same _ _ _ (hb i hi).1]
    simp
  · rw [World.cell?_setCell_other _ _ _ _ (fun h => e (congrArg Addr.off h)), (hb j hj).1]
    simp [e]

theorem Row.store {k : IntKind} {w : World} {b h : Nat} {zs : List Int} (hr : Row k w b zs) (hne : h ≠ b) (i : Nat) (v : Value) : Row k (w.setCell ⟨h, i, none⟩ v) b zs :=
  ⟨by simpa [World.setCell] using hr.1, fun j hj => by rw [World.cell?_setCell_other _ _ _ _ (fun e => hne (congrArg Addr.block e))]; exact hr.2 j hj⟩

theorem made_at (v : Value) (n j : Nat) (h : j < n) : (madeCells #[v] n)[j]? = some v := by
  simp [madeCells, h, Nat.mod_one]

/-- The row that make has laid, as bytes. -/
theorem buf_made (W : World) (n : Nat) : Buf (W.alloc (.cells (madeCells #[.int .u8 0] n) 5)) W.heap.size (List.replicate n 0) := by
  intro j hj
  have hj' : j < n := by simpa using hj
  refine ⟨?_, ?_⟩
  · rw [World.cell?_alloc_mark, made_at _ _ _ hj']
    simp
  · rw [World.frozen?_alloc_mark]
    simp

/-- The hexadecimal digits, as the dump has them. -/
def hexA : ByteArray := ⟨#[48, 49, 50, 51, 52, 53, 54, 55, 56, 57, 97, 98, 99, 100, 101, 102]⟩
theorem hex_size : hexA.size = 16 := by decide
theorem hex_ent : ∀ m, (h : m < 16) → entR ((hexA[m]'(by rw [hex_size]; exact h)).toNat : Int) = true := by decide +kernel

/-- The first 2k bytes of B pass the test on a name's byte. -/
def Filled (B : List UInt8) (k : Nat) : Prop := ∀ j, (hj : j < B.length) → j < 2 * k → entR (B[j].toNat : Int) = true
theorem Filled.step {B : List UInt8} {k : Nat} (h : Filled B k) (c d : UInt8) (hc : entR (c.toNat : Int) = true) (hd : entR (d.toNat : Int) = true) :
    Filled ((B.set (2 * k) c).set (2 * k + 1) d) (k + 1) := by
  intro j hj hk
  simp only [List.length_set] at hj
  simp only [List.getElem_set]
  by_cases e1 : 2 * k + 1 = j
  · simp [e1, hd]
  · by_cases e2 : 2 * k = j
    · simp [e2, hc]
    · simp only [e1, e2, if_false]
      exact h j hj (by omega)
theorem filled_valid (B : List UInt8) (len : Nat) (hB : B.length = 2 * len) (h : Filled B len) : validB B = (decide (1 ≤ len) && decide (len ≤ 32)) := by
  have hall : (B.all fun c => entR (c.toNat : Int)) = true := by
    rw [List.all_eq_true]
    intro c hc
    obtain ⟨j, hj, rfl⟩ := List.getElem_of_mem hc
    exact h j hj (by omega)
  unfold validB
  rw [hall, hB]
  rw [show decide (1 ≤ 2 * len) = decide (1 ≤ len) from by simp; omega, show decide (2 * len ≤ 64) = decide (len ≤ 32) from by simp; omega]
  simp

/-- The byte at k, as a natural number. -/
theorem byte_at (zs : List Int) (len k : Nat) (hl : len ≤ zs.length) (hw : ∀ n ∈ zs, 0 ≤ n ∧ n ≤ 255) (hk : k < len) : ∃ n : Nat, n < 256 ∧ (zs.take len).getD k 0 = (n : Int) := by
  have hkz : k < zs.length := by omega
  have e : (zs.take len).getD k 0 = zs[k] := by simp [List.getD, hk, hkz]
  have h := hw zs[k] (List.getElem_mem hkz)
  exact ⟨zs[k].toNat, by omega, by rw [e]; omega⟩

/-- The buffer, filled, read as a string; what ValidEntryName answers on it. -/
theorem back_valid (g len : Nat) (B : List UInt8) (w : World) (hBL : B.length = 2 * len) (hB : Buf w g B) (hF : Filled B len) (hlen : len ≤ 65536) : ∃ (S : ByteArray) (b : Bool),
    (convert 25 9 (.slice (some ⟨g, 0, none⟩) (2 * len) (2 * len))).run Trym.prog w = .ok (.string S) w ∧
    (∀ W', Calls Trym.prog 11 #[.string S] W' fun e w' => e = .returned (.bool b) ∧ Below W'.heap.size W' w') ∧ b = (decide (1 ≤ len) && decide (len ≤ 32)) := by
  refine ⟨⟨B.toArray⟩, validB B, ?_, fun W' => ?_, filled_valid B len hBL hF⟩
  · have := run_convert_bytes_back (P := Trym.prog) w 25 9 5 ⟨g, 0, none⟩ (2 * len) B Trym.underlying25 Trym.underlying5 Trym.underlying9 (fun j hj => by rw [Go.WideShapes.add_plain, Nat.zero_add]; exact (hB j hj).1)
    rw [hBL] at this
    exact this
  · refine valid_any ⟨B.toArray⟩ W' ?_
    show B.toArray.size ≤ maxLen
    unfold maxLen
    rw [List.size_toArray, hBL]
    omega

set_option maxHeartbeats 1000000 in
theorem hex_some (x : Addr) (len cap : Nat) (zs : List Int) (w : World) (hl : len ≤ zs.length) (hbig : ¬ 65536 < len)
    (hc : ∀ k, k < zs.length → w.cell? (x.add k) = some (.int .u8 (zs.getD k 0))) (hw : ∀ n ∈ zs, 0 ≤ n ∧ n ≤ 255) :
    Calls Trym.prog 5 #[.slice (some x) len cap] w fun e w' => e = .returned (.bool true) ∧ Below w.heap.size w w' := by
  obtain ⟨L, W, hmk, hcopy, hrow, hbel⟩ := made_copied 25 5 .u8 1 Trym.underlying25 info5 (by omega) x len cap zs w (by omega) hl hc
  have hmk2 := fun w => make8 (2 * len) (2 * (len : Int)) (by omega) (by omega) w
  have HR : Hid (Row .u8 W w.heap.size (zs.take len)) := hrow
  obtain ⟨Z, hZ⟩ : ∃ Z, madeCells #[Value.int .u8 0] (2 * len) = Z := ⟨_, rfl⟩
  rw [hZ] at hmk2
  have HZ : Hid (madeCells #[Value.int .u8 0] (2 * len) = Z) := hZ
  have HLT : Hid ((zs.take len).length = len) := by show _ = _; simp; omega
  have HBY : Hid (∀ k, k < len → ∃ n : Nat, n < 256 ∧ (zs.take len).getD k 0 = (n : Int)) := fun k hk => byte_at zs len k hl hw hk
  have hWw : w.heap.size < W.heap.size := hrow.1
  clear hrow hc hl hZ hw
  go_enter Trym.func5, Trym.ntmps5
  go_wp2_with (go_at_call 13; refine (bytes13_any _ _ _ _ hbig).mono ?_; rintro e w' ⟨rfl, rfl⟩)
  go_loopw [5] (fun i wr => ∃ k : Nat, k ≤ len ∧ i = .int .i64 k ∧ Row .u8 wr w.heap.size (zs.take len) ∧ Below w.heap.size w wr ∧ ∃ B : List UInt8, B.length = 2 * len ∧ Buf wr W.heap.size B ∧ Filled B k) (fun i _ => len - (intOf i).toNat)
  case atStart =>
    refine ⟨0, Nat.zero_le _, rfl, HR.out.later ((Below.refl _ _).alloc (Nat.le_refl _) _), hbel.alloc (by omega) _, List.replicate (2 * len) 0, by simp, ?_, fun j hj h => by omega⟩
    rw [← HZ.out]
    exact buf_made W (2 * len)
  case round =>
    obtain ⟨k, hk, rfl, hr, hb, B, hBL, hB, hF⟩ := hrel
    by_cases hlt : k < len
    · obtain ⟨n, hn2, hn⟩ := HBY.out k hlt
      have hcell := hr.2 k (by rw [HLT.out]; exact hlt)
      rw [hn] at hcell
      obtain ⟨v0, hx0⟩ : ∃ v, wr.cell? ⟨W.heap.size, 2 * k, none⟩ = some v := ⟨_, (hB (2 * k) (by omega)).1⟩
      obtain ⟨v1, hx1⟩ : ∃ v, wr.cell? ⟨W.heap.size, 2 * k + 1, none⟩ = some v := ⟨_, (hB (2 * k + 1) (by omega)).1⟩
      have hf0 := (hB (2 * k) (by omega)).2
      have hf1 := (hB (2 * k + 1) (by omega)).2
      have hsz := hr.1
      have KR : Hid (Row .u8 wr w.heap.size (zs.take len)) := hr
      have KB : Hid (Below w.heap.size w wr) := hb
      have KU : Hid (Buf wr W.heap.size B) := hB
      have KF : Hid (Filled B k) := hF
      have KL : Hid (B.length = 2 * len) := hBL
      clear hr hb hB hF hBL hbel hcopy hmk hmk2 hn
      go_wp2
      go_roundw
      case rel =>
        have g0 := hex_ent (n / 16) (by omega)
        have g1 := hex_ent (n % 16) (by omega)
        refine ⟨k + 1, by omega, by go_num, (KR.out.store (by omega) _ _).store (by omega) _ _, (KB.out.setCell (by simp; omega) _).setCell (by simp; omega) _, (B.set (2 * k) _).set (2 * k + 1) _, by simp [KL.out], (KU.out.store (2 * k) (by rw [KL.out]; omega) _).store (2 * k + 1) (by rw [List.length_set, KL.out]; omega) _, KF.out.step _ _ g0 g1⟩
      case measure => simp [intOf]; omega
    · obtain rfl : k = len := by omega
      obtain ⟨S, b, hback, hval, hbv⟩ := back_valid W.heap.size k B wr hBL hB hF (by omega)
      have KB : Hid (Below w.heap.size w wr) := hb
      have KV : Hid (∀ W', Calls Trym.prog 11 #[.string S] W' fun e w' => e = .returned (.bool b) ∧ Below W'.heap.size W' w') := hval
      clear hval hb hB hF hr hBL hcopy hmk hmk2 hbel hk hlt
      rcases (show k < 1 ∨ 32 < k ∨ (1 ≤ k ∧ k ≤ 32) from by omega) with h | h | ⟨h, h'⟩
      · obtain rfl : b = false := by rw [hbv]; simp; omega
        clear hbv
        go_wp2_with (go_at_call 11; refine (KV.out _).mono ?_; rintro e w1 ⟨rfl, h1⟩)
        go_ret
        exact ⟨rfl, KB.out.trans (Below.mono (by assumption) KB.out.size)⟩
      · obtain rfl : b = false := by rw [hbv]; simp; omega
        clear hbv
        go_wp2_with (go_at_call 11; refine (KV.out _).mono ?_; rintro e w1 ⟨rfl, h1⟩)
        go_ret
        exact ⟨ret_bool (by simp; omega), KB.out.trans (Below.mono (by assumption) KB.out.size)⟩
      · obtain rfl : b = true := by rw [hbv]; simp; omega
        clear hbv
        go_wp2_with (go_at_call 11; refine (KV.out _).mono ?_; rintro e w1 ⟨rfl, h1⟩)
        go_ret
        exact ⟨ret_bool (by simp; omega), KB.out.trans (Below.mono (by assumption) KB.out.size)⟩

end Go.Proofs.Qxb6602524aMods
