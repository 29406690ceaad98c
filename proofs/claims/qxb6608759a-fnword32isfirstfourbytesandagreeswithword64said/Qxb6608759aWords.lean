/-
  Contracts of word32, word64 (internal/csvtable) and of their exports, and the plain arithmetic on the words. No Go in the plain part.
-/
import Derived.Test.Qxb6608759aRows
import Derived.WalkKit
import Derived.ProofKit
import Derived.WalkSpells
import Derived.Deep.QuietTactic
import Derived.BigQuiet
import Derived.Lib.EndianBits
import Derived.Laws.BitsAllLaws
import Derived.Lib.Strings
namespace Go.Proofs.Qxb6608759a
open Go.ChangeShapes Go.WideShapes Go.ChangeAt Go.RowKit

/-! ### the plain words -/
/-- byte i of s, as a number; 0 behind the end -/
def byt (s : ByteArray) (i : Nat) : Int := ((s.data.toList.getD i 0).toNat : Int)
/-- the first four bytes as one number, the first byte lowest -/
def w32 (s : ByteArray) : Int := byt s 0 + 256 * byt s 1 + 65536 * byt s 2 + 16777216 * byt s 3
/-- the first eight bytes as one number, the first byte lowest -/
def w64 (s : ByteArray) : Int := byt s 0 + 256 * byt s 1 + 65536 * byt s 2 + 16777216 * byt s 3 + 4294967296 * byt s 4 + 1099511627776 * byt s 5 + 281474976710656 * byt s 6 + 72057594037927936 * byt s 7

theorem byt_at (s : ByteArray) (i : Nat) (h : i < s.size) : ((s[i].toNat : Nat) : Int) = byt s i := by
  have h' : i < s.data.toList.length := by simpa using h
  unfold byt
  rw [List.getD_eq_getElem?_getD, List.getElem?_eq_getElem h']; rfl
theorem byt_bd (s : ByteArray) (i : Nat) : 0 ≤ byt s i ∧ byt s i < 256 := by
  have := (s.data.toList.getD i 0).toNat_lt
  unfold byt; omega
theorem byt_drop (s : ByteArray) (k i : Nat) : byt (s.extract k s.size) i = byt s (k + i) := by
  unfold byt
  rw [Lib.extract_data, List.getD_eq_getElem?_getD, List.getD_eq_getElem?_getD, List.getElem?_take, List.getElem?_drop]
  by_cases h : i < s.size - k
  · rw [if_pos h]
  · rw [if_neg h, List.getElem?_eq_none (by simp; omega)]
theorem byt_take (s : ByteArray) (k i : Nat) (h : i < k) : byt (s.extract 0 k) i = byt s i := by
  unfold byt
  rw [Lib.extract_data, List.getD_eq_getElem?_getD, List.getD_eq_getElem?_getD, List.getElem?_take, List.getElem?_drop, if_pos (by omega), Nat.zero_add]
theorem w32_bd (s : ByteArray) : 0 ≤ w32 s ∧ w32 s < 4294967296 := by
  have h0 := byt_bd s 0; have h1 := byt_bd s 1; have h2 := byt_bd s 2; have h3 := byt_bd s 3
  unfold w32; omega

theorem w32_or (s : ByteArray) (h : 4 ≤ s.size) :
    bits .or .u32 (bits .or .u32 (bits .or .u32 ((s[0].toNat : Int) % 4294967296) ((s[1].toNat : Int) % 4294967296 * 256 % 4294967296)) ((s[2].toNat : Int) % 4294967296 * 65536 % 4294967296)) ((s[3].toNat : Int) % 4294967296 * 16777216 % 4294967296) = w32 s := by
  have h0 := byt_bd s 0; have h1 := byt_bd s 1; have h2 := byt_bd s 2; have h3 := byt_bd s 3
  rw [byt_at, byt_at, byt_at, byt_at]
  simp (disch := omega) only [u32_or8, u32_or16, u32_or24]
  unfold w32
  omega

/-! ### what the laws ask of the words -/
theorem slide (s : ByteArray) (h : 5 ≤ s.size) :
    (w32 (s.extract 1 s.size) != bits .or .u32 (w32 s / 256) ((s[4].toNat : Int) % 4294967296 * 16777216 % 4294967296)) = false := by
  have h0 := byt_bd s 0; have h1 := byt_bd s 1; have h2 := byt_bd s 2; have h3 := byt_bd s 3; have h4 := byt_bd s 4
  have e : w32 (s.extract 1 s.size) = byt s 1 + 256 * byt s 2 + 65536 * byt s 3 + 16777216 * byt s 4 := by
    unfold w32; simp only [byt_drop]
  have e2 : w32 s / 256 = byt s 1 + 256 * byt s 2 + 65536 * byt s 3 := by unfold w32; omega
  rw [byt_at, e, e2, u32_or24 (y := byt s 1 + 256 * byt s 2 + 65536 * byt s 3) (x := byt s 4 % 4294967296 * 16777216 % 4294967296) (by omega) (by omega) (by omega) (by omega) (by omega)]
  simp only [bne_eq_false_iff_eq]
  omega
theorem firstFour (s : ByteArray) : (w32 (s.extract 0 4) != w32 s) = false := by
  simp only [bne_eq_false_iff_eq]
  unfold w32
  rw [byt_take _ _ _ (by omega), byt_take _ _ _ (by omega), byt_take _ _ _ (by omega), byt_take _ _ _ (by omega)]
theorem low (s : ByteArray) (h : 0 < s.size) : (bits .and .u32 (w32 s) 255 == (s[0].toNat : Int) % 4294967296) = true := by
  have hb := w32_bd s
  have h0 := byt_bd s 0
  rw [byt_at, u32_and _ _ hb.1 hb.2 (by omega) (by omega)]
  have e : (w32 s).toNat &&& (255 : Int).toNat = (w32 s).toNat % 256 := Nat.and_two_pow_sub_one_eq_mod _ 8
  rw [e]
  simp only [beq_iff_eq]
  unfold w32 at hb ⊢
  omega

/-! ### the contracts -/
set_option maxHeartbeats 400000 in
theorem word32_any (s : ByteArray) (h : 4 ≤ s.size) (w : World) :
    Calls Try.prog 9 #[.string s] w fun e w' => e = .returned (.int .u32 (w32 s)) ∧ ∃ n, w' = w.drewN n := by
  have h0 : 0 < s.size := by omega
  have h1 : (1 : Int) < (s.size : Int) := by omega
  have h2 : (2 : Int) < (s.size : Int) := by omega
  have h3 : (3 : Int) < (s.size : Int) := by omega
  go_enter Try.func9, Try.ntmps9
  go_wp2
  go_quiet (fail)
  go_wp2
  go_ret
  refine ⟨?_, _, rfl⟩
  show Ending.returned (.int .u32 _) = _
  rw [w32_or s h]
set_option maxHeartbeats 400000 in
theorem zz32_any (s : ByteArray) (h : 4 ≤ s.size) (w : World) :
    Calls Try.prog 6 #[.string s] w fun e w' => e = .returned (.int .u32 (w32 s)) ∧ ∃ n, w' = w.drewN n := by
  go_enter Try.func6, Try.ntmps6
  go_wp2_with (go_at_call 9; refine (word32_any _ h _).mono ?_; rintro e w' ⟨rfl, n, rfl⟩)
  go_ret
  exact ⟨rfl, _, rfl⟩
theorem grown_drewN {w w' : World} (h : Grown w w') (n : Nat) : Grown w (w'.drewN n) := h
end Go.Proofs.Qxb6608759a
