/-
  Contracts of word64 and its export, and what the law 'Word32IsFirstFourBytesAndAgreesWithWord64' asks of the plain words.
-/
import Derived.Test.Qxb6608759aWords
namespace Go.Proofs.Qxb6608759a
open Go.ChangeShapes Go.WideShapes Go.ChangeAt Go.RowKit

theorem w64_or (s : ByteArray) (h : 8 ≤ s.size) :
    bits .or .u64 (bits .or .u64 (bits .or .u64 (bits .or .u64 (bits .or .u64 (bits .or .u64 (bits .or .u64 (IntKind.u64.wrap (s[0].toNat : Int)) (IntKind.u64.wrap (IntKind.u64.wrap (s[1].toNat : Int) * 256))) (IntKind.u64.wrap (IntKind.u64.wrap (s[2].toNat : Int) * 65536))) (IntKind.u64.wrap (IntKind.u64.wrap (s[3].toNat : Int) * 16777216))) (IntKind.u64.wrap (IntKind.u64.wrap (s[4].toNat : Int) * 4294967296))) (IntKind.u64.wrap (IntKind.u64.wrap (s[5].toNat : Int) * 1099511627776))) (IntKind.u64.wrap (IntKind.u64.wrap (s[6].toNat : Int) * 281474976710656))) (IntKind.u64.wrap (IntKind.u64.wrap (s[7].toNat : Int) * 72057594037927936)) = w64 s := by
  have h0 := byt_bd s 0; have h1 := byt_bd s 1; have h2 := byt_bd s 2; have h3 := byt_bd s 3
  have h4 := byt_bd s 4; have h5 := byt_bd s 5; have h6 := byt_bd s 6; have h7 := byt_bd s 7
  rw [byt_at, byt_at, byt_at, byt_at, byt_at, byt_at, byt_at, byt_at]
  simp (disch := omega) only [u64_wrap_id, u64_or8, u64_or16, u64_or24, u64_or32, u64_or40, u64_or48, u64_or56]
  unfold w64
  omega
theorem nib0 (s : ByteArray) (h : 0 < s.size) : (w32 s % 256 != (s[0].toNat : Int)) = false := by
  have h0 := byt_bd s 0; have h1 := byt_bd s 1; have h2 := byt_bd s 2; have h3 := byt_bd s 3
  rw [byt_at]; simp only [bne_eq_false_iff_eq]; unfold w32; omega
theorem nib1 (s : ByteArray) (h : 1 < s.size) : (w32 s / 256 % 256 != (s[1].toNat : Int)) = false := by
  have h0 := byt_bd s 0; have h1 := byt_bd s 1; have h2 := byt_bd s 2; have h3 := byt_bd s 3
  rw [byt_at]; simp only [bne_eq_false_iff_eq]; unfold w32; omega
theorem nib2 (s : ByteArray) (h : 2 < s.size) : (w32 s / 65536 % 256 != (s[2].toNat : Int)) = false := by
  have h0 := byt_bd s 0; have h1 := byt_bd s 1; have h2 := byt_bd s 2; have h3 := byt_bd s 3
  rw [byt_at]; simp only [bne_eq_false_iff_eq]; unfold w32; omega
theorem nib3 (s : ByteArray) (h : 3 < s.size) : (w32 s / 16777216 % 256 != (s[3].toNat : Int)) = false := by
  have h0 := byt_bd s 0; have h1 := byt_bd s 1; have h2 := byt_bd s 2; have h3 := byt_bd s 3
  rw [byt_at]; simp only [bne_eq_false_iff_eq]; unfold w32; omega
theorem half0 (s : ByteArray) : (w64 s % 4294967296 != w32 s) = false := by
  have h0 := byt_bd s 0; have h1 := byt_bd s 1; have h2 := byt_bd s 2; have h3 := byt_bd s 3
  have h4 := byt_bd s 4; have h5 := byt_bd s 5; have h6 := byt_bd s 6; have h7 := byt_bd s 7
  simp only [bne_eq_false_iff_eq]; unfold w64 w32; omega
theorem half1 (s : ByteArray) : (w64 s / 4294967296 % 4294967296 != w32 (s.extract 4 s.size)) = false := by
  have h0 := byt_bd s 0; have h1 := byt_bd s 1; have h2 := byt_bd s 2; have h3 := byt_bd s 3
  have h4 := byt_bd s 4; have h5 := byt_bd s 5; have h6 := byt_bd s 6; have h7 := byt_bd s 7
  simp only [bne_eq_false_iff_eq]; unfold w64 w32; simp only [byt_drop, Nat.reduceAdd]; omega

set_option maxHeartbeats 400000 in
theorem word64_any (s : ByteArray) (h : 8 ≤ s.size) (w : World) :
    Calls Try.prog 10 #[.string s] w fun e w' => e = .returned (.int .u64 (w64 s)) ∧ ∃ n, w' = w.drewN n := by
  have h0 : 0 < s.size := by omega
  have h1 : (1 : Int) < (s.size : Int) := by omega
  have h2 : (2 : Int) < (s.size : Int) := by omega
  have h3 : (3 : Int) < (s.size : Int) := by omega
  have h4 : (4 : Int) < (s.size : Int) := by omega
  have h5 : (5 : Int) < (s.size : Int) := by omega
  have h6 : (6 : Int) < (s.size : Int) := by omega
  have h7 : (7 : Int) < (s.size : Int) := by omega
  go_enter Try.func10, Try.ntmps10
  go_wp2
  go_quiet (fail)
  go_wp2
  go_ret
  refine ⟨?_, _, rfl⟩
  show Ending.returned (.int .u64 _) = _
  rw [w64_or s h]
theorem zz64_any (s : ByteArray) (h : 8 ≤ s.size) (w : World) :
    Calls Try.prog 7 #[.string s] w fun e w' => e = .returned (.int .u64 (w64 s)) ∧ ∃ n, w' = w.drewN n := by
  go_enter Try.func7, Try.ntmps7
  go_wp2_with (go_at_call 10; refine (word64_any _ h _).mono ?_; rintro e w' ⟨rfl, n, rfl⟩)
  go_ret
  exact ⟨rfl, _, rfl⟩
end Go.Proofs.Qxb6608759a
