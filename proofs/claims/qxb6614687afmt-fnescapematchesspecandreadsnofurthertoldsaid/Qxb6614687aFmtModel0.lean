/-
  Contracts of the law's own model: escHexDigit, escSimple, escHex4.
-/
import Derived.Test.Qxb6614687aFmtShape
namespace Go.Proofs.Qxb6614687aFmt
set_option linter.unusedVariables false
open Go.RowKit Go.Extern.Stop Go.Stop Go.Extern
/-- the law's own list of digits -/
def digs : List Int := [48, 49, 50, 51, 52, 53, 54, 55, 56, 57, 97, 98, 99, 100, 101, 102, 65, 66, 67, 68, 69, 70]
theorem hexv_none (c : Int) (h : ∀ j, j < 22 → digs.getD j 0 ≠ c) : hexv c = none := by
  have h0 := h 0 (by omega); have h1 := h 1 (by omega); have h2 := h 2 (by omega); have h3 := h 3 (by omega); have h4 := h 4 (by omega); have h5 := h 5 (by omega)
  have h6 := h 6 (by omega); have h7 := h 7 (by omega); have h8 := h 8 (by omega); have h9 := h 9 (by omega); have h10 := h 10 (by omega); have h11 := h 11 (by omega)
  have h12 := h 12 (by omega); have h13 := h 13 (by omega); have h14 := h 14 (by omega); have h15 := h 15 (by omega); have h16 := h 16 (by omega); have h17 := h 17 (by omega)
  have h18 := h 18 (by omega); have h19 := h 19 (by omega); have h20 := h 20 (by omega); have h21 := h 21 (by omega)
  simp [digs] at h0 h1 h2 h3 h4 h5 h6 h7 h8 h9 h10 h11 h12 h13 h14 h15 h16 h17 h18 h19 h20 h21
  unfold hexv
  rw [if_neg (by omega), if_neg (by omega), if_neg (by omega)]
theorem digs_step {k : Nat} {c d : Int} (hd : digs.getD k 0 = d) (h : ∀ j, j < k → digs.getD j 0 ≠ c) (hc : d ≠ c) : ∀ j, j < k + 1 → digs.getD j 0 ≠ c := by
  intro j hj
  by_cases e : j = k
  · subst e; rw [hd]; exact hc
  · exact h j (by omega)
theorem hexv_ret {c v : Int} (h : hexv c = some v) : Ending.returned (.tuple #[.int .i32 v, .bool true]) = .returned (.tuple #[.int .i32 ((hexv c).getD 0), .bool (hexv c).isSome]) := by rw [h]; rfl
theorem hexv_ret0 {c : Int} (h : hexv c = none) : Ending.returned (.tuple #[.int .i32 0, .bool false]) = .returned (.tuple #[.int .i32 ((hexv c).getD 0), .bool (hexv c).isSome]) := by rw [h]; rfl
set_option maxHeartbeats 1600000 in
theorem digit_any (c : Int) (w : World) :
    Calls Tryf.prog 23 #[.int .u8 c] w fun e w' => e = .returned (.tuple #[.int .i32 ((hexv c).getD 0), .bool (hexv c).isSome]) ∧ w' = w := by
  go_enter Tryf.func23, Tryf.ntmps23
  go_wp2
  go_loop [5] (fun i => ∃ k : Nat, k ≤ 22 ∧ i = .int .i64 k ∧ ∀ j, j < k → digs.getD j 0 ≠ c) (fun i => 22 - (intOf i).toNat)
  case atStart => exact ⟨0, by omega, rfl, fun j hj => by omega⟩
  case round =>
    obtain ⟨k, hk, rfl, hno⟩ := hrel
    have HN : Hid (∀ j, j < k → digs.getD j 0 ≠ c) := hno
    clear hno
    have hkk : k = 0 ∨ k = 1 ∨ k = 2 ∨ k = 3 ∨ k = 4 ∨ k = 5 ∨ k = 6 ∨ k = 7 ∨ k = 8 ∨ k = 9 ∨ k = 10 ∨ k = 11 ∨ k = 12 ∨ k = 13 ∨ k = 14 ∨ k = 15 ∨ k = 16 ∨ k = 17 ∨ k = 18 ∨ k = 19 ∨ k = 20 ∨ k = 21 ∨ k = 22 := by omega
    rcases hkk with rfl | rfl | rfl | rfl | rfl | rfl | rfl | rfl | rfl | rfl | rfl | rfl | rfl | rfl | rfl | rfl | rfl | rfl | rfl | rfl | rfl | rfl | rfl
    · have e0 : (((⟨#[48, 49, 50, 51, 52, 53, 54, 55, 56, 57, 97, 98, 99, 100, 101, 102, 65, 66, 67, 68, 69, 70]⟩ : ByteArray)[0]).toNat : Int) = 48 := rfl
      go_wp2
      · have h : ((48 : Int) == c) = true := by assumption
        have hc : (48 : Int) = c := by simpa using h
        go_ret2
        exact ⟨hexv_ret (v := 0) (by rw [← hc]; decide), rfl⟩
      · have h : ((48 : Int) == c) = false := by assumption
        go_round
        case rel => exact ⟨1, by omega, by go_num, digs_step (k := 0) (d := 48) rfl HN.out (by simpa using h)⟩
        case measure => simp [intOf]
    · have e0 : (((⟨#[48, 49, 50, 51, 52, 53, 54, 55, 56, 57, 97, 98, 99, 100, 101, 102, 65, 66, 67, 68, 69, 70]⟩ : ByteArray)[1]).toNat : Int) = 49 := rfl
      go_wp2
      · have h : ((49 : Int) == c) = true := by assumption
        have hc : (49 : Int) = c := by simpa using h
        go_ret2
        exact ⟨hexv_ret (v := 1) (by rw [← hc]; decide), rfl⟩
      · have h : ((49 : Int) == c) = false := by assumption
        go_round
        case rel => exact ⟨2, by omega, by go_num, digs_step (k := 1) (d := 49) rfl HN.out (by simpa using h)⟩
        case measure => simp [intOf]
    · have e0 : (((⟨#[48, 49, 50, 51, 52, 53, 54, 55, 56, 57, 97, 98, 99, 100, 101, 102, 65, 66, 67, 68, 69, 70]⟩ : ByteArray)[2]).toNat : Int) = 50 := rfl
      go_wp2
      · have h : ((50 : Int) == c) = true := by assumption
        have hc : (50 : Int) = c := by simpa using h
        go_ret2
        exact ⟨hexv_ret (v := 2) (by rw [← hc]; decide), rfl⟩
      · have h : ((50 : Int) == c) = false := by assumption
        go_round
        case rel => exact ⟨3, by omega, by go_num, digs_step (k := 2) (d := 50) rfl HN.out (by simpa using h)⟩
        case measure => simp [intOf]
    · have e0 : (((⟨#[48, 49, 50, 51, 52, 53, 54, 55, 56, 57, 97, 98, 99, 100, 101, 102, 65, 66, 67, 68, 69, 70]⟩ : ByteArray)[3]).toNat : Int) = 51 := rfl
      go_wp2
      · have h : ((51 : Int) == c) = true := by assumption
        have hc : (51 : Int) = c := by simpa using h
        go_ret2
        exact ⟨hexv_ret (v := 3) (by rw [← hc]; decide), rfl⟩
      · have h : ((51 : Int) == c) = false := by assumption
        go_round
        case rel => exact ⟨4, by omega, by go_num, digs_step (k := 3) (d := 51) rfl HN.out (by simpa using h)⟩
        case measure => simp [intOf]
    · have e0 : (((⟨#[48, 49, 50, 51, 52, 53, 54, 55, 56, 57, 97, 98, 99, 100, 101, 102, 65, 66, 67, 68, 69, 70]⟩ : ByteArray)[4]).toNat : Int) = 52 := rfl
      go_wp2
      · have h : ((52 : Int) == c) = true := by assumption
        have hc : (52 : Int) = c := by simpa using h
        go_ret2
        exact ⟨hexv_ret (v := 4) (by rw [← hc]; decide), rfl⟩
      · have h : ((52 : Int) == c) = false := by assumption
        go_round
        case rel => exact ⟨5, by omega, by go_num, digs_step (k := 4) (d := 52) rfl HN.out (by simpa using h)⟩
        case measure => simp [intOf]
    · have e0 : (((⟨#[48, 49, 50, 51, 52, 53, 54, 55, 56, 57, 97, 98, 99, 100, 101, 102, 65, 66, 67, 68, 69, 70]⟩ : ByteArray)[5]).toNat : Int) = 53 := rfl
      go_wp2
      · have h : ((53 : Int) == c) = true := by assumption
        have hc : (53 : Int) = c := by simpa using h
        go_ret2
        exact ⟨hexv_ret (v := 5) (by rw [← hc]; decide), rfl⟩
      · have h : ((53 : Int) == c) = false := by assumption
        go_round
        case rel => exact ⟨6, by omega, by go_num, digs_step (k := 5) (d := 53) rfl HN.out (by simpa using h)⟩
        case measure => simp [intOf]
    · have e0 : (((⟨#[48, 49, 50, 51, 52, 53, 54, 55, 56, 57, 97, 98, 99, 100, 101, 102, 65, 66, 67, 68, 69, 70]⟩ : ByteArray)[6]).toNat : Int) = 54 := rfl
      go_wp2
      · have h : ((54 : Int) == c) = true := by assumption
        have hc : (54 : Int) = c := by simpa using h
        go_ret2
        exact ⟨hexv_ret (v := 6) (by rw [← hc]; decide), rfl⟩
      · have h : ((54 : Int) == c) = false := by assumption
        go_round
        case rel => exact ⟨7, by omega, by go_num, digs_step (k := 6) (d := 54) rfl HN.out (by simpa using h)⟩
        case measure => simp [intOf]
    · have e0 : (((⟨#[48, 49, 50, 51, 52, 53, 54, 55, 56, 57, 97, 98, 99, 100, 101, 102, 65, 66, 67, 68, 69, 70]⟩ : ByteArray)[7]).toNat : Int) = 55 := rfl
      go_wp2
      · have h : ((55 : Int) == c) = true := by assumption
        have hc : (55 : Int) = c := by simpa using h
        go_ret2
        exact ⟨hexv_ret (v := 7) (by rw [← hc]; decide), rfl⟩
      · have h : ((55 : Int) == c) = false := by assumption
        go_round
        case rel => exact ⟨8, by omega, by go_num, digs_step (k := 7) (d := 55) rfl HN.out (by simpa using h)⟩
        case measure => simp [intOf]
    · have e0 : (((⟨#[48, 49, 50, 51, 52, 53, 54, 55, 56, 57, 97, 98, 99, 100, 101, 102, 65, 66, 67, 68, 69, 70]⟩ : ByteArray)[8]).toNat : Int) = 56 := rfl
      go_wp2
      · have h : ((56 : Int) == c) = true := by assumption
        have hc : (56 : Int) = c := by simpa using h
        go_ret2
        exact ⟨hexv_ret (v := 8) (by rw [← hc]; decide), rfl⟩
      · have h : ((56 : Int) == c) = false := by assumption
        go_round
        case rel => exact ⟨9, by omega, by go_num, digs_step (k := 8) (d := 56) rfl HN.out (by simpa using h)⟩
        case measure => simp [intOf]
    · have e0 : (((⟨#[48, 49, 50, 51, 52, 53, 54, 55, 56, 57, 97, 98, 99, 100, 101, 102, 65, 66, 67, 68, 69, 70]⟩ : ByteArray)[9]).toNat : Int) = 57 := rfl
      go_wp2
      · have h : ((57 : Int) == c) = true := by assumption
        have hc : (57 : Int) = c := by simpa using h
        go_ret2
        exact ⟨hexv_ret (v := 9) (by rw [← hc]; decide), rfl⟩
      · have h : ((57 : Int) == c) = false := by assumption
        go_round
        case rel => exact ⟨10, by omega, by go_num, digs_step (k := 9) (d := 57) rfl HN.out (by simpa using h)⟩
        case measure => simp [intOf]
    · have e0 : (((⟨#[48, 49, 50, 51, 52, 53, 54, 55, 56, 57, 97, 98, 99, 100, 101, 102, 65, 66, 67, 68, 69, 70]⟩ : ByteArray)[10]).toNat : Int) = 97 := rfl
      go_wp2
      · have h : ((97 : Int) == c) = true := by assumption
        have hc : (97 : Int) = c := by simpa using h
        go_ret2
        exact ⟨hexv_ret (v := 10) (by rw [← hc]; decide), rfl⟩
      · have h : ((97 : Int) == c) = false := by assumption
        go_round
        case rel => exact ⟨11, by omega, by go_num, digs_step (k := 10) (d := 97) rfl HN.out (by simpa using h)⟩
        case measure => simp [intOf]
    · have e0 : (((⟨#[48, 49, 50, 51, 52, 53, 54, 55, 56, 57, 97, 98, 99, 100, 101, 102, 65, 66, 67, 68, 69, 70]⟩ : ByteArray)[11]).toNat : Int) = 98 := rfl
      go_wp2
      · have h : ((98 : Int) == c) = true := by assumption
        have hc : (98 : Int) = c := by simpa using h
        go_ret2
        exact ⟨hexv_ret (v := 11) (by rw [← hc]; decide), rfl⟩
      · have h : ((98 : Int) == c) = false := by assumption
        go_round
        case rel => exact ⟨12, by omega, by go_num, digs_step (k := 11) (d := 98) rfl HN.out (by simpa using h)⟩
        case measure => simp [intOf]
    · have e0 : (((⟨#[48, 49, 50, 51, 52, 53, 54, 55, 56, 57, 97, 98, 99, 100, 101, 102, 65, 66, 67, 68, 69, 70]⟩ : ByteArray)[12]).toNat : Int) = 99 := rfl
      go_wp2
      · have h : ((99 : Int) == c) = true := by assumption
        have hc : (99 : Int) = c := by simpa using h
        go_ret2
        exact ⟨hexv_ret (v := 12) (by rw [← hc]; decide), rfl⟩
      · have h : ((99 : Int) == c) = false := by assumption
        go_round
        case rel => exact ⟨13, by omega, by go_num, digs_step (k := 12) (d := 99) rfl HN.out (by simpa using h)⟩
        case measure => simp [intOf]
    · have e0 : (((⟨#[48, 49, 50, 51, 52, 53, 54, 55, 56, 57, 97, 98, 99, 100, 101, 102, 65, 66, 67, 68, 69, 70]⟩ : ByteArray)[13]).toNat : Int) = 100 := rfl
      go_wp2
      · have h : ((100 : Int) == c) = true := by assumption
        have hc : (100 : Int) = c := by simpa using h
        go_ret2
        exact ⟨hexv_ret (v := 13) (by rw [← hc]; decide), rfl⟩
      · have h : ((100 : Int) == c) = false := by assumption
        go_round
        case rel => exact ⟨14, by omega, by go_num, digs_step (k := 13) (d := 100) rfl HN.out (by simpa using h)⟩
        case measure => simp [intOf]
    · have e0 : (((⟨#[48, 49, 50, 51, 52, 53, 54, 55, 56, 57, 97, 98, 99, 100, 101, 102, 65, 66, 67, 68, 69, 70]⟩ : ByteArray)[14]).toNat : Int) = 101 := rfl
      go_wp2
      · have h : ((101 : Int) == c) = true := by assumption
        have hc : (101 : Int) = c := by simpa using h
        go_ret2
        exact ⟨hexv_ret (v := 14) (by rw [← hc]; decide), rfl⟩
      · have h : ((101 : Int) == c) = false := by assumption
        go_round
        case rel => exact ⟨15, by omega, by go_num, digs_step (k := 14) (d := 101) rfl HN.out (by simpa using h)⟩
        case measure => simp [intOf]
    · have e0 : (((⟨#[48, 49, 50, 51, 52, 53, 54, 55, 56, 57, 97, 98, 99, 100, 101, 102, 65, 66, 67, 68, 69, 70]⟩ : ByteArray)[15]).toNat : Int) = 102 := rfl
      go_wp2
      · have h : ((102 : Int) == c) = true := by assumption
        have hc : (102 : Int) = c := by simpa using h
        go_ret2
        exact ⟨hexv_ret (v := 15) (by rw [← hc]; decide), rfl⟩
      · have h : ((102 : Int) == c) = false := by assumption
        go_round
        case rel => exact ⟨16, by omega, by go_num, digs_step (k := 15) (d := 102) rfl HN.out (by simpa using h)⟩
        case measure => simp [intOf]
    · have e0 : (((⟨#[48, 49, 50, 51, 52, 53, 54, 55, 56, 57, 97, 98, 99, 100, 101, 102, 65, 66, 67, 68, 69, 70]⟩ : ByteArray)[16]).toNat : Int) = 65 := rfl
      go_wp2
      · have h : ((65 : Int) == c) = true := by assumption
        have hc : (65 : Int) = c := by simpa using h
        go_ret2
        exact ⟨hexv_ret (v := 10) (by rw [← hc]; decide), rfl⟩
      · have h : ((65 : Int) == c) = false := by assumption
        go_round
        case rel => exact ⟨17, by omega, by go_num, digs_step (k := 16) (d := 65) rfl HN.out (by simpa using h)⟩
        case measure => simp [intOf]
    · have e0 : (((⟨#[48, 49, 50, 51, 52, 53, 54, 55, 56, 57, 97, 98, 99, 100, 101, 102, 65, 66, 67, 68, 69, 70]⟩ : ByteArray)[17]).toNat : Int) = 66 := rfl
      go_wp2
      · have h : ((66 : Int) == c) = true := by assumption
        have hc : (66 : Int) = c := by simpa using h
        go_ret2
        exact ⟨hexv_ret (v := 11) (by rw [← hc]; decide), rfl⟩
      · have h : ((66 : Int) == c) = false := by assumption
        go_round
        case rel => exact ⟨18, by omega, by go_num, digs_step (k := 17) (d := 66) rfl HN.out (by simpa using h)⟩
        case measure => simp [intOf]
    · have e0 : (((⟨#[48, 49, 50, 51, 52, 53, 54, 55, 56, 57, 97, 98, 99, 100, 101, 102, 65, 66, 67, 68, 69, 70]⟩ : ByteArray)[18]).toNat : Int) = 67 := rfl
      go_wp2
      · have h : ((67 : Int) == c) = true := by assumption
        have hc : (67 : Int) = c := by simpa using h
        go_ret2
        exact ⟨hexv_ret (v := 12) (by rw [← hc]; decide), rfl⟩
      · have h : ((67 : Int) == c) = false := by assumption
        go_round
        case rel => exact ⟨19, by omega, by go_num, digs_step (k := 18) (d := 67) rfl HN.out (by simpa using h)⟩
        case measure => simp [intOf]
    · have e0 : (((⟨#[48, 49, 50, 51, 52, 53, 54, 55, 56, 57, 97, 98, 99, 100, 101, 102, 65, 66, 67, 68, 69, 70]⟩ : ByteArray)[19]).toNat : Int) = 68 := rfl
      go_wp2
      · have h : ((68 : Int) == c) = true := by assumption
        have hc : (68 : Int) = c := by simpa using h
        go_ret2
        exact ⟨hexv_ret (v := 13) (by rw [← hc]; decide), rfl⟩
      · have h : ((68 : Int) == c) = false := by assumption
        go_round
        case rel => exact ⟨20, by omega, by go_num, digs_step (k := 19) (d := 68) rfl HN.out (by simpa using h)⟩
        case measure => simp [intOf]
    · have e0 : (((⟨#[48, 49, 50, 51, 52, 53, 54, 55, 56, 57, 97, 98, 99, 100, 101, 102, 65, 66, 67, 68, 69, 70]⟩ : ByteArray)[20]).toNat : Int) = 69 := rfl
      go_wp2
      · have h : ((69 : Int) == c) = true := by assumption
        have hc : (69 : Int) = c := by simpa using h
        go_ret2
        exact ⟨hexv_ret (v := 14) (by rw [← hc]; decide), rfl⟩
      · have h : ((69 : Int) == c) = false := by assumption
        go_round
        case rel => exact ⟨21, by omega, by go_num, digs_step (k := 20) (d := 69) rfl HN.out (by simpa using h)⟩
        case measure => simp [intOf]
    · have e0 : (((⟨#[48, 49, 50, 51, 52, 53, 54, 55, 56, 57, 97, 98, 99, 100, 101, 102, 65, 66, 67, 68, 69, 70]⟩ : ByteArray)[21]).toNat : Int) = 70 := rfl
      go_wp2
      · have h : ((70 : Int) == c) = true := by assumption
        have hc : (70 : Int) = c := by simpa using h
        go_ret2
        exact ⟨hexv_ret (v := 15) (by rw [← hc]; decide), rfl⟩
      · have h : ((70 : Int) == c) = false := by assumption
        go_round
        case rel => exact ⟨22, by omega, by go_num, digs_step (k := 21) (d := 70) rfl HN.out (by simpa using h)⟩
        case measure => simp [intOf]
    · go_wp2
      go_ret2
      exact ⟨hexv_ret0 (hexv_none c HN.out), rfl⟩
/-- the law's own list of one-letter escapes -/
def froms : List Int := [34, 92, 47, 98, 102, 110, 114, 116]
theorem simpleV_none (c : Int) (h : ∀ j, j < 8 → froms.getD j 0 ≠ c) : simpleV c = none := by
  have h0 := h 0 (by omega); have h1 := h 1 (by omega); have h2 := h 2 (by omega); have h3 := h 3 (by omega); have h4 := h 4 (by omega); have h5 := h 5 (by omega)
  have h6 := h 6 (by omega); have h7 := h 7 (by omega)
  simp [froms] at h0 h1 h2 h3 h4 h5 h6 h7
  unfold simpleV
  rw [if_neg (by omega), if_neg (by omega), if_neg (by omega), if_neg (by omega), if_neg (by omega), if_neg (by omega)]
theorem froms_step {k : Nat} {c d : Int} (hd : froms.getD k 0 = d) (h : ∀ j, j < k → froms.getD j 0 ≠ c) (hc : d ≠ c) : ∀ j, j < k + 1 → froms.getD j 0 ≠ c := by
  intro j hj
  by_cases e : j = k
  · subst e; rw [hd]; exact hc
  · exact h j (by omega)
theorem simpleV_ret {c v : Int} (h : simpleV c = some v) : Ending.returned (.tuple #[.int .i32 v, .bool true]) = .returned (.tuple #[.int .i32 ((simpleV c).getD 0), .bool (simpleV c).isSome]) := by rw [h]; rfl
theorem simpleV_ret0 {c : Int} (h : simpleV c = none) : Ending.returned (.tuple #[.int .i32 0, .bool false]) = .returned (.tuple #[.int .i32 ((simpleV c).getD 0), .bool (simpleV c).isSome]) := by rw [h]; rfl
set_option maxHeartbeats 1600000 in
theorem simple_any (c : Int) (w : World) :
    Calls Tryf.prog 15 #[.int .u8 c] w fun e w' => e = .returned (.tuple #[.int .i32 ((simpleV c).getD 0), .bool (simpleV c).isSome]) ∧ Below w.heap.size w w' := by
  go_enter Tryf.func15, Tryf.ntmps15
  go_wp2
  go_loop [6] (fun i => ∃ k : Nat, k ≤ 8 ∧ i = .int .i64 k ∧ ∀ j, j < k → froms.getD j 0 ≠ c) (fun i => 8 - (intOf i).toNat)
  case atStart => exact ⟨0, by omega, rfl, fun j hj => by omega⟩
  case round =>
    obtain ⟨k, hk, rfl, hno⟩ := hrel
    have HN : Hid (∀ j, j < k → froms.getD j 0 ≠ c) := hno
    clear hno
    have hkk : k = 0 ∨ k = 1 ∨ k = 2 ∨ k = 3 ∨ k = 4 ∨ k = 5 ∨ k = 6 ∨ k = 7 ∨ k = 8 := by omega
    rcases hkk with rfl | rfl | rfl | rfl | rfl | rfl | rfl | rfl | rfl
    · go_wp2
      · have h : ((34 : Int) == c) = true := by assumption
        have hc : (34 : Int) = c := by simpa using h
        go_ret2
        exact ⟨simpleV_ret (v := 34) (by rw [← hc]; decide), ((Below.refl _ _).alloc (Nat.le_refl _) _).alloc (by simp) _⟩
      · have h : ((34 : Int) == c) = false := by assumption
        go_round
        case rel => exact ⟨1, by omega, by go_num, froms_step (k := 0) (d := 34) rfl HN.out (by simpa using h)⟩
        case measure => simp [intOf]
    · go_wp2
      · have h : ((92 : Int) == c) = true := by assumption
        have hc : (92 : Int) = c := by simpa using h
        go_ret2
        exact ⟨simpleV_ret (v := 92) (by rw [← hc]; decide), ((Below.refl _ _).alloc (Nat.le_refl _) _).alloc (by simp) _⟩
      · have h : ((92 : Int) == c) = false := by assumption
        go_round
        case rel => exact ⟨2, by omega, by go_num, froms_step (k := 1) (d := 92) rfl HN.out (by simpa using h)⟩
        case measure => simp [intOf]
    · go_wp2
      · have h : ((47 : Int) == c) = true := by assumption
        have hc : (47 : Int) = c := by simpa using h
        go_ret2
        exact ⟨simpleV_ret (v := 47) (by rw [← hc]; decide), ((Below.refl _ _).alloc (Nat.le_refl _) _).alloc (by simp) _⟩
      · have h : ((47 : Int) == c) = false := by assumption
        go_round
        case rel => exact ⟨3, by omega, by go_num, froms_step (k := 2) (d := 47) rfl HN.out (by simpa using h)⟩
        case measure => simp [intOf]
    · go_wp2
      · have h : ((98 : Int) == c) = true := by assumption
        have hc : (98 : Int) = c := by simpa using h
        go_ret2
        exact ⟨simpleV_ret (v := 8) (by rw [← hc]; decide), ((Below.refl _ _).alloc (Nat.le_refl _) _).alloc (by simp) _⟩
      · have h : ((98 : Int) == c) = false := by assumption
        go_round
        case rel => exact ⟨4, by omega, by go_num, froms_step (k := 3) (d := 98) rfl HN.out (by simpa using h)⟩
        case measure => simp [intOf]
    · go_wp2
      · have h : ((102 : Int) == c) = true := by assumption
        have hc : (102 : Int) = c := by simpa using h
        go_ret2
        exact ⟨simpleV_ret (v := 12) (by rw [← hc]; decide), ((Below.refl _ _).alloc (Nat.le_refl _) _).alloc (by simp) _⟩
      · have h : ((102 : Int) == c) = false := by assumption
        go_round
        case rel => exact ⟨5, by omega, by go_num, froms_step (k := 4) (d := 102) rfl HN.out (by simpa using h)⟩
        case measure => simp [intOf]
    · go_wp2
      · have h : ((110 : Int) == c) = true := by assumption
        have hc : (110 : Int) = c := by simpa using h
        go_ret2
        exact ⟨simpleV_ret (v := 10) (by rw [← hc]; decide), ((Below.refl _ _).alloc (Nat.le_refl _) _).alloc (by simp) _⟩
      · have h : ((110 : Int) == c) = false := by assumption
        go_round
        case rel => exact ⟨6, by omega, by go_num, froms_step (k := 5) (d := 110) rfl HN.out (by simpa using h)⟩
        case measure => simp [intOf]
    · go_wp2
      · have h : ((114 : Int) == c) = true := by assumption
        have hc : (114 : Int) = c := by simpa using h
        go_ret2
        exact ⟨simpleV_ret (v := 13) (by rw [← hc]; decide), ((Below.refl _ _).alloc (Nat.le_refl _) _).alloc (by simp) _⟩
      · have h : ((114 : Int) == c) = false := by assumption
        go_round
        case rel => exact ⟨7, by omega, by go_num, froms_step (k := 6) (d := 114) rfl HN.out (by simpa using h)⟩
        case measure => simp [intOf]
    · go_wp2
      · have h : ((116 : Int) == c) = true := by assumption
        have hc : (116 : Int) = c := by simpa using h
        go_ret2
        exact ⟨simpleV_ret (v := 9) (by rw [← hc]; decide), ((Below.refl _ _).alloc (Nat.le_refl _) _).alloc (by simp) _⟩
      · have h : ((116 : Int) == c) = false := by assumption
        go_round
        case rel => exact ⟨8, by omega, by go_num, froms_step (k := 7) (d := 116) rfl HN.out (by simpa using h)⟩
        case measure => simp [intOf]
    · go_wp2
      go_ret2
      exact ⟨simpleV_ret0 (simpleV_none c HN.out), ((Below.refl _ _).alloc (Nat.le_refl _) _).alloc (by simp) _⟩
theorem mhex_hit (l : List Int) (k : Nat) (v d : Int) (hk : k < l.length) (hv : hexAcc (l.take k) = some v) (hd : hexv (l.getD k 0) = some d) : hexAcc (l.take (k + 1)) = some (v * 16 + d) := by
  rw [take_snoc l k hk, hexAcc_snoc, hv, hd]
  rfl
set_option maxHeartbeats 800000 in
theorem mhex4_long (b o n cap p : Nat) (pv : Int) (hpv : pv = (p : Int)) (zs : List Int) (w : World) (hn : n ≤ 1048576) (hlen : zs.length = n) (hp : p + 4 ≤ n) (cells : ∀ j, j < n → w.cell? ⟨b, o + j, none⟩ = some (.int .u8 (zs.getD j 0))) :
    Calls Tryf.prog 16 #[.slice (some ⟨b, o, none⟩) n cap, .int .i64 pv] w fun e w' => e = .returned (.tuple #[.int .i32 ((hex4L (zs.drop p)).getD 0), .bool (hex4L (zs.drop p)).isSome]) ∧ w' = w := by
  subst hpv
  have h0 : decide ((p : Int) < 0) = false := decide_eq_false (by omega)
  have h4 : ¬ (n : Int) - 4 < (p : Int) := by omega
  have hl : (zs.drop p).length = n - p := by simp [hlen]
  have HC : Hid (∀ j, j < n → w.cell? ⟨b, o + j, none⟩ = some (.int .u8 (zs.getD j 0))) := cells
  clear cells
  go_enter Tryf.func16, Tryf.ntmps16
  go_wp2
  go_loop [7, 6] (fun i u => ∃ (k : Nat) (v : Int), k ≤ 4 ∧ i = .int .i64 k ∧ u = .int .i32 v ∧ hexAcc ((zs.drop p).take k) = some v) (fun i _ => 4 - (intOf i).toNat)
  case atStart => exact ⟨0, 0, by omega, rfl, rfl, rfl⟩
  case round =>
    obtain ⟨k, v, hk, rfl, rfl, hv⟩ := hrel
    by_cases hlt : k < 4
    · have hcell := HC.out (p + k) (by omega)
      have hvb := hexAcc_bd k ((zs.drop p).take k) (by simp; omega) v hv
      have hvc : 0 ≤ v ∧ v < 4096 := by
        have hkk : k = 0 ∨ k = 1 ∨ k = 2 ∨ k = 3 := by omega
        rcases hkk with rfl | rfl | rfl | rfl <;> simp at hvb <;> omega
      clear hvb
      have HV : Hid (hexAcc ((zs.drop p).take k) = some v) := hv
      have HL : Hid ((zs.drop p).length = n - p) := hl
      clear hv hl hlen
      obtain ⟨c, hcc⟩ : ∃ c, c = zs.getD (p + k) 0 := ⟨_, rfl⟩
      rw [← hcc] at hcell
      have HE : Hid (c = (zs.drop p).getD k 0) := by show c = _; rw [getD_drop]; exact hcc
      clear hcc
      have hpk : (p : Int) + (k : Int) < (n : Int) := by omega
      cases hd : hexv c with
      | none =>
        have HD : Hid (hexv c = none) := hd
        clear hd
        go_wp2_with fail
        refine (digit_any c _).mono ?_
        rw [HD.out]
        rintro e w1 ⟨rfl, rfl⟩
        go_wp2
        go_ret2
        exact ⟨ret_none (hex_miss _ k v (by rw [HL.out]; omega) hlt HV.out (by rw [← HE.out]; exact HD.out)), rfl⟩
      | some d =>
        have hdb := hexv_bd hd
        have HD : Hid (hexv c = some d) := hd
        clear hd
        go_wp2_with fail
        refine (digit_any c _).mono ?_
        rw [HD.out]
        rintro e w1 ⟨rfl, rfl⟩
        go_wp2
        go_round
        case rel => exact ⟨k + 1, _, by omega, by go_num, rfl, mhex_hit _ k v d (by rw [HL.out]; omega) HV.out (by rw [← HE.out]; exact HD.out)⟩
        case measure => simp [intOf]; omega
    · obtain rfl : k = 4 := by omega
      have HV : Hid (hexAcc ((zs.drop p).take 4) = some v) := hv
      have HL : Hid ((zs.drop p).length = n - p) := hl
      clear hv hl
      go_wp2
      go_ret2
      exact ⟨ret_some (by unfold hex4L; rw [if_neg (by rw [HL.out]; omega)]; exact HV.out), rfl⟩
set_option maxHeartbeats 400000 in
theorem mhex4_short (a : Option Addr) (n cap p : Nat) (pv : Int) (hpv : pv = (p : Int)) (w : World) (hn : n ≤ 1048576) (hp : n < p + 4) :
    Calls Tryf.prog 16 #[.slice a n cap, .int .i64 pv] w fun e w' => e = .returned (.tuple #[.int .i32 0, .bool false]) ∧ w' = w := by
  subst hpv
  have h0 : decide ((p : Int) < 0) = false := decide_eq_false (by omega)
  have h4 : (n : Int) - 4 < (p : Int) := by omega
  go_enter Tryf.func16, Tryf.ntmps16
  go_wp2
  go_ret2
  exact ⟨rfl, rfl⟩
/-- the model's hex4, whatever the place -/
theorem mhex4_any (b o n cap p : Nat) (pv : Int) (hpv : pv = (p : Int)) (zs : List Int) (w : World) (hn : n ≤ 1048576) (hlen : zs.length = n) (cells : ∀ j, j < n → w.cell? ⟨b, o + j, none⟩ = some (.int .u8 (zs.getD j 0))) :
    Calls Tryf.prog 16 #[.slice (some ⟨b, o, none⟩) n cap, .int .i64 pv] w fun e w' => e = .returned (.tuple #[.int .i32 ((hex4L (zs.drop p)).getD 0), .bool (hex4L (zs.drop p)).isSome]) ∧ w' = w := by
  by_cases hp : p + 4 ≤ n
  · exact mhex4_long b o n cap p pv hpv zs w hn hlen hp cells
  · refine (mhex4_short _ n cap p pv hpv w hn (by omega)).mono fun e w' h => ⟨?_, h.2⟩
    rw [h.1]
    exact ret_none (by unfold hex4L; rw [if_pos (by simp; omega)])
end Go.Proofs.Qxb6614687aFmt
