/-
  What lies in memory (keys, columns), and the contracts of the size checks: addRowSizes, keyFits.
-/
import Derived.Test.Qxb6614843aEnc
namespace Go.Proofs.Qxb6614843a
set_option linter.unusedVariables false
open Go.RowKit

/-- a slice of ints -/
def Keys (w : World) (a : Option Addr) (K : Nat) (ks : Nat → Int) : Prop :=
  0 < K → ∃ b o, a = some ⟨b, o, none⟩ ∧ b < w.heap.size ∧ ∀ j, j < K → w.cell? ⟨b, o + j, none⟩ = some (.int .i64 (ks j))
/-- a slice of bools -/
def Flags (w : World) (a : Option Addr) (M : Nat) (fs : Nat → Bool) : Prop :=
  0 < M → ∃ b o, a = some ⟨b, o, none⟩ ∧ b < w.heap.size ∧ ∀ j, j < M → w.cell? ⟨b, o + j, none⟩ = some (.bool (fs j))
/-- a slice of bytes -/
def Bytes (w : World) (a : Option Addr) (L : Nat) (bs : List Int) : Prop :=
  bs.length = L ∧ (0 < L → ∃ b o, a = some ⟨b, o, none⟩ ∧ b < w.heap.size ∧ ∀ j, j < L → w.cell? ⟨b, o + j, none⟩ = some (.int .u8 (bs.getD j 0)))
/-- a slice of byte slices -/
structure Cols (w : World) (a : Option Addr) (N : Nat) (S : Nat → Option Addr) (L C : Nat → Nat) (B : Nat → List Int) : Prop where
  row : 0 < N → ∃ b o, a = some ⟨b, o, none⟩ ∧ b < w.heap.size ∧ ∀ j, j < N → w.cell? ⟨b, o + j, none⟩ = some (.slice (S j) (L j) (C j))
  each : ∀ j, j < N → Bytes w (S j) (L j) (B j)
  max : ∀ j, j < N → L j ≤ 9223372036854775807
  rng : ∀ j, j < N → ∀ z ∈ B j, 0 ≤ z ∧ z ≤ 255
/-- a sum over the first k -/
def sumN (f : Nat → Nat) : Nat → Nat
  | 0 => 0
  | k + 1 => sumN f k + f k
theorem sumN_le (f : Nat → Nat) : ∀ (n k : Nat), k ≤ n → sumN f k ≤ sumN f n
  | 0, k, h => by obtain rfl : k = 0 := by omega
                  exact Nat.le_refl _
  | n + 1, k, h => by
    by_cases e : k = n + 1
    · subst e; exact Nat.le_refl _
    · exact Nat.le_trans (sumN_le f n k (by omega)) (Nat.le_add_right _ _)

/-- what addRowSizes says -/
def SizesSaid (t : Int) (N : Nat) (L : Nat → Nat) (w : World) (e : Ending) (w' : World) : Prop :=
  ∃ (r : Int) (ok : Bool), e = .returned (.tuple #[.int .i64 r, .bool ok]) ∧ w' = w ∧ 0 ≤ r ∧ r ≤ 4194304 ∧ (ok = true → r = t + 24 * N + sumN L N ∧ r ≤ 1048576)
set_option maxRecDepth 100000 in
set_option maxHeartbeats 400000 in
/-- addRowSizes: where it says yes, the sum is within the bound. -/
theorem sizes_any (t : Int) (a : Option Addr) (N cap : Nat) (S : Nat → Option Addr) (L C : Nat → Nat) (B : Nat → List Int) (w : World) (ht : 0 ≤ t) (ht2 : t ≤ 4194304) (hN : N ≤ 65536) (hc : Cols w a N S L C B) (hL : ∀ j, j < N → L j ≤ 1048576) :
    Calls Try.prog 19 #[.int .i64 t, .slice a N cap] w fun e w' => SizesSaid t N L w e w' := by
  have HC : Hid (Cols w a N S L C B) := hc
  have HLs : Hid (∀ j, j < N → L j ≤ 1048576) := hL
  clear hc hL
  go_enter Try.func19, Try.ntmps19
  go_wp2
  · go_ret2
    exact ⟨0, false, rfl, rfl, by omega, by omega, fun h => by cases h⟩
  · go_ret2
    exact ⟨0, false, rfl, rfl, by omega, by omega, fun h => by cases h⟩
  · have h24 : t + 24 * (N : Int) ≤ 1048576 := by omega
    go_loop [0, 6] (fun s i => ∃ k : Nat, k ≤ N ∧ i = .int .i64 k ∧ s = .int .i64 (t + 24 * (N : Int) + (sumN L k : Nat)) ∧ t + 24 * (N : Int) + (sumN L k : Nat) ≤ 1048576) (fun _ i => N - (intOf i).toNat)
    case atStart => exact ⟨0, Nat.zero_le _, rfl, by simp [sumN], by simp [sumN]; omega⟩
    case round =>
      obtain ⟨k, hk, rfl, rfl, hs⟩ := hrel
      obtain ⟨x, hx⟩ : ∃ x : Int, x = t + 24 * (N : Int) + (sumN L k : Nat) := ⟨_, rfl⟩
      rw [← hx] at hs ⊢
      have hx0 : 0 ≤ x := by omega
      by_cases hlt : k < N
      · obtain ⟨b, o, hA, hbw, cells⟩ := HC.out.row (by omega)
        subst hA
        have kc := cells k hlt
        have hl := HLs.out k hlt
        have hki : (k : Int) < (N : Int) := by omega
        have HX : Hid (x = t + 24 * (N : Int) + (sumN L k : Nat)) := hx
        obtain ⟨l, hle⟩ : ∃ l, l = L k := ⟨_, rfl⟩
        rw [← hle] at kc hl
        have HE : Hid (l = L k) := hle
        clear cells hx hle
        go_wp2
        · go_ret2
          exact ⟨0, false, rfl, rfl, by omega, by omega, fun h => by cases h⟩
        · go_round
          case rel => exact ⟨k + 1, by omega, by go_num, by rw [HX.out, sumN, ← HE.out]; go_num, by have := HX.out; have := HE.out; simp only [sumN]; omega⟩
          case measure => simp [intOf]; omega
      · obtain rfl : k = N := by omega
        have HX : Hid (x = t + 24 * (k : Int) + (sumN L k : Nat)) := hx
        clear hx
        go_wp2
        go_ret2
        exact ⟨x, true, rfl, rfl, hx0, by omega, fun _ => ⟨HX.out, hs⟩⟩

/-- what key j may unfold into, by keyFits's own reckoning -/
def need (L : Nat → Nat) (ks : Nat → Int) (j : Nat) : Nat := 2 * L (ks j).toNat + 9
/-- what keyFits says -/
def FitsSaid (K N : Nat) (ks : Nat → Int) (L : Nat → Nat) (w : World) (e : Ending) (w' : World) : Prop :=
  ∃ ok : Bool, e = .returned (.bool ok) ∧ w' = w ∧ (ok = true → (∀ j, j < K → 0 ≤ ks j ∧ ks j < N) ∧ sumN (need L ks) K ≤ 1048576)
set_option maxRecDepth 100000 in
set_option maxHeartbeats 800000 in
theorem fits_any (ka a : Option Addr) (K kcap N cap : Nat) (ks : Nat → Int) (S : Nat → Option Addr) (L C : Nat → Nat) (B : Nat → List Int) (w : World) (hK : K ≤ 65536) (hN : N ≤ 65536) (hk : Keys w ka K ks) (hc : Cols w a N S L C B) (hL : ∀ j, j < N → L j ≤ 1048576) :
    Calls Try.prog 20 #[.slice ka K kcap, .slice a N cap] w fun e w' => FitsSaid K N ks L w e w' := by
  have HC : Hid (Cols w a N S L C B) := hc
  have HK : Hid (Keys w ka K ks) := hk
  have HLs : Hid (∀ j, j < N → L j ≤ 1048576) := hL
  clear hc hL hk
  go_enter Try.func20, Try.ntmps20
  go_wp2
  go_loop [5] (fun i => ∃ k : Nat, k ≤ K ∧ i = .int .i64 k ∧ ∀ j, j < k → 0 ≤ ks j ∧ ks j < N) (fun i => K - (intOf i).toNat)
  case atStart => exact ⟨0, Nat.zero_le _, rfl, fun j hj => by omega⟩
  case round =>
    obtain ⟨k, hk, rfl, hin⟩ := hrel
    have HI : Hid (∀ j, j < k → 0 ≤ ks j ∧ ks j < N) := hin
    clear hin
    by_cases hlt : k < K
    · obtain ⟨b, o, hA, hbw, cells⟩ := HK.out (by omega)
      subst hA
      have kc := cells k hlt
      have hki : (k : Int) < (K : Int) := by omega
      obtain ⟨q, hq⟩ : ∃ q, q = ks k := ⟨_, rfl⟩
      rw [← hq] at kc
      have HQ : Hid (q = ks k) := hq
      clear cells hq
      by_cases h0 : q < 0
      · have hd : decide (q < 0) = true := decide_eq_true h0
        go_wp2
        go_ret
        exact ⟨false, rfl, rfl, fun h => by cases h⟩
      · have hd : decide (q < 0) = false := decide_eq_false h0
        by_cases h1 : (N : Int) ≤ q
        · have hd1 : decide ((N : Int) ≤ q) = true := decide_eq_true h1
          go_wp2
          go_ret
          exact ⟨false, rfl, rfl, fun h => by cases h⟩
        · have hd1 : decide ((N : Int) ≤ q) = false := decide_eq_false h1
          go_wp2
          go_round
          case rel => exact ⟨k + 1, by omega, by go_num, fun j hj => by
            by_cases e : j = k
            · subst e; rw [← HQ.out]; omega
            · exact HI.out j (by omega)⟩
          case measure => simp [intOf]; omega
    · obtain rfl : k = K := by omega
      clear hlt hk
      go_wp2
      go_loop [6, 7] (fun s i => ∃ m : Nat, m ≤ k ∧ i = .int .i64 m ∧ s = .int .i64 (sumN (need L ks) m : Nat) ∧ ((sumN (need L ks) m : Nat) : Int) ≤ 1048576) (fun _ i => k - (intOf i).toNat)
      case atStart => exact ⟨0, Nat.zero_le _, rfl, rfl, by simp [sumN]⟩
      case round =>
        obtain ⟨m, hm, rfl, rfl, hs⟩ := hrel
        obtain ⟨x, hx⟩ : ∃ x : Int, x = ((sumN (need L ks) m : Nat) : Int) := ⟨_, rfl⟩
        rw [← hx] at hs ⊢
        have hx0 : 0 ≤ x := by omega
        by_cases hlt2 : m < k
        · obtain ⟨b, o, hA, hbw, cells⟩ := HK.out (by omega)
          subst hA
          have kc := cells m hlt2
          have hmi : (m : Int) < (k : Int) := by omega
          have hqr := HI.out m hlt2
          obtain ⟨q, hq⟩ : ∃ q : Nat, (q : Int) = ks m := ⟨(ks m).toNat, by omega⟩
          rw [← hq] at kc hqr
          have hqN : q < N := by omega
          have hqi : (q : Int) < (N : Int) := by omega
          obtain ⟨b2, o2, hA2, hbw2, cells2⟩ := HC.out.row (by omega)
          subst hA2
          have kc2 := cells2 q hqN
          have hl := HLs.out q hqN
          have HX : Hid (x = ((sumN (need L ks) m : Nat) : Int)) := hx
          obtain ⟨l, hle⟩ : ∃ l, l = L q := ⟨_, rfl⟩
          rw [← hle] at kc2 hl
          have HE : Hid (2 * l + 9 = need L ks m) := by show _ = _; unfold need; rw [hle, ← hq]; rfl
          have hlI : (l : Int) ≤ 1048576 := by omega
          clear cells cells2 hx hle hq hqr HK HC HLs hbw hbw2 hl
          go_wp2
          · go_ret
            exact ⟨false, rfl, rfl, fun h => by cases h⟩
          · go_round
            case rel => exact ⟨m + 1, by omega, by go_num, by rw [HX.out]; simp only [sumN]; rw [← HE.out]; go_num, by have := HX.out; have := HE.out; simp only [sumN]; omega⟩
            case measure => simp [intOf]; omega
        · obtain rfl : m = k := by omega
          have HX : Hid (x = ((sumN (need L ks) m : Nat) : Int)) := hx
          clear hx
          go_wp2
          go_ret
          exact ⟨true, rfl, rfl, fun _ => ⟨HI.out, by have := HX.out; omega⟩⟩
end Go.Proofs.Qxb6614843a
