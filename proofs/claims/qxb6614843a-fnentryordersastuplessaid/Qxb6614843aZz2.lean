/-
  The contract of the second law’s own length check (zzBytes over two rows).
-/
import Derived.Test.Qxb6614843aCmp
namespace Go.Proofs.Qxb6614843a
set_option linter.unusedVariables false
open Go.RowKit
/-- what the check says of keys and two rows of columns -/
def Zz2Said (K N1 N2 : Nat) (L1 L2 : Nat → Nat) (w : World) (e : Ending) (w' : World) : Prop :=
  ∃ ok : Bool, e = .returned (.bool ok) ∧ w' = w ∧ (ok = true → (∀ j, j < N1 → L1 j ≤ 1048576) ∧ ∀ j, j < N2 → L2 j ≤ 1048576)
theorem zz2_no {K N1 N2 : Nat} {L1 L2 : Nat → Nat} {w : World} : Zz2Said K N1 N2 L1 L2 w (.returned (.bool false)) w := ⟨false, rfl, rfl, fun h => by cases h⟩
set_option maxRecDepth 100000 in
set_option maxHeartbeats 1600000 in
theorem zz25_any (ka a1 a2 : Option Addr) (K kcap N1 cap1 N2 cap2 : Nat) (S1 S2 : Nat → Option Addr) (L1 C1 L2 C2 : Nat → Nat) (B1 B2 : Nat → List Int) (w : World) (hK : K ≤ 9223372036854775807) (hN1 : N1 ≤ 9223372036854775807) (hN2 : N2 ≤ 9223372036854775807) (hc1 : Cols w a1 N1 S1 L1 C1 B1) (hc2 : Cols w a2 N2 S2 L2 C2 B2) :
    Calls Try.prog 25 #[.slice ka K kcap, .slice a1 N1 cap1, .slice a2 N2 cap2] w fun e w' => Zz2Said K N1 N2 L1 L2 w e w' := by
  have HC1 : Hid (Cols w a1 N1 S1 L1 C1 B1) := hc1
  have HC2 : Hid (Cols w a2 N2 S2 L2 C2 B2) := hc2
  clear hc1 hc2
  by_cases h1 : (1048576 : Int) < (K : Int)
  · go_enter Try.func25, Try.ntmps25
    go_wp2
    go_ret
    exact zz2_no
  by_cases h2 : (1048576 : Int) < (N1 : Int)
  · go_enter Try.func25, Try.ntmps25
    go_wp2
    go_ret
    exact zz2_no
  by_cases h3 : (1048576 : Int) < (K : Int) + (N1 : Int)
  · go_enter Try.func25, Try.ntmps25
    go_wp2
    go_ret
    exact zz2_no
  go_enter Try.func25, Try.ntmps25
  go_wp2
  go_loop [7, 8] (fun s i => ∃ (k : Nat) (x : Int), k ≤ N1 ∧ i = .int .i64 k ∧ s = .int .i64 x ∧ 0 ≤ x ∧ x ≤ 1048576 ∧ ∀ j, j < k → L1 j ≤ 1048576) (fun _ i => N1 - (intOf i).toNat)
  case atStart => exact ⟨0, _, Nat.zero_le _, rfl, rfl, by omega, by omega, fun j hj => by omega⟩
  case round =>
    obtain ⟨k, x, hk, rfl, rfl, hx0, hx1, hls⟩ := hrel
    have HLs : Hid (∀ j, j < k → L1 j ≤ 1048576) := hls
    clear hls
    by_cases hlt : k < N1
    · obtain ⟨b, o, hA, hbw, cells⟩ := HC1.out.row (by omega)
      subst hA
      have kc := cells k hlt
      have hki : (k : Int) < (N1 : Int) := by omega
      obtain ⟨l, hle⟩ : ∃ l, l = L1 k := ⟨_, rfl⟩
      have hmx := HC1.out.max k hlt
      rw [← hle] at kc hmx
      have HE : Hid (l = L1 k) := hle
      clear cells hle
      by_cases hl1 : (1048576 : Int) < (l : Int)
      · go_wp2
        go_ret
        exact zz2_no
      · by_cases hl2 : (1048576 : Int) < x + (l : Int)
        · go_wp2
          go_ret
          exact zz2_no
        · go_wp2
          go_round
          case rel => exact ⟨k + 1, _, by omega, by go_num, rfl, by omega, by omega, fun j hj => by
            by_cases e : j = k
            · subst e; rw [← HE.out]; omega
            · exact HLs.out j (by omega)⟩
          case measure => simp [intOf]; omega
    · obtain rfl : k = N1 := by omega
      clear hlt hk
      by_cases h4 : (1048576 : Int) < (N2 : Int)
      · go_wp2
        go_ret
        exact zz2_no
      · by_cases h5 : (1048576 : Int) < x + (N2 : Int)
        · go_wp2
          go_ret
          exact zz2_no
        · go_wp2
          go_loop [7, 9] (fun s i => ∃ (m : Nat) (y : Int), m ≤ N2 ∧ i = .int .i64 m ∧ s = .int .i64 y ∧ 0 ≤ y ∧ y ≤ 1048576 ∧ ∀ j, j < m → L2 j ≤ 1048576) (fun _ i => N2 - (intOf i).toNat)
          case atStart => exact ⟨0, _, Nat.zero_le _, rfl, rfl, by omega, by omega, fun j hj => by omega⟩
          case round =>
            obtain ⟨m, y, hm, rfl, rfl, hy0, hy1, hls2⟩ := hrel
            have HLs2 : Hid (∀ j, j < m → L2 j ≤ 1048576) := hls2
            clear hls2
            by_cases hlt : m < N2
            · obtain ⟨b, o, hA, hbw, cells⟩ := HC2.out.row (by omega)
              subst hA
              have kc := cells m hlt
              have hki : (m : Int) < (N2 : Int) := by omega
              obtain ⟨l, hle⟩ : ∃ l, l = L2 m := ⟨_, rfl⟩
              have hmx := HC2.out.max m hlt
              rw [← hle] at kc hmx
              have HE : Hid (l = L2 m) := hle
              clear cells hle
              by_cases hl1 : (1048576 : Int) < (l : Int)
              · go_wp2
                go_ret
                exact zz2_no
              · by_cases hl2 : (1048576 : Int) < y + (l : Int)
                · go_wp2
                  go_ret
                  exact zz2_no
                · go_wp2
                  go_round
                  case rel => exact ⟨m + 1, _, by omega, by go_num, rfl, by omega, by omega, fun j hj => by
                    by_cases e : j = m
                    · subst e; rw [← HE.out]; omega
                    · exact HLs2.out j (by omega)⟩
                  case measure => simp [intOf]; omega
            · obtain rfl : m = N2 := by omega
              clear hlt hm
              go_wp2
              go_ret
              exact ⟨true, rfl, rfl, fun _ => ⟨HLs.out, HLs2.out⟩⟩
end Go.Proofs.Qxb6614843a
