/-
  Contracts of the two laws' own length checks (zzBytes): where they say yes, every length is at most 2^20.
-/
import Derived.Test.Qxb6614843aSizes
namespace Go.Proofs.Qxb6614843a
set_option linter.unusedVariables false
open Go.RowKit
/-- what the check says of keys, columns and flags -/
def ZzSaid (K N M : Nat) (L : Nat → Nat) (w : World) (e : Ending) (w' : World) : Prop :=
  ∃ ok : Bool, e = .returned (.bool ok) ∧ w' = w ∧ (ok = true → K ≤ 1048576 ∧ N ≤ 1048576 ∧ M ≤ 1048576 ∧ ∀ j, j < N → L j ≤ 1048576)
theorem zz_no {K N M : Nat} {L : Nat → Nat} {w : World} : ZzSaid K N M L w (.returned (.bool false)) w := ⟨false, rfl, rfl, fun h => by cases h⟩
set_option maxRecDepth 100000 in
set_option maxHeartbeats 1600000 in
theorem zz18_any (ka a ia : Option Addr) (K kcap N cap M icap : Nat) (S : Nat → Option Addr) (L C : Nat → Nat) (B : Nat → List Int) (w : World) (hK : K ≤ 9223372036854775807) (hN : N ≤ 9223372036854775807) (hM : M ≤ 9223372036854775807) (hc : Cols w a N S L C B) :
    Calls Try.prog 18 #[.slice ka K kcap, .slice a N cap, .slice ia M icap] w fun e w' => ZzSaid K N M L w e w' := by
  have HC : Hid (Cols w a N S L C B) := hc
  clear hc
  by_cases h1 : (1048576 : Int) < (K : Int)
  · go_enter Try.func18, Try.ntmps18
    go_wp2
    go_ret
    exact zz_no
  by_cases h2 : (1048576 : Int) < (N : Int)
  · go_enter Try.func18, Try.ntmps18
    go_wp2
    go_ret
    exact zz_no
  by_cases h3 : (1048576 : Int) < (K : Int) + (N : Int)
  · go_enter Try.func18, Try.ntmps18
    go_wp2
    go_ret
    exact zz_no
  go_enter Try.func18, Try.ntmps18
  go_wp2
  go_loop [7, 8] (fun s i => ∃ (k : Nat) (x : Int), k ≤ N ∧ i = .int .i64 k ∧ s = .int .i64 x ∧ 0 ≤ x ∧ x ≤ 1048576 ∧ ∀ j, j < k → L j ≤ 1048576) (fun _ i => N - (intOf i).toNat)
  case atStart => exact ⟨0, _, Nat.zero_le _, rfl, rfl, by omega, by omega, fun j hj => by omega⟩
  case round =>
    obtain ⟨k, x, hk, rfl, rfl, hx0, hx1, hls⟩ := hrel
    have HLs : Hid (∀ j, j < k → L j ≤ 1048576) := hls
    clear hls
    by_cases hlt : k < N
    · obtain ⟨b, o, hA, hbw, cells⟩ := HC.out.row (by omega)
      subst hA
      have kc := cells k hlt
      have hki : (k : Int) < (N : Int) := by omega
      obtain ⟨l, hle⟩ : ∃ l, l = L k := ⟨_, rfl⟩
      have hmx := HC.out.max k hlt
      rw [← hle] at kc hmx
      have HE : Hid (l = L k) := hle
      clear cells hle
      by_cases hl1 : (1048576 : Int) < (l : Int)
      · go_wp2
        go_ret
        exact zz_no
      · by_cases hl2 : (1048576 : Int) < x + (l : Int)
        · go_wp2
          go_ret
          exact zz_no
        · go_wp2
          go_round
          case rel => exact ⟨k + 1, _, by omega, by go_num, rfl, by omega, by omega, fun j hj => by
            by_cases e : j = k
            · subst e; rw [← HE.out]; omega
            · exact HLs.out j (by omega)⟩
          case measure => simp [intOf]; omega
    · obtain rfl : k = N := by omega
      clear hlt hk
      by_cases h4 : (1048576 : Int) < (M : Int)
      · go_wp2
        go_ret
        exact zz_no
      · by_cases h5 : (1048576 : Int) < x + (M : Int)
        · go_wp2
          go_ret
          exact zz_no
        · go_wp2
          go_ret
          exact ⟨true, rfl, rfl, fun _ => ⟨by omega, by omega, by omega, HLs.out⟩⟩
end Go.Proofs.Qxb6614843a
