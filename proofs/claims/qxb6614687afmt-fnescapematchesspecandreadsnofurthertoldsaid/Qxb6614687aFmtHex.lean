/-
  Contracts of hex4, utf16.IsSurrogate, utf16.DecodeRune.
-/
import Derived.Test.Qxb6614687aFmtPlain
import Derived.Test.Qxb6614687aFmtFacts
import Derived.WalkKit
import Derived.WalkSpells
import Derived.WalkLawsBesides
import Derived.LoopTactic
import Derived.Laws.BitsLemmas
namespace Go.Proofs.Qxb6614687aFmt
open Go.RowKit Go.Extern.Stop Go.Stop Go.Extern

theorem i32_or4 (x y : Int) (hx₀ : 0 ≤ x) (hx : x % 16 = 0) (hx₁ : x < 2147483648) (h₀ : 0 ≤ y) (h₁ : y < 16) : bits .or .i32 x y = x + y :=
  bits_join .i32 31 (by decide) wraps_i32 4 x y hx₀ hx hx₁ h₀ h₁ (by omega)
theorem i32_or10 (x y : Int) (hx₀ : 0 ≤ x) (hx : x % 1024 = 0) (hx₁ : x < 2147483648) (h₀ : 0 ≤ y) (h₁ : y < 1024) : bits .or .i32 x y = x + y :=
  bits_join .i32 31 (by decide) wraps_i32 10 x y hx₀ hx hx₁ h₀ h₁ (by omega)

theorem hex_hit (l : List Int) (k : Nat) (v d : Int) (hk : k < l.length) (hv : hexAcc (l.take k) = some v) (h0 : 0 ≤ v) (h1 : v < 4096) (hd : hexv (l.getD k 0) = some d) :
    hexAcc (l.take (k + 1)) = some (bits .or .i32 (v * 16) d) := by
  have hb := hexv_bd hd
  rw [take_snoc l k hk, hexAcc_snoc, hv, hd, i32_or4 _ _ (by omega) (by omega) (by omega) hb.1 hb.2]
  rfl
theorem hex_miss (l : List Int) (k : Nat) (v : Int) (hk : k < l.length) (hk4 : k < 4) (hv : hexAcc (l.take k) = some v) (hd : hexv (l.getD k 0) = none) : hex4L l = none := by
  refine hex4L_none_of (k + 1) (by omega) ?_
  rw [take_snoc l k hk, hexAcc_snoc, hv, hd]
  rfl

set_option maxHeartbeats 400000 in
theorem hex4_short (a : Option Addr) (n cap : Nat) (w : World) (h : n < 4) :
    Calls Tryf.prog 27 #[.slice a n cap] w fun e w' => e = .returned (.tuple #[.int .i32 0, .bool false]) ∧ w' = w := by
  have h' : (n : Int) < 4 := by omega
  go_enter Tryf.func27, Tryf.ntmps27
  go_wp2
  go_ret2
  exact ⟨rfl, rfl⟩

theorem ret_none {l : List Int} (h : hex4L l = none) : Ending.returned (.tuple #[.int .i32 0, .bool false]) = .returned (.tuple #[.int .i32 ((hex4L l).getD 0), .bool (hex4L l).isSome]) := by rw [h]; rfl
theorem ret_some {l : List Int} {v : Int} (h : hex4L l = some v) : Ending.returned (.tuple #[.int .i32 v, .bool true]) = .returned (.tuple #[.int .i32 ((hex4L l).getD 0), .bool (hex4L l).isSome]) := by rw [h]; rfl

set_option maxHeartbeats 400000 in
theorem hex4_long (b o n cap : Nat) (l : List Int) (w : World) (h4 : 4 ≤ n) (hcap : n ≤ cap) (hn : n ≤ 1048576) (hl : l.length = n) (hc : ∀ j, j < n → w.cell? ⟨b, o + j, none⟩ = some (.int .u8 (l.getD j 0))) :
    Calls Tryf.prog 27 #[.slice (some ⟨b, o, none⟩) n cap] w fun e w' => e = .returned (.tuple #[.int .i32 ((hex4L l).getD 0), .bool (hex4L l).isSome]) ∧ w' = w := by
  have h4c : 4 ≤ cap := by omega
  have h4i : ¬ (n : Int) < 4 := by omega
  go_enter Tryf.func27, Tryf.ntmps27
  go_wp2
  go_loop [13, 4] (fun i u => ∃ (k : Nat) (v : Int), k ≤ 4 ∧ i = .int .i64 k ∧ u = .int .i32 v ∧ hexAcc (l.take k) = some v) (fun i _ => 4 - (intOf i).toNat)
  case atStart => exact ⟨0, 0, by omega, rfl, rfl, rfl⟩
  case round =>
    obtain ⟨k, v, hk, rfl, rfl, hv⟩ := hrel
    by_cases hlt : k < 4
    · have hcell := hc k (by omega)
      have hvb := hexAcc_bd k (l.take k) (by simp; omega) v hv
      have hvc : 0 ≤ v ∧ v < 4096 := by
        have hkk : k = 0 ∨ k = 1 ∨ k = 2 ∨ k = 3 := by omega
        rcases hkk with rfl | rfl | rfl | rfl <;> simp at hvb <;> omega
      clear hvb
      have HV : Hid (hexAcc (l.take k) = some v) := hv
      clear hv
      have HC : Hid (∀ j, j < n → w.cell? ⟨b, o + j, none⟩ = some (.int .u8 (l.getD j 0))) := hc
      clear hc
      obtain ⟨c, hcc⟩ : ∃ c, c = l.getD k 0 := ⟨_, rfl⟩
      rw [← hcc] at hcell
      have HE : Hid (c = l.getD k 0) := hcc
      clear hcc
      go_wp2
      · go_round
        case rel => exact ⟨k + 1, _, by omega, by go_num, rfl, hex_hit l k v _ (by omega) HV.out hvc.1 hvc.2 (by rw [← HE.out]; simp only [hexv]; rw [if_pos (by omega)])⟩
        case measure => simp [intOf]; omega
      · go_round
        case rel => exact ⟨k + 1, _, by omega, by go_num, rfl, hex_hit l k v _ (by omega) HV.out hvc.1 hvc.2 (by rw [← HE.out]; simp only [hexv]; rw [if_neg (by omega), if_pos (by omega)])⟩
        case measure => simp [intOf]; omega
      · go_ret2
        exact ⟨ret_none (hex_miss l k v (by omega) hlt HV.out (by rw [← HE.out]; simp only [hexv]; rw [if_neg (by omega), if_neg (by omega), if_neg (by omega)])), rfl⟩
      · go_round
        case rel => exact ⟨k + 1, _, by omega, by go_num, rfl, hex_hit l k v _ (by omega) HV.out hvc.1 hvc.2 (by rw [← HE.out]; simp only [hexv]; rw [if_neg (by omega), if_neg (by omega), if_pos (by omega)])⟩
        case measure => simp [intOf]; omega
      all_goals
        go_ret2
        exact ⟨ret_none (hex_miss l k v (by omega) hlt HV.out (by rw [← HE.out]; simp only [hexv]; rw [if_neg (by omega), if_neg (by omega), if_neg (by omega)])), rfl⟩
    · obtain rfl : k = 4 := by omega
      have HV : Hid (hexAcc (l.take 4) = some v) := hv
      clear hv
      go_wp2
      go_ret2
      exact ⟨ret_some (by unfold hex4L; rw [if_neg (by omega)]; exact HV.out), rfl⟩
/-- hex4, at every slice that leads to the bytes l. -/
theorem hex4_any (b o n cap : Nat) (l : List Int) (w : World) (hcap : n ≤ cap) (hn : n ≤ 1048576) (hl : l.length = n) (hc : ∀ j, j < n → w.cell? ⟨b, o + j, none⟩ = some (.int .u8 (l.getD j 0))) :
    Calls Tryf.prog 27 #[.slice (some ⟨b, o, none⟩) n cap] w fun e w' => e = .returned (.tuple #[.int .i32 ((hex4L l).getD 0), .bool (hex4L l).isSome]) ∧ w' = w := by
  by_cases h4 : 4 ≤ n
  · exact hex4_long b o n cap l w h4 hcap hn hl hc
  · refine (hex4_short _ n cap w (by omega)).mono fun e w' h => ⟨?_, h.2⟩
    rw [h.1]
    exact ret_none (by unfold hex4L; rw [if_pos (by omega)])

theorem sur_yes (u : Int) (w : World) (h : 55296 ≤ u ∧ u < 57344) : Calls Tryf.prog 28 #[.int .i32 u] w fun e w' => e = .returned (.bool true) ∧ w' = w := by
  go_enter Tryf.func28, Tryf.ntmps28
  go_wp2
  go_ret
  exact ⟨rfl, rfl⟩
theorem sur_no (u : Int) (w : World) (h : u < 55296 ∨ 57344 ≤ u) : Calls Tryf.prog 28 #[.int .i32 u] w fun e w' => e = .returned (.bool false) ∧ w' = w := by
  rcases h with h | h
  · have hd : decide (55296 ≤ u) = false := decide_eq_false (by omega)
    go_enter Tryf.func28, Tryf.ntmps28
    go_wp2
    go_ret
    exact ⟨rfl, rfl⟩
  · have hd : decide (55296 ≤ u) = true := decide_eq_true (by omega)
    have hd2 : decide (u < 57344) = false := decide_eq_false (by omega)
    go_enter Tryf.func28, Tryf.ntmps28
    go_wp2
    go_ret
    exact ⟨rfl, rfl⟩
theorem pair_or (u lo : Int) (h : 55296 ≤ u ∧ u < 56320) (h2 : 56320 ≤ lo ∧ lo < 57344) : bits .or .i32 ((u - 55296) * 1024) (lo - 56320) + 65536 = 65536 + (u - 55296) * 1024 + (lo - 56320) := by
  rw [i32_or10 _ _ (by omega) (by omega) (by omega) (by omega) (by omega)]; omega
theorem pair_wrap (u lo : Int) (h : 55296 ≤ u ∧ u < 56320) (h2 : 56320 ≤ lo ∧ lo < 57344) : wrap32 (bits .or .i32 ((u - 55296) * 1024) (lo - 56320) + 65536) = 65536 + (u - 55296) * 1024 + (lo - 56320) := by
  rw [pair_or u lo h h2]; unfold wrap32; omega
theorem ret_i32 {a b : Int} (h : a = b) : Ending.returned (.int .i32 a) = .returned (.int .i32 b) := by rw [h]
theorem dec_yes (u lo : Int) (w : World) (h : 55296 ≤ u ∧ u < 56320) (h2 : 56320 ≤ lo ∧ lo < 57344) : Calls Tryf.prog 29 #[.int .i32 u, .int .i32 lo] w fun e w' => e = .returned (.int .i32 (65536 + (u - 55296) * 1024 + (lo - 56320))) ∧ w' = w := by
  go_enter Tryf.func29, Tryf.ntmps29
  go_wp2
  go_ret
  exact ⟨ret_i32 (pair_wrap u lo h h2), rfl⟩
theorem dec_no (u lo : Int) (w : World) (h : u < 55296 ∨ 56320 ≤ u ∨ lo < 56320 ∨ 57344 ≤ lo) : Calls Tryf.prog 29 #[.int .i32 u, .int .i32 lo] w fun e w' => e = .returned (.int .i32 65533) ∧ w' = w := by
  go_enter Tryf.func29, Tryf.ntmps29
  go_wp2
  all_goals
    go_ret
    exact ⟨rfl, rfl⟩
end Go.Proofs.Qxb6614687aFmt
