/-
  The contract of compareBytes.
-/
import Derived.Test.Qxb6614843aOrd
namespace Go.Proofs.Qxb6614843a
set_option linter.unusedVariables false
open Go.RowKit
theorem drop_cons (l : List Int) (k : Nat) (h : k < l.length) : l.drop k = l.getD k 0 :: l.drop (k + 1) := by
  rw [List.drop_eq_getElem_cons h, List.getD_eq_getElem?_getD, List.getElem?_eq_getElem h]; rfl
set_option maxRecDepth 100000 in
set_option maxHeartbeats 800000 in
theorem cmp_any (A A' : Option Addr) (n c n' c' : Nat) (xs ys : List Int) (w : World) (ha : Bytes w A n xs) (hb : Bytes w A' n' ys) (hn : n ≤ 2097152) (hn' : n' ≤ 2097152) :
    Calls Try.prog 27 #[.slice A n c, .slice A' n' c'] w fun e w' => e = .returned (.int .i64 (cmpL xs ys)) ∧ ∃ d, w' = w.drewN d := by
  have HA : Hid (Bytes w A n xs) := ha
  have HB : Hid (Bytes w A' n' ys) := hb
  clear ha hb
  go_enter Try.func27, Try.ntmps27
  go_wp2
  go_loopw [5] (fun i wr => ∃ k d : Nat, k ≤ n ∧ k ≤ n' ∧ i = .int .i64 k ∧ cmpL (xs.drop k) (ys.drop k) = cmpL xs ys ∧ wr = w.drewN d) (fun i _ => n - (intOf i).toNat)
  case atStart => exact ⟨0, 0, Nat.zero_le _, Nat.zero_le _, rfl, rfl, rfl⟩
  case round =>
    obtain ⟨k, d, hk, hk', rfl, he, hw⟩ := hrel
    have HE : Hid (cmpL (xs.drop k) (ys.drop k) = cmpL xs ys) := he
    have HW : Hid (wr = w.drewN d) := hw
    clear he hw
    have hlx := HA.out.1
    have hly := HB.out.1
    by_cases h1 : k < n
    · obtain ⟨b1, o1, e1, hb1, c1⟩ := HA.out.2 (by omega)
      subst e1
      by_cases h2 : k < n'
      · obtain ⟨b2, o2, e2, hb2, c2⟩ := HB.out.2 (by omega)
        subst e2
        obtain ⟨x, hx⟩ : ∃ x, x = xs.getD k 0 := ⟨_, rfl⟩
        obtain ⟨y, hy⟩ : ∃ y, y = ys.getD k 0 := ⟨_, rfl⟩
        have k1 : wr.cell? ⟨b1, o1 + k, none⟩ = some (.int .u8 x) := by rw [HW.out, hx]; exact c1 k h1
        have k2 : wr.cell? ⟨b2, o2 + k, none⟩ = some (.int .u8 y) := by rw [HW.out, hy]; exact c2 k h2
        have hi1 : (k : Int) < (n : Int) := by omega
        have hi2 : (k : Int) < (n' : Int) := by omega
        have HN : Hid (cmpL (x :: xs.drop (k + 1)) (y :: ys.drop (k + 1)) = cmpL xs ys) := by
          rw [hx, hy, ← drop_cons xs k (by omega), ← drop_cons ys k (by omega)]; exact HE.out
        clear c1 c2 hx hy hlx hly
        by_cases hlt : x < y
        · go_wp2
          go_quiet (fail)
          go_wp2
          go_ret
          exact ⟨by rw [← HN.out, cmpL_lt _ _ hlt]; rfl, _, by rw [HW.out]; simp only [World.drewN_drewN]; rfl⟩
        · by_cases hgt : y < x
          · go_wp2
            go_quiet (fail)
            go_wp2
            go_quiet (fail)
            go_wp2
            go_ret
            exact ⟨by rw [← HN.out, cmpL_gt _ _ hgt]; rfl, _, by rw [HW.out]; simp only [World.drewN_drewN]; rfl⟩
          · obtain rfl : x = y := by omega
            clear hlt hgt
            go_wp2
            go_quiet (fail)
            go_wp2
            go_quiet (fail)
            go_wp2
            go_roundw
            case rel => exact ⟨k + 1, _, by omega, by omega, by go_num, by rw [← HN.out, cmpL_eq], by rw [HW.out]; simp only [World.drewN_drewN]; rfl⟩
            case measure => simp [intOf]; omega
      · obtain rfl : k = n' := by omega
        have hi1 : (k : Int) < (n : Int) := by omega
        have HN : Hid (cmpL xs ys = 1) := by
          show _ = _
          rw [← HE.out, drop_cons xs k (by omega), show ys.drop k = [] from List.drop_eq_nil_of_le (by omega)]; rfl
        clear h2 hk' c1 hlx hly
        go_wp2
        go_ret
        exact ⟨by rw [HN.out]; rfl, d, HW.out⟩
    · obtain rfl : k = n := by omega
      by_cases h2 : k < n'
      · have hi2 : (k : Int) < (n' : Int) := by omega
        have HN : Hid (cmpL xs ys = -1) := by
          show _ = _
          rw [← HE.out, drop_cons ys k (by omega), show xs.drop k = [] from List.drop_eq_nil_of_le (by omega)]; rfl
        clear h1 hk hlx hly
        go_wp2
        go_ret
        exact ⟨by rw [HN.out]; rfl, d, HW.out⟩
      · obtain rfl : k = n' := by omega
        have HN : Hid (cmpL xs ys = 0) := by
          show _ = _
          rw [← HE.out, show xs.drop k = [] from List.drop_eq_nil_of_le (by omega), show ys.drop k = [] from List.drop_eq_nil_of_le (by omega)]; rfl
        clear h1 h2 hk hk' hlx hly
        go_wp2
        go_ret
        exact ⟨by rw [HN.out]; rfl, d, HW.out⟩
end Go.Proofs.Qxb6614843a
