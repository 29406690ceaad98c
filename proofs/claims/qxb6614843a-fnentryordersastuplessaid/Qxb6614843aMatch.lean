/-
  Contracts of matchZeroInt and matchEncodedBytes at an encoding.
-/
import Derived.Test.Qxb6614843aEnt
namespace Go.Proofs.Qxb6614843a
set_option linter.unusedVariables false
open Go.RowKit
theorem mz_any (A : Option Addr) (L cap p : Nat) (os rest : List Int) (w : World) (ho : Bytes w A L os) (hL : L ≤ 2097152) (hd : os.drop p = encZ ++ rest) :
    Calls Try.prog 23 #[.slice A L cap, .int .i64 p] w fun e w' => e = .returned (.tuple #[.int .i64 ((p + 8 : Nat) : Int), .bool true]) ∧ w' = w := by
  have hlen : p + 8 + rest.length = L := by
    have h1 := congrArg List.length hd
    have h2 := ho.1
    simp [encZ] at h1; omega
  obtain ⟨b, o, rfl, hbw, cells⟩ := ho.2 (by omega)
  have hgd : ∀ i, i < 8 → os.getD (p + i) 0 = encZ.getD i 0 := by
    intro i hi
    have h1 := congrArg (fun l : List Int => l.getD i 0) hd
    simp only [List.getD_eq_getElem?_getD, List.getElem?_drop] at h1 ⊢
    rw [h1, List.getElem?_append_left (by simp [encZ]; omega)]
  have c0 : w.cell? ⟨b, o + p, none⟩ = some (.int .u8 128) := by rw [cells p (by omega)]; have := hgd 0 (by omega); rw [Nat.add_zero] at this; rw [this]; rfl
  have cs : ∀ i, 1 ≤ i → i < 8 → w.cell? ⟨b, o + (p + i), none⟩ = some (.int .u8 0) := by
    intro i h1 h2
    rw [cells (p + i) (by omega), hgd i h2]
    have : i = 1 ∨ i = 2 ∨ i = 3 ∨ i = 4 ∨ i = 5 ∨ i = 6 ∨ i = 7 := by omega
    rcases this with rfl | rfl | rfl | rfl | rfl | rfl | rfl <;> rfl
  have HC : Hid (∀ i, 1 ≤ i → i < 8 → w.cell? ⟨b, o + (p + i), none⟩ = some (.int .u8 0)) := cs
  have hi1 : (p : Int) < (L : Int) := by omega
  have hi2 : ¬ ((L : Int) - (p : Int) < 8) := by omega
  have HL : Hid (p + 8 + rest.length = L) := hlen
  clear cs cells hgd ho hd hlen
  go_enter Try.func23, Try.ntmps23
  go_wp2
  go_loop [6] (fun i => ∃ k : Nat, 1 ≤ k ∧ k ≤ 8 ∧ i = .int .i64 k) (fun i => 8 - (intOf i).toNat)
  case atStart => exact ⟨1, by omega, by omega, rfl⟩
  case round =>
    obtain ⟨k, hk1, hk, rfl⟩ := hrel
    by_cases hlt : k < 8
    · have kc := HC.out k hk1 hlt
      have hi3 : (p : Int) + (k : Int) < (L : Int) := by omega
      have hki : (k : Int) < 8 := by omega
      go_wp2
      go_round
      case rel => exact ⟨k + 1, by omega, by omega, by go_num⟩
      case measure => simp [intOf]; omega
    · obtain rfl : k = 8 := by omega
      clear hlt hk1 hk
      go_wp2
      go_ret2
      exact ⟨by go_num, rfl⟩
/-- where the code of byte k starts -/
def posOf (bs : List Int) (k : Nat) : Nat := (mark bs).length + (escs (bs.take k)).length
theorem posOf_drop (bs : List Int) (k : Nat) : (encB bs).drop (posOf bs k) = escs (bs.drop k) ++ [0] := by
  have h : encB bs = mark bs ++ escs (bs.take k) ++ (escs (bs.drop k) ++ [0]) := by
    have e : escs bs = escs (bs.take k) ++ escs (bs.drop k) := by
      unfold escs; rw [← List.flatMap_append, List.take_append_drop]
    unfold encB; rw [e]; simp
  rw [h]
  have hl : posOf bs k = (mark bs ++ escs (bs.take k)).length := by simp [posOf]
  rw [hl, List.drop_left]
theorem posOf_succ (bs : List Int) (k : Nat) (h : k < bs.length) : posOf bs (k + 1) = posOf bs k + (esc1 (bs.getD k 0)).length := by
  unfold posOf; rw [escs_snoc bs k h]; simp; omega
theorem posOf_at (bs : List Int) (k : Nat) (h : k < bs.length) : ∃ r, (encB bs).drop (posOf bs k) = esc1 (bs.getD k 0) ++ (r ++ [0]) := by
  refine ⟨escs (bs.drop (k + 1)), ?_⟩
  have e : bs.drop k = bs.getD k 0 :: bs.drop (k + 1) := by
    rw [List.drop_eq_getElem_cons h, List.getD_eq_getElem?_getD, List.getElem?_eq_getElem h]; rfl
  rw [posOf_drop, e]
  simp [escs]
theorem posOf_end (bs : List Int) : posOf bs bs.length + 1 = (encB bs).length := by
  simp [posOf, encB]; omega
theorem getD_drop (l : List Int) (a i : Nat) : (l.drop a).getD i 0 = l.getD (a + i) 0 := by
  simp [List.getD_eq_getElem?_getD, List.getElem?_drop]
theorem enc_one (bs : List Int) (k : Nat) (h : k < bs.length) (c : Int) (hc : c = bs.getD k 0) (h0 : c ≠ 0) (h1 : c ≠ 1) : (encB bs).getD (posOf bs k) 0 = c ∧ posOf bs (k + 1) = posOf bs k + 1 ∧ posOf bs k + 1 < (encB bs).length := by
  obtain ⟨r, hr⟩ := posOf_at bs k h
  have e1 : esc1 (bs.getD k 0) = [c] := by unfold esc1; rw [← hc, if_neg h0, if_neg h1]
  rw [e1] at hr
  have h2 := getD_drop (encB bs) (posOf bs k) 0
  rw [hr] at h2
  have h3 := congrArg List.length hr
  simp at h2 h3
  refine ⟨by simpa using h2.symm, by rw [posOf_succ bs k h, e1]; rfl, by omega⟩
theorem enc_two (bs : List Int) (k : Nat) (h : k < bs.length) (c : Int) (hc : c = bs.getD k 0) (h0 : c = 0 ∨ c = 1) : (encB bs).getD (posOf bs k) 0 = 1 ∧ (encB bs).getD (posOf bs k + 1) 0 = c + 1 ∧ posOf bs (k + 1) = posOf bs k + 2 ∧ posOf bs k + 2 < (encB bs).length := by
  obtain ⟨r, hr⟩ := posOf_at bs k h
  have e1 : esc1 (bs.getD k 0) = [1, c + 1] := by
    unfold esc1; rw [← hc]
    rcases h0 with rfl | rfl <;> simp
  rw [e1] at hr
  have h2 := getD_drop (encB bs) (posOf bs k) 0
  have h3 := getD_drop (encB bs) (posOf bs k) 1
  rw [hr] at h2 h3
  have h4 := congrArg List.length hr
  simp at h2 h3 h4
  refine ⟨by simpa using h2.symm, by simpa using h3.symm, by rw [posOf_succ bs k h, e1]; rfl, by omega⟩
theorem enc_end (bs : List Int) : (encB bs).getD (posOf bs bs.length) 0 = 0 := by
  have h2 := getD_drop (encB bs) (posOf bs bs.length) 0
  rw [posOf_drop] at h2
  simp [escs] at h2
  simpa using h2.symm
/-- the first byte of the code: the marker, and a byte of 254 or more behind it; or a byte below 254 -/
theorem enc_first (bs : List Int) : ((mark bs).length = 1 ∧ (encB bs).getD 0 0 = 254 ∧ 254 ≤ (encB bs).getD 1 0 ∧ 1 < (encB bs).length) ∨ ((mark bs).length = 0 ∧ (encB bs).getD 0 0 < 254) := by
  by_cases hm : 0 < bs.length ∧ 254 ≤ bs.getD 0 0
  · have e : mark bs = [254] := by unfold mark; rw [if_pos hm]
    left
    have h := enc_one bs 0 hm.1 (bs.getD 0 0) rfl (by omega) (by omega)
    have hp : posOf bs 0 = 1 := by simp [posOf, e, escs]
    rw [hp] at h
    refine ⟨by rw [e]; rfl, by simp [encB, e], by rw [h.1]; exact hm.2, by omega⟩
  · have e : mark bs = [] := by unfold mark; rw [if_neg hm]
    right
    refine ⟨by rw [e]; rfl, ?_⟩
    have hp : posOf bs 0 = 0 := by simp [posOf, e, escs]
    by_cases h0 : 0 < bs.length
    · by_cases hc : bs.getD 0 0 = 0 ∨ bs.getD 0 0 = 1
      · have h := enc_two bs 0 h0 _ rfl hc
        rw [hp] at h; rw [h.1]; omega
      · have h := enc_one bs 0 h0 _ rfl (by omega) (by omega)
        rw [hp] at h; rw [h.1]; omega
    · have hn : bs = [] := List.eq_nil_of_length_eq_zero (by omega)
      subst hn; decide
/-- matchEncodedBytes at an encoding: the position behind it. -/
def MatchSaid (q : Nat) (w : World) (e : Ending) (w' : World) : Prop := e = .returned (.tuple #[.int .i64 (q : Int), .bool true]) ∧ w' = w
set_option maxRecDepth 100000 in
set_option maxHeartbeats 1600000 in
theorem mb_any (A Wa : Option Addr) (L cap p n ncap : Nat) (os rest bs : List Int) (w : World) (ho : Bytes w A L os) (hL : L ≤ 2097152) (hn : n ≤ 1048576) (hw : Bytes w Wa n bs) (hr : ∀ z ∈ bs, 0 ≤ z ∧ z ≤ 255) (hd : os.drop p = encB bs ++ rest) :
    Calls Try.prog 24 #[.slice A L cap, .int .i64 p, .slice Wa n ncap] w fun e w' => MatchSaid (p + (encB bs).length) w e w' := by
  have h3 : 1 ≤ (encB bs).length := by have := posOf_end bs; omega
  have hlen : p + (encB bs).length + rest.length = L := by
    have h1 := congrArg List.length hd
    have h2 := ho.1
    simp only [List.length_drop, List.length_append] at h1; omega
  obtain ⟨b, o, rfl, hbw, cells⟩ := ho.2 (by omega)
  have hgd : ∀ i, i < (encB bs).length → os.getD (p + i) 0 = (encB bs).getD i 0 := by
    intro i hi
    have h1 := congrArg (fun l : List Int => l.getD i 0) hd
    simp only [List.getD_eq_getElem?_getD, List.getElem?_drop] at h1 ⊢
    rw [h1, List.getElem?_append_left hi]
  have HCs : Hid (∀ i, i < (encB bs).length → w.cell? ⟨b, o + (p + i), none⟩ = some (.int .u8 ((encB bs).getD i 0))) := by
    intro i hi
    rw [cells (p + i) (by omega), hgd i hi]
  have hi1 : (p : Int) < (L : Int) := by omega
  have HL : Hid (p + (encB bs).length + rest.length = L) := hlen
  have HW : Hid (Bytes w Wa n bs) := hw
  have HR : Hid (∀ z ∈ bs, 0 ≤ z ∧ z ≤ 255) := hr
  have k0 := HCs.out 0 (by omega)
  rw [Nat.add_zero] at k0
  obtain ⟨c0, hc0⟩ : ∃ c0, c0 = (encB bs).getD 0 0 := ⟨_, rfl⟩
  rw [← hc0] at k0
  clear cells hgd ho hd h3 hw hr
  rcases enc_first bs with ⟨hm, hf, hs, h1⟩ | ⟨hm, hf⟩
  · have k1 := HCs.out 1 h1
    obtain ⟨c1, hc1⟩ : ∃ c1, c1 = (encB bs).getD 1 0 := ⟨_, rfl⟩
    rw [← hc1] at k1 hs
    rw [hf] at hc0
    subst hc0
    have hi2 : (p : Int) + 1 < (L : Int) := by omega
    have HM : Hid ((mark bs).length = 1) := hm
    clear hc1 hm hf hlen h1
    go_enter Try.func24, Try.ntmps24
    go_wp2
    go_loop [1, 8] (fun q j => ∃ k : Nat, k ≤ n ∧ q = .int .i64 ((p + posOf bs k : Nat) : Int) ∧ j = .int .i64 k) (fun _ j => n - (intOf j).toNat)
    case atStart => exact ⟨0, Nat.zero_le _, by unfold posOf; rw [HM.out]; simp [escs], rfl⟩
    case round =>
      obtain ⟨k, hk, rfl, rfl⟩ := hrel
      obtain ⟨x, hx⟩ : ∃ x, x = p + posOf bs k := ⟨_, rfl⟩
      rw [← hx]
      have HX : Hid (x = p + posOf bs k) := hx
      by_cases hlt : k < n
      · have hbl := HW.out.1
        obtain ⟨b2, o2, e2, hbw2, cells2⟩ := HW.out.2 (by omega)
        subst e2
        have kw := cells2 k hlt
        obtain ⟨c, hc⟩ : ∃ c, c = bs.getD k 0 := ⟨_, rfl⟩
        rw [← hc] at kw
        have hki : (k : Int) < (n : Int) := by omega
        by_cases h01 : c = 0 ∨ c = 1
        · obtain ⟨h1, h2, h3, h4⟩ := enc_two bs k (by omega) c hc h01
          have HN : Hid (x + 2 = p + posOf bs (k + 1)) := by show _ = _; omega
          have kx := HCs.out (posOf bs k) (by omega)
          have kx1 := HCs.out (posOf bs k + 1) (by omega)
          rw [h1, ← hx] at kx
          rw [h2, show p + (posOf bs k + 1) = x + 1 by omega] at kx1
          have hl := HL.out
          have hx1 : (x : Int) < (L : Int) := by omega
          have hx2 : (x : Int) + 1 < (L : Int) := by omega
          clear h1 h2 h3 h4 hx hc cells2 hbl hl
          rcases h01 with rfl | rfl
          · go_wp2
            go_round
            case rel => exact ⟨k + 1, by omega, by rw [← HN.out]; go_num, by go_num⟩
            case measure => simp [intOf]; omega
          · go_wp2
            go_round
            case rel => exact ⟨k + 1, by omega, by rw [← HN.out]; go_num, by go_num⟩
            case measure => simp [intOf]; omega
        · have hn0 : c ≠ 0 := fun e => h01 (.inl e)
          have hn1 : c ≠ 1 := fun e => h01 (.inr e)
          obtain ⟨h1, h3, h4⟩ := enc_one bs k (by omega) c hc hn0 hn1
          have HN : Hid (x + 1 = p + posOf bs (k + 1)) := by show _ = _; omega
          have kx := HCs.out (posOf bs k) (by omega)
          rw [h1, ← hx] at kx
          have hl := HL.out
          have hx1 : (x : Int) < (L : Int) := by omega
          clear h1 h3 h4 hx hc cells2 hbl hl h01
          go_wp2
          go_round
          case rel => exact ⟨k + 1, by omega, by rw [← HN.out]; go_num, by go_num⟩
          case measure => simp [intOf]; omega
      · obtain rfl : k = n := by omega
        have hbl := HW.out.1
        have h1 := enc_end bs
        have h2 := posOf_end bs
        rw [hbl] at h1 h2
        have kx := HCs.out (posOf bs k) (by omega)
        rw [h1, ← hx] at kx
        have hl := HL.out
        have hx1 : (x : Int) < (L : Int) := by omega
        have HN : Hid (x + 1 = p + (encB bs).length) := by show _ = _; omega
        clear h1 h2 hx hbl hl hk hlt
        go_wp2
        go_ret2
        exact ⟨by rw [← HN.out]; go_num, rfl⟩
  · rw [← hc0] at hf
    have HM : Hid ((mark bs).length = 0) := hm
    clear hc0 hm hlen
    go_enter Try.func24, Try.ntmps24
    go_wp2
    go_loop [1, 8] (fun q j => ∃ k : Nat, k ≤ n ∧ q = .int .i64 ((p + posOf bs k : Nat) : Int) ∧ j = .int .i64 k) (fun _ j => n - (intOf j).toNat)
    case atStart => exact ⟨0, Nat.zero_le _, by unfold posOf; rw [HM.out]; simp [escs], rfl⟩
    case round =>
      obtain ⟨k, hk, rfl, rfl⟩ := hrel
      obtain ⟨x, hx⟩ : ∃ x, x = p + posOf bs k := ⟨_, rfl⟩
      rw [← hx]
      have HX : Hid (x = p + posOf bs k) := hx
      by_cases hlt : k < n
      · have hbl := HW.out.1
        obtain ⟨b2, o2, e2, hbw2, cells2⟩ := HW.out.2 (by omega)
        subst e2
        have kw := cells2 k hlt
        obtain ⟨c, hc⟩ : ∃ c, c = bs.getD k 0 := ⟨_, rfl⟩
        rw [← hc] at kw
        have hki : (k : Int) < (n : Int) := by omega
        by_cases h01 : c = 0 ∨ c = 1
        · obtain ⟨h1, h2, h3, h4⟩ := enc_two bs k (by omega) c hc h01
          have HN : Hid (x + 2 = p + posOf bs (k + 1)) := by show _ = _; omega
          have kx := HCs.out (posOf bs k) (by omega)
          have kx1 := HCs.out (posOf bs k + 1) (by omega)
          rw [h1, ← hx] at kx
          rw [h2, show p + (posOf bs k + 1) = x + 1 by omega] at kx1
          have hl := HL.out
          have hx1 : (x : Int) < (L : Int) := by omega
          have hx2 : (x : Int) + 1 < (L : Int) := by omega
          clear h1 h2 h3 h4 hx hc cells2 hbl hl
          rcases h01 with rfl | rfl
          · go_wp2
            go_round
            case rel => exact ⟨k + 1, by omega, by rw [← HN.out]; go_num, by go_num⟩
            case measure => simp [intOf]; omega
          · go_wp2
            go_round
            case rel => exact ⟨k + 1, by omega, by rw [← HN.out]; go_num, by go_num⟩
            case measure => simp [intOf]; omega
        · have hn0 : c ≠ 0 := fun e => h01 (.inl e)
          have hn1 : c ≠ 1 := fun e => h01 (.inr e)
          obtain ⟨h1, h3, h4⟩ := enc_one bs k (by omega) c hc hn0 hn1
          have HN : Hid (x + 1 = p + posOf bs (k + 1)) := by show _ = _; omega
          have kx := HCs.out (posOf bs k) (by omega)
          rw [h1, ← hx] at kx
          have hl := HL.out
          have hx1 : (x : Int) < (L : Int) := by omega
          clear h1 h3 h4 hx hc cells2 hbl hl h01
          go_wp2
          go_round
          case rel => exact ⟨k + 1, by omega, by rw [← HN.out]; go_num, by go_num⟩
          case measure => simp [intOf]; omega
      · obtain rfl : k = n := by omega
        have hbl := HW.out.1
        have h1 := enc_end bs
        have h2 := posOf_end bs
        rw [hbl] at h1 h2
        have kx := HCs.out (posOf bs k) (by omega)
        rw [h1, ← hx] at kx
        have hl := HL.out
        have hx1 : (x : Int) < (L : Int) := by omega
        have HN : Hid (x + 1 = p + (encB bs).length) := by show _ = _; omega
        clear h1 h2 hx hbl hl hk hlt
        go_wp2
        go_ret2
        exact ⟨by rw [← HN.out]; go_num, rfl⟩
end Go.Proofs.Qxb6614843a
