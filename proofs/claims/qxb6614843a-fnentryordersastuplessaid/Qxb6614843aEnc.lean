/-
  The plain encoding of values, and the contracts of tuple.Append at one value.
-/
import Derived.Test.Qxb6614843aApp
namespace Go.Proofs.Qxb6614843a
set_option linter.unusedVariables false
open Go.RowKit
/-- the encoding of the int64 0 -/
def encZ : List Int := [128, 0, 0, 0, 0, 0, 0, 0]
/-- one byte, escaped -/
def esc1 (c : Int) : List Int := if c = 0 then [1, 1] else if c = 1 then [1, 2] else [c]
def escs (bs : List Int) : List Int := bs.flatMap esc1
/-- the marker ahead of a string whose first byte is fe or ff -/
def mark (bs : List Int) : List Int := if 0 < bs.length ∧ 254 ≤ bs.getD 0 0 then [254] else []
/-- the encoding of a byte string -/
def encB (bs : List Int) : List Int := mark bs ++ escs bs ++ [0]
theorem esc1_len (c : Int) : (esc1 c).length ≤ 2 := by unfold esc1; split <;> (try split) <;> simp
theorem escs_len (bs : List Int) : (escs bs).length ≤ 2 * bs.length := by
  induction bs with
  | nil => simp [escs]
  | cons c r ih =>
    have := esc1_len c
    simp only [escs, List.flatMap_cons, List.length_append, List.length_cons] at ih ⊢
    omega
theorem mark_len (bs : List Int) : (mark bs).length ≤ 1 := by unfold mark; split <;> simp
theorem encB_len (bs : List Int) : (encB bs).length ≤ 2 * bs.length + 2 := by
  have := escs_len bs; have := mark_len bs
  simp [encB]; omega
theorem take_snoc (l : List Int) (k : Nat) (h : k < l.length) : l.take (k + 1) = l.take k ++ [l.getD k 0] := by
  rw [List.take_succ_eq_append_getElem h, List.getD_eq_getElem?_getD, List.getElem?_eq_getElem h]; rfl
theorem escs_snoc (l : List Int) (k : Nat) (h : k < l.length) : escs (l.take (k + 1)) = escs (l.take k) ++ esc1 (l.getD k 0) := by
  rw [take_snoc l k h]; simp [escs]
theorem xor_sign : bits .xor .u64 0 9223372036854775808 = 9223372036854775808 := by decide +kernel
set_option maxRecDepth 100000 in
set_option maxHeartbeats 400000 in
theorem append_int (D : Nat) (v : Value) (xs : List Int) (w : World) (h : Owns w D v xs) (hD : D ≤ w.heap.size) (hn : xs.length ≤ 2097152) (g : Nat) (hgw : g < w.heap.size) (c0 : w.cell? ⟨g, 0, none⟩ = some (.int .u8 0)) (c1 : w.cell? ⟨g, 1, none⟩ = some (.int .i64 0)) (c2 : w.cell? ⟨g, 2, none⟩ = some (.slice none 0 0)) :
    Calls Try.prog 35 #[v, .slice (some ⟨g, 0, none⟩) 1 1] w fun e w' => ∃ v', e = .returned v' ∧ Owns w' D v' (xs ++ encZ) ∧ Below D w w' := by
  have HO : Hid (Owns w D v xs) := h
  clear h
  go_enter Try.func35, Try.ntmps35
  go_wp2
  go_loopw [11, 0] (fun i s wr => (i = .int .i64 0 ∧ s = v ∧ wr = w) ∨ (i = .int .i64 1 ∧ Owns wr D s (xs ++ encZ) ∧ Below D w wr)) (fun i _ _ => 1 - (intOf i).toNat)
  case atStart => exact .inl ⟨rfl, rfl, rfl⟩
  case round =>
    rcases hrel with ⟨rfl, rfl, rfl⟩ | ⟨rfl, ho, hb⟩
    · go_wp2_with fail
      generalize hu : bits BinOp.xor IntKind.u64 0 9223372036854775808 = u
      have HU : Hid (bits BinOp.xor IntKind.u64 0 9223372036854775808 = u) := hu
      have hu0 : 0 ≤ u := by rw [← hu, xor_sign]; decide
      clear hu
      refine (append64 D _ xs _ (HO.out.alloc _) (by simp; omega) hn u hu0).mono ?_
      rintro e w1 ⟨v1, rfl, ho1, hg1⟩
      have HO1 : Hid (Owns w1 D v1 (xs ++ encZ)) := by
        have e : u = 9223372036854775808 := by rw [← HU.out, xor_sign]
        rw [e, sign_bytes] at ho1
        exact ho1
      have HB1 : Hid (Below D wr w1) := HO.out.below hD (grown_alloc hg1)
      clear ho1 hg1
      go_wp2
      go_roundw
      case rel => exact .inr ⟨by go_num, HO1.out, HB1.out⟩
      case measure => simp [intOf]
    · go_wp2
      go_ret
      exact ⟨_, rfl, ho, hb⟩
set_option maxRecDepth 100000 in
set_option maxHeartbeats 1600000 in
theorem append_empty (D : Nat) (v : Value) (xs bs : List Int) (w : World) (h : Owns w D v xs) (hD : D ≤ w.heap.size) (hn : xs.length + 2 * bs.length + 2 ≤ 2097152) (g : Nat) (hgw : g < w.heap.size) (A : Option Addr) (C : Nat) (c0 : w.cell? ⟨g, 0, none⟩ = some (.int .u8 1)) (c1 : w.cell? ⟨g, 1, none⟩ = some (.int .i64 0)) (c2 : w.cell? ⟨g, 2, none⟩ = some (.slice A 0 C))
    (hL : bs.length = 0) :
    Calls Try.prog 35 #[v, .slice (some ⟨g, 0, none⟩) 1 1] w fun e w' => ∃ v', e = .returned v' ∧ Owns w' D v' (xs ++ encB bs) ∧ Below D w w' := by
  have HO : Hid (Owns w D v xs) := h
  have HL : Hid (bs.length = 0) := hL
  have hml := mark_len bs
  clear h
  go_enter Try.func35, Try.ntmps35
  go_wp2
  go_loopw [11, 0] (fun i s wr => (i = .int .i64 0 ∧ s = v ∧ wr = w) ∨ (i = .int .i64 1 ∧ Owns wr D s (xs ++ encB bs) ∧ Below D w wr)) (fun i _ _ => 1 - (intOf i).toNat)
  case atStart => exact .inl ⟨rfl, rfl, rfl⟩
  case round =>
    rcases hrel with ⟨rfl, rfl, rfl⟩ | ⟨rfl, ho, hb⟩
    · obtain ⟨wo, hwo⟩ : ∃ wo : World, wo = wr := ⟨_, rfl⟩
      subst hwo
      have HO1 : Hid (Owns (wo.alloc (.cells #[.int .u8 1, .int .i64 0, .slice A 0 C] 46)) D u0 (xs ++ mark bs)) := by
        have e : mark bs = [] := by unfold mark; rw [if_neg (by rw [HL.out]; omega)]
        show Owns _ _ _ _
        rw [e, List.append_nil]; exact HO.out.alloc _
      have HB1 : Hid (Below D wo (wo.alloc (.cells #[.int .u8 1, .int .i64 0, .slice A 0 C] 46))) := (Below.refl D wo).alloc hD _
      have hbs : Hid (bs = []) := List.eq_nil_of_length_eq_zero HL.out
      clear hL
      go_wp2_with fail
      go_loopw [42, 0] (fun i s wi => ∃ k : Nat, k ≤ 0 ∧ i = .int .i64 k ∧ Owns wi D s (xs ++ mark bs ++ escs (bs.take k)) ∧ Below D wo wi) (fun i _ _ => 0 - (intOf i).toNat)
      case atStart => exact ⟨0, Nat.zero_le _, rfl, by have := HO1.out; simpa [escs] using this, HB1.out⟩
      case round =>
      obtain ⟨k, hk, rfl, hoi, hbi⟩ := hrel
      obtain ⟨ys, hys⟩ : ∃ ys, ys = xs ++ mark bs ++ escs (bs.take k) := ⟨_, rfl⟩
      have hyl : ys.length ≤ 2097152 := by
        have h1 := escs_len (bs.take k)
        have h2 : (bs.take k).length ≤ bs.length := by simp; omega
        rw [hys]; simp only [List.length_append]; omega
      rw [← hys] at hoi
      have HY : Hid (ys = xs ++ mark bs ++ escs (bs.take k)) := hys
      have HOi : Hid (Owns wr D _ ys) := hoi
      have HBi : Hid (Below D wo wr) := hbi
      have hDi : D ≤ wr.heap.size := by have := hbi.size; omega
      clear hoi hbi hys
      have hlt : ¬ k < 0 := by omega
      obtain rfl : k = 0 := by omega
      go_wp2_with (at_builtin; refine wp_app rfl _ _ rfl _ D _ ys [0] rfl (HOi.out.alloc _) _ 1 rfl rfl (new_cells _ _ _ rfl _ rfl) (by simp; omega) (by simp only [List.length_cons, List.length_nil]; omega) ?_)
      intro v2 w2 ho2 hg2
      have HB2 : Hid (Below D wo w2) := HBi.out.trans (HOi.out.below hDi (grown_alloc hg2.out))
      have HO2 : Hid (Owns w2 D v2 (xs ++ encB bs)) := by
        have h2 := ho2.out
        have e : ys ++ [0] = xs ++ encB bs := by rw [HY.out, hbs.out]; simp [encB, escs]
        rw [e] at h2
        exact h2
      clear hg2 ho2
      go_wp2
      go_roundw
      case rel => exact .inr ⟨by go_num, HO2.out, HB2.out⟩
      case measure => simp [intOf]
    · go_wp2
      go_ret
      exact ⟨_, rfl, ho, hb⟩
set_option maxRecDepth 100000 in
set_option maxHeartbeats 1600000 in
theorem append_marked (D : Nat) (v : Value) (xs bs : List Int) (w : World) (h : Owns w D v xs) (hD : D ≤ w.heap.size) (hn : xs.length + 2 * bs.length + 2 ≤ 2097152) (g : Nat) (hgw : g < w.heap.size) (b o L C : Nat) (c0 : w.cell? ⟨g, 0, none⟩ = some (.int .u8 1)) (c1 : w.cell? ⟨g, 1, none⟩ = some (.int .i64 0)) (c2 : w.cell? ⟨g, 2, none⟩ = some (.slice (some ⟨b, o, none⟩) L C))
    (hL : bs.length = L) (hL0 : 0 < L) (hbD : b < D) (cells : ∀ j, j < L → w.cell? ⟨b, o + j, none⟩ = some (.int .u8 (bs.getD j 0))) (hm : 254 ≤ bs.getD 0 0) :
    Calls Try.prog 35 #[v, .slice (some ⟨g, 0, none⟩) 1 1] w fun e w' => ∃ v', e = .returned v' ∧ Owns w' D v' (xs ++ encB bs) ∧ Below D w w' := by
  have HO : Hid (Owns w D v xs) := h
  have HL : Hid (bs.length = L) := hL
  have hml := mark_len bs
  clear h
  obtain ⟨c, hc⟩ : ∃ c, c = bs.getD 0 0 := ⟨_, rfl⟩
  have k0 : w.cell? ⟨b, o, none⟩ = some (.int .u8 c) := by rw [hc]; simpa using cells 0 hL0
  have hLi : (0 : Int) < (L : Int) := by omega
  have hLb : L ≤ 1048576 := by omega
  have hbw : b < w.heap.size := by omega
  have HCe : Hid (∀ j, j < L → w.cell? ⟨b, o + j, none⟩ = some (.int .u8 (bs.getD j 0))) := cells
  have hmc : 254 ≤ c := by rw [hc]; exact hm
  have HM : Hid (mark bs = [254]) := by show _ = _; unfold mark; rw [if_pos ⟨by rw [hL]; omega, hm⟩]
  clear cells hc hm hL
  go_enter Try.func35, Try.ntmps35
  go_wp2
  go_loopw [11, 0] (fun i s wr => (i = .int .i64 0 ∧ s = v ∧ wr = w) ∨ (i = .int .i64 1 ∧ Owns wr D s (xs ++ encB bs) ∧ Below D w wr)) (fun i _ _ => 1 - (intOf i).toNat)
  case atStart => exact .inl ⟨rfl, rfl, rfl⟩
  case round =>
    rcases hrel with ⟨rfl, rfl, rfl⟩ | ⟨rfl, ho, hb⟩
    · obtain ⟨wo, hwo⟩ : ∃ wo : World, wo = wr := ⟨_, rfl⟩
      subst hwo
      go_wp2_with (at_builtin; refine wp_app rfl _ _ rfl _ D _ xs [254] rfl ((HO.out.alloc _).alloc _) (wo.heap.size + 1) 1 rfl rfl (new_cells _ _ _ rfl _ (by simp)) (by simp; omega) (by simp only [List.length_cons, List.length_nil]; omega) ?_)
      intro v1 w1 ho1 hg1
      have HO1 : Hid (Owns w1 D v1 (xs ++ mark bs)) := by show Owns _ _ _ _; rw [HM.out]; exact ho1.out
      have hg1' := grown_alloc hg1.out
      have kp : w1.cell? ⟨wo.heap.size, 2, none⟩ = some (.slice (some ⟨b, o, none⟩) L C) := hg1'.cell (by go_simp) (by
        intro he
        have := (World.ownsRow.lt HO.out _ he.symm).2
        exact absurd this (Nat.lt_irrefl _))
      have HB1 : Hid (Below D wo w1) := HO.out.below hD (grown_alloc hg1')
      clear ho1 hg1 hg1'
      go_wp2_with fail
      go_loopw [42, 0] (fun i s wi => ∃ k : Nat, k ≤ L ∧ i = .int .i64 k ∧ Owns wi D s (xs ++ mark bs ++ escs (bs.take k)) ∧ Below D wo wi) (fun i _ _ => L - (intOf i).toNat)
      case atStart => exact ⟨0, Nat.zero_le _, rfl, by have := HO1.out; simpa [escs] using this, HB1.out⟩
      case round =>
      obtain ⟨k, hk, rfl, hoi, hbi⟩ := hrel
      obtain ⟨ys, hys⟩ : ∃ ys, ys = xs ++ mark bs ++ escs (bs.take k) := ⟨_, rfl⟩
      have hyl : ys.length ≤ 2097152 := by
        have h1 := escs_len (bs.take k)
        have h2 : (bs.take k).length ≤ bs.length := by simp; omega
        rw [hys]; simp only [List.length_append]; omega
      rw [← hys] at hoi
      have HY : Hid (ys = xs ++ mark bs ++ escs (bs.take k)) := hys
      have HOi : Hid (Owns wr D _ ys) := hoi
      have HBi : Hid (Below D wo wr) := hbi
      have hDi : D ≤ wr.heap.size := by have := hbi.size; omega
      clear hoi hbi hys
      by_cases hlt : k < L
      · obtain ⟨c, hc⟩ : ∃ c, c = bs.getD k 0 := ⟨_, rfl⟩
        have kc : wr.cell? ⟨b, o + k, none⟩ = some (.int .u8 c) := by rw [HBi.out.cell (by exact hbD), HCe.out k hlt, hc]
        have hki : (k : Int) < (L : Int) := by omega
        have HS : Hid (escs (bs.take (k + 1)) = escs (bs.take k) ++ esc1 c) := by show _ = _; rw [hc]; exact escs_snoc bs k (by rw [HL.out]; exact hlt)
        clear hc
        by_cases h0 : c = 0
        · subst h0
          go_wp2_with (at_builtin; refine wp_app rfl _ _ rfl _ D _ ys [1, 1] rfl (HOi.out.alloc _) _ 2 rfl rfl (new_cells _ _ _ rfl _ rfl) (by simp; omega) (by simp only [List.length_cons, List.length_nil]; omega) ?_)
          intro v2 w2 ho2 hg2
          have HB2 : Hid (Below D wo w2) := HBi.out.trans (HOi.out.below hDi (grown_alloc hg2.out))
          have HO2 : Hid (Owns w2 D v2 (xs ++ mark bs ++ escs (bs.take (k + 1)))) := by
            have h2 := ho2.out
            rw [HY.out, List.append_assoc (xs ++ mark bs), show escs (bs.take k) ++ [1, 1] = escs (bs.take (k + 1)) from by rw [HS.out]; rfl] at h2
            exact h2
          clear hg2 ho2
          go_wp2
          go_roundw
          case rel => exact ⟨k + 1, by omega, by go_num, HO2.out, HB2.out⟩
          case measure => simp [intOf]; omega
        · have e0 : (c == 0) = false := by simpa using h0
          by_cases h1 : c = 1
          · subst h1
            go_wp2_with (at_builtin; refine wp_app rfl _ _ rfl _ D _ ys [1, 2] rfl (HOi.out.alloc _) _ 2 rfl rfl (new_cells _ _ _ rfl _ rfl) (by simp; omega) (by simp only [List.length_cons, List.length_nil]; omega) ?_)
            intro v2 w2 ho2 hg2
            have HB2 : Hid (Below D wo w2) := HBi.out.trans (HOi.out.below hDi (grown_alloc hg2.out))
            have HO2 : Hid (Owns w2 D v2 (xs ++ mark bs ++ escs (bs.take (k + 1)))) := by
              have h2 := ho2.out
              rw [HY.out, List.append_assoc (xs ++ mark bs), show escs (bs.take k) ++ [1, 2] = escs (bs.take (k + 1)) from by rw [HS.out]; rfl] at h2
              exact h2
            clear hg2 ho2
            go_wp2
            go_roundw
            case rel => exact ⟨k + 1, by omega, by go_num, HO2.out, HB2.out⟩
            case measure => simp [intOf]; omega
          · have e1 : (c == 1) = false := by simpa using h1
            have HE : Hid (esc1 c = [c]) := by show _ = _; unfold esc1; rw [if_neg h0, if_neg h1]
            go_wp2_with (at_builtin; refine wp_app rfl _ _ rfl _ D _ ys [c] rfl (HOi.out.alloc _) _ 1 rfl rfl (new_cells _ _ _ rfl _ rfl) (by simp; omega) (by simp only [List.length_cons, List.length_nil]; omega) ?_)
            intro v2 w2 ho2 hg2
            have HB2 : Hid (Below D wo w2) := HBi.out.trans (HOi.out.below hDi (grown_alloc hg2.out))
            have HO2 : Hid (Owns w2 D v2 (xs ++ mark bs ++ escs (bs.take (k + 1)))) := by
              have h2 := ho2.out
              rw [HY.out, List.append_assoc (xs ++ mark bs), show escs (bs.take k) ++ [c] = escs (bs.take (k + 1)) from by rw [HS.out, HE.out]] at h2
              exact h2
            clear hg2 ho2
            go_wp2
            go_roundw
            case rel => exact ⟨k + 1, by omega, by go_num, HO2.out, HB2.out⟩
            case measure => simp [intOf]; omega
      · obtain rfl : k = L := by omega
        go_wp2_with (at_builtin; refine wp_app rfl _ _ rfl _ D _ ys [0] rfl (HOi.out.alloc _) _ 1 rfl rfl (new_cells _ _ _ rfl _ rfl) (by simp; omega) (by simp only [List.length_cons, List.length_nil]; omega) ?_)
        intro v2 w2 ho2 hg2
        have HB2 : Hid (Below D wo w2) := HBi.out.trans (HOi.out.below hDi (grown_alloc hg2.out))
        have HO2 : Hid (Owns w2 D v2 (xs ++ encB bs)) := by
          have h2 := ho2.out
          have e : ys ++ [0] = xs ++ encB bs := by rw [HY.out, List.take_of_length_le (by rw [HL.out]; exact Nat.le_refl _)]; simp [encB, escs]
          rw [e] at h2
          exact h2
        clear hg2 ho2
        go_wp2
        go_roundw
        case rel => exact .inr ⟨by go_num, HO2.out, HB2.out⟩
        case measure => simp [intOf]
    · go_wp2
      go_ret
      exact ⟨_, rfl, ho, hb⟩
set_option maxRecDepth 100000 in
set_option maxHeartbeats 1600000 in
theorem append_plain (D : Nat) (v : Value) (xs bs : List Int) (w : World) (h : Owns w D v xs) (hD : D ≤ w.heap.size) (hn : xs.length + 2 * bs.length + 2 ≤ 2097152) (g : Nat) (hgw : g < w.heap.size) (b o L C : Nat) (c0 : w.cell? ⟨g, 0, none⟩ = some (.int .u8 1)) (c1 : w.cell? ⟨g, 1, none⟩ = some (.int .i64 0)) (c2 : w.cell? ⟨g, 2, none⟩ = some (.slice (some ⟨b, o, none⟩) L C))
    (hL : bs.length = L) (hL0 : 0 < L) (hbD : b < D) (cells : ∀ j, j < L → w.cell? ⟨b, o + j, none⟩ = some (.int .u8 (bs.getD j 0))) (hm : ¬ 254 ≤ bs.getD 0 0) :
    Calls Try.prog 35 #[v, .slice (some ⟨g, 0, none⟩) 1 1] w fun e w' => ∃ v', e = .returned v' ∧ Owns w' D v' (xs ++ encB bs) ∧ Below D w w' := by
  have HO : Hid (Owns w D v xs) := h
  have HL : Hid (bs.length = L) := hL
  have hml := mark_len bs
  clear h
  obtain ⟨c, hc⟩ : ∃ c, c = bs.getD 0 0 := ⟨_, rfl⟩
  have k0 : w.cell? ⟨b, o, none⟩ = some (.int .u8 c) := by rw [hc]; simpa using cells 0 hL0
  have hLi : (0 : Int) < (L : Int) := by omega
  have hLb : L ≤ 1048576 := by omega
  have hbw : b < w.heap.size := by omega
  have HCe : Hid (∀ j, j < L → w.cell? ⟨b, o + j, none⟩ = some (.int .u8 (bs.getD j 0))) := cells
  have hmc : ¬ 254 ≤ c := by rw [hc]; exact hm
  have HM : Hid (mark bs = []) := by show _ = _; unfold mark; rw [if_neg (by intro h; exact hm h.2)]
  clear cells hc hm hL
  go_enter Try.func35, Try.ntmps35
  go_wp2
  go_loopw [11, 0] (fun i s wr => (i = .int .i64 0 ∧ s = v ∧ wr = w) ∨ (i = .int .i64 1 ∧ Owns wr D s (xs ++ encB bs) ∧ Below D w wr)) (fun i _ _ => 1 - (intOf i).toNat)
  case atStart => exact .inl ⟨rfl, rfl, rfl⟩
  case round =>
    rcases hrel with ⟨rfl, rfl, rfl⟩ | ⟨rfl, ho, hb⟩
    · obtain ⟨wo, hwo⟩ : ∃ wo : World, wo = wr := ⟨_, rfl⟩
      subst hwo
      have HO1 : Hid (Owns (wo.alloc (.cells #[.int .u8 1, .int .i64 0, .slice (some ⟨b, o, none⟩) L C] 46)) D u0 (xs ++ mark bs)) := by
        show Owns _ _ _ _
        rw [HM.out, List.append_nil]; exact HO.out.alloc _
      have HB1 : Hid (Below D wo (wo.alloc (.cells #[.int .u8 1, .int .i64 0, .slice (some ⟨b, o, none⟩) L C] 46))) := (Below.refl D wo).alloc hD _
      go_wp2_with fail
      go_loopw [42, 0] (fun i s wi => ∃ k : Nat, k ≤ L ∧ i = .int .i64 k ∧ Owns wi D s (xs ++ mark bs ++ escs (bs.take k)) ∧ Below D wo wi) (fun i _ _ => L - (intOf i).toNat)
      case atStart => exact ⟨0, Nat.zero_le _, rfl, by have := HO1.out; simpa [escs] using this, HB1.out⟩
      case round =>
      obtain ⟨k, hk, rfl, hoi, hbi⟩ := hrel
      obtain ⟨ys, hys⟩ : ∃ ys, ys = xs ++ mark bs ++ escs (bs.take k) := ⟨_, rfl⟩
      have hyl : ys.length ≤ 2097152 := by
        have h1 := escs_len (bs.take k)
        have h2 : (bs.take k).length ≤ bs.length := by simp; omega
        rw [hys]; simp only [List.length_append]; omega
      rw [← hys] at hoi
      have HY : Hid (ys = xs ++ mark bs ++ escs (bs.take k)) := hys
      have HOi : Hid (Owns wr D _ ys) := hoi
      have HBi : Hid (Below D wo wr) := hbi
      have hDi : D ≤ wr.heap.size := by have := hbi.size; omega
      clear hoi hbi hys
      by_cases hlt : k < L
      · obtain ⟨c, hc⟩ : ∃ c, c = bs.getD k 0 := ⟨_, rfl⟩
        have kc : wr.cell? ⟨b, o + k, none⟩ = some (.int .u8 c) := by rw [HBi.out.cell (by exact hbD), HCe.out k hlt, hc]
        have hki : (k : Int) < (L : Int) := by omega
        have HS : Hid (escs (bs.take (k + 1)) = escs (bs.take k) ++ esc1 c) := by show _ = _; rw [hc]; exact escs_snoc bs k (by rw [HL.out]; exact hlt)
        clear hc
        by_cases h0 : c = 0
        · subst h0
          go_wp2_with (at_builtin; refine wp_app rfl _ _ rfl _ D _ ys [1, 1] rfl (HOi.out.alloc _) _ 2 rfl rfl (new_cells _ _ _ rfl _ rfl) (by simp; omega) (by simp only [List.length_cons, List.length_nil]; omega) ?_)
          intro v2 w2 ho2 hg2
          have HB2 : Hid (Below D wo w2) := HBi.out.trans (HOi.out.below hDi (grown_alloc hg2.out))
          have HO2 : Hid (Owns w2 D v2 (xs ++ mark bs ++ escs (bs.take (k + 1)))) := by
            have h2 := ho2.out
            rw [HY.out, List.append_assoc (xs ++ mark bs), show escs (bs.take k) ++ [1, 1] = escs (bs.take (k + 1)) from by rw [HS.out]; rfl] at h2
            exact h2
          clear hg2 ho2
          go_wp2
          go_roundw
          case rel => exact ⟨k + 1, by omega, by go_num, HO2.out, HB2.out⟩
          case measure => simp [intOf]; omega
        · have e0 : (c == 0) = false := by simpa using h0
          by_cases h1 : c = 1
          · subst h1
            go_wp2_with (at_builtin; refine wp_app rfl _ _ rfl _ D _ ys [1, 2] rfl (HOi.out.alloc _) _ 2 rfl rfl (new_cells _ _ _ rfl _ rfl) (by simp; omega) (by simp only [List.length_cons, List.length_nil]; omega) ?_)
            intro v2 w2 ho2 hg2
            have HB2 : Hid (Below D wo w2) := HBi.out.trans (HOi.out.below hDi (grown_alloc hg2.out))
            have HO2 : Hid (Owns w2 D v2 (xs ++ mark bs ++ escs (bs.take (k + 1)))) := by
              have h2 := ho2.out
              rw [HY.out, List.append_assoc (xs ++ mark bs), show escs (bs.take k) ++ [1, 2] = escs (bs.take (k + 1)) from by rw [HS.out]; rfl] at h2
              exact h2
            clear hg2 ho2
            go_wp2
            go_roundw
            case rel => exact ⟨k + 1, by omega, by go_num, HO2.out, HB2.out⟩
            case measure => simp [intOf]; omega
          · have e1 : (c == 1) = false := by simpa using h1
            have HE : Hid (esc1 c = [c]) := by show _ = _; unfold esc1; rw [if_neg h0, if_neg h1]
            go_wp2_with (at_builtin; refine wp_app rfl _ _ rfl _ D _ ys [c] rfl (HOi.out.alloc _) _ 1 rfl rfl (new_cells _ _ _ rfl _ rfl) (by simp; omega) (by simp only [List.length_cons, List.length_nil]; omega) ?_)
            intro v2 w2 ho2 hg2
            have HB2 : Hid (Below D wo w2) := HBi.out.trans (HOi.out.below hDi (grown_alloc hg2.out))
            have HO2 : Hid (Owns w2 D v2 (xs ++ mark bs ++ escs (bs.take (k + 1)))) := by
              have h2 := ho2.out
              rw [HY.out, List.append_assoc (xs ++ mark bs), show escs (bs.take k) ++ [c] = escs (bs.take (k + 1)) from by rw [HS.out, HE.out]] at h2
              exact h2
            clear hg2 ho2
            go_wp2
            go_roundw
            case rel => exact ⟨k + 1, by omega, by go_num, HO2.out, HB2.out⟩
            case measure => simp [intOf]; omega
      · obtain rfl : k = L := by omega
        go_wp2_with (at_builtin; refine wp_app rfl _ _ rfl _ D _ ys [0] rfl (HOi.out.alloc _) _ 1 rfl rfl (new_cells _ _ _ rfl _ rfl) (by simp; omega) (by simp only [List.length_cons, List.length_nil]; omega) ?_)
        intro v2 w2 ho2 hg2
        have HB2 : Hid (Below D wo w2) := HBi.out.trans (HOi.out.below hDi (grown_alloc hg2.out))
        have HO2 : Hid (Owns w2 D v2 (xs ++ encB bs)) := by
          have h2 := ho2.out
          have e : ys ++ [0] = xs ++ encB bs := by rw [HY.out, List.take_of_length_le (by rw [HL.out]; exact Nat.le_refl _)]; simp [encB, escs]
          rw [e] at h2
          exact h2
        clear hg2 ho2
        go_wp2
        go_roundw
        case rel => exact .inr ⟨by go_num, HO2.out, HB2.out⟩
        case measure => simp [intOf]
    · go_wp2
      go_ret
      exact ⟨_, rfl, ho, hb⟩
/-- tuple.Append of one byte string. -/
theorem append_bytes (D : Nat) (v : Value) (xs bs : List Int) (w : World) (h : Owns w D v xs) (hD : D ≤ w.heap.size) (hn : xs.length + 2 * bs.length + 2 ≤ 2097152) (g : Nat) (hgw : g < w.heap.size) (A : Option Addr) (L C : Nat) (c0 : w.cell? ⟨g, 0, none⟩ = some (.int .u8 1)) (c1 : w.cell? ⟨g, 1, none⟩ = some (.int .i64 0)) (c2 : w.cell? ⟨g, 2, none⟩ = some (.slice A L C))
    (hL : bs.length = L) (hA : 0 < L → ∃ b o, A = some ⟨b, o, none⟩ ∧ b < D ∧ ∀ j, j < L → w.cell? ⟨b, o + j, none⟩ = some (.int .u8 (bs.getD j 0))) :
    Calls Try.prog 35 #[v, .slice (some ⟨g, 0, none⟩) 1 1] w fun e w' => ∃ v', e = .returned v' ∧ Owns w' D v' (xs ++ encB bs) ∧ Below D w w' := by
  by_cases h0 : L = 0
  · subst h0
    exact append_empty D v xs bs w h hD hn g hgw A C c0 c1 c2 hL
  · obtain ⟨b, o, rfl, hbD, cells⟩ := hA (by omega)
    by_cases hm : 254 ≤ bs.getD 0 0
    · exact append_marked D v xs bs w h hD hn g hgw b o L C c0 c1 c2 hL (by omega) hbD cells hm
    · exact append_plain D v xs bs w h hD hn g hgw b o L C c0 c1 c2 hL (by omega) hbD cells hm
end Go.Proofs.Qxb6614843a
