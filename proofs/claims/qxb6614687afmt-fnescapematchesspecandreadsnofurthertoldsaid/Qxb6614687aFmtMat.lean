/-
  THE WALK of FnEscapeMatchesSpecAndReadsNoFurther, and the plain law that the answer hangs on no byte behind where it stops.
-/
import Derived.Test.Qxb6614687aFmtModel
namespace Go.Proofs.Qxb6614687aFmt
set_option linter.unusedVariables false
open Go.RowKit Go.Extern.Stop Go.Stop Go.Extern

/-! ### the plain law -/
theorem hex4L_take (l : List Int) (m : Nat) (h : 4 ≤ m) : hex4L (l.take m) = hex4L l := by
  unfold hex4L
  by_cases hl : l.length < 4
  · rw [if_pos hl, if_pos (by simp; omega)]
  · rw [if_neg hl, if_neg (by simp; omega), List.take_take, Nat.min_eq_left h]
theorem getD_take (l : List Int) (m j : Nat) (h : j < m) : (l.take m).getD j 0 = l.getD j 0 := by
  rw [List.getD_eq_getElem?_getD, List.getD_eq_getElem?_getD, List.getElem?_take_of_lt h]
theorem lowOf_take (l : List Int) (m : Nat) (h : 6 ≤ m) : lowOf (l.take m) = lowOf l := by
  unfold lowOf
  rw [getD_take _ _ _ (by omega), getD_take _ _ _ (by omega)]
  by_cases hl : 6 ≤ l.length ∧ l.getD 0 0 = 92 ∧ l.getD 1 0 = 117
  · rw [if_pos hl, if_pos ⟨by simp; omega, hl.2⟩, List.drop_take, hex4L_take _ _ (by omega)]
  · rw [if_neg hl, if_neg]
    rintro ⟨h1, h2⟩
    exact hl ⟨by simp at h1; omega, h2⟩
theorem lowOf_nil {l : List Int} (h : l.length = 0) : lowOf l = none := by
  unfold lowOf
  rw [if_neg]
  rintro ⟨h1, _⟩
  omega
theorem hex4L_len {l : List Int} {u : Int} (h : hex4L l = some u) : 4 ≤ l.length := by
  unfold hex4L at h
  by_cases hl : l.length < 4
  · rw [if_pos hl] at h; cases h
  · omega
theorem lowOf_len {l : List Int} {u : Int} (h : lowOf l = some u) : 6 ≤ l.length := by
  unfold lowOf at h
  by_cases hl : 6 ≤ l.length ∧ l.getD 0 0 = 92 ∧ l.getD 1 0 = 117
  · exact hl.1
  · rw [if_neg hl] at h; cases h
theorem uniR_take (l : List Int) : uniR (l.take (uniR l).2.1) = uniR l ∧ (uniR l).2.1 ≤ l.length := by
  cases hx : hex4L l with
  | none =>
    rw [uniR_bad hx]
    exact ⟨uniR_bad (by unfold hex4L; rw [if_pos (by simp)]), by simp⟩
  | some u =>
    have h4 := hex4L_len hx
    by_cases hu : u < 55296 ∨ 57343 < u
    · rw [uniR_bmp hx hu]
      exact ⟨uniR_bmp (by rw [hex4L_take _ _ (by simp)]; exact hx) hu, h4⟩
    · have hu' : 55296 ≤ u ∧ u ≤ 57343 := by omega
      have hlone : uniR l = (65533, 4, true, true) → uniR (l.take (uniR l).2.1) = uniR l ∧ (uniR l).2.1 ≤ l.length := by
        intro h
        rw [h]
        exact ⟨uniR_lone0 (by rw [hex4L_take _ _ (by simp)]; exact hx) hu' (lowOf_nil (by simp)), h4⟩
      cases hl : lowOf (l.drop 4) with
      | none => exact hlone (uniR_lone0 hx hu' hl)
      | some lo =>
        by_cases h3 : u ≤ 56319 ∧ 56320 ≤ lo ∧ lo ≤ 57343
        · have h6 := lowOf_len hl
          rw [uniR_pair hx ⟨hu'.1, h3.1⟩ hl h3.2]
          refine ⟨uniR_pair (by rw [hex4L_take _ _ (by simp)]; exact hx) ⟨hu'.1, h3.1⟩ ?_ h3.2, by simp at h6 ⊢; omega⟩
          rw [List.drop_take, lowOf_take _ _ (by simp)]
          exact hl
        · exact hlone (uniR_lone1 hx hu' hl (by omega))
theorem escR_take (l : List Int) : escR (l.take (escR l).2.1) = escR l ∧ (escR l).2.1 ≤ l.length := by
  by_cases h0 : l.length = 0
  · rw [escR_end h0]
    exact ⟨escR_end (by simp), by simp⟩
  · by_cases h1 : l.getD 0 0 = 117
    · have he := escR_u h0 h1
      have hu := uniR_take (l.drop 1)
      have hk : (escR l).2.1 = (uniR (l.drop 1)).2.1 + 1 := by rw [he]
      rw [hk]
      have e2 := escR_u (l := l.take ((uniR (l.drop 1)).2.1 + 1)) (by simp; exact fun h => h0 (by simp [h])) (by rw [getD_take _ _ _ (by omega)]; exact h1)
      rw [List.drop_take, Nat.add_sub_cancel, hu.1] at e2
      exact ⟨by rw [e2, he], by have := hu.2; rw [List.length_drop] at this; omega⟩
    · cases hs : simpleV (l.getD 0 0) with
      | none =>
        rw [escR_bad h0 h1 hs]
        exact ⟨escR_end (by simp), by simp⟩
      | some c =>
        rw [escR_simple h0 h1 hs]
        exact ⟨escR_simple (by simp; exact fun h => h0 (by simp [h])) (by rw [getD_take _ _ _ (by simp)]; exact h1) (by rw [getD_take _ _ _ (by simp)]; exact hs), by simp; omega⟩
theorem cut_same {zs : List Int} {i k : Nat} {c : Int} {fl ok : Bool} (h : escR (zs.drop (i + 1)) = (c, k, fl, ok)) : escR ((zs.take (i + 1 + k)).drop (i + 1)) = (c, k, fl, ok) := by
  have h2 := (escR_take (zs.drop (i + 1))).1
  rw [h] at h2
  rw [List.drop_take, show i + 1 + k - (i + 1) = k from by omega]
  exact h2
theorem cut_fits {zs : List Int} {i k n : Nat} {c : Int} {fl ok : Bool} (hlen : zs.length = n) (hi : i < n) (h : escR (zs.drop (i + 1)) = (c, k, fl, ok)) : i + 1 + k ≤ n := by
  have h2 := (escR_take (zs.drop (i + 1))).2
  rw [h] at h2
  simp at h2
  omega

/-! ### the model at a known plain answer -/
theorem model_at (b o n cap i : Nat) (zs : List Int) (c : Int) (k : Nat) (fl ok : Bool) (w : World) (hn : n ≤ 1048576) (hlen : zs.length = n) (cells : ∀ j, j < n → w.cell? ⟨b, o + j, none⟩ = some (.int .u8 (zs.getD j 0))) (hi : i < n) (hr : escR (zs.drop (i + 1)) = (c, k, fl, ok)) :
    Calls Tryf.prog 8 #[.slice (some ⟨b, o, none⟩) n cap, .int .i64 i] w fun e w' => e = .returned (.tuple #[.int .i32 c, .bool ok, .int .i64 ((i : Int) + 1 + (k : Int)), .bool fl]) ∧ Below w.heap.size w w' := by
  refine (model_any b o n cap i zs w hn hlen cells hi).mono fun e w' h => ⟨?_, h.2⟩
  rw [h.1, hr]
  show Ending.returned (.tuple #[.int .i32 c, .bool ok, .int .i64 ((i + 1 + k : Nat) : Int), .bool fl]) = _
  rw [show ((i + 1 + k : Nat) : Int) = (i : Int) + 1 + (k : Int) from by omega]

/-! ### the walks -/
set_option maxRecDepth 100000 in
set_option maxHeartbeats 800000 in
theorem mat_big (a1 : Option Addr) (n c1 : Nat) (iv : Int) (w : World) (h : 65536 < n) (hn : n ≤ 9223372036854775807) :
    Calls Tryf.prog 3 #[.slice a1 n c1, .int .i64 iv] w fun e w' => e = .returned (.bool true) ∧ Below w.heap.size w w' := by
  go_enter Tryf.func3, Tryf.ntmps3
  go_wp2
  all_goals
    go_ret
    exact ⟨rfl, Below.refl _ _⟩
set_option maxRecDepth 100000 in
set_option maxHeartbeats 800000 in
theorem mat_out (a1 : Option Addr) (n c1 : Nat) (iv : Int) (w : World) (hn : n ≤ 65536) (hi : iv < 0 ∨ (n : Int) ≤ iv) :
    Calls Tryf.prog 3 #[.slice a1 n c1, .int .i64 iv] w fun e w' => e = .returned (.bool true) ∧ Below w.heap.size w w' := by
  by_cases h0 : iv < 0
  · have hd : decide (iv < 0) = true := decide_eq_true h0
    go_enter Tryf.func3, Tryf.ntmps3
    go_wp2
    all_goals
      go_ret
      exact ⟨rfl, Below.refl _ _⟩
  · have hd : decide (iv < 0) = false := decide_eq_false h0
    go_enter Tryf.func3, Tryf.ntmps3
    go_wp2
    all_goals
      go_ret
      exact ⟨rfl, Below.refl _ _⟩
set_option maxRecDepth 100000 in
set_option maxHeartbeats 800000 in
theorem mat_other (b off n c1 i : Nat) (c : Int) (w : World) (hn : n ≤ 65536) (hi : i < n) (k0 : w.cell? ⟨b, off + i, none⟩ = some (.int .u8 c)) (hc : (c != 92) = true) :
    Calls Tryf.prog 3 #[.slice (some ⟨b, off, none⟩) n c1, .int .i64 i] w fun e w' => e = .returned (.bool true) ∧ Below w.heap.size w w' := by
  have hii : (i : Int) < (n : Int) := by omega
  go_enter Tryf.func3, Tryf.ntmps3
  go_wp2
  all_goals
    go_ret
    exact ⟨rfl, Below.refl _ _⟩
set_option maxRecDepth 100000 in
set_option maxHeartbeats 800000 in
theorem mat_ok (F : Interp) (b off n cap : Nat) (zs : List Int) (i : Nat) (c : Int) (k : Nat) (fl : Bool) (w : World) (hF : F.answers w.tape)
    (hn : n ≤ 65536) (hzs : zs.length = n) (hb : b < w.heap.size) (cells : ∀ j, j < n → w.cell? ⟨b, off + j, none⟩ = some (.int .u8 (zs.getD j 0)))
    (hi : i < n) (h92 : zs.getD i 0 = 92) (hr : escR (zs.drop (i + 1)) = (c, k, fl, true)) :
    Calls Tryf.prog 3 #[.slice (some ⟨b, off, none⟩) n cap, .int .i64 i] w fun e w' => e = .returned (.bool true) ∧ Below w.heap.size w w' := by
  have hnil := neq_nil22
  have hmk := make_bytes n n rfl (by omega)
  have k0 : w.cell? ⟨b, off + i, none⟩ = some (.int .u8 92) := by rw [cells i hi, h92]
  have hii : (i : Int) < (n : Int) := by omega
  have hfit := cut_fits hzs hi hr
  have hfi : (i : Int) + 1 + (k : Int) ≤ (n : Int) := by omega
  obtain ⟨w1, hc1, hg1, hB1⟩ := copy_bytes (w.alloc (.cells (madeCells #[.int .u8 0] n) 5)) w.heap.size 0 n n (some ⟨b, off, none⟩) n cap (madeCells #[.int .u8 0] n).toList 5 zs (made_heap w n) hzs (Nat.le_refl _)
    (fun _ => ⟨_, rfl, fun j hj => by rw [addr_add, ((Below.refl w.heap.size w).alloc (Nat.le_refl _) _).cell (by exact hb)]; exact cells j hj⟩) (by rw [made_length]; omega)
  have HR : Hid (escR (zs.drop (i + 1)) = (c, k, fl, true)) := hr
  have HL : Hid (zs.length = n) := hzs
  have hB1' : Below w.heap.size w w1 := ((Below.refl w.heap.size w).alloc (Nat.le_refl _) _).trans hB1
  have hsz1 : w.heap.size < w1.heap.size := by have := hB1.size; simp at this; omega
  rw [splice_all _ _ (by rw [made_length, byteVals_length, hzs])] at hg1
  have HG1 : Hid (w1.heap[w.heap.size]? = some (.cells (byteVals zs).toArray 5 (0, 0))) := hg1
  have HB1 : Hid (Below w.heap.size w w1) := hB1'
  clear hr cells hzs h92 hB1 hB1' hg1
  go_enter Tryf.func3, Tryf.ntmps3
  go_wp2_with (first | (go_at_call 6; go_in) | fail)
  refine (zz_ok F w.heap.size 0 n n i i rfl zs c k fl w1 (by rw [HB1.out.tape]; exact hF) hsz1 HL.out (Nat.le_refl _) (by omega) (by have := row_cells HG1.out; rw [HL.out] at this; exact this) hi HR.out).mono ?_
  rintro e w2 ⟨rfl, hB2⟩
  have hsz2 : w.heap.size < w2.heap.size := by have := hB2.size; omega
  have HB2 : Hid (Below w.heap.size w w2) := HB1.out.trans (hB2.mono (by omega))
  have HG2 : Hid (w2.heap[w.heap.size]? = some (.cells (byteVals zs).toArray 5 (0, 0))) := by show _ = _; rw [hB2.block _ hsz1]; exact HG1.out
  clear hB2
  go_wp2_with fail
  refine (model_at w.heap.size 0 n n i zs c k fl true w2 (by omega) HL.out (by have := row_cells HG2.out; rw [HL.out] at this; exact this) hi HR.out).mono ?_
  rintro e w3 ⟨rfl, hB3⟩
  have hsz3 : w.heap.size < w3.heap.size := by have := hB3.size; omega
  have HB3 : Hid (Below w.heap.size w w3) := HB2.out.trans (hB3.mono (by omega))
  have HG3 : Hid (w3.heap[w.heap.size]? = some (.cells (byteVals zs).toArray 5 (0, 0))) := by show _ = _; rw [hB3.block _ hsz2]; exact HG2.out
  clear hB3
  go_wp2_with fail
  refine (zz_ok F w.heap.size 0 (i + 1 + k) n i i rfl (zs.take (i + 1 + k)) c k fl w3 (by rw [HB3.out.tape]; exact hF) hsz3 (by have := HL.out; simp; omega) (by omega) (by omega) (fun j hj => by rw [getD_take _ _ _ hj]; exact row_cells HG3.out j (by have := HL.out; omega)) (by omega) (cut_same HR.out)).mono ?_
  rintro e w4 ⟨rfl, hB4⟩
  have HB4 : Hid (Below w.heap.size w w4) := HB3.out.trans (hB4.mono (by omega))
  clear hB4
  go_wp2
  go_quiet (fail)
  go_wp2
  go_ret
  exact ⟨rfl, below_drewN HB4.out _⟩
set_option maxRecDepth 100000 in
set_option maxHeartbeats 800000 in
theorem mat_bad (F : Interp) (b off n cap : Nat) (zs : List Int) (i : Nat) (c : Int) (k : Nat) (fl : Bool) (w : World) (hF : F.answers w.tape)
    (hn : n ≤ 65536) (hzs : zs.length = n) (hb : b < w.heap.size) (cells : ∀ j, j < n → w.cell? ⟨b, off + j, none⟩ = some (.int .u8 (zs.getD j 0)))
    (hi : i < n) (h92 : zs.getD i 0 = 92) (hr : escR (zs.drop (i + 1)) = (c, k, fl, false)) :
    Calls Tryf.prog 3 #[.slice (some ⟨b, off, none⟩) n cap, .int .i64 i] w fun e w' => e = .returned (.bool true) ∧ Below w.heap.size w w' := by
  have hnil := neq_nil22
  have hmk := make_bytes n n rfl (by omega)
  have k0 : w.cell? ⟨b, off + i, none⟩ = some (.int .u8 92) := by rw [cells i hi, h92]
  have hii : (i : Int) < (n : Int) := by omega
  have hfit := cut_fits hzs hi hr
  have hfi : (i : Int) + 1 + (k : Int) ≤ (n : Int) := by omega
  obtain ⟨w1, hc1, hg1, hB1⟩ := copy_bytes (w.alloc (.cells (madeCells #[.int .u8 0] n) 5)) w.heap.size 0 n n (some ⟨b, off, none⟩) n cap (madeCells #[.int .u8 0] n).toList 5 zs (made_heap w n) hzs (Nat.le_refl _)
    (fun _ => ⟨_, rfl, fun j hj => by rw [addr_add, ((Below.refl w.heap.size w).alloc (Nat.le_refl _) _).cell (by exact hb)]; exact cells j hj⟩) (by rw [made_length]; omega)
  have HR : Hid (escR (zs.drop (i + 1)) = (c, k, fl, false)) := hr
  have HL : Hid (zs.length = n) := hzs
  have hB1' : Below w.heap.size w w1 := ((Below.refl w.heap.size w).alloc (Nat.le_refl _) _).trans hB1
  have hsz1 : w.heap.size < w1.heap.size := by have := hB1.size; simp at this; omega
  rw [splice_all _ _ (by rw [made_length, byteVals_length, hzs])] at hg1
  have HG1 : Hid (w1.heap[w.heap.size]? = some (.cells (byteVals zs).toArray 5 (0, 0))) := hg1
  have HB1 : Hid (Below w.heap.size w w1) := hB1'
  clear hr cells hzs h92 hB1 hB1' hg1
  go_enter Tryf.func3, Tryf.ntmps3
  go_wp2_with (first | (go_at_call 6; go_in) | fail)
  refine (zz_bad F w.heap.size 0 n n i i rfl zs c k fl w1 (by rw [HB1.out.tape]; exact hF) hsz1 HL.out (Nat.le_refl _) (by omega) (by have := row_cells HG1.out; rw [HL.out] at this; exact this) hi HR.out).mono ?_
  rintro e w2 ⟨t2, x2, rfl, hB2⟩
  have hsz2 : w.heap.size < w2.heap.size := by have := hB2.size; omega
  have HB2 : Hid (Below w.heap.size w w2) := HB1.out.trans (hB2.mono (by omega))
  have HG2 : Hid (w2.heap[w.heap.size]? = some (.cells (byteVals zs).toArray 5 (0, 0))) := by show _ = _; rw [hB2.block _ hsz1]; exact HG1.out
  clear hB2
  go_wp2_with fail
  refine (model_at w.heap.size 0 n n i zs c k fl false w2 (by omega) HL.out (by have := row_cells HG2.out; rw [HL.out] at this; exact this) hi HR.out).mono ?_
  rintro e w3 ⟨rfl, hB3⟩
  have hsz3 : w.heap.size < w3.heap.size := by have := hB3.size; omega
  have HB3 : Hid (Below w.heap.size w w3) := HB2.out.trans (hB3.mono (by omega))
  have HG3 : Hid (w3.heap[w.heap.size]? = some (.cells (byteVals zs).toArray 5 (0, 0))) := by show _ = _; rw [hB3.block _ hsz2]; exact HG2.out
  clear hB3
  go_wp2_with fail
  refine (zz_bad F w.heap.size 0 (i + 1 + k) n i i rfl (zs.take (i + 1 + k)) c k fl w3 (by rw [HB3.out.tape]; exact hF) hsz3 (by have := HL.out; simp; omega) (by omega) (by omega) (fun j hj => by rw [getD_take _ _ _ hj]; exact row_cells HG3.out j (by have := HL.out; omega)) (by omega) (cut_same HR.out)).mono ?_
  rintro e w4 ⟨t4, x4, rfl, hB4⟩
  have HB4 : Hid (Below w.heap.size w w4) := HB3.out.trans (hB4.mono (by omega))
  clear hB4
  go_wp2
  go_quiet (fail)
  go_wp2
  go_ret
  exact ⟨rfl, below_drewN HB4.out _⟩
end Go.Proofs.Qxb6614687aFmt
