/-
  THE WALK of FnEscapeIgnoresWhatPrecedesAndStaysInBounds, way by way, and the plain law on the shape of an answer.
-/
import Derived.Test.Qxb6614687aFmtShape
namespace Go.Proofs.Qxb6614687aFmt
set_option linter.unusedVariables false
open Go.RowKit Go.Extern.Stop Go.Stop Go.Extern
theorem ret_bool {b : Bool} (h : b = true) : Ending.returned (.bool b) = .returned (.bool true) := by rw [h]
set_option maxRecDepth 100000 in
set_option maxHeartbeats 800000 in
theorem ign_big (a0 a1 : Option Addr) (m c0 n c1 : Nat) (iv : Int) (w : World) (h : 65536 < m ∨ 65536 < n) (hm : m ≤ 9223372036854775807) (hn : n ≤ 9223372036854775807) :
    Calls Tryf.prog 4 #[.slice a0 m c0, .slice a1 n c1, .int .i64 iv] w fun e w' => e = .returned (.bool true) ∧ Below w.heap.size w w' := by
  go_enter Tryf.func4, Tryf.ntmps4
  go_wp2
  all_goals
    go_ret
    exact ⟨rfl, Below.refl _ _⟩
set_option maxRecDepth 100000 in
set_option maxHeartbeats 800000 in
theorem ign_out (a0 a1 : Option Addr) (m c0 n c1 : Nat) (iv : Int) (w : World) (hm : m ≤ 65536) (hn : n ≤ 65536) (hi : iv < 0 ∨ (n : Int) ≤ iv) :
    Calls Tryf.prog 4 #[.slice a0 m c0, .slice a1 n c1, .int .i64 iv] w fun e w' => e = .returned (.bool true) ∧ Below w.heap.size w w' := by
  rcases hi with hi | hi
  · have hd : decide (iv < 0) = true := decide_eq_true hi
    go_enter Tryf.func4, Tryf.ntmps4
    go_wp2
    all_goals
      go_ret
      exact ⟨rfl, Below.refl _ _⟩
  · by_cases h0 : iv < 0
    · have hd : decide (iv < 0) = true := decide_eq_true h0
      go_enter Tryf.func4, Tryf.ntmps4
      go_wp2
      all_goals
        go_ret
        exact ⟨rfl, Below.refl _ _⟩
    · have hd : decide (iv < 0) = false := decide_eq_false h0
      go_enter Tryf.func4, Tryf.ntmps4
      go_wp2
      all_goals
        go_ret
        exact ⟨rfl, Below.refl _ _⟩
set_option maxRecDepth 100000 in
set_option maxHeartbeats 800000 in
theorem ign_other (a0 : Option Addr) (b off m c0 n c1 i : Nat) (c : Int) (w : World) (hm : m ≤ 65536) (hn : n ≤ 65536) (hi : i < n) (k0 : w.cell? ⟨b, off + i, none⟩ = some (.int .u8 c)) (hc : (c != 92) = true) :
    Calls Tryf.prog 4 #[.slice a0 m c0, .slice (some ⟨b, off, none⟩) n c1, .int .i64 i] w fun e w' => e = .returned (.bool true) ∧ Below w.heap.size w w' := by
  have hii : (i : Int) < (n : Int) := by omega
  go_enter Tryf.func4, Tryf.ntmps4
  go_wp2
  all_goals
    go_ret
    exact ⟨rfl, Below.refl _ _⟩
set_option maxRecDepth 100000 in
set_option maxHeartbeats 800000 in
theorem ign_s1 (F : Interp) (a0 : Option Addr) (m cap0 : Nat) (ps : List Int) (b off n cap : Nat) (zs : List Int) (i : Nat) (w : World) (hF : F.answers w.tape)
    (hm : m ≤ 65536) (hn : n ≤ 65536) (hps : ps.length = m) (hpre : 0 < m → ∃ src, a0 = some src ∧ src.block < w.heap.size ∧ ∀ j, j < m → w.cell? (src.add j) = some (.int .u8 (ps.getD j 0)))
    (hzs : zs.length = n) (hb : b < w.heap.size) (cells : ∀ j, j < n → w.cell? ⟨b, off + j, none⟩ = some (.int .u8 (zs.getD j 0)))
    (hi : i < n) (h92 : zs.getD i 0 = 92) (hr : escR (zs.drop (i + 1)) = (0, 0, false, false)) :
    Calls Tryf.prog 4 #[.slice a0 m cap0, .slice (some ⟨b, off, none⟩) n cap, .int .i64 i] w fun e w' => e = .returned (.bool true) ∧ Below w.heap.size w w' := by
  have hnil := neq_nil22
  have hmk := make_bytes n n rfl (by omega)
  have k0 : w.cell? ⟨b, off + i, none⟩ = some (.int .u8 92) := by rw [cells i hi, h92]
  have hii : (i : Int) < (n : Int) := by omega
  obtain ⟨w1, hc1, hg1, hB1⟩ := copy_bytes (w.alloc (.cells (madeCells #[.int .u8 0] n) 5)) w.heap.size 0 n n (some ⟨b, off, none⟩) n cap (madeCells #[.int .u8 0] n).toList 5 zs (made_heap w n) hzs (Nat.le_refl _)
    (fun _ => ⟨_, rfl, fun j hj => by rw [addr_add, ((Below.refl w.heap.size w).alloc (Nat.le_refl _) _).cell (by exact hb)]; exact cells j hj⟩) (by rw [made_length]; omega)
  have HR : Hid (escR (zs.drop (i + 1)) = (0, 0, false, false)) := hr
  have HC : Hid (∀ j, j < n → w.cell? ⟨b, off + j, none⟩ = some (.int .u8 (zs.getD j 0))) := cells
  have HP : Hid (0 < m → ∃ src, a0 = some src ∧ src.block < w.heap.size ∧ ∀ j, j < m → w.cell? (src.add j) = some (.int .u8 (ps.getD j 0))) := hpre
  have HL : Hid (zs.length = n) := hzs
  have HLp : Hid (ps.length = m) := hps
  have hB1' : Below w.heap.size w w1 := ((Below.refl w.heap.size w).alloc (Nat.le_refl _) _).trans hB1
  have hsz1 : w.heap.size < w1.heap.size := by have := hB1.size; simp at this; omega
  rw [splice_all _ _ (by rw [made_length, byteVals_length, hzs])] at hg1
  have HG1 : Hid (w1.heap[w.heap.size]? = some (.cells (byteVals zs).toArray 5 (0, 0))) := hg1
  have HB1 : Hid (Below w.heap.size w w1) := hB1'
  clear hr cells hpre hzs hps h92 hB1 hB1' hg1
  go_enter Tryf.func4, Tryf.ntmps4
  go_wp2_with (first | (go_at_call 9; go_in) | fail)
  refine (zz_bad F w.heap.size 0 n n i i rfl zs 0 0 false w1 (by rw [HB1.out.tape]; exact hF) hsz1 HL.out (Nat.le_refl _) (by omega) (by have := row_cells HG1.out; rw [HL.out] at this; exact this) hi HR.out).mono ?_
  rintro e w2 ⟨t2, x2, rfl, hB2⟩
  have hsz2 : w1.heap.size ≤ w2.heap.size := hB2.size
  have hmk2 := make_bytes (m + n) ((m : Int) + (n : Int)) (by omega) (by omega)
  have hBw2 : Below w.heap.size w w2 := HB1.out.trans (hB2.mono (by omega))
  have hG2 : w2.heap[w.heap.size]? = some (.cells (byteVals zs).toArray 5 (0, 0)) := by rw [hB2.block _ hsz1]; exact HG1.out
  obtain ⟨w3, hc3, hg3, hB3⟩ := copy_bytes (w2.alloc (.cells (madeCells #[.int .u8 0] (m + n)) 5)) w2.heap.size 0 (m + n) (m + n) a0 m cap0 (madeCells #[.int .u8 0] (m + n)).toList 5 ps (made_heap w2 (m + n)) HLp.out (by omega)
    (fun h0 => by
      obtain ⟨src, h1, h2, h3⟩ := HP.out h0
      refine ⟨src, h1, fun j hj => ?_⟩
      rw [((Below.refl w2.heap.size w2).alloc (Nat.le_refl _) _).cell (by rw [addr_block]; omega), hBw2.cell (by rw [addr_block]; exact h2)]
      exact h3 j hj) (by rw [made_length]; omega)
  have hsz3 : w2.heap.size < w3.heap.size := by have := hB3.size; simp at this; omega
  have hBw3 : Below w2.heap.size w2 w3 := ((Below.refl w2.heap.size w2).alloc (Nat.le_refl _) _).trans hB3
  have HG3 : Hid _ := hg3
  have HB2 : Hid (Below w.heap.size w w2) := hBw2
  have HG2 : Hid _ := hG2
  have HB3 : Hid (Below w2.heap.size w2 w3) := hBw3
  have hmn : ¬ m + n = m := by omega
  obtain ⟨w4, hc4, hg4, hB4⟩ := copy_bytes w3 w2.heap.size m n n (some ⟨w.heap.size, 0, none⟩) n n _ 5 zs hg3 HL.out (Nat.le_refl _)
    (fun _ => ⟨_, rfl, fun j hj => by
      rw [addr_add, hBw3.cell (by show w.heap.size < _; omega)]
      have := row_cells hG2 j (by rw [HL.out]; exact hj)
      exact this⟩) (by rw [length_splice _ _ _ (by rw [made_length, byteVals_length, HLp.out]; omega), made_length]; omega)
  have hj4 : splice (splice (madeCells #[.int .u8 0] (m + n)).toList 0 (byteVals ps)) m (byteVals zs) = byteVals (ps ++ zs) := by
    have h := splice_two (madeCells #[.int .u8 0] (m + n)).toList (byteVals ps) (byteVals zs) (by rw [made_length, byteVals_length, byteVals_length, HLp.out, HL.out])
    rw [byteVals_length, HLp.out] at h
    rw [h]; simp [byteVals]
  rw [hj4] at hg4
  have HG4 : Hid (w4.heap[w2.heap.size]? = some (.cells (byteVals (ps ++ zs)).toArray 5 (0, 0))) := hg4
  have hsz4 : w2.heap.size < w4.heap.size := by have := hB4.size; omega
  have HB4 : Hid (Below w.heap.size w w4) := (hBw2.trans (hBw3.mono (by omega))).trans (hB4.mono (by omega))
  have hnx : (((m : Int) + (i : Int) + 1) != ((i : Int) + 1 + (m : Int))) = false := by simp; omega
  clear hg3 hBw2 hG2 hBw3 hB3 hB2 hB4 hg4 hj4 HG3 HG2 HB3
  go_wp2_with fail
  refine (zz_bad F w2.heap.size 0 (m + n) (m + n) (m + i) ((m : Int) + (i : Int)) (by omega) (ps ++ zs) 0 0 false w4 (by rw [HB4.out.tape]; exact hF) hsz4 (by have := HL.out; have := HLp.out; simp; omega) (Nat.le_refl _) (by omega) (by have := row_cells HG4.out; rw [List.length_append, HL.out, HLp.out] at this; exact this) (by omega)
    (by rw [drop_join HLp.out]; exact HR.out)).mono ?_
  rintro e w5 ⟨t5, x5, rfl, hB5⟩
  have HB5 : Hid (Below w.heap.size w w5) := HB4.out.trans (hB5.mono (by omega))
  clear hB5
  go_wp2
  go_quiet (fail)
  go_wp2
  go_ret
  exact ⟨rfl, below_drewN HB5.out _⟩
set_option maxRecDepth 100000 in
set_option maxHeartbeats 800000 in
theorem ign_s2 (F : Interp) (a0 : Option Addr) (m cap0 : Nat) (ps : List Int) (b off n cap : Nat) (zs : List Int) (i : Nat) (w : World) (hF : F.answers w.tape)
    (hm : m ≤ 65536) (hn : n ≤ 65536) (hps : ps.length = m) (hpre : 0 < m → ∃ src, a0 = some src ∧ src.block < w.heap.size ∧ ∀ j, j < m → w.cell? (src.add j) = some (.int .u8 (ps.getD j 0)))
    (hzs : zs.length = n) (hb : b < w.heap.size) (cells : ∀ j, j < n → w.cell? ⟨b, off + j, none⟩ = some (.int .u8 (zs.getD j 0)))
    (hi : i < n) (h92 : zs.getD i 0 = 92) (hr : escR (zs.drop (i + 1)) = (0, 1, false, false)) :
    Calls Tryf.prog 4 #[.slice a0 m cap0, .slice (some ⟨b, off, none⟩) n cap, .int .i64 i] w fun e w' => e = .returned (.bool true) ∧ Below w.heap.size w w' := by
  have hnil := neq_nil22
  have hmk := make_bytes n n rfl (by omega)
  have k0 : w.cell? ⟨b, off + i, none⟩ = some (.int .u8 92) := by rw [cells i hi, h92]
  have hii : (i : Int) < (n : Int) := by omega
  obtain ⟨w1, hc1, hg1, hB1⟩ := copy_bytes (w.alloc (.cells (madeCells #[.int .u8 0] n) 5)) w.heap.size 0 n n (some ⟨b, off, none⟩) n cap (madeCells #[.int .u8 0] n).toList 5 zs (made_heap w n) hzs (Nat.le_refl _)
    (fun _ => ⟨_, rfl, fun j hj => by rw [addr_add, ((Below.refl w.heap.size w).alloc (Nat.le_refl _) _).cell (by exact hb)]; exact cells j hj⟩) (by rw [made_length]; omega)
  have HR : Hid (escR (zs.drop (i + 1)) = (0, 1, false, false)) := hr
  have HC : Hid (∀ j, j < n → w.cell? ⟨b, off + j, none⟩ = some (.int .u8 (zs.getD j 0))) := cells
  have HP : Hid (0 < m → ∃ src, a0 = some src ∧ src.block < w.heap.size ∧ ∀ j, j < m → w.cell? (src.add j) = some (.int .u8 (ps.getD j 0))) := hpre
  have HL : Hid (zs.length = n) := hzs
  have HLp : Hid (ps.length = m) := hps
  have hB1' : Below w.heap.size w w1 := ((Below.refl w.heap.size w).alloc (Nat.le_refl _) _).trans hB1
  have hsz1 : w.heap.size < w1.heap.size := by have := hB1.size; simp at this; omega
  rw [splice_all _ _ (by rw [made_length, byteVals_length, hzs])] at hg1
  have HG1 : Hid (w1.heap[w.heap.size]? = some (.cells (byteVals zs).toArray 5 (0, 0))) := hg1
  have HB1 : Hid (Below w.heap.size w w1) := hB1'
  clear hr cells hpre hzs hps h92 hB1 hB1' hg1
  go_enter Tryf.func4, Tryf.ntmps4
  go_wp2_with (first | (go_at_call 9; go_in) | fail)
  refine (zz_bad F w.heap.size 0 n n i i rfl zs 0 1 false w1 (by rw [HB1.out.tape]; exact hF) hsz1 HL.out (Nat.le_refl _) (by omega) (by have := row_cells HG1.out; rw [HL.out] at this; exact this) hi HR.out).mono ?_
  rintro e w2 ⟨t2, x2, rfl, hB2⟩
  have hsz2 : w1.heap.size ≤ w2.heap.size := hB2.size
  have hmk2 := make_bytes (m + n) ((m : Int) + (n : Int)) (by omega) (by omega)
  have hBw2 : Below w.heap.size w w2 := HB1.out.trans (hB2.mono (by omega))
  have hG2 : w2.heap[w.heap.size]? = some (.cells (byteVals zs).toArray 5 (0, 0)) := by rw [hB2.block _ hsz1]; exact HG1.out
  obtain ⟨w3, hc3, hg3, hB3⟩ := copy_bytes (w2.alloc (.cells (madeCells #[.int .u8 0] (m + n)) 5)) w2.heap.size 0 (m + n) (m + n) a0 m cap0 (madeCells #[.int .u8 0] (m + n)).toList 5 ps (made_heap w2 (m + n)) HLp.out (by omega)
    (fun h0 => by
      obtain ⟨src, h1, h2, h3⟩ := HP.out h0
      refine ⟨src, h1, fun j hj => ?_⟩
      rw [((Below.refl w2.heap.size w2).alloc (Nat.le_refl _) _).cell (by rw [addr_block]; omega), hBw2.cell (by rw [addr_block]; exact h2)]
      exact h3 j hj) (by rw [made_length]; omega)
  have hsz3 : w2.heap.size < w3.heap.size := by have := hB3.size; simp at this; omega
  have hBw3 : Below w2.heap.size w2 w3 := ((Below.refl w2.heap.size w2).alloc (Nat.le_refl _) _).trans hB3
  have HG3 : Hid _ := hg3
  have HB2 : Hid (Below w.heap.size w w2) := hBw2
  have HG2 : Hid _ := hG2
  have HB3 : Hid (Below w2.heap.size w2 w3) := hBw3
  have hmn : ¬ m + n = m := by omega
  obtain ⟨w4, hc4, hg4, hB4⟩ := copy_bytes w3 w2.heap.size m n n (some ⟨w.heap.size, 0, none⟩) n n _ 5 zs hg3 HL.out (Nat.le_refl _)
    (fun _ => ⟨_, rfl, fun j hj => by
      rw [addr_add, hBw3.cell (by show w.heap.size < _; omega)]
      have := row_cells hG2 j (by rw [HL.out]; exact hj)
      exact this⟩) (by rw [length_splice _ _ _ (by rw [made_length, byteVals_length, HLp.out]; omega), made_length]; omega)
  have hj4 : splice (splice (madeCells #[.int .u8 0] (m + n)).toList 0 (byteVals ps)) m (byteVals zs) = byteVals (ps ++ zs) := by
    have h := splice_two (madeCells #[.int .u8 0] (m + n)).toList (byteVals ps) (byteVals zs) (by rw [made_length, byteVals_length, byteVals_length, HLp.out, HL.out])
    rw [byteVals_length, HLp.out] at h
    rw [h]; simp [byteVals]
  rw [hj4] at hg4
  have HG4 : Hid (w4.heap[w2.heap.size]? = some (.cells (byteVals (ps ++ zs)).toArray 5 (0, 0))) := hg4
  have hsz4 : w2.heap.size < w4.heap.size := by have := hB4.size; omega
  have HB4 : Hid (Below w.heap.size w w4) := (hBw2.trans (hBw3.mono (by omega))).trans (hB4.mono (by omega))
  have hnx : (((m : Int) + (i : Int) + 1 + 1) != ((i : Int) + 1 + 1 + (m : Int))) = false := by simp; omega
  clear hg3 hBw2 hG2 hBw3 hB3 hB2 hB4 hg4 hj4 HG3 HG2 HB3
  go_wp2_with fail
  refine (zz_bad F w2.heap.size 0 (m + n) (m + n) (m + i) ((m : Int) + (i : Int)) (by omega) (ps ++ zs) 0 1 false w4 (by rw [HB4.out.tape]; exact hF) hsz4 (by have := HL.out; have := HLp.out; simp; omega) (Nat.le_refl _) (by omega) (by have := row_cells HG4.out; rw [List.length_append, HL.out, HLp.out] at this; exact this) (by omega)
    (by rw [drop_join HLp.out]; exact HR.out)).mono ?_
  rintro e w5 ⟨t5, x5, rfl, hB5⟩
  have HB5 : Hid (Below w.heap.size w w5) := HB4.out.trans (hB5.mono (by omega))
  clear hB5
  go_wp2
  go_quiet (fail)
  go_wp2
  go_ret
  exact ⟨ret_bool (by simp; omega), below_drewN HB5.out _⟩
set_option maxRecDepth 100000 in
set_option maxHeartbeats 800000 in
theorem ign_s3 (F : Interp) (a0 : Option Addr) (m cap0 : Nat) (ps : List Int) (b off n cap : Nat) (zs : List Int) (i : Nat) (w : World) (hF : F.answers w.tape)
    (hm : m ≤ 65536) (hn : n ≤ 65536) (hps : ps.length = m) (hpre : 0 < m → ∃ src, a0 = some src ∧ src.block < w.heap.size ∧ ∀ j, j < m → w.cell? (src.add j) = some (.int .u8 (ps.getD j 0)))
    (hzs : zs.length = n) (hb : b < w.heap.size) (cells : ∀ j, j < n → w.cell? ⟨b, off + j, none⟩ = some (.int .u8 (zs.getD j 0)))
    (hi : i < n) (h92 : zs.getD i 0 = 92) (hr : escR (zs.drop (i + 1)) = (65533, 5, true, true)) :
    Calls Tryf.prog 4 #[.slice a0 m cap0, .slice (some ⟨b, off, none⟩) n cap, .int .i64 i] w fun e w' => e = .returned (.bool true) ∧ Below w.heap.size w w' := by
  have hnil := neq_nil22
  have hmk := make_bytes n n rfl (by omega)
  have k0 : w.cell? ⟨b, off + i, none⟩ = some (.int .u8 92) := by rw [cells i hi, h92]
  have hii : (i : Int) < (n : Int) := by omega
  obtain ⟨w1, hc1, hg1, hB1⟩ := copy_bytes (w.alloc (.cells (madeCells #[.int .u8 0] n) 5)) w.heap.size 0 n n (some ⟨b, off, none⟩) n cap (madeCells #[.int .u8 0] n).toList 5 zs (made_heap w n) hzs (Nat.le_refl _)
    (fun _ => ⟨_, rfl, fun j hj => by rw [addr_add, ((Below.refl w.heap.size w).alloc (Nat.le_refl _) _).cell (by exact hb)]; exact cells j hj⟩) (by rw [made_length]; omega)
  have HR : Hid (escR (zs.drop (i + 1)) = (65533, 5, true, true)) := hr
  have HC : Hid (∀ j, j < n → w.cell? ⟨b, off + j, none⟩ = some (.int .u8 (zs.getD j 0))) := cells
  have HP : Hid (0 < m → ∃ src, a0 = some src ∧ src.block < w.heap.size ∧ ∀ j, j < m → w.cell? (src.add j) = some (.int .u8 (ps.getD j 0))) := hpre
  have HL : Hid (zs.length = n) := hzs
  have HLp : Hid (ps.length = m) := hps
  have hB1' : Below w.heap.size w w1 := ((Below.refl w.heap.size w).alloc (Nat.le_refl _) _).trans hB1
  have hsz1 : w.heap.size < w1.heap.size := by have := hB1.size; simp at this; omega
  rw [splice_all _ _ (by rw [made_length, byteVals_length, hzs])] at hg1
  have HG1 : Hid (w1.heap[w.heap.size]? = some (.cells (byteVals zs).toArray 5 (0, 0))) := hg1
  have HB1 : Hid (Below w.heap.size w w1) := hB1'
  clear hr cells hpre hzs hps h92 hB1 hB1' hg1
  go_enter Tryf.func4, Tryf.ntmps4
  go_wp2_with (first | (go_at_call 9; go_in) | fail)
  refine (zz_ok F w.heap.size 0 n n i i rfl zs 65533 5 true w1 (by rw [HB1.out.tape]; exact hF) hsz1 HL.out (Nat.le_refl _) (by omega) (by have := row_cells HG1.out; rw [HL.out] at this; exact this) hi HR.out).mono ?_
  rintro e w2 ⟨rfl, hB2⟩
  have hsz2 : w1.heap.size ≤ w2.heap.size := hB2.size
  have hmk2 := make_bytes (m + n) ((m : Int) + (n : Int)) (by omega) (by omega)
  have hBw2 : Below w.heap.size w w2 := HB1.out.trans (hB2.mono (by omega))
  have hG2 : w2.heap[w.heap.size]? = some (.cells (byteVals zs).toArray 5 (0, 0)) := by rw [hB2.block _ hsz1]; exact HG1.out
  obtain ⟨w3, hc3, hg3, hB3⟩ := copy_bytes (w2.alloc (.cells (madeCells #[.int .u8 0] (m + n)) 5)) w2.heap.size 0 (m + n) (m + n) a0 m cap0 (madeCells #[.int .u8 0] (m + n)).toList 5 ps (made_heap w2 (m + n)) HLp.out (by omega)
    (fun h0 => by
      obtain ⟨src, h1, h2, h3⟩ := HP.out h0
      refine ⟨src, h1, fun j hj => ?_⟩
      rw [((Below.refl w2.heap.size w2).alloc (Nat.le_refl _) _).cell (by rw [addr_block]; omega), hBw2.cell (by rw [addr_block]; exact h2)]
      exact h3 j hj) (by rw [made_length]; omega)
  have hsz3 : w2.heap.size < w3.heap.size := by have := hB3.size; simp at this; omega
  have hBw3 : Below w2.heap.size w2 w3 := ((Below.refl w2.heap.size w2).alloc (Nat.le_refl _) _).trans hB3
  have HG3 : Hid _ := hg3
  have HB2 : Hid (Below w.heap.size w w2) := hBw2
  have HG2 : Hid _ := hG2
  have HB3 : Hid (Below w2.heap.size w2 w3) := hBw3
  have hmn : ¬ m + n = m := by omega
  obtain ⟨w4, hc4, hg4, hB4⟩ := copy_bytes w3 w2.heap.size m n n (some ⟨w.heap.size, 0, none⟩) n n _ 5 zs hg3 HL.out (Nat.le_refl _)
    (fun _ => ⟨_, rfl, fun j hj => by
      rw [addr_add, hBw3.cell (by show w.heap.size < _; omega)]
      have := row_cells hG2 j (by rw [HL.out]; exact hj)
      exact this⟩) (by rw [length_splice _ _ _ (by rw [made_length, byteVals_length, HLp.out]; omega), made_length]; omega)
  have hj4 : splice (splice (madeCells #[.int .u8 0] (m + n)).toList 0 (byteVals ps)) m (byteVals zs) = byteVals (ps ++ zs) := by
    have h := splice_two (madeCells #[.int .u8 0] (m + n)).toList (byteVals ps) (byteVals zs) (by rw [made_length, byteVals_length, byteVals_length, HLp.out, HL.out])
    rw [byteVals_length, HLp.out] at h
    rw [h]; simp [byteVals]
  rw [hj4] at hg4
  have HG4 : Hid (w4.heap[w2.heap.size]? = some (.cells (byteVals (ps ++ zs)).toArray 5 (0, 0))) := hg4
  have hsz4 : w2.heap.size < w4.heap.size := by have := hB4.size; omega
  have HB4 : Hid (Below w.heap.size w w4) := (hBw2.trans (hBw3.mono (by omega))).trans (hB4.mono (by omega))
  have hnx : (((m : Int) + (i : Int) + 1 + 5) != ((i : Int) + 1 + 5 + (m : Int))) = false := by simp; omega
  clear hg3 hBw2 hG2 hBw3 hB3 hB2 hB4 hg4 hj4 HG3 HG2 HB3
  go_wp2_with fail
  refine (zz_ok F w2.heap.size 0 (m + n) (m + n) (m + i) ((m : Int) + (i : Int)) (by omega) (ps ++ zs) 65533 5 true w4 (by rw [HB4.out.tape]; exact hF) hsz4 (by have := HL.out; have := HLp.out; simp; omega) (Nat.le_refl _) (by omega) (by have := row_cells HG4.out; rw [List.length_append, HL.out, HLp.out] at this; exact this) (by omega)
    (by rw [drop_join HLp.out]; exact HR.out)).mono ?_
  rintro e w5 ⟨rfl, hB5⟩
  have HB5 : Hid (Below w.heap.size w w5) := HB4.out.trans (hB5.mono (by omega))
  clear hB5
  go_wp2
  go_quiet (fail)
  go_wp2
  go_ret
  exact ⟨ret_bool (by simp; omega), below_drewN HB5.out _⟩
set_option maxRecDepth 100000 in
set_option maxHeartbeats 800000 in
theorem ign_s4 (F : Interp) (a0 : Option Addr) (m cap0 : Nat) (ps : List Int) (b off n cap : Nat) (zs : List Int) (i : Nat) (c : Int) (w : World) (hF : F.answers w.tape)
    (hm : m ≤ 65536) (hn : n ≤ 65536) (hps : ps.length = m) (hpre : 0 < m → ∃ src, a0 = some src ∧ src.block < w.heap.size ∧ ∀ j, j < m → w.cell? (src.add j) = some (.int .u8 (ps.getD j 0)))
    (hzs : zs.length = n) (hb : b < w.heap.size) (cells : ∀ j, j < n → w.cell? ⟨b, off + j, none⟩ = some (.int .u8 (zs.getD j 0)))
    (hi : i < n) (h92 : zs.getD i 0 = 92) (hr : escR (zs.drop (i + 1)) = (c, 1, false, true)) (hc : 0 ≤ c ∧ c < 128) :
    Calls Tryf.prog 4 #[.slice a0 m cap0, .slice (some ⟨b, off, none⟩) n cap, .int .i64 i] w fun e w' => e = .returned (.bool true) ∧ Below w.heap.size w w' := by
  have hnil := neq_nil22
  have hmk := make_bytes n n rfl (by omega)
  have k0 : w.cell? ⟨b, off + i, none⟩ = some (.int .u8 92) := by rw [cells i hi, h92]
  have hii : (i : Int) < (n : Int) := by omega
  obtain ⟨w1, hc1, hg1, hB1⟩ := copy_bytes (w.alloc (.cells (madeCells #[.int .u8 0] n) 5)) w.heap.size 0 n n (some ⟨b, off, none⟩) n cap (madeCells #[.int .u8 0] n).toList 5 zs (made_heap w n) hzs (Nat.le_refl _)
    (fun _ => ⟨_, rfl, fun j hj => by rw [addr_add, ((Below.refl w.heap.size w).alloc (Nat.le_refl _) _).cell (by exact hb)]; exact cells j hj⟩) (by rw [made_length]; omega)
  have HR : Hid (escR (zs.drop (i + 1)) = (c, 1, false, true)) := hr
  have HC : Hid (∀ j, j < n → w.cell? ⟨b, off + j, none⟩ = some (.int .u8 (zs.getD j 0))) := cells
  have HP : Hid (0 < m → ∃ src, a0 = some src ∧ src.block < w.heap.size ∧ ∀ j, j < m → w.cell? (src.add j) = some (.int .u8 (ps.getD j 0))) := hpre
  have HL : Hid (zs.length = n) := hzs
  have HLp : Hid (ps.length = m) := hps
  have hB1' : Below w.heap.size w w1 := ((Below.refl w.heap.size w).alloc (Nat.le_refl _) _).trans hB1
  have hsz1 : w.heap.size < w1.heap.size := by have := hB1.size; simp at this; omega
  rw [splice_all _ _ (by rw [made_length, byteVals_length, hzs])] at hg1
  have HG1 : Hid (w1.heap[w.heap.size]? = some (.cells (byteVals zs).toArray 5 (0, 0))) := hg1
  have HB1 : Hid (Below w.heap.size w w1) := hB1'
  clear hr cells hpre hzs hps h92 hB1 hB1' hg1
  go_enter Tryf.func4, Tryf.ntmps4
  go_wp2_with (first | (go_at_call 9; go_in) | fail)
  refine (zz_ok F w.heap.size 0 n n i i rfl zs c 1 false w1 (by rw [HB1.out.tape]; exact hF) hsz1 HL.out (Nat.le_refl _) (by omega) (by have := row_cells HG1.out; rw [HL.out] at this; exact this) hi HR.out).mono ?_
  rintro e w2 ⟨rfl, hB2⟩
  have hsz2 : w1.heap.size ≤ w2.heap.size := hB2.size
  have hmk2 := make_bytes (m + n) ((m : Int) + (n : Int)) (by omega) (by omega)
  have hBw2 : Below w.heap.size w w2 := HB1.out.trans (hB2.mono (by omega))
  have hG2 : w2.heap[w.heap.size]? = some (.cells (byteVals zs).toArray 5 (0, 0)) := by rw [hB2.block _ hsz1]; exact HG1.out
  obtain ⟨w3, hc3, hg3, hB3⟩ := copy_bytes (w2.alloc (.cells (madeCells #[.int .u8 0] (m + n)) 5)) w2.heap.size 0 (m + n) (m + n) a0 m cap0 (madeCells #[.int .u8 0] (m + n)).toList 5 ps (made_heap w2 (m + n)) HLp.out (by omega)
    (fun h0 => by
      obtain ⟨src, h1, h2, h3⟩ := HP.out h0
      refine ⟨src, h1, fun j hj => ?_⟩
      rw [((Below.refl w2.heap.size w2).alloc (Nat.le_refl _) _).cell (by rw [addr_block]; omega), hBw2.cell (by rw [addr_block]; exact h2)]
      exact h3 j hj) (by rw [made_length]; omega)
  have hsz3 : w2.heap.size < w3.heap.size := by have := hB3.size; simp at this; omega
  have hBw3 : Below w2.heap.size w2 w3 := ((Below.refl w2.heap.size w2).alloc (Nat.le_refl _) _).trans hB3
  have HG3 : Hid _ := hg3
  have HB2 : Hid (Below w.heap.size w w2) := hBw2
  have HG2 : Hid _ := hG2
  have HB3 : Hid (Below w2.heap.size w2 w3) := hBw3
  have hmn : ¬ m + n = m := by omega
  obtain ⟨w4, hc4, hg4, hB4⟩ := copy_bytes w3 w2.heap.size m n n (some ⟨w.heap.size, 0, none⟩) n n _ 5 zs hg3 HL.out (Nat.le_refl _)
    (fun _ => ⟨_, rfl, fun j hj => by
      rw [addr_add, hBw3.cell (by show w.heap.size < _; omega)]
      have := row_cells hG2 j (by rw [HL.out]; exact hj)
      exact this⟩) (by rw [length_splice _ _ _ (by rw [made_length, byteVals_length, HLp.out]; omega), made_length]; omega)
  have hj4 : splice (splice (madeCells #[.int .u8 0] (m + n)).toList 0 (byteVals ps)) m (byteVals zs) = byteVals (ps ++ zs) := by
    have h := splice_two (madeCells #[.int .u8 0] (m + n)).toList (byteVals ps) (byteVals zs) (by rw [made_length, byteVals_length, byteVals_length, HLp.out, HL.out])
    rw [byteVals_length, HLp.out] at h
    rw [h]; simp [byteVals]
  rw [hj4] at hg4
  have HG4 : Hid (w4.heap[w2.heap.size]? = some (.cells (byteVals (ps ++ zs)).toArray 5 (0, 0))) := hg4
  have hsz4 : w2.heap.size < w4.heap.size := by have := hB4.size; omega
  have HB4 : Hid (Below w.heap.size w w4) := (hBw2.trans (hBw3.mono (by omega))).trans (hB4.mono (by omega))
  have hnx : (((m : Int) + (i : Int) + 1 + 1) != ((i : Int) + 1 + 1 + (m : Int))) = false := by simp; omega
  clear hg3 hBw2 hG2 hBw3 hB3 hB2 hB4 hg4 hj4 HG3 HG2 HB3
  go_wp2_with fail
  refine (zz_ok F w2.heap.size 0 (m + n) (m + n) (m + i) ((m : Int) + (i : Int)) (by omega) (ps ++ zs) c 1 false w4 (by rw [HB4.out.tape]; exact hF) hsz4 (by have := HL.out; have := HLp.out; simp; omega) (Nat.le_refl _) (by omega) (by have := row_cells HG4.out; rw [List.length_append, HL.out, HLp.out] at this; exact this) (by omega)
    (by rw [drop_join HLp.out]; exact HR.out)).mono ?_
  rintro e w5 ⟨rfl, hB5⟩
  have HB5 : Hid (Below w.heap.size w w5) := HB4.out.trans (hB5.mono (by omega))
  clear hB5
  go_wp2
  go_quiet (fail)
  go_wp2
  go_ret
  exact ⟨rfl, below_drewN HB5.out _⟩
set_option maxRecDepth 100000 in
set_option maxHeartbeats 800000 in
theorem ign_s5 (F : Interp) (a0 : Option Addr) (m cap0 : Nat) (ps : List Int) (b off n cap : Nat) (zs : List Int) (i : Nat) (c : Int) (w : World) (hF : F.answers w.tape)
    (hm : m ≤ 65536) (hn : n ≤ 65536) (hps : ps.length = m) (hpre : 0 < m → ∃ src, a0 = some src ∧ src.block < w.heap.size ∧ ∀ j, j < m → w.cell? (src.add j) = some (.int .u8 (ps.getD j 0)))
    (hzs : zs.length = n) (hb : b < w.heap.size) (cells : ∀ j, j < n → w.cell? ⟨b, off + j, none⟩ = some (.int .u8 (zs.getD j 0)))
    (hi : i < n) (h92 : zs.getD i 0 = 92) (hr : escR (zs.drop (i + 1)) = (c, 5, false, true)) (hc : 0 ≤ c ∧ c < 55296) :
    Calls Tryf.prog 4 #[.slice a0 m cap0, .slice (some ⟨b, off, none⟩) n cap, .int .i64 i] w fun e w' => e = .returned (.bool true) ∧ Below w.heap.size w w' := by
  have hnil := neq_nil22
  have hmk := make_bytes n n rfl (by omega)
  have k0 : w.cell? ⟨b, off + i, none⟩ = some (.int .u8 92) := by rw [cells i hi, h92]
  have hii : (i : Int) < (n : Int) := by omega
  obtain ⟨w1, hc1, hg1, hB1⟩ := copy_bytes (w.alloc (.cells (madeCells #[.int .u8 0] n) 5)) w.heap.size 0 n n (some ⟨b, off, none⟩) n cap (madeCells #[.int .u8 0] n).toList 5 zs (made_heap w n) hzs (Nat.le_refl _)
    (fun _ => ⟨_, rfl, fun j hj => by rw [addr_add, ((Below.refl w.heap.size w).alloc (Nat.le_refl _) _).cell (by exact hb)]; exact cells j hj⟩) (by rw [made_length]; omega)
  have HR : Hid (escR (zs.drop (i + 1)) = (c, 5, false, true)) := hr
  have HC : Hid (∀ j, j < n → w.cell? ⟨b, off + j, none⟩ = some (.int .u8 (zs.getD j 0))) := cells
  have HP : Hid (0 < m → ∃ src, a0 = some src ∧ src.block < w.heap.size ∧ ∀ j, j < m → w.cell? (src.add j) = some (.int .u8 (ps.getD j 0))) := hpre
  have HL : Hid (zs.length = n) := hzs
  have HLp : Hid (ps.length = m) := hps
  have hB1' : Below w.heap.size w w1 := ((Below.refl w.heap.size w).alloc (Nat.le_refl _) _).trans hB1
  have hsz1 : w.heap.size < w1.heap.size := by have := hB1.size; simp at this; omega
  rw [splice_all _ _ (by rw [made_length, byteVals_length, hzs])] at hg1
  have HG1 : Hid (w1.heap[w.heap.size]? = some (.cells (byteVals zs).toArray 5 (0, 0))) := hg1
  have HB1 : Hid (Below w.heap.size w w1) := hB1'
  clear hr cells hpre hzs hps h92 hB1 hB1' hg1
  go_enter Tryf.func4, Tryf.ntmps4
  go_wp2_with (first | (go_at_call 9; go_in) | fail)
  refine (zz_ok F w.heap.size 0 n n i i rfl zs c 5 false w1 (by rw [HB1.out.tape]; exact hF) hsz1 HL.out (Nat.le_refl _) (by omega) (by have := row_cells HG1.out; rw [HL.out] at this; exact this) hi HR.out).mono ?_
  rintro e w2 ⟨rfl, hB2⟩
  have hsz2 : w1.heap.size ≤ w2.heap.size := hB2.size
  have hmk2 := make_bytes (m + n) ((m : Int) + (n : Int)) (by omega) (by omega)
  have hBw2 : Below w.heap.size w w2 := HB1.out.trans (hB2.mono (by omega))
  have hG2 : w2.heap[w.heap.size]? = some (.cells (byteVals zs).toArray 5 (0, 0)) := by rw [hB2.block _ hsz1]; exact HG1.out
  obtain ⟨w3, hc3, hg3, hB3⟩ := copy_bytes (w2.alloc (.cells (madeCells #[.int .u8 0] (m + n)) 5)) w2.heap.size 0 (m + n) (m + n) a0 m cap0 (madeCells #[.int .u8 0] (m + n)).toList 5 ps (made_heap w2 (m + n)) HLp.out (by omega)
    (fun h0 => by
      obtain ⟨src, h1, h2, h3⟩ := HP.out h0
      refine ⟨src, h1, fun j hj => ?_⟩
      rw [((Below.refl w2.heap.size w2).alloc (Nat.le_refl _) _).cell (by rw [addr_block]; omega), hBw2.cell (by rw [addr_block]; exact h2)]
      exact h3 j hj) (by rw [made_length]; omega)
  have hsz3 : w2.heap.size < w3.heap.size := by have := hB3.size; simp at this; omega
  have hBw3 : Below w2.heap.size w2 w3 := ((Below.refl w2.heap.size w2).alloc (Nat.le_refl _) _).trans hB3
  have HG3 : Hid _ := hg3
  have HB2 : Hid (Below w.heap.size w w2) := hBw2
  have HG2 : Hid _ := hG2
  have HB3 : Hid (Below w2.heap.size w2 w3) := hBw3
  have hmn : ¬ m + n = m := by omega
  obtain ⟨w4, hc4, hg4, hB4⟩ := copy_bytes w3 w2.heap.size m n n (some ⟨w.heap.size, 0, none⟩) n n _ 5 zs hg3 HL.out (Nat.le_refl _)
    (fun _ => ⟨_, rfl, fun j hj => by
      rw [addr_add, hBw3.cell (by show w.heap.size < _; omega)]
      have := row_cells hG2 j (by rw [HL.out]; exact hj)
      exact this⟩) (by rw [length_splice _ _ _ (by rw [made_length, byteVals_length, HLp.out]; omega), made_length]; omega)
  have hj4 : splice (splice (madeCells #[.int .u8 0] (m + n)).toList 0 (byteVals ps)) m (byteVals zs) = byteVals (ps ++ zs) := by
    have h := splice_two (madeCells #[.int .u8 0] (m + n)).toList (byteVals ps) (byteVals zs) (by rw [made_length, byteVals_length, byteVals_length, HLp.out, HL.out])
    rw [byteVals_length, HLp.out] at h
    rw [h]; simp [byteVals]
  rw [hj4] at hg4
  have HG4 : Hid (w4.heap[w2.heap.size]? = some (.cells (byteVals (ps ++ zs)).toArray 5 (0, 0))) := hg4
  have hsz4 : w2.heap.size < w4.heap.size := by have := hB4.size; omega
  have HB4 : Hid (Below w.heap.size w w4) := (hBw2.trans (hBw3.mono (by omega))).trans (hB4.mono (by omega))
  have hnx : (((m : Int) + (i : Int) + 1 + 5) != ((i : Int) + 1 + 5 + (m : Int))) = false := by simp; omega
  clear hg3 hBw2 hG2 hBw3 hB3 hB2 hB4 hg4 hj4 HG3 HG2 HB3
  go_wp2_with fail
  refine (zz_ok F w2.heap.size 0 (m + n) (m + n) (m + i) ((m : Int) + (i : Int)) (by omega) (ps ++ zs) c 5 false w4 (by rw [HB4.out.tape]; exact hF) hsz4 (by have := HL.out; have := HLp.out; simp; omega) (Nat.le_refl _) (by omega) (by have := row_cells HG4.out; rw [List.length_append, HL.out, HLp.out] at this; exact this) (by omega)
    (by rw [drop_join HLp.out]; exact HR.out)).mono ?_
  rintro e w5 ⟨rfl, hB5⟩
  have HB5 : Hid (Below w.heap.size w w5) := HB4.out.trans (hB5.mono (by omega))
  clear hB5
  go_wp2
  go_quiet (fail)
  go_wp2
  go_ret
  exact ⟨ret_bool (by simp; omega), below_drewN HB5.out _⟩
set_option maxRecDepth 100000 in
set_option maxHeartbeats 800000 in
theorem ign_s6 (F : Interp) (a0 : Option Addr) (m cap0 : Nat) (ps : List Int) (b off n cap : Nat) (zs : List Int) (i : Nat) (c : Int) (w : World) (hF : F.answers w.tape)
    (hm : m ≤ 65536) (hn : n ≤ 65536) (hps : ps.length = m) (hpre : 0 < m → ∃ src, a0 = some src ∧ src.block < w.heap.size ∧ ∀ j, j < m → w.cell? (src.add j) = some (.int .u8 (ps.getD j 0)))
    (hzs : zs.length = n) (hb : b < w.heap.size) (cells : ∀ j, j < n → w.cell? ⟨b, off + j, none⟩ = some (.int .u8 (zs.getD j 0)))
    (hi : i < n) (h92 : zs.getD i 0 = 92) (hr : escR (zs.drop (i + 1)) = (c, 5, false, true)) (hc : 57343 < c ∧ c ≤ 65535) :
    Calls Tryf.prog 4 #[.slice a0 m cap0, .slice (some ⟨b, off, none⟩) n cap, .int .i64 i] w fun e w' => e = .returned (.bool true) ∧ Below w.heap.size w w' := by
  have hnil := neq_nil22
  have hmk := make_bytes n n rfl (by omega)
  have k0 : w.cell? ⟨b, off + i, none⟩ = some (.int .u8 92) := by rw [cells i hi, h92]
  have hii : (i : Int) < (n : Int) := by omega
  obtain ⟨w1, hc1, hg1, hB1⟩ := copy_bytes (w.alloc (.cells (madeCells #[.int .u8 0] n) 5)) w.heap.size 0 n n (some ⟨b, off, none⟩) n cap (madeCells #[.int .u8 0] n).toList 5 zs (made_heap w n) hzs (Nat.le_refl _)
    (fun _ => ⟨_, rfl, fun j hj => by rw [addr_add, ((Below.refl w.heap.size w).alloc (Nat.le_refl _) _).cell (by exact hb)]; exact cells j hj⟩) (by rw [made_length]; omega)
  have HR : Hid (escR (zs.drop (i + 1)) = (c, 5, false, true)) := hr
  have HC : Hid (∀ j, j < n → w.cell? ⟨b, off + j, none⟩ = some (.int .u8 (zs.getD j 0))) := cells
  have HP : Hid (0 < m → ∃ src, a0 = some src ∧ src.block < w.heap.size ∧ ∀ j, j < m → w.cell? (src.add j) = some (.int .u8 (ps.getD j 0))) := hpre
  have HL : Hid (zs.length = n) := hzs
  have HLp : Hid (ps.length = m) := hps
  have hB1' : Below w.heap.size w w1 := ((Below.refl w.heap.size w).alloc (Nat.le_refl _) _).trans hB1
  have hsz1 : w.heap.size < w1.heap.size := by have := hB1.size; simp at this; omega
  rw [splice_all _ _ (by rw [made_length, byteVals_length, hzs])] at hg1
  have HG1 : Hid (w1.heap[w.heap.size]? = some (.cells (byteVals zs).toArray 5 (0, 0))) := hg1
  have HB1 : Hid (Below w.heap.size w w1) := hB1'
  clear hr cells hpre hzs hps h92 hB1 hB1' hg1
  go_enter Tryf.func4, Tryf.ntmps4
  go_wp2_with (first | (go_at_call 9; go_in) | fail)
  refine (zz_ok F w.heap.size 0 n n i i rfl zs c 5 false w1 (by rw [HB1.out.tape]; exact hF) hsz1 HL.out (Nat.le_refl _) (by omega) (by have := row_cells HG1.out; rw [HL.out] at this; exact this) hi HR.out).mono ?_
  rintro e w2 ⟨rfl, hB2⟩
  have hsz2 : w1.heap.size ≤ w2.heap.size := hB2.size
  have hmk2 := make_bytes (m + n) ((m : Int) + (n : Int)) (by omega) (by omega)
  have hBw2 : Below w.heap.size w w2 := HB1.out.trans (hB2.mono (by omega))
  have hG2 : w2.heap[w.heap.size]? = some (.cells (byteVals zs).toArray 5 (0, 0)) := by rw [hB2.block _ hsz1]; exact HG1.out
  obtain ⟨w3, hc3, hg3, hB3⟩ := copy_bytes (w2.alloc (.cells (madeCells #[.int .u8 0] (m + n)) 5)) w2.heap.size 0 (m + n) (m + n) a0 m cap0 (madeCells #[.int .u8 0] (m + n)).toList 5 ps (made_heap w2 (m + n)) HLp.out (by omega)
    (fun h0 => by
      obtain ⟨src, h1, h2, h3⟩ := HP.out h0
      refine ⟨src, h1, fun j hj => ?_⟩
      rw [((Below.refl w2.heap.size w2).alloc (Nat.le_refl _) _).cell (by rw [addr_block]; omega), hBw2.cell (by rw [addr_block]; exact h2)]
      exact h3 j hj) (by rw [made_length]; omega)
  have hsz3 : w2.heap.size < w3.heap.size := by have := hB3.size; simp at this; omega
  have hBw3 : Below w2.heap.size w2 w3 := ((Below.refl w2.heap.size w2).alloc (Nat.le_refl _) _).trans hB3
  have HG3 : Hid _ := hg3
  have HB2 : Hid (Below w.heap.size w w2) := hBw2
  have HG2 : Hid _ := hG2
  have HB3 : Hid (Below w2.heap.size w2 w3) := hBw3
  have hmn : ¬ m + n = m := by omega
  obtain ⟨w4, hc4, hg4, hB4⟩ := copy_bytes w3 w2.heap.size m n n (some ⟨w.heap.size, 0, none⟩) n n _ 5 zs hg3 HL.out (Nat.le_refl _)
    (fun _ => ⟨_, rfl, fun j hj => by
      rw [addr_add, hBw3.cell (by show w.heap.size < _; omega)]
      have := row_cells hG2 j (by rw [HL.out]; exact hj)
      exact this⟩) (by rw [length_splice _ _ _ (by rw [made_length, byteVals_length, HLp.out]; omega), made_length]; omega)
  have hj4 : splice (splice (madeCells #[.int .u8 0] (m + n)).toList 0 (byteVals ps)) m (byteVals zs) = byteVals (ps ++ zs) := by
    have h := splice_two (madeCells #[.int .u8 0] (m + n)).toList (byteVals ps) (byteVals zs) (by rw [made_length, byteVals_length, byteVals_length, HLp.out, HL.out])
    rw [byteVals_length, HLp.out] at h
    rw [h]; simp [byteVals]
  rw [hj4] at hg4
  have HG4 : Hid (w4.heap[w2.heap.size]? = some (.cells (byteVals (ps ++ zs)).toArray 5 (0, 0))) := hg4
  have hsz4 : w2.heap.size < w4.heap.size := by have := hB4.size; omega
  have HB4 : Hid (Below w.heap.size w w4) := (hBw2.trans (hBw3.mono (by omega))).trans (hB4.mono (by omega))
  have hnx : (((m : Int) + (i : Int) + 1 + 5) != ((i : Int) + 1 + 5 + (m : Int))) = false := by simp; omega
  clear hg3 hBw2 hG2 hBw3 hB3 hB2 hB4 hg4 hj4 HG3 HG2 HB3
  go_wp2_with fail
  refine (zz_ok F w2.heap.size 0 (m + n) (m + n) (m + i) ((m : Int) + (i : Int)) (by omega) (ps ++ zs) c 5 false w4 (by rw [HB4.out.tape]; exact hF) hsz4 (by have := HL.out; have := HLp.out; simp; omega) (Nat.le_refl _) (by omega) (by have := row_cells HG4.out; rw [List.length_append, HL.out, HLp.out] at this; exact this) (by omega)
    (by rw [drop_join HLp.out]; exact HR.out)).mono ?_
  rintro e w5 ⟨rfl, hB5⟩
  have HB5 : Hid (Below w.heap.size w w5) := HB4.out.trans (hB5.mono (by omega))
  clear hB5
  go_wp2
  go_quiet (fail)
  go_wp2
  go_ret
  exact ⟨rfl, below_drewN HB5.out _⟩
set_option maxRecDepth 100000 in
set_option maxHeartbeats 800000 in
theorem ign_s7 (F : Interp) (a0 : Option Addr) (m cap0 : Nat) (ps : List Int) (b off n cap : Nat) (zs : List Int) (i : Nat) (c : Int) (w : World) (hF : F.answers w.tape)
    (hm : m ≤ 65536) (hn : n ≤ 65536) (hps : ps.length = m) (hpre : 0 < m → ∃ src, a0 = some src ∧ src.block < w.heap.size ∧ ∀ j, j < m → w.cell? (src.add j) = some (.int .u8 (ps.getD j 0)))
    (hzs : zs.length = n) (hb : b < w.heap.size) (cells : ∀ j, j < n → w.cell? ⟨b, off + j, none⟩ = some (.int .u8 (zs.getD j 0)))
    (hi : i < n) (h92 : zs.getD i 0 = 92) (hr : escR (zs.drop (i + 1)) = (c, 11, false, true)) (hc : 65536 ≤ c ∧ c ≤ 1114111) :
    Calls Tryf.prog 4 #[.slice a0 m cap0, .slice (some ⟨b, off, none⟩) n cap, .int .i64 i] w fun e w' => e = .returned (.bool true) ∧ Below w.heap.size w w' := by
  have hnil := neq_nil22
  have hmk := make_bytes n n rfl (by omega)
  have k0 : w.cell? ⟨b, off + i, none⟩ = some (.int .u8 92) := by rw [cells i hi, h92]
  have hii : (i : Int) < (n : Int) := by omega
  obtain ⟨w1, hc1, hg1, hB1⟩ := copy_bytes (w.alloc (.cells (madeCells #[.int .u8 0] n) 5)) w.heap.size 0 n n (some ⟨b, off, none⟩) n cap (madeCells #[.int .u8 0] n).toList 5 zs (made_heap w n) hzs (Nat.le_refl _)
    (fun _ => ⟨_, rfl, fun j hj => by rw [addr_add, ((Below.refl w.heap.size w).alloc (Nat.le_refl _) _).cell (by exact hb)]; exact cells j hj⟩) (by rw [made_length]; omega)
  have HR : Hid (escR (zs.drop (i + 1)) = (c, 11, false, true)) := hr
  have HC : Hid (∀ j, j < n → w.cell? ⟨b, off + j, none⟩ = some (.int .u8 (zs.getD j 0))) := cells
  have HP : Hid (0 < m → ∃ src, a0 = some src ∧ src.block < w.heap.size ∧ ∀ j, j < m → w.cell? (src.add j) = some (.int .u8 (ps.getD j 0))) := hpre
  have HL : Hid (zs.length = n) := hzs
  have HLp : Hid (ps.length = m) := hps
  have hB1' : Below w.heap.size w w1 := ((Below.refl w.heap.size w).alloc (Nat.le_refl _) _).trans hB1
  have hsz1 : w.heap.size < w1.heap.size := by have := hB1.size; simp at this; omega
  rw [splice_all _ _ (by rw [made_length, byteVals_length, hzs])] at hg1
  have HG1 : Hid (w1.heap[w.heap.size]? = some (.cells (byteVals zs).toArray 5 (0, 0))) := hg1
  have HB1 : Hid (Below w.heap.size w w1) := hB1'
  clear hr cells hpre hzs hps h92 hB1 hB1' hg1
  go_enter Tryf.func4, Tryf.ntmps4
  go_wp2_with (first | (go_at_call 9; go_in) | fail)
  refine (zz_ok F w.heap.size 0 n n i i rfl zs c 11 false w1 (by rw [HB1.out.tape]; exact hF) hsz1 HL.out (Nat.le_refl _) (by omega) (by have := row_cells HG1.out; rw [HL.out] at this; exact this) hi HR.out).mono ?_
  rintro e w2 ⟨rfl, hB2⟩
  have hsz2 : w1.heap.size ≤ w2.heap.size := hB2.size
  have hmk2 := make_bytes (m + n) ((m : Int) + (n : Int)) (by omega) (by omega)
  have hBw2 : Below w.heap.size w w2 := HB1.out.trans (hB2.mono (by omega))
  have hG2 : w2.heap[w.heap.size]? = some (.cells (byteVals zs).toArray 5 (0, 0)) := by rw [hB2.block _ hsz1]; exact HG1.out
  obtain ⟨w3, hc3, hg3, hB3⟩ := copy_bytes (w2.alloc (.cells (madeCells #[.int .u8 0] (m + n)) 5)) w2.heap.size 0 (m + n) (m + n) a0 m cap0 (madeCells #[.int .u8 0] (m + n)).toList 5 ps (made_heap w2 (m + n)) HLp.out (by omega)
    (fun h0 => by
      obtain ⟨src, h1, h2, h3⟩ := HP.out h0
      refine ⟨src, h1, fun j hj => ?_⟩
      rw [((Below.refl w2.heap.size w2).alloc (Nat.le_refl _) _).cell (by rw [addr_block]; omega), hBw2.cell (by rw [addr_block]; exact h2)]
      exact h3 j hj) (by rw [made_length]; omega)
  have hsz3 : w2.heap.size < w3.heap.size := by have := hB3.size; simp at this; omega
  have hBw3 : Below w2.heap.size w2 w3 := ((Below.refl w2.heap.size w2).alloc (Nat.le_refl _) _).trans hB3
  have HG3 : Hid _ := hg3
  have HB2 : Hid (Below w.heap.size w w2) := hBw2
  have HG2 : Hid _ := hG2
  have HB3 : Hid (Below w2.heap.size w2 w3) := hBw3
  have hmn : ¬ m + n = m := by omega
  obtain ⟨w4, hc4, hg4, hB4⟩ := copy_bytes w3 w2.heap.size m n n (some ⟨w.heap.size, 0, none⟩) n n _ 5 zs hg3 HL.out (Nat.le_refl _)
    (fun _ => ⟨_, rfl, fun j hj => by
      rw [addr_add, hBw3.cell (by show w.heap.size < _; omega)]
      have := row_cells hG2 j (by rw [HL.out]; exact hj)
      exact this⟩) (by rw [length_splice _ _ _ (by rw [made_length, byteVals_length, HLp.out]; omega), made_length]; omega)
  have hj4 : splice (splice (madeCells #[.int .u8 0] (m + n)).toList 0 (byteVals ps)) m (byteVals zs) = byteVals (ps ++ zs) := by
    have h := splice_two (madeCells #[.int .u8 0] (m + n)).toList (byteVals ps) (byteVals zs) (by rw [made_length, byteVals_length, byteVals_length, HLp.out, HL.out])
    rw [byteVals_length, HLp.out] at h
    rw [h]; simp [byteVals]
  rw [hj4] at hg4
  have HG4 : Hid (w4.heap[w2.heap.size]? = some (.cells (byteVals (ps ++ zs)).toArray 5 (0, 0))) := hg4
  have hsz4 : w2.heap.size < w4.heap.size := by have := hB4.size; omega
  have HB4 : Hid (Below w.heap.size w w4) := (hBw2.trans (hBw3.mono (by omega))).trans (hB4.mono (by omega))
  have hnx : (((m : Int) + (i : Int) + 1 + 11) != ((i : Int) + 1 + 11 + (m : Int))) = false := by simp; omega
  clear hg3 hBw2 hG2 hBw3 hB3 hB2 hB4 hg4 hj4 HG3 HG2 HB3
  go_wp2_with fail
  refine (zz_ok F w2.heap.size 0 (m + n) (m + n) (m + i) ((m : Int) + (i : Int)) (by omega) (ps ++ zs) c 11 false w4 (by rw [HB4.out.tape]; exact hF) hsz4 (by have := HL.out; have := HLp.out; simp; omega) (Nat.le_refl _) (by omega) (by have := row_cells HG4.out; rw [List.length_append, HL.out, HLp.out] at this; exact this) (by omega)
    (by rw [drop_join HLp.out]; exact HR.out)).mono ?_
  rintro e w5 ⟨rfl, hB5⟩
  have HB5 : Hid (Below w.heap.size w w5) := HB4.out.trans (hB5.mono (by omega))
  clear hB5
  go_wp2
  go_quiet (fail)
  go_wp2
  go_ret
  exact ⟨rfl, below_drewN HB5.out _⟩
end Go.Proofs.Qxb6614687aFmt
