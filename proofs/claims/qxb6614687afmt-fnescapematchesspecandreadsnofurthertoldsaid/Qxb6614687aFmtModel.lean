/-
  The contract of the law's own model escModel: it computes the plain escR.
-/
import Derived.Test.Qxb6614687aFmtModel0
namespace Go.Proofs.Qxb6614687aFmt
set_option linter.unusedVariables false
open Go.RowKit Go.Extern.Stop Go.Stop Go.Extern
/-- the model's answer -/
def modelOut (r : Int × Nat × Bool × Bool) (i : Nat) : Ending := .returned (.tuple #[.int .i32 r.1, .bool r.2.2.2, .int .i64 ((i + 1 + r.2.1 : Nat) : Int), .bool r.2.2.1])
theorem model_ret {r : Int × Nat × Bool × Bool} {c x : Int} {k i : Nat} {fl ok : Bool} (hr : r = (c, k, fl, ok)) (hx : x = ((i + 1 + k : Nat) : Int)) : Ending.returned (.tuple #[.int .i32 c, .bool ok, .int .i64 x, .bool fl]) = modelOut r i := by
  subst hr; subst hx; rfl
theorem uni_to_esc {zs : List Int} {i n : Nat} {c : Int} {k : Nat} {fl ok : Bool} (hlen : zs.length = n) (hi : i + 1 < n) (hz : zs.getD (i + 1) 0 = 117) (h : uniR (zs.drop (i + 2)) = (c, k, fl, ok)) : escR (zs.drop (i + 1)) = (c, k + 1, fl, ok) := by
  have he := escR_u (l := zs.drop (i + 1)) (by simp; omega) (by rw [getD_drop]; exact hz)
  rw [List.drop_drop] at he
  rw [he, h]
theorem lone_hi {l : List Int} {u : Int} (hx : hex4L l = some u) (hu : 56319 < u ∧ u ≤ 57343) : uniR l = (65533, 4, true, true) := by
  cases hl : lowOf (l.drop 4) with
  | none => exact uniR_lone0 hx (by omega) hl
  | some lo => exact uniR_lone1 hx (by omega) hl (.inl hu.1)
set_option maxHeartbeats 400000 in
theorem model_end (b o n cap i : Nat) (zs : List Int) (w : World) (hn : n ≤ 1048576) (hlen : zs.length = n) (cells : ∀ j, j < n → w.cell? ⟨b, o + j, none⟩ = some (.int .u8 (zs.getD j 0))) (hi : i + 1 = n) :
    Calls Tryf.prog 8 #[.slice (some ⟨b, o, none⟩) n cap, .int .i64 i] w fun e w' => e = modelOut (escR (zs.drop (i + 1))) i ∧ Below w.heap.size w w' := by
  have hii : (n : Int) ≤ (i : Int) + 1 := by omega
  have hub : i ≤ 1048576 := by omega
  have HZ : Hid (escR (zs.drop (i + 1)) = (0, 0, false, false)) := escR_end (by simp; omega)
  clear cells hlen hi
  go_enter Tryf.func8, Tryf.ntmps8
  go_wp2
  exact bodyPost_ret (v := .tuple #[.int .i32 0, .bool false, .int .i64 ((i : Int) + 1), .bool false]) (by simp [results, Tryf.results8, go_sem]) rfl ⟨model_ret (k := 0) HZ.out (by omega), Below.refl _ _⟩
set_option maxHeartbeats 400000 in
theorem model_simple (b o n cap i : Nat) (zs : List Int) (w : World) (hn : n ≤ 1048576) (hlen : zs.length = n) (cells : ∀ j, j < n → w.cell? ⟨b, o + j, none⟩ = some (.int .u8 (zs.getD j 0))) (hi : i + 1 < n) (h117 : zs.getD (i + 1) 0 ≠ 117) (v : Int) (hs : simpleV (zs.getD (i + 1) 0) = some v) :
    Calls Tryf.prog 8 #[.slice (some ⟨b, o, none⟩) n cap, .int .i64 i] w fun e w' => e = modelOut (escR (zs.drop (i + 1))) i ∧ Below w.heap.size w w' := by
  have hii : ¬ (n : Int) ≤ (i : Int) + 1 := by omega
  have hii' : (i : Int) + 1 < (n : Int) := by omega
  have hub : i ≤ 1048576 := by omega
  obtain ⟨c, hc⟩ : ∃ c, c = zs.getD (i + 1) 0 := ⟨_, rfl⟩
  have k0 : w.cell? ⟨b, o + (i + 1), none⟩ = some (.int .u8 c) := by rw [cells (i + 1) hi, hc]
  have HZ : Hid (escR (zs.drop (i + 1)) = (v, 1, false, true)) := escR_simple (by simp; omega) (by rw [getD_drop]; exact h117) (by rw [getD_drop]; exact hs)
  have e117 : (c != 117) = true := by rw [hc]; simpa using h117
  have HS : Hid (simpleV c = some v) := by rw [← hc] at hs; exact hs
  clear cells hlen hc hs h117
  go_enter Tryf.func8, Tryf.ntmps8
  go_wp2_with fail
  refine (simple_any c _).mono ?_
  rw [HS.out]
  rintro e w1 ⟨rfl, hb⟩
  have HB : Hid (Below w.heap.size w w1) := hb
  clear hb
  go_wp2
  exact bodyPost_ret (v := .tuple #[.int .i32 v, .bool true, .int .i64 ((i : Int) + 1 + 1), .bool false]) (by simp [results, Tryf.results8, go_sem]) rfl ⟨model_ret (k := 1) HZ.out (by omega), HB.out⟩
set_option maxHeartbeats 400000 in
theorem model_bad (b o n cap i : Nat) (zs : List Int) (w : World) (hn : n ≤ 1048576) (hlen : zs.length = n) (cells : ∀ j, j < n → w.cell? ⟨b, o + j, none⟩ = some (.int .u8 (zs.getD j 0))) (hi : i + 1 < n) (h117 : zs.getD (i + 1) 0 ≠ 117) (hs : simpleV (zs.getD (i + 1) 0) = none) :
    Calls Tryf.prog 8 #[.slice (some ⟨b, o, none⟩) n cap, .int .i64 i] w fun e w' => e = modelOut (escR (zs.drop (i + 1))) i ∧ Below w.heap.size w w' := by
  have hii : ¬ (n : Int) ≤ (i : Int) + 1 := by omega
  have hii' : (i : Int) + 1 < (n : Int) := by omega
  have hub : i ≤ 1048576 := by omega
  obtain ⟨c, hc⟩ : ∃ c, c = zs.getD (i + 1) 0 := ⟨_, rfl⟩
  have k0 : w.cell? ⟨b, o + (i + 1), none⟩ = some (.int .u8 c) := by rw [cells (i + 1) hi, hc]
  have HZ : Hid (escR (zs.drop (i + 1)) = (0, 0, false, false)) := escR_bad (by simp; omega) (by rw [getD_drop]; exact h117) (by rw [getD_drop]; exact hs)
  have e117 : (c != 117) = true := by rw [hc]; simpa using h117
  have HS : Hid (simpleV c = none) := by rw [← hc] at hs; exact hs
  clear cells hlen hc hs h117
  go_enter Tryf.func8, Tryf.ntmps8
  go_wp2_with fail
  refine (simple_any c _).mono ?_
  rw [HS.out]
  rintro e w1 ⟨rfl, hb⟩
  have HB : Hid (Below w.heap.size w w1) := hb
  clear hb
  go_wp2
  exact bodyPost_ret (v := .tuple #[.int .i32 0, .bool false, .int .i64 ((i : Int) + 1), .bool false]) (by simp [results, Tryf.results8, go_sem]) rfl ⟨model_ret (k := 0) HZ.out (by omega), HB.out⟩
set_option maxHeartbeats 400000 in
theorem model_ubad (b o n cap i : Nat) (zs : List Int) (w : World) (hn : n ≤ 1048576) (hlen : zs.length = n) (cells : ∀ j, j < n → w.cell? ⟨b, o + j, none⟩ = some (.int .u8 (zs.getD j 0))) (hi : i + 1 < n) (hz : zs.getD (i + 1) 0 = 117) (hx : hex4L (zs.drop (i + 2)) = none) :
    Calls Tryf.prog 8 #[.slice (some ⟨b, o, none⟩) n cap, .int .i64 i] w fun e w' => e = modelOut (escR (zs.drop (i + 1))) i ∧ Below w.heap.size w w' := by
  have hii : ¬ (n : Int) ≤ (i : Int) + 1 := by omega
  have hii' : (i : Int) + 1 < (n : Int) := by omega
  have hub : i ≤ 1048576 := by omega
  have k0 : w.cell? ⟨b, o + (i + 1), none⟩ = some (.int .u8 117) := by rw [cells (i + 1) hi, hz]
  have HX : Hid (hex4L (zs.drop (i + 2)) = none) := hx
  have HL : Hid (zs.length = n) := hlen
  have HC : Hid (∀ j, j < n → w.cell? ⟨b, o + j, none⟩ = some (.int .u8 (zs.getD j 0))) := cells
  have HZ : Hid (escR (zs.drop (i + 1)) = (0, 1, false, false)) := uni_to_esc hlen hi hz (uniR_bad hx)
  clear cells hlen hz hx
  go_enter Tryf.func8, Tryf.ntmps8
  go_wp2_with fail
  refine (mhex4_any b o n cap (i + 2) ((i : Int) + 1 + 1) (by omega) zs _ hn HL.out HC.out).mono ?_
  rw [HX.out]
  rintro e w1 ⟨rfl, rfl⟩
  go_wp2
  exact bodyPost_ret (v := .tuple #[.int .i32 0, .bool false, .int .i64 ((i : Int) + 1 + 1), .bool false]) (by simp [results, Tryf.results8, go_sem]) rfl ⟨model_ret (k := 1) HZ.out (by omega), Below.refl _ _⟩
set_option maxHeartbeats 400000 in
theorem model_bmp1 (b o n cap i : Nat) (zs : List Int) (w : World) (hn : n ≤ 1048576) (hlen : zs.length = n) (cells : ∀ j, j < n → w.cell? ⟨b, o + j, none⟩ = some (.int .u8 (zs.getD j 0))) (hi : i + 1 < n) (hz : zs.getD (i + 1) 0 = 117) (u : Int) (hx : hex4L (zs.drop (i + 2)) = some u) (hu : 0 ≤ u ∧ u < 55296) :
    Calls Tryf.prog 8 #[.slice (some ⟨b, o, none⟩) n cap, .int .i64 i] w fun e w' => e = modelOut (escR (zs.drop (i + 1))) i ∧ Below w.heap.size w w' := by
  have hii : ¬ (n : Int) ≤ (i : Int) + 1 := by omega
  have hii' : (i : Int) + 1 < (n : Int) := by omega
  have hub : i ≤ 1048576 := by omega
  have k0 : w.cell? ⟨b, o + (i + 1), none⟩ = some (.int .u8 117) := by rw [cells (i + 1) hi, hz]
  have HX : Hid (hex4L (zs.drop (i + 2)) = some u) := hx
  have HL : Hid (zs.length = n) := hlen
  have HC : Hid (∀ j, j < n → w.cell? ⟨b, o + j, none⟩ = some (.int .u8 (zs.getD j 0))) := cells
  have HZ : Hid (escR (zs.drop (i + 1)) = (u, 5, false, true)) := uni_to_esc hlen hi hz (uniR_bmp hx (.inl hu.2))
  have hd : decide (u < 55296) = true := decide_eq_true hu.2
  clear cells hlen hz hx
  go_enter Tryf.func8, Tryf.ntmps8
  go_wp2_with fail
  refine (mhex4_any b o n cap (i + 2) ((i : Int) + 1 + 1) (by omega) zs _ hn HL.out HC.out).mono ?_
  rw [HX.out]
  rintro e w1 ⟨rfl, rfl⟩
  go_wp2
  exact bodyPost_ret (v := .tuple #[.int .i32 u, .bool true, .int .i64 ((i : Int) + 1 + 5), .bool false]) (by simp [results, Tryf.results8, go_sem]) rfl ⟨model_ret (k := 5) HZ.out (by omega), Below.refl _ _⟩
set_option maxHeartbeats 400000 in
theorem model_bmp2 (b o n cap i : Nat) (zs : List Int) (w : World) (hn : n ≤ 1048576) (hlen : zs.length = n) (cells : ∀ j, j < n → w.cell? ⟨b, o + j, none⟩ = some (.int .u8 (zs.getD j 0))) (hi : i + 1 < n) (hz : zs.getD (i + 1) 0 = 117) (u : Int) (hx : hex4L (zs.drop (i + 2)) = some u) (hu : 57343 < u ∧ u < 65536) :
    Calls Tryf.prog 8 #[.slice (some ⟨b, o, none⟩) n cap, .int .i64 i] w fun e w' => e = modelOut (escR (zs.drop (i + 1))) i ∧ Below w.heap.size w w' := by
  have hii : ¬ (n : Int) ≤ (i : Int) + 1 := by omega
  have hii' : (i : Int) + 1 < (n : Int) := by omega
  have hub : i ≤ 1048576 := by omega
  have k0 : w.cell? ⟨b, o + (i + 1), none⟩ = some (.int .u8 117) := by rw [cells (i + 1) hi, hz]
  have HX : Hid (hex4L (zs.drop (i + 2)) = some u) := hx
  have HL : Hid (zs.length = n) := hlen
  have HC : Hid (∀ j, j < n → w.cell? ⟨b, o + j, none⟩ = some (.int .u8 (zs.getD j 0))) := cells
  have HZ : Hid (escR (zs.drop (i + 1)) = (u, 5, false, true)) := uni_to_esc hlen hi hz (uniR_bmp hx (.inr hu.1))
  have hd : decide (u < 55296) = false := decide_eq_false (by omega)
  clear cells hlen hz hx
  go_enter Tryf.func8, Tryf.ntmps8
  go_wp2_with fail
  refine (mhex4_any b o n cap (i + 2) ((i : Int) + 1 + 1) (by omega) zs _ hn HL.out HC.out).mono ?_
  rw [HX.out]
  rintro e w1 ⟨rfl, rfl⟩
  go_wp2
  exact bodyPost_ret (v := .tuple #[.int .i32 u, .bool true, .int .i64 ((i : Int) + 1 + 5), .bool false]) (by simp [results, Tryf.results8, go_sem]) rfl ⟨model_ret (k := 5) HZ.out (by omega), Below.refl _ _⟩
set_option maxHeartbeats 400000 in
theorem model_lone0 (b o n cap i : Nat) (zs : List Int) (w : World) (hn : n ≤ 1048576) (hlen : zs.length = n) (cells : ∀ j, j < n → w.cell? ⟨b, o + j, none⟩ = some (.int .u8 (zs.getD j 0))) (hi : i + 1 < n) (hz : zs.getD (i + 1) 0 = 117) (u : Int) (hx : hex4L (zs.drop (i + 2)) = some u) (hu : 56319 < u ∧ u ≤ 57343) :
    Calls Tryf.prog 8 #[.slice (some ⟨b, o, none⟩) n cap, .int .i64 i] w fun e w' => e = modelOut (escR (zs.drop (i + 1))) i ∧ Below w.heap.size w w' := by
  have hii : ¬ (n : Int) ≤ (i : Int) + 1 := by omega
  have hii' : (i : Int) + 1 < (n : Int) := by omega
  have hub : i ≤ 1048576 := by omega
  have k0 : w.cell? ⟨b, o + (i + 1), none⟩ = some (.int .u8 117) := by rw [cells (i + 1) hi, hz]
  have HX : Hid (hex4L (zs.drop (i + 2)) = some u) := hx
  have HL : Hid (zs.length = n) := hlen
  have HC : Hid (∀ j, j < n → w.cell? ⟨b, o + j, none⟩ = some (.int .u8 (zs.getD j 0))) := cells
  have HZ : Hid (escR (zs.drop (i + 1)) = (65533, 5, true, true)) := uni_to_esc hlen hi hz (lone_hi hx hu)
  have hd : decide (u < 55296) = false := decide_eq_false (by omega)
  have hd2 : decide (u ≤ 56319) = false := decide_eq_false (by omega)
  clear cells hlen hz hx
  go_enter Tryf.func8, Tryf.ntmps8
  go_wp2_with fail
  refine (mhex4_any b o n cap (i + 2) ((i : Int) + 1 + 1) (by omega) zs _ hn HL.out HC.out).mono ?_
  rw [HX.out]
  rintro e w1 ⟨rfl, rfl⟩
  go_wp2
  exact bodyPost_ret (v := .tuple #[.int .i32 65533, .bool true, .int .i64 ((i : Int) + 1 + 5), .bool true]) (by simp [results, Tryf.results8, go_sem]) rfl ⟨model_ret (k := 5) HZ.out (by omega), Below.refl _ _⟩
set_option maxHeartbeats 400000 in
theorem model_lone1 (b o n cap i : Nat) (zs : List Int) (w : World) (hn : n ≤ 1048576) (hlen : zs.length = n) (cells : ∀ j, j < n → w.cell? ⟨b, o + j, none⟩ = some (.int .u8 (zs.getD j 0))) (hi : i + 1 < n) (hz : zs.getD (i + 1) 0 = 117) (u : Int) (hx : hex4L (zs.drop (i + 2)) = some u) (hu : 55296 ≤ u ∧ u ≤ 56319) (h10 : n < i + 12) :
    Calls Tryf.prog 8 #[.slice (some ⟨b, o, none⟩) n cap, .int .i64 i] w fun e w' => e = modelOut (escR (zs.drop (i + 1))) i ∧ Below w.heap.size w w' := by
  have hii : ¬ (n : Int) ≤ (i : Int) + 1 := by omega
  have hii' : (i : Int) + 1 < (n : Int) := by omega
  have hub : i ≤ 1048576 := by omega
  have k0 : w.cell? ⟨b, o + (i + 1), none⟩ = some (.int .u8 117) := by rw [cells (i + 1) hi, hz]
  have HX : Hid (hex4L (zs.drop (i + 2)) = some u) := hx
  have HL : Hid (zs.length = n) := hlen
  have HC : Hid (∀ j, j < n → w.cell? ⟨b, o + j, none⟩ = some (.int .u8 (zs.getD j 0))) := cells
  have HZ : Hid (escR (zs.drop (i + 1)) = (65533, 5, true, true)) := uni_to_esc hlen hi hz (uniR_lone0 hx (by omega) (lowOf_no hlen (.inl (by omega))))
  have hd : decide (u < 55296) = false := decide_eq_false (by omega)
  have hd2 : decide (u ≤ 56319) = true := decide_eq_true (by omega)
  have hd3 : decide ((i : Int) + 1 + 5 + 6 ≤ (n : Int)) = false := decide_eq_false (by omega)
  clear cells hlen hz hx
  go_enter Tryf.func8, Tryf.ntmps8
  go_wp2_with fail
  refine (mhex4_any b o n cap (i + 2) ((i : Int) + 1 + 1) (by omega) zs _ hn HL.out HC.out).mono ?_
  rw [HX.out]
  rintro e w1 ⟨rfl, rfl⟩
  go_wp2
  exact bodyPost_ret (v := .tuple #[.int .i32 65533, .bool true, .int .i64 ((i : Int) + 1 + 5), .bool true]) (by simp [results, Tryf.results8, go_sem]) rfl ⟨model_ret (k := 5) HZ.out (by omega), Below.refl _ _⟩
set_option maxHeartbeats 400000 in
theorem model_lone2 (b o n cap i : Nat) (zs : List Int) (w : World) (hn : n ≤ 1048576) (hlen : zs.length = n) (cells : ∀ j, j < n → w.cell? ⟨b, o + j, none⟩ = some (.int .u8 (zs.getD j 0))) (hi : i + 1 < n) (hz : zs.getD (i + 1) 0 = 117) (u : Int) (hx : hex4L (zs.drop (i + 2)) = some u) (hu : 55296 ≤ u ∧ u ≤ 56319) (h10 : i + 12 ≤ n) (z0 : zs.getD (i + 6) 0 ≠ 92) :
    Calls Tryf.prog 8 #[.slice (some ⟨b, o, none⟩) n cap, .int .i64 i] w fun e w' => e = modelOut (escR (zs.drop (i + 1))) i ∧ Below w.heap.size w w' := by
  have hii : ¬ (n : Int) ≤ (i : Int) + 1 := by omega
  have hii' : (i : Int) + 1 < (n : Int) := by omega
  have hub : i ≤ 1048576 := by omega
  have k0 : w.cell? ⟨b, o + (i + 1), none⟩ = some (.int .u8 117) := by rw [cells (i + 1) hi, hz]
  have HX : Hid (hex4L (zs.drop (i + 2)) = some u) := hx
  have HL : Hid (zs.length = n) := hlen
  have HC : Hid (∀ j, j < n → w.cell? ⟨b, o + j, none⟩ = some (.int .u8 (zs.getD j 0))) := cells
  have HZ : Hid (escR (zs.drop (i + 1)) = (65533, 5, true, true)) := uni_to_esc hlen hi hz (uniR_lone0 hx (by omega) (lowOf_no hlen (.inr (.inl z0))))
  have hd : decide (u < 55296) = false := decide_eq_false (by omega)
  have hd2 : decide (u ≤ 56319) = true := decide_eq_true (by omega)
  have hd3 : decide ((i : Int) + 1 + 5 + 6 ≤ (n : Int)) = true := decide_eq_true (by omega)
  have hb6 : (i : Int) + 1 + 5 < (n : Int) := by omega
  have hb7 : (i : Int) + 1 + 5 + 1 < (n : Int) := by omega
  obtain ⟨c, hc⟩ : ∃ c, c = zs.getD (i + 6) 0 := ⟨_, rfl⟩
  have k1 : w.cell? ⟨b, o + (i + 1 + 5), none⟩ = some (.int .u8 c) := by rw [cells (i + 6) (by omega), hc]
  have e1 : (c == 92) = false := by rw [hc]; simpa using z0
  clear cells hlen hz hx z0 hc
  go_enter Tryf.func8, Tryf.ntmps8
  go_wp2_with fail
  refine (mhex4_any b o n cap (i + 2) ((i : Int) + 1 + 1) (by omega) zs _ hn HL.out HC.out).mono ?_
  rw [HX.out]
  rintro e w1 ⟨rfl, rfl⟩
  go_wp2
  exact bodyPost_ret (v := .tuple #[.int .i32 65533, .bool true, .int .i64 ((i : Int) + 1 + 5), .bool true]) (by simp [results, Tryf.results8, go_sem]) rfl ⟨model_ret (k := 5) HZ.out (by omega), Below.refl _ _⟩
set_option maxHeartbeats 400000 in
theorem model_lone3 (b o n cap i : Nat) (zs : List Int) (w : World) (hn : n ≤ 1048576) (hlen : zs.length = n) (cells : ∀ j, j < n → w.cell? ⟨b, o + j, none⟩ = some (.int .u8 (zs.getD j 0))) (hi : i + 1 < n) (hz : zs.getD (i + 1) 0 = 117) (u : Int) (hx : hex4L (zs.drop (i + 2)) = some u) (hu : 55296 ≤ u ∧ u ≤ 56319) (h10 : i + 12 ≤ n) (z0 : zs.getD (i + 6) 0 = 92) (z1 : zs.getD (i + 7) 0 ≠ 117) :
    Calls Tryf.prog 8 #[.slice (some ⟨b, o, none⟩) n cap, .int .i64 i] w fun e w' => e = modelOut (escR (zs.drop (i + 1))) i ∧ Below w.heap.size w w' := by
  have hii : ¬ (n : Int) ≤ (i : Int) + 1 := by omega
  have hii' : (i : Int) + 1 < (n : Int) := by omega
  have hub : i ≤ 1048576 := by omega
  have k0 : w.cell? ⟨b, o + (i + 1), none⟩ = some (.int .u8 117) := by rw [cells (i + 1) hi, hz]
  have HX : Hid (hex4L (zs.drop (i + 2)) = some u) := hx
  have HL : Hid (zs.length = n) := hlen
  have HC : Hid (∀ j, j < n → w.cell? ⟨b, o + j, none⟩ = some (.int .u8 (zs.getD j 0))) := cells
  have HZ : Hid (escR (zs.drop (i + 1)) = (65533, 5, true, true)) := uni_to_esc hlen hi hz (uniR_lone0 hx (by omega) (lowOf_no hlen (.inr (.inr z1))))
  have hd : decide (u < 55296) = false := decide_eq_false (by omega)
  have hd2 : decide (u ≤ 56319) = true := decide_eq_true (by omega)
  have hd3 : decide ((i : Int) + 1 + 5 + 6 ≤ (n : Int)) = true := decide_eq_true (by omega)
  have hb6 : (i : Int) + 1 + 5 < (n : Int) := by omega
  have hb7 : (i : Int) + 1 + 5 + 1 < (n : Int) := by omega
  obtain ⟨c, hc⟩ : ∃ c, c = zs.getD (i + 7) 0 := ⟨_, rfl⟩
  have k1 : w.cell? ⟨b, o + (i + 1 + 5), none⟩ = some (.int .u8 92) := by rw [cells (i + 6) (by omega), z0]
  have k2 : w.cell? ⟨b, o + (i + 1 + 5 + 1), none⟩ = some (.int .u8 c) := by rw [cells (i + 7) (by omega), hc]
  have e1 : (c == 117) = false := by rw [hc]; simpa using z1
  clear cells hlen hz hx z0 z1 hc
  go_enter Tryf.func8, Tryf.ntmps8
  go_wp2_with fail
  refine (mhex4_any b o n cap (i + 2) ((i : Int) + 1 + 1) (by omega) zs _ hn HL.out HC.out).mono ?_
  rw [HX.out]
  rintro e w1 ⟨rfl, rfl⟩
  go_wp2
  exact bodyPost_ret (v := .tuple #[.int .i32 65533, .bool true, .int .i64 ((i : Int) + 1 + 5), .bool true]) (by simp [results, Tryf.results8, go_sem]) rfl ⟨model_ret (k := 5) HZ.out (by omega), Below.refl _ _⟩
set_option maxHeartbeats 400000 in
theorem model_lone4 (b o n cap i : Nat) (zs : List Int) (w : World) (hn : n ≤ 1048576) (hlen : zs.length = n) (cells : ∀ j, j < n → w.cell? ⟨b, o + j, none⟩ = some (.int .u8 (zs.getD j 0))) (hi : i + 1 < n) (hz : zs.getD (i + 1) 0 = 117) (u : Int) (hx : hex4L (zs.drop (i + 2)) = some u) (hu : 55296 ≤ u ∧ u ≤ 56319) (h10 : i + 12 ≤ n) (z0 : zs.getD (i + 6) 0 = 92) (z1 : zs.getD (i + 7) 0 = 117) (hy : hex4L (zs.drop (i + 8)) = none) :
    Calls Tryf.prog 8 #[.slice (some ⟨b, o, none⟩) n cap, .int .i64 i] w fun e w' => e = modelOut (escR (zs.drop (i + 1))) i ∧ Below w.heap.size w w' := by
  have hii : ¬ (n : Int) ≤ (i : Int) + 1 := by omega
  have hii' : (i : Int) + 1 < (n : Int) := by omega
  have hub : i ≤ 1048576 := by omega
  have k0 : w.cell? ⟨b, o + (i + 1), none⟩ = some (.int .u8 117) := by rw [cells (i + 1) hi, hz]
  have HX : Hid (hex4L (zs.drop (i + 2)) = some u) := hx
  have HL : Hid (zs.length = n) := hlen
  have HC : Hid (∀ j, j < n → w.cell? ⟨b, o + j, none⟩ = some (.int .u8 (zs.getD j 0))) := cells
  have HZ : Hid (escR (zs.drop (i + 1)) = (65533, 5, true, true)) := uni_to_esc hlen hi hz (uniR_lone0 hx (by omega) ((lowOf_at hlen (by omega) z0 z1).trans hy))
  have hd : decide (u < 55296) = false := decide_eq_false (by omega)
  have hd2 : decide (u ≤ 56319) = true := decide_eq_true (by omega)
  have hd3 : decide ((i : Int) + 1 + 5 + 6 ≤ (n : Int)) = true := decide_eq_true (by omega)
  have hb6 : (i : Int) + 1 + 5 < (n : Int) := by omega
  have hb7 : (i : Int) + 1 + 5 + 1 < (n : Int) := by omega
  have k1 : w.cell? ⟨b, o + (i + 1 + 5), none⟩ = some (.int .u8 92) := by rw [cells (i + 6) (by omega), z0]
  have k2 : w.cell? ⟨b, o + (i + 1 + 5 + 1), none⟩ = some (.int .u8 117) := by rw [cells (i + 7) (by omega), z1]
  have HY : Hid (hex4L (zs.drop (i + 8)) = none) := hy
  clear cells hlen hz hx z0 z1 hy
  go_enter Tryf.func8, Tryf.ntmps8
  go_wp2_with fail
  refine (mhex4_any b o n cap (i + 2) ((i : Int) + 1 + 1) (by omega) zs _ hn HL.out HC.out).mono ?_
  rw [HX.out]
  rintro e w1 ⟨rfl, rfl⟩
  go_wp2_with fail
  refine (mhex4_any b o n cap (i + 8) ((i : Int) + 1 + 5 + 2) (by omega) zs _ hn HL.out HC.out).mono ?_
  rw [HY.out]
  rintro e w1 ⟨rfl, rfl⟩
  go_wp2
  exact bodyPost_ret (v := .tuple #[.int .i32 65533, .bool true, .int .i64 ((i : Int) + 1 + 5), .bool true]) (by simp [results, Tryf.results8, go_sem]) rfl ⟨model_ret (k := 5) HZ.out (by omega), Below.refl _ _⟩
set_option maxHeartbeats 400000 in
theorem model_lone5 (b o n cap i : Nat) (zs : List Int) (w : World) (hn : n ≤ 1048576) (hlen : zs.length = n) (cells : ∀ j, j < n → w.cell? ⟨b, o + j, none⟩ = some (.int .u8 (zs.getD j 0))) (hi : i + 1 < n) (hz : zs.getD (i + 1) 0 = 117) (u lo : Int) (hx : hex4L (zs.drop (i + 2)) = some u) (hu : 55296 ≤ u ∧ u ≤ 56319) (h10 : i + 12 ≤ n) (z0 : zs.getD (i + 6) 0 = 92) (z1 : zs.getD (i + 7) 0 = 117) (hy : hex4L (zs.drop (i + 8)) = some lo) (hlo : lo < 56320) :
    Calls Tryf.prog 8 #[.slice (some ⟨b, o, none⟩) n cap, .int .i64 i] w fun e w' => e = modelOut (escR (zs.drop (i + 1))) i ∧ Below w.heap.size w w' := by
  have hii : ¬ (n : Int) ≤ (i : Int) + 1 := by omega
  have hii' : (i : Int) + 1 < (n : Int) := by omega
  have hub : i ≤ 1048576 := by omega
  have k0 : w.cell? ⟨b, o + (i + 1), none⟩ = some (.int .u8 117) := by rw [cells (i + 1) hi, hz]
  have HX : Hid (hex4L (zs.drop (i + 2)) = some u) := hx
  have HL : Hid (zs.length = n) := hlen
  have HC : Hid (∀ j, j < n → w.cell? ⟨b, o + j, none⟩ = some (.int .u8 (zs.getD j 0))) := cells
  have HZ : Hid (escR (zs.drop (i + 1)) = (65533, 5, true, true)) := uni_to_esc hlen hi hz (uniR_lone1 hx (by omega) ((lowOf_at hlen (by omega) z0 z1).trans hy) (by omega))
  have hd : decide (u < 55296) = false := decide_eq_false (by omega)
  have hd2 : decide (u ≤ 56319) = true := decide_eq_true (by omega)
  have hd3 : decide ((i : Int) + 1 + 5 + 6 ≤ (n : Int)) = true := decide_eq_true (by omega)
  have hb6 : (i : Int) + 1 + 5 < (n : Int) := by omega
  have hb7 : (i : Int) + 1 + 5 + 1 < (n : Int) := by omega
  have k1 : w.cell? ⟨b, o + (i + 1 + 5), none⟩ = some (.int .u8 92) := by rw [cells (i + 6) (by omega), z0]
  have k2 : w.cell? ⟨b, o + (i + 1 + 5 + 1), none⟩ = some (.int .u8 117) := by rw [cells (i + 7) (by omega), z1]
  have HY : Hid (hex4L (zs.drop (i + 8)) = some lo) := hy
  have hd4 : decide (56320 ≤ lo) = false := decide_eq_false (by omega)
  clear cells hlen hz hx z0 z1 hy
  go_enter Tryf.func8, Tryf.ntmps8
  go_wp2_with fail
  refine (mhex4_any b o n cap (i + 2) ((i : Int) + 1 + 1) (by omega) zs _ hn HL.out HC.out).mono ?_
  rw [HX.out]
  rintro e w1 ⟨rfl, rfl⟩
  go_wp2_with fail
  refine (mhex4_any b o n cap (i + 8) ((i : Int) + 1 + 5 + 2) (by omega) zs _ hn HL.out HC.out).mono ?_
  rw [HY.out]
  rintro e w1 ⟨rfl, rfl⟩
  go_wp2
  exact bodyPost_ret (v := .tuple #[.int .i32 65533, .bool true, .int .i64 ((i : Int) + 1 + 5), .bool true]) (by simp [results, Tryf.results8, go_sem]) rfl ⟨model_ret (k := 5) HZ.out (by omega), Below.refl _ _⟩
set_option maxHeartbeats 400000 in
theorem model_lone6 (b o n cap i : Nat) (zs : List Int) (w : World) (hn : n ≤ 1048576) (hlen : zs.length = n) (cells : ∀ j, j < n → w.cell? ⟨b, o + j, none⟩ = some (.int .u8 (zs.getD j 0))) (hi : i + 1 < n) (hz : zs.getD (i + 1) 0 = 117) (u lo : Int) (hx : hex4L (zs.drop (i + 2)) = some u) (hu : 55296 ≤ u ∧ u ≤ 56319) (h10 : i + 12 ≤ n) (z0 : zs.getD (i + 6) 0 = 92) (z1 : zs.getD (i + 7) 0 = 117) (hy : hex4L (zs.drop (i + 8)) = some lo) (hlo : 57343 < lo) :
    Calls Tryf.prog 8 #[.slice (some ⟨b, o, none⟩) n cap, .int .i64 i] w fun e w' => e = modelOut (escR (zs.drop (i + 1))) i ∧ Below w.heap.size w w' := by
  have hii : ¬ (n : Int) ≤ (i : Int) + 1 := by omega
  have hii' : (i : Int) + 1 < (n : Int) := by omega
  have hub : i ≤ 1048576 := by omega
  have k0 : w.cell? ⟨b, o + (i + 1), none⟩ = some (.int .u8 117) := by rw [cells (i + 1) hi, hz]
  have HX : Hid (hex4L (zs.drop (i + 2)) = some u) := hx
  have HL : Hid (zs.length = n) := hlen
  have HC : Hid (∀ j, j < n → w.cell? ⟨b, o + j, none⟩ = some (.int .u8 (zs.getD j 0))) := cells
  have HZ : Hid (escR (zs.drop (i + 1)) = (65533, 5, true, true)) := uni_to_esc hlen hi hz (uniR_lone1 hx (by omega) ((lowOf_at hlen (by omega) z0 z1).trans hy) (by omega))
  have hd : decide (u < 55296) = false := decide_eq_false (by omega)
  have hd2 : decide (u ≤ 56319) = true := decide_eq_true (by omega)
  have hd3 : decide ((i : Int) + 1 + 5 + 6 ≤ (n : Int)) = true := decide_eq_true (by omega)
  have hb6 : (i : Int) + 1 + 5 < (n : Int) := by omega
  have hb7 : (i : Int) + 1 + 5 + 1 < (n : Int) := by omega
  have k1 : w.cell? ⟨b, o + (i + 1 + 5), none⟩ = some (.int .u8 92) := by rw [cells (i + 6) (by omega), z0]
  have k2 : w.cell? ⟨b, o + (i + 1 + 5 + 1), none⟩ = some (.int .u8 117) := by rw [cells (i + 7) (by omega), z1]
  have HY : Hid (hex4L (zs.drop (i + 8)) = some lo) := hy
  have hd4 : decide (56320 ≤ lo) = true := decide_eq_true (by omega)
  have hd5 : decide (lo ≤ 57343) = false := decide_eq_false (by omega)
  clear cells hlen hz hx z0 z1 hy
  go_enter Tryf.func8, Tryf.ntmps8
  go_wp2_with fail
  refine (mhex4_any b o n cap (i + 2) ((i : Int) + 1 + 1) (by omega) zs _ hn HL.out HC.out).mono ?_
  rw [HX.out]
  rintro e w1 ⟨rfl, rfl⟩
  go_wp2_with fail
  refine (mhex4_any b o n cap (i + 8) ((i : Int) + 1 + 5 + 2) (by omega) zs _ hn HL.out HC.out).mono ?_
  rw [HY.out]
  rintro e w1 ⟨rfl, rfl⟩
  go_wp2
  exact bodyPost_ret (v := .tuple #[.int .i32 65533, .bool true, .int .i64 ((i : Int) + 1 + 5), .bool true]) (by simp [results, Tryf.results8, go_sem]) rfl ⟨model_ret (k := 5) HZ.out (by omega), Below.refl _ _⟩
set_option maxHeartbeats 400000 in
theorem model_pair (b o n cap i : Nat) (zs : List Int) (w : World) (hn : n ≤ 1048576) (hlen : zs.length = n) (cells : ∀ j, j < n → w.cell? ⟨b, o + j, none⟩ = some (.int .u8 (zs.getD j 0))) (hi : i + 1 < n) (hz : zs.getD (i + 1) 0 = 117) (u lo : Int) (hx : hex4L (zs.drop (i + 2)) = some u) (hu : 55296 ≤ u ∧ u ≤ 56319) (h10 : i + 12 ≤ n) (z0 : zs.getD (i + 6) 0 = 92) (z1 : zs.getD (i + 7) 0 = 117) (hy : hex4L (zs.drop (i + 8)) = some lo) (hlo : 56320 ≤ lo ∧ lo ≤ 57343) :
    Calls Tryf.prog 8 #[.slice (some ⟨b, o, none⟩) n cap, .int .i64 i] w fun e w' => e = modelOut (escR (zs.drop (i + 1))) i ∧ Below w.heap.size w w' := by
  have hii : ¬ (n : Int) ≤ (i : Int) + 1 := by omega
  have hii' : (i : Int) + 1 < (n : Int) := by omega
  have hub : i ≤ 1048576 := by omega
  have k0 : w.cell? ⟨b, o + (i + 1), none⟩ = some (.int .u8 117) := by rw [cells (i + 1) hi, hz]
  have HX : Hid (hex4L (zs.drop (i + 2)) = some u) := hx
  have HL : Hid (zs.length = n) := hlen
  have HC : Hid (∀ j, j < n → w.cell? ⟨b, o + j, none⟩ = some (.int .u8 (zs.getD j 0))) := cells
  have HZ : Hid (escR (zs.drop (i + 1)) = (65536 + (u - 55296) * 1024 + (lo - 56320), 11, false, true)) := uni_to_esc hlen hi hz (uniR_pair hx hu ((lowOf_at hlen (by omega) z0 z1).trans hy) hlo)
  have hd : decide (u < 55296) = false := decide_eq_false (by omega)
  have hd2 : decide (u ≤ 56319) = true := decide_eq_true (by omega)
  have hd3 : decide ((i : Int) + 1 + 5 + 6 ≤ (n : Int)) = true := decide_eq_true (by omega)
  have hb6 : (i : Int) + 1 + 5 < (n : Int) := by omega
  have hb7 : (i : Int) + 1 + 5 + 1 < (n : Int) := by omega
  have k1 : w.cell? ⟨b, o + (i + 1 + 5), none⟩ = some (.int .u8 92) := by rw [cells (i + 6) (by omega), z0]
  have k2 : w.cell? ⟨b, o + (i + 1 + 5 + 1), none⟩ = some (.int .u8 117) := by rw [cells (i + 7) (by omega), z1]
  have HY : Hid (hex4L (zs.drop (i + 8)) = some lo) := hy
  have hd4 : decide (56320 ≤ lo) = true := decide_eq_true (by omega)
  have hd5 : decide (lo ≤ 57343) = true := decide_eq_true (by omega)
  clear cells hlen hz hx z0 z1 hy
  go_enter Tryf.func8, Tryf.ntmps8
  go_wp2_with fail
  refine (mhex4_any b o n cap (i + 2) ((i : Int) + 1 + 1) (by omega) zs _ hn HL.out HC.out).mono ?_
  rw [HX.out]
  rintro e w1 ⟨rfl, rfl⟩
  go_wp2_with fail
  refine (mhex4_any b o n cap (i + 8) ((i : Int) + 1 + 5 + 2) (by omega) zs _ hn HL.out HC.out).mono ?_
  rw [HY.out]
  rintro e w1 ⟨rfl, rfl⟩
  go_wp2
  exact bodyPost_ret (v := .tuple #[.int .i32 (65536 + (u - 55296) * 1024 + (lo - 56320)), .bool true, .int .i64 ((i : Int) + 1 + 5 + 6), .bool false]) (by simp [results, Tryf.results8, go_sem]) rfl ⟨model_ret (k := 11) HZ.out (by omega), Below.refl _ _⟩
/-- escModel computes escR. -/
theorem model_any (b o n cap i : Nat) (zs : List Int) (w : World) (hn : n ≤ 1048576) (hlen : zs.length = n) (cells : ∀ j, j < n → w.cell? ⟨b, o + j, none⟩ = some (.int .u8 (zs.getD j 0))) (hi : i < n) :
    Calls Tryf.prog 8 #[.slice (some ⟨b, o, none⟩) n cap, .int .i64 i] w fun e w' => e = modelOut (escR (zs.drop (i + 1))) i ∧ Below w.heap.size w w' := by
  by_cases he : i + 1 = n
  · exact model_end b o n cap i zs w hn hlen cells he
  · have hl : i + 1 < n := by omega
    by_cases hz : zs.getD (i + 1) 0 = 117
    · cases hx : hex4L (zs.drop (i + 2)) with
      | none => exact model_ubad b o n cap i zs w hn hlen cells hl hz hx
      | some u =>
        have hb := hex4L_bd hx
        by_cases h1 : u < 55296
        · exact model_bmp1 b o n cap i zs w hn hlen cells hl hz u hx ⟨hb.1, h1⟩
        · by_cases h2 : 57343 < u
          · exact model_bmp2 b o n cap i zs w hn hlen cells hl hz u hx ⟨h2, hb.2⟩
          · by_cases h3 : 56319 < u
            · exact model_lone0 b o n cap i zs w hn hlen cells hl hz u hx ⟨h3, by omega⟩
            · have hu : 55296 ≤ u ∧ u ≤ 56319 := by omega
              by_cases h10 : i + 12 ≤ n
              · by_cases z0 : zs.getD (i + 6) 0 = 92
                · by_cases z1 : zs.getD (i + 7) 0 = 117
                  · cases hy : hex4L (zs.drop (i + 8)) with
                    | none => exact model_lone4 b o n cap i zs w hn hlen cells hl hz u hx hu h10 z0 z1 hy
                    | some lo =>
                      by_cases h4 : lo < 56320
                      · exact model_lone5 b o n cap i zs w hn hlen cells hl hz u lo hx hu h10 z0 z1 hy h4
                      · by_cases h5 : 57343 < lo
                        · exact model_lone6 b o n cap i zs w hn hlen cells hl hz u lo hx hu h10 z0 z1 hy h5
                        · exact model_pair b o n cap i zs w hn hlen cells hl hz u lo hx hu h10 z0 z1 hy (by omega)
                  · exact model_lone3 b o n cap i zs w hn hlen cells hl hz u hx hu h10 z0 z1
                · exact model_lone2 b o n cap i zs w hn hlen cells hl hz u hx hu h10 z0
              · exact model_lone1 b o n cap i zs w hn hlen cells hl hz u hx hu (by omega)
    · cases hs : simpleV (zs.getD (i + 1) 0) with
      | none => exact model_bad b o n cap i zs w hn hlen cells hl hz hs
      | some v => exact model_simple b o n cap i zs w hn hlen cells hl hz v hs
end Go.Proofs.Qxb6614687aFmt
