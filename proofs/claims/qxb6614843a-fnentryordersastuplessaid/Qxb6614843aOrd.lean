/-
  The plain law of the order: the codes of two byte strings compare as the strings do, whatever comes behind.
-/
import Derived.Test.Qxb6614843aDec
namespace Go.Proofs.Qxb6614843a
set_option linter.unusedVariables false
/-- bytes compared: -1, 0, 1 -/
def cmpL : List Int → List Int → Int
  | [], [] => 0
  | [], _ :: _ => -1
  | _ :: _, [] => 1
  | a :: r, b :: s => if a < b then -1 else if b < a then 1 else cmpL r s
theorem cmpL_lt {a b : Int} (r s : List Int) (h : a < b) : cmpL (a :: r) (b :: s) = -1 := by simp [cmpL, h]
theorem cmpL_gt {a b : Int} (r s : List Int) (h : b < a) : cmpL (a :: r) (b :: s) = 1 := by
  have : ¬ a < b := by omega
  simp [cmpL, h, this]
theorem cmpL_eq (a : Int) (r s : List Int) : cmpL (a :: r) (a :: s) = cmpL r s := by simp [cmpL]
theorem cmpL_pre : ∀ (p x y : List Int), cmpL (p ++ x) (p ++ y) = cmpL x y
  | [], x, y => rfl
  | a :: p, x, y => by rw [List.cons_append, List.cons_append, cmpL_eq]; exact cmpL_pre p x y
theorem cmpL_refl (p : List Int) : cmpL p p = 0 := by
  have := cmpL_pre p [] []
  simpa [cmpL] using this
theorem cmpL_zero : ∀ (a b : List Int), cmpL a b = 0 → a = b
  | [], [], _ => rfl
  | [], _ :: _, h => by simp [cmpL] at h
  | _ :: _, [], h => by simp [cmpL] at h
  | a :: r, b :: s, h => by
    by_cases h1 : a < b
    · rw [cmpL_lt r s h1] at h; omega
    · by_cases h2 : b < a
      · rw [cmpL_gt r s h2] at h; omega
      · obtain rfl : a = b := by omega
        rw [cmpL_eq] at h
        rw [cmpL_zero r s h]
/-- the code of a byte starts with 1 or more; below another byte's code where the byte is below -/
theorem esc1_cons (c : Int) (h : 0 ≤ c) : ∃ d r, esc1 c = d :: r ∧ 1 ≤ d ∧ (c < 254 → d < 254) := by
  unfold esc1
  by_cases h0 : c = 0
  · exact ⟨1, [1], by simp [h0], by omega, by omega⟩
  · by_cases h1 : c = 1
    · exact ⟨1, [2], by simp [h1], by omega, by omega⟩
    · exact ⟨c, [], by simp [h0, h1], by omega, by omega⟩
theorem esc1_lt (a b : Int) (ha : 0 ≤ a) (h : a < b) (x y : List Int) : cmpL (esc1 a ++ x) (esc1 b ++ y) = -1 := by
  have hb0 : b ≠ 0 := by omega
  by_cases h0 : a = 0
  · subst h0
    by_cases h1 : b = 1
    · subst h1; simp [esc1, cmpL]
    · have e : esc1 b = [b] := by simp [esc1, hb0, h1]
      rw [e]
      exact cmpL_lt _ _ (by omega)
  · by_cases h1 : a = 1
    · subst h1
      have e : esc1 b = [b] := by simp [esc1, hb0, show b ≠ 1 by omega]
      rw [e]
      exact cmpL_lt _ _ h
    · have e1 : esc1 a = [a] := by simp [esc1, h0, h1]
      have e2 : esc1 b = [b] := by simp [esc1, hb0, show b ≠ 1 by omega]
      rw [e1, e2]
      exact cmpL_lt _ _ h
theorem esc1_gt (a b : Int) (hb : 0 ≤ b) (h : b < a) (x y : List Int) : cmpL (esc1 a ++ x) (esc1 b ++ y) = 1 := by
  have ha0 : a ≠ 0 := by omega
  by_cases h0 : b = 0
  · subst h0
    by_cases h1 : a = 1
    · subst h1; simp [esc1, cmpL]
    · have e : esc1 a = [a] := by simp [esc1, ha0, h1]
      rw [e]
      exact cmpL_gt _ _ (by omega)
  · by_cases h1 : b = 1
    · subst h1
      have e : esc1 a = [a] := by simp [esc1, ha0, show a ≠ 1 by omega]
      rw [e]
      exact cmpL_gt _ _ h
    · have e1 : esc1 b = [b] := by simp [esc1, h0, h1]
      have e2 : esc1 a = [a] := by simp [esc1, ha0, show a ≠ 1 by omega]
      rw [e1, e2]
      exact cmpL_gt _ _ h
theorem escs_cons (c : Int) (r : List Int) : escs (c :: r) = esc1 c ++ escs r := by simp [escs]
theorem escs_cmp : ∀ (a b x y : List Int), (∀ z ∈ a, 0 ≤ z) → (∀ z ∈ b, 0 ≤ z) → cmpL a b ≠ 0 → cmpL (escs a ++ 0 :: x) (escs b ++ 0 :: y) = cmpL a b
  | [], [], x, y, _, _, h => absurd rfl h
  | [], c :: s, x, y, _, hb, _ => by
    obtain ⟨d, r, e, h1, _⟩ := esc1_cons c (hb c (by simp))
    rw [escs_cons, e]
    exact cmpL_lt _ _ (by omega)
  | c :: s, [], x, y, ha, _, _ => by
    obtain ⟨d, r, e, h1, _⟩ := esc1_cons c (ha c (by simp))
    rw [escs_cons, e]
    exact cmpL_gt _ _ (by omega)
  | c :: r, d :: s, x, y, ha, hb, h => by
    rw [escs_cons, escs_cons, List.append_assoc, List.append_assoc]
    by_cases h1 : c < d
    · rw [esc1_lt c d (ha c (by simp)) h1, cmpL_lt _ _ h1]
    · by_cases h2 : d < c
      · rw [esc1_gt c d (hb d (by simp)) h2, cmpL_gt _ _ h2]
      · obtain rfl : c = d := by omega
        rw [cmpL_eq] at h ⊢
        rw [cmpL_pre]
        exact escs_cmp r s x y (fun z hz => ha z (by simp [hz])) (fun z hz => hb z (by simp [hz])) h
/-- the first byte of an unmarked code is below 254 -/
theorem unmarked_first (b : List Int) (hb : ∀ z ∈ b, 0 ≤ z) (h : ¬ (0 < b.length ∧ 254 ≤ b.getD 0 0)) (y : List Int) : ∃ d r, escs b ++ 0 :: y = d :: r ∧ d < 254 := by
  cases b with
  | nil => exact ⟨0, y, rfl, by omega⟩
  | cons c s =>
    obtain ⟨d, r, e, _, h2⟩ := esc1_cons c (hb c (by simp))
    refine ⟨d, r ++ escs s ++ 0 :: y, by rw [escs_cons, e]; simp, h2 ?_⟩
    simp at h
    omega
theorem encB_cmp (a b x y : List Int) (ha : ∀ z ∈ a, 0 ≤ z) (hb : ∀ z ∈ b, 0 ≤ z) (h : cmpL a b ≠ 0) : cmpL (encB a ++ x) (encB b ++ y) = cmpL a b := by
  have ea : encB a ++ x = mark a ++ (escs a ++ 0 :: x) := by simp [encB]
  have eb : encB b ++ y = mark b ++ (escs b ++ 0 :: y) := by simp [encB]
  rw [ea, eb]
  by_cases m1 : 0 < a.length ∧ 254 ≤ a.getD 0 0
  · have e1 : mark a = [254] := by unfold mark; rw [if_pos m1]
    by_cases m2 : 0 < b.length ∧ 254 ≤ b.getD 0 0
    · have e2 : mark b = [254] := by unfold mark; rw [if_pos m2]
      rw [e1, e2, cmpL_pre]
      exact escs_cmp a b x y ha hb h
    · have e2 : mark b = [] := by unfold mark; rw [if_neg m2]
      obtain ⟨d, r, e, hd⟩ := unmarked_first b hb m2 y
      rw [e1, e2, List.nil_append, e]
      show cmpL (254 :: _) (d :: r) = _
      rw [cmpL_gt _ _ hd]
      cases a with
      | nil => simp at m1
      | cons c s =>
        cases b with
        | nil => rfl
        | cons c' s' =>
          simp at m1 m2
          exact (cmpL_gt _ _ (by omega)).symm
  · have e1 : mark a = [] := by unfold mark; rw [if_neg m1]
    by_cases m2 : 0 < b.length ∧ 254 ≤ b.getD 0 0
    · have e2 : mark b = [254] := by unfold mark; rw [if_pos m2]
      obtain ⟨d, r, e, hd⟩ := unmarked_first a ha m1 x
      rw [e1, e2, List.nil_append, e]
      show cmpL (d :: r) (254 :: _) = _
      rw [cmpL_lt _ _ hd]
      cases b with
      | nil => simp at m2
      | cons c s =>
        cases a with
        | nil => rfl
        | cons c' s' =>
          simp at m1 m2
          exact (cmpL_lt _ _ (by omega)).symm
    · have e2 : mark b = [] := by unfold mark; rw [if_neg m2]
      rw [e1, e2, List.nil_append, List.nil_append]
      exact escs_cmp a b x y ha hb h
/-- equal values at the first m keys: equal codes -/
theorem encAll_same (B1 B2 : Nat → List Int) (ks : Nat → Int) : ∀ m, (∀ j, j < m → cmpL (B1 (ks j).toNat) (B2 (ks j).toNat) = 0) → encAll (fun i => encB (B1 i)) ks m = encAll (fun i => encB (B2 i)) ks m
  | 0, _ => rfl
  | m + 1, h => by
    show encAll _ ks m ++ encB (B1 (ks m).toNat) = encAll _ ks m ++ encB (B2 (ks m).toNat)
    rw [encAll_same B1 B2 ks m (fun j hj => h j (by omega)), cmpL_zero _ _ (h m (by omega))]
/-- the entries compare as the first pair of values that differ -/
theorem encAll_cmp (B1 B2 : Nat → List Int) (ks : Nat → Int) (K m : Nat) (hm : m < K) (h : ∀ j, j < m → cmpL (B1 (ks j).toNat) (B2 (ks j).toNat) = 0) (h1 : ∀ z ∈ B1 (ks m).toNat, 0 ≤ z) (h2 : ∀ z ∈ B2 (ks m).toNat, 0 ≤ z) (hn : cmpL (B1 (ks m).toNat) (B2 (ks m).toNat) ≠ 0) :
    cmpL (encAll (fun i => encB (B1 i)) ks K) (encAll (fun i => encB (B2 i)) ks K) = cmpL (B1 (ks m).toNat) (B2 (ks m).toNat) := by
  obtain ⟨r1, e1⟩ := encAll_split (fun i => encB (B1 i)) ks K m hm
  obtain ⟨r2, e2⟩ := encAll_split (fun i => encB (B2 i)) ks K m hm
  rw [e1, e2, encAll_same B1 B2 ks m h, cmpL_pre]
  exact encB_cmp _ _ _ _ h1 h2 hn
end Go.Proofs.Qxb6614843a
