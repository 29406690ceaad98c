/-
  THE PLAIN FUNCTIONS: what the reader's escape, and the law's own model of it, compute over a list of bytes. No Go in sight.
-/
import Derived.Laws.World
namespace Go.Proofs.Qxb6614687aFmt

/-- The value of a hexadecimal digit. -/
def hexv (c : Int) : Option Int :=
  if 48 ≤ c ∧ c ≤ 57 then some (c - 48) else if 97 ≤ c ∧ c ≤ 102 then some (c - 87) else if 65 ≤ c ∧ c ≤ 70 then some (c - 55) else none
/-- The number that hexadecimal digits spell; none where one is no digit. -/
def hexAcc (l : List Int) : Option Int := l.foldl (fun a c => a.bind fun u => (hexv c).map fun d => u * 16 + d) (some 0)
/-- .. of the first four bytes. -/
def hex4L (l : List Int) : Option Int := if l.length < 4 then none else hexAcc (l.take 4)
theorem hexv_bd {c d : Int} (h : hexv c = some d) : 0 ≤ d ∧ d < 16 := by
  unfold hexv at h
  split at h
  · injection h with h; omega
  · split at h
    · injection h with h; omega
    · split at h
      · injection h with h; omega
      · cases h
theorem hexAcc_snoc (l : List Int) (c : Int) : hexAcc (l ++ [c]) = (hexAcc l).bind fun u => (hexv c).map fun d => u * 16 + d := by
  unfold hexAcc; rw [List.foldl_append]; rfl
theorem hexAcc_bd : ∀ (n : Nat) (l : List Int), l.length = n → ∀ u, hexAcc l = some u → 0 ≤ u ∧ u < 16 ^ n
  | 0, l, hl, u, h => by
    have : l = [] := List.length_eq_zero_iff.1 hl
    subst this
    simp [hexAcc] at h
    omega
  | n + 1, l, hl, u, h => by
    have hne : l ≠ [] := by intro h0; subst h0; simp at hl
    obtain ⟨l', c, rfl⟩ : ∃ l' c, l = l' ++ [c] := ⟨l.dropLast, l.getLast hne, (List.dropLast_concat_getLast hne).symm⟩
    rw [hexAcc_snoc] at h
    cases hu : hexAcc l' with
    | none => rw [hu] at h; cases h
    | some v =>
      rw [hu] at h
      cases hd : hexv c with
      | none => rw [hd] at h; cases h
      | some d =>
        rw [hd] at h
        simp at h
        have hb := hexAcc_bd n l' (by simpa using hl) v hu
        have hd' := hexv_bd hd
        rw [Int.pow_succ]
        omega
theorem hex4L_bd {l : List Int} {u : Int} (h : hex4L l = some u) : 0 ≤ u ∧ u < 65536 := by
  unfold hex4L at h
  split at h
  · cases h
  · have := hexAcc_bd 4 (l.take 4) (by simp; omega) u h
    simpa using this
/-- Once a prefix spells no number, no longer one does. -/
theorem hexAcc_none (l r : List Int) (h : hexAcc l = none) : hexAcc (l ++ r) = none := by
  induction r generalizing l with
  | nil => simpa using h
  | cons c r ih =>
    have e : l ++ c :: r = (l ++ [c]) ++ r := by simp
    rw [e]
    exact ih _ (by rw [hexAcc_snoc, h]; rfl)
theorem hex4L_none_of {l : List Int} (k : Nat) (hk : k ≤ 4) (h : hexAcc (l.take k) = none) : hex4L l = none := by
  unfold hex4L
  split
  · rfl
  · have e : l.take 4 = l.take k ++ (l.take 4).drop k := by
      conv => lhs; rw [← List.take_append_drop k (l.take 4)]
      rw [List.take_take, Nat.min_eq_left hk]
    rw [e]
    exact hexAcc_none _ _ h
theorem take_snoc (l : List Int) (k : Nat) (h : k < l.length) : l.take (k + 1) = l.take k ++ [l.getD k 0] := by
  rw [List.take_succ_eq_append_getElem h, List.getD_eq_getElem?_getD, List.getElem?_eq_getElem h]; rfl
/-- The four digits of a second escape '\\u....' that l begins with. -/
def lowOf (l : List Int) : Option Int := if 6 ≤ l.length ∧ l.getD 0 0 = 92 ∧ l.getD 1 0 = 117 then hex4L (l.drop 2) else none
/-- What is read behind '\\u': the character, how many bytes of l, whether it is a lone surrogate, whether it is an escape at all. -/
def uniR (l : List Int) : Int × Nat × Bool × Bool :=
  match hex4L l with
  | none => (0, 0, false, false)
  | some u =>
    if u < 55296 ∨ 57343 < u then (u, 4, false, true)
    else match lowOf (l.drop 4) with
      | none => (65533, 4, true, true)
      | some lo => if u ≤ 56319 ∧ 56320 ≤ lo ∧ lo ≤ 57343 then (65536 + (u - 55296) * 1024 + (lo - 56320), 10, false, true) else (65533, 4, true, true)
theorem uniR_bad {l : List Int} (h : hex4L l = none) : uniR l = (0, 0, false, false) := by unfold uniR; rw [h]
theorem uniR_bmp {l : List Int} {u : Int} (h : hex4L l = some u) (hu : u < 55296 ∨ 57343 < u) : uniR l = (u, 4, false, true) := by unfold uniR; rw [h]; simp only; rw [if_pos hu]
theorem uniR_pair {l : List Int} {u lo : Int} (h : hex4L l = some u) (hu : 55296 ≤ u ∧ u ≤ 56319) (hl : lowOf (l.drop 4) = some lo) (h2 : 56320 ≤ lo ∧ lo ≤ 57343) : uniR l = (65536 + (u - 55296) * 1024 + (lo - 56320), 10, false, true) := by
  unfold uniR; rw [h]; simp only; rw [if_neg (by omega), hl]; simp only; rw [if_pos (by omega)]
theorem uniR_lone0 {l : List Int} {u : Int} (h : hex4L l = some u) (hu : 55296 ≤ u ∧ u ≤ 57343) (hl : lowOf (l.drop 4) = none) : uniR l = (65533, 4, true, true) := by
  unfold uniR; rw [h]; simp only; rw [if_neg (by omega), hl]
theorem uniR_lone1 {l : List Int} {u lo : Int} (h : hex4L l = some u) (hu : 55296 ≤ u ∧ u ≤ 57343) (hl : lowOf (l.drop 4) = some lo) (h2 : 56319 < u ∨ lo < 56320 ∨ 57343 < lo) : uniR l = (65533, 4, true, true) := by
  unfold uniR; rw [h]; simp only; rw [if_neg (by omega), hl]; simp only; rw [if_neg (by omega)]
end Go.Proofs.Qxb6614687aFmt
