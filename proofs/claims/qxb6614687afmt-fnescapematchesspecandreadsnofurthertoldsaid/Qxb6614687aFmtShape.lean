/-
  The plain law on the shape of an answer; small facts.
-/
import Derived.Test.Qxb6614687aFmtCopy
namespace Go.Proofs.Qxb6614687aFmt
set_option linter.unusedVariables false
open Go.RowKit Go.Extern.Stop Go.Stop Go.Extern

/-! ### the plain law: what an answer looks like -/
theorem simpleV_bd {b c : Int} (h : simpleV b = some c) : 0 ≤ c ∧ c < 128 := by
  unfold simpleV at h
  split at h
  · injection h with h; omega
  · split at h
    · injection h with h; omega
    · split at h
      · injection h with h; omega
      · split at h
        · injection h with h; omega
        · split at h
          · injection h with h; omega
          · split at h
            · injection h with h; omega
            · cases h
theorem uniR_shape (l : List Int) : uniR l = (0, 0, false, false) ∨ uniR l = (65533, 4, true, true) ∨ (∃ c, uniR l = (c, 4, false, true) ∧ 0 ≤ c ∧ c < 55296) ∨ (∃ c, uniR l = (c, 4, false, true) ∧ 57343 < c ∧ c ≤ 65535) ∨ (∃ c, uniR l = (c, 10, false, true) ∧ 65536 ≤ c ∧ c ≤ 1114111) := by
  cases hx : hex4L l with
  | none => exact .inl (uniR_bad hx)
  | some u =>
    have hb := hex4L_bd hx
    by_cases h1 : u < 55296
    · exact .inr (.inr (.inl ⟨u, uniR_bmp hx (.inl h1), hb.1, h1⟩))
    · by_cases h2 : 57343 < u
      · exact .inr (.inr (.inr (.inl ⟨u, uniR_bmp hx (.inr h2), h2, by omega⟩)))
      · cases hl : lowOf (l.drop 4) with
        | none => exact .inr (.inl (uniR_lone0 hx (by omega) hl))
        | some lo =>
          by_cases h3 : u ≤ 56319 ∧ 56320 ≤ lo ∧ lo ≤ 57343
          · exact .inr (.inr (.inr (.inr ⟨_, uniR_pair hx (by omega) hl h3.2, by omega, by omega⟩)))
          · exact .inr (.inl (uniR_lone1 hx (by omega) hl (by omega)))
theorem escR_shape (l : List Int) : escR l = (0, 0, false, false) ∨ escR l = (0, 1, false, false) ∨ escR l = (65533, 5, true, true) ∨ (∃ c, escR l = (c, 1, false, true) ∧ 0 ≤ c ∧ c < 128) ∨ (∃ c, escR l = (c, 5, false, true) ∧ 0 ≤ c ∧ c < 55296) ∨ (∃ c, escR l = (c, 5, false, true) ∧ 57343 < c ∧ c ≤ 65535) ∨ (∃ c, escR l = (c, 11, false, true) ∧ 65536 ≤ c ∧ c ≤ 1114111) := by
  by_cases h0 : l.length = 0
  · exact .inl (escR_end h0)
  · by_cases h1 : l.getD 0 0 = 117
    · have he := escR_u h0 h1
      rcases uniR_shape (l.drop 1) with h | h | ⟨c, h, hc⟩ | ⟨c, h, hc⟩ | ⟨c, h, hc⟩ <;> rw [h] at he
      · exact .inr (.inl he)
      · exact .inr (.inr (.inl he))
      · exact .inr (.inr (.inr (.inr (.inl ⟨c, he, hc⟩))))
      · exact .inr (.inr (.inr (.inr (.inr (.inl ⟨c, he, hc⟩)))))
      · exact .inr (.inr (.inr (.inr (.inr (.inr ⟨c, he, hc⟩)))))
    · cases hs : simpleV (l.getD 0 0) with
      | none => exact .inl (escR_bad h0 h1 hs)
      | some c => exact .inr (.inr (.inr (.inl ⟨c, escR_simple h0 h1 hs, simpleV_bd hs⟩)))
theorem cell_lt {w : World} {a : Addr} {v : Value} (h : w.cell? a = some v) : a.block < w.heap.size := by
  unfold World.cell? at h
  split at h
  · rename_i hb
    exact (Array.getElem?_eq_some_iff.1 hb).1
  · cases h
theorem addr_block (a : Addr) (j : Nat) : (a.add j).block = a.block := by unfold Addr.add; split <;> rfl
theorem drop_join {ps zs : List Int} {m i : Nat} (h : ps.length = m) : (ps ++ zs).drop (m + i + 1) = zs.drop (i + 1) := by
  rw [List.drop_append, List.drop_eq_nil_of_le (by omega), show m + i + 1 - ps.length = i + 1 from by omega]; rfl
theorem neq_nil22 (a : Addr) (n c : Nat) (w : World) : (binOp .neq 22 (.slice (some a) n c) (.slice none 0 0)).run Tryf.prog w = .ok (.bool true) w := by
  have := run_neq_slice_nil_any (P := Tryf.prog) w 22 5 (some a) n c 0 0 Tryf.underlying22
  simpa using this
end Go.Proofs.Qxb6614687aFmt
