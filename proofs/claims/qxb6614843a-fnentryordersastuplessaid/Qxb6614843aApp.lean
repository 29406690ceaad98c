/-
  append of bytes onto a slice that the call owns, as run equations at this dump; rows of bytes.
-/
import Derived.Test.Qxb6614843aRows
import Derived.WalkKit
import Derived.WalkSpells
import Derived.WalkLawsBesides
import Derived.LoopTactic
import Derived.Deep.QuietTactic
import Derived.BigQuiet
import Derived.Laws.CopyOwn
import Derived.Deep.OwnRows
namespace Go.Proofs.Qxb6614843a
set_option linter.unusedVariables false
open Go.RowKit

theorem info5 : (Try.prog.info? 5).map (fun i => (i.zero, i.size, i.bytes)) = some (some (.int .u8 0), 1, 1) := by kernel_rfl
theorem size5 : (Try.prog.info? 5).map (·.size) = some 1 := by kernel_rfl
/-- the bytes xs as cells -/
def byteVals (xs : List Int) : List Value := xs.map (Value.int .u8)
theorem byteVals_length (xs : List Int) : (byteVals xs).length = xs.length := by simp [byteVals]
theorem byteVals_append (xs ys : List Int) : byteVals (xs ++ ys) = byteVals xs ++ byteVals ys := by simp [byteVals]
theorem byteVals_get (xs : List Int) (j : Nat) (h : j < xs.length) : (byteVals xs)[j]? = some (.int .u8 (xs.getD j 0)) := by
  simp [byteVals, List.getElem?_eq_getElem h]
theorem byteVals_one (xs : List Int) : ∀ u ∈ byteVals xs, u.oneCell' = true := by
  intro u hu
  obtain ⟨z, _, rfl⟩ := List.mem_map.1 hu
  rfl
theorem addr_add (b o j : Nat) : (⟨b, o, none⟩ : Addr).add j = ⟨b, o + j, none⟩ := by unfold Addr.add; split <;> simp_all
theorem addr_block (a : Addr) (j : Nat) : (a.add j).block = a.block := by unfold Addr.add; split <;> rfl
theorem cell_lt {w : World} {a : Addr} {v : Value} (h : w.cell? a = some v) : a.block < w.heap.size := by
  unfold World.cell? at h
  split at h
  · rename_i hb
    exact (Array.getElem?_eq_some_iff.1 hb).1
  · cases h

/-- THE SLICE v OWNS THE BYTES xs in a row from block D on. -/
def Owns (w : World) (D : Nat) (v : Value) (xs : List Int) : Prop := w.ownsRow D 5 1 v xs.length (byteVals xs)
theorem Owns.alloc {w : World} {D : Nat} {v : Value} {xs : List Int} (h : Owns w D v xs) (o : Obj) : Owns (w.alloc o) D v xs := World.ownsRow.alloc h o
/-- append(v, ys...), the new bytes laid in a block of their own right ahead. -/
theorem app_run (w : World) (D : Nat) (v : Value) (xs ys : List Int) (h : Owns w D v xs) (hD : D ≤ w.heap.size) (hn : xs.length + ys.length ≤ 4194304) :
    ∃ v' w', (Builtin.append_ #[27, 27] 27 #[v, .slice (some ⟨w.heap.size, 0, none⟩) ys.length ys.length]).run Try.prog (w.alloc (.cells (byteVals ys).toArray 5)) = .ok v' w' ∧ Owns w' D v' (xs ++ ys) ∧ w.grownBy w' v.ownBlock := by
  obtain ⟨i, hi, hzz⟩ := Option.map_eq_some_iff.1 info5
  simp only [Prod.mk.injEq] at hzz
  obtain ⟨hz, hs, hb⟩ := hzz
  obtain ⟨v', w', h1, h2, h3, _⟩ := run_append_own (P := Try.prog) (w.alloc (.cells (byteVals ys).toArray 5)) D 27 27 5 i (.int .u8 0) 1 1 Try.underlying27 hi hz hs hb rfl (by decide)
    v xs.length (byteVals xs) (h.alloc _) ⟨w.heap.size, 0, none⟩ ys.length ys.length (byteVals ys) (by rw [byteVals_length]; omega)
    (fun j u hj => by
      rw [addr_add, Nat.zero_add, World.cell?_alloc_new]
      simpa using hj) (byteVals_one ys) (by unfold maxLen; omega) (by omega) (by simp; omega)
  refine ⟨v', w', h1, ?_, ?_⟩
  · show w'.ownsRow D 5 1 v' (xs ++ ys).length (byteVals (xs ++ ys))
    rw [byteVals_append, List.length_append]; exact h2
  · exact ⟨h3.os, h3.tape, h3.output, by have := h3.size; simp at this; omega, fun k hk hne => by
      rw [h3.block k (by simp; omega) hne]
      exact Below.heap_alloc w _ k hk⟩
/-- .. spelt as the walk spells it. -/
theorem app_at (w : World) (D : Nat) (v : Value) (xs ys : List Int) (g : Nat) (hg : g = w.heap.size) (C : Array Value) (hC : C = (byteVals ys).toArray) (m : Nat) (hm : m = ys.length) (h : Owns w D v xs) (hD : D ≤ w.heap.size) (hn : xs.length + ys.length ≤ 4194304) :
    ∃ v' w', (Builtin.append_ #[27, 27] 27 #[v, .slice (some ⟨g, 0, none⟩) m m]).run Try.prog (w.alloc (.cells C 5)) = .ok v' w' ∧ Owns w' D v' (xs ++ ys) ∧ w.grownBy w' v.ownBlock := by
  subst hg; subst hC; subst hm
  exact app_run w D v xs ys h hD hn
theorem Owns.below {w w' : World} {D : Nat} {v : Value} {xs : List Int} (h : Owns w D v xs) (hD : D ≤ w.heap.size) (hg : w.grownBy w' v.ownBlock) : Below D w w' :=
  (Below.refl D w).grown hg hD (fun k hk => (World.ownsRow.lt h k hk).1)
/-- a cell of a block that is not the row's own, behind an append -/
theorem Owns.kept {w w' : World} {D : Nat} {v : Value} {xs : List Int} (h : Owns w D v xs) {a : Addr} {u : Value} (hc : w.cell? a = some u) (hne : some a.block ≠ v.ownBlock) (hg : w.grownBy w' v.ownBlock) : w'.cell? a = some u := hg.cell hc hne
theorem grown_alloc {w w' : World} {o : Obj} {row : Option Nat} (h : (w.alloc o).grownBy w' row) : w.grownBy w' row :=
  ⟨h.os, h.tape, h.output, by have := h.size; simp at this; omega, fun k hk hne => by
    rw [h.block k (by simp; omega) hne]
    exact Below.heap_alloc w _ k hk⟩
/-- append(v, ys...) as a law for the walk: the new bytes lie at ⟨g, 0⟩. -/
theorem wp_app {ops : Array Oper} {rest : List Oper} {o : Oper} {a : Act} {Q : Exit → Act → World → Prop} (hgd : o.guard = none) (s x : Operand)
    (ho : o.op = .call { callee := .builtin .append, args := #[s, x], argTypes := #[27, 27] }) (w : World) (D : Nat) (v : Value) (xs ys : List Int) (hs : a.eval s = v) (hown : Owns w D v xs)
    (g m : Nat) (hx : a.eval x = .slice (some ⟨g, 0, none⟩) m m) (hm : m = ys.length) (hnews : ∀ j, j < ys.length → w.cell? ⟨g, j, none⟩ = (byteVals ys)[j]?) (hD : D ≤ w.heap.size) (hn : xs.length + ys.length ≤ 4194304)
    (h : ∀ v' w', Hid (Owns w' D v' (xs ++ ys)) → Hid (w.grownBy w' v.ownBlock) → wpList Try.prog ops Q rest (a.put o.dst v') w') : wpList Try.prog ops Q (o :: rest) a w := by
  subst hm
  obtain ⟨i, hi, hzz⟩ := Option.map_eq_some_iff.1 info5
  simp only [Prod.mk.injEq] at hzz
  obtain ⟨hz, hsz, hb⟩ := hzz
  refine wpList_append_own w hgd s x 27 ho D 5 i (.int .u8 0) 1 1 Try.underlying27 hi hz hsz hb rfl (by decide) v xs.length (byteVals xs) hs hown ⟨g, 0, none⟩ ys.length ys.length (byteVals ys) hx (by rw [byteVals_length]; omega)
    (fun j u hj => by
      have hl : j < ys.length := by
        have := (List.getElem?_eq_some_iff.1 hj).1
        rwa [byteVals_length] at this
      rw [addr_add, Nat.zero_add, hnews j hl]; exact hj) (byteVals_one ys) (by unfold maxLen; omega) (by omega) hD ?_
  intro v' w' h1 h2 _
  refine h v' w' ?_ h2
  show w'.ownsRow D 5 1 v' (xs ++ ys).length (byteVals (xs ++ ys))
  rw [byteVals_append, List.length_append]; exact h1
theorem new_cells (w : World) (ys : List Int) (C : Array Value) (hC : C = (byteVals ys).toArray) (g : Nat) (hg : g = w.heap.size) : ∀ j, j < ys.length → (w.alloc (.cells C 5)).cell? ⟨g, j, none⟩ = (byteVals ys)[j]? := by
  intro j hj
  subst hC; subst hg
  rw [World.cell?_alloc_new]
  simp
theorem sign_bytes : [(9223372036854775808 : Int) / 72057594037927936 % 256, 9223372036854775808 / 281474976710656 % 256, 9223372036854775808 / 1099511627776 % 256, 9223372036854775808 / 4294967296 % 256, 9223372036854775808 / 16777216 % 256, 9223372036854775808 / 65536 % 256, 9223372036854775808 / 256 % 256, 9223372036854775808 % 256] = [128, 0, 0, 0, 0, 0, 0, 0] := by decide
set_option maxRecDepth 100000 in
set_option maxHeartbeats 400000 in
theorem append64 (D : Nat) (v : Value) (xs : List Int) (w : World) (h : Owns w D v xs) (hD : D ≤ w.heap.size) (hn : xs.length ≤ 2097152) (u : Int) (h0 : 0 ≤ u) :
    Calls Try.prog 38 #[.agg #[], v, .int .u64 u] w fun e w' => ∃ v', e = .returned v' ∧ Owns w' D v' (xs ++ [u / 72057594037927936 % 256, u / 281474976710656 % 256, u / 1099511627776 % 256, u / 4294967296 % 256, u / 16777216 % 256, u / 65536 % 256, u / 256 % 256, u % 256]) ∧ w.grownBy w' v.ownBlock := by
  have HO : Hid (Owns w D v xs) := h
  clear h
  go_enter Try.func38, Try.ntmps38
  go_wp2_with (at_builtin; refine wp_app rfl _ _ rfl _ D v xs [u / 72057594037927936 % 256, u / 281474976710656 % 256, u / 1099511627776 % 256, u / 4294967296 % 256, u / 16777216 % 256, u / 65536 % 256, u / 256 % 256, u % 256] rfl ((HO.out.alloc _).alloc _) (w.heap.size + 1) 8 rfl rfl (new_cells _ _ _ rfl _ (by simp)) (by simp; omega) (by simp; omega) ?_)
  intro v' w' ho hg
  have HG : Hid (w.grownBy w' v.ownBlock) := grown_alloc (grown_alloc hg.out)
  clear hg
  go_wp2
  go_ret
  exact ⟨v', rfl, ho.out, HG.out⟩
end Go.Proofs.Qxb6614843a
