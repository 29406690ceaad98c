/-
  The copy of the keys, the make of a row of tuple values, its filling, and the contract of bytesValues.
-/
import Derived.Test.Qxb6614843aMatch
namespace Go.Proofs.Qxb6614843a
set_option linter.unusedVariables false
open Go.RowKit
theorem info3 : (Try.prog.info? 3).map (fun i => (i.zero, i.size, i.bytes)) = some (some (.int .i64 0), 1, 8) := by kernel_rfl
theorem info46 : (Try.prog.info? 46).map (fun i => (i.zero, i.size, i.bytes)) = some (some (.agg #[.int .u8 0, .int .i64 0, .slice none 0 0]), 3, 40) := by kernel_rfl
theorem size3 : (Try.prog.info? 3).map (·.size) = some 1 := by kernel_rfl
def intVals (ks : Nat → Int) (K : Nat) : List Value := (List.range K).map fun j => Value.int .i64 (ks j)
theorem intVals_length (ks : Nat → Int) (K : Nat) : (intVals ks K).length = K := by simp [intVals]
theorem intVals_get (ks : Nat → Int) (K j : Nat) (h : j < K) : (intVals ks K)[j]? = some (.int .i64 (ks j)) := by
  simp [intVals, h]
theorem heap_cell {w : World} {g : Nat} {cs : Array Value} {t : TypeId} {fr : Nat × Nat} (h : w.heap[g]? = some (.cells cs t fr)) (i : Nat) : w.cell? ⟨g, i, none⟩ = cs[i]? := by
  unfold World.cell?; rw [h]; rfl
theorem heap_thawed {w : World} {g : Nat} {cs : Array Value} {t : TypeId} (h : w.heap[g]? = some (.cells cs t (0, 0))) (i : Nat) : w.frozen? ⟨g, i, none⟩ = false := by
  unfold World.frozen?; rw [h]; simp
/-- the copy of the keys -/
theorem key_copy (w : World) (ka : Option Addr) (K kcap : Nat) (ks : Nat → Int) (hk : Keys w ka K ks) (hK : K ≤ 65536) :
    ∃ w1 w2, (Instr.makeSlice 37 (.int .i64 (K : Int)) (.int .i64 (K : Int))).run Try.prog w = .ok (.slice (some ⟨w.heap.size, 0, none⟩) K K) w1 ∧ (Builtin.copy_ #[37, 37] 3 #[.slice (some ⟨w.heap.size, 0, none⟩) K K, .slice ka K kcap]).run Try.prog w1 = .ok (.int .i64 (K : Int)) w2 ∧ Keys w2 (some ⟨w.heap.size, 0, none⟩) K ks ∧ Below w.heap.size w w2 ∧ w.heap.size < w2.heap.size := by
  have hm : (Instr.makeSlice 37 (.int .i64 (K : Int)) (.int .i64 (K : Int))).run Try.prog w = .ok (.slice (some ⟨w.heap.size, 0, none⟩) K K) (w.alloc (.cells (madeCells #[.int .i64 0] K) 3)) :=
    run_make_row' 37 3 (.int .i64 0) 8 Try.underlying37 info3 rfl .i64 .i64 K (by omega) (by omega) w
  have hb1 : Below w.heap.size w (w.alloc (.cells (madeCells #[.int .i64 0] K) 3)) := (Below.refl _ _).alloc (Nat.le_refl _) _
  by_cases h0 : K = 0
  · subst h0
    exact ⟨_, _, hm, run_copy_none _ 37 37 3 3 _ _ 0 0 0 kcap Try.underlying37 size3 (by simp), fun h => by omega, hb1, by simp⟩
  · obtain ⟨b, o, rfl, hbw, cells⟩ := hk (by omega)
    have hh : (w.alloc (.cells (madeCells #[.int .i64 0] K) 3)).heap[w.heap.size]? = some (.cells (madeCells #[.int .i64 0] K) 3 (0, 0)) := by
      show (w.heap.push _)[w.heap.size]? = _
      simp
    have hrun := run_copy_row (P := Try.prog) (w.alloc (.cells (madeCells #[.int .i64 0] K) 3)) 37 37 3 3 w.heap.size 0 K K ⟨b, o, none⟩ K kcap (madeCells #[.int .i64 0] K) 3 (intVals ks K) Try.underlying37 size3 hh (by rw [intVals_length]; simp)
      (fun j v hj => by
        have hjl : j < K := by
          have := (List.getElem?_eq_some_iff.1 hj).1
          rwa [intVals_length] at this
        rw [intVals_get ks K j hjl] at hj
        rw [addr_add, hb1.cell (by exact hbw), cells j hjl]; exact hj)
      (by rw [intVals_length]; simp [size_madeCells])
      (fun v hv => by
        obtain ⟨z, _, rfl⟩ := List.mem_map.1 hv
        rfl)
    rw [intVals_length] at hrun
    have hset := setRow_heap (w.alloc (.cells (madeCells #[.int .i64 0] K) 3)) w.heap.size _ ((List.take 0 (madeCells #[.int .i64 0] K).toList ++ intVals ks K ++ List.drop (0 + K) (madeCells #[.int .i64 0] K).toList).toArray) 3 (0, 0) hh
    have hb2 := below_setRow hb1 (Nat.le_refl w.heap.size) ((List.take 0 (madeCells #[.int .i64 0] K).toList ++ intVals ks K ++ List.drop (0 + K) (madeCells #[.int .i64 0] K).toList).toArray)
    refine ⟨_, _, hm, hrun, fun _ => ⟨_, 0, rfl, ?_, fun j hj => ?_⟩, hb2, ?_⟩
    · exact (Array.getElem?_eq_some_iff.1 hset).1
    · have e0 : 0 + j = j := by omega
      rw [heap_cell hset, e0]
      have := intVals_get ks K j hj
      rw [List.getElem?_toArray, List.take_zero, List.nil_append, List.getElem?_append_left (by rw [intVals_length]; exact hj), this]
    · exact (Array.getElem?_eq_some_iff.1 hset).1
/-- make([]tuple.Value, N) -/
theorem make_row (w : World) (N : Nat) (hN : N ≤ 65536) : (Instr.makeSlice 43 (.int .i64 (N : Int)) (.int .i64 (N : Int))).run Try.prog w = .ok (.slice (some ⟨w.heap.size, 0, none⟩) N N) (w.alloc (.cells (madeCells #[.int .u8 0, .int .i64 0, .slice none 0 0] (N * 3)) 46)) := by
  obtain ⟨i, hi, hzz⟩ := Option.map_eq_some_iff.1 info46
  simp only [Prod.mk.injEq] at hzz
  obtain ⟨hz, hsz, hb⟩ := hzz
  have h := run_make (P := Try.prog) w 43 46 i _ Try.underlying43 hi hz .i64 .i64 (N : Int) (N : Int) (by omega) (by omega) (by rw [hb]; omega) (by omega)
  rw [hsz, Int.toNat_natCast] at h
  exact h
/-- a row of tuple values under way: k of its N values are laid -/
def Under (w : World) (g N k : Nat) (T : Nat → Int) (S : Nat → Option Addr) (L C : Nat → Nat) : Prop :=
  ∃ cur : Array Value, w.heap[g]? = some (.cells cur 46 (0, 0)) ∧ cur.size = N * 3 ∧ ∀ i, i < k → cur[i * 3]? = some (.int .u8 (T i)) ∧ cur[i * 3 + 1]? = some (.int .i64 0) ∧ cur[i * 3 + 2]? = some (.slice (S i) (L i) (C i))
theorem Under.lay {w : World} {g N k : Nat} {T : Nat → Int} {S : Nat → Option Addr} {L C : Nat → Nat} {cur : Array Value} (h : w.heap[g]? = some (.cells cur 46 (0, 0))) (hsz : cur.size = N * 3) (hv : ∀ i, i < k → cur[i * 3]? = some (.int .u8 (T i)) ∧ cur[i * 3 + 1]? = some (.int .i64 0) ∧ cur[i * 3 + 2]? = some (.slice (S i) (L i) (C i))) (hk : k < N) :
    Under (((w.setCell ⟨g, k * 3, none⟩ (.int .u8 (T k))).setCell ⟨g, k * 3 + 1, none⟩ (.int .i64 0)).setCell ⟨g, k * 3 + 2, none⟩ (.slice (S k) (L k) (C k))) g N (k + 1) T S L C := by
  have h1 := heap_setCell_same w g (k * 3) cur 46 (.int .u8 (T k)) h
  have h2 := heap_setCell_same _ g (k * 3 + 1) _ 46 (.int .i64 0) h1
  have h3 := heap_setCell_same _ g (k * 3 + 2) _ 46 (.slice (S k) (L k) (C k)) h2
  refine ⟨_, h3, by simp [hsz], fun i hi => ?_⟩
  simp only [Array.getElem?_setIfInBounds, Array.size_setIfInBounds, hsz]
  by_cases e : i = k
  · subst e
    refine ⟨?_, ?_, ?_⟩
    · rw [if_neg (by omega), if_neg (by omega), if_pos rfl, if_pos (by omega)]
    · rw [if_neg (by omega), if_pos rfl, if_pos (by omega)]
    · rw [if_pos rfl, if_pos (by omega)]
  · have hq := hv i (by omega)
    refine ⟨?_, ?_, ?_⟩
    · rw [if_neg (by omega), if_neg (by omega), if_neg (by omega)]; exact hq.1
    · rw [if_neg (by omega), if_neg (by omega), if_neg (by omega)]; exact hq.2.1
    · rw [if_neg (by omega), if_neg (by omega), if_neg (by omega)]; exact hq.2.2
theorem Under.alloc {w : World} {g N k : Nat} {T : Nat → Int} {S : Nat → Option Addr} {L C : Nat → Nat} (h : Under w g N k T S L C) (o : Obj) : Under (w.alloc o) g N k T S L C := by
  obtain ⟨cur, h1, h2⟩ := h
  exact ⟨cur, by rw [Below.heap_alloc w o g (Array.getElem?_eq_some_iff.1 h1).1]; exact h1, h2⟩
theorem Under.row {w : World} {g N : Nat} {T : Nat → Int} {S : Nat → Option Addr} {L C : Nat → Nat} {E : Nat → List Int} (h : Under w g N N T S L C) (he : ∀ i, i < N → (T i = 0 ∧ S i = none ∧ L i = 0 ∧ C i = 0 ∧ E i = encZ) ∨ (T i = 1 ∧ ∃ bs, Bytes w (S i) (L i) bs ∧ E i = encB bs)) : RowV w (some ⟨g, 0, none⟩) N T S L C E where
  row _ := by
    obtain ⟨cur, h1, h2, h3⟩ := h
    refine ⟨g, 0, rfl, (Array.getElem?_eq_some_iff.1 h1).1, fun i hi => ?_⟩
    rw [heap_cell h1, heap_cell h1, heap_cell h1, Nat.zero_add]
    exact h3 i hi
  each := he
set_option maxRecDepth 100000 in
theorem values_any (a : Option Addr) (N cap : Nat) (S : Nat → Option Addr) (L C : Nat → Nat) (B : Nat → List Int) (w : World) (hN : N ≤ 65536) (hc : Cols w a N S L C B) :
    Calls Try.prog 26 #[.slice a N cap] w fun e w' => ∃ g, e = .returned (.slice (some ⟨g, 0, none⟩) N N) ∧ RowV w' (some ⟨g, 0, none⟩) N (fun _ => 1) S L C (fun i => encB (B i)) ∧ Below w.heap.size w w' := by
  have HC : Hid (Cols w a N S L C B) := hc
  clear hc
  obtain ⟨w1, hw1⟩ : ∃ w1, w1 = w.alloc (.cells (madeCells #[.int .u8 0, .int .i64 0, .slice none 0 0] (N * 3)) 46) := ⟨_, rfl⟩
  have hmk := make_row w N hN
  rw [← hw1] at hmk
  have HW1 : Hid (w1 = w.alloc (.cells (madeCells #[.int .u8 0, .int .i64 0, .slice none 0 0] (N * 3)) 46)) := hw1
  clear hw1
  go_enter Try.func26, Try.ntmps26
  go_wp2
  go_loopw [4] (fun i wr => ∃ k : Nat, k ≤ N ∧ i = .int .i64 k ∧ Under wr w.heap.size N k (fun _ => 1) S L C ∧ Below w.heap.size w wr) (fun i _ => N - (intOf i).toNat)
  case atStart =>
    refine ⟨0, Nat.zero_le _, rfl, ⟨madeCells #[.int .u8 0, .int .i64 0, .slice none 0 0] (N * 3), ?_, size_madeCells _ _, fun i hi => by omega⟩, ?_⟩
    · rw [HW1.out]; show (w.heap.push _)[w.heap.size]? = _; simp
    · rw [HW1.out]; exact (Below.refl _ _).alloc (Nat.le_refl _) _
  case round =>
    obtain ⟨k, hk, rfl, hu, hb⟩ := hrel
    by_cases hlt : k < N
    · obtain ⟨b, o, hA, hbw, cells⟩ := HC.out.row (by omega)
      subst hA
      have kc : wr.cell? ⟨b, o + k, none⟩ = some (.slice (S k) (L k) (C k)) := by rw [hb.cell (by exact hbw)]; exact cells k hlt
      have hki : (k : Int) < (N : Int) := by omega
      obtain ⟨cur, hcur, hsz, hvals⟩ := hu
      have HV : Hid (∀ i, i < k → cur[i * 3]? = some (.int .u8 1) ∧ cur[i * 3 + 1]? = some (.int .i64 0) ∧ cur[i * 3 + 2]? = some (.slice (S i) (L i) (C i))) := hvals
      have HB : Hid (Below w.heap.size w wr) := hb
      have hgw : w.heap.size < wr.heap.size := (Array.getElem?_eq_some_iff.1 hcur).1
      obtain ⟨x0, k0⟩ : ∃ x0, wr.cell? ⟨w.heap.size, k * 3, none⟩ = some x0 := ⟨_, by rw [heap_cell hcur]; exact Array.getElem?_eq_getElem (by omega)⟩
      obtain ⟨x1, k1⟩ : ∃ x1, wr.cell? ⟨w.heap.size, k * 3 + 1, none⟩ = some x1 := ⟨_, by rw [heap_cell hcur]; exact Array.getElem?_eq_getElem (by omega)⟩
      obtain ⟨x2, k2⟩ : ∃ x2, wr.cell? ⟨w.heap.size, k * 3 + 2, none⟩ = some x2 := ⟨_, by rw [heap_cell hcur]; exact Array.getElem?_eq_getElem (by omega)⟩
      have f0 := heap_thawed hcur (k * 3)
      have f1 := heap_thawed hcur (k * 3 + 1)
      have f2 := heap_thawed hcur (k * 3 + 2)
      have HH : Hid (wr.heap[w.heap.size]? = some (.cells cur 46 (0, 0))) := hcur
      clear cells hvals hb hcur
      go_wp2_with (go_at_call 21; refine (bytes21 _ _ _ _).mono ?_; rintro e w2 ⟨rfl, rfl⟩)
      go_roundw
      case rel =>
        refine ⟨k + 1, by omega, by go_num, ?_, ?_⟩
        · exact (Under.lay HH.out hsz HV.out hlt).alloc _
        · exact (((HB.out.setCell (p := ⟨w.heap.size, k * 3, none⟩) (Nat.le_refl _) _).setCell (p := ⟨w.heap.size, k * 3 + 1, none⟩) (Nat.le_refl _) _).setCell (p := ⟨w.heap.size, k * 3 + 2, none⟩) (Nat.le_refl _) _).alloc (by simp [World.setCell]; omega) _
      case measure => simp [intOf]; omega
    · obtain rfl : k = N := by omega
      clear hlt hk
      go_wp2
      go_ret
      exact ⟨_, rfl, Under.row hu fun i hi => .inr ⟨rfl, B i, (HC.out.each i hi).below hb, rfl⟩, hb⟩
end Go.Proofs.Qxb6614843a
