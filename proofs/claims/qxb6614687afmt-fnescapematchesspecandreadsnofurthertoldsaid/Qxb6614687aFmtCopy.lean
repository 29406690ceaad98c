/-
  make and copy of byte slices at this dump, as run equations for the walk; rows of bytes in memory; ZZescape at a known plain answer.
-/
import Derived.Test.Qxb6614687aFmtZz
import Derived.Laws.CopyOwn
import Derived.Deep.OwnRows
namespace Go.Proofs.Qxb6614687aFmt
set_option linter.unusedVariables false
open Go.RowKit Go.Extern.Stop Go.Stop Go.Extern

theorem info5 : (Tryf.prog.info? 5).map (fun i => (i.zero, i.size, i.bytes)) = some (some (.int .u8 0), 1, 1) := by kernel_rfl
theorem size5 : (Tryf.prog.info? 5).map (·.size) = some 1 := by kernel_rfl
/-- make([]byte, n) -/
theorem make_bytes (n : Nat) (v : Int) (hv : v = (n : Int)) (hn : n ≤ 1048576) (w : World) :
    (Instr.makeSlice 22 (.int .i64 v) (.int .i64 v)).run Tryf.prog w = .ok (.slice (some ⟨w.heap.size, 0, none⟩) n n) (w.alloc (.cells (madeCells #[.int .u8 0] n) 5)) := by
  subst hv
  exact run_make_row' 22 5 (.int .u8 0) 1 Tryf.underlying22 info5 rfl .i64 .i64 n (by omega) (by omega) w
/-- the bytes xs as cells -/
def byteVals (xs : List Int) : List Value := xs.map (Value.int .u8)
theorem byteVals_length (xs : List Int) : (byteVals xs).length = xs.length := by simp [byteVals]
theorem byteVals_get (xs : List Int) (j : Nat) (h : j < xs.length) : (byteVals xs)[j]? = some (.int .u8 (xs.getD j 0)) := by
  simp [byteVals, List.getElem?_eq_getElem h]
/-- a row that is known whole, cell by cell -/
theorem row_cells {w : World} {g : Nat} {xs : List Int} {t : TypeId} (h : w.heap[g]? = some (.cells (byteVals xs).toArray t (0, 0))) : ∀ j, j < xs.length → w.cell? ⟨g, 0 + j, none⟩ = some (.int .u8 (xs.getD j 0)) := by
  intro j hj
  have := byteVals_get xs j hj
  simp only [World.cell?, h, Nat.zero_add]
  simpa using this
theorem copy_bytes (w : World) (g o dLen dCap : Nat) (sp : Option Addr) (n sCap : Nat) (cur : List Value) (t : TypeId) (xs : List Int) (hg : w.heap[g]? = some (.cells cur.toArray t (0, 0))) (hlen : xs.length = n) (hd : n ≤ dLen)
    (hsrc : 0 < n → ∃ src, sp = some src ∧ ∀ j, j < n → w.cell? (src.add j) = some (.int .u8 (xs.getD j 0))) (hfit : o + n ≤ cur.length) :
    ∃ w1, (Builtin.copy_ #[22, 22] 3 #[.slice (some ⟨g, o, none⟩) dLen dCap, .slice sp n sCap]).run Tryf.prog w = .ok (.int .i64 n) w1 ∧ w1.heap[g]? = some (.cells (splice cur o (byteVals xs)).toArray t (0, 0)) ∧ Below g w w1 := by
  by_cases h0 : n = 0
  · subst h0
    obtain rfl : xs = [] := List.eq_nil_of_length_eq_zero hlen
    exact ⟨w, run_copy_none w 22 22 3 5 _ _ dLen dCap 0 sCap Tryf.underlying22 size5 (by simp), by simpa [splice, byteVals] using hg, Below.refl _ _⟩
  · obtain ⟨src, rfl, hs⟩ := hsrc (by omega)
    have hrun := run_copy_row (P := Tryf.prog) w 22 22 3 5 g o dLen dCap src n sCap cur.toArray t (byteVals xs) Tryf.underlying22 size5 hg (by rw [byteVals_length, hlen]; exact (Nat.min_eq_left hd).symm)
      (fun j v hj => by
        have hjl : j < xs.length := by
          have := (List.getElem?_eq_some_iff.1 hj).1
          rwa [byteVals_length] at this
        rw [byteVals_get xs j hjl] at hj
        rw [hs j (by omega)]; exact hj)
      (by rw [byteVals_length, hlen]; simpa using hfit)
      (fun v hv => by
        obtain ⟨z, _, rfl⟩ := List.mem_map.1 hv
        rfl)
    refine ⟨_, by rw [hrun, byteVals_length, hlen]; rfl, ?_, below_setRow (Below.refl _ _) (Nat.le_refl g) _⟩
    rw [show ((List.take o cur.toArray.toList ++ byteVals xs ++ List.drop (o + n) cur.toArray.toList).toArray) = (splice cur o (byteVals xs)).toArray from by simp [splice, byteVals_length, hlen]]
    exact setRow_heap w g _ _ t _ hg
theorem made_heap (w : World) (n : Nat) : (w.alloc (.cells (madeCells #[.int .u8 0] n) 5)).heap[w.heap.size]? = some (.cells ((madeCells #[.int .u8 0] n).toList).toArray 5 (0, 0)) := by
  show (w.heap.push _)[w.heap.size]? = _
  simp
theorem made_length (n : Nat) : ((madeCells #[.int .u8 0] n).toList).length = n := by simp [size_madeCells]
theorem splice_all (Z X : List Value) (h : Z.length = X.length) : splice Z 0 X = X := by
  simp [splice, ← h]
theorem splice_two (Z X Y : List Value) (h : Z.length = X.length + Y.length) : splice (splice Z 0 X) X.length Y = X ++ Y := by
  have e1 : splice Z 0 X = X ++ Z.drop X.length := by simp [splice]
  rw [e1]
  unfold splice
  rw [List.take_append_of_le_length (by simp), List.take_of_length_le (by simp), List.drop_eq_nil_of_le (by simp; omega)]
  simp

/-- ZZescape where the plain answer is an escape. -/
theorem zz_ok (F : Interp) (b o n cap i : Nat) (iv : Int) (hiv : iv = (i : Int)) (zs : List Int) (c : Int) (k : Nat) (fl : Bool) (w : World) (hF : F.answers w.tape) (hbw : b < w.heap.size) (hlen : zs.length = n) (hcap : n ≤ cap) (hn : n ≤ 1048576) (cells : ∀ j, j < n → w.cell? ⟨b, o + j, none⟩ = some (.int .u8 (zs.getD j 0))) (hi : i < n)
    (hr : escR (zs.drop (i + 1)) = (c, k, fl, true)) :
    Calls Tryf.prog 7 #[.slice (some ⟨b, o, none⟩) n cap, .int .i64 iv] w fun e w' => e = .returned (.tuple #[.int .i32 c, .int .i64 (iv + 1 + (k : Int)), .bool fl, .nilIface]) ∧ Below w.heap.size w w' := by
  subst hiv
  refine (zz_any F b o n cap i zs w hF hbw hlen hcap hn cells hi).mono ?_
  rw [hr]
  rintro e w1 ⟨ev, rfl, hev, hb⟩
  obtain rfl : ev = .nilIface := hev
  refine ⟨?_, hb⟩
  rw [show ((i + 1 + k : Nat) : Int) = (i : Int) + 1 + (k : Int) from by omega]
/-- .. where it is none. -/
theorem zz_bad (F : Interp) (b o n cap i : Nat) (iv : Int) (hiv : iv = (i : Int)) (zs : List Int) (c : Int) (k : Nat) (fl : Bool) (w : World) (hF : F.answers w.tape) (hbw : b < w.heap.size) (hlen : zs.length = n) (hcap : n ≤ cap) (hn : n ≤ 1048576) (cells : ∀ j, j < n → w.cell? ⟨b, o + j, none⟩ = some (.int .u8 (zs.getD j 0))) (hi : i < n)
    (hr : escR (zs.drop (i + 1)) = (c, k, fl, false)) :
    Calls Tryf.prog 7 #[.slice (some ⟨b, o, none⟩) n cap, .int .i64 iv] w fun e w' => ∃ t x, e = .returned (.tuple #[.int .i32 c, .int .i64 (iv + 1 + (k : Int)), .bool fl, .iface t x]) ∧ Below w.heap.size w w' := by
  subst hiv
  refine (zz_any F b o n cap i zs w hF hbw hlen hcap hn cells hi).mono ?_
  rw [hr]
  rintro e w1 ⟨ev, rfl, hev, hb⟩
  obtain ⟨t, x, rfl⟩ : IsErr ev := hev
  refine ⟨t, x, ?_, hb⟩
  rw [show ((i + 1 + k : Nat) : Int) = (i : Int) + 1 + (k : Int) from by omega]
end Go.Proofs.Qxb6614687aFmt
