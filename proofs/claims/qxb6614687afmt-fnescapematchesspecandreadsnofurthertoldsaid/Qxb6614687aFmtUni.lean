/-
  The reader in memory, and the contract of (*jsonReader).unicodeEscape, way by way.
-/
import Derived.Test.Qxb6614687aFmtErr
namespace Go.Proofs.Qxb6614687aFmt
set_option linter.unusedVariables false
open Go.RowKit Go.Extern.Stop Go.Stop Go.Extern
def errIs (ok : Bool) (v : Value) : Prop := if ok then v = .nilIface else IsErr v
/-- What a reading method has done: the character and the error; where the reader stands; the error that it keeps; nothing below the reader's own block has turned. -/
def Done (r : Int × Nat × Bool × Bool) (p i : Nat) (w : World) (e : Ending) (w' : World) : Prop :=
  ∃ ev fv, e = .returned (.tuple #[.int .i32 r.1, ev]) ∧ errIs r.2.2.2 ev ∧ w'.cell? ⟨p, 1, none⟩ = some (.int .i64 ((i + r.2.1 : Nat) : Int)) ∧ w'.cell? ⟨p, 5, none⟩ = some fv ∧ errIs (!r.2.2.1) fv ∧ Below p w w'
/-- The reader in memory: its six fields (the third is not read), over the bytes zs. -/
structure Reader (w : World) (p b o n cap i : Nat) (zs : List Int) : Prop where
  c0 : w.cell? ⟨p, 0, none⟩ = some (.slice (some ⟨b, o, none⟩) n cap)
  c1 : w.cell? ⟨p, 1, none⟩ = some (.int .i64 i)
  c3 : w.cell? ⟨p, 3, none⟩ = some (.pointer none)
  c4 : w.cell? ⟨p, 4, none⟩ = some (.bool false)
  c5 : w.cell? ⟨p, 5, none⟩ = some .nilIface
  f1 : w.frozen? ⟨p, 1, none⟩ = false
  f5 : w.frozen? ⟨p, 5, none⟩ = false
  hp : p < w.heap.size
  hb : b < p
  hlen : zs.length = n
  hcap : n ≤ cap
  hn : n ≤ 1048576
  cells : ∀ j, j < n → w.cell? ⟨b, o + j, none⟩ = some (.int .u8 (zs.getD j 0))

theorem below_undraw {w w1 : World} {n : Nat} (h : Below (w.drewN n).heap.size (w.drewN n) w1) : Below w.heap.size w w1 := ⟨h.os, h.tape, h.output, h.size, h.block⟩
theorem getD_drop (l : List Int) (i j : Nat) : (l.drop i).getD j 0 = l.getD (i + j) 0 := by
  rw [List.getD_eq_getElem?_getD, List.getD_eq_getElem?_getD, List.getElem?_drop]
/-- hex4 of what lies from i on. -/
theorem hex4_from (b o n cap i : Nat) (zs : List Int) (w : World) (hlen : zs.length = n) (hcap : n ≤ cap) (hn : n ≤ 1048576) (cells : ∀ j, j < n → w.cell? ⟨b, o + j, none⟩ = some (.int .u8 (zs.getD j 0))) :
    Calls Tryf.prog 27 #[.slice (some ⟨b, o + i, none⟩) (n - i) (cap - i)] w fun e w' => e = .returned (.tuple #[.int .i32 ((hex4L (zs.drop i)).getD 0), .bool (hex4L (zs.drop i)).isSome]) ∧ w' = w := by
  refine hex4_any b (o + i) (n - i) (cap - i) (zs.drop i) w (by omega) (by omega) (by simp; omega) (fun j hj => ?_)
  rw [getD_drop, Nat.add_assoc]
  exact cells (i + j) (by omega)
theorem hex4_none {a : Option Addr} {b o n cap i : Nat} {zs : List Int} {w : World} (ha : a = some ⟨b, o + i, none⟩ ∨ n - i < 4) (hlen : zs.length = n) (hcap : n ≤ cap) (hn : n ≤ 1048576) (cells : ∀ j, j < n → w.cell? ⟨b, o + j, none⟩ = some (.int .u8 (zs.getD j 0))) (hx : hex4L (zs.drop i) = none) :
    Calls Tryf.prog 27 #[.slice a (n - i) (cap - i)] w fun e w' => e = .returned (.tuple #[.int .i32 0, .bool false]) ∧ w' = w := by
  rcases ha with rfl | h
  · refine (hex4_from b o n cap i zs w hlen hcap hn cells).mono fun e w' h => ⟨?_, h.2⟩
    rw [h.1, hx]; rfl
  · exact hex4_short a (n - i) (cap - i) w h
theorem hex4_ok {b o n cap i : Nat} {zs : List Int} {w : World} {u : Int} (hlen : zs.length = n) (hcap : n ≤ cap) (hn : n ≤ 1048576) (cells : ∀ j, j < n → w.cell? ⟨b, o + j, none⟩ = some (.int .u8 (zs.getD j 0))) (hx : hex4L (zs.drop i) = some u) :
    Calls Tryf.prog 27 #[.slice (some ⟨b, o + i, none⟩) (n - i) (cap - i)] w fun e w' => e = .returned (.tuple #[.int .i32 u, .bool true]) ∧ w' = w := by
  refine (hex4_from b o n cap i zs w hlen hcap hn cells).mono fun e w' h => ⟨?_, h.2⟩
  rw [h.1, hx]; rfl
set_option maxHeartbeats 400000 in
theorem uni_bad (F : Interp) (p b o n cap i : Nat) (zs : List Int) (w : World) (hF : F.answers w.tape) (R : Reader w p b o n cap i zs) (hi : i ≤ n) (hx : hex4L (zs.drop i) = none) :
    Calls Tryf.prog 21 #[.pointer (some ⟨p, 0, none⟩)] w fun e w' => Done (uniR (zs.drop i)) p i w e w' := by
  obtain ⟨c0, c1, c3, c4, c5, f1, f5, hp, hb, hlen, hcap, hn, cells⟩ := R
  have hii : (i : Int) ≤ (n : Int) := by omega
  have HX : Hid (hex4L (zs.drop i) = none) := hx
  have HC : Hid (∀ j, j < n → w.cell? ⟨b, o + j, none⟩ = some (.int .u8 (zs.getD j 0))) := cells
  have HL : Hid (zs.length = n) := hlen
  clear cells hx hlen
  have fin : ∀ (w1 : World) (ev : Value), IsErr ev → Below w.heap.size w w1 → Done (uniR (zs.drop i)) p i w (.returned (.tuple #[.int .i32 0, ev])) w1 := by
    intro w1 ev hev hbl
    rw [uniR_bad HX.out]
    exact ⟨ev, .nilIface, rfl, hev, by rw [hbl.cell hp]; exact c1, by rw [hbl.cell hp]; exact c5, rfl, hbl.mono (by omega)⟩
  have HFin : Hid _ := fin
  clear fin
  by_cases hci : cap = i
  · obtain rfl : n = i := by omega
    subst hci
    go_enter Tryf.func21, Tryf.ntmps21
    go_wp2
    go_quiet ((go_at_call 27; refine Calls.quiet_of_same (hex4_short _ _ _ _ ?_); omega))
    go_wp2_with fail
    refine (unexp_end F _ p _ _ _ _ (by exact hF) (by exact c0) (by exact c1)).mono ?_
    rintro e w1 ⟨ev, rfl, hev, hbl⟩
    have HV : Hid (IsErr ev) := hev
    have HB : Hid (Below w.heap.size w w1) := below_undraw hbl
    clear hev hbl
    go_wp2
    go_ret2
    exact HFin.out w1 ev HV.out HB.out
  · by_cases hin : i = n
    · subst hin
      go_enter Tryf.func21, Tryf.ntmps21
      go_wp2
      go_quiet ((go_at_call 27; refine Calls.quiet_of_same (hex4_short _ _ _ _ ?_); omega))
      go_wp2_with fail
      refine (unexp_end F _ p _ _ _ _ (by exact hF) (by exact c0) (by exact c1)).mono ?_
      rintro e w1 ⟨ev, rfl, hev, hbl⟩
      have HV : Hid (IsErr ev) := hev
      have HB : Hid (Below w.heap.size w w1) := below_undraw hbl
      clear hev hbl
      go_wp2
      go_ret2
      exact HFin.out w1 ev HV.out HB.out
    · have hcc := HC.out i (by omega)
      go_enter Tryf.func21, Tryf.ntmps21
      go_wp2
      go_quiet ((go_at_call 27; exact Calls.quiet_of_same (hex4_none (.inl rfl) HL.out hcap hn HC.out HX.out)))
      go_wp2_with fail
      refine (unexp_mid F b o p n cap i _ _ _ (by exact hF) (by exact hp) (by show b < w.heap.size; omega) (by omega) hn (by exact c0) (by exact c1) (by exact hcc)).mono ?_
      rintro e w1 ⟨ev, rfl, hev, hbl⟩
      have HV : Hid (IsErr ev) := hev
      have HB : Hid (Below w.heap.size w w1) := below_undraw hbl
      clear hev hbl
      go_wp2
      go_ret2
      exact HFin.out w1 ev HV.out HB.out

theorem cells_set {w : World} {p b o n k m m' : Nat} {zs : List Int} {v : Value} (hb : b < p) (cells : ∀ j, j < n → w.cell? ⟨b, o + j, none⟩ = some (.int .u8 (zs.getD j 0))) :
    ∀ j, j < n → (((w.drewN m).setCell ⟨p, k, none⟩ v).drewN m').cell? ⟨b, o + j, none⟩ = some (.int .u8 (zs.getD j 0)) := by
  intro j hj
  show ((w.drewN m).setCell ⟨p, k, none⟩ v).cell? ⟨b, o + j, none⟩ = _
  rw [World.cell?_setCell_other _ _ _ _ (by intro h; injection h; omega)]
  exact cells j hj
/-- hex4 at a slice that is spelt otherwise. -/
theorem hex4_gen {b q m c o n i : Nat} {zs : List Int} {w : World} (hq : q = o + i) (hm : m = n - i) (hmc : m ≤ c) (hlen : zs.length = n) (hn : n ≤ 1048576) (cells : ∀ j, j < n → w.cell? ⟨b, o + j, none⟩ = some (.int .u8 (zs.getD j 0))) :
    Calls Tryf.prog 27 #[.slice (some ⟨b, q, none⟩) m c] w fun e w' => e = .returned (.tuple #[.int .i32 ((hex4L (zs.drop i)).getD 0), .bool (hex4L (zs.drop i)).isSome]) ∧ w' = w := by
  subst hq; subst hm
  refine hex4_any b (o + i) (n - i) c (zs.drop i) w (by omega) (by omega) (by simp; omega) (fun j hj => ?_)
  rw [getD_drop, Nat.add_assoc]
  exact cells (i + j) (by omega)
theorem hex4_gen_ok {b q m c o n i : Nat} {zs : List Int} {w : World} {u : Int} (hq : q = o + i) (hm : m = n - i) (hmc : m ≤ c) (hlen : zs.length = n) (hn : n ≤ 1048576) (cells : ∀ j, j < n → w.cell? ⟨b, o + j, none⟩ = some (.int .u8 (zs.getD j 0))) (hx : hex4L (zs.drop i) = some u) :
    Calls Tryf.prog 27 #[.slice (some ⟨b, q, none⟩) m c] w fun e w' => e = .returned (.tuple #[.int .i32 u, .bool true]) ∧ w' = w := by
  refine (hex4_gen hq hm hmc hlen hn cells).mono fun e w' h => ⟨?_, h.2⟩
  rw [h.1, hx]; rfl
theorem hex4_gen_none {b q m c o n i : Nat} {zs : List Int} {w : World} (hq : q = o + i) (hm : m = n - i) (hmc : m ≤ c) (hlen : zs.length = n) (hn : n ≤ 1048576) (cells : ∀ j, j < n → w.cell? ⟨b, o + j, none⟩ = some (.int .u8 (zs.getD j 0))) (hx : hex4L (zs.drop i) = none) :
    Calls Tryf.prog 27 #[.slice (some ⟨b, q, none⟩) m c] w fun e w' => e = .returned (.tuple #[.int .i32 0, .bool false]) ∧ w' = w := by
  refine (hex4_gen hq hm hmc hlen hn cells).mono fun e w' h => ⟨?_, h.2⟩
  rw [h.1, hx]; rfl
/-- A way without an error of its own: the reader has moved on. -/
theorem done_fine {r : Int × Nat × Bool × Bool} {c : Int} {k : Nat} {p i : Nat} {w w1 : World} {x : Int} (hr : r = (c, k, false, true)) (hx : x = ((i + k : Nat) : Int)) (hb : Below p w w1) (h1 : w1.cell? ⟨p, 1, none⟩ = some (.int .i64 x)) (h5 : w1.cell? ⟨p, 5, none⟩ = some .nilIface) :
    Done r p i w (.returned (.tuple #[.int .i32 c, .nilIface])) w1 := by
  subst hr; subst hx
  exact ⟨_, _, rfl, rfl, h1, h5, rfl, hb⟩
theorem done_lone {r : Int × Nat × Bool × Bool} {p i : Nat} {w w1 : World} {x : Int} {fv : Value} (hr : r = (65533, 4, true, true)) (hx : x = ((i + 4 : Nat) : Int)) (hb : Below p w w1) (h1 : w1.cell? ⟨p, 1, none⟩ = some (.int .i64 x)) (h5 : w1.cell? ⟨p, 5, none⟩ = some fv) (hfv : IsErr fv) :
    Done r p i w (.returned (.tuple #[.int .i32 65533, .nilIface])) w1 := by
  subst hr; subst hx
  exact ⟨_, _, rfl, rfl, h1, h5, hfv, hb⟩
theorem lowOf_at {zs : List Int} {i n : Nat} (hlen : zs.length = n) (hi : i + 10 ≤ n) (z0 : zs.getD (i + 4) 0 = 92) (z1 : zs.getD (i + 5) 0 = 117) : lowOf ((zs.drop i).drop 4) = hex4L (zs.drop (i + 6)) := by
  unfold lowOf
  rw [List.drop_drop, List.drop_drop, if_pos ⟨by simp; omega, by rw [getD_drop]; exact z0, by rw [getD_drop]; exact z1⟩]
theorem lowOf_no {zs : List Int} {i n : Nat} (hlen : zs.length = n) (h : n < i + 10 ∨ zs.getD (i + 4) 0 ≠ 92 ∨ zs.getD (i + 5) 0 ≠ 117) : lowOf ((zs.drop i).drop 4) = none := by
  unfold lowOf
  rw [List.drop_drop, List.drop_drop, if_neg]
  rintro ⟨h1, h2, h3⟩
  rw [getD_drop] at h2 h3
  simp at h1
  rcases h with h | h | h
  · omega
  · exact h h2
  · exact h h3
set_option maxHeartbeats 400000 in
theorem uni_bmp (p b o n cap i : Nat) (zs : List Int) (u : Int) (w : World) (R : Reader w p b o n cap i zs) (hi : i + 4 ≤ n) (hx : hex4L (zs.drop i) = some u) (hu : u < 55296 ∨ 57343 < u) :
    Calls Tryf.prog 21 #[.pointer (some ⟨p, 0, none⟩)] w fun e w' => Done (uniR (zs.drop i)) p i w e w' := by
  obtain ⟨c0, c1, c3, c4, c5, f1, f5, hp, hb, hlen, hcap, hn, cells⟩ := R
  have hii : (i : Int) ≤ (n : Int) := by omega
  have hci : ¬ cap = i := by omega
  have HX : Hid (hex4L (zs.drop i) = some u) := hx
  have HC : Hid (∀ j, j < n → w.cell? ⟨b, o + j, none⟩ = some (.int .u8 (zs.getD j 0))) := cells
  have HL : Hid (zs.length = n) := hlen
  clear cells hx hlen
  go_enter Tryf.func21, Tryf.ntmps21
  go_wp2
  go_quiet ((go_at_call 27; exact Calls.quiet_of_same (hex4_ok HL.out hcap hn HC.out HX.out)))
  go_wp2_with (go_at_call 28; refine (sur_no u _ (by omega)).mono ?_; rintro e w1 ⟨rfl, rfl⟩)
  go_ret2
  exact done_fine (k := 4) (x := (i : Int) + 4) (uniR_bmp HX.out hu) (by omega) (Below.setCell (p := ⟨p, 1, none⟩) (below_drewN (Below.refl p w) _) (Nat.le_refl p) _) (by go_simp) (by go_simp)
set_option maxHeartbeats 400000 in
theorem uni_pair (p b o n cap i : Nat) (zs : List Int) (u lo : Int) (w : World) (R : Reader w p b o n cap i zs) (hi : i + 10 ≤ n) (hx : hex4L (zs.drop i) = some u) (hu : 55296 ≤ u ∧ u ≤ 56319) (z0 : zs.getD (i + 4) 0 = 92) (z1 : zs.getD (i + 5) 0 = 117) (hy : hex4L (zs.drop (i + 6)) = some lo) (hlo : 56320 ≤ lo ∧ lo ≤ 57343) :
    Calls Tryf.prog 21 #[.pointer (some ⟨p, 0, none⟩)] w fun e w' => Done (uniR (zs.drop i)) p i w e w' := by
  obtain ⟨c0, c1, c3, c4, c5, f1, f5, hp, hb, hlen, hcap, hn, cells⟩ := R
  have hii : (i : Int) ≤ (n : Int) := by omega
  have hi4 : (i : Int) + 4 ≤ (n : Int) := by omega
  have hci : ¬ cap = i := by omega
  have hci4 : ¬ cap = i + 4 := by omega
  have hne : ¬ b = p := by omega
  have HX : Hid (hex4L (zs.drop i) = some u) := hx
  have HY : Hid (hex4L (zs.drop (i + 6)) = some lo) := hy
  have HZ : Hid (lowOf ((zs.drop i).drop 4) = some lo) := (lowOf_at hlen hi z0 z1).trans hy
  have HC : Hid (∀ j, j < n → w.cell? ⟨b, o + j, none⟩ = some (.int .u8 (zs.getD j 0))) := cells
  have HL : Hid (zs.length = n) := hlen
  have k0 : w.cell? ⟨b, o + (i + 4), none⟩ = some (.int .u8 92) := by rw [cells (i + 4) (by omega), z0]
  have k1 : w.cell? ⟨b, o + (i + 4) + 1, none⟩ = some (.int .u8 117) := by rw [Nat.add_assoc, cells (i + 5) (by omega), z1]
  have hpr : ((65536 + (u - 55296) * 1024 + (lo - 56320)) != 65533) = true := by simp; omega
  clear cells hx hy hlen z0 z1
  go_enter Tryf.func21, Tryf.ntmps21
  go_wp2
  go_quiet ((go_at_call 27; exact Calls.quiet_of_same (hex4_ok HL.out hcap hn HC.out HX.out)))
  go_wp2_with (go_at_call 28; refine (sur_yes u _ (by omega)).mono ?_; rintro e w1 ⟨rfl, rfl⟩)
  go_quiet (fail)
  go_wp2_with fail
  refine (hex4_gen_ok (o := o) (i := i + 6) (by omega) (by omega) (by omega) HL.out hn (cells_set hb HC.out) HY.out).mono ?_
  rintro e w1 ⟨rfl, rfl⟩
  go_wp2_with (go_at_call 29; refine (dec_yes u lo _ (by omega) (by omega)).mono ?_; rintro e w1 ⟨rfl, rfl⟩)
  go_ret2
  exact done_fine (k := 10) (x := (i : Int) + 4 + 6) (uniR_pair HX.out hu HZ.out hlo) (by omega) (Below.setCell (p := ⟨p, 1, none⟩) (below_drewN (Below.setCell (p := ⟨p, 1, none⟩) (below_drewN (Below.refl p w) _) (Nat.le_refl p) _) _) (Nat.le_refl p) _) (by go_simp) (by go_simp)

theorem addr_add (b o j : Nat) : (⟨b, o, none⟩ : Addr).add j = ⟨b, o + j, none⟩ := by unfold Addr.add; split <;> simp_all
theorem errorf_lone' (F : Interp) (g : Nat) (a : Addr) (m cap : Nat) (xs : List Int) (hm : xs.length = m) (w : World) (hF : F.answers w.tape) (c0 : w.cell? ⟨g, 0, none⟩ = some (.iface 22 (.slice (some a) m cap))) (hc : ∀ j v, (xs.map (Value.int .u8))[j]? = some v → w.cell? (a.add j) = some v) :
    Calls Tryf.prog 24 #[.string ⟨#[115, 116, 114, 105, 110, 103, 32, 101, 115, 99, 97, 112, 101, 32, 37, 115, 32, 105, 115, 32, 97, 32, 108, 111, 110, 101, 32, 85, 84, 70, 45, 49, 54, 32, 115, 117, 114, 114, 111, 103, 97, 116, 101, 44, 32, 119, 104, 105, 99, 104, 32, 99, 97, 110, 111, 110, 105, 99, 97, 108, 32, 74, 83, 79, 78, 32, 99, 97, 110, 110, 111, 116, 32, 104, 111, 108, 100]⟩, .slice (some ⟨g, 0, none⟩) 1 1] w fun e w' => ∃ ev, e = .returned ev ∧ IsErr ev ∧ Below w.heap.size w w' := by
  subst hm; exact errorf_lone F g a cap xs w hF c0 hc
/-- The six bytes of the escape, where fmt reads them. -/
theorem lone_cells {w : World} {p b o n i a1 a2 : Nat} {zs : List Int} {v : Value} {V : Obj} (hp : p < w.heap.size) (hb : b < p) (hlen : zs.length = n) (hi : i + 6 ≤ n) (cells : ∀ j, j < n → w.cell? ⟨b, o + j, none⟩ = some (.int .u8 (zs.getD j 0))) :
    ∀ j x, (((zs.drop i).take 6).map (Value.int .u8))[j]? = some x → ((((w.drewN a1).setCell ⟨p, 1, none⟩ v).drewN a2).alloc V).cell? ((⟨b, o + i, none⟩ : Addr).add j) = some x := by
  intro j x hj
  have hcs := cells_set (m := a1) (m' := a2) (k := 1) (v := v) hb cells
  rw [List.getElem?_map] at hj
  obtain ⟨z, hz, rfl⟩ := Option.map_eq_some_iff.1 hj
  have hj6 : j < 6 := by
    have h1 := (List.getElem?_eq_some_iff.1 hz).1
    simp at h1; omega
  rw [List.getElem?_take_of_lt hj6, List.getElem?_drop] at hz
  have hsz : (((w.drewN a1).setCell ⟨p, 1, none⟩ v).drewN a2).heap.size = w.heap.size := by
    show ((w.drewN a1).setCell ⟨p, 1, none⟩ v).heap.size = _
    simp [World.setCell]
  have hbel := (Below.refl (((w.drewN a1).setCell ⟨p, 1, none⟩ v).drewN a2).heap.size (((w.drewN a1).setCell ⟨p, 1, none⟩ v).drewN a2)).alloc (Nat.le_refl _) V
  rw [addr_add, hbel.cell (by show b < _; rw [hsz]; omega), Nat.add_assoc, hcs (i + j) (by omega), List.getD_eq_getElem?_getD, hz]
  rfl
/-- The reader behind the making of the error. -/
theorem lone_after {w w1 : World} {p b o n cap i a1 a2 : Nat} {x : Int} {V : Obj} (c3 : w.cell? ⟨p, 3, none⟩ = some (.pointer none)) (c4 : w.cell? ⟨p, 4, none⟩ = some (.bool false)) (c5 : w.cell? ⟨p, 5, none⟩ = some .nilIface) (c1 : w.cell? ⟨p, 1, none⟩ = some (.int .i64 i)) (f5 : w.frozen? ⟨p, 5, none⟩ = false) (hp : p < w.heap.size)
    (hbl : Below ((((w.drewN a1).setCell ⟨p, 1, none⟩ (.int .i64 x)).drewN a2).alloc V).heap.size ((((w.drewN a1).setCell ⟨p, 1, none⟩ (.int .i64 x)).drewN a2).alloc V) w1) :
    w1.cell? ⟨p, 3, none⟩ = some (.pointer none) ∧ w1.cell? ⟨p, 4, none⟩ = some (.bool false) ∧ w1.cell? ⟨p, 5, none⟩ = some .nilIface ∧ w1.cell? ⟨p, 1, none⟩ = some (.int .i64 x) ∧ w1.frozen? ⟨p, 5, none⟩ = false ∧ Below p w w1 := by
  have hsz : (((w.drewN a1).setCell ⟨p, 1, none⟩ (.int .i64 x)).drewN a2).heap.size = w.heap.size := by
    show ((w.drewN a1).setCell ⟨p, 1, none⟩ (.int .i64 x)).heap.size = _
    simp [World.setCell]
  have hal := (Below.refl (((w.drewN a1).setCell ⟨p, 1, none⟩ (.int .i64 x)).drewN a2).heap.size (((w.drewN a1).setCell ⟨p, 1, none⟩ (.int .i64 x)).drewN a2)).alloc (Nat.le_refl _) V
  have hbig : ∀ k, w1.cell? ⟨p, k, none⟩ = ((w.drewN a1).setCell ⟨p, 1, none⟩ (.int .i64 x)).cell? ⟨p, k, none⟩ := by
    intro k
    rw [hbl.cell (by show p < _; simp; omega), hal.cell (by show p < _; rw [hsz]; exact hp)]
    rfl
  have hfz : w1.frozen? ⟨p, 5, none⟩ = ((w.drewN a1).setCell ⟨p, 1, none⟩ (.int .i64 x)).frozen? ⟨p, 5, none⟩ := by
    rw [hbl.frozen (by show p < _; simp; omega), hal.frozen (by show p < _; rw [hsz]; exact hp)]
    rfl
  refine ⟨?_, ?_, ?_, ?_, ?_, ?_⟩
  · rw [hbig]; go_simp
  · rw [hbig]; go_simp
  · rw [hbig]; go_simp
  · rw [hbig]; go_simp
  · rw [hfz]; go_simp
  · refine Below.trans (Below.trans (below_drewN (Below.setCell (p := ⟨p, 1, none⟩) (below_drewN (Below.refl p w) a1) (Nat.le_refl p) (.int .i64 x)) a2) (hal.mono ?_)) (hbl.mono ?_)
    · rw [hsz]; omega
    · simp; omega
set_option maxHeartbeats 400000 in
theorem uni_lone1 (F : Interp) (p b o n cap i : Nat) (zs : List Int) (u : Int) (w : World) (hF : F.answers w.tape) (R : Reader w p b o n cap i zs) (hi2n : 2 ≤ i) (hi : i + 4 ≤ n) (hx : hex4L (zs.drop i) = some u) (hu : 55296 ≤ u ∧ u ≤ 57343) (hs : n < i + 10) (hci4 : ¬ cap = i + 4) :
    Calls Tryf.prog 21 #[.pointer (some ⟨p, 0, none⟩)] w fun e w' => Done (uniR (zs.drop i)) p i w e w' := by
  obtain ⟨c0, c1, c3, c4, c5, f1, f5, hp, hb, hlen, hcap, hn, cells⟩ := R
  have hii : (i : Int) ≤ (n : Int) := by omega
  have hi4 : (i : Int) + 4 ≤ (n : Int) := by omega
  have hi2 : 2 ≤ (i : Int) := by omega
  have hci : ¬ cap = i := by omega
  have hne : ¬ b = p := by omega
  have HX : Hid (hex4L (zs.drop i) = some u) := hx
  have HZ : Hid (uniR (zs.drop i) = (65533, 4, true, true)) := uniR_lone0 hx hu (lowOf_no hlen (.inl hs))
  have HC : Hid (∀ j, j < n → w.cell? ⟨b, o + j, none⟩ = some (.int .u8 (zs.getD j 0))) := cells
  have HL : Hid (zs.length = n) := hlen
  have hlt : ((n - (i + 4) : Nat) : Int) < 6 := by omega
  clear cells hx hlen hs
  go_enter Tryf.func21, Tryf.ntmps21
  go_wp2
  go_quiet ((go_at_call 27; exact Calls.quiet_of_same (hex4_ok HL.out hcap hn HC.out HX.out)))
  go_wp2_with (go_at_call 28; refine (sur_yes u _ (by omega)).mono ?_; rintro e w1 ⟨rfl, rfl⟩)
  go_quiet (fail)
  go_wp2_with fail
  go_quiet (fail)
  go_wp2_with fail
  refine (errorf_lone' F _ ⟨b, o + (i - 2), none⟩ (i + 4 - (i - 2)) (cap - (i - 2)) ((zs.drop (i - 2)).take 6) (by have := HL.out; simp; omega) _ (by exact hF) (by go_simp) (lone_cells hp hb HL.out (by omega) HC.out)).mono ?_
  rintro e w1 ⟨ev, rfl, hev, hbl⟩
  obtain ⟨t, x, rfl⟩ := hev
  obtain ⟨g3, g4, g5, g1, h5, hB⟩ := lone_after (b := b) (o := o) (n := n) (cap := cap) c3 c4 c5 c1 f5 hp hbl
  have HB : Hid (Below p w w1) := hB
  clear hbl hB
  go_wp2_with fail
  refine (fail_any p t x w1 g3 g4 g5 h5).mono ?_
  rintro e w2 ⟨rfl, rfl⟩
  go_wp2
  go_ret2
  exact done_lone (x := (i : Int) + 4) (fv := .iface t x) HZ.out (by omega) (Below.setCell (p := ⟨p, 5, none⟩) HB.out (Nat.le_refl p) _) (by go_simp) (by go_simp) ⟨t, x, rfl⟩
set_option maxHeartbeats 400000 in
theorem uni_lone1b (F : Interp) (p b o n cap i : Nat) (zs : List Int) (u : Int) (w : World) (hF : F.answers w.tape) (R : Reader w p b o n cap i zs) (hi2n : 2 ≤ i) (hi : i + 4 ≤ n) (hx : hex4L (zs.drop i) = some u) (hu : 55296 ≤ u ∧ u ≤ 57343) (hs : n < i + 10) (hci4 : (cap = i + 4) = True) :
    Calls Tryf.prog 21 #[.pointer (some ⟨p, 0, none⟩)] w fun e w' => Done (uniR (zs.drop i)) p i w e w' := by
  obtain ⟨c0, c1, c3, c4, c5, f1, f5, hp, hb, hlen, hcap, hn, cells⟩ := R
  have hii : (i : Int) ≤ (n : Int) := by omega
  have hi4 : (i : Int) + 4 ≤ (n : Int) := by omega
  have hi2 : 2 ≤ (i : Int) := by omega
  have hci : ¬ cap = i := by omega
  have hne : ¬ b = p := by omega
  have HX : Hid (hex4L (zs.drop i) = some u) := hx
  have HZ : Hid (uniR (zs.drop i) = (65533, 4, true, true)) := uniR_lone0 hx hu (lowOf_no hlen (.inl hs))
  have HC : Hid (∀ j, j < n → w.cell? ⟨b, o + j, none⟩ = some (.int .u8 (zs.getD j 0))) := cells
  have HL : Hid (zs.length = n) := hlen
  have hlt : ((n - (i + 4) : Nat) : Int) < 6 := by omega
  clear cells hx hlen hs
  go_enter Tryf.func21, Tryf.ntmps21
  go_wp2
  go_quiet ((go_at_call 27; exact Calls.quiet_of_same (hex4_ok HL.out hcap hn HC.out HX.out)))
  go_wp2_with (go_at_call 28; refine (sur_yes u _ (by omega)).mono ?_; rintro e w1 ⟨rfl, rfl⟩)
  go_quiet (fail)
  go_wp2_with fail
  go_quiet (fail)
  go_wp2_with fail
  refine (errorf_lone' F _ ⟨b, o + (i - 2), none⟩ (i + 4 - (i - 2)) (cap - (i - 2)) ((zs.drop (i - 2)).take 6) (by have := HL.out; simp; omega) _ (by exact hF) (by go_simp) (lone_cells hp hb HL.out (by omega) HC.out)).mono ?_
  rintro e w1 ⟨ev, rfl, hev, hbl⟩
  obtain ⟨t, x, rfl⟩ := hev
  obtain ⟨g3, g4, g5, g1, h5, hB⟩ := lone_after (b := b) (o := o) (n := n) (cap := cap) c3 c4 c5 c1 f5 hp hbl
  have HB : Hid (Below p w w1) := hB
  clear hbl hB
  go_wp2_with fail
  refine (fail_any p t x w1 g3 g4 g5 h5).mono ?_
  rintro e w2 ⟨rfl, rfl⟩
  go_wp2
  go_ret2
  exact done_lone (x := (i : Int) + 4) (fv := .iface t x) HZ.out (by omega) (Below.setCell (p := ⟨p, 5, none⟩) HB.out (Nat.le_refl p) _) (by go_simp) (by go_simp) ⟨t, x, rfl⟩
set_option maxHeartbeats 400000 in
theorem uni_lone2 (F : Interp) (p b o n cap i : Nat) (zs : List Int) (u : Int) (w : World) (hF : F.answers w.tape) (R : Reader w p b o n cap i zs) (hi2n : 2 ≤ i) (hi : i + 4 ≤ n) (hx : hex4L (zs.drop i) = some u) (hu : 55296 ≤ u ∧ u ≤ 57343) (h10n : i + 10 ≤ n) (z0 : zs.getD (i + 4) 0 ≠ 92) :
    Calls Tryf.prog 21 #[.pointer (some ⟨p, 0, none⟩)] w fun e w' => Done (uniR (zs.drop i)) p i w e w' := by
  obtain ⟨c0, c1, c3, c4, c5, f1, f5, hp, hb, hlen, hcap, hn, cells⟩ := R
  have hii : (i : Int) ≤ (n : Int) := by omega
  have hi4 : (i : Int) + 4 ≤ (n : Int) := by omega
  have hi2 : 2 ≤ (i : Int) := by omega
  have hci : ¬ cap = i := by omega
  have hne : ¬ b = p := by omega
  have HX : Hid (hex4L (zs.drop i) = some u) := hx
  have HZ : Hid (uniR (zs.drop i) = (65533, 4, true, true)) := uniR_lone0 hx hu (lowOf_no hlen (.inr (.inl z0)))
  have HC : Hid (∀ j, j < n → w.cell? ⟨b, o + j, none⟩ = some (.int .u8 (zs.getD j 0))) := cells
  have HL : Hid (zs.length = n) := hlen
  have hci4 : ¬ cap = i + 4 := by omega
  have h10 : (6 : Int) ≤ ((n - (i + 4) : Nat) : Int) := by omega
  obtain ⟨c, hc⟩ : ∃ c, c = zs.getD (i + 4) 0 := ⟨_, rfl⟩
  have k0 : w.cell? ⟨b, o + (i + 4), none⟩ = some (.int .u8 c) := by rw [cells (i + 4) (by omega), hc]
  have e0 : (c == 92) = false := by rw [hc]; simpa using z0
  clear cells hx hlen z0 hc
  go_enter Tryf.func21, Tryf.ntmps21
  go_wp2
  go_quiet ((go_at_call 27; exact Calls.quiet_of_same (hex4_ok HL.out hcap hn HC.out HX.out)))
  go_wp2_with (go_at_call 28; refine (sur_yes u _ (by omega)).mono ?_; rintro e w1 ⟨rfl, rfl⟩)
  go_quiet (fail)
  go_wp2_with fail
  go_quiet (fail)
  go_wp2_with fail
  refine (errorf_lone' F _ ⟨b, o + (i - 2), none⟩ (i + 4 - (i - 2)) (cap - (i - 2)) ((zs.drop (i - 2)).take 6) (by have := HL.out; simp; omega) _ (by exact hF) (by go_simp) (lone_cells hp hb HL.out (by omega) HC.out)).mono ?_
  rintro e w1 ⟨ev, rfl, hev, hbl⟩
  obtain ⟨t, x, rfl⟩ := hev
  obtain ⟨g3, g4, g5, g1, h5, hB⟩ := lone_after (b := b) (o := o) (n := n) (cap := cap) c3 c4 c5 c1 f5 hp hbl
  have HB : Hid (Below p w w1) := hB
  clear hbl hB
  go_wp2_with fail
  refine (fail_any p t x w1 g3 g4 g5 h5).mono ?_
  rintro e w2 ⟨rfl, rfl⟩
  go_wp2
  go_ret2
  exact done_lone (x := (i : Int) + 4) (fv := .iface t x) HZ.out (by omega) (Below.setCell (p := ⟨p, 5, none⟩) HB.out (Nat.le_refl p) _) (by go_simp) (by go_simp) ⟨t, x, rfl⟩
set_option maxHeartbeats 400000 in
theorem uni_lone3 (F : Interp) (p b o n cap i : Nat) (zs : List Int) (u : Int) (w : World) (hF : F.answers w.tape) (R : Reader w p b o n cap i zs) (hi2n : 2 ≤ i) (hi : i + 4 ≤ n) (hx : hex4L (zs.drop i) = some u) (hu : 55296 ≤ u ∧ u ≤ 57343) (h10n : i + 10 ≤ n) (z0 : zs.getD (i + 4) 0 = 92) (z1 : zs.getD (i + 5) 0 ≠ 117) :
    Calls Tryf.prog 21 #[.pointer (some ⟨p, 0, none⟩)] w fun e w' => Done (uniR (zs.drop i)) p i w e w' := by
  obtain ⟨c0, c1, c3, c4, c5, f1, f5, hp, hb, hlen, hcap, hn, cells⟩ := R
  have hii : (i : Int) ≤ (n : Int) := by omega
  have hi4 : (i : Int) + 4 ≤ (n : Int) := by omega
  have hi2 : 2 ≤ (i : Int) := by omega
  have hci : ¬ cap = i := by omega
  have hne : ¬ b = p := by omega
  have HX : Hid (hex4L (zs.drop i) = some u) := hx
  have HZ : Hid (uniR (zs.drop i) = (65533, 4, true, true)) := uniR_lone0 hx hu (lowOf_no hlen (.inr (.inr z1)))
  have HC : Hid (∀ j, j < n → w.cell? ⟨b, o + j, none⟩ = some (.int .u8 (zs.getD j 0))) := cells
  have HL : Hid (zs.length = n) := hlen
  have hci4 : ¬ cap = i + 4 := by omega
  have h10 : (6 : Int) ≤ ((n - (i + 4) : Nat) : Int) := by omega
  obtain ⟨c, hc⟩ : ∃ c, c = zs.getD (i + 5) 0 := ⟨_, rfl⟩
  have k0 : w.cell? ⟨b, o + (i + 4), none⟩ = some (.int .u8 92) := by rw [cells (i + 4) (by omega), z0]
  have k1 : w.cell? ⟨b, o + (i + 4) + 1, none⟩ = some (.int .u8 c) := by rw [Nat.add_assoc, cells (i + 5) (by omega), hc]
  have e1 : (c == 117) = false := by rw [hc]; simpa using z1
  clear cells hx hlen z0 z1 hc
  go_enter Tryf.func21, Tryf.ntmps21
  go_wp2
  go_quiet ((go_at_call 27; exact Calls.quiet_of_same (hex4_ok HL.out hcap hn HC.out HX.out)))
  go_wp2_with (go_at_call 28; refine (sur_yes u _ (by omega)).mono ?_; rintro e w1 ⟨rfl, rfl⟩)
  go_quiet (fail)
  go_wp2_with fail
  go_quiet (fail)
  go_wp2_with fail
  refine (errorf_lone' F _ ⟨b, o + (i - 2), none⟩ (i + 4 - (i - 2)) (cap - (i - 2)) ((zs.drop (i - 2)).take 6) (by have := HL.out; simp; omega) _ (by exact hF) (by go_simp) (lone_cells hp hb HL.out (by omega) HC.out)).mono ?_
  rintro e w1 ⟨ev, rfl, hev, hbl⟩
  obtain ⟨t, x, rfl⟩ := hev
  obtain ⟨g3, g4, g5, g1, h5, hB⟩ := lone_after (b := b) (o := o) (n := n) (cap := cap) c3 c4 c5 c1 f5 hp hbl
  have HB : Hid (Below p w w1) := hB
  clear hbl hB
  go_wp2_with fail
  refine (fail_any p t x w1 g3 g4 g5 h5).mono ?_
  rintro e w2 ⟨rfl, rfl⟩
  go_wp2
  go_ret2
  exact done_lone (x := (i : Int) + 4) (fv := .iface t x) HZ.out (by omega) (Below.setCell (p := ⟨p, 5, none⟩) HB.out (Nat.le_refl p) _) (by go_simp) (by go_simp) ⟨t, x, rfl⟩
set_option maxHeartbeats 400000 in
theorem uni_lone4 (F : Interp) (p b o n cap i : Nat) (zs : List Int) (u : Int) (w : World) (hF : F.answers w.tape) (R : Reader w p b o n cap i zs) (hi2n : 2 ≤ i) (hi : i + 4 ≤ n) (hx : hex4L (zs.drop i) = some u) (hu : 55296 ≤ u ∧ u ≤ 57343) (h10n : i + 10 ≤ n) (z0 : zs.getD (i + 4) 0 = 92) (z1 : zs.getD (i + 5) 0 = 117) (hy : hex4L (zs.drop (i + 6)) = none) :
    Calls Tryf.prog 21 #[.pointer (some ⟨p, 0, none⟩)] w fun e w' => Done (uniR (zs.drop i)) p i w e w' := by
  obtain ⟨c0, c1, c3, c4, c5, f1, f5, hp, hb, hlen, hcap, hn, cells⟩ := R
  have hii : (i : Int) ≤ (n : Int) := by omega
  have hi4 : (i : Int) + 4 ≤ (n : Int) := by omega
  have hi2 : 2 ≤ (i : Int) := by omega
  have hci : ¬ cap = i := by omega
  have hne : ¬ b = p := by omega
  have HX : Hid (hex4L (zs.drop i) = some u) := hx
  have HZ : Hid (uniR (zs.drop i) = (65533, 4, true, true)) := uniR_lone0 hx hu ((lowOf_at hlen h10n z0 z1).trans hy)
  have HC : Hid (∀ j, j < n → w.cell? ⟨b, o + j, none⟩ = some (.int .u8 (zs.getD j 0))) := cells
  have HL : Hid (zs.length = n) := hlen
  have hci4 : ¬ cap = i + 4 := by omega
  have h10 : (6 : Int) ≤ ((n - (i + 4) : Nat) : Int) := by omega
  have k0 : w.cell? ⟨b, o + (i + 4), none⟩ = some (.int .u8 92) := by rw [cells (i + 4) (by omega), z0]
  have k1 : w.cell? ⟨b, o + (i + 4) + 1, none⟩ = some (.int .u8 117) := by rw [Nat.add_assoc, cells (i + 5) (by omega), z1]
  have HY : Hid (hex4L (zs.drop (i + 6)) = none) := hy
  clear cells hx hlen z0 z1 hy
  go_enter Tryf.func21, Tryf.ntmps21
  go_wp2
  go_quiet ((go_at_call 27; exact Calls.quiet_of_same (hex4_ok HL.out hcap hn HC.out HX.out)))
  go_wp2_with (go_at_call 28; refine (sur_yes u _ (by omega)).mono ?_; rintro e w1 ⟨rfl, rfl⟩)
  go_quiet (fail)
  go_wp2_with fail
  refine (hex4_gen_none (o := o) (i := i + 6) (by omega) (by omega) (by omega) HL.out hn (cells_set hb HC.out) HY.out).mono ?_
  rintro e w1 ⟨rfl, rfl⟩
  go_wp2_with fail
  go_quiet (fail)
  go_wp2_with fail
  refine (errorf_lone' F _ ⟨b, o + (i - 2), none⟩ (i + 4 - (i - 2)) (cap - (i - 2)) ((zs.drop (i - 2)).take 6) (by have := HL.out; simp; omega) _ (by exact hF) (by go_simp) (lone_cells hp hb HL.out (by omega) HC.out)).mono ?_
  rintro e w1 ⟨ev, rfl, hev, hbl⟩
  obtain ⟨t, x, rfl⟩ := hev
  obtain ⟨g3, g4, g5, g1, h5, hB⟩ := lone_after (b := b) (o := o) (n := n) (cap := cap) c3 c4 c5 c1 f5 hp hbl
  have HB : Hid (Below p w w1) := hB
  clear hbl hB
  go_wp2_with fail
  refine (fail_any p t x w1 g3 g4 g5 h5).mono ?_
  rintro e w2 ⟨rfl, rfl⟩
  go_wp2
  go_ret2
  exact done_lone (x := (i : Int) + 4) (fv := .iface t x) HZ.out (by omega) (Below.setCell (p := ⟨p, 5, none⟩) HB.out (Nat.le_refl p) _) (by go_simp) (by go_simp) ⟨t, x, rfl⟩
set_option maxHeartbeats 400000 in
theorem uni_lone5 (F : Interp) (p b o n cap i : Nat) (zs : List Int) (u : Int) (lo : Int) (w : World) (hF : F.answers w.tape) (R : Reader w p b o n cap i zs) (hi2n : 2 ≤ i) (hi : i + 4 ≤ n) (hx : hex4L (zs.drop i) = some u) (hu : 55296 ≤ u ∧ u ≤ 57343) (h10n : i + 10 ≤ n) (z0 : zs.getD (i + 4) 0 = 92) (z1 : zs.getD (i + 5) 0 = 117) (hy : hex4L (zs.drop (i + 6)) = some lo) (hno : 56319 < u ∨ lo < 56320 ∨ 57343 < lo) :
    Calls Tryf.prog 21 #[.pointer (some ⟨p, 0, none⟩)] w fun e w' => Done (uniR (zs.drop i)) p i w e w' := by
  obtain ⟨c0, c1, c3, c4, c5, f1, f5, hp, hb, hlen, hcap, hn, cells⟩ := R
  have hii : (i : Int) ≤ (n : Int) := by omega
  have hi4 : (i : Int) + 4 ≤ (n : Int) := by omega
  have hi2 : 2 ≤ (i : Int) := by omega
  have hci : ¬ cap = i := by omega
  have hne : ¬ b = p := by omega
  have HX : Hid (hex4L (zs.drop i) = some u) := hx
  have HZ : Hid (uniR (zs.drop i) = (65533, 4, true, true)) := uniR_lone1 hx hu ((lowOf_at hlen h10n z0 z1).trans hy) hno
  have HC : Hid (∀ j, j < n → w.cell? ⟨b, o + j, none⟩ = some (.int .u8 (zs.getD j 0))) := cells
  have HL : Hid (zs.length = n) := hlen
  have hci4 : ¬ cap = i + 4 := by omega
  have h10 : (6 : Int) ≤ ((n - (i + 4) : Nat) : Int) := by omega
  have k0 : w.cell? ⟨b, o + (i + 4), none⟩ = some (.int .u8 92) := by rw [cells (i + 4) (by omega), z0]
  have k1 : w.cell? ⟨b, o + (i + 4) + 1, none⟩ = some (.int .u8 117) := by rw [Nat.add_assoc, cells (i + 5) (by omega), z1]
  have HY : Hid (hex4L (zs.drop (i + 6)) = some lo) := hy
  clear cells hx hlen z0 z1 hy
  go_enter Tryf.func21, Tryf.ntmps21
  go_wp2
  go_quiet ((go_at_call 27; exact Calls.quiet_of_same (hex4_ok HL.out hcap hn HC.out HX.out)))
  go_wp2_with (go_at_call 28; refine (sur_yes u _ (by omega)).mono ?_; rintro e w1 ⟨rfl, rfl⟩)
  go_quiet (fail)
  go_wp2_with fail
  refine (hex4_gen_ok (o := o) (i := i + 6) (by omega) (by omega) (by omega) HL.out hn (cells_set hb HC.out) HY.out).mono ?_
  rintro e w1 ⟨rfl, rfl⟩
  go_wp2_with (go_at_call 29; refine (dec_no u lo _ (by omega)).mono ?_; rintro e w1 ⟨rfl, rfl⟩)
  go_quiet (fail)
  go_wp2_with fail
  refine (errorf_lone' F _ ⟨b, o + (i - 2), none⟩ (i + 4 - (i - 2)) (cap - (i - 2)) ((zs.drop (i - 2)).take 6) (by have := HL.out; simp; omega) _ (by exact hF) (by go_simp) (lone_cells hp hb HL.out (by omega) HC.out)).mono ?_
  rintro e w1 ⟨ev, rfl, hev, hbl⟩
  obtain ⟨t, x, rfl⟩ := hev
  obtain ⟨g3, g4, g5, g1, h5, hB⟩ := lone_after (b := b) (o := o) (n := n) (cap := cap) c3 c4 c5 c1 f5 hp hbl
  have HB : Hid (Below p w w1) := hB
  clear hbl hB
  go_wp2_with fail
  refine (fail_any p t x w1 g3 g4 g5 h5).mono ?_
  rintro e w2 ⟨rfl, rfl⟩
  go_wp2
  go_ret2
  exact done_lone (x := (i : Int) + 4) (fv := .iface t x) HZ.out (by omega) (Below.setCell (p := ⟨p, 5, none⟩) HB.out (Nat.le_refl p) _) (by go_simp) (by go_simp) ⟨t, x, rfl⟩
/-- unicodeEscape, whatever the bytes. -/
theorem uni_any (F : Interp) (p b o n cap i : Nat) (zs : List Int) (w : World) (hF : F.answers w.tape) (R : Reader w p b o n cap i zs) (hi2 : 2 ≤ i) (hi : i ≤ n) :
    Calls Tryf.prog 21 #[.pointer (some ⟨p, 0, none⟩)] w fun e w' => Done (uniR (zs.drop i)) p i w e w' := by
  cases hx : hex4L (zs.drop i) with
  | none => exact uni_bad F p b o n cap i zs w hF R hi hx
  | some u =>
    have hi4 : i + 4 ≤ n := by
      have hlen := R.hlen
      unfold hex4L at hx
      by_cases h4 : (zs.drop i).length < 4
      · rw [if_pos h4] at hx; cases hx
      · simp at h4; omega
    by_cases hu : u < 55296 ∨ 57343 < u
    · exact uni_bmp p b o n cap i zs u w R hi4 hx hu
    · have hu' : 55296 ≤ u ∧ u ≤ 57343 := by omega
      by_cases h10 : i + 10 ≤ n
      · by_cases z0 : zs.getD (i + 4) 0 = 92
        · by_cases z1 : zs.getD (i + 5) 0 = 117
          · cases hy : hex4L (zs.drop (i + 6)) with
            | none => exact uni_lone4 F p b o n cap i zs u w hF R hi2 hi4 hx hu' h10 z0 z1 hy
            | some lo =>
              by_cases hlo : u ≤ 56319 ∧ 56320 ≤ lo ∧ lo ≤ 57343
              · exact uni_pair p b o n cap i zs u lo w R h10 hx ⟨hu'.1, hlo.1⟩ z0 z1 hy hlo.2
              · exact uni_lone5 F p b o n cap i zs u lo w hF R hi2 hi4 hx hu' h10 z0 z1 hy (by omega)
          · exact uni_lone3 F p b o n cap i zs u w hF R hi2 hi4 hx hu' h10 z0 z1
        · exact uni_lone2 F p b o n cap i zs u w hF R hi2 hi4 hx hu' h10 z0
      · by_cases hc : cap = i + 4
        · exact uni_lone1b F p b o n cap i zs u w hF R hi2 hi4 hx hu' (by omega) (by simpa using hc)
        · exact uni_lone1 F p b o n cap i zs u w hF R hi2 hi4 hx hu' (by omega) hc
end Go.Proofs.Qxb6614687aFmt
