/-
  The contracts of (*jsonReader).escape and of ZZescape.
-/
import Derived.Test.Qxb6614687aFmtUni
namespace Go.Proofs.Qxb6614687aFmt
set_option linter.unusedVariables false
open Go.RowKit Go.Extern.Stop Go.Stop Go.Extern
/-- The character of a one-letter escape. -/
def simpleV (b : Int) : Option Int :=
  if b = 34 ∨ b = 92 ∨ b = 47 then some b else if b = 98 then some 8 else if b = 102 then some 12 else if b = 110 then some 10 else if b = 114 then some 13 else if b = 116 then some 9 else none
/-- What is read behind the backslash: the character, how many bytes, whether it is a lone surrogate, whether it is an escape at all. -/
def escR (l : List Int) : Int × Nat × Bool × Bool :=
  if l.length = 0 then (0, 0, false, false)
  else if l.getD 0 0 = 117 then ((uniR (l.drop 1)).1, (uniR (l.drop 1)).2.1 + 1, (uniR (l.drop 1)).2.2.1, (uniR (l.drop 1)).2.2.2)
  else match simpleV (l.getD 0 0) with
    | some c => (c, 1, false, true)
    | none => (0, 0, false, false)
theorem escR_end {l : List Int} (h : l.length = 0) : escR l = (0, 0, false, false) := by unfold escR; rw [if_pos h]
theorem escR_u {l : List Int} (h : l.length ≠ 0) (h0 : l.getD 0 0 = 117) : escR l = ((uniR (l.drop 1)).1, (uniR (l.drop 1)).2.1 + 1, (uniR (l.drop 1)).2.2.1, (uniR (l.drop 1)).2.2.2) := by unfold escR; rw [if_neg h, if_pos h0]
theorem escR_simple {l : List Int} {c : Int} (h : l.length ≠ 0) (h0 : l.getD 0 0 ≠ 117) (hs : simpleV (l.getD 0 0) = some c) : escR l = (c, 1, false, true) := by unfold escR; rw [if_neg h, if_neg h0, hs]
theorem escR_bad {l : List Int} (h : l.length ≠ 0) (h0 : l.getD 0 0 ≠ 117) (hs : simpleV (l.getD 0 0) = none) : escR l = (0, 0, false, false) := by unfold escR; rw [if_neg h, if_neg h0, hs]

theorem Reader.move {w : World} {p b o n cap i i' : Nat} {zs : List Int} (R : Reader w p b o n cap i zs) (v : Int) (hv : v = (i' : Int)) : Reader (w.setCell ⟨p, 1, none⟩ (.int .i64 v)) p b o n cap i' zs := by
  obtain ⟨c0, c1, c3, c4, c5, f1, f5, hp, hb, hlen, hcap, hn, cells⟩ := R
  subst hv
  refine ⟨by go_simp, by go_simp, by go_simp, by go_simp, by go_simp, by go_simp, by go_simp, by simp [World.setCell]; exact hp, hb, hlen, hcap, hn, fun j hj => ?_⟩
  rw [World.cell?_setCell_other _ _ _ _ (by intro h; injection h; omega)]
  exact cells j hj
theorem Reader.drewN {w : World} {p b o n cap i : Nat} {zs : List Int} (R : Reader w p b o n cap i zs) (m : Nat) : Reader (w.drewN m) p b o n cap i zs := ⟨R.c0, R.c1, R.c3, R.c4, R.c5, R.f1, R.f5, R.hp, R.hb, R.hlen, R.hcap, R.hn, R.cells⟩

/-- behind an error: the reader has moved to i + 1 and stays there. -/
theorem done_bad {r : Int × Nat × Bool × Bool} {p b o n cap i m : Nat} {zs : List Int} {w w1 : World} {ev : Value} (hr : r = (0, 0, false, false)) (R : Reader w p b o n cap i zs) (hev : IsErr ev)
    (hbl : Below ((w.setCell ⟨p, 1, none⟩ (.int .i64 ((i : Int) + 1))).drewN m).heap.size ((w.setCell ⟨p, 1, none⟩ (.int .i64 ((i : Int) + 1))).drewN m) w1) :
    Done r p (i + 1) w (.returned (.tuple #[.int .i32 0, ev])) w1 := by
  subst hr
  have R1 := (R.move (i' := i + 1) ((i : Int) + 1) (by omega)).drewN m
  exact ⟨ev, .nilIface, rfl, hev, by rw [hbl.cell R1.hp]; exact R1.c1, by rw [hbl.cell R1.hp]; exact R1.c5, rfl,
    (below_drewN (Below.setCell (p := ⟨p, 1, none⟩) (Below.refl p w) (Nat.le_refl p) _) m).trans (hbl.mono (Nat.le_of_lt R1.hp))⟩
set_option maxHeartbeats 400000 in
theorem esc_end (F : Interp) (p b o n cap i : Nat) (zs : List Int) (w : World) (hF : F.answers w.tape) (R : Reader w p b o n cap i zs) (hi : i + 1 = n) :
    Calls Tryf.prog 14 #[.pointer (some ⟨p, 0, none⟩)] w fun e w' => Done (escR (zs.drop (i + 1))) p (i + 1) w e w' := by
  have R' := R
  obtain ⟨c0, c1, c3, c4, c5, f1, f5, hp, hb, hlen, hcap, hn, cells⟩ := R
  have hub : i ≤ 1048576 := by omega
  have hii : ¬ (i : Int) + 1 < (n : Int) := by omega
  have HZ : Hid (escR (zs.drop (i + 1)) = (0, 0, false, false)) := escR_end (by simp; omega)
  have HR : Hid (Reader w p b o n cap i zs) := R'
  have HI : Hid (i + 1 = n) := hi
  clear cells hlen hi R'
  go_enter Tryf.func14, Tryf.ntmps14
  go_wp2
  go_quiet (fail)
  go_wp2_with fail
  refine (unexp_end F (some ⟨b, o, none⟩) p n cap _ _ (by exact hF) ?_ ?_).mono ?_
  · exact ((HR.out.move (i' := n) ((i : Int) + 1) (by have := HI.out; omega)).drewN _).c0
  · exact ((HR.out.move (i' := n) ((i : Int) + 1) (by have := HI.out; omega)).drewN _).c1
  rintro e w1 ⟨ev, rfl, hev, hbl⟩
  have HV : Hid (IsErr ev) := hev
  have HB : Hid (Below _ _ w1) := hbl
  clear hev hbl
  go_wp2
  go_ret2
  exact done_bad HZ.out HR.out HV.out HB.out
set_option maxHeartbeats 800000 in
theorem esc_bad (F : Interp) (p b o n cap i : Nat) (zs : List Int) (w : World) (hF : F.answers w.tape) (R : Reader w p b o n cap i zs) (hi : i + 1 < n) (h117 : zs.getD (i + 1) 0 ≠ 117) (hs : simpleV (zs.getD (i + 1) 0) = none) :
    Calls Tryf.prog 14 #[.pointer (some ⟨p, 0, none⟩)] w fun e w' => Done (escR (zs.drop (i + 1))) p (i + 1) w e w' := by
  have R' := R
  obtain ⟨c0, c1, c3, c4, c5, f1, f5, hp, hb, hlen, hcap, hn, cells⟩ := R
  have hub : i ≤ 1048576 := by omega
  have hii : (i : Int) + 1 < (n : Int) := by omega
  have hne : ¬ b = p := by omega
  have HZ : Hid (escR (zs.drop (i + 1)) = (0, 0, false, false)) := escR_bad (by simp; omega) (by rw [getD_drop]; exact h117) (by rw [getD_drop]; exact hs)
  have HR : Hid (Reader w p b o n cap i zs) := R'
  obtain ⟨c, hc⟩ : ∃ c, c = zs.getD (i + 1) 0 := ⟨_, rfl⟩
  have k0 : w.cell? ⟨b, o + (i + 1), none⟩ = some (.int .u8 c) := by rw [cells (i + 1) (by omega), hc]
  have e34 : (c == 34) = false := by rw [hc]; simp; intro h; simp [h, simpleV] at hs
  have e92 : (c == 92) = false := by rw [hc]; simp; intro h; simp [h, simpleV] at hs
  have e47 : (c == 47) = false := by rw [hc]; simp; intro h; simp [h, simpleV] at hs
  have e98 : (c == 98) = false := by rw [hc]; simp; intro h; simp [h, simpleV] at hs
  have e102 : (c == 102) = false := by rw [hc]; simp; intro h; simp [h, simpleV] at hs
  have e110 : (c == 110) = false := by rw [hc]; simp; intro h; simp [h, simpleV] at hs
  have e114 : (c == 114) = false := by rw [hc]; simp; intro h; simp [h, simpleV] at hs
  have e116 : (c == 116) = false := by rw [hc]; simp; intro h; simp [h, simpleV] at hs
  have e117 : (c == 117) = false := by rw [hc]; simpa using h117
  clear cells hlen R' hc hs h117
  go_enter Tryf.func14, Tryf.ntmps14
  go_wp2
  go_quiet (fail)
  go_wp2
  go_quiet (fail)
  go_wp2_with fail
  refine (unexp_mid F b o p n cap (i + 1) c _ _ (by exact hF) (by simp [World.setCell]; exact hp) (by simp [World.setCell]; omega) hi hn ?_ ?_ ?_).mono ?_
  · exact ((HR.out.move (i' := i + 1) ((i : Int) + 1) (by omega)).drewN _).c0
  · exact ((HR.out.move (i' := i + 1) ((i : Int) + 1) (by omega)).drewN _).c1
  · go_simp
  rintro e w1 ⟨ev, rfl, hev, hbl⟩
  have HV : Hid (IsErr ev) := hev
  have HB : Hid (Below _ _ w1) := hbl
  clear hev hbl
  go_wp2
  go_ret2
  exact done_bad HZ.out HR.out HV.out HB.out
set_option maxHeartbeats 400000 in
theorem esc_simple_34 (p b o n cap i : Nat) (zs : List Int) (w : World) (R : Reader w p b o n cap i zs) (hi : i + 1 < n) (hz : zs.getD (i + 1) 0 = 34) :
    Calls Tryf.prog 14 #[.pointer (some ⟨p, 0, none⟩)] w fun e w' => Done (escR (zs.drop (i + 1))) p (i + 1) w e w' := by
  have R' := R
  obtain ⟨c0, c1, c3, c4, c5, f1, f5, hp, hb, hlen, hcap, hn, cells⟩ := R
  have hub : i ≤ 1048576 := by omega
  have hii : (i : Int) + 1 < (n : Int) := by omega
  have hne : ¬ b = p := by omega
  have HZ : Hid (escR (zs.drop (i + 1)) = (34, 1, false, true)) := escR_simple (by simp; omega) (by rw [getD_drop]; show zs.getD (i + 1) 0 ≠ _; rw [hz]; decide) (by rw [getD_drop]; show simpleV (zs.getD (i + 1) 0) = _; rw [hz]; decide)
  have k0 : w.cell? ⟨b, o + (i + 1), none⟩ = some (.int .u8 34) := by rw [cells (i + 1) (by omega), hz]
  clear cells hlen R' hz
  go_enter Tryf.func14, Tryf.ntmps14
  go_wp2
  go_quiet (fail)
  go_wp2
  go_quiet (fail)
  go_wp2
  go_ret2
  exact done_fine (k := 1) (x := (i : Int) + 1 + 1) HZ.out (by omega) (Below.setCell (p := ⟨p, 1, none⟩) (below_drewN (Below.setCell (p := ⟨p, 1, none⟩) (Below.refl p w) (Nat.le_refl p) _) _) (Nat.le_refl p) _) (by go_simp) (by go_simp)
set_option maxHeartbeats 400000 in
theorem esc_simple_92 (p b o n cap i : Nat) (zs : List Int) (w : World) (R : Reader w p b o n cap i zs) (hi : i + 1 < n) (hz : zs.getD (i + 1) 0 = 92) :
    Calls Tryf.prog 14 #[.pointer (some ⟨p, 0, none⟩)] w fun e w' => Done (escR (zs.drop (i + 1))) p (i + 1) w e w' := by
  have R' := R
  obtain ⟨c0, c1, c3, c4, c5, f1, f5, hp, hb, hlen, hcap, hn, cells⟩ := R
  have hub : i ≤ 1048576 := by omega
  have hii : (i : Int) + 1 < (n : Int) := by omega
  have hne : ¬ b = p := by omega
  have HZ : Hid (escR (zs.drop (i + 1)) = (92, 1, false, true)) := escR_simple (by simp; omega) (by rw [getD_drop]; show zs.getD (i + 1) 0 ≠ _; rw [hz]; decide) (by rw [getD_drop]; show simpleV (zs.getD (i + 1) 0) = _; rw [hz]; decide)
  have k0 : w.cell? ⟨b, o + (i + 1), none⟩ = some (.int .u8 92) := by rw [cells (i + 1) (by omega), hz]
  clear cells hlen R' hz
  go_enter Tryf.func14, Tryf.ntmps14
  go_wp2
  go_quiet (fail)
  go_wp2
  go_quiet (fail)
  go_wp2
  go_ret2
  exact done_fine (k := 1) (x := (i : Int) + 1 + 1) HZ.out (by omega) (Below.setCell (p := ⟨p, 1, none⟩) (below_drewN (Below.setCell (p := ⟨p, 1, none⟩) (Below.refl p w) (Nat.le_refl p) _) _) (Nat.le_refl p) _) (by go_simp) (by go_simp)
set_option maxHeartbeats 400000 in
theorem esc_simple_47 (p b o n cap i : Nat) (zs : List Int) (w : World) (R : Reader w p b o n cap i zs) (hi : i + 1 < n) (hz : zs.getD (i + 1) 0 = 47) :
    Calls Tryf.prog 14 #[.pointer (some ⟨p, 0, none⟩)] w fun e w' => Done (escR (zs.drop (i + 1))) p (i + 1) w e w' := by
  have R' := R
  obtain ⟨c0, c1, c3, c4, c5, f1, f5, hp, hb, hlen, hcap, hn, cells⟩ := R
  have hub : i ≤ 1048576 := by omega
  have hii : (i : Int) + 1 < (n : Int) := by omega
  have hne : ¬ b = p := by omega
  have HZ : Hid (escR (zs.drop (i + 1)) = (47, 1, false, true)) := escR_simple (by simp; omega) (by rw [getD_drop]; show zs.getD (i + 1) 0 ≠ _; rw [hz]; decide) (by rw [getD_drop]; show simpleV (zs.getD (i + 1) 0) = _; rw [hz]; decide)
  have k0 : w.cell? ⟨b, o + (i + 1), none⟩ = some (.int .u8 47) := by rw [cells (i + 1) (by omega), hz]
  clear cells hlen R' hz
  go_enter Tryf.func14, Tryf.ntmps14
  go_wp2
  go_quiet (fail)
  go_wp2
  go_quiet (fail)
  go_wp2
  go_ret2
  exact done_fine (k := 1) (x := (i : Int) + 1 + 1) HZ.out (by omega) (Below.setCell (p := ⟨p, 1, none⟩) (below_drewN (Below.setCell (p := ⟨p, 1, none⟩) (Below.refl p w) (Nat.le_refl p) _) _) (Nat.le_refl p) _) (by go_simp) (by go_simp)
set_option maxHeartbeats 400000 in
theorem esc_simple_98 (p b o n cap i : Nat) (zs : List Int) (w : World) (R : Reader w p b o n cap i zs) (hi : i + 1 < n) (hz : zs.getD (i + 1) 0 = 98) :
    Calls Tryf.prog 14 #[.pointer (some ⟨p, 0, none⟩)] w fun e w' => Done (escR (zs.drop (i + 1))) p (i + 1) w e w' := by
  have R' := R
  obtain ⟨c0, c1, c3, c4, c5, f1, f5, hp, hb, hlen, hcap, hn, cells⟩ := R
  have hub : i ≤ 1048576 := by omega
  have hii : (i : Int) + 1 < (n : Int) := by omega
  have hne : ¬ b = p := by omega
  have HZ : Hid (escR (zs.drop (i + 1)) = (8, 1, false, true)) := escR_simple (by simp; omega) (by rw [getD_drop]; show zs.getD (i + 1) 0 ≠ _; rw [hz]; decide) (by rw [getD_drop]; show simpleV (zs.getD (i + 1) 0) = _; rw [hz]; decide)
  have k0 : w.cell? ⟨b, o + (i + 1), none⟩ = some (.int .u8 98) := by rw [cells (i + 1) (by omega), hz]
  clear cells hlen R' hz
  go_enter Tryf.func14, Tryf.ntmps14
  go_wp2
  go_quiet (fail)
  go_wp2
  go_quiet (fail)
  go_wp2
  go_ret2
  exact done_fine (k := 1) (x := (i : Int) + 1 + 1) HZ.out (by omega) (Below.setCell (p := ⟨p, 1, none⟩) (below_drewN (Below.setCell (p := ⟨p, 1, none⟩) (Below.refl p w) (Nat.le_refl p) _) _) (Nat.le_refl p) _) (by go_simp) (by go_simp)
set_option maxHeartbeats 400000 in
theorem esc_simple_102 (p b o n cap i : Nat) (zs : List Int) (w : World) (R : Reader w p b o n cap i zs) (hi : i + 1 < n) (hz : zs.getD (i + 1) 0 = 102) :
    Calls Tryf.prog 14 #[.pointer (some ⟨p, 0, none⟩)] w fun e w' => Done (escR (zs.drop (i + 1))) p (i + 1) w e w' := by
  have R' := R
  obtain ⟨c0, c1, c3, c4, c5, f1, f5, hp, hb, hlen, hcap, hn, cells⟩ := R
  have hub : i ≤ 1048576 := by omega
  have hii : (i : Int) + 1 < (n : Int) := by omega
  have hne : ¬ b = p := by omega
  have HZ : Hid (escR (zs.drop (i + 1)) = (12, 1, false, true)) := escR_simple (by simp; omega) (by rw [getD_drop]; show zs.getD (i + 1) 0 ≠ _; rw [hz]; decide) (by rw [getD_drop]; show simpleV (zs.getD (i + 1) 0) = _; rw [hz]; decide)
  have k0 : w.cell? ⟨b, o + (i + 1), none⟩ = some (.int .u8 102) := by rw [cells (i + 1) (by omega), hz]
  clear cells hlen R' hz
  go_enter Tryf.func14, Tryf.ntmps14
  go_wp2
  go_quiet (fail)
  go_wp2
  go_quiet (fail)
  go_wp2
  go_ret2
  exact done_fine (k := 1) (x := (i : Int) + 1 + 1) HZ.out (by omega) (Below.setCell (p := ⟨p, 1, none⟩) (below_drewN (Below.setCell (p := ⟨p, 1, none⟩) (Below.refl p w) (Nat.le_refl p) _) _) (Nat.le_refl p) _) (by go_simp) (by go_simp)
set_option maxHeartbeats 400000 in
theorem esc_simple_110 (p b o n cap i : Nat) (zs : List Int) (w : World) (R : Reader w p b o n cap i zs) (hi : i + 1 < n) (hz : zs.getD (i + 1) 0 = 110) :
    Calls Tryf.prog 14 #[.pointer (some ⟨p, 0, none⟩)] w fun e w' => Done (escR (zs.drop (i + 1))) p (i + 1) w e w' := by
  have R' := R
  obtain ⟨c0, c1, c3, c4, c5, f1, f5, hp, hb, hlen, hcap, hn, cells⟩ := R
  have hub : i ≤ 1048576 := by omega
  have hii : (i : Int) + 1 < (n : Int) := by omega
  have hne : ¬ b = p := by omega
  have HZ : Hid (escR (zs.drop (i + 1)) = (10, 1, false, true)) := escR_simple (by simp; omega) (by rw [getD_drop]; show zs.getD (i + 1) 0 ≠ _; rw [hz]; decide) (by rw [getD_drop]; show simpleV (zs.getD (i + 1) 0) = _; rw [hz]; decide)
  have k0 : w.cell? ⟨b, o + (i + 1), none⟩ = some (.int .u8 110) := by rw [cells (i + 1) (by omega), hz]
  clear cells hlen R' hz
  go_enter Tryf.func14, Tryf.ntmps14
  go_wp2
  go_quiet (fail)
  go_wp2
  go_quiet (fail)
  go_wp2
  go_ret2
  exact done_fine (k := 1) (x := (i : Int) + 1 + 1) HZ.out (by omega) (Below.setCell (p := ⟨p, 1, none⟩) (below_drewN (Below.setCell (p := ⟨p, 1, none⟩) (Below.refl p w) (Nat.le_refl p) _) _) (Nat.le_refl p) _) (by go_simp) (by go_simp)
set_option maxHeartbeats 400000 in
theorem esc_simple_114 (p b o n cap i : Nat) (zs : List Int) (w : World) (R : Reader w p b o n cap i zs) (hi : i + 1 < n) (hz : zs.getD (i + 1) 0 = 114) :
    Calls Tryf.prog 14 #[.pointer (some ⟨p, 0, none⟩)] w fun e w' => Done (escR (zs.drop (i + 1))) p (i + 1) w e w' := by
  have R' := R
  obtain ⟨c0, c1, c3, c4, c5, f1, f5, hp, hb, hlen, hcap, hn, cells⟩ := R
  have hub : i ≤ 1048576 := by omega
  have hii : (i : Int) + 1 < (n : Int) := by omega
  have hne : ¬ b = p := by omega
  have HZ : Hid (escR (zs.drop (i + 1)) = (13, 1, false, true)) := escR_simple (by simp; omega) (by rw [getD_drop]; show zs.getD (i + 1) 0 ≠ _; rw [hz]; decide) (by rw [getD_drop]; show simpleV (zs.getD (i + 1) 0) = _; rw [hz]; decide)
  have k0 : w.cell? ⟨b, o + (i + 1), none⟩ = some (.int .u8 114) := by rw [cells (i + 1) (by omega), hz]
  clear cells hlen R' hz
  go_enter Tryf.func14, Tryf.ntmps14
  go_wp2
  go_quiet (fail)
  go_wp2
  go_quiet (fail)
  go_wp2
  go_ret2
  exact done_fine (k := 1) (x := (i : Int) + 1 + 1) HZ.out (by omega) (Below.setCell (p := ⟨p, 1, none⟩) (below_drewN (Below.setCell (p := ⟨p, 1, none⟩) (Below.refl p w) (Nat.le_refl p) _) _) (Nat.le_refl p) _) (by go_simp) (by go_simp)
set_option maxHeartbeats 400000 in
theorem esc_simple_116 (p b o n cap i : Nat) (zs : List Int) (w : World) (R : Reader w p b o n cap i zs) (hi : i + 1 < n) (hz : zs.getD (i + 1) 0 = 116) :
    Calls Tryf.prog 14 #[.pointer (some ⟨p, 0, none⟩)] w fun e w' => Done (escR (zs.drop (i + 1))) p (i + 1) w e w' := by
  have R' := R
  obtain ⟨c0, c1, c3, c4, c5, f1, f5, hp, hb, hlen, hcap, hn, cells⟩ := R
  have hub : i ≤ 1048576 := by omega
  have hii : (i : Int) + 1 < (n : Int) := by omega
  have hne : ¬ b = p := by omega
  have HZ : Hid (escR (zs.drop (i + 1)) = (9, 1, false, true)) := escR_simple (by simp; omega) (by rw [getD_drop]; show zs.getD (i + 1) 0 ≠ _; rw [hz]; decide) (by rw [getD_drop]; show simpleV (zs.getD (i + 1) 0) = _; rw [hz]; decide)
  have k0 : w.cell? ⟨b, o + (i + 1), none⟩ = some (.int .u8 116) := by rw [cells (i + 1) (by omega), hz]
  clear cells hlen R' hz
  go_enter Tryf.func14, Tryf.ntmps14
  go_wp2
  go_quiet (fail)
  go_wp2
  go_quiet (fail)
  go_wp2
  go_ret2
  exact done_fine (k := 1) (x := (i : Int) + 1 + 1) HZ.out (by omega) (Below.setCell (p := ⟨p, 1, none⟩) (below_drewN (Below.setCell (p := ⟨p, 1, none⟩) (Below.refl p w) (Nat.le_refl p) _) _) (Nat.le_refl p) _) (by go_simp) (by go_simp)
set_option maxHeartbeats 400000 in
theorem esc_u (F : Interp) (p b o n cap i : Nat) (zs : List Int) (w : World) (hF : F.answers w.tape) (R : Reader w p b o n cap i zs) (hi : i + 1 < n) (hz : zs.getD (i + 1) 0 = 117) :
    Calls Tryf.prog 14 #[.pointer (some ⟨p, 0, none⟩)] w fun e w' => Done (escR (zs.drop (i + 1))) p (i + 1) w e w' := by
  have R' := R
  obtain ⟨c0, c1, c3, c4, c5, f1, f5, hp, hb, hlen, hcap, hn, cells⟩ := R
  have hub : i ≤ 1048576 := by omega
  have hii : (i : Int) + 1 < (n : Int) := by omega
  have hne : ¬ b = p := by omega
  have HZ : Hid (escR (zs.drop (i + 1)) = ((uniR (zs.drop (i + 2))).1, (uniR (zs.drop (i + 2))).2.1 + 1, (uniR (zs.drop (i + 2))).2.2.1, (uniR (zs.drop (i + 2))).2.2.2)) := by
    have h := escR_u (l := zs.drop (i + 1)) (by simp; omega) (by rw [getD_drop]; exact hz)
    rw [List.drop_drop] at h
    exact h
  have k0 : w.cell? ⟨b, o + (i + 1), none⟩ = some (.int .u8 117) := by rw [cells (i + 1) (by omega), hz]
  have HR : Hid (Reader w p b o n cap i zs) := R'
  clear cells hlen R' hz
  go_enter Tryf.func14, Tryf.ntmps14
  go_wp2
  go_quiet (fail)
  go_wp2
  go_quiet (fail)
  go_wp2_with fail
  refine (uni_any F p b o n cap (i + 2) zs _ (by exact hF) ?_ (by omega) (by omega)).mono ?_
  · exact ((HR.out.move (i' := i + 1) ((i : Int) + 1) (by omega)).drewN _).move (i' := i + 2) ((i : Int) + 1 + 1) (by omega)
  rintro e w1 ⟨ev, fv, rfl, hev, h1, h5, hfv, hbl⟩
  have HD : Hid (Done (escR (zs.drop (i + 1))) p (i + 1) w (.returned (.tuple #[.int .i32 (uniR (zs.drop (i + 2))).1, ev])) w1) := by
    rw [HZ.out]
    exact ⟨ev, fv, rfl, hev, by rw [h1, show i + 1 + ((uniR (zs.drop (i + 2))).2.1 + 1) = i + 2 + (uniR (zs.drop (i + 2))).2.1 from by omega], h5, hfv,
      (Below.setCell (p := ⟨p, 1, none⟩) (below_drewN (Below.setCell (p := ⟨p, 1, none⟩) (Below.refl p w) (Nat.le_refl p) _) _) (Nat.le_refl p) _).trans hbl⟩
  clear hev h1 h5 hfv hbl
  go_wp2
  go_ret2
  exact HD.out
/-- escape, whatever the bytes behind the backslash at i. -/
theorem esc_any (F : Interp) (p b o n cap i : Nat) (zs : List Int) (w : World) (hF : F.answers w.tape) (R : Reader w p b o n cap i zs) (hi : i < n) :
    Calls Tryf.prog 14 #[.pointer (some ⟨p, 0, none⟩)] w fun e w' => Done (escR (zs.drop (i + 1))) p (i + 1) w e w' := by
  by_cases he : i + 1 = n
  · exact esc_end F p b o n cap i zs w hF R he
  · have hl : i + 1 < n := by omega
    by_cases h117 : zs.getD (i + 1) 0 = 117
    · exact esc_u F p b o n cap i zs w hF R hl h117
    · cases hs : simpleV (zs.getD (i + 1) 0) with
      | none => exact esc_bad F p b o n cap i zs w hF R hl h117 hs
      | some c =>
        have hk : zs.getD (i + 1) 0 = 34 ∨ zs.getD (i + 1) 0 = 92 ∨ zs.getD (i + 1) 0 = 47 ∨ zs.getD (i + 1) 0 = 98 ∨ zs.getD (i + 1) 0 = 102 ∨ zs.getD (i + 1) 0 = 110 ∨ zs.getD (i + 1) 0 = 114 ∨ zs.getD (i + 1) 0 = 116 := by
          unfold simpleV at hs
          split at hs
          · omega
          · split at hs
            · omega
            · split at hs
              · omega
              · split at hs
                · omega
                · split at hs
                  · omega
                  · split at hs
                    · omega
                    · cases hs
        rcases hk with h | h | h | h | h | h | h | h
        · exact esc_simple_34 p b o n cap i zs w R hl h
        · exact esc_simple_92 p b o n cap i zs w R hl h
        · exact esc_simple_47 p b o n cap i zs w R hl h
        · exact esc_simple_98 p b o n cap i zs w R hl h
        · exact esc_simple_102 p b o n cap i zs w R hl h
        · exact esc_simple_110 p b o n cap i zs w R hl h
        · exact esc_simple_114 p b o n cap i zs w R hl h
        · exact esc_simple_116 p b o n cap i zs w R hl h
end Go.Proofs.Qxb6614687aFmt
