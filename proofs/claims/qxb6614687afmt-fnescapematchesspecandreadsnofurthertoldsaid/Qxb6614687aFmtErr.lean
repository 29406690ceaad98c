/-
  Contracts of fmt.Errorf at the three formats, of (*jsonReader).unexpected, fail and record.
-/
import Derived.Test.Qxb6614687aFmtHex
import Derived.Deep.QuietTactic
import Derived.BigQuiet
import Derived.Deep.RegionWith
namespace Go.Proofs.Qxb6614687aFmt
set_option linter.unusedVariables false
open Go.RowKit Go.Extern.Stop Go.Stop Go.Extern
attribute [local go_sem] call31 fmtGuard fmtEnds fmtInvalid fmtLone op9_115w op3_100w op5_113w ptr61 elem61
/-- an error value that is not nil -/
def IsErr (v : Value) : Prop := ∃ t x, v = .iface t x
set_option maxHeartbeats 400000 in
theorem errorf_end (F : Interp) (g : Nat) (s : ByteArray) (w : World) (hF : F.answers w.tape) (c0 : w.cell? ⟨g, 0, none⟩ = some (.iface 9 (.string s))) :
    Calls Tryf.prog 24 #[.string ⟨#[116, 104, 101, 32, 74, 83, 79, 78, 32, 101, 110, 100, 115, 32, 119, 104, 101, 114, 101, 32, 37, 115, 32, 105, 115, 32, 100, 117, 101]⟩, .slice (some ⟨g, 0, none⟩) 1 1] w fun e w' => ∃ ev, e = .returned ev ∧ IsErr ev ∧ Below w.heap.size w w' := by
  have hF' : ∀ i name reading k range, w.tape i (.extern (word name reading k) range) = F name reading k := hF
  go_enter Tryf.func24, Tryf.ntmps24
  go_wp2
  go_ret
  exact ⟨_, rfl, ⟨_, _, rfl⟩, ((Below.refl _ _).alloc (Nat.le_refl _) _).drew⟩
set_option maxHeartbeats 400000 in
theorem errorf_invalid (F : Interp) (g : Nat) (c n : Int) (s : ByteArray) (w : World) (hF : F.answers w.tape) (c0 : w.cell? ⟨g, 0, none⟩ = some (.iface 5 (.int .u8 c))) (c1 : w.cell? ⟨g, 1, none⟩ = some (.iface 3 (.int .i64 n))) (c2 : w.cell? ⟨g, 2, none⟩ = some (.iface 9 (.string s))) :
    Calls Tryf.prog 24 #[.string ⟨#[105, 110, 118, 97, 108, 105, 100, 32, 99, 104, 97, 114, 97, 99, 116, 101, 114, 32, 37, 113, 32, 97, 116, 32, 98, 121, 116, 101, 32, 37, 100, 32, 111, 102, 32, 116, 104, 101, 32, 74, 83, 79, 78, 44, 32, 119, 104, 101, 114, 101, 32, 37, 115, 32, 105, 115, 32, 100, 117, 101]⟩, .slice (some ⟨g, 0, none⟩) 3 3] w fun e w' => ∃ ev, e = .returned ev ∧ IsErr ev ∧ Below w.heap.size w w' := by
  have hF' : ∀ i name reading k range, w.tape i (.extern (word name reading k) range) = F name reading k := hF
  go_enter Tryf.func24, Tryf.ntmps24
  go_wp2
  go_ret
  exact ⟨_, rfl, ⟨_, _, rfl⟩, ((Below.refl _ _).alloc (Nat.le_refl _) _).drew⟩
set_option maxHeartbeats 400000 in
theorem errorf_lone (F : Interp) (g : Nat) (a : Addr) (cap : Nat) (xs : List Int) (w : World) (hF : F.answers w.tape) (c0 : w.cell? ⟨g, 0, none⟩ = some (.iface 22 (.slice (some a) xs.length cap))) (hc : ∀ j v, (xs.map (Value.int .u8))[j]? = some v → w.cell? (a.add j) = some v) :
    Calls Tryf.prog 24 #[.string ⟨#[115, 116, 114, 105, 110, 103, 32, 101, 115, 99, 97, 112, 101, 32, 37, 115, 32, 105, 115, 32, 97, 32, 108, 111, 110, 101, 32, 85, 84, 70, 45, 49, 54, 32, 115, 117, 114, 114, 111, 103, 97, 116, 101, 44, 32, 119, 104, 105, 99, 104, 32, 99, 97, 110, 111, 110, 105, 99, 97, 108, 32, 74, 83, 79, 78, 32, 99, 97, 110, 110, 111, 116, 32, 104, 111, 108, 100]⟩, .slice (some ⟨g, 0, none⟩) 1 1] w fun e w' => ∃ ev, e = .returned ev ∧ IsErr ev ∧ Below w.heap.size w w' := by
  have hF' : ∀ i name reading k range, w.tape i (.extern (word name reading k) range) = F name reading k := hF
  have hop := opBytes_115w "fmt.errorf" a cap xs w hc
  clear hc
  go_enter Tryf.func24, Tryf.ntmps24
  go_wp2
  go_ret
  exact ⟨_, rfl, ⟨_, _, rfl⟩, ((Below.refl _ _).alloc (Nat.le_refl _) _).drew⟩
theorem below_drewN {B : Nat} {a w : World} (h : Below B a w) (n : Nat) : Below B a (w.drewN n) := ⟨h.os, h.tape, h.output, h.size, h.block⟩
theorem below_dal {w w1 : World} {n : Nat} {o : Obj} (hb : Below ((w.drewN n).alloc o).heap.size ((w.drewN n).alloc o) w1) : Below w.heap.size w w1 :=
  ((below_drewN (Below.refl w.heap.size w) n).alloc (Nat.le_refl _) o).trans (hb.mono (by simp))
theorem cell_new {w : World} {n k : Nat} {xs : Array Value} {t : TypeId} {v : Value} (h : xs[k]? = some v) : ((w.drewN n).alloc (.cells xs t)).cell? ⟨w.heap.size, k, none⟩ = some v := by
  show ((w.alloc (.cells xs t)).drewN n).cell? _ = _
  go_simp
set_option maxHeartbeats 400000 in
theorem unexp_end (F : Interp) (sl : Option Addr) (p n cap : Nat) (s : ByteArray) (w : World) (hF : F.answers w.tape) (c0 : w.cell? ⟨p, 0, none⟩ = some (.slice sl n cap)) (c1 : w.cell? ⟨p, 1, none⟩ = some (.int .i64 n)) :
    Calls Tryf.prog 22 #[.pointer (some ⟨p, 0, none⟩), .string s] w fun e w' => ∃ ev, e = .returned ev ∧ IsErr ev ∧ Below w.heap.size w w' := by
  go_enter Tryf.func22, Tryf.ntmps22
  go_wp2
  go_quiet (fail)
  go_wp2_with (go_at_call 24; refine (errorf_end F _ s _ ?_ ?_).mono ?_)
  case _ => exact hF
  case _ => exact cell_new rfl
  rintro e w1 ⟨ev, rfl, hev, hb⟩
  have HV : Hid (IsErr ev) := hev
  have HB : Hid (Below w.heap.size w w1) := below_dal hb
  clear hev hb
  go_wp2
  go_ret
  exact ⟨_, rfl, HV.out, HB.out⟩
set_option maxHeartbeats 800000 in
theorem unexp_mid (F : Interp) (b o p n cap i : Nat) (c : Int) (s : ByteArray) (w : World) (hF : F.answers w.tape) (hp : p < w.heap.size) (hbw : b < w.heap.size) (hi : i < n) (hn : n ≤ 1048576) (c0 : w.cell? ⟨p, 0, none⟩ = some (.slice (some ⟨b, o, none⟩) n cap)) (c1 : w.cell? ⟨p, 1, none⟩ = some (.int .i64 i)) (cc : w.cell? ⟨b, o + i, none⟩ = some (.int .u8 c)) :
    Calls Tryf.prog 22 #[.pointer (some ⟨p, 0, none⟩), .string s] w fun e w' => ∃ ev, e = .returned ev ∧ IsErr ev ∧ Below w.heap.size w w' := by
  have hne : ((i : Int) == (n : Int)) = false := by simp; omega
  have hii : (i : Int) < (n : Int) := by omega
  go_enter Tryf.func22, Tryf.ntmps22
  go_wp2
  go_quiet (fail)
  go_wp2
  go_region_with (go_at_call 24; refine (errorf_invalid F _ c _ s _ (by exact hF) (by exact cell_new rfl) (by exact cell_new rfl) (by exact cell_new rfl)).mono ?_; rintro e w1 ⟨ev, rfl, hev, hb⟩; have HV : Hid (IsErr ev) := hev; have HB : Hid (Below w.heap.size w w1) := below_dal hb; clear hev hb)
  all_goals
    go_wp2
    go_ret
    exact ⟨_, rfl, HV.out, HB.out⟩

set_option maxHeartbeats 400000 in
/-- fail, at a reader without a writer that judges everything, and that holds no error yet: the error is kept. -/
theorem fail_any (p : Nat) (t : TypeId) (x : Value) (w : World) (c3 : w.cell? ⟨p, 3, none⟩ = some (.pointer none)) (c4 : w.cell? ⟨p, 4, none⟩ = some (.bool false)) (c5 : w.cell? ⟨p, 5, none⟩ = some .nilIface) (f5 : w.frozen? ⟨p, 5, none⟩ = false) :
    Calls Tryf.prog 30 #[.pointer (some ⟨p, 0, none⟩), .iface t x] w fun e w' => e = .returned (.tuple #[]) ∧ w' = w.setCell ⟨p, 5, none⟩ (.iface t x) := by
  go_enter Tryf.func30, Tryf.ntmps30
  go_wp2
  go_end0
  go_wp2
  go_end0
  exact ⟨rfl, rfl⟩
end Go.Proofs.Qxb6614687aFmt
