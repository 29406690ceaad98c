import Derived.Test.Qxb6614687aFmtEsc

namespace Go.Proofs.Qxb6614687aFmt
set_option linter.unusedVariables false
open Go.RowKit Go.Extern.Stop Go.Stop Go.Extern
theorem zzReader {w : World} {b o n cap i : Nat} {zs : List Int} (hbw : b < w.heap.size) (hlen : zs.length = n) (hcap : n ≤ cap) (hn : n ≤ 1048576) (cells : ∀ j, j < n → w.cell? ⟨b, o + j, none⟩ = some (.int .u8 (zs.getD j 0))) :
    Reader (w.alloc (.cells #[.slice (some ⟨b, o, none⟩) n cap, .int .i64 i, .int .i64 0, .pointer none, .bool false, .nilIface] 38)) w.heap.size b o n cap i zs := by
  refine ⟨by go_simp, by go_simp, by go_simp, by go_simp, by go_simp, by go_simp, by go_simp, by simp, hbw, hlen, hcap, hn, fun j hj => ?_⟩
  rw [((Below.refl w.heap.size w).alloc (Nat.le_refl _) _).cell (by exact hbw)]
  exact cells j hj
set_option maxHeartbeats 400000 in
theorem zz_any (F : Interp) (b o n cap i : Nat) (zs : List Int) (w : World) (hF : F.answers w.tape) (hbw : b < w.heap.size) (hlen : zs.length = n) (hcap : n ≤ cap) (hn : n ≤ 1048576) (cells : ∀ j, j < n → w.cell? ⟨b, o + j, none⟩ = some (.int .u8 (zs.getD j 0))) (hi : i < n) :
    Calls Tryf.prog 7 #[.slice (some ⟨b, o, none⟩) n cap, .int .i64 i] w fun e w' => ∃ ev, e = .returned (.tuple #[.int .i32 (escR (zs.drop (i + 1))).1, .int .i64 ((i + 1 + (escR (zs.drop (i + 1))).2.1 : Nat) : Int), .bool (escR (zs.drop (i + 1))).2.2.1, ev]) ∧ errIs (escR (zs.drop (i + 1))).2.2.2 ev ∧ Below w.heap.size w w' := by
  have HR : Hid _ := zzReader (i := i) hbw hlen hcap hn cells
  clear cells hlen
  obtain ⟨r, hr⟩ : ∃ r, r = escR (zs.drop (i + 1)) := ⟨_, rfl⟩
  rw [← hr]
  have HE : Hid (r = escR (zs.drop (i + 1))) := hr
  clear hr
  go_enter Tryf.func7, Tryf.ntmps7
  go_wp2_with fail
  refine (esc_any F w.heap.size b o n cap i zs _ (by exact hF) HR.out hi).mono ?_
  rw [← HE.out]
  rintro e w1 ⟨ev, fv, rfl, hev, h1, h5, hfv, hbl⟩
  have HV : Hid (errIs r.2.2.2 ev) := hev
  have HB : Hid (Below w.heap.size w w1) := (((Below.refl _ _).alloc (Nat.le_refl _) _).trans hbl)
  clear hev hbl
  obtain ⟨x, hx⟩ : ∃ x : Int, x = ((i + 1 + r.2.1 : Nat) : Int) := ⟨_, rfl⟩
  rw [← hx] at h1
  have HX : Hid (x = ((i + 1 + r.2.1 : Nat) : Int)) := hx
  clear hx
  cases hf : r.2.2.1 with
  | false =>
    rw [hf] at hfv
    have hfv' : fv = .nilIface := hfv
    subst hfv'
    clear hfv
    have HF' : Hid (r.2.2.1 = false) := hf
    clear hf
    go_wp2
    go_quiet (fail)
    go_wp2
    exact bodyPost_ret (v := .tuple #[.int .i32 r.1, .int .i64 x, .bool false, ev]) (by simp [results, Tryf.results7, go_sem]) rfl ⟨ev, by rw [← HX.out, HF'.out], HV.out, below_drewN HB.out _⟩
  | true =>
    rw [hf] at hfv
    obtain ⟨t, y, rfl⟩ : IsErr fv := hfv
    have HF' : Hid (r.2.2.1 = true) := hf
    clear hf
    go_wp2
    go_quiet (fail)
    go_wp2
    exact bodyPost_ret (v := .tuple #[.int .i32 r.1, .int .i64 x, .bool true, ev]) (by simp [results, Tryf.results7, go_sem]) rfl ⟨ev, by rw [← HX.out, HF'.out], HV.out, below_drewN HB.out _⟩
end Go.Proofs.Qxb6614687aFmt
