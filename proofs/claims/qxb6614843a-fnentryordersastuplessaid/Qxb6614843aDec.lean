/-
  The walk of FnEntryDecodesToSelectedValues.
-/
import Derived.Test.Qxb6614843aFill
namespace Go.Proofs.Qxb6614843a
set_option linter.unusedVariables false
open Go.RowKit
theorem sumN_mono (f g : Nat → Nat) (h : ∀ j, f j ≤ g j) : ∀ k, sumN f k ≤ sumN g k
  | 0 => Nat.le_refl _
  | k + 1 => Nat.add_le_add (sumN_mono f g h k) (h k)
theorem encAll_split (E : Nat → List Int) (ks : Nat → Int) : ∀ (K m : Nat), m < K → ∃ rest, encAll E ks K = encAll E ks m ++ (E (ks m).toNat ++ rest)
  | 0, m, h => by omega
  | K + 1, m, h => by
    by_cases e : m = K
    · subst e; exact ⟨[], by simp [encAll]⟩
    · obtain ⟨r, hr⟩ := encAll_split E ks K m (by omega)
      exact ⟨r ++ E (ks K).toNat, by simp [encAll, hr]⟩
def flag (M : Nat) (fs : Nat → Bool) (i : Nat) : Bool := decide (i < M) && fs i
def fT (M : Nat) (fs : Nat → Bool) (i : Nat) : Int := if flag M fs i = true then 0 else 1
def fS (M : Nat) (fs : Nat → Bool) (S : Nat → Option Addr) (i : Nat) : Option Addr := if flag M fs i = true then none else S i
def fL (M : Nat) (fs : Nat → Bool) (L : Nat → Nat) (i : Nat) : Nat := if flag M fs i = true then 0 else L i
def fE (M : Nat) (fs : Nat → Bool) (B : Nat → List Int) (i : Nat) : List Int := if flag M fs i = true then encZ else encB (B i)
theorem fL_le (M : Nat) (fs : Nat → Bool) (L : Nat → Nat) (i : Nat) : fL M fs L i ≤ L i := by unfold fL; split <;> omega
theorem flag_yes {M : Nat} {fs : Nat → Bool} {i : Nat} (h1 : i < M) (h2 : fs i = true) : flag M fs i = true := by simp [flag, h1, h2]
theorem flag_no {M : Nat} {fs : Nat → Bool} {i : Nat} (h : ¬ (i < M ∧ fs i = true)) : ¬ flag M fs i = true := by simpa [flag] using h
theorem fRow {w : World} {g N M : Nat} {fs : Nat → Bool} {a : Option Addr} {S : Nat → Option Addr} {L C : Nat → Nat} {B : Nat → List Int} (h : Under w g N N (fT M fs) (fS M fs S) (fL M fs L) (fL M fs C)) (hc : Cols w a N S L C B) : RowV w (some ⟨g, 0, none⟩) N (fT M fs) (fS M fs S) (fL M fs L) (fL M fs C) (fE M fs B) :=
  Under.row h fun i hi => by
    by_cases e : flag M fs i = true
    · left; unfold fT fS fL fE; simp [e]
    · right; unfold fT fS fL fE; simp [e]; exact ⟨_, hc.each i hi, rfl⟩
def Law7Said (w : World) (e : Ending) (w' : World) : Prop := e = .returned (.bool true) ∧ Below w.heap.size w w'
set_option maxRecDepth 100000 in
set_option maxHeartbeats 1600000 in
theorem law7 (ka a ia : Option Addr) (K kcap N cap M icap : Nat) (ks : Nat → Int) (S : Nat → Option Addr) (L C : Nat → Nat) (B : Nat → List Int) (fs : Nat → Bool) (w : World) (hK : K ≤ 9223372036854775807) (hN : N ≤ 9223372036854775807) (hM : M ≤ 9223372036854775807) (hk : Keys w ka K ks) (hc : Cols w a N S L C B) (hf : Flags w ia M fs) :
    Calls Try.prog 6 #[.slice ka K kcap, .slice a N cap, .slice ia M icap] w fun e w' => Law7Said w e w' := by
  have HK : Hid (Keys w ka K ks) := hk
  have HC : Hid (Cols w a N S L C B) := hc
  have HF : Hid (Flags w ia M fs) := hf
  clear hk hc hf
  go_enter Try.func6, Try.ntmps6
  go_wp2_with (go_at_call 18; refine (zz18_any ka a ia K kcap N cap M icap S L C B w hK hN hM HC.out).mono ?_; rintro e w1 ⟨ok, rfl, rfl, hzz⟩)
  · go_ret
    exact ⟨rfl, Below.refl _ _⟩
  · go_ret
    exact ⟨rfl, Below.refl _ _⟩
  · go_ret
    exact ⟨rfl, Below.refl _ _⟩
  · go_ret
    exact ⟨rfl, Below.refl _ _⟩
  have hok : ok = true := by have h : (!ok) = false := by assumption
                             simpa using h
  have HZ : Hid (∀ j, j < N → L j ≤ 1048576) := (hzz hok).2.2.2
  have hK6 : K ≤ 65536 := by omega
  have hN6 : N ≤ 65536 := by omega
  have hM6 : M ≤ 65536 := by omega
  clear hzz hok hK hN hM
  refine (sizes_any (8 * (K : Int) + (M : Int)) a N cap S L C B _ (by omega) (by omega) (by omega) HC.out HZ.out).mono ?_
  rintro e w2 ⟨r2, ok2, rfl, rfl, hr20, hr24, hsz⟩
  clear hsz
  go_wp2_with fail
  · go_ret
    exact ⟨rfl, Below.refl _ _⟩
  refine (fits_any ka a K kcap N cap ks S L C B _ (by omega) (by omega) HK.out HC.out HZ.out).mono ?_
  rintro e w3 ⟨ok3, rfl, rfl, hfit⟩
  have hok2 : ok2 = true := by have h : (!ok2) = false := by assumption
                               simpa using h
  subst hok2
  cases ok3 with
  | false =>
    go_wp2
    go_ret
    exact ⟨rfl, Below.refl _ _⟩
  | true =>
  obtain ⟨hin, hsum⟩ := hfit rfl
  have HI : Hid (∀ j, j < K → 0 ≤ ks j ∧ ks j < N) := hin
  have HS : Hid (sumN (need (fL M fs L) ks) K ≤ 1048576) := Nat.le_trans (sumN_mono _ _ (fun j => by unfold need; have := fL_le M fs L (ks j).toNat; omega) K) hsum
  clear hfit hin hsum
  cases ka with
  | none =>
    obtain ⟨w4, hw4⟩ : ∃ w4, w4 = w3.alloc (.cells (madeCells #[.int .u8 0, .int .i64 0, .slice none 0 0] (N * 3)) 46) := ⟨_, rfl⟩
    have hmk := make_row w3 N hN6
    rw [← hw4] at hmk
    have HW4 : Hid (w4 = w3.alloc (.cells (madeCells #[.int .u8 0, .int .i64 0, .slice none 0 0] (N * 3)) 46)) := hw4
    clear hw4
    have HK0 : Hid (K = 0) := by
      show K = 0
      by_cases e : 0 < K
      · obtain ⟨b9, o9, e9, _⟩ := HK.out e
        cases e9
      · omega
    have HKb : Hid (Keys w3 Option.none K ks) := HK.out
    have HBb : Hid (Below w3.heap.size w3 w3) := Below.refl _ _
    have HCb : Hid (Cols w3 a N S L C B) := HC.out.below HBb.out
    have HFb : Hid (Flags w3 ia M fs) := HF.out.below HBb.out
    have hbs : w3.heap.size ≤ w3.heap.size := HBb.out.size
    go_wp2
    go_loopw [11] (fun i wr => ∃ k : Nat, k ≤ N ∧ i = .int .i64 k ∧ Under wr w3.heap.size N k (fT M fs) (fS M fs S) (fL M fs L) (fL M fs C) ∧ Below w3.heap.size w3 wr) (fun i _ => N - (intOf i).toNat)
    case atStart =>
      refine ⟨0, Nat.zero_le _, rfl, ⟨madeCells #[.int .u8 0, .int .i64 0, .slice none 0 0] (N * 3), ?_, size_madeCells _ _, fun i hi => by omega⟩, ?_⟩
      · rw [HW4.out]; show (w3.heap.push _)[w3.heap.size]? = _; simp
      · rw [HW4.out]; exact (Below.refl _ _).alloc (Nat.le_refl _) _
    case round =>
    obtain ⟨k, hk, rfl, hu, hb⟩ := hrel
    by_cases hlt : k < N
    · obtain ⟨b, o, hA, hbw, cells⟩ := HCb.out.row (by omega)
      subst hA
      have kc : wr.cell? ⟨b, o + k, none⟩ = some (.slice (S k) (L k) (C k)) := by rw [hb.cell (by exact hbw)]; exact cells k hlt
      have hki : (k : Int) < (N : Int) := by omega
      obtain ⟨cur, hcur, hsz, hvals⟩ := hu
      have HV : Hid (∀ i, i < k → cur[i * 3]? = some (.int .u8 (fT M fs i)) ∧ cur[i * 3 + 1]? = some (.int .i64 0) ∧ cur[i * 3 + 2]? = some (.slice (fS M fs S i) (fL M fs L i) (fL M fs C i))) := hvals
      have HB : Hid (Below w3.heap.size w3 wr) := hb
      have hgw : w3.heap.size < wr.heap.size := (Array.getElem?_eq_some_iff.1 hcur).1
      obtain ⟨x0, k0⟩ : ∃ x0, wr.cell? ⟨w3.heap.size, k * 3, none⟩ = some x0 := ⟨_, by rw [heap_cell hcur]; exact Array.getElem?_eq_getElem (by omega)⟩
      obtain ⟨x1, k1⟩ : ∃ x1, wr.cell? ⟨w3.heap.size, k * 3 + 1, none⟩ = some x1 := ⟨_, by rw [heap_cell hcur]; exact Array.getElem?_eq_getElem (by omega)⟩
      obtain ⟨x2, k2⟩ : ∃ x2, wr.cell? ⟨w3.heap.size, k * 3 + 2, none⟩ = some x2 := ⟨_, by rw [heap_cell hcur]; exact Array.getElem?_eq_getElem (by omega)⟩
      have f0 := heap_thawed hcur (k * 3)
      have f1 := heap_thawed hcur (k * 3 + 1)
      have f2 := heap_thawed hcur (k * 3 + 2)
      have HH : Hid (wr.heap[w3.heap.size]? = some (.cells cur 46 (0, 0))) := hcur
      have HLay : Hid _ := Under.lay (T := fT M fs) (S := fS M fs S) (L := fL M fs L) (C := fL M fs C) HH.out hsz HV.out hlt
      have HBel : Hid (∀ u0 u1 u2, Below w3.heap.size w3 (((wr.setCell ⟨w3.heap.size, k * 3, none⟩ u0).setCell ⟨w3.heap.size, k * 3 + 1, none⟩ u1).setCell ⟨w3.heap.size, k * 3 + 2, none⟩ u2)) :=
        fun u0 u1 u2 => ((HB.out.setCell (p := ⟨w3.heap.size, k * 3, none⟩) (Nat.le_refl _) u0).setCell (p := ⟨w3.heap.size, k * 3 + 1, none⟩) (Nat.le_refl _) u1).setCell (p := ⟨w3.heap.size, k * 3 + 2, none⟩) (Nat.le_refl _) u2
      have HFc : Hid (k < M → ∃ b3 o3, ia = some ⟨b3, o3, none⟩ ∧ wr.cell? ⟨b3, o3 + k, none⟩ = some (.bool (fs k)) ∧ b3 < w3.heap.size) := by
        intro hm
        obtain ⟨b3, o3, e3, hb3, c3⟩ := HFb.out (by omega)
        exact ⟨b3, o3, e3, by rw [hb.cell (by exact hb3)]; exact c3 k hm, hb3⟩
      clear cells hvals hb hcur
      by_cases hm : k < M
      · obtain ⟨b3, o3, e3, kf, hb3⟩ := HFc.out hm
        subst e3
        have hmi : (k : Int) < (M : Int) := by omega
        cases hfk : fs k with
        | true =>
          rw [hfk] at kf
          have HFl : Hid (flag M fs k = true) := flag_yes hm hfk
          clear hfk HFc
          go_wp2
          go_roundw
          case rel =>
            refine ⟨k + 1, by omega, by go_num, ?_, ?_⟩
            · have h := HLay.out
              have e1 : fT M fs k = 0 := by unfold fT; rw [if_pos HFl.out]
              have e2 : fS M fs S k = Option.none := by unfold fS; rw [if_pos HFl.out]
              have e3 : fL M fs L k = 0 := by unfold fL; rw [if_pos HFl.out]
              have e4 : fL M fs C k = 0 := by unfold fL; rw [if_pos HFl.out]
              rw [e1, e2, e3, e4] at h
              exact h
            · exact HBel.out _ _ _
          case measure => simp [intOf]; omega
        | false =>
          rw [hfk] at kf
          have HFl : Hid (¬ flag M fs k = true) := flag_no (by rw [hfk]; simp)
          clear hfk HFc
          go_wp2_with (go_at_call 21; refine (bytes21 _ _ _ _).mono ?_; rintro e w2 ⟨rfl, rfl⟩)
          go_roundw
          case rel =>
            refine ⟨k + 1, by omega, by go_num, ?_, ?_⟩
            · have h := HLay.out
              have e1 : fT M fs k = 1 := by unfold fT; rw [if_neg HFl.out]
              have e2 : fS M fs S k = S k := by unfold fS; rw [if_neg HFl.out]
              have e3 : fL M fs L k = L k := by unfold fL; rw [if_neg HFl.out]
              have e4 : fL M fs C k = C k := by unfold fL; rw [if_neg HFl.out]
              rw [e1, e2, e3, e4] at h
              exact Under.alloc h _
            · exact (HBel.out _ _ _).alloc (by simp [World.setCell]; omega) _
          case measure => simp [intOf]; omega
      · have hmi : (M : Int) ≤ (k : Int) := by omega
        have HFl : Hid (¬ flag M fs k = true) := flag_no (by omega)
        clear HFc
        go_wp2_with (go_at_call 21; refine (bytes21 _ _ _ _).mono ?_; rintro e w2 ⟨rfl, rfl⟩)
        go_roundw
        case rel =>
          refine ⟨k + 1, by omega, by go_num, ?_, ?_⟩
          · have h := HLay.out
            have e1 : fT M fs k = 1 := by unfold fT; rw [if_neg HFl.out]
            have e2 : fS M fs S k = S k := by unfold fS; rw [if_neg HFl.out]
            have e3 : fL M fs L k = L k := by unfold fL; rw [if_neg HFl.out]
            have e4 : fL M fs C k = C k := by unfold fL; rw [if_neg HFl.out]
            rw [e1, e2, e3, e4] at h
            exact Under.alloc h _
          · exact (HBel.out _ _ _).alloc (by simp [World.setCell]; omega) _
        case measure => simp [intOf]; omega
    · obtain rfl : k = N := by omega
      clear hlt hk
      have HRow : Hid (RowV wr (some ⟨w3.heap.size, 0, none⟩) k (fT M fs) (fS M fs S) (fL M fs L) (fL M fs C) (fE M fs B)) := fRow hu (HCb.out.below hb)
      have HKr : Hid (Keys wr Option.none K ks) := HKb.out.below hb
      have HCr : Hid (Cols wr a k S L C B) := HCb.out.below hb
      have HFr : Hid (Flags wr ia M fs) := HFb.out.below hb
      have HBr : Hid (Below w3.heap.size w3 wr) := HBb.out.trans (hb.mono hbs)
      have hsr : w3.heap.size ≤ wr.heap.size := HBr.out.size
      clear hu hb
      go_wp2_with (go_at_call 22; refine (zzentry_any K kcap k k Option.none _ ks _ _ _ _ _ _ hK6 hN6 HKr.out HI.out HRow.out HS.out).mono ?_; rintro e w5 ⟨v5, rfl, ho5, hb5⟩; obtain ⟨A5, c5, n5, rfl, hby⟩ : ∃ A5 c5 n5, v5 = .slice A5 n5 c5 ∧ Bytes w5 A5 n5 (encAll (fE M fs B) ks K) := (let ⟨A, c, e, h⟩ := ho5.bytes; ⟨A, c, _, e, h⟩); have HBy : Hid (Bytes w5 A5 n5 (encAll (fE M fs B) ks K)) := hby; have HB5 : Hid (Below wr.heap.size wr w5) := hb5; clear hby hb5 ho5)
      have hnl : n5 ≤ 1048576 := by
        have h1 := encAll_len HRow.out ks K HI.out K (Nat.le_refl _)
        have h2 := HS.out
        have h3 := HBy.out.1
        omega
      have HBw : Hid (Below w3.heap.size w3 w5) := HBr.out.trans (HB5.out.mono hsr)
      go_loop [13, 14] (fun q j => ∃ m : Nat, m ≤ K ∧ j = .int .i64 m ∧ q = .int .i64 (((encAll (fE M fs B) ks m).length : Nat) : Int)) (fun _ j => K - (intOf j).toNat)
      case atStart => exact ⟨0, Nat.zero_le _, rfl, rfl⟩
      case round =>
      obtain ⟨m, hm, rfl, rfl⟩ := hrel
      obtain ⟨P, hP⟩ : ∃ P, P = (encAll (fE M fs B) ks m).length := ⟨_, rfl⟩
      rw [← hP]
      have HP : Hid (P = (encAll (fE M fs B) ks m).length) := hP
      clear hP
      by_cases hlt : m < K
      · exact absurd hlt (by have := HK0.out; omega)
      · obtain rfl : m = K := by omega
        have hPn : P = n5 := by have := HP.out; have := HBy.out.1; omega
        subst hPn
        clear hlt hm
        go_wp2
        go_ret
        exact ⟨by simp, HBw.out⟩
  | some kad =>
    obtain ⟨wa, wb, hma, hcp, hkb, hbb, hsb⟩ := key_copy w3 (some kad) K kcap ks HK.out hK6
    obtain ⟨w4, hw4⟩ : ∃ w4, w4 = wb.alloc (.cells (madeCells #[.int .u8 0, .int .i64 0, .slice none 0 0] (N * 3)) 46) := ⟨_, rfl⟩
    have hmk := make_row wb N hN6
    rw [← hw4] at hmk
    have HW4 : Hid (w4 = wb.alloc (.cells (madeCells #[.int .u8 0, .int .i64 0, .slice none 0 0] (N * 3)) 46)) := hw4
    have HKb : Hid (Keys wb (some ⟨w3.heap.size, 0, none⟩) K ks) := hkb
    have HBb : Hid (Below w3.heap.size w3 wb) := hbb
    clear hw4 hkb hbb
    have HCb : Hid (Cols wb a N S L C B) := HC.out.below HBb.out
    have HFb : Hid (Flags wb ia M fs) := HF.out.below HBb.out
    have hbs : w3.heap.size ≤ wb.heap.size := HBb.out.size
    go_wp2
    go_loopw [11] (fun i wr => ∃ k : Nat, k ≤ N ∧ i = .int .i64 k ∧ Under wr wb.heap.size N k (fT M fs) (fS M fs S) (fL M fs L) (fL M fs C) ∧ Below wb.heap.size wb wr) (fun i _ => N - (intOf i).toNat)
    case atStart =>
      refine ⟨0, Nat.zero_le _, rfl, ⟨madeCells #[.int .u8 0, .int .i64 0, .slice none 0 0] (N * 3), ?_, size_madeCells _ _, fun i hi => by omega⟩, ?_⟩
      · rw [HW4.out]; show (wb.heap.push _)[wb.heap.size]? = _; simp
      · rw [HW4.out]; exact (Below.refl _ _).alloc (Nat.le_refl _) _
    case round =>
    obtain ⟨k, hk, rfl, hu, hb⟩ := hrel
    by_cases hlt : k < N
    · obtain ⟨b, o, hA, hbw, cells⟩ := HCb.out.row (by omega)
      subst hA
      have kc : wr.cell? ⟨b, o + k, none⟩ = some (.slice (S k) (L k) (C k)) := by rw [hb.cell (by exact hbw)]; exact cells k hlt
      have hki : (k : Int) < (N : Int) := by omega
      obtain ⟨cur, hcur, hsz, hvals⟩ := hu
      have HV : Hid (∀ i, i < k → cur[i * 3]? = some (.int .u8 (fT M fs i)) ∧ cur[i * 3 + 1]? = some (.int .i64 0) ∧ cur[i * 3 + 2]? = some (.slice (fS M fs S i) (fL M fs L i) (fL M fs C i))) := hvals
      have HB : Hid (Below wb.heap.size wb wr) := hb
      have hgw : wb.heap.size < wr.heap.size := (Array.getElem?_eq_some_iff.1 hcur).1
      obtain ⟨x0, k0⟩ : ∃ x0, wr.cell? ⟨wb.heap.size, k * 3, none⟩ = some x0 := ⟨_, by rw [heap_cell hcur]; exact Array.getElem?_eq_getElem (by omega)⟩
      obtain ⟨x1, k1⟩ : ∃ x1, wr.cell? ⟨wb.heap.size, k * 3 + 1, none⟩ = some x1 := ⟨_, by rw [heap_cell hcur]; exact Array.getElem?_eq_getElem (by omega)⟩
      obtain ⟨x2, k2⟩ : ∃ x2, wr.cell? ⟨wb.heap.size, k * 3 + 2, none⟩ = some x2 := ⟨_, by rw [heap_cell hcur]; exact Array.getElem?_eq_getElem (by omega)⟩
      have f0 := heap_thawed hcur (k * 3)
      have f1 := heap_thawed hcur (k * 3 + 1)
      have f2 := heap_thawed hcur (k * 3 + 2)
      have HH : Hid (wr.heap[wb.heap.size]? = some (.cells cur 46 (0, 0))) := hcur
      have HLay : Hid _ := Under.lay (T := fT M fs) (S := fS M fs S) (L := fL M fs L) (C := fL M fs C) HH.out hsz HV.out hlt
      have HBel : Hid (∀ u0 u1 u2, Below wb.heap.size wb (((wr.setCell ⟨wb.heap.size, k * 3, none⟩ u0).setCell ⟨wb.heap.size, k * 3 + 1, none⟩ u1).setCell ⟨wb.heap.size, k * 3 + 2, none⟩ u2)) :=
        fun u0 u1 u2 => ((HB.out.setCell (p := ⟨wb.heap.size, k * 3, none⟩) (Nat.le_refl _) u0).setCell (p := ⟨wb.heap.size, k * 3 + 1, none⟩) (Nat.le_refl _) u1).setCell (p := ⟨wb.heap.size, k * 3 + 2, none⟩) (Nat.le_refl _) u2
      have HFc : Hid (k < M → ∃ b3 o3, ia = some ⟨b3, o3, none⟩ ∧ wr.cell? ⟨b3, o3 + k, none⟩ = some (.bool (fs k)) ∧ b3 < wb.heap.size) := by
        intro hm
        obtain ⟨b3, o3, e3, hb3, c3⟩ := HFb.out (by omega)
        exact ⟨b3, o3, e3, by rw [hb.cell (by exact hb3)]; exact c3 k hm, hb3⟩
      clear cells hvals hb hcur
      by_cases hm : k < M
      · obtain ⟨b3, o3, e3, kf, hb3⟩ := HFc.out hm
        subst e3
        have hmi : (k : Int) < (M : Int) := by omega
        cases hfk : fs k with
        | true =>
          rw [hfk] at kf
          have HFl : Hid (flag M fs k = true) := flag_yes hm hfk
          clear hfk HFc
          go_wp2
          go_roundw
          case rel =>
            refine ⟨k + 1, by omega, by go_num, ?_, ?_⟩
            · have h := HLay.out
              have e1 : fT M fs k = 0 := by unfold fT; rw [if_pos HFl.out]
              have e2 : fS M fs S k = Option.none := by unfold fS; rw [if_pos HFl.out]
              have e3 : fL M fs L k = 0 := by unfold fL; rw [if_pos HFl.out]
              have e4 : fL M fs C k = 0 := by unfold fL; rw [if_pos HFl.out]
              rw [e1, e2, e3, e4] at h
              exact h
            · exact HBel.out _ _ _
          case measure => simp [intOf]; omega
        | false =>
          rw [hfk] at kf
          have HFl : Hid (¬ flag M fs k = true) := flag_no (by rw [hfk]; simp)
          clear hfk HFc
          go_wp2_with (go_at_call 21; refine (bytes21 _ _ _ _).mono ?_; rintro e w2 ⟨rfl, rfl⟩)
          go_roundw
          case rel =>
            refine ⟨k + 1, by omega, by go_num, ?_, ?_⟩
            · have h := HLay.out
              have e1 : fT M fs k = 1 := by unfold fT; rw [if_neg HFl.out]
              have e2 : fS M fs S k = S k := by unfold fS; rw [if_neg HFl.out]
              have e3 : fL M fs L k = L k := by unfold fL; rw [if_neg HFl.out]
              have e4 : fL M fs C k = C k := by unfold fL; rw [if_neg HFl.out]
              rw [e1, e2, e3, e4] at h
              exact Under.alloc h _
            · exact (HBel.out _ _ _).alloc (by simp [World.setCell]; omega) _
          case measure => simp [intOf]; omega
      · have hmi : (M : Int) ≤ (k : Int) := by omega
        have HFl : Hid (¬ flag M fs k = true) := flag_no (by omega)
        clear HFc
        go_wp2_with (go_at_call 21; refine (bytes21 _ _ _ _).mono ?_; rintro e w2 ⟨rfl, rfl⟩)
        go_roundw
        case rel =>
          refine ⟨k + 1, by omega, by go_num, ?_, ?_⟩
          · have h := HLay.out
            have e1 : fT M fs k = 1 := by unfold fT; rw [if_neg HFl.out]
            have e2 : fS M fs S k = S k := by unfold fS; rw [if_neg HFl.out]
            have e3 : fL M fs L k = L k := by unfold fL; rw [if_neg HFl.out]
            have e4 : fL M fs C k = C k := by unfold fL; rw [if_neg HFl.out]
            rw [e1, e2, e3, e4] at h
            exact Under.alloc h _
          · exact (HBel.out _ _ _).alloc (by simp [World.setCell]; omega) _
        case measure => simp [intOf]; omega
    · obtain rfl : k = N := by omega
      clear hlt hk
      have HRow : Hid (RowV wr (some ⟨wb.heap.size, 0, none⟩) k (fT M fs) (fS M fs S) (fL M fs L) (fL M fs C) (fE M fs B)) := fRow hu (HCb.out.below hb)
      have HKr : Hid (Keys wr (some ⟨w3.heap.size, 0, none⟩) K ks) := HKb.out.below hb
      have HCr : Hid (Cols wr a k S L C B) := HCb.out.below hb
      have HFr : Hid (Flags wr ia M fs) := HFb.out.below hb
      have HBr : Hid (Below w3.heap.size w3 wr) := HBb.out.trans (hb.mono hbs)
      have hsr : w3.heap.size ≤ wr.heap.size := HBr.out.size
      clear hu hb
      go_wp2_with (go_at_call 22; refine (zzentry_any K K k k (some ⟨w3.heap.size, 0, none⟩) _ ks _ _ _ _ _ _ hK6 hN6 HKr.out HI.out HRow.out HS.out).mono ?_; rintro e w5 ⟨v5, rfl, ho5, hb5⟩; obtain ⟨A5, c5, n5, rfl, hby⟩ : ∃ A5 c5 n5, v5 = .slice A5 n5 c5 ∧ Bytes w5 A5 n5 (encAll (fE M fs B) ks K) := (let ⟨A, c, e, h⟩ := ho5.bytes; ⟨A, c, _, e, h⟩); have HBy : Hid (Bytes w5 A5 n5 (encAll (fE M fs B) ks K)) := hby; have HB5 : Hid (Below wr.heap.size wr w5) := hb5; clear hby hb5 ho5)
      have hnl : n5 ≤ 1048576 := by
        have h1 := encAll_len HRow.out ks K HI.out K (Nat.le_refl _)
        have h2 := HS.out
        have h3 := HBy.out.1
        omega
      have HBw : Hid (Below w3.heap.size w3 w5) := HBr.out.trans (HB5.out.mono hsr)
      go_loop [13, 14] (fun q j => ∃ m : Nat, m ≤ K ∧ j = .int .i64 m ∧ q = .int .i64 (((encAll (fE M fs B) ks m).length : Nat) : Int)) (fun _ j => K - (intOf j).toNat)
      case atStart => exact ⟨0, Nat.zero_le _, rfl, rfl⟩
      case round =>
      obtain ⟨m, hm, rfl, rfl⟩ := hrel
      obtain ⟨P, hP⟩ : ∃ P, P = (encAll (fE M fs B) ks m).length := ⟨_, rfl⟩
      rw [← hP]
      have HP : Hid (P = (encAll (fE M fs B) ks m).length) := hP
      clear hP
      by_cases hlt : m < K
      · have HK5 : Hid (Keys w5 (some ⟨w3.heap.size, 0, none⟩) K ks) := HKr.out.below HB5.out
        have kc : w5.cell? ⟨w3.heap.size, m, none⟩ = some (.int .i64 (ks m)) := by
          obtain ⟨b9, o9, e9, hb9, c9⟩ := HK5.out (by omega)
          cases e9
          have := c9 m hlt
          rwa [Nat.zero_add] at this
        have hmK : (m : Int) < (K : Int) := by omega
        have hqr := HI.out m hlt
        obtain ⟨q, hq⟩ : ∃ q : Nat, (q : Int) = ks m := ⟨(ks m).toNat, by omega⟩
        have HQ : Hid ((q : Int) = ks m) := hq
        rw [← hq] at kc hqr
        have hqN : q < k := by omega
        have hqi : (q : Int) < (k : Int) := by omega
        have HC5 : Hid (Cols w5 a k S L C B) := HCr.out.below HB5.out
        have HF5 : Hid (Flags w5 ia M fs) := HFr.out.below HB5.out
        obtain ⟨b2, o2, hA2, hbw2, cells2⟩ := HC5.out.row (by omega)
        subst hA2
        have kc2 := cells2 q hqN
        have HD : Hid (∃ rest, (encAll (fE M fs B) ks K).drop P = fE M fs B q ++ rest) := by
          obtain ⟨rest, hr⟩ := encAll_split (fE M fs B) ks K m hlt
          refine ⟨rest, ?_⟩
          rw [hr, HP.out, List.drop_left, ← HQ.out]; rfl
        have HN : Hid (P + (fE M fs B q).length = (encAll (fE M fs B) ks (m + 1)).length) := by
          show _ = _
          rw [HP.out]; show _ = (encAll (fE M fs B) ks m ++ fE M fs B (ks m).toNat).length; rw [List.length_append, ← HQ.out]; rfl
        clear cells2 hq hqr HK5
        by_cases hmM : q < M
        · obtain ⟨b3, o3, e3, hb3, c3⟩ := HF5.out (by omega)
          subst e3
          have kf := c3 q hmM
          have hmi : (q : Int) < (M : Int) := by omega
          cases hfk : fs q with
          | true =>
            rw [hfk] at kf
            have hE : fE M fs B q = encZ := by unfold fE; rw [if_pos (flag_yes hmM hfk)]
            obtain ⟨rest, hd⟩ := HD.out
            have HDz : Hid ((encAll (fE M fs B) ks K).drop P = encZ ++ rest) := by rw [← hE]; exact hd
            have HNz : Hid (P + 8 = (encAll (fE M fs B) ks (m + 1)).length) := by have h := HN.out; rw [hE] at h; exact h
            clear hfk c3 hE hd HD HN
            go_wp2_with (go_at_call 23; refine (mz_any A5 n5 c5 P _ rest _ HBy.out (by omega) HDz.out).mono ?_; rintro e w6 ⟨rfl, rfl⟩)
            go_round
            case rel => exact ⟨m + 1, by omega, by go_num, by rw [← HNz.out]; go_num⟩
            case measure => simp [intOf]; omega
          | false =>
            rw [hfk] at kf
            have hE : fE M fs B q = encB (B q) := by unfold fE; rw [if_neg (flag_no (by rw [hfk]; simp))]
            clear hfk c3
            obtain ⟨rest, hd⟩ := HD.out
            have HDz : Hid ((encAll (fE M fs B) ks K).drop P = encB (B q) ++ rest) := by rw [← hE]; exact hd
            have HNz : Hid (P + (encB (B q)).length = (encAll (fE M fs B) ks (m + 1)).length) := by rw [← hE]; exact HN.out
            clear hE hd HD HN
            go_wp2_with (go_at_call 24; refine (mb_any A5 (S q) n5 c5 P (L q) (C q) _ rest (B q) _ HBy.out (by omega) (HZ.out q hqN) (HC5.out.each q hqN) (HC5.out.rng q hqN) HDz.out).mono ?_; rintro e w6 ⟨rfl, rfl⟩)
            go_round
            case rel => exact ⟨m + 1, by omega, by go_num, by rw [← HNz.out]; go_num⟩
            case measure => simp [intOf]; omega
        · have hmi : (M : Int) ≤ (q : Int) := by omega
          have hE : fE M fs B q = encB (B q) := by unfold fE; rw [if_neg (flag_no (by omega))]
          obtain ⟨rest, hd⟩ := HD.out
          have HDz : Hid ((encAll (fE M fs B) ks K).drop P = encB (B q) ++ rest) := by rw [← hE]; exact hd
          have HNz : Hid (P + (encB (B q)).length = (encAll (fE M fs B) ks (m + 1)).length) := by rw [← hE]; exact HN.out
          clear hE hd HD HN
          go_wp2_with (go_at_call 24; refine (mb_any A5 (S q) n5 c5 P (L q) (C q) _ rest (B q) _ HBy.out (by omega) (HZ.out q hqN) (HC5.out.each q hqN) (HC5.out.rng q hqN) HDz.out).mono ?_; rintro e w6 ⟨rfl, rfl⟩)
          go_round
          case rel => exact ⟨m + 1, by omega, by go_num, by rw [← HNz.out]; go_num⟩
          case measure => simp [intOf]; omega
      · obtain rfl : m = K := by omega
        have hPn : P = n5 := by have := HP.out; have := HBy.out.1; omega
        subst hPn
        clear hlt hm
        go_wp2
        go_ret
        exact ⟨by simp, HBw.out⟩
end Go.Proofs.Qxb6614843a
