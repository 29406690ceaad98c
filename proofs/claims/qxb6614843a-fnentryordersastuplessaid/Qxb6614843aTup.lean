/-
  The walk of FnEntryOrdersAsTuples.
-/
import Derived.Test.Qxb6614843aZz2
namespace Go.Proofs.Qxb6614843a
set_option linter.unusedVariables false
open Go.RowKit
set_option maxRecDepth 100000 in
set_option maxHeartbeats 3200000 in
theorem law8 (ka a1 a2 : Option Addr) (K kcap N1 cap1 N2 cap2 : Nat) (ks : Nat → Int) (S1 S2 : Nat → Option Addr) (L1 C1 L2 C2 : Nat → Nat) (B1 B2 : Nat → List Int) (w : World) (hK : K ≤ 9223372036854775807) (hN1 : N1 ≤ 9223372036854775807) (hN2 : N2 ≤ 9223372036854775807) (hk : Keys w ka K ks) (hc1 : Cols w a1 N1 S1 L1 C1 B1) (hc2 : Cols w a2 N2 S2 L2 C2 B2) :
    Calls Try.prog 7 #[.slice ka K kcap, .slice a1 N1 cap1, .slice a2 N2 cap2] w fun e w' => Law7Said w e w' := by
  have HK : Hid (Keys w ka K ks) := hk
  have HC1 : Hid (Cols w a1 N1 S1 L1 C1 B1) := hc1
  have HC2 : Hid (Cols w a2 N2 S2 L2 C2 B2) := hc2
  clear hk hc1 hc2
  go_enter Try.func7, Try.ntmps7
  go_wp2_with fail
  refine (zz25_any ka a1 a2 K kcap N1 cap1 N2 cap2 S1 S2 L1 C1 L2 C2 B1 B2 w hK hN1 hN2 HC1.out HC2.out).mono ?_
  rintro e w3 ⟨ok, rfl, rfl, hzz⟩
  cases ok with
  | false =>
    go_wp2
    go_ret
    exact ⟨rfl, Below.refl _ _⟩
  | true =>
  obtain ⟨hz1, hz2⟩ := hzz rfl
  have HZ1 : Hid (∀ j, j < N1 → L1 j ≤ 1048576) := hz1
  have HZ2 : Hid (∀ j, j < N2 → L2 j ≤ 1048576) := hz2
  clear hzz hz1 hz2
  by_cases hK6 : K ≤ 65536
  case neg =>
    have h : (65536 : Int) < (K : Int) := by omega
    go_wp2
    go_ret
    exact ⟨rfl, Below.refl _ _⟩
  by_cases hN16 : N1 ≤ 65536
  case neg =>
    have h1 : ¬ (65536 : Int) < (K : Int) := by omega
    have h : (65536 : Int) < (N1 : Int) := by omega
    go_wp2
    go_ret
    exact ⟨rfl, Below.refl _ _⟩
  by_cases hN26 : N2 ≤ 65536
  case neg =>
    have h1 : ¬ (65536 : Int) < (K : Int) := by omega
    have h2 : ¬ (65536 : Int) < (N1 : Int) := by omega
    have h : (65536 : Int) < (N2 : Int) := by omega
    go_wp2
    go_ret
    exact ⟨rfl, Below.refl _ _⟩
  have ht1 : ¬ (65536 : Int) < (K : Int) := by omega
  have ht2 : ¬ (65536 : Int) < (N1 : Int) := by omega
  have ht3 : ¬ (65536 : Int) < (N2 : Int) := by omega
  clear hK hN1 hN2
  cases ka with
  | none =>
    have HK0 : Hid (K = 0) := by
      show K = 0
      by_cases e : 0 < K
      · obtain ⟨b9, o9, e9, _⟩ := HK.out e
        cases e9
      · omega
    have HKb : Hid (Keys w3 Option.none K ks) := HK.out
    have HBb : Hid (Below w3.heap.size w3 w3) := Below.refl _ _
    have HCb1 : Hid (Cols w3 a1 N1 S1 L1 C1 B1) := HC1.out.below HBb.out
    have HCb2 : Hid (Cols w3 a2 N2 S2 L2 C2 B2) := HC2.out.below HBb.out
    have hbs : w3.heap.size ≤ w3.heap.size := HBb.out.size
    go_wp2_with fail
    refine (sizes_any (8 * (K : Int)) a1 N1 cap1 S1 L1 C1 B1 _ (by omega) (by omega) hN16 HCb1.out HZ1.out).mono ?_
    rintro e wA ⟨rA, okA, rfl, hwA, hrA0, hrA4, hszA⟩
    obtain rfl : w3 = wA := hwA.symm
    clear hszA
    cases okA with
    | false =>
      go_wp2
      go_ret
      exact ⟨rfl, HBb.out⟩
    | true =>
    go_wp2_with fail
    refine (sizes_any rA a2 N2 cap2 S2 L2 C2 B2 _ hrA0 hrA4 hN26 HCb2.out HZ2.out).mono ?_
    rintro e wB ⟨rB, okB, rfl, hwB, hrB0, hrB4, hszB⟩
    obtain rfl : w3 = wB := hwB.symm
    clear hszB
    cases okB with
    | false =>
      go_wp2
      go_ret
      exact ⟨rfl, HBb.out⟩
    | true =>
    go_wp2_with fail
    refine (fits_any Option.none a1 K kcap N1 cap1 ks S1 L1 C1 B1 _ hK6 hN16 HKb.out HCb1.out HZ1.out).mono ?_
    rintro e wC ⟨ok1, rfl, hwC, hfit1⟩
    obtain rfl : w3 = wC := hwC.symm
    cases ok1 with
    | false =>
      go_wp2
      go_ret
      exact ⟨rfl, HBb.out⟩
    | true =>
    obtain ⟨hin1, hsum1⟩ := hfit1 rfl
    have HI1 : Hid (∀ j, j < K → 0 ≤ ks j ∧ ks j < N1) := hin1
    have HS1 : Hid (sumN (need L1 ks) K ≤ 1048576) := hsum1
    clear hfit1 hin1 hsum1
    go_wp2_with fail
    refine (fits_any Option.none a2 K kcap N2 cap2 ks S2 L2 C2 B2 _ hK6 hN26 HKb.out HCb2.out HZ2.out).mono ?_
    rintro e wD ⟨ok2, rfl, hwD, hfit2⟩
    obtain rfl : w3 = wD := hwD.symm
    cases ok2 with
    | false =>
      go_wp2
      go_ret
      exact ⟨rfl, HBb.out⟩
    | true =>
    obtain ⟨hin2, hsum2⟩ := hfit2 rfl
    have HI2 : Hid (∀ j, j < K → 0 ≤ ks j ∧ ks j < N2) := hin2
    have HS2 : Hid (sumN (need L2 ks) K ≤ 1048576) := hsum2
    clear hfit2 hin2 hsum2
    go_wp2_with fail
    refine (values_any a1 N1 cap1 S1 L1 C1 B1 _ hN16 HCb1.out).mono ?_
    rintro e wE ⟨g1, rfl, hrE, hbE⟩
    have HRE : Hid (RowV wE (some ⟨g1, 0, none⟩) N1 (fun _ => 1) S1 L1 C1 (fun i => encB (B1 i))) := hrE
    have HBE : Hid (Below w3.heap.size w3 wE) := hbE
    clear hrE hbE
    go_wp2_with fail
    refine (zzentry_any K kcap N1 N1 Option.none _ ks _ _ _ _ _ _ hK6 hN16 (HKb.out.below HBE.out) HI1.out HRE.out HS1.out).mono ?_
    rintro e wF ⟨vF, rfl, hoF, hbF⟩
    obtain ⟨A1, c1, n1, rfl, hby1⟩ : ∃ A1 c1 n1, vF = .slice A1 n1 c1 ∧ Bytes wF A1 n1 (encAll (fun i => encB (B1 i)) ks K) := (let ⟨A, c, e, h⟩ := hoF.bytes; ⟨A, c, _, e, h⟩)
    have hn1 : n1 ≤ 1048576 := by
      have h1 := encAll_len HRE.out ks K HI1.out K (Nat.le_refl _)
      have h2 := HS1.out
      have h3 := hby1.1
      omega
    have HBF : Hid (Below w3.heap.size w3 wF) := HBE.out.trans (hbF.mono HBE.out.size)
    have HY1 : Hid (Bytes wF A1 n1 (encAll (fun i => encB (B1 i)) ks K)) := hby1
    clear hoF hbF hby1
    go_wp2_with fail
    refine (values_any a2 N2 cap2 S2 L2 C2 B2 _ hN26 (HCb2.out.below HBF.out)).mono ?_
    rintro e wG ⟨g2, rfl, hrG, hbG⟩
    have HRG : Hid (RowV wG (some ⟨g2, 0, none⟩) N2 (fun _ => 1) S2 L2 C2 (fun i => encB (B2 i))) := hrG
    have HYG : Hid (Bytes wG A1 n1 (encAll (fun i => encB (B1 i)) ks K)) := HY1.out.below hbG
    have HBG : Hid (Below w3.heap.size w3 wG) := HBF.out.trans (hbG.mono HBF.out.size)
    clear hrG hbG HY1
    go_wp2_with fail
    refine (zzentry_any K kcap N2 N2 Option.none _ ks _ _ _ _ _ _ hK6 hN26 (HKb.out.below HBG.out) HI2.out HRG.out HS2.out).mono ?_
    rintro e wH ⟨vH, rfl, hoH, hbH⟩
    obtain ⟨A2, c2, n2, rfl, hby2⟩ : ∃ A2 c2 n2, vH = .slice A2 n2 c2 ∧ Bytes wH A2 n2 (encAll (fun i => encB (B2 i)) ks K) := (let ⟨A, c, e, h⟩ := hoH.bytes; ⟨A, c, _, e, h⟩)
    have hn2 : n2 ≤ 1048576 := by
      have h1 := encAll_len HRG.out ks K HI2.out K (Nat.le_refl _)
      have h2 := HS2.out
      have h3 := hby2.1
      omega
    have HBH : Hid (Below w3.heap.size w3 wH) := HBG.out.trans (hbH.mono HBG.out.size)
    have HYH1 : Hid (Bytes wH A1 n1 (encAll (fun i => encB (B1 i)) ks K)) := HYG.out.below hbH
    have HYH2 : Hid (Bytes wH A2 n2 (encAll (fun i => encB (B2 i)) ks K)) := hby2
    have HBw : Hid (Below w3.heap.size w3 wH) := HBb.out.trans (HBH.out.mono hbs)
    have HCH1 : Hid (Cols wH a1 N1 S1 L1 C1 B1) := HCb1.out.below HBH.out
    have HCH2 : Hid (Cols wH a2 N2 S2 L2 C2 B2) := HCb2.out.below HBH.out
    have HKH : Hid (Keys wH Option.none K ks) := HKb.out.below HBH.out
    clear hoH hbH hby2 HYG HRG HRE HBE HBF HBG
    go_wp2_with fail
    go_loopw [14, 15] (fun u i wr => ∃ m d : Nat, m ≤ K ∧ i = .int .i64 m ∧ u = .int .i64 0 ∧ (∀ j, j < m → cmpL (B1 (ks j).toNat) (B2 (ks j).toNat) = 0) ∧ wr = wH.drewN d) (fun _ i _ => K - (intOf i).toNat)
    case atStart => exact ⟨0, 0, Nat.zero_le _, rfl, rfl, fun j hj => by omega, rfl⟩
    case round =>
    obtain ⟨m, d, hm, rfl, rfl, hall, hw⟩ := hrel
    have HAll : Hid (∀ j, j < m → cmpL (B1 (ks j).toNat) (B2 (ks j).toNat) = 0) := hall
    have HW : Hid (wr = wH.drewN d) := hw
    have HYr1 : Hid (Bytes wr A1 n1 (encAll (fun i => encB (B1 i)) ks K)) := by show Bytes _ _ _ _; rw [HW.out]; exact HYH1.out
    have HYr2 : Hid (Bytes wr A2 n2 (encAll (fun i => encB (B2 i)) ks K)) := by show Bytes _ _ _ _; rw [HW.out]; exact HYH2.out
    have HBr : Hid (Below w3.heap.size w3 wr) := by show Below _ _ _; rw [HW.out]; exact below_drewN HBw.out d
    clear hall hw
    by_cases hlt : m < K
    · exact absurd hlt (by have := HK0.out; omega)
    · obtain rfl : m = K := by omega
      have HN : Hid (cmpL (encAll (fun i => encB (B1 i)) ks m) (encAll (fun i => encB (B2 i)) ks m) = 0) := by
        show _ = _
        rw [encAll_same B1 B2 ks m HAll.out]; exact cmpL_refl _
      clear hlt hm
      go_wp2_with fail
      refine (cmp_any A1 A2 n1 c1 n2 c2 _ _ _ HYr1.out HYr2.out (by omega) (by omega)).mono ?_
      rintro e wI ⟨rfl, hdI⟩
      have HDI : Hid (∃ d, wI = wr.drewN d) := hdI
      rw [HN.out]
      clear hdI
      go_wp2
      go_ret
      obtain ⟨dI, rfl⟩ := HDI.out
      exact ⟨by simp, below_drewN HBr.out _⟩
  | some kad =>
    obtain ⟨wa, wb, hma, hcp, hkb, hbb, hsb⟩ := key_copy w3 (some kad) K kcap ks HK.out hK6
    have HKb : Hid (Keys wb (some ⟨w3.heap.size, 0, none⟩) K ks) := hkb
    have HBb : Hid (Below w3.heap.size w3 wb) := hbb
    clear hkb hbb
    have HCb1 : Hid (Cols wb a1 N1 S1 L1 C1 B1) := HC1.out.below HBb.out
    have HCb2 : Hid (Cols wb a2 N2 S2 L2 C2 B2) := HC2.out.below HBb.out
    have hbs : w3.heap.size ≤ wb.heap.size := HBb.out.size
    go_wp2_with fail
    refine (sizes_any (8 * (K : Int)) a1 N1 cap1 S1 L1 C1 B1 _ (by omega) (by omega) hN16 HCb1.out HZ1.out).mono ?_
    rintro e wA ⟨rA, okA, rfl, hwA, hrA0, hrA4, hszA⟩
    obtain rfl : wb = wA := hwA.symm
    clear hszA
    cases okA with
    | false =>
      go_wp2
      go_ret
      exact ⟨rfl, HBb.out⟩
    | true =>
    go_wp2_with fail
    refine (sizes_any rA a2 N2 cap2 S2 L2 C2 B2 _ hrA0 hrA4 hN26 HCb2.out HZ2.out).mono ?_
    rintro e wB ⟨rB, okB, rfl, hwB, hrB0, hrB4, hszB⟩
    obtain rfl : wb = wB := hwB.symm
    clear hszB
    cases okB with
    | false =>
      go_wp2
      go_ret
      exact ⟨rfl, HBb.out⟩
    | true =>
    go_wp2_with fail
    refine (fits_any (some ⟨w3.heap.size, 0, none⟩) a1 K K N1 cap1 ks S1 L1 C1 B1 _ hK6 hN16 HKb.out HCb1.out HZ1.out).mono ?_
    rintro e wC ⟨ok1, rfl, hwC, hfit1⟩
    obtain rfl : wb = wC := hwC.symm
    cases ok1 with
    | false =>
      go_wp2
      go_ret
      exact ⟨rfl, HBb.out⟩
    | true =>
    obtain ⟨hin1, hsum1⟩ := hfit1 rfl
    have HI1 : Hid (∀ j, j < K → 0 ≤ ks j ∧ ks j < N1) := hin1
    have HS1 : Hid (sumN (need L1 ks) K ≤ 1048576) := hsum1
    clear hfit1 hin1 hsum1
    go_wp2_with fail
    refine (fits_any (some ⟨w3.heap.size, 0, none⟩) a2 K K N2 cap2 ks S2 L2 C2 B2 _ hK6 hN26 HKb.out HCb2.out HZ2.out).mono ?_
    rintro e wD ⟨ok2, rfl, hwD, hfit2⟩
    obtain rfl : wb = wD := hwD.symm
    cases ok2 with
    | false =>
      go_wp2
      go_ret
      exact ⟨rfl, HBb.out⟩
    | true =>
    obtain ⟨hin2, hsum2⟩ := hfit2 rfl
    have HI2 : Hid (∀ j, j < K → 0 ≤ ks j ∧ ks j < N2) := hin2
    have HS2 : Hid (sumN (need L2 ks) K ≤ 1048576) := hsum2
    clear hfit2 hin2 hsum2
    go_wp2_with fail
    refine (values_any a1 N1 cap1 S1 L1 C1 B1 _ hN16 HCb1.out).mono ?_
    rintro e wE ⟨g1, rfl, hrE, hbE⟩
    have HRE : Hid (RowV wE (some ⟨g1, 0, none⟩) N1 (fun _ => 1) S1 L1 C1 (fun i => encB (B1 i))) := hrE
    have HBE : Hid (Below wb.heap.size wb wE) := hbE
    clear hrE hbE
    go_wp2_with fail
    refine (zzentry_any K K N1 N1 (some ⟨w3.heap.size, 0, none⟩) _ ks _ _ _ _ _ _ hK6 hN16 (HKb.out.below HBE.out) HI1.out HRE.out HS1.out).mono ?_
    rintro e wF ⟨vF, rfl, hoF, hbF⟩
    obtain ⟨A1, c1, n1, rfl, hby1⟩ : ∃ A1 c1 n1, vF = .slice A1 n1 c1 ∧ Bytes wF A1 n1 (encAll (fun i => encB (B1 i)) ks K) := (let ⟨A, c, e, h⟩ := hoF.bytes; ⟨A, c, _, e, h⟩)
    have hn1 : n1 ≤ 1048576 := by
      have h1 := encAll_len HRE.out ks K HI1.out K (Nat.le_refl _)
      have h2 := HS1.out
      have h3 := hby1.1
      omega
    have HBF : Hid (Below wb.heap.size wb wF) := HBE.out.trans (hbF.mono HBE.out.size)
    have HY1 : Hid (Bytes wF A1 n1 (encAll (fun i => encB (B1 i)) ks K)) := hby1
    clear hoF hbF hby1
    go_wp2_with fail
    refine (values_any a2 N2 cap2 S2 L2 C2 B2 _ hN26 (HCb2.out.below HBF.out)).mono ?_
    rintro e wG ⟨g2, rfl, hrG, hbG⟩
    have HRG : Hid (RowV wG (some ⟨g2, 0, none⟩) N2 (fun _ => 1) S2 L2 C2 (fun i => encB (B2 i))) := hrG
    have HYG : Hid (Bytes wG A1 n1 (encAll (fun i => encB (B1 i)) ks K)) := HY1.out.below hbG
    have HBG : Hid (Below wb.heap.size wb wG) := HBF.out.trans (hbG.mono HBF.out.size)
    clear hrG hbG HY1
    go_wp2_with fail
    refine (zzentry_any K K N2 N2 (some ⟨w3.heap.size, 0, none⟩) _ ks _ _ _ _ _ _ hK6 hN26 (HKb.out.below HBG.out) HI2.out HRG.out HS2.out).mono ?_
    rintro e wH ⟨vH, rfl, hoH, hbH⟩
    obtain ⟨A2, c2, n2, rfl, hby2⟩ : ∃ A2 c2 n2, vH = .slice A2 n2 c2 ∧ Bytes wH A2 n2 (encAll (fun i => encB (B2 i)) ks K) := (let ⟨A, c, e, h⟩ := hoH.bytes; ⟨A, c, _, e, h⟩)
    have hn2 : n2 ≤ 1048576 := by
      have h1 := encAll_len HRG.out ks K HI2.out K (Nat.le_refl _)
      have h2 := HS2.out
      have h3 := hby2.1
      omega
    have HBH : Hid (Below wb.heap.size wb wH) := HBG.out.trans (hbH.mono HBG.out.size)
    have HYH1 : Hid (Bytes wH A1 n1 (encAll (fun i => encB (B1 i)) ks K)) := HYG.out.below hbH
    have HYH2 : Hid (Bytes wH A2 n2 (encAll (fun i => encB (B2 i)) ks K)) := hby2
    have HBw : Hid (Below w3.heap.size w3 wH) := HBb.out.trans (HBH.out.mono hbs)
    have HCH1 : Hid (Cols wH a1 N1 S1 L1 C1 B1) := HCb1.out.below HBH.out
    have HCH2 : Hid (Cols wH a2 N2 S2 L2 C2 B2) := HCb2.out.below HBH.out
    have HKH : Hid (Keys wH (some ⟨w3.heap.size, 0, none⟩) K ks) := HKb.out.below HBH.out
    clear hoH hbH hby2 HYG HRG HRE HBE HBF HBG
    go_wp2_with fail
    go_loopw [14, 15] (fun u i wr => ∃ m d : Nat, m ≤ K ∧ i = .int .i64 m ∧ u = .int .i64 0 ∧ (∀ j, j < m → cmpL (B1 (ks j).toNat) (B2 (ks j).toNat) = 0) ∧ wr = wH.drewN d) (fun _ i _ => K - (intOf i).toNat)
    case atStart => exact ⟨0, 0, Nat.zero_le _, rfl, rfl, fun j hj => by omega, rfl⟩
    case round =>
    obtain ⟨m, d, hm, rfl, rfl, hall, hw⟩ := hrel
    have HAll : Hid (∀ j, j < m → cmpL (B1 (ks j).toNat) (B2 (ks j).toNat) = 0) := hall
    have HW : Hid (wr = wH.drewN d) := hw
    have HYr1 : Hid (Bytes wr A1 n1 (encAll (fun i => encB (B1 i)) ks K)) := by show Bytes _ _ _ _; rw [HW.out]; exact HYH1.out
    have HYr2 : Hid (Bytes wr A2 n2 (encAll (fun i => encB (B2 i)) ks K)) := by show Bytes _ _ _ _; rw [HW.out]; exact HYH2.out
    have HBr : Hid (Below w3.heap.size w3 wr) := by show Below _ _ _; rw [HW.out]; exact below_drewN HBw.out d
    clear hall hw
    by_cases hlt : m < K
    · have HKr : Hid (Keys wr (some ⟨w3.heap.size, 0, none⟩) K ks) := by show Keys _ _ _ _; rw [HW.out]; exact HKH.out
      have HCr1 : Hid (Cols wr a1 N1 S1 L1 C1 B1) := by show Cols _ _ _ _ _ _ _; rw [HW.out]; exact HCH1.out.below (below_drewN (Below.refl _ _) d)
      have HCr2 : Hid (Cols wr a2 N2 S2 L2 C2 B2) := by show Cols _ _ _ _ _ _ _; rw [HW.out]; exact HCH2.out.below (below_drewN (Below.refl _ _) d)
      have kc : wr.cell? ⟨w3.heap.size, m, none⟩ = some (.int .i64 (ks m)) := by
        obtain ⟨b9, o9, e9, hb9, c9⟩ := HKr.out (by omega)
        cases e9
        have := c9 m hlt
        rwa [Nat.zero_add] at this
      have hmK : (m : Int) < (K : Int) := by omega
      have hqr1 := HI1.out m hlt
      have hqr2 := HI2.out m hlt
      obtain ⟨q, hq⟩ : ∃ q : Nat, (q : Int) = ks m := ⟨(ks m).toNat, by omega⟩
      have HQ : Hid (q = (ks m).toNat) := by show _ = _; omega
      rw [← hq] at kc hqr1 hqr2
      have hqN1 : q < N1 := by omega
      have hqN2 : q < N2 := by omega
      have hqi1 : (q : Int) < (N1 : Int) := by omega
      have hqi2 : (q : Int) < (N2 : Int) := by omega
      obtain ⟨b1, o1, hA1, hbw1, cells1⟩ := HCr1.out.row (by omega)
      subst hA1
      obtain ⟨b2, o2, hA2, hbw2, cells2⟩ := HCr2.out.row (by omega)
      subst hA2
      have kc1 := cells1 q hqN1
      have kc2 := cells2 q hqN2
      obtain ⟨cc, hcc⟩ : ∃ cc, cc = cmpL (B1 q) (B2 q) := ⟨_, rfl⟩
      have HCmp : Hid (∀ d', Calls Try.prog 27 #[.slice (S1 q) (L1 q) (C1 q), .slice (S2 q) (L2 q) (C2 q)] (wr.drewN d') fun e w' => e = .returned (.int .i64 cc) ∧ ∃ d2, w' = (wr.drewN d').drewN d2) := by
        intro d'
        rw [hcc]
        exact cmp_any _ _ _ _ _ _ _ _ _ ((HCr1.out.each q hqN1).below (below_drewN (Below.refl _ _) d')) ((HCr2.out.each q hqN2).below (below_drewN (Below.refl _ _) d')) (by have := HZ1.out q hqN1; omega) (by have := HZ2.out q hqN2; omega)
      have HCc : Hid (cc = cmpL (B1 (ks m).toNat) (B2 (ks m).toNat)) := by show _ = _; rw [hcc, HQ.out]
      clear cells1 cells2 hq hqr1 hqr2 hcc HKr
      go_wp2_with fail
      go_quiet ((go_at_call 27; refine Calls.quiet_of (HCmp.out _)))
      by_cases hc0 : cc = 0
      · subst hc0
        go_wp2
        go_roundw
        case rel => exact ⟨m + 1, _, by omega, by go_num, rfl, fun j hj => by
          by_cases e : j = m
          · subst e; exact HCc.out.symm
          · exact HAll.out j (by omega), by rw [HW.out]; simp only [World.drewN_drewN]; rfl⟩
        case measure => simp [intOf]; omega
      · have HN : Hid (cmpL (encAll (fun i => encB (B1 i)) ks K) (encAll (fun i => encB (B2 i)) ks K) = cc) := by
          show _ = _
          rw [HCc.out]
          refine encAll_cmp B1 B2 ks K m hlt HAll.out ?_ ?_ ?_
          · rw [← HQ.out]; exact fun z hz => (HCr1.out.rng q hqN1 z hz).1
          · rw [← HQ.out]; exact fun z hz => (HCr2.out.rng q hqN2 z hz).1
          · rw [← HCc.out]; exact hc0
        go_wp2_with fail
        refine (cmp_any A1 A2 n1 c1 n2 c2 _ _ _ (HYr1.out.below (below_drewN (Below.refl _ _) _)) (HYr2.out.below (below_drewN (Below.refl _ _) _)) (by omega) (by omega)).mono ?_
        rintro e wI ⟨rfl, hdI⟩
        have HDI : Hid (∃ d, wI = (wr.drewN _).drewN d) := hdI
        rw [HN.out]
        clear hdI
        go_wp2
        go_ret
        obtain ⟨dI, rfl⟩ := HDI.out
        exact ⟨by simp, below_drewN (below_drewN HBr.out _) _⟩
    · obtain rfl : m = K := by omega
      have HN : Hid (cmpL (encAll (fun i => encB (B1 i)) ks m) (encAll (fun i => encB (B2 i)) ks m) = 0) := by
        show _ = _
        rw [encAll_same B1 B2 ks m HAll.out]; exact cmpL_refl _
      clear hlt hm
      go_wp2_with fail
      refine (cmp_any A1 A2 n1 c1 n2 c2 _ _ _ HYr1.out HYr2.out (by omega) (by omega)).mono ?_
      rintro e wI ⟨rfl, hdI⟩
      have HDI : Hid (∃ d, wI = wr.drewN d) := hdI
      rw [HN.out]
      clear hdI
      go_wp2
      go_ret
      obtain ⟨dI, rfl⟩ := HDI.out
      exact ⟨by simp, below_drewN HBr.out _⟩
end Go.Proofs.Qxb6614843a
