/-
  Contracts of tuple.Bytes, Value.Bytes, entry and ZZentry: what an entry unfolds into.
-/
import Derived.Test.Qxb6614843aZz
namespace Go.Proofs.Qxb6614843a
set_option linter.unusedVariables false
open Go.RowKit
theorem bytes21 (A : Option Addr) (L C : Nat) (w : World) :
    Calls Try.prog 21 #[.slice A L C] w fun e w' => e = .returned (.agg #[.int .u8 1, .int .i64 0, .slice A L C]) ∧ w' = w.alloc (.cells #[.int .u8 1, .int .i64 0, .slice A L C] 46) := by
  go_enter Try.func21, Try.ntmps21
  go_wp2
  exact bodyPost_ret (v := .agg #[.int .u8 1, .int .i64 0, .slice A L C]) (by simp [results, Try.results21, go_sem]) rfl ⟨rfl, rfl⟩
theorem bytes34 (t : Int) (A : Option Addr) (L C : Nat) (w : World) :
    Calls Try.prog 34 #[.agg #[.int .u8 t, .int .i64 0, .slice A L C]] w fun e w' => e = .returned (.slice A L C) ∧ w' = w.alloc (.cells #[.int .u8 t, .int .i64 0, .slice A L C] 46) := by
  go_enter Try.func34, Try.ntmps34
  go_wp2
  go_ret
  exact ⟨rfl, rfl⟩
/-- a row of tuple values, three cells each -/
structure RowV (w : World) (a : Option Addr) (N : Nat) (T : Nat → Int) (S : Nat → Option Addr) (L C : Nat → Nat) (E : Nat → List Int) : Prop where
  row : 0 < N → ∃ b o, a = some ⟨b, o, none⟩ ∧ b < w.heap.size ∧ ∀ i, i < N → w.cell? ⟨b, o + i * 3, none⟩ = some (.int .u8 (T i)) ∧ w.cell? ⟨b, o + i * 3 + 1, none⟩ = some (.int .i64 0) ∧ w.cell? ⟨b, o + i * 3 + 2, none⟩ = some (.slice (S i) (L i) (C i))
  each : ∀ i, i < N → (T i = 0 ∧ S i = none ∧ L i = 0 ∧ C i = 0 ∧ E i = encZ) ∨ (T i = 1 ∧ ∃ bs, Bytes w (S i) (L i) bs ∧ E i = encB bs)
theorem Keys.below {w w' : World} {a : Option Addr} {K : Nat} {ks : Nat → Int} (h : Keys w a K ks) (hb : Below w.heap.size w w') : Keys w' a K ks := by
  intro h0
  obtain ⟨b, o, e, hl, c⟩ := h h0
  exact ⟨b, o, e, by have := hb.size; omega, fun j hj => by rw [hb.cell (by exact hl)]; exact c j hj⟩
theorem Flags.below {w w' : World} {a : Option Addr} {M : Nat} {fs : Nat → Bool} (h : Flags w a M fs) (hb : Below w.heap.size w w') : Flags w' a M fs := by
  intro h0
  obtain ⟨b, o, e, hl, c⟩ := h h0
  exact ⟨b, o, e, by have := hb.size; omega, fun j hj => by rw [hb.cell (by exact hl)]; exact c j hj⟩
theorem Bytes.below {w w' : World} {a : Option Addr} {L : Nat} {bs : List Int} (h : Bytes w a L bs) (hb : Below w.heap.size w w') : Bytes w' a L bs := by
  refine ⟨h.1, fun h0 => ?_⟩
  obtain ⟨b, o, e, hl, c⟩ := h.2 h0
  exact ⟨b, o, e, by have := hb.size; omega, fun j hj => by rw [hb.cell (by exact hl)]; exact c j hj⟩
theorem Cols.below {w w' : World} {a : Option Addr} {N : Nat} {S : Nat → Option Addr} {L C : Nat → Nat} {B : Nat → List Int} (h : Cols w a N S L C B) (hb : Below w.heap.size w w') : Cols w' a N S L C B where
  row h0 := by
    obtain ⟨b, o, e, hl, c⟩ := h.row h0
    exact ⟨b, o, e, by have := hb.size; omega, fun j hj => by rw [hb.cell (by exact hl)]; exact c j hj⟩
  each j hj := (h.each j hj).below hb
  max := h.max
  rng := h.rng
theorem RowV.below {w w' : World} {a : Option Addr} {N : Nat} {T : Nat → Int} {S : Nat → Option Addr} {L C : Nat → Nat} {E : Nat → List Int} (h : RowV w a N T S L C E) (hb : Below w.heap.size w w') : RowV w' a N T S L C E where
  row h0 := by
    obtain ⟨b, o, e, hl, c⟩ := h.row h0
    refine ⟨b, o, e, by have := hb.size; omega, fun j hj => ?_⟩
    rw [hb.cell (by exact hl), hb.cell (by exact hl), hb.cell (by exact hl)]
    exact c j hj
  each j hj := by
    rcases h.each j hj with h1 | ⟨h1, bs, h2, h3⟩
    · exact .inl h1
    · exact .inr ⟨h1, bs, h2.below hb, h3⟩
theorem Owns.mono {w : World} {D D' : Nat} {v : Value} {xs : List Int} (h : Owns w D v xs) (hD : D' ≤ D) : Owns w D' v xs := by
  refine ⟨h.1, ?_⟩
  rcases h.2 with h1 | ⟨g, cap, cur, h1, h2, h3⟩
  · exact .inl h1
  · exact .inr ⟨g, cap, cur, h1, by omega, h3⟩
/-- a slice that owns bytes reads as these bytes -/
theorem Owns.bytes {w : World} {D : Nat} {v : Value} {xs : List Int} (h : Owns w D v xs) : ∃ A cap, v = .slice A xs.length cap ∧ Bytes w A xs.length xs := by
  rcases h.2 with ⟨h1, h2⟩ | ⟨g, cap, cur, h1, h2, h3, h4, h5, h6, h7⟩
  · exact ⟨_, _, by rw [h1, h2], rfl, fun h0 => by omega⟩
  · refine ⟨_, _, h1, rfl, fun h0 => ⟨g, 0, rfl, (Array.getElem?_eq_some_iff.1 h3).1, fun j hj => ?_⟩⟩
    have e : (byteVals xs)[j]? = some (.int .u8 (xs.getD j 0)) := byteVals_get xs j hj
    rw [← h7, List.getElem?_take_of_lt (by omega)] at e
    rw [Nat.zero_add]
    unfold World.cell?
    rw [h3]
    simpa using e
/-- what the keys unfold into -/
def encAll (E : Nat → List Int) (ks : Nat → Int) : Nat → List Int
  | 0 => []
  | k + 1 => encAll E ks k ++ E (ks k).toNat
theorem make0 (s : Int) (hs : 0 ≤ s) (hs2 : s ≤ 4194304) (w : World) :
    (Instr.makeSlice 27 (.int .i64 0) (.int .i64 s)).run Try.prog w = .ok (.slice (some ⟨w.heap.size, 0, none⟩) 0 s.toNat) (w.alloc (.cells (madeCells #[.int .u8 0] s.toNat) 5)) := by
  obtain ⟨i, hi, hzz⟩ := Option.map_eq_some_iff.1 info5
  simp only [Prod.mk.injEq] at hzz
  obtain ⟨hz, hsz, hb⟩ := hzz
  have h := run_make (P := Try.prog) w 27 5 i (.int .u8 0) Try.underlying27 hi hz .i64 .i64 0 s (Int.le_refl _) hs (by rw [hb]; omega) (by omega)
  rw [hsz, Nat.mul_one] at h
  exact h
theorem made_owns (w : World) (D n : Nat) (hD : D ≤ w.heap.size) (hn : n ≤ 4194304) : Owns (w.alloc (.cells (madeCells #[.int .u8 0] n) 5)) D (.slice (some ⟨w.heap.size, 0, none⟩) 0 n) [] :=
  World.ownsRow_made w _ n hD (by unfold maxLen; omega) (by rw [size_madeCells]; omega)
theorem RowV.len {w : World} {a : Option Addr} {N : Nat} {T : Nat → Int} {S : Nat → Option Addr} {L C : Nat → Nat} {E : Nat → List Int} (h : RowV w a N T S L C E) (i : Nat) (hi : i < N) : (E i).length ≤ 2 * L i + 9 := by
  rcases h.each i hi with ⟨_, _, hl, _, he⟩ | ⟨_, bs, hb, he⟩
  · rw [he]; simp [encZ]
  · rw [he]; have := encB_len bs; have := hb.1; omega
theorem encAll_len {w : World} {a : Option Addr} {N : Nat} {T : Nat → Int} {S : Nat → Option Addr} {L C : Nat → Nat} {E : Nat → List Int} (h : RowV w a N T S L C E) (ks : Nat → Int) (K : Nat) (hin : ∀ j, j < K → 0 ≤ ks j ∧ ks j < N) : ∀ m, m ≤ K → (encAll E ks m).length ≤ sumN (need L ks) m
  | 0, _ => by simp [encAll]
  | m + 1, hm => by
    have h1 := encAll_len h ks K hin m (by omega)
    have h2 := hin m (by omega)
    have h3 := h.len (ks m).toNat (by omega)
    show (encAll E ks m ++ E (ks m).toNat).length ≤ sumN (need L ks) m + (2 * L (ks m).toNat + 9)
    rw [List.length_append]
    omega
theorem box_cell (w : World) (cs : Array Value) (t : Nat) (i : Nat) (v : Value) (h : cs[i]? = some v) : (w.alloc (.cells cs t)).cell? ⟨w.heap.size, i, none⟩ = some v := by
  rw [World.cell?_alloc_new]; exact h
set_option maxRecDepth 100000 in
set_option maxHeartbeats 800000 in
theorem entry_any (pI K kcap N cap : Nat) (ka ra : Option Addr) (ks : Nat → Int) (T : Nat → Int) (S : Nat → Option Addr) (L C : Nat → Nat) (E : Nat → List Int) (w : World) (hp : pI < w.heap.size) (cI : w.cell? ⟨pI, 1, none⟩ = some (.slice ka K kcap)) (hK : K ≤ 65536) (hN : N ≤ 65536) (hk : Keys w ka K ks) (hin : ∀ j, j < K → 0 ≤ ks j ∧ ks j < N) (hr : RowV w ra N T S L C E) (hsum : sumN (need L ks) K ≤ 1048576) :
    Calls Try.prog 31 #[.pointer (some ⟨pI, 0, none⟩), .slice ra N cap] w fun e w' => ∃ v, e = .returned v ∧ Owns w' w.heap.size v (encAll E ks K) ∧ Below w.heap.size w w' := by
  have HK : Hid (Keys w ka K ks) := hk
  have HI : Hid (∀ j, j < K → 0 ≤ ks j ∧ ks j < N) := hin
  have HR : Hid (RowV w ra N T S L C E) := hr
  have HS : Hid (sumN (need L ks) K ≤ 1048576) := hsum
  clear hk hin hr hsum
  go_enter Try.func31, Try.ntmps31
  go_wp2
  go_loopw [5, 16] (fun s i wr => ∃ (k : Nat) (x : Int), k ≤ K ∧ i = .int .i64 k ∧ s = .int .i64 x ∧ 0 ≤ x ∧ x ≤ ((sumN (need L ks) k : Nat) : Int) ∧ Below w.heap.size w wr) (fun _ i _ => K - (intOf i).toNat)
  case atStart => exact ⟨0, 0, Nat.zero_le _, rfl, rfl, by omega, by simp [sumN], Below.refl _ _⟩
  case round =>
    obtain ⟨k, x, hk, rfl, rfl, hx0, hx1, hbl⟩ := hrel
    have hx2 : x ≤ 1048576 := by have := sumN_le (need L ks) K k hk; have := HS.out; omega
    by_cases hlt : k < K
    · obtain ⟨b, o, hA, hbw, cells⟩ := HK.out (by omega)
      subst hA
      have kc : wr.cell? ⟨b, o + k, none⟩ = some (.int .i64 (ks k)) := by rw [hbl.cell (by exact hbw)]; exact cells k hlt
      have hki : (k : Int) < (K : Int) := by omega
      have hqr := HI.out k hlt
      obtain ⟨q, hq⟩ : ∃ q : Nat, (q : Int) = ks k := ⟨(ks k).toNat, by omega⟩
      rw [← hq] at kc hqr
      have hqN : q < N := by omega
      have hqi : (q : Int) < (N : Int) := by omega
      obtain ⟨b2, o2, hA2, hbw2, cells2⟩ := HR.out.row (by omega)
      subst hA2
      have kc0 : wr.cell? ⟨b2, o2 + q * 3, none⟩ = some (.int .u8 (T q)) := by rw [hbl.cell (by exact hbw2)]; exact (cells2 q hqN).1
      have kc1 : wr.cell? ⟨b2, o2 + q * 3 + 1, none⟩ = some (.int .i64 0) := by rw [hbl.cell (by exact hbw2)]; exact (cells2 q hqN).2.1
      have kc2 : wr.cell? ⟨b2, o2 + q * 3 + 2, none⟩ = some (.slice (S q) (L q) (C q)) := by rw [hbl.cell (by exact hbw2)]; exact (cells2 q hqN).2.2
      have HX : Hid (x ≤ ((sumN (need L ks) k : Nat) : Int)) := hx1
      have HB : Hid (Below w.heap.size w wr) := hbl
      obtain ⟨l, hle⟩ : ∃ l, l = L q := ⟨_, rfl⟩
      rw [← hle] at kc2
      have HE : Hid (2 * l + 9 = need L ks k) := by show _ = _; unfold need; rw [hle, ← hq]; rfl
      have hl : (l : Int) ≤ 1048576 := by
        have h1 := HE.out
        have h2 := sumN_le (need L ks) K (k + 1) (by omega)
        have h3 := HS.out
        simp only [sumN] at h2
        omega
      clear cells cells2 hq hqr hle hx1 hbl
      go_wp2_with (go_at_call 34; refine (bytes34 _ _ _ _ _).mono ?_; rintro e w1 ⟨rfl, rfl⟩)
      go_roundw
      case rel =>
        refine ⟨k + 1, _, by omega, by go_num, rfl, ?_, ?_, ?_⟩
        · split <;> omega
        · have h1 := HX.out; have h2 := HE.out; simp only [sumN]; split <;> omega
        · exact HB.out.alloc (by have := HB.out.size; omega) _
      case measure => simp [intOf]; omega
    · obtain rfl : k = K := by omega
      clear hlt hk
      obtain ⟨w1, c1, hmk, ho1, hb1⟩ : ∃ (w1 : World) (c1 : Nat), (Instr.makeSlice 27 (.int .i64 0) (.int .i64 x)).run Try.prog wr = .ok (.slice (some ⟨wr.heap.size, 0, none⟩) 0 c1) w1 ∧ Owns w1 w.heap.size (.slice (some ⟨wr.heap.size, 0, none⟩) 0 c1) [] ∧ Below w.heap.size w w1 :=
        ⟨_, _, make0 x hx0 (by omega) wr, made_owns wr w.heap.size x.toNat (by have := hbl.size; omega) (by omega), hbl.alloc (by have := hbl.size; omega) _⟩
      have cI1 : w1.cell? ⟨pI, 1, none⟩ = some (.slice ka k kcap) := by rw [hb1.cell (by exact hp)]; exact cI
      have HO1 : Hid (Owns w1 w.heap.size (.slice (some ⟨wr.heap.size, 0, none⟩) 0 c1) []) := ho1
      have HB1 : Hid (Below w.heap.size w w1) := hb1
      clear hbl hx1 ho1 hb1
      go_wp2
      obtain ⟨w0, hw0⟩ : ∃ w0, w0 = w := ⟨_, rfl⟩
      go_loopw [38, 8] (fun i s wi => ∃ m : Nat, m ≤ k ∧ i = .int .i64 m ∧ Owns wi w.heap.size s (encAll E ks m) ∧ Below w.heap.size w wi) (fun i _ _ => k - (intOf i).toNat)
      case atStart => exact ⟨0, Nat.zero_le _, rfl, HO1.out, HB1.out⟩
      case round =>
      obtain ⟨m, hm, rfl, hoi, hbi⟩ := hrel
      by_cases hlt : m < k
      · obtain ⟨b, o, hA, hbw, cells⟩ := HK.out (by omega)
        subst hA
        have kc : wr.cell? ⟨b, o + m, none⟩ = some (.int .i64 (ks m)) := by rw [hbi.cell (by exact hbw)]; exact cells m hlt
        have hki : (m : Int) < (k : Int) := by omega
        have hqr := HI.out m hlt
        obtain ⟨q, hq⟩ : ∃ q : Nat, (q : Int) = ks m := ⟨(ks m).toNat, by omega⟩
        have HQ : Hid ((q : Int) = ks m) := hq
        rw [← hq] at kc hqr
        have hqN : q < N := by omega
        have hqi : (q : Int) < (N : Int) := by omega
        obtain ⟨b2, o2, hA2, hbw2, cells2⟩ := HR.out.row (by omega)
        subst hA2
        have kc0 : wr.cell? ⟨b2, o2 + q * 3, none⟩ = some (.int .u8 (T q)) := by rw [hbi.cell (by exact hbw2)]; exact (cells2 q hqN).1
        have kc1 : wr.cell? ⟨b2, o2 + q * 3 + 1, none⟩ = some (.int .i64 0) := by rw [hbi.cell (by exact hbw2)]; exact (cells2 q hqN).2.1
        have kc2 : wr.cell? ⟨b2, o2 + q * 3 + 2, none⟩ = some (.slice (S q) (L q) (C q)) := by rw [hbi.cell (by exact hbw2)]; exact (cells2 q hqN).2.2
        have HSz : Hid (w.heap.size ≤ wr.heap.size) := hbi.size
        have HO2 : Hid (Owns wr w.heap.size _ (encAll E ks m)) := hoi
        have HB2 : Hid (Below w.heap.size w wr) := hbi
        obtain ⟨t, ht⟩ : ∃ t, t = T q := ⟨_, rfl⟩
        obtain ⟨sa, hsa⟩ : ∃ sa, sa = S q := ⟨_, rfl⟩
        obtain ⟨l, hl⟩ : ∃ l, l = L q := ⟨_, rfl⟩
        obtain ⟨c, hc⟩ : ∃ c, c = C q := ⟨_, rfl⟩
        rw [← ht] at kc0
        rw [← hsa, ← hl, ← hc] at kc2
        have HAP : Hid (∀ u, Owns wr w.heap.size u (encAll E ks m) → Calls Try.prog 35 #[u, .slice (some ⟨wr.heap.size, 0, none⟩) 1 1] (wr.alloc (.cells #[.int .u8 t, .int .i64 0, .slice sa l c] 46)) fun e w' => ∃ v', e = .returned v' ∧ Owns w' w.heap.size v' (encAll E ks (m + 1)) ∧ Below w.heap.size w w') := by
          intro u hu
          have hlen := encAll_len HR.out ks k HI.out m hm
          have hs1 := sumN_le (need L ks) k (m + 1) (by omega)
          have hs2 := HS.out
          have hnd : need L ks m = 2 * l + 9 := by unfold need; rw [hl, ← HQ.out]; rfl
          simp only [sumN, hnd] at hs1
          have hE : encAll E ks (m + 1) = encAll E ks m ++ E q := by show _ ++ _ = _; rw [← HQ.out]; rfl
          have hba : Below w.heap.size w (wr.alloc (.cells #[.int .u8 t, .int .i64 0, .slice sa l c] 46)) := HB2.out.alloc HSz.out _
          have hsz := HSz.out
          rcases HR.out.each q hqN with ⟨h1, h2, h3, h4, h5⟩ | ⟨h1, bs, hb, h5⟩
          · refine (append_int w.heap.size u _ _ (hu.alloc _) (by simp; omega) (by omega) wr.heap.size (by simp) (box_cell _ _ _ _ _ (by rw [ht, h1]; rfl)) (box_cell _ _ _ _ _ rfl) (box_cell _ _ _ _ _ (by rw [hsa, hl, hc, h2, h3, h4]; rfl))).mono ?_
            rintro e w' ⟨v', rfl, ho', hb'⟩
            refine ⟨v', rfl, ?_, hba.trans hb'⟩
            rw [hE, h5]; exact ho'
          · refine (append_bytes w.heap.size u _ bs _ (hu.alloc _) (by simp; omega) (by have := hb.1; omega) wr.heap.size (by simp) sa l c (box_cell _ _ _ _ _ (by rw [ht, h1]; rfl)) (box_cell _ _ _ _ _ rfl) (box_cell _ _ _ _ _ rfl) (by rw [hl]; exact hb.1) ?_).mono ?_
            · intro h0
              rw [hl] at h0
              obtain ⟨b3, o3, e3, hb3, c3⟩ := hb.2 h0
              refine ⟨b3, o3, by rw [hsa, e3], hb3, fun j hj => ?_⟩
              rw [hba.cell (by exact hb3)]
              exact c3 j (by omega)
            · rintro e w' ⟨v', rfl, ho', hb'⟩
              refine ⟨v', rfl, ?_, hba.trans hb'⟩
              rw [hE, h5]; exact ho'
        clear cells cells2 hq hqr ht hsa hl hc hoi hbi
        go_wp2_with (go_at_call 35; refine (HAP.out _ HO2.out).mono ?_; rintro e w3 ⟨v3, rfl, ho3, hb3⟩; have HO3 : Hid (Owns w3 w.heap.size v3 (encAll E ks (m + 1))) := ho3; have HB3 : Hid (Below w.heap.size w w3) := hb3; clear ho3 hb3)
        go_roundw
        case rel => exact ⟨m + 1, by omega, by go_num, HO3.out, HB3.out⟩
        case measure => simp [intOf]; omega
      · obtain rfl : m = k := by omega
        clear hlt hm
        go_wp2
        go_ret
        exact ⟨_, rfl, hoi, hbi⟩
set_option maxRecDepth 100000 in
theorem zzentry_any (K kcap N cap : Nat) (ka ra : Option Addr) (ks : Nat → Int) (T : Nat → Int) (S : Nat → Option Addr) (L C : Nat → Nat) (E : Nat → List Int) (w : World) (hK : K ≤ 65536) (hN : N ≤ 65536) (hk : Keys w ka K ks) (hin : ∀ j, j < K → 0 ≤ ks j ∧ ks j < N) (hr : RowV w ra N T S L C E) (hsum : sumN (need L ks) K ≤ 1048576) :
    Calls Try.prog 22 #[.slice ka K kcap, .slice ra N cap] w fun e w' => ∃ v, e = .returned v ∧ Owns w' w.heap.size v (encAll E ks K) ∧ Below w.heap.size w w' := by
  have HK : Hid (Keys w ka K ks) := hk
  have HI : Hid (∀ j, j < K → 0 ≤ ks j ∧ ks j < N) := hin
  have HR : Hid (RowV w ra N T S L C E) := hr
  have HS : Hid (sumN (need L ks) K ≤ 1048576) := hsum
  clear hk hin hr hsum
  go_enter Try.func22, Try.ntmps22
  have HB : Hid (Below w.heap.size w (w.alloc (.cells #[.slice none 0 0, .slice ka K kcap, .slice none 0 0, .pointer none] 59))) := (Below.refl _ _).alloc (Nat.le_refl _) _
  go_wp2_with (go_at_call 31; refine (entry_any w.heap.size K kcap N cap ka ra ks T S L C E _ (by simp) (box_cell _ _ _ _ _ rfl) hK hN (HK.out.below HB.out) HI.out (HR.out.below HB.out) HS.out).mono ?_; rintro e w1 ⟨v1, rfl, ho1, hb1⟩)
  have h1 : w.heap.size ≤ (w.alloc (.cells #[.slice none 0 0, .slice ka K kcap, .slice none 0 0, .pointer none] 59)).heap.size := by simp
  have HO2 : Hid (Owns w1 w.heap.size v1 (encAll E ks K)) := ho1.mono h1
  have HB2 : Hid (Below w.heap.size w w1) := HB.out.trans (hb1.mono h1)
  clear ho1 hb1
  go_wp2
  go_ret
  exact ⟨_, rfl, HO2.out, HB2.out⟩
end Go.Proofs.Qxb6614843a
