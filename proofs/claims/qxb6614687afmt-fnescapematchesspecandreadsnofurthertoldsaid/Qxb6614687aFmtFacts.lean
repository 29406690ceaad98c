/-
  THE CLOSED FACTS FOR A WALK OVER fmt's STOPPED FRONT 'fmt.errorf' at this dump: the stop itself, the three literal formats, the operands (a string, an int, a byte, a slice of bytes), the error type that it makes. Typed after the guide's Derived/Test/CheckFmt.lean and TagSlice.lean. Each is proved by the kernel's evaluation.
-/
import Derived.Test.Qxb6614687aFmtCards
import Derived.Stop.CallBack
import Derived.Stop.IfaceNil
import GoSem.ClaimData
import Derived.Laws.Cells
import Derived.Stop.FmtTextSlices
namespace Go.Proofs.Qxb6614687aFmt
open Go.Extern.Stop Go.Stop Go.Extern

theorem call31 (args : Array Value) (w : World) : (callFunc 31 args).run Tryf.prog w = ((FmtStop.errorf #[9, 74] #[25] args).run Tryf.prog w).andThen fun v w' => .ok (.value v) w' :=
  run_callFunc_extern Tryf.func31 (by kernel_rfl) (by kernel_rfl) (by kernel_rfl) (by kernel_rfl) args w
theorem fmtGuard (name : String) (w : World) : (FmtStop.guard name).run Tryf.prog w = .ok () w := by kernel_rfl

/-- "the JSON ends where %s is due" -/
def fEnds : ByteArray := ⟨#[116, 104, 101, 32, 74, 83, 79, 78, 32, 101, 110, 100, 115, 32, 119, 104, 101, 114, 101, 32, 37, 115, 32, 105, 115, 32, 100, 117, 101]⟩
theorem fmtEnds (w : World) : (FmtDoors.printed ⟨#[116, 104, 101, 32, 74, 83, 79, 78, 32, 101, 110, 100, 115, 32, 119, 104, 101, 114, 101, 32, 37, 115, 32, 105, 115, 32, 100, 117, 101]⟩ 1).run Tryf.prog w = .ok [(0, 115, false)] w := by kernel_rfl
/-- "invalid character %q at byte %d of the JSON, where %s is due" -/
theorem fmtInvalid (w : World) : (FmtDoors.printed ⟨#[105, 110, 118, 97, 108, 105, 100, 32, 99, 104, 97, 114, 97, 99, 116, 101, 114, 32, 37, 113, 32, 97, 116, 32, 98, 121, 116, 101, 32, 37, 100, 32, 111, 102, 32, 116, 104, 101, 32, 74, 83, 79, 78, 44, 32, 119, 104, 101, 114, 101, 32, 37, 115, 32, 105, 115, 32, 100, 117, 101]⟩ 3).run Tryf.prog w = .ok [(0, 113, false), (1, 100, false), (2, 115, false)] w := by kernel_rfl
/-- "string escape %s is a lone UTF-16 surrogate, which canonical JSON cannot hold" -/
theorem fmtLone (w : World) : (FmtDoors.printed ⟨#[115, 116, 114, 105, 110, 103, 32, 101, 115, 99, 97, 112, 101, 32, 37, 115, 32, 105, 115, 32, 97, 32, 108, 111, 110, 101, 32, 85, 84, 70, 45, 49, 54, 32, 115, 117, 114, 114, 111, 103, 97, 116, 101, 44, 32, 119, 104, 105, 99, 104, 32, 99, 97, 110, 111, 110, 105, 99, 97, 108, 32, 74, 83, 79, 78, 32, 99, 97, 110, 110, 111, 116, 32, 104, 111, 108, 100]⟩ 1).run Tryf.prog w = .ok [(0, 115, false)] w := by kernel_rfl

def shape9 : List UInt8 := [12, 6, 0, 0, 0, 0, 0, 0, 0, 115, 116, 114, 105, 110, 103]
theorem op9_115w (name : String) (x : ByteArray) (w : World) : (FmtStop.operand name true 115 false (.iface 9 (.string x))).run Tryf.prog w = .ok (shape9, FmtStop.pack x.data.toList) w := by kernel_rfl
def shape3 : List UInt8 := [5, 3, 0, 0, 0, 0, 0, 0, 0, 105, 110, 116]
theorem op3_100w (name : String) (x : Int) (w : World) : (FmtStop.operand name true 100 false (.iface 3 (.int .i64 x))).run Tryf.prog w = .ok (shape3, Go.Extern.Stop.digits 8 (x % 2 ^ 64).toNat) w := by kernel_rfl
def shape5 : List UInt8 := [6, 5, 0, 0, 0, 0, 0, 0, 0, 117, 105, 110, 116, 56]
theorem op5_113w (name : String) (x : Int) (w : World) : (FmtStop.operand name true 113 false (.iface 5 (.int .u8 x))).run Tryf.prog w = .ok (shape5, Go.Extern.Stop.digits 8 (x % 2 ^ 64).toNat) w := by kernel_rfl

theorem ptr61 (w : World) : (FmtStop.ptrTo "errors.errorString").run Tryf.prog w = .ok 61 w := by kernel_rfl
theorem elem61 (w : World) : (elemOf 61).run Tryf.prog w = .ok 63 w := by kernel_rfl

/-! ### a slice of bytes that lies in memory, as an operand of %s -/
def shape22 : List UInt8 := 13 :: (FmtStop.pack "[]uint8".toUTF8.data.toList ++ 6 :: FmtStop.pack "uint8".toUTF8.data.toList)
theorem value5 (name : String) (x : Int) (w : World) : (FmtStop.value name FmtStop.depth 5 [.int .u8 x]).run Tryf.prog w = .ok (digits 8 (x % 2 ^ 64).toNat) w := by kernel_rfl
theorem values5 (name : String) (w : World) : ∀ xs : List Int, (List.mapM ((fun c => FmtStop.value name FmtStop.depth 5 [c]) ∘ Value.int IntKind.u8) xs).run Tryf.prog w = .ok (xs.map fun x => digits 8 (x % 18446744073709551616).toNat) w
  | [] => by simp [List.mapM_nil]
  | x :: xs => by
    have ih := values5 name w xs
    have h := value5 name x w
    simp [List.mapM_cons, h, ih, Result.andThen]
theorem opBytes_115w (name : String) (a : Addr) (cap : Nat) (xs : List Int) (w : World) (hc : ∀ j v, (xs.map (Value.int .u8))[j]? = some v → w.cell? (a.add j) = some v) :
    (FmtStop.operand name true 115 false (.iface 22 (.slice (some a) xs.length cap))).run Tryf.prog w = .ok (shape22, 1 :: (digits 8 xs.length ++ FmtText.intValues xs)) w := by
  have h1 : (typeStr 22).run Tryf.prog w = .ok "[]uint8" w := by kernel_rfl
  have d2 : Tryf.t22.desc = .slice 5 := rfl
  have hb : (FmtStop.bare (FmtStop.asked true 115 false) 22).run Tryf.prog w = .ok true w := by kernel_rfl
  have hs : (FmtStop.scalar 5).run Tryf.prog w = .ok true w := by kernel_rfl
  have hy : (Extern.Stop.isByte 5).run Tryf.prog w = .ok true w := by kernel_rfl
  have hw : Tryf.prog.funcs.any (·.name == FmtStop.writeWord) = true := by kernel_rfl
  have hsh : (FmtStop.shape name (FmtStop.asked true 115 false) FmtStop.depth 5).run Tryf.prog w = .ok (6 :: FmtStop.pack "uint8".toUTF8.data.toList) w := by kernel_rfl
  have hl := run_loadCells_list (P := Tryf.prog) w a (xs.map (Value.int .u8)) hc
  rw [List.length_map] at hl
  simp [FmtStop.operand, h1, hb, hs, hy, hsh, hl, values5, shape22, FmtText.intValues]
  intro hno
  obtain ⟨i, hi, _, _, he⟩ := Array.any_iff_exists.1 hw
  exact absurd (by simpa using he) (hno i hi)
end Go.Proofs.Qxb6614687aFmt
