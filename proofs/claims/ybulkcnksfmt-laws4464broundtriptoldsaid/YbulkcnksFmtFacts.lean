/-
  The closed facts for a walk over the stop fmt.errorf in this program.
-/
import Derived.Test.YbulkcnksFmtRows
import Derived.Stop.CallBack
import Derived.Stop.IfaceNil
import Derived.Laws.Cells
import Derived.Stop.FmtTextSlices
import GoSem.ClaimData
namespace Go.Proofs.YbulkcnksFmt
open Go.Extern.Stop Go.Stop Go.Extern

theorem call8 (args : Array Value) (w : World) : (callFunc 8 args).run Ybaf.prog w = ((FmtStop.errorf #[9, 32] #[24] args).run Ybaf.prog w).andThen fun v w' => .ok (.value v) w' :=
  run_callFunc_extern Ybaf.func8 (by kernel_rfl) (by kernel_rfl) (by kernel_rfl) (by kernel_rfl) args w

theorem guard (name : String) (w : World) : (FmtStop.guard name).run Ybaf.prog w = .ok () w := by kernel_rfl

/-- the bytes of the format -/
def fmtB : ByteArray := ⟨#[112, 117, 115, 104, 58, 32, 37, 113, 32, 105, 115, 32, 110, 111, 116, 32, 97, 110, 32, 111, 117, 116, 99, 111, 109, 101]⟩
theorem fmt1 : FmtStop.printed? ⟨#[112, 117, 115, 104, 58, 32, 37, 113, 32, 105, 115, 32, 110, 111, 116, 32, 97, 110, 32, 111, 117, 116, 99, 111, 109, 101]⟩ 1 = some [(0, 113, false)] := by kernel_rfl
theorem fmt1r (w : World) : (FmtDoors.printed ⟨#[112, 117, 115, 104, 58, 32, 37, 113, 32, 105, 115, 32, 110, 111, 116, 32, 97, 110, 32, 111, 117, 116, 99, 111, 109, 101]⟩ 1).run Ybaf.prog w = .ok [(0, 113, false)] w := by kernel_rfl

def shape26 : List UInt8 := 13 :: (FmtStop.pack "[]uint8".toUTF8.data.toList ++ 6 :: FmtStop.pack "uint8".toUTF8.data.toList)

theorem value5 (name : String) (x : Int) (w : World) : (FmtStop.value name FmtStop.depth 5 [.int .u8 x]).run Ybaf.prog w = .ok (digits 8 (x % 2 ^ 64).toNat) w := by kernel_rfl

theorem values5 (name : String) (w : World) : ∀ xs : List Int, (List.mapM ((fun c => FmtStop.value name FmtStop.depth 5 [c]) ∘ Value.int IntKind.u8) xs).run Ybaf.prog w = .ok (xs.map fun x => digits 8 (x % 18446744073709551616).toNat) w
  | [] => by simp [List.mapM_nil]
  | x :: xs => by
    have ih := values5 name w xs
    have h := value5 name x w
    simp [List.mapM_cons, h, ih, Result.andThen]

theorem opBytes (name : String) (a : Addr) (cap : Nat) (xs : List Int) (w : World) (hc : ∀ j v, (xs.map (Value.int .u8))[j]? = some v → w.cell? (a.add j) = some v) :
    (FmtStop.operand name true 113 false (.iface 26 (.slice (some a) xs.length cap))).run Ybaf.prog w = .ok (shape26, 1 :: (digits 8 xs.length ++ FmtText.intValues xs)) w := by
  have h1 : (typeStr 26).run Ybaf.prog w = .ok "[]uint8" w := by kernel_rfl
  have d2 : Ybaf.t26.desc = .slice 5 := rfl
  have hb : (FmtStop.bare (FmtStop.asked true 113 false) 26).run Ybaf.prog w = .ok true w := by kernel_rfl
  have hs : (FmtStop.scalar 5).run Ybaf.prog w = .ok true w := by kernel_rfl
  have hy : (Extern.Stop.isByte 5).run Ybaf.prog w = .ok true w := by kernel_rfl
  have hw : Ybaf.prog.funcs.any (·.name == FmtStop.writeWord) = true := by kernel_rfl
  have hsh : (FmtStop.shape name (FmtStop.asked true 113 false) FmtStop.depth 5).run Ybaf.prog w = .ok (6 :: FmtStop.pack "uint8".toUTF8.data.toList) w := by kernel_rfl
  have hl := run_loadCells_list (P := Ybaf.prog) w a (xs.map (Value.int .u8)) hc
  rw [List.length_map] at hl
  simp [FmtStop.operand, h1, hb, hs, hy, hsh, hl, values5, shape26, FmtText.intValues]
  intro hno
  obtain ⟨i, hi, _, _, he⟩ := Array.any_iff_exists.1 hw
  exact absurd (by simpa using he) (hno i hi)

theorem ptrErr (w : World) : (FmtStop.ptrTo "errors.errorString").run Ybaf.prog w = .ok 35 w := by kernel_rfl
theorem elemErr (w : World) : (elemOf 35).run Ybaf.prog w = .ok 37 w := by kernel_rfl
theorem isErr (w : World) : (FmtDoors.textMethod 35 "Error").run Ybaf.prog w = .ok true w := by kernel_rfl
end Go.Proofs.YbulkcnksFmt
