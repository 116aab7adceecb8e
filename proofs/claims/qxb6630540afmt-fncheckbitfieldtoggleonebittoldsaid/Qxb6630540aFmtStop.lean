/-
  THE CLOSED FACTS FOR A WALK OVER THE STOP fmt.errorf, at this program's numbers; what fmt.Errorf does at CheckBitfield's format.
-/
import Derived.Test.Qxb6630540aFmtCards
import Derived.Stop.CallBack
import Derived.Stop.IfaceNil
import Derived.WalkKit
import Derived.WalkSpells
import Derived.WalkLawsBesides
import GoSem.ClaimData
namespace Go.Proofs.Qxb6630540aFmt
open Go.RowKit Go.Extern.Stop Go.Stop Go.Extern

theorem s_call11 (args : Array Value) (w : World) : (callFunc 11 args).run Tryf.prog w = ((FmtStop.errorf #[9, 32] #[26] args).run Tryf.prog w).andThen fun v w' => .ok (.value v) w' :=
  run_callFunc_extern Tryf.func11 (by kernel_rfl) (by kernel_rfl) (by kernel_rfl) (by kernel_rfl) args w
theorem s_guard (name : String) (w : World) : (FmtStop.guard name).run Tryf.prog w = .ok () w := by kernel_rfl

theorem s_fmt0 : FmtStop.printed? ⟨#[98, 105, 116, 102, 105, 101, 108, 100, 32, 111, 102, 32, 37, 100, 32, 98, 121, 116, 101, 115, 32, 102, 111, 114, 32, 37, 100, 32, 112, 105, 101, 99, 101, 115, 44, 32, 119, 97, 110, 116, 32, 37, 100, 32, 98, 121, 116, 101, 115]⟩ 3 = some [(0, 100, false), (1, 100, false), (2, 100, false)] := by kernel_rfl
theorem s_fmt0r (w : World) : (FmtDoors.printed ⟨#[98, 105, 116, 102, 105, 101, 108, 100, 32, 111, 102, 32, 37, 100, 32, 98, 121, 116, 101, 115, 32, 102, 111, 114, 32, 37, 100, 32, 112, 105, 101, 99, 101, 115, 44, 32, 119, 97, 110, 116, 32, 37, 100, 32, 98, 121, 116, 101, 115]⟩ 3).run Tryf.prog w = .ok [(0, 100, false), (1, 100, false), (2, 100, false)] w := by kernel_rfl

def s_shape3 : List UInt8 := [5, 3, 0, 0, 0, 0, 0, 0, 0, 105, 110, 116]
theorem s_op3_100 (name : String) (x : Int) (w : World) : (FmtStop.operand name false 100 false (.iface 3 (.int .i64 x))).run Tryf.prog w = .ok (s_shape3, Go.Extern.Stop.digits 8 (x % 2 ^ 64).toNat) w := by kernel_rfl
theorem s_op3_100w (name : String) (x : Int) (w : World) : (FmtStop.operand name true 100 false (.iface 3 (.int .i64 x))).run Tryf.prog w = .ok (s_shape3, Go.Extern.Stop.digits 8 (x % 2 ^ 64).toNat) w := by kernel_rfl
theorem s_ptr34 (w : World) : (FmtStop.ptrTo "errors.errorString").run Tryf.prog w = .ok 34 w := by kernel_rfl
theorem s_elem34 (w : World) : (elemOf 34).run Tryf.prog w = .ok 36 w := by kernel_rfl
theorem s_isError34' (w : World) : (FmtDoors.textMethod 34 "Error").run Tryf.prog w = .ok true w := by kernel_rfl

attribute [local go_sem] s_call11 s_guard s_fmt0 s_fmt0r s_op3_100 s_op3_100w s_ptr34 s_elem34 s_isError34'

/-- fmt.Errorf at the one format, its three operands lying in the variadic slice's block: a new error; the old memory stays. -/
theorem errorf_c (F : Interp) (x y z : Int) (blk : Nat) (w : World) (hF : F.answers w.tape)
    (hc0 : w.cell? ⟨blk, 0, none⟩ = some (.iface 3 (.int .i64 x))) (hc1 : w.cell? ⟨blk, 1, none⟩ = some (.iface 3 (.int .i64 y))) (hc2 : w.cell? ⟨blk, 2, none⟩ = some (.iface 3 (.int .i64 z))) :
    Calls Tryf.prog 9 #[.string ⟨#[98, 105, 116, 102, 105, 101, 108, 100, 32, 111, 102, 32, 37, 100, 32, 98, 121, 116, 101, 115, 32, 102, 111, 114, 32, 37, 100, 32, 112, 105, 101, 99, 101, 115, 44, 32, 119, 97, 110, 116, 32, 37, 100, 32, 98, 121, 116, 101, 115]⟩, .slice (some ⟨blk, 0, none⟩) 3 3] w fun e w' =>
      e = .returned (.iface 34 (.pointer (some ⟨w.heap.size, 0, none⟩))) ∧ Below w.heap.size w w' := by
  have hF' := answers_open hF
  go_enter Tryf.func9, Tryf.ntmps9
  go_wp2
  go_ret
  exact ⟨rfl, ((Below.refl _ w).alloc (Nat.le_refl _) _).drew⟩

/-- BitfieldBytes's answer. -/
def bfb (n : Int) : Int := wrap64 ((wrap64 (n + 7)).tdiv 8)

theorem bytes_c (n : Int) (w : World) :
    Calls Tryf.prog 8 #[.int .i64 n] w fun e w' => e = .returned (.int .i64 (bfb n)) ∧ w = w' := by
  go_enter Tryf.func8, Tryf.ntmps8
  go_wp2
  go_ret
  exact ⟨rfl, rfl⟩

theorem new_c (s : ByteArray) (w : World) :
    Calls Tryf.prog 10 #[.string s] w fun e w' => e = .returned (.iface 34 (.pointer (some ⟨w.heap.size, 0, none⟩))) ∧ Below w.heap.size w w' := by
  go_enter Tryf.func10, Tryf.ntmps10
  go_wp2
  go_ret
  exact ⟨rfl, ((Below.refl _ w).alloc (Nat.le_refl _) _)⟩

end Go.Proofs.Qxb6630540aFmt
