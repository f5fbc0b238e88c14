import Derived.Test.Qxb6605743aRows
import Derived.WalkKit
import Derived.ProofKit
import Derived.OpenShut
namespace Go.Proofs.Qxb6605743a
open Go.RowKit

/-- What 'OnSupremum' computes. -/
def onSup (a : Int) : Int := bits BinOp.or IntKind.u8 (bits BinOp.andNot IntKind.u8 a 2) 16
/-- What 'GapOnly' computes. -/
def gapOn (a : Int) : Int := bits BinOp.or IntKind.u8 (bits BinOp.and IntKind.u8 a 1) 4

theorem onSup_any (a : Int) (w : World) :
    Calls Try.prog 9 #[.int .u8 a] w fun e w' => e = .returned (.int .u8 (onSup a)) ∧ w' = w := by
  go_enter Try.func9, Try.ntmps9
  go_wp2
  go_ret
  exact ⟨rfl, rfl⟩

theorem gapOn_any (a : Int) (w : World) :
    Calls Try.prog 10 #[.int .u8 a] w fun e w' => e = .returned (.int .u8 (gapOn a)) ∧ w' = w := by
  go_enter Try.func10, Try.ntmps10
  go_wp2
  go_ret
  exact ⟨rfl, rfl⟩

theorem byte_of {a : Int} (h : (Lit.int .u8 a).wf = true) : 0 ≤ a ∧ a < 256 := by
  have := bounds_u8 h
  omega

/-- A test on bytes that holds at all 256 holds at every well-formed uint8. -/
theorem of_bytes {p : Int → Bool} (h : ∀ n : Fin 256, p (n.val : Int) = true) {a : Int} (w0 : (Lit.int .u8 a).wf = true) : p a = true := by
  obtain ⟨h0, h1⟩ := byte_of w0
  have := h ⟨a.toNat, by omega⟩
  rwa [show ((⟨a.toNat, by omega⟩ : Fin 256).val : Int) = a from by simp; omega] at this

theorem sup_laws {a : Int} (w0 : (Lit.int .u8 a).wf = true) :
    (((onSup a / 16 % 2 == 1) && (onSup a / 2 % 2 == 0)) && (onSup (onSup a) == onSup a) && (gapOn (onSup a) == gapOn a) && (onSup (bits BinOp.xor IntKind.u8 a 2) == onSup a) && decide (0 ≤ onSup a) && decide (onSup a ≤ 255)) = true :=
  of_bytes (p := fun a => (((onSup a / 16 % 2 == 1) && (onSup a / 2 % 2 == 0)) && (onSup (onSup a) == onSup a) && (gapOn (onSup a) == gapOn a) && (onSup (bits BinOp.xor IntKind.u8 a 2) == onSup a) && decide (0 ≤ onSup a) && decide (onSup a ≤ 255))) (by decide +kernel) w0

theorem gap_laws {a : Int} (w0 : (Lit.int .u8 a).wf = true) :
    ((gapOn (a % 2) == gapOn a) && !(gapOn a == gapOn (bits BinOp.xor IntKind.u8 a 1)) && (gapOn (gapOn a) == gapOn a) && (onSup (gapOn a) == onSup (gapOn (onSup a)))) = true :=
  of_bytes (p := fun a => ((gapOn (a % 2) == gapOn a) && !(gapOn a == gapOn (bits BinOp.xor IntKind.u8 a 1)) && (gapOn (gapOn a) == gapOn a) && (onSup (gapOn a) == onSup (gapOn (onSup a))))) (by decide +kernel) w0

end Go.Proofs.Qxb6605743a
