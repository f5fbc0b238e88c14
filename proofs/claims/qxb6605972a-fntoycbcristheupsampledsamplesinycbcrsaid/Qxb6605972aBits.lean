/-
  TWO LAWS ON BITS, for image/color's clamping: 'uint32(v) & 0xff000000 == 0' and '^(v >> 31)'.
-/
import Derived.Test.Qxb6605972aPlain
import Derived.Laws.BitsAllLaws
import Derived.WalkKit
namespace Go.Proofs.Qxb6605972a
open Go

theorem ofInt_mod (v : Int) : BitVec.ofInt 32 (v % 4294967296) = BitVec.ofInt 32 v := by
  apply BitVec.eq_of_toNat_eq
  simp [BitVec.toNat_ofInt]

theorem hi_and (v : Int) : bits BinOp.and IntKind.u32 v 4278190080 = v % 4294967296 / 16777216 * 16777216 := by
  have h : bits BinOp.and IntKind.u32 v 4278190080 = bits BinOp.and IntKind.u32 (v % 4294967296) 4278190080 := by
    show IntKind.u32.wrap ((BitVec.ofInt 32 v &&& BitVec.ofInt 32 4278190080).toNat : Int) = IntKind.u32.wrap ((BitVec.ofInt 32 (v % 4294967296) &&& BitVec.ofInt 32 4278190080).toNat : Int)
    rw [ofInt_mod]
  rw [h, u32_and _ _ (by omega) (by omega) (by omega) (by omega)]
  rw [show (4278190080 : Int).toNat = 4278190080 from rfl, nat_hi32_24]
  omega

theorem clamp_yes (v : Int) (h0 : -2147483648 ≤ v) (h1 : v < 2147483648) (h : (bits BinOp.and IntKind.u32 v 4278190080 == 0) = true) : v / 65536 % 256 = Pl.cl v := by
  rw [beq_iff_eq, hi_and] at h
  rw [Pl.cl_mid v (by omega) (by omega)]
  omega

theorem clamp_no (v : Int) (h0 : -2147483648 ≤ v) (h1 : v < 2147483648) (h : (bits BinOp.and IntKind.u32 v 4278190080 == 0) = false) :
    bits BinOp.xor IntKind.i32 (-1) (v / 2147483648) % 256 = Pl.cl v := by
  rw [beq_eq_false_iff_ne, hi_and] at h
  by_cases hv : v < 0
  · rw [Pl.cl_lo v hv, show v / 2147483648 = -1 from by omega]
    decide
  · rw [Pl.cl_hi v (by omega), show v / 2147483648 = 0 from by omega]
    decide

theorem clamp_yes' (v : Int) (h0 : -2147483648 ≤ v) (h1 : v < 2147483648) (h : (bits BinOp.and IntKind.u32 (v % 4294967296) 4278190080 == 0) = true) : v / 65536 % 256 = Pl.cl v := by
  refine clamp_yes v h0 h1 ?_
  rw [beq_iff_eq, hi_and] at h ⊢
  omega

theorem clamp_no' (v : Int) (h0 : -2147483648 ≤ v) (h1 : v < 2147483648) (h : (bits BinOp.and IntKind.u32 (v % 4294967296) 4278190080 == 0) = false) :
    bits BinOp.xor IntKind.i32 (-1) (v / 2147483648) % 256 = Pl.cl v := by
  refine clamp_no v h0 h1 ?_
  rw [beq_eq_false_iff_ne, hi_and] at h ⊢
  omega

end Go.Proofs.Qxb6605972a
