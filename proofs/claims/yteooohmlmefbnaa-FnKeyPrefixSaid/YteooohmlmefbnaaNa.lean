/-
  Words of 32 bits in the walk's spelling; the contract of 'bits.RotateLeft32'.
  Conditions: none.
-/
import Derived.Test.YteooohmlmefbnaaMa
namespace Go.Proofs.Yteooohmlmefbnaa
namespace CI
open Go
open Go.RowKit

/-- A word turned to the left by c. -/
def rl (c : Nat) (x : W) : W := x <<< c ||| x >>> (32 - c)

theorem rl_val (c : Nat) (x : W) : bits .or .u32 ((x.toNat : Int) * 2 ^ c % 4294967296) ((x.toNat : Int) / 2 ^ (32 - c)) = ((rl c x).toNat : Int) := by
  have hx := x.isLt
  have e : ((x.toNat : Int) * 2 ^ c % 4294967296) = ((x.toNat * 2 ^ c % 4294967296 : Nat) : Int) := by
    rw [Int.natCast_emod, Int.natCast_mul, Int.natCast_pow]; rfl
  have e2 : ((x.toNat : Int) / 2 ^ (32 - c)) = ((x.toNat / 2 ^ (32 - c) : Nat) : Int) := by
    rw [Int.natCast_ediv, Int.natCast_pow]; rfl
  rw [e, e2, u32_or_nat _ _ (Nat.mod_lt _ (by omega)) (Nat.lt_of_le_of_lt (Nat.div_le_self _ _) (by omega))]
  unfold rl
  rw [BitVec.toNat_or, BitVec.toNat_shiftLeft, BitVec.toNat_ushiftRight, Nat.shiftLeft_eq, Nat.shiftRight_eq_div_pow]

set_option maxHeartbeats 400000 in
theorem c38 {k : Int} {c : Nat} (hk : bits .and .u64 (IntKind.u64.wrap k) 31 = (c : Int)) (hc1 : c ≤ 31) (x : W) (w : World) : Calls Try.prog 38 #[.int .u32 (x.toNat : Int), .int .i64 k] w fun e w' => e = .returned (.int .u32 ((rl c x).toNat : Int)) ∧ w = w' := by
  have hx := x.isLt
  have hv := rl_val c x
  go_enter Try.func38, Try.ntmps38
  go_wp2
  go_ret
  exact ⟨rfl, rfl⟩
/-! ### The other operations, behind names that the walk does not lay open -/
def xW (x y : W) : W := x ^^^ y
def aW (x y : W) : W := x &&& y
def oW (x y : W) : W := x ||| y
def pW (x y : W) : W := x + y
def rW (c : Nat) (x : W) : W := x >>> c
theorem xW_val (x y : W) : bits .xor .u32 (x.toNat : Int) (y.toNat : Int) = ((xW x y).toNat : Int) := u32_xor_bv x y
theorem aW_val (x y : W) : bits .and .u32 (x.toNat : Int) (y.toNat : Int) = ((aW x y).toNat : Int) := by
  rw [u32_and_nat _ _ x.isLt y.isLt, aW, BitVec.toNat_and]
theorem oW_val (x y : W) : bits .or .u32 (x.toNat : Int) (y.toNat : Int) = ((oW x y).toNat : Int) := by
  rw [u32_or_nat _ _ x.isLt y.isLt, oW, BitVec.toNat_or]
theorem pW_val (x y : W) : ((x.toNat : Int) + (y.toNat : Int)) % 4294967296 = ((pW x y).toNat : Int) := by
  rw [pW, BitVec.toNat_add]; omega
theorem rW_val (c : Nat) (x : W) : (x.toNat : Int) / 2 ^ c = ((rW c x).toNat : Int) := by
  rw [rW, BitVec.toNat_ushiftRight, Nat.shiftRight_eq_div_pow, Int.natCast_ediv, Int.natCast_pow]; rfl
end CI
end Go.Proofs.Yteooohmlmefbnaa
