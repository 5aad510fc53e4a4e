/-
  The contracts of 'beUint32', 'beUint64', 'consumeUint32', 'consumeUint64' on bytes that 'bePutUint32' ¦ 'bePutUint64' laid.
  Conditions: none.
-/
import Derived.Test.YteooohmlmefbnaaNf
namespace Go.Proofs.Yteooohmlmefbnaa
namespace CI
open Go
open Go.RowKit

/-- The word that four bytes spell. -/
def rd4 (f : Nat → B8) : W := (((f 3).setWidth 32 ||| (f 2).setWidth 32 <<< 8) ||| (f 1).setWidth 32 <<< 16) ||| (f 0).setWidth 32 <<< 24

theorem rd4_int (b0 b1 b2 b3 : B8) : bits .or .u32 (bits .or .u32 (bits .or .u32 (b3.toNat : Int) ((b2.toNat : Int) * 256)) ((b1.toNat : Int) * 65536)) ((b0.toNat : Int) * 16777216) = (((((b3.setWidth 32 ||| b2.setWidth 32 <<< 8) ||| b1.setWidth 32 <<< 16) ||| b0.setWidth 32 <<< 24 : W)).toNat : Int) := by
  have e : ∀ (b : B8) (s : Nat), s ≤ 24 → ((b.toNat : Int) * 2 ^ s) = ((b.setWidth 32 <<< s : W).toNat : Int) := fun b s hs => by
    have hb := b.isLt
    have h2 : 2 ^ s ≤ 2 ^ 24 := Nat.pow_le_pow_right (by omega) hs
    have h3 : b.toNat * 2 ^ s < 2 ^ 32 := Nat.lt_of_le_of_lt (Nat.mul_le_mul_left _ h2) (by omega)
    rw [BitVec.toNat_shiftLeft, BitVec.toNat_setWidth, Nat.mod_eq_of_lt (show b.toNat < 2 ^ 32 by omega), Nat.shiftLeft_eq, Nat.mod_eq_of_lt h3, Int.natCast_mul, Int.natCast_pow]; rfl
  have e0 := e b0 24 (by omega)
  have e1 := e b1 16 (by omega)
  have e2 := e b2 8 (by omega)
  have e3 : (b3.toNat : Int) = ((b3.setWidth 32 : W).toNat : Int) := by
    have hb := b3.isLt
    rw [BitVec.toNat_setWidth, Nat.mod_eq_of_lt (show b3.toNat < 2 ^ 32 by omega)]
  rw [show (16777216 : Int) = 2 ^ 24 by decide, show (65536 : Int) = 2 ^ 16 by decide, show (256 : Int) = 2 ^ 8 by decide, e0, e1, e2, e3, oW_val, oW_val, oW_val]
  rfl

theorem beB_ext (x : W) (k : Nat) (_hk : k < 4) : beB x.toNat 4 k = x.extractLsb' (8 * (3 - k)) 8 := by
  apply BitVec.eq_of_toNat_eq
  rw [beB, BitVec.toNat_ofNat, BitVec.extractLsb'_toNat, Nat.shiftRight_eq_div_pow, show (256 : Nat) = 2 ^ 8 by decide, ← Nat.pow_mul, show 8 * (4 - 1 - k) = 8 * (3 - k) by omega]

theorem rd4_beB (x : W) : rd4 (beB x.toNat 4) = x := by
  rw [rd4, beB_ext x 0 (by omega), beB_ext x 1 (by omega), beB_ext x 2 (by omega), beB_ext x 3 (by omega)]
  apply BitVec.eq_of_getLsbD_eq
  intro i hi
  simp only [BitVec.getLsbD_or, BitVec.getLsbD_shiftLeft, BitVec.getLsbD_setWidth, BitVec.getLsbD_extractLsb']
  by_cases h1 : i < 8
  · simp [h1, hi, show i < 16 by omega, show i < 24 by omega]
  · by_cases h2 : i < 16
    · simp [h1, h2, hi, show i < 24 by omega, show i - 8 < 8 by omega, show 8 + (i - 8) = i by omega, show i - 8 < 32 by omega]
    · by_cases h3 : i < 24
      · simp [h1, h2, h3, hi, show i - 16 < 8 by omega, show ¬ i - 8 < 8 by omega, show 16 + (i - 16) = i by omega, show i - 16 < 32 by omega]
      · simp [h1, h2, h3, hi, show i - 24 < 8 by omega, show ¬ i - 8 < 8 by omega, show ¬ i - 16 < 8 by omega, show 24 + (i - 24) = i by omega, show i - 24 < 32 by omega]

set_option maxRecDepth 100000 in
set_option maxHeartbeats 1000000 in
theorem c91 {b o n c : Nat} {w : World} {x : W} (hg : By w b o 4 (beB x.toNat 4)) (hn : 4 ≤ n) :
    Calls Try.prog 91 #[.slice (some ⟨b, o, none⟩) n c] w fun e w' => e = .returned (.int .u32 (x.toNat : Int)) ∧ Fr (fun _ => False) w w' := by
  have q0 := hg.2 0 (by omega)
  have q1 := hg.2 1 (by omega)
  have q2 := hg.2 2 (by omega)
  have q3 := hg.2 3 (by omega)
  rw [Nat.add_zero] at q0
  have hv := rd4_int (beB x.toNat 4 0) (beB x.toNat 4 1) (beB x.toNat 4 2) (beB x.toNat 4 3)
  have hx := rd4_beB x
  rw [rd4] at hx
  rw [hx] at hv
  have HV := hidE hv
  clear hg hx hv
  obtain ⟨e0, h0⟩ : ∃ u, u = beB x.toNat 4 0 := ⟨_, rfl⟩
  obtain ⟨e1, h1⟩ : ∃ u, u = beB x.toNat 4 1 := ⟨_, rfl⟩
  obtain ⟨e2, h2⟩ : ∃ u, u = beB x.toNat 4 2 := ⟨_, rfl⟩
  obtain ⟨e3, h3⟩ : ∃ u, u = beB x.toNat 4 3 := ⟨_, rfl⟩
  rw [← h0] at q0 HV
  rw [← h1] at q1 HV
  rw [← h2] at q2 HV
  rw [← h3] at q3 HV
  clear h0 h1 h2 h3
  have l0 : 0 < n := by omega
  have l1 : 1 < n := by omega
  have l2 : 2 < n := by omega
  have l3 : 3 < n := by omega
  go_enter Try.func91, Try.ntmps91
  go_wp2_with fail
  go_quiet (fail)
  go_wp2_with fail
  go_ret
  refine ⟨?_, (Fr.refl _ _).drewN _⟩
  exact congrArg (fun v => Ending.returned (Value.int .u32 v)) HV.out

set_option maxRecDepth 100000 in
set_option maxHeartbeats 1000000 in
/-- The one length that HMAC's states bear: 64. -/
theorem c92 {b o n c : Nat} {w : World} (hg : By w b o 8 (beB 64 8)) (hn : 8 ≤ n) :
    Calls Try.prog 92 #[.slice (some ⟨b, o, none⟩) n c] w fun e w' => e = .returned (.int .u64 64) ∧ Fr (fun _ => False) w w' := by
  have q0 : w.cell? ⟨b, o + 0, none⟩ = some (.int .u8 0) := hg.2 0 (by omega)
  have q1 : w.cell? ⟨b, o + 1, none⟩ = some (.int .u8 0) := hg.2 1 (by omega)
  have q2 : w.cell? ⟨b, o + 2, none⟩ = some (.int .u8 0) := hg.2 2 (by omega)
  have q3 : w.cell? ⟨b, o + 3, none⟩ = some (.int .u8 0) := hg.2 3 (by omega)
  have q4 : w.cell? ⟨b, o + 4, none⟩ = some (.int .u8 0) := hg.2 4 (by omega)
  have q5 : w.cell? ⟨b, o + 5, none⟩ = some (.int .u8 0) := hg.2 5 (by omega)
  have q6 : w.cell? ⟨b, o + 6, none⟩ = some (.int .u8 0) := hg.2 6 (by omega)
  have q7 : w.cell? ⟨b, o + 7, none⟩ = some (.int .u8 64) := hg.2 7 (by omega)
  rw [Nat.add_zero] at q0
  clear hg
  have l0 : 0 < n := by omega
  have l1 : 1 < n := by omega
  have l2 : 2 < n := by omega
  have l3 : 3 < n := by omega
  have l4 : 4 < n := by omega
  have l5 : 5 < n := by omega
  have l6 : 6 < n := by omega
  have l7 : 7 < n := by omega
  have b0 : bits .or .u64 64 0 = 64 := by decide
  go_enter Try.func92, Try.ntmps92
  go_wp2_with fail
  go_quiet (fail)
  go_wp2_with fail
  go_ret
  exact ⟨rfl, (Fr.refl _ _).drewN _⟩

set_option maxRecDepth 100000 in
set_option maxHeartbeats 1000000 in
theorem c84 {b o n c : Nat} {w : World} {x : W} (hg : By w b o 4 (beB x.toNat 4)) (hn : 4 ≤ n) (_hc : n ≤ c) (h4 : c ≠ 4) :
    Calls Try.prog 84 #[.slice (some ⟨b, o, none⟩) n c] w fun e w' => e = .returned (.tuple #[.slice (some ⟨b, o + 4, none⟩) (n - 4) (c - 4), .int .u32 (x.toNat : Int)]) ∧ Fr (fun _ => False) w w' := by
  have HG := hidE hg
  clear hg
  have h5 : ¬ c = 4 := h4
  have h6 : (4 : Int) ≤ (n : Int) := by omega
  clear h4
  go_enter Try.func84, Try.ntmps84
  go_wp2_with fail
  go_region_with (go_at_call 91; ((with_reducible refine (c91 (HG.out.same (Fr.drew _ _)) hn).mono ?_); rintro e w2 ⟨rfl, f2⟩; have F2 := hidE ((Fr.drew (fun _ => False) w).trans f2); clear f2))
  all_goals (go_wp2_with fail; go_ret2; exact ⟨rfl, F2.out⟩)

set_option maxRecDepth 100000 in
set_option maxHeartbeats 1000000 in
theorem c85 {b o : Nat} {w : World} (hg : By w b o 8 (beB 64 8)) :
    Calls Try.prog 85 #[.slice (some ⟨b, o, none⟩) 8 8] w fun e w' => e = .returned (.tuple #[.slice (some ⟨b, o, none⟩) 0 0, .int .u64 64]) ∧ Fr (fun _ => False) w w' := by
  have HG := hidE hg
  clear hg
  go_enter Try.func85, Try.ntmps85
  go_wp2_with fail
  go_region_with (go_at_call 92; ((with_reducible refine (c92 (HG.out.same (Fr.drew _ _)) (by omega)).mono ?_); rintro e w2 ⟨rfl, f2⟩; have F2 := hidE ((Fr.drew (fun _ => False) w).trans f2); clear f2))
  all_goals (go_wp2_with fail; go_ret2; exact ⟨rfl, F2.out⟩)
end CI
end Go.Proofs.Yteooohmlmefbnaa
