/-
  The contracts of 'bePutUint32', 'bePutUint64'.
  Conditions: none.
-/
import Derived.Test.YteooohmlmefbnaaNd
namespace Go.Proofs.Yteooohmlmefbnaa
namespace CI
open Go
open Go.RowKit

def beB (x m : Nat) (k : Nat) : B8 := BitVec.ofNat 8 (x / 256 ^ (m - 1 - k))

theorem beB_val (x m k : Nat) : ((beB x m k).toNat : Int) = (x : Int) / ((256 ^ (m - 1 - k) : Nat) : Int) % 256 := by
  simp only [beB, BitVec.toNat_ofNat, Nat.reducePow, Int.natCast_emod, Int.natCast_ediv, Int.cast_ofNat_Int]

set_option maxRecDepth 100000 in
set_option maxHeartbeats 1000000 in
theorem c90 {b o n c : Nat} {w : World} {g : Nat → B8} {x : W} (hg : By w b o 4 g) (hf : Nf w b o 4) (hn : 4 ≤ n) :
    Calls Try.prog 90 #[.slice (some ⟨b, o, none⟩) n c, .int .u32 (x.toNat : Int)] w fun e w' => e = .returned (.tuple #[]) ∧ By w' b o 4 (beB x.toNat 4) ∧ Fr (inR b o 4) w w' := by
  have q0 := hg.2 0 (by omega)
  have q1 := hg.2 1 (by omega)
  have q2 := hg.2 2 (by omega)
  have q3 := hg.2 3 (by omega)
  have f0 := hf 0 (by omega)
  have f1 := hf 1 (by omega)
  have f2 := hf 2 (by omega)
  have f3 := hf 3 (by omega)
  rw [Nat.add_zero] at q0 f0
  have l0 : 0 < n := by omega
  have l1 : 1 < n := by omega
  have l2 : 2 < n := by omega
  have l3 : 3 < n := by omega
  have HG := hidE hg
  have HF := hidE hf
  clear hg hf
  go_enter Try.func90, Try.ntmps90
  go_wp2_with fail
  go_end0
  have v0 : (x.toNat : Int) / 16777216 = ((beB x.toNat 4 0).toNat : Int) := by
    rw [beB_val]; have := x.isLt; simp only [Nat.reduceSub, Nat.reducePow]; omega
  have v1 : (x.toNat : Int) / 65536 % 256 = ((beB x.toNat 4 1).toNat : Int) := by rw [beB_val]; simp only [Nat.reduceSub, Nat.reducePow]; rfl
  have v2 : (x.toNat : Int) / 256 % 256 = ((beB x.toNat 4 2).toNat : Int) := by rw [beB_val]; simp only [Nat.reduceSub, Nat.reducePow]; rfl
  have v3 : (x.toNat : Int) % 256 = ((beB x.toNat 4 3).toNat : Int) := by rw [beB_val]; simp only [Nat.reduceSub, Nat.reducePow]; omega
  rw [v0, v1, v2, v3]
  have z := (((HG.out.set1 (i := 0) (by omega) (beB x.toNat 4 0)).set1 (i := 1) (by omega) (beB x.toNat 4 1)).set1 (i := 2) (by omega) (beB x.toNat 4 2)).set1 (i := 3) (by omega) (beB x.toNat 4 3)
  rw [Nat.add_zero] at z
  refine ⟨rfl, z.congr fun k hk => ?_, ?_⟩
  · obtain rfl | rfl | rfl | rfl : k = 0 ∨ k = 1 ∨ k = 2 ∨ k = 3 := by omega
    all_goals simp
  · have s1 := fun (w : World) (i : Nat) (hi : i < 4) (v : Value) => (Fr.set1 (b := b) (o := o + i) (w := w) v).mono (may' := inR b o 4) fun p hp => by
      obtain ⟨t, ht, rfl⟩ := hp
      exact ⟨i + t, by omega, by rw [← Nat.add_assoc]⟩
    have s0 := s1 w 0 (by omega)
    rw [Nat.add_zero] at s0
    exact (((s0 _).trans (s1 _ 1 (by omega) _)).trans (s1 _ 2 (by omega) _)).trans (s1 _ 3 (by omega) _)

set_option maxRecDepth 100000 in
set_option maxHeartbeats 1000000 in
theorem c89 {b o n c x : Nat} {w : World} {g : Nat → B8} (hg : By w b o 8 g) (hf : Nf w b o 8) (hn : 8 ≤ n) :
    Calls Try.prog 89 #[.slice (some ⟨b, o, none⟩) n c, .int .u64 (x : Int)] w fun e w' => e = .returned (.tuple #[]) ∧ By w' b o 8 (beB x 8) ∧ Fr (inR b o 8) w w' := by
  have q7 := hg.2 7 (by omega)
  have l7 : 7 < n := by omega
  have HG := hidE hg
  have HF := hidE hf
  clear hg hf
  go_enter Try.func89, Try.ntmps89
  go_wp2_with fail
  go_loopw [4] (fun vi wr => ∃ i : Nat, i ≤ 8 ∧ vi = .int .i64 i ∧ By wr b o 8 (fun k => if k < i then beB x 8 k else g k) ∧ Fr (inR b o 8) w wr) (fun vi _ => 8 - (intOf vi).toNat)
  case atStart => exact ⟨0, Nat.zero_le _, rfl, HG.out.congr (fun k _ => by rw [if_neg (by omega)]), Fr.refl _ _⟩
  case round =>
    obtain ⟨i, hi, rfl, hb, hfr⟩ := hrel
    have HB := hidE hb
    have HFR := hidE hfr
    clear hb hfr
    by_cases hlt : i < 8
    · have c1 := HB.out.2 i hlt
      have c2 := HF.out.fr HFR.out i hlt
      have l1 : i < n := by omega
      go_wp2_with fail
      go_roundw
      case rel =>
        have v0 : (x : Int) / 2 ^ (56 - 8 * i) % 256 = ((beB x 8 i).toNat : Int) := by
          have e : (2 : Nat) ^ (56 - 8 * i) = 256 ^ (8 - 1 - i) := by
            rw [show (256 : Nat) = 2 ^ 8 by decide, ← Nat.pow_mul, show 56 - 8 * i = 8 * (8 - 1 - i) by omega]
          rw [beB_val, ← e, Int.natCast_pow]; rfl
        rw [v0]
        refine ⟨i + 1, by omega, by go_num, (HB.out.set1 hlt (beB x 8 i)).congr fun k hk => ?_, HFR.out.trans ((Fr.set1 _).mono fun p hp => ?_)⟩
        · by_cases h1 : k = i
          · rw [if_pos h1, if_pos (by omega), h1]
          · rw [if_neg h1]
            by_cases h2 : k < i
            · rw [if_pos h2, if_pos (by omega)]
            · rw [if_neg h2, if_neg (by omega)]
        · obtain ⟨t, ht, rfl⟩ := hp
          exact ⟨i + t, by omega, by rw [← Nat.add_assoc]⟩
      case measure => simp [intOf]; omega
    · obtain rfl : i = 8 := by omega
      go_wp2_with fail
      go_end0
      exact ⟨rfl, HB.out.congr (fun k hk => by rw [if_pos hk]), HFR.out⟩
end CI
end Go.Proofs.Yteooohmlmefbnaa
