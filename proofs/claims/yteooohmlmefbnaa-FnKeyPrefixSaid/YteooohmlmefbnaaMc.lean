/-
  The contracts of 'spec.IsPower' and 'laws.same'.
  Conditions: none.
-/
import Derived.Test.YteooohmlmefbnaaLh
import Derived.Laws.BytesArg
namespace Go.Proofs.Yteooohmlmefbnaa
namespace CI
open Go
open Go.RowKit

/-- A power of two greater than 1. -/
def Pw (n : Nat) : Prop := ∃ k, n = 2 ^ (k + 1)
theorem Pw.half {m : Nat} (h : 2 < m) (h2 : m % 2 = 0) : Pw (m / 2) ↔ Pw m := by
  constructor
  · rintro ⟨k, hk⟩
    exact ⟨k + 1, by rw [Nat.pow_succ, ← hk]; omega⟩
  · rintro ⟨k, hk⟩
    cases k with
    | zero => simp at hk; omega
    | succ k => exact ⟨k, by rw [hk, Nat.pow_succ 2 (k + 1)]; omega⟩
theorem Pw.end_ {m : Nat} (h : ¬ (2 < m ∧ m % 2 = 0)) : Pw m ↔ m = 2 := by
  constructor
  · rintro ⟨k, hk⟩
    rw [Nat.pow_succ] at hk
    have : 1 ≤ 2 ^ k := Nat.one_le_two_pow
    omega
  · rintro rfl; exact ⟨0, rfl⟩

set_option maxHeartbeats 400000 in
theorem c14_true (n : Nat) (hn : n ≤ 9223372036854775807) (hP : Pw n) (w : World) : Calls Try.prog 14 #[.int .i64 (n : Int)] w fun e w' => e = .returned (.bool true) ∧ w = w' := by
  have HP := hidE hP
  clear hP
  go_enter Try.func14, Try.ntmps14
  go_wp2
  go_loop [0] (fun v => ∃ m : Nat, m ≤ 9223372036854775807 ∧ v = .int .i64 m ∧ Hid (Pw m)) (fun v => (intOf v).toNat)
  case atStart => exact ⟨n, hn, rfl, HP⟩
  case round =>
    obtain ⟨m, hm, rfl, hp⟩ := hrel
    by_cases g1 : 2 < m
    · by_cases g2 : m % 2 = 0
      · have g3 : ((m : Int) % 2 == 0) = true := by simp; omega
        have HG2 := hidE g2
        have hq := hidE ((Pw.half g1 g2).2 hp.out)
        clear g2
        go_wp2
        go_round
        case rel => exact ⟨m / 2, by omega, by go_num, hq⟩
        case measure => simp [intOf]; omega
      · exact absurd ((Pw.end_ (m := m) (by omega)).1 hp.out) (by omega)
    · have e : m = 2 := (Pw.end_ (m := m) (by omega)).1 hp.out
      subst e
      go_wp2
      go_ret
      exact ⟨rfl, rfl⟩

set_option maxHeartbeats 400000 in
theorem c14_false (n : Nat) (hn : n ≤ 9223372036854775807) (hP : ¬ Pw n) (w : World) : Calls Try.prog 14 #[.int .i64 (n : Int)] w fun e w' => e = .returned (.bool false) ∧ w = w' := by
  have HP := hidE hP
  clear hP
  go_enter Try.func14, Try.ntmps14
  go_wp2
  go_loop [0] (fun v => ∃ m : Nat, m ≤ 9223372036854775807 ∧ v = .int .i64 m ∧ Hid (¬ Pw m)) (fun v => (intOf v).toNat)
  case atStart => exact ⟨n, hn, rfl, HP⟩
  case round =>
    obtain ⟨m, hm, rfl, hp⟩ := hrel
    by_cases g1 : 2 < m
    · by_cases g2 : m % 2 = 0
      · have g3 : ((m : Int) % 2 == 0) = true := by simp; omega
        have hq := hidE (fun h => hp.out ((Pw.half g1 g2).1 h))
        clear g2
        go_wp2
        go_round
        case rel => exact ⟨m / 2, by omega, by go_num, hq⟩
        case measure => simp [intOf]; omega
      · have g3 : ((m : Int) % 2 == 0) = false := by simp; omega
        have g4 : ((m : Int) == 2) = false := by simp; omega
        clear g2
        go_wp2
        go_ret
        exact ⟨rfl, rfl⟩
    · have g4 : ((m : Int) == 2) = false := by
        have e : m ≠ 2 := fun h => hp.out ((Pw.end_ (m := m) (by omega)).2 h)
        simp; omega
      go_wp2
      go_ret
      exact ⟨rfl, rfl⟩

def numsB (n : Nat) (f : Nat → B8) : List Int := (List.range n).map fun k => ((f k).toNat : Int)
theorem By.str {w : World} {b o n : Nat} {f : Nat → B8} (h : By w b o n f) (c : Nat) : (convert 29 9 (.slice (some ⟨b, o, none⟩) n c)).run Try.prog w = .ok (.string (strOfNums (numsB n f))) w :=
  run_convert_bytes_arg (P := Try.prog) w 29 5 Try.underlying29 Try.underlying5 b o n c (numsB n f) (by simp [numsB]) (fun i hi => by
    rw [h.2 i hi]
    simp [numsB, hi]) 9 Try.underlying9

theorem c15 {b1 o1 c1 b2 o2 c2 n : Nat} {f : Nat → B8} {w : World} (hx : By w b1 o1 n f) (hy : By w b2 o2 n f) :
    Calls Try.prog 15 #[.slice (some ⟨b1, o1, none⟩) n c1, .slice (some ⟨b2, o2, none⟩) n c2] w fun e w' => e = .returned (.bool true) ∧ w = w' := by
  have k1 := hx.str c1
  have k2 := hy.str c2
  clear hx hy
  generalize strOfNums (numsB n f) = S at k1 k2
  go_enter Try.func15, Try.ntmps15
  go_wp2
  go_ret
  exact ⟨rfl, rfl⟩
end CI
end Go.Proofs.Yteooohmlmefbnaa
