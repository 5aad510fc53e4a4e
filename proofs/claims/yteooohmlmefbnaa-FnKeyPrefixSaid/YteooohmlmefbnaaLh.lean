/-
  The contract of 'impl.ROMix'.
  Conditions: none.
-/
import Derived.Test.YteooohmlmefbnaaLg
namespace Go.Proofs.Yteooohmlmefbnaa
namespace CI
open Go
open Go.RowKit

def bvals (n : Nat) (f : Nat → B8) : List Value := (List.range n).map fun k => .int .u8 ((f k).toNat : Int)
theorem bvals_length (n : Nat) (f : Nat → B8) : (bvals n f).length = n := by simp [bvals]
theorem bvals_get {n : Nat} {f : Nat → B8} {k : Nat} (h : k < n) : (bvals n f)[k]? = some (.int .u8 ((f k).toNat : Int)) := by simp [bvals, h]
theorem bvals_one (n : Nat) (f : Nat → B8) : ∀ u ∈ bvals n f, u.oneCell' = true := fun u hu => by
  obtain ⟨k, _, rfl⟩ := List.mem_map.1 hu
  rfl
theorem By.vals {w : World} {b o n : Nat} {f : Nat → B8} (h : By w b o n f) : ∀ j u, (bvals n f)[j]? = some u → w.cell? ((⟨b, o, none⟩ : Addr).add j) = some u := fun j u hu => by
  have hj : j < n := by have := (List.getElem?_eq_some_iff.1 hu).1; rwa [bvals_length] at this
  rw [bvals_get hj] at hu
  cases hu
  rw [addr_add]
  exact h.2 j hj
theorem Own.by_ {w : World} {g cap n : Nat} {f : Nat → B8} (h : Own w g cap 5 n (bvals n f)) : By w g 0 n f := ⟨h.lt, fun _ hk => h.cell (bvals_get hk)⟩
theorem Own.nf {w : World} {g cap n : Nat} {e : TypeId} {xs : List Value} (h : Own w g cap e n xs) (k : Nat) : w.frozen? ⟨g, k, none⟩ = false := by
  obtain ⟨cur, h1, _⟩ := h.ex
  simp [World.frozen?, h1]

theorem c25 {n b o c : Nat} {f : Nat → B8} {w : World} (hw : By w b o n f) (hn : n ≤ 4294967296) :
    Calls Try.prog 25 #[.slice (some ⟨b, o, none⟩) n c] w fun e w' => ∃ g cap, e = .returned (.slice (some ⟨g, 0, none⟩) n cap) ∧ n ≤ cap ∧ cap ≤ maxLen ∧ w.heap.size ≤ g ∧ By w' g 0 n f ∧ Nf w' g 0 n ∧ Fr (fun _ => False) w w' :=
  (clone25 ⟨b, o, none⟩ n c (bvals n f) w (bvals_length n f) hw.vals (bvals_one n f) hw.1 hn).mono fun _ _ ⟨g, cap, h1, h2, h3, h4⟩ => ⟨g, cap, h1, h3.le, h3.max, h2, h3.by_, fun _ _ => h3.nf _, h4⟩

theorem and_pred {k N : Nat} (hN : N = 2 ^ k) (hk1 : 1 ≤ k) (hk : k ≤ 6) : bits .and .i64 (N : Int) ((N : Int) - 1) = 0 := by
  have : k = 1 ∨ k = 2 ∨ k = 3 ∨ k = 4 ∨ k = 5 ∨ k = 6 := by omega
  rcases this with rfl | rfl | rfl | rfl | rfl | rfl <;> subst hN <;> decide

set_option maxRecDepth 100000 in
set_option maxHeartbeats 1000000 in
theorem c16 {r N lb cb : Nat} (h1 : 1 ≤ r) (h2 : r ≤ 8) {kN : Nat} (hN2 : N = 2 ^ kN) (hk1 : 1 ≤ kN) (hk2 : kN ≤ 6) (hlb : lb = 128 * r)
    {w : World} {bb ob : Nat} {B : Nat → B8} (hB : By w bb ob lb B) :
    Calls Try.prog 16 #[.slice (some ⟨bb, ob, none⟩) lb cb, .int .i64 (r : Int), .int .i64 (N : Int)] w fun e w' => ∃ g cap,
      e = .returned (.slice (some ⟨g, 0, none⟩) lb cap) ∧ lb ≤ cap ∧ w.heap.size ≤ g ∧ By w' g 0 lb (toB (Ys r N (leW B) N)) ∧ Fr (fun _ => False) w w' := by
  have b0 : N ≤ 64 := by rw [hN2]; exact Nat.pow_le_pow_right (n := 2) (by omega) hk2
  have b1 : 2 ≤ N := by rw [hN2]; exact Nat.pow_le_pow_right (n := 2) (by omega) hk1
  have b2 : lb ≤ 1024 := by omega
  have r1 : (128 : Int) * (r : Int) = (lb : Int) := by omega
  have r2 := and_pred hN2 hk1 hk2
  have HN2 := hidE hN2
  have HLB := hidE hlb
  have HB := hidE hB
  clear hN2 hlb hB
  go_enter Try.func16, Try.ntmps16
  go_wp2_with fail
  ((with_reducible refine (c25 HB.out (by omega)).mono ?_); rintro e w1 ⟨g, cap, rfl, hc1, hc2, hg, hb1, hnf1, hf1⟩)
  have HB1 := hidE hb1
  have HNF := hidE hnf1
  clear hb1 hnf1
  go_wp2_with fail
  ((with_reducible refine (c26 h1 h2 (n := 32 * r) rfl rfl HN2.out hk1 hk2 (by have := HLB.out; omega) hc1 rfl (by unfold maxLen at hc2; omega) HB1.out HNF.out).mono ?_); rintro e w2 ⟨rfl, hb2, hf2⟩)
  have HB2 := hidE hb2
  clear hb2
  go_wp2_with fail
  go_ret
  exact ⟨g, cap, rfl, hc1, hg, HB2.out, (hf1.trans' hf2).strong fun p hp hm => by
    rcases hm with h | ⟨j, _, rfl⟩
    · exact h
    · simp only [MemPlace.block] at hp; omega⟩
end CI
end Go.Proofs.Yteooohmlmefbnaa
