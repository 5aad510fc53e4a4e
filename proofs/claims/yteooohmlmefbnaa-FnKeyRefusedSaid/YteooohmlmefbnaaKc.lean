/-
  Contracts: 'impl.BlockMix' for r from 1 to 16.
  Conditions: none.
-/
import Derived.Test.YteooohmlmefbnaaKb
import Derived.Test.YteooohmlmefbnaaBMix
import Derived.Deep.QuietTactic
import Derived.BigQuiet
namespace Go.Proofs.Yteooohmlmefbnaa
namespace CI
open Go
open Go.RowKit

theorem hidE {p : Prop} (h : p) : Hid p := h

theorem Fr.below {w w' : World} (h : Fr (fun _ => False) w w') : Below w.heap.size w w' := by
  obtain ⟨⟨h1, h2, h3⟩, hf, hs, ht⟩ := h
  refine ⟨h1, ht, h2, hs, fun i hi => ?_⟩
  have hk := h3 i hi
  revert hk
  generalize w.heap[i]? = x
  generalize w'.heap[i]? = y
  intro hk
  split at hk
  · obtain ⟨rfl, rfl, hsz, hc⟩ := hk
    congr 2
    exact Array.ext_getElem? fun j => hc j (fun f => f)
  · obtain ⟨rfl, rfl⟩ := hk.resolve_left (fun f => f)
    rfl
  · exact hk

theorem Fr.drewN {may : MemPlace → Prop} {w w' : World} (h : Fr may w w') (n : Nat) : Fr may w (w'.drewN n) := ⟨h.kept, h.frozen, h.size, h.tape⟩

def wvals (n : Nat) (f : Nat → W) : List Value := (List.range n).map fun k => .int .u32 ((f k).toNat : Int)
theorem wvals_length (n : Nat) (f : Nat → W) : (wvals n f).length = n := by simp [wvals]
theorem wvals_get {n : Nat} {f : Nat → W} {k : Nat} (h : k < n) : (wvals n f)[k]? = some (.int .u32 ((f k).toNat : Int)) := by simp [wvals, h]
theorem wvals_one (n : Nat) (f : Nat → W) : ∀ u ∈ wvals n f, u.oneCell' = true := fun u hu => by
  obtain ⟨k, _, rfl⟩ := List.mem_map.1 hu
  rfl
theorem Wd.vals {w : World} {b o n : Nat} {f : Nat → W} (h : Wd w b o n f) : ∀ j u, (wvals n f)[j]? = some u → w.cell? ((⟨b, o, none⟩ : Addr).add j) = some u := fun j u hu => by
  have hj : j < n := by have := (List.getElem?_eq_some_iff.1 hu).1; rwa [wvals_length] at this
  rw [wvals_get hj] at hu
  cases hu
  rw [addr_add]
  exact h.2 j hj
theorem Own.wd {w : World} {g cap n : Nat} {f : Nat → W} (h : Own w g cap 22 n (wvals n f)) : Wd w g 0 n f := ⟨h.lt, fun _ hk => h.cell (wvals_get hk)⟩

theorem c24 {n b o c : Nat} {f : Nat → W} {w : World} (hw : Wd w b o n f) (hn : n ≤ 4294967296) :
    Calls Try.prog 24 #[.slice (some ⟨b, o, none⟩) n c] w fun e w' => ∃ g d, e = .returned (.slice (some ⟨g, 0, none⟩) n (n + d)) ∧ w.heap.size ≤ g ∧ Wd w' g 0 n f ∧ Fr (fun _ => False) w w' :=
  (clone24 ⟨b, o, none⟩ n c (wvals n f) w (wvals_length n f) hw.vals (wvals_one n f) hw.1 hn).mono fun e w' ⟨g, cap, h1, h2, h3, h4⟩ => ⟨g, cap - n, by rw [Nat.add_sub_cancel' h3.le]; exact h1, h2, h3.wd, h4⟩

theorem c23 {r n : Nat} (h1 : 1 ≤ r) (h2 : r ≤ 16) (hn : n = 32 * r) {b o d : Nat} {f : Nat → W} {w : World} (hw : Wd w b o n f) :
    Calls Try.prog 23 #[.slice (some ⟨b, o, none⟩) n (n + d), .int .i64 (r : Int)] w fun e w' => ∃ q p, e = .returned (.slice (some ⟨q, p, none⟩) n n) ∧ w.heap.size ≤ q ∧ Wd w' q p n (bm r f) ∧ Fr (fun _ => False) w w' := by
  subst hn
  exact new_at ok23 (by omega) ((run23 h1 h2 f d).trans (bmix_bm h1 f)) hw

theorem c13 {r n : Nat} (h1 : 1 ≤ r) (h2 : r ≤ 16) (hn : n = 32 * r) {b o c : Nat} {f : Nat → W} {w : World} (hw : Wd w b o n f) (hc : n ≤ c) :
    Calls Try.prog 13 #[.slice (some ⟨b, o, none⟩) n c, .int .i64 (r : Int)] w fun e w' => ∃ q cap, e = .returned (.slice (some ⟨q, 0, none⟩) n cap) ∧ w.heap.size ≤ q ∧ n ≤ cap ∧ Wd w' q 0 n (bm r f) ∧ Fr (fun _ => False) w w' := by
  subst hn
  have := own_at ok13 ((run13 h1 h2 f (c - 32 * r)).trans (bmix_bm h1 f)) hw
  rwa [Nat.add_sub_cancel' hc] at this

set_option maxHeartbeats 400000 in
theorem c12 {r n : Nat} (h1 : 1 ≤ r) (h2 : r ≤ 16) (hn : n = 32 * r) {b o c : Nat} {f : Nat → W} {w : World} (hw : Wd w b o n f) :
    Calls Try.prog 12 #[.slice (some ⟨b, o, none⟩) n c, .int .i64 (r : Int)] w fun e w' => ∃ q p, e = .returned (.slice (some ⟨q, p, none⟩) n n) ∧ w.heap.size ≤ q ∧ Wd w' q p n (bm r f) ∧ Fr (fun _ => False) w w' := by
  have k1 : ¬ (r : Int) < 1 := by omega
  have k2 : ¬ (1048576 : Int) < r := by omega
  have k3 : (32 : Int) * r ≤ 1000 := by omega
  have k4 : ((n : Int) != 32 * (r : Int)) = false := by subst hn; simp
  have HN : Hid (n = 32 * r) := hn
  have k5 : n ≤ 4294967296 := by omega
  have HW : Hid (Wd w b o n f) := hw
  clear hn hw
  go_enter Try.func12, Try.ntmps12
  go_wp2_with fail
  ((with_reducible refine (c24 HW.out k5).mono ?_); rintro e w1 ⟨g, d, rfl, hg, hw1, hf1⟩)
  have HW1 := hidE hw1
  clear hw1
  go_wp2_with fail
  ((with_reducible refine (c23 h1 h2 HN.out HW1.out).mono ?_); rintro e w2 ⟨q, p, rfl, hq, hw2, hf2⟩)
  have HW2 := hidE hw2
  clear hw2
  go_wp2_with fail
  go_ret
  exact ⟨q, p, rfl, Nat.le_trans hf1.size hq, HW2.out, hf1.trans hf2⟩

end CI
end Go.Proofs.Yteooohmlmefbnaa
