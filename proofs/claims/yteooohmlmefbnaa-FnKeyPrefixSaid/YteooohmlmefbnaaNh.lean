/-
  The contracts of SHA-256's 'Reset', 'New', 'Size', 'BlockSize' and of 'newSHA256'.
  Conditions: none.
-/
import Derived.Test.YteooohmlmefbnaaNd
import Derived.Deep.Cut
namespace Go.Proofs.Yteooohmlmefbnaa
namespace CI
open Go
open Go.RowKit

theorem Dg.setHi {w : World} {b i : Nat} {S : DS} (h : Dg w b S) (hi : i < 8) (x : W) : Dg (w.setCell ⟨b, i, none⟩ (.int .u32 (x.toNat : Int))) b { S with h := fun k => if k = i then x else S.h k } := by
  have hs : Fr (inR b i 1) w (w.setCell ⟨b, i, none⟩ (.int .u32 (x.toNat : Int))) := Fr.set1 _
  have z := h.h.set1 hi x
  rw [Nat.zero_add] at z
  exact ⟨z, h.x.fr hs fun k hk => not_inR (.inr (.inr (by omega))), hs.cell h.h.1 (not_inR (.inr (.inr (by omega)))) h.nx, hs.cell h.h.1 (not_inR (.inr (.inr (by omega)))) h.ln, hs.cell h.h.1 (not_inR (.inr (.inr (by omega)))) h.z, h.nf.fr hs⟩
theorem Dg.congrH {w : World} {b : Nat} {S : DS} (h : Dg w b S) {H : Nat → W} (e : ∀ k, k < 8 → S.h k = H k) : Dg w b { S with h := H } := ⟨h.h.congr e, h.x, h.nx, h.ln, h.z, h.nf⟩
def H0 (k : Nat) : W := [1779033703#32, 3144134277#32, 1013904242#32, 2773480762#32, 1359893119#32, 2600822924#32, 528734635#32, 1541459225#32].getD k 0#32

set_option maxRecDepth 100000 in
set_option maxHeartbeats 1000000 in
theorem c53 {b : Nat} {w : World} {S : DS} (hS : Dg w b S) :
    Calls Try.prog 53 #[.pointer (some ⟨b, 0, none⟩)] w fun e w' => e = .returned (.tuple #[]) ∧ Dg w' b { h := H0, x := S.x, nx := 0, ln := 0 } ∧ Fr (fun p => p.block = b) w w' := by
  have q0 := hS.z
  have h0 := hS.h.2 0 (by omega)
  have f0 := hS.at_ (k := 0) (by omega)
  rw [Nat.zero_add] at h0
  have h1 := hS.h.2 1 (by omega)
  have f1 := hS.at_ (k := 1) (by omega)
  rw [Nat.zero_add] at h1
  have h2 := hS.h.2 2 (by omega)
  have f2 := hS.at_ (k := 2) (by omega)
  rw [Nat.zero_add] at h2
  have h3 := hS.h.2 3 (by omega)
  have f3 := hS.at_ (k := 3) (by omega)
  rw [Nat.zero_add] at h3
  have h4 := hS.h.2 4 (by omega)
  have f4 := hS.at_ (k := 4) (by omega)
  rw [Nat.zero_add] at h4
  have h5 := hS.h.2 5 (by omega)
  have f5 := hS.at_ (k := 5) (by omega)
  rw [Nat.zero_add] at h5
  have h6 := hS.h.2 6 (by omega)
  have f6 := hS.at_ (k := 6) (by omega)
  rw [Nat.zero_add] at h6
  have h7 := hS.h.2 7 (by omega)
  have f7 := hS.at_ (k := 7) (by omega)
  rw [Nat.zero_add] at h7
  have q1 := hS.nx
  have q2 := hS.ln
  have f8 := hS.at_ (k := 72) (by omega)
  have f9 := hS.at_ (k := 73) (by omega)
  have HS := hidE hS
  clear hS
  go_enter Try.func53, Try.ntmps53
  go_wp2_with fail
  go_end0
  have hS := HS.out
  have z := ((((((((((hS.setHi (i := 0) (by omega) 1779033703#32).setHi (i := 1) (by omega) 3144134277#32).setHi (i := 2) (by omega) 1013904242#32).setHi (i := 3) (by omega) 2773480762#32).setHi (i := 4) (by omega) 1359893119#32).setHi (i := 5) (by omega) 2600822924#32).setHi (i := 6) (by omega) 528734635#32).setHi (i := 7) (by omega) 1541459225#32)).setNx 0).setLn 0
  have s1 : ∀ (w : World) (i : Nat) (v : Value), Fr (fun p => p.block = b) w (w.setCell ⟨b, i, none⟩ v) := fun w i v => (Fr.set1 (b := b) (o := i) (w := w) v).mono fun p hp => by obtain ⟨t, _, rfl⟩ := hp; rfl
  refine ⟨rfl, z.congrH fun k hk => ?_, ?_⟩
  · obtain rfl | rfl | rfl | rfl | rfl | rfl | rfl | rfl : k = 0 ∨ k = 1 ∨ k = 2 ∨ k = 3 ∨ k = 4 ∨ k = 5 ∨ k = 6 ∨ k = 7 := by omega
    all_goals rfl
  · exact (((((((((s1 _ _ _).trans (s1 _ _ _)).trans (s1 _ _ _)).trans (s1 _ _ _)).trans (s1 _ _ _)).trans (s1 _ _ _)).trans (s1 _ _ _)).trans (s1 _ _ _)).trans (s1 _ _ _)).trans (s1 _ _ _)

theorem c78 {b : Nat} {w : World} {S : DS} (hS : Dg w b S) :
    Calls Try.prog 78 #[.pointer (some ⟨b, 0, none⟩)] w fun e w' => e = .returned (.int .i64 32) ∧ w' = w := by
  have q0 := hS.z
  clear hS
  go_enter Try.func78, Try.ntmps78
  go_wp2_with fail
  go_ret
  exact ⟨rfl, rfl⟩

theorem c76 {b : Nat} {w : World} :
    Calls Try.prog 76 #[.pointer (some ⟨b, 0, none⟩)] w fun e w' => e = .returned (.int .i64 64) ∧ w' = w := by
  go_enter Try.func76, Try.ntmps76
  go_wp2_with fail
  go_ret
  exact ⟨rfl, rfl⟩

/-- A new digest's 75 cells. -/
def dg0 : List Value := List.replicate 8 (.int .u32 0) ++ List.replicate 64 (.int .u8 0) ++ [.int .i64 0, .int .u64 0, .bool false]
theorem dg_new {w W : World} {v : Array Value} (h : w.alloc (.cells v 86) = W) (hv : v = dg0.toArray := by rfl) : Dg W w.heap.size { h := fun _ => 0#32, x := fun _ => 0#8, nx := 0, ln := 0 } ∧ Fr (fun _ => False) w W := by
  subst hv
  subst h
  have hl : w.heap.size < (w.alloc (.cells dg0.toArray 86)).heap.size := by simp
  have hc : ∀ k, (w.alloc (.cells dg0.toArray 86)).cell? ⟨w.heap.size, k, none⟩ = dg0[k]? := fun k => by
    rw [World.cell?_alloc_new]; simp
  refine ⟨⟨⟨hl, fun k hk => ?_⟩, ⟨hl, fun k hk => ?_⟩, hc 72, hc 73, hc 74, fun k _ => World.frozen?_alloc_new _ _ _ _⟩, Fr.alloc _ _ _ _⟩
  · rw [hc, Nat.zero_add, dg0, List.append_assoc, List.getElem?_append_left (by simp; omega), List.getElem?_replicate, if_pos hk]; rfl
  · rw [hc, dg0, List.getElem?_append_left (by simp; omega), List.getElem?_append_right (by simp), List.length_replicate, List.getElem?_replicate, if_pos (by omega)]; rfl

set_option maxRecDepth 100000 in
set_option maxHeartbeats 1000000 in
theorem c45 {w : World} :
    Calls Try.prog 45 #[] w fun e w' => ∃ b, e = .returned (.pointer (some ⟨b, 0, none⟩)) ∧ b = w.heap.size ∧ Dg w' b { h := H0, x := fun _ => 0#8, nx := 0, ln := 0 } ∧ Fr (fun _ => False) w w' := by
  go_enter Try.func45, Try.ntmps45
  go_upto_region 2 with fail
  refine wp_gen fun W1 hW1 => ?_
  have h1 := dg_new hW1
  have HD := hidE h1
  clear hW1 h1
  go_wp2_with fail
  ((with_reducible refine (c53 HD.out.1).mono ?_); rintro e w2 ⟨rfl, h2, f2⟩)
  go_wp2_with fail
  go_ret
  exact ⟨_, rfl, rfl, h2, (HD.out.2.trans' f2).strong fun p hp hm => by
    rcases hm with hm | hm
    · exact hm
    · rw [hm] at hp; exact absurd hp (Nat.lt_irrefl _)⟩

set_option maxRecDepth 100000 in
set_option maxHeartbeats 1000000 in
theorem c35 {w : World} :
    Calls Try.prog 35 #[] w fun e w' => ∃ b, e = .returned (.iface 74 (.pointer (some ⟨b, 0, none⟩))) ∧ b = w.heap.size ∧ Dg w' b { h := H0, x := fun _ => 0#8, nx := 0, ln := 0 } ∧ Fr (fun _ => False) w w' := by
  go_enter Try.func35, Try.ntmps35
  go_wp2_with fail
  ((with_reducible refine c45.mono ?_); rintro e w2 ⟨b, rfl, rfl, h2, f2⟩)
  go_wp2_with fail
  go_ret
  exact ⟨_, rfl, rfl, h2, f2⟩
end CI
end Go.Proofs.Yteooohmlmefbnaa
