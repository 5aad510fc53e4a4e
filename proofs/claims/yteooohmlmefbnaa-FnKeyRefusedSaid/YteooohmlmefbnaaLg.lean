/-
  The contracts of 'scrypt.ZZMix' and 'impl.ROMix'.
  Conditions: none.
-/
import Derived.Test.YteooohmlmefbnaaLe
import Derived.Deep.RegionWith
namespace Go.Proofs.Yteooohmlmefbnaa
namespace CI
open Go
open Go.RowKit

/-- A new row of zero words. -/
def zObj (n : Nat) : Obj := .cells (madeCells #[.int .u32 0] n) 22
theorem zObj_wd (w : World) (n : Nat) : Wd (w.alloc (zObj n)) w.heap.size 0 n (fun _ => 0#32) ∧ Nf (w.alloc (zObj n)) w.heap.size 0 n ∧ Fr (fun _ => False) w (w.alloc (zObj n)) := by
  refine ⟨⟨by simp, fun k hk => ?_⟩, fun k hk => World.frozen?_alloc_new _ _ _ _, Fr.alloc _ _ _ _⟩
  unfold zObj
  rw [World.cell?_alloc_new, Nat.zero_add]
  simp [madeCells, hk, Nat.mod_one]

theorem make26 (n : Nat) (hn : n ≤ 70368744177664) (w : World) : (Instr.makeSlice 26 (.int .i64 (n : Int)) (.int .i64 (n : Int))).run Try.prog w = .ok (.slice (some ⟨w.heap.size, 0, none⟩) n n) (w.alloc (zObj n)) := by
  obtain ⟨i0, hi, hz0, hz1, hz2⟩ := info_parts info22
  have := run_make (P := Try.prog) w 26 22 i0 _ Try.underlying26 hi hz0 .i64 .i64 (n : Int) (n : Int) (by omega) (by omega) (by rw [hz2]; omega) (by omega)
  rw [hz1] at this
  simpa [zObj, Value.cells] using this

theorem two_rows {w : World} {k1 k2 : Nat} : Wd (((w.alloc (zObj k1)).alloc (zObj k2)).drew) w.heap.size 0 k1 (fun _ => 0#32) ∧ Nf (((w.alloc (zObj k1)).alloc (zObj k2)).drew) w.heap.size 0 k1 ∧
    Wd (((w.alloc (zObj k1)).alloc (zObj k2)).drew) (w.heap.size + 1) 0 k2 (fun _ => 0#32) ∧ Nf (((w.alloc (zObj k1)).alloc (zObj k2)).drew) (w.heap.size + 1) 0 k2 ∧ Fr (fun _ => False) w (((w.alloc (zObj k1)).alloc (zObj k2)).drew) := by
  obtain ⟨a1, a2, a3⟩ := zObj_wd w k1
  obtain ⟨b1, b2, b3⟩ := zObj_wd (w.alloc (zObj k1)) k2
  have e : (w.alloc (zObj k1)).heap.size = w.heap.size + 1 := by simp
  rw [e] at b1 b2
  have d := Fr.drew (fun _ => False) ((w.alloc (zObj k1)).alloc (zObj k2))
  exact ⟨(a1.same b3).same d, (a2.fr b3).fr d, b1.same d, b2.fr d, (a3.trans b3).trans d⟩

section
variable {r n N m lb cb lx : Nat} (h1 : 1 ≤ r) (h2 : r ≤ 8) (hn : n = 32 * r) (hm : m = N * n) {kN : Nat} (hN2 : N = 2 ^ kN) (hk1 : 1 ≤ kN) (hk2 : kN ≤ 6) (hlb : lb = 4 * n) (hcb : lb ≤ cb) (hlx : lx = 2 * n) (hcb2 : cb ≤ 9223372036854775807)
    {w : World} {bb ob : Nat} {B : Nat → B8} (hB : By w bb ob lb B) (hBf : Nf w bb ob lb)
include h1 h2 hn hm hN2 hk1 hk2 hlb hcb hlx hcb2 hB hBf
theorem c26a : Calls Try.prog 32 #[.slice (some ⟨bb, ob, none⟩) lb cb, .int .i64 (r : Int), .int .i64 (N : Int), .slice (some ⟨w.heap.size, 0, none⟩) m m, .slice (some ⟨w.heap.size + 1, 0, none⟩) lx lx] (((w.alloc (zObj m)).alloc (zObj lx)).drew) fun e w' =>
    e = .returned (.tuple #[]) ∧ By w' bb ob lb (toB (Ys r N (leW B) N)) ∧ Fr (inR bb ob lb) w w' := by
  subst hlx
  obtain ⟨a1, a2, a3, a4, a5⟩ := two_rows (w := w) (k1 := m) (k2 := 2 * n)
  have hlt := hB.1
  have b1 : m ≤ 16384 := by
    have b0 : N ≤ 64 := by rw [hN2]; exact Nat.pow_le_pow_right (n := 2) (by omega) hk2
    rw [hm]; exact Nat.mul_le_mul b0 (show n ≤ 256 by omega)
  refine (c32 h1 h2 hn hm hN2 hk1 hk2 hlb hcb rfl (Nat.le_refl _) rfl (Nat.le_refl _) hcb2 (by omega) (by omega) (hB.same a5) (hBf.fr a5) a3 a4 a1 a2 (by omega) (by omega) (by omega)).mono fun e w' ⟨q1, q2, _, _, q5⟩ => ⟨q1, q2, (a5.trans' q5).strong fun p hp hm => ?_⟩
  rcases hm with h | h | h | h
  · exact h.elim
  · exact h
  · obtain ⟨j, _, rfl⟩ := h; simp only [MemPlace.block] at hp; omega
  · obtain ⟨j, _, rfl⟩ := h; simp only [MemPlace.block] at hp; omega
theorem c26b : Calls Try.prog 32 #[.slice (some ⟨bb, ob, none⟩) lb cb, .int .i64 (r : Int), .int .i64 (N : Int), .slice (some ⟨w.heap.size + 1, 0, none⟩) m m, .slice (some ⟨w.heap.size, 0, none⟩) lx lx] (((w.alloc (zObj lx)).alloc (zObj m)).drew) fun e w' =>
    e = .returned (.tuple #[]) ∧ By w' bb ob lb (toB (Ys r N (leW B) N)) ∧ Fr (inR bb ob lb) w w' := by
  subst hlx
  obtain ⟨a1, a2, a3, a4, a5⟩ := two_rows (w := w) (k1 := 2 * n) (k2 := m)
  have hlt := hB.1
  have b1 : m ≤ 16384 := by
    have b0 : N ≤ 64 := by rw [hN2]; exact Nat.pow_le_pow_right (n := 2) (by omega) hk2
    rw [hm]; exact Nat.mul_le_mul b0 (show n ≤ 256 by omega)
  refine (c32 h1 h2 hn hm hN2 hk1 hk2 hlb hcb rfl (Nat.le_refl _) rfl (Nat.le_refl _) hcb2 (by omega) (by omega) (hB.same a5) (hBf.fr a5) a1 a2 a3 a4 (by omega) (by omega) (by omega)).mono fun e w' ⟨q1, q2, _, _, q5⟩ => ⟨q1, q2, (a5.trans' q5).strong fun p hp hm => ?_⟩
  rcases hm with h | h | h | h
  · exact h.elim
  · exact h
  · obtain ⟨j, _, rfl⟩ := h; simp only [MemPlace.block] at hp; omega
  · obtain ⟨j, _, rfl⟩ := h; simp only [MemPlace.block] at hp; omega
end

set_option maxRecDepth 100000 in
set_option maxHeartbeats 1000000 in
theorem c26 {r n N m lb cb lx : Nat} (h1 : 1 ≤ r) (h2 : r ≤ 8) (hn : n = 32 * r) (hm : m = N * n) {kN : Nat} (hN2 : N = 2 ^ kN) (hk1 : 1 ≤ kN) (hk2 : kN ≤ 6) (hlb : lb = 4 * n) (hcb : lb ≤ cb) (hlx : lx = 2 * n) (hcb2 : cb ≤ 9223372036854775807)
    {w : World} {bb ob : Nat} {B : Nat → B8} (hB : By w bb ob lb B) (hBf : Nf w bb ob lb) :
    Calls Try.prog 26 #[.slice (some ⟨bb, ob, none⟩) lb cb, .int .i64 (r : Int), .int .i64 (N : Int)] w fun e w' =>
      e = .returned (.tuple #[]) ∧ By w' bb ob lb (toB (Ys r N (leW B) N)) ∧ Fr (inR bb ob lb) w w' := by
  have b0 : N ≤ 64 := by rw [hN2]; exact Nat.pow_le_pow_right (n := 2) (by omega) hk2
  have b1 : m ≤ 16384 := by rw [hm]; exact Nat.mul_le_mul b0 (show n ≤ 256 by omega)
  have b2 : lx ≤ 512 := by omega
  have r1 : (32 : Int) * (N : Int) * (r : Int) = (m : Int) := by
    rw [hm, hn, Int.natCast_mul, Int.natCast_mul, Int.mul_comm (32 : Int) (N : Int), Int.mul_assoc]; rfl
  have r2 : (64 : Int) * (r : Int) = (lx : Int) := by omega
  have e1 : IntKind.i64.wrap ((32 : Int) * (N : Int)) = (32 : Int) * (N : Int) := by rw [IntKind.wrap_i64]; omega
  have e2 : IntKind.i64.wrap (m : Int) = (m : Int) := by rw [IntKind.wrap_i64]; omega
  have e3 : IntKind.i64.wrap (lx : Int) = (lx : Int) := by rw [IntKind.wrap_i64]; omega
  have mkV := make26 m (by omega)
  have mkX := make26 lx (by omega)
  have HN := hidE hn
  have HM := hidE hm
  have HLB := hidE hlb
  have HLX := hidE hlx
  have HN2 := hidE hN2
  have HB := hidE hB
  have HBf := hidE hBf
  clear hn hm hlb hlx hB hBf hN2
  go_enter Try.func26, Try.ntmps26
  go_region_with (go_at_call 32; first
    | ((with_reducible refine (c26a h1 h2 HN.out HM.out HN2.out hk1 hk2 HLB.out hcb HLX.out hcb2 HB.out HBf.out).mono ?_); rintro e w' ⟨rfl, hp⟩; have HP := hidE hp; clear hp)
    | ((with_reducible refine (c26b h1 h2 HN.out HM.out HN2.out hk1 hk2 HLB.out hcb HLX.out hcb2 HB.out HBf.out).mono ?_); rintro e w' ⟨rfl, hp⟩; have HP := hidE hp; clear hp))
  all_goals (go_end0; exact ⟨rfl, HP.out⟩)
end CI
end Go.Proofs.Yteooohmlmefbnaa
