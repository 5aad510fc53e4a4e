/-
  The choice of a block: 'argon2.phi', 'argon2.indexAlpha' and the reference's 'spec.Chosen' come to one number, for lanes of four segments of 2 to 64 blocks.
  Conditions: 'Dom': a number below 2^64, segments of 2 to 64 blocks, 1 to 4 lanes, 1 to 3 passes, no place of the first two of a lane in the first pass.
-/
import Derived.Test.YtmppkbgbnnbfmaaRows
import Derived.WalkKit
import Derived.Laws.BitsAllLaws
import Derived.Lib.Hide
import Derived.Deep.QuietTactic
import Derived.BigQuiet
namespace Go.Proofs.Ytmppkbgbnnbfmaa
open Go.RowKit
namespace Ix

def loOf (N : Int) : Int := N % 4294967296
def hi (N : Int) : Int := (N % 4294967296 * (N % 4294967296)) / 4294967296
def yOf (N m : Int) : Int := hi N * m / 4294967296

theorem sq_bd (a : Int) (h0 : 0 ≤ a) (h : a ≤ 4294967295) : 0 ≤ a * a ∧ a * a ≤ 18446744065119617025 := by
  refine ⟨Int.mul_nonneg h0 h0, ?_⟩
  have := Int.mul_le_mul h h h0 (by omega)
  simpa using this

theorem hi_bd (N : Int) : 0 ≤ hi N ∧ hi N ≤ 4294967294 := by
  have := sq_bd (N % 4294967296) (by omega) (by omega)
  unfold hi; omega

theorem pm_bd (N m : Int) (hm : 1 ≤ m) : 0 ≤ hi N * m ∧ hi N * m ≤ 4294967294 * m := by
  have h := hi_bd N
  refine ⟨Int.mul_nonneg h.1 (by omega), ?_⟩
  exact Int.mul_le_mul_of_nonneg_right h.2 (by omega)

theorem y_bd (N m : Int) (hm : 1 ≤ m) : 0 ≤ yOf N m ∧ yOf N m ≤ m - 1 := by
  have := pm_bd N m hm
  unfold yOf; omega

theorem sq_wrap (N : Int) : IntKind.u64.wrap (N % 4294967296 * (N % 4294967296)) = N % 4294967296 * (N % 4294967296) := by
  have := sq_bd (N % 4294967296) (by omega) (by omega)
  exact IntWalk.u64_in _ (by omega)

theorem pm_wrap (N m : Int) (hm : 1 ≤ m) (hm2 : m ≤ 512) : IntKind.u64.wrap (hi N * m) = hi N * m := by
  have := pm_bd N m hm
  exact IntWalk.u64_in _ (by omega)

theorem and_lo (N : Int) (h0 : 0 ≤ N) (h : N < 18446744073709551616) : bits BinOp.and IntKind.u64 N 4294967295 = N % 4294967296 := by
  rw [u64_and N 4294967295 h0 h (by omega) (by omega)]
  have : N.toNat &&& (4294967295 : Int).toNat = N.toNat % 4294967296 := nat_mask32 N.toNat
  rw [this]; omega

/-- What the choice comes to. -/
def val (N m s ref L : Int) : Int := ref * L + (s + m - 1 - yOf N m) % L

theorem val_bd (N m s ref L : Int) (hr : 0 ≤ ref) (hr2 : ref ≤ 3) (hL : 8 ≤ L) (hL2 : L ≤ 256) : 0 ≤ val N m s ref L ∧ val N m s ref L ≤ 1024 := by
  unfold val
  have h1 : 0 ≤ (s + m - 1 - yOf N m) % L := Int.emod_nonneg _ (by omega)
  have h2 : (s + m - 1 - yOf N m) % L < L := Int.emod_lt_of_pos _ (by omega)
  have h3 : 0 ≤ ref * L := Int.mul_nonneg hr (by omega)
  have h4 : ref * L ≤ 3 * 256 := Int.mul_le_mul hr2 hL2 (by omega) (by omega)
  omega

theorem ret_int {k : IntKind} {a b : Int} (h : a = b) : Ending.returned (.int k a) = .returned (.int k b) := by rw [h]

set_option maxHeartbeats 400000 in
theorem phi_any (N m s ref L : Int) (w : World) (hN0 : 0 ≤ N) (hN : N < 18446744073709551616) (hm : 1 ≤ m) (hm2 : m ≤ 512) (hs : 0 ≤ s) (hs2 : s ≤ 256)
   (hr : 0 ≤ ref) (hr2 : ref ≤ 3) (hL : 8 ≤ L) (hL2 : L ≤ 256) :
   Calls Try.prog 26 #[.int .u64 N, .int .u64 m, .int .u64 s, .int .u32 ref, .int .u32 L] w fun e w' => e = .returned (.int .u32 (val N m s ref L)) ∧ w = w' := by
  have hand := and_lo N hN0 hN
  have e1 := sq_wrap N
  have e2 : IntKind.u64.wrap (N % 4294967296 * (N % 4294967296) / 4294967296 * m) = hi N * m := pm_wrap N m hm hm2
  have hy : hi N * m / 4294967296 = yOf N m := rfl
  have hyb := y_bd N m hm
  have hv := val_bd N m s ref L hr hr2 hL hL2
  have HV : Hid (val N m s ref L = ref * L + (s + m - 1 - yOf N m) % L) := rfl
  have h3 : 0 ≤ ref * L := Int.mul_nonneg hr (by omega)
  have h4 : ref * L ≤ 3 * 256 := Int.mul_le_mul hr2 hL2 (by omega) (by omega)
  have h5 : 0 ≤ (s + m - 1 - yOf N m) % L := Int.emod_nonneg _ (by omega)
  have h6 : (s + m - 1 - yOf N m) % L < L := Int.emod_lt_of_pos _ (by omega)
  go_enter Try.func26, Try.ntmps26
  go_wp2
  go_ret
  refine ⟨ret_int ?_, rfl⟩
  rw [HV.out]
  have e : s + m - (yOf N m + 1) = s + m - 1 - yOf N m := by omega
  rw [e]
  omega

def refOf (N t p c l : Int) : Int := if p = 0 ∧ c = 0 then l else N / 4294967296 % t
def mOf (sg p c l i ref : Int) : Int := (if p = 0 then c * sg else 3 * sg) + (if l = ref then i - 1 else if i = 0 then -1 else 0)
def sOf (sg p c : Int) : Int := if p = 0 then 0 else (c + 1) % 4 * sg
def chosen (N sg t p c l i : Int) : Int := val N (mOf sg p c l i (refOf N t p c l)) (sOf sg p c) (refOf N t p c l) (4 * sg)

structure Dom (N sg t p c l i : Int) : Prop where
  N0 : 0 ≤ N
  N1 : N < 18446744073709551616
  sg0 : 2 ≤ sg
  sg1 : sg ≤ 64
  t0 : 1 ≤ t
  t1 : t ≤ 4
  p0 : 0 ≤ p
  p1 : p ≤ 2
  c0 : 0 ≤ c
  c1 : c ≤ 3
  l0 : 0 ≤ l
  l1 : l < t
  i0 : 0 ≤ i
  i1 : i < sg
  no : ¬ (p = 0 ∧ c = 0 ∧ i < 2)

theorem mul_bd (c sg : Int) (k : Int) (h0 : 0 ≤ c) (h1 : c ≤ k) (s0 : 0 ≤ sg) : 0 ≤ c * sg ∧ c * sg ≤ k * sg :=
  ⟨Int.mul_nonneg h0 s0, Int.mul_le_mul_of_nonneg_right h1 s0⟩

theorem ref_bd {N sg t p c l i : Int} (h : Dom N sg t p c l i) : 0 ≤ refOf N t p c l ∧ refOf N t p c l ≤ 3 := by
  have := h.l0; have := h.l1; have := h.t1; have := h.t0
  unfold refOf; split
  · omega
  · have h1 : 0 ≤ N / 4294967296 % t := Int.emod_nonneg _ (by omega)
    have h2 : N / 4294967296 % t < t := Int.emod_lt_of_pos _ (by omega)
    omega

theorem val_eq {N m s ref m' s' ref' L : Int} (h1 : m = m') (h2 : s = s') (h3 : ref = ref') : val N m s ref L = val N m' s' ref' L := by rw [h1, h2, h3]

set_option maxHeartbeats 2000000 in
theorem alpha_any (N sg t p c l i : Int) (w : World) (h : Dom N sg t p c l i) :
    Calls Try.prog 20 #[.int .u64 N, .int .u32 (4 * sg), .int .u32 sg, .int .u32 t, .int .u32 p, .int .u32 c, .int .u32 l, .int .u32 i] w fun e w' => e = .returned (.int .u32 (chosen N sg t p c l i)) ∧ w = w' := by
  obtain ⟨N0, N1, sg0, sg1, t0, t1, p0, p1, c0, c1, l0, l1, i0, i1, no⟩ := h
  have HC : Hid (chosen N sg t p c l i = val N (mOf sg p c l i (refOf N t p c l)) (sOf sg p c) (refOf N t p c l) (4 * sg)) := rfl
  have r1 : 0 ≤ N / 4294967296 % t := Int.emod_nonneg _ (by omega)
  have r2 : N / 4294967296 % t < t := Int.emod_lt_of_pos _ (by omega)
  have cs := mul_bd c sg 3 c0 c1 (by omega)
  have cs4 := mul_bd ((c + 1) % 4) sg 3 (by omega) (by omega) (by omega)
  by_cases hp : p = 0
  · by_cases hc : c = 0
    · have H : ∀ x, val N (i - 1) 0 l (4 * sg) = x → x = chosen N sg t p c l i → Ending.returned (.int .u32 (val N (i - 1) 0 l (4 * sg))) = .returned (.int .u32 (chosen N sg t p c l i)) := fun x h1 h2 => ret_int (h1.trans h2)
      have HE : Hid (val N (i - 1) 0 l (4 * sg) = chosen N sg t p c l i) := by
        show _ = _
        rw [HC.out]; subst hp; subst hc; exact val_eq (by simp [mOf, refOf]) (by simp [sOf]) (by simp [refOf])
      clear H
      subst hp; subst hc
      go_enter Try.func20, Try.ntmps20
      go_wp2_with (go_at_call 26; refine (phi_any _ _ _ _ _ _ (by omega) (by omega) (by omega) (by omega) (by omega) (by omega) (by omega) (by omega) (by omega) (by omega)).mono ?_; rintro e w' ⟨rfl, rfl⟩)
      go_ret
      exact ⟨ret_int HE.out, rfl⟩
    · have hcs : sg ≤ c * sg := by have := Int.mul_le_mul_of_nonneg_right (show (1 : Int) ≤ c by omega) (show 0 ≤ sg by omega); omega
      by_cases hl : l = N / 4294967296 % t
      · have HE : Hid (val N (c * sg + i - 1) 0 (N / 4294967296 % t) (4 * sg) = chosen N sg t p c l i) := by
          show _ = _
          rw [HC.out]; exact val_eq (by simp [mOf, refOf, hp, hc, ← hl]; omega) (by simp [sOf, hp]) (by simp [refOf, hc])
        have hb : (l == N / 4294967296 % t) = true := by simpa using hl
        have hcb : (c == 0) = false := by simpa using hc
        clear hl
        subst hp
        go_enter Try.func20, Try.ntmps20
        go_wp2_with (go_at_call 26; refine (phi_any _ _ _ _ _ _ (by omega) (by omega) (by omega) (by omega) (by omega) (by omega) (by omega) (by omega) (by omega) (by omega)).mono ?_; rintro e w' ⟨rfl, rfl⟩)
        all_goals
          go_ret
          exact ⟨ret_int ((val_eq (by omega) rfl rfl).trans HE.out), rfl⟩
      · have hb : (l == N / 4294967296 % t) = false := by simpa using hl
        have hcb : (c == 0) = false := by simpa using hc
        by_cases hi : i = 0
        · have HE : Hid (val N (c * sg - 1) 0 (N / 4294967296 % t) (4 * sg) = chosen N sg t p c l i) := by
            show _ = _
            rw [HC.out]; exact val_eq (by simp [mOf, refOf, hp, hc, hl, hi]; omega) (by simp [sOf, hp]) (by simp [refOf, hc])
          clear hl
          subst hp; subst hi
          go_enter Try.func20, Try.ntmps20
          go_wp2_with (go_at_call 26; refine (phi_any _ _ _ _ _ _ (by omega) (by omega) (by omega) (by omega) (by omega) (by omega) (by omega) (by omega) (by omega) (by omega)).mono ?_; rintro e w' ⟨rfl, rfl⟩)
          go_ret
          exact ⟨ret_int HE.out, rfl⟩
        · have HE : Hid (val N (c * sg) 0 (N / 4294967296 % t) (4 * sg) = chosen N sg t p c l i) := by
            show _ = _
            rw [HC.out]; exact val_eq (by simp [mOf, refOf, hp, hc, hl, hi]) (by simp [sOf, hp]) (by simp [refOf, hc])
          have hib : (i == 0) = false := by simpa using hi
          clear hl
          subst hp
          go_enter Try.func20, Try.ntmps20
          go_wp2_with (go_at_call 26; refine (phi_any _ _ _ _ _ _ (by omega) (by omega) (by omega) (by omega) (by omega) (by omega) (by omega) (by omega) (by omega) (by omega)).mono ?_; rintro e w' ⟨rfl, rfl⟩)
          go_ret
          exact ⟨ret_int HE.out, rfl⟩
  · have hpb : (p == 0) = false := by simpa using hp
    by_cases hl : l = N / 4294967296 % t
    · have HE : Hid (val N (3 * sg + i - 1) ((c + 1) % 4 * sg) (N / 4294967296 % t) (4 * sg) = chosen N sg t p c l i) := by
        show _ = _
        rw [HC.out]; exact val_eq (by simp [mOf, refOf, hp, ← hl]; omega) (by simp [sOf, hp]) (by simp [refOf, hp])
      have hb : (l == N / 4294967296 % t) = true := by simpa using hl
      clear hl
      go_enter Try.func20, Try.ntmps20
      go_wp2_with (go_at_call 26; refine (phi_any _ _ _ _ _ _ (by omega) (by omega) (by omega) (by omega) (by omega) (by omega) (by omega) (by omega) (by omega) (by omega)).mono ?_; rintro e w' ⟨rfl, rfl⟩)
      all_goals
        go_ret
        exact ⟨ret_int ((val_eq (by omega) rfl rfl).trans HE.out), rfl⟩
    · have hb : (l == N / 4294967296 % t) = false := by simpa using hl
      by_cases hi : i = 0
      · have HE : Hid (val N (3 * sg - 1) ((c + 1) % 4 * sg) (N / 4294967296 % t) (4 * sg) = chosen N sg t p c l i) := by
          show _ = _
          rw [HC.out]; exact val_eq (by simp [mOf, refOf, hp, hl, hi]; omega) (by simp [sOf, hp]) (by simp [refOf, hp])
        clear hl
        subst hi
        go_enter Try.func20, Try.ntmps20
        go_wp2_with (go_at_call 26; refine (phi_any _ _ _ _ _ _ (by omega) (by omega) (by omega) (by omega) (by omega) (by omega) (by omega) (by omega) (by omega) (by omega)).mono ?_; rintro e w' ⟨rfl, rfl⟩)
        go_ret
        exact ⟨ret_int HE.out, rfl⟩
      · have HE : Hid (val N (3 * sg) ((c + 1) % 4 * sg) (N / 4294967296 % t) (4 * sg) = chosen N sg t p c l i) := by
          show _ = _
          rw [HC.out]; exact val_eq (by simp [mOf, refOf, hp, hl, hi]) (by simp [sOf, hp]) (by simp [refOf, hp])
        have hib : (i == 0) = false := by simpa using hi
        clear hl
        go_enter Try.func20, Try.ntmps20
        go_wp2_with (go_at_call 26; refine (phi_any _ _ _ _ _ _ (by omega) (by omega) (by omega) (by omega) (by omega) (by omega) (by omega) (by omega) (by omega) (by omega)).mono ?_; rintro e w' ⟨rfl, rfl⟩)
        go_ret
        exact ⟨ret_int HE.out, rfl⟩

theorem mu_wrap (N M : Int) (hm : 1 ≤ M) (hm2 : M ≤ 512) : IntKind.u64.wrap (M * (N % 4294967296 * (N % 4294967296) / 4294967296)) = hi N * M := by
  rw [Int.mul_comm M]; exact pm_wrap N M hm hm2

theorem start_eq (c sg : Int) (hs : 2 ≤ sg) : (c + 1) * sg % (4 * sg) = (c + 1) % 4 * sg := by
  rw [Int.mul_comm (c + 1) sg, Int.mul_comm 4 sg, Int.mul_emod_mul_of_pos _ _ (by omega), Int.mul_comm]

theorem val_of {N m s ref L a b : Int} (hb : b = val N m s ref L) (h : a = s + m - 1 - yOf N m) : ref * L + a % L = b := by rw [hb, h]; rfl

/-- What a walk of the reference wants of its number M of blocks, its start S and its lane. -/
theorem facts (N M S ref sg : Int) (hm : 1 ≤ M) (hm2 : M ≤ 512) (hr : 0 ≤ ref) (hr2 : ref ≤ 3) (hs : 2 ≤ sg) (hs2 : sg ≤ 64) :
    IntKind.u64.wrap (M * (N % 4294967296 * (N % 4294967296) / 4294967296)) = hi N * M ∧ (hi N * M / 4294967296 = yOf N M) ∧ (0 ≤ yOf N M ∧ yOf N M ≤ M - 1) ∧
    (0 ≤ ref * (4 * sg) ∧ ref * (4 * sg) ≤ 768) ∧ (0 ≤ (S + M - 1 - yOf N M) % (4 * sg) ∧ (S + M - 1 - yOf N M) % (4 * sg) < 4 * sg) := by
  refine ⟨mu_wrap N M hm hm2, rfl, y_bd N M hm, ⟨Int.mul_nonneg hr (by omega), ?_⟩, Int.emod_nonneg _ (by omega), Int.emod_lt_of_pos _ (by omega)⟩
  have := Int.mul_le_mul hr2 (show 4 * sg ≤ 256 by omega) (by omega) (by omega)
  omega

set_option maxHeartbeats 4000000 in
theorem spec_any (N sg t p c l i : Int) (w : World) (h : Dom N sg t p c l i) :
    Calls Try.prog 7 #[.int .u64 N, .int .i64 (4 * sg), .int .i64 t, .int .i64 p, .int .i64 c, .int .i64 l, .int .i64 i] w fun e w' => e = .returned (.int .i64 (chosen N sg t p c l i)) ∧ ∃ n, w' = w.drewN n := by
  have hrf := ref_bd h
  obtain ⟨N0, N1, sg0, sg1, t0, t1, p0, p1, c0, c1, l0, l1, i0, i1, no⟩ := h
  have HC : Hid (chosen N sg t p c l i = val N (mOf sg p c l i (refOf N t p c l)) (sOf sg p c) (refOf N t p c l) (4 * sg)) := rfl
  have hand := and_lo N N0 N1
  have e1 := sq_wrap N
  have r1 : 0 ≤ N / 4294967296 % t := Int.emod_nonneg _ (by omega)
  have r2 : N / 4294967296 % t < t := Int.emod_lt_of_pos _ (by omega)
  have cs := mul_bd c sg 3 c0 c1 (by omega)
  have cs1 := mul_bd (c + 1) sg 4 (by omega) (by omega) (by omega)
  have cs4 := mul_bd ((c + 1) % 4) sg 3 (by omega) (by omega) (by omega)
  have q4 : 4 * sg / 4 = sg := by omega
  have st := start_eq c sg sg0
  clear hrf
  by_cases hp : p = 0
  · by_cases hc : c = 0
    · have HE : Hid (chosen N sg t p c l i = val N (i - 1) 0 l (4 * sg)) := by
        show _ = _
        rw [HC.out]; subst hp; subst hc; exact val_eq (by simp [mOf, refOf]) (by simp [sOf]) (by simp [refOf])
      subst hp; subst hc
      obtain ⟨f1, f2, f3, f4, f5⟩ := facts N (i - 1) 0 l sg (by omega) (by omega) l0 (by omega) sg0 sg1
      have f6 : (0 + (i - 1) - 1 - yOf N (i - 1)) = i - 1 - 1 - yOf N (i - 1) := by omega
      rw [f6] at f5
      clear f6 cs1 cs4 st
      go_enter Try.func7, Try.ntmps7
      go_wp2
      go_ret
      exact ⟨ret_int (val_of HE.out (by omega)), 0, rfl⟩
    · have hcs : sg ≤ c * sg := by have := Int.mul_le_mul_of_nonneg_right (show (1 : Int) ≤ c by omega) (show 0 ≤ sg by omega); omega
      have hcb : (c == 0) = false := by simpa using hc
      by_cases hl : N / 4294967296 % t = l
      · have HE : Hid (chosen N sg t p c l i = val N (c * sg + i - 1) 0 (N / 4294967296 % t) (4 * sg)) := by
          show _ = _
          rw [HC.out]; exact val_eq (by simp [mOf, refOf, hp, hc, hl]; omega) (by simp [sOf, hp]) (by simp [refOf, hc])
        obtain ⟨f1, f2, f3, f4, f5⟩ := facts N (c * sg + i - 1) 0 (N / 4294967296 % t) sg (by omega) (by omega) r1 (by omega) sg0 sg1
        have f6 : (0 + (c * sg + i - 1) - 1 - yOf N (c * sg + i - 1)) = c * sg + i - 1 - 1 - yOf N (c * sg + i - 1) := by omega
        rw [f6] at f5
        have hb : (N / 4294967296 % t == l) = true := by simpa using hl
        clear f6 cs1 cs4 st hl
        subst hp
        go_enter Try.func7, Try.ntmps7
        go_wp2
        go_ret
        exact ⟨ret_int (val_of HE.out (by omega)), 0, rfl⟩
      · have hb : (N / 4294967296 % t == l) = false := by simpa using hl
        have hl' : ¬ l = N / 4294967296 % t := fun e => hl e.symm
        by_cases hi : i = 0
        · have HE : Hid (chosen N sg t p c l i = val N (c * sg - 1) 0 (N / 4294967296 % t) (4 * sg)) := by
            show _ = _
            rw [HC.out]; exact val_eq (by simp [mOf, refOf, hp, hc, hl', hi]; omega) (by simp [sOf, hp]) (by simp [refOf, hc])
          obtain ⟨f1, f2, f3, f4, f5⟩ := facts N (c * sg - 1) 0 (N / 4294967296 % t) sg (by omega) (by omega) r1 (by omega) sg0 sg1
          have f6 : (0 + (c * sg - 1) - 1 - yOf N (c * sg - 1)) = c * sg - 1 - 1 - yOf N (c * sg - 1) := by omega
          rw [f6] at f5
          clear f6 cs1 cs4 st hl hl'
          subst hp; subst hi
          go_enter Try.func7, Try.ntmps7
          go_wp2
          go_ret
          exact ⟨ret_int (val_of HE.out (by omega)), 0, rfl⟩
        · have HE : Hid (chosen N sg t p c l i = val N (c * sg) 0 (N / 4294967296 % t) (4 * sg)) := by
            show _ = _
            rw [HC.out]; exact val_eq (by simp [mOf, refOf, hp, hc, hl', hi]) (by simp [sOf, hp]) (by simp [refOf, hc])
          obtain ⟨f1, f2, f3, f4, f5⟩ := facts N (c * sg) 0 (N / 4294967296 % t) sg (by omega) (by omega) r1 (by omega) sg0 sg1
          have f6 : (0 + (c * sg) - 1 - yOf N (c * sg)) = c * sg - 1 - yOf N (c * sg) := by omega
          rw [f6] at f5
          have hib : (i == 0) = false := by simpa using hi
          clear f6 cs1 cs4 st hl hl'
          subst hp
          go_enter Try.func7, Try.ntmps7
          go_wp2
          go_ret
          exact ⟨ret_int (val_of HE.out (by omega)), 0, rfl⟩
  · have hpb : (p == 0) = false := by simpa using hp
    have q5 : 4 * sg - sg = 3 * sg := by omega
    by_cases hl : N / 4294967296 % t = l
    · have HE : Hid (chosen N sg t p c l i = val N (3 * sg + i - 1) ((c + 1) % 4 * sg) (N / 4294967296 % t) (4 * sg)) := by
        show _ = _
        rw [HC.out]; exact val_eq (by simp [mOf, refOf, hp, hl]; omega) (by simp [sOf, hp]) (by simp [refOf, hp])
      obtain ⟨f1, f2, f3, f4, f5⟩ := facts N (3 * sg + i - 1) ((c + 1) % 4 * sg) (N / 4294967296 % t) sg (by omega) (by omega) r1 (by omega) sg0 sg1
      have f6 : ((c + 1) % 4 * sg + (3 * sg + i - 1) - 1 - yOf N (3 * sg + i - 1)) = (c + 1) % 4 * sg + (3 * sg + i - 1) - 1 - yOf N (3 * sg + i - 1) := rfl
      have hb : (N / 4294967296 % t == l) = true := by simpa using hl
      clear f6 hl
      go_enter Try.func7, Try.ntmps7
      go_wp2
      go_quiet (fail)
      go_wp2
      go_ret
      exact ⟨ret_int (val_of HE.out (by omega)), _, rfl⟩
    · have hb : (N / 4294967296 % t == l) = false := by simpa using hl
      have hl' : ¬ l = N / 4294967296 % t := fun e => hl e.symm
      by_cases hi : i = 0
      · have HE : Hid (chosen N sg t p c l i = val N (3 * sg - 1) ((c + 1) % 4 * sg) (N / 4294967296 % t) (4 * sg)) := by
          show _ = _
          rw [HC.out]; exact val_eq (by simp [mOf, refOf, hp, hl', hi]; omega) (by simp [sOf, hp]) (by simp [refOf, hp])
        obtain ⟨f1, f2, f3, f4, f5⟩ := facts N (3 * sg - 1) ((c + 1) % 4 * sg) (N / 4294967296 % t) sg (by omega) (by omega) r1 (by omega) sg0 sg1
        clear hl hl'
        subst hi
        go_enter Try.func7, Try.ntmps7
        go_wp2
        go_quiet (fail)
        go_wp2
        go_ret
        exact ⟨ret_int (val_of HE.out (by omega)), _, rfl⟩
      · have HE : Hid (chosen N sg t p c l i = val N (3 * sg) ((c + 1) % 4 * sg) (N / 4294967296 % t) (4 * sg)) := by
          show _ = _
          rw [HC.out]; exact val_eq (by simp [mOf, refOf, hp, hl', hi]) (by simp [sOf, hp]) (by simp [refOf, hp])
        obtain ⟨f1, f2, f3, f4, f5⟩ := facts N (3 * sg) ((c + 1) % 4 * sg) (N / 4294967296 % t) sg (by omega) (by omega) r1 (by omega) sg0 sg1
        have hib : (i == 0) = false := by simpa using hi
        clear hl hl'
        go_enter Try.func7, Try.ntmps7
        go_wp2
        go_quiet (fail)
        go_wp2
        go_ret
        exact ⟨ret_int (val_of HE.out (by omega)), _, rfl⟩
end Ix
end Go.Proofs.Ytmppkbgbnnbfmaa
