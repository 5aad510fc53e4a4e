/-
  The contracts of SHA-256's 'block' and 'Write', over a digest in memory.
  Conditions: none.
-/
import Derived.Test.YteooohmlmefbnaaNd
import Derived.Test.YteooohmlmefbnaaNc
import Derived.Deep.Cut
import Derived.Deep.RegionLaw
namespace Go.Proofs.Yteooohmlmefbnaa
namespace CI
open Go
open Go.RowKit

theorem and_not_64 : ∀ q : Fin 65, ∀ r : Fin 64, bits .andNot .i64 ((64 * q.val + r.val : Nat) : Int) 63 = ((64 * q.val : Nat) : Int) := by decide +kernel
theorem and_not63 {n : Nat} (h : n ≤ 4096) : bits .andNot .i64 (n : Int) 63 = ((64 * (n / 64) : Nat) : Int) := by
  have := and_not_64 ⟨n / 64, by omega⟩ ⟨n % 64, by omega⟩
  simp only [Nat.div_add_mod] at this
  exact this

theorem By.at' {w : World} {b o m n k : Nat} {x : Nat → B8} (h : By w b o m x) (hk : k + n ≤ m) : By w b (o + k) n (fun q => x (k + q)) :=
  ⟨h.1, fun q hq => by have := h.2 (k + q) (by omega); rwa [← Nat.add_assoc] at this⟩

theorem putB_0 (x f : Nat → B8) (o : Nat) : putB x o 0 f = x := by
  funext q
  simp only [putB, Nat.add_zero]
  rw [if_neg (by omega)]

theorem tailS_0 {K : Nat → W} {S : DS} {f : Nat → B8} (h : S.nx = 0) : tailS K S f 0 = S := by
  cases S with
  | mk a b c d =>
    simp only [] at h
    subst h
    simp only [tailS, Nat.zero_div, Nat.zero_mod, bls, putB_0]

theorem c86 {b bp op m c n : Nat} {w : World} {h K : Nat → W} {p : Nat → B8} (hh : Wd w b 0 8 h) (hf : Nf w b 0 8) (hk : Wd w 0 0 64 K) (hp : By w bp op n p) (hn : n = 64 * m) (hm : n ≤ c) (hm2 : c ≤ 9223372036854775807) :
    Calls Try.prog 86 #[.pointer (some ⟨b, 0, none⟩), .slice (some ⟨bp, op, none⟩) n c] w fun e w' => e = .returned (.tuple #[]) ∧ Wd w' b 0 8 (bls K p h m).1 ∧ Fr (inR b 0 8) w w' := by
  have HC := hidE (c93 hh hf hk hp hn hm hm2)
  clear hh hf hk hp hn
  go_enter Try.func86, Try.ntmps86
  go_wp2_with fail
  ((with_reducible refine HC.out.mono ?_); rintro e w' ⟨rfl, h1, h2⟩)
  go_wp2_with fail
  go_end0
  exact ⟨rfl, h1, h2⟩

/-- What 'Write' holds after its first part: nothing is left to take in, or the buffer is empty. -/
def Mid (K : Nat → W) (S0 : DS) (w0 : World) (b bp : Nat) (v : Value) (wx : World) : Prop :=
  ∃ (A : Option Addr) (n c : Nat) (T : DS) (f : Nat → B8), v = .slice A n c ∧ n ≤ c ∧ c ≤ 9223372036854775807 ∧ n ≤ 4096 ∧ Dg wx b T ∧ Fr (fun p => p.block = b) w0 wx ∧
    ((n = 0 ∧ T = S0) ∨ (0 < n ∧ (∃ o, A = some ⟨bp, o, none⟩ ∧ By wx bp o n f) ∧ T.nx = 0 ∧ tailS K T f n = S0))

set_option maxRecDepth 100000 in
set_option maxHeartbeats 2000000 in
theorem c81 {b bp op n c : Nat} {w : World} {S : DS} {K : Nat → W} {p : Nat → B8} (hS : Dg w b S) (hK : Wd w 0 0 64 K) (hb0 : b ≠ 0) (hp : By w bp op n p) (d : bp ≠ b) (hc : n ≤ c) (hc2 : c ≤ 9223372036854775807) (hn : n ≤ 4096) (hnx : S.nx < 64) (hln : S.ln ≤ 4294967296) :
    Calls Try.prog 81 #[.pointer (some ⟨b, 0, none⟩), .slice (some ⟨bp, op, none⟩) n c] w fun e w' => e = .returned (.tuple #[.int .i64 (n : Int), .nilIface]) ∧ Dg w' b (wrS K S p n) ∧ Fr (fun p => p.block = b) w w' := by
  have q1 := hS.ln
  have q2 := hS.nx
  have f1 := hS.at_ (k := 73) (by omega)
  have hS1 : Dg (w.setCell ⟨b, 73, none⟩ (.int .u64 ((S.ln : Int) + (n : Int)))) b { S with ln := S.ln + n } := hS.setLn (S.ln + n)
  have hf1 : Fr (fun p => p.block = b) w (w.setCell ⟨b, 73, none⟩ (.int .u64 ((S.ln : Int) + (n : Int)))) := (Fr.set1 (o := 73) _).mono fun p hp => by obtain ⟨t, _, rfl⟩ := hp; rfl
  have hp1 : By (w.setCell ⟨b, 73, none⟩ (.int .u64 ((S.ln : Int) + (n : Int)))) bp op n p := hp.fr hf1 fun k hk => d
  have HS1 := hidE hS1
  have HF1 := hidE hf1
  have HK := hidE hK
  have HP := hidE hp1
  have HP0 := hidE hp
  have x1 : ((S.ln : Int) + (n : Int)) ≤ 18446744073709551615 := by omega
  clear hS hK hp hS1 hf1 hp1
  go_enter Try.func81, Try.ntmps81
  go_upto_if 23 with fail
  all_goals (
    obtain ⟨W1, hW1⟩ : ∃ W1, W1 = w.setCell ⟨b, 73, none⟩ (.int .u64 ((S.ln : Int) + (n : Int))) := ⟨_, rfl⟩
    rw [← hW1] at HS1 HF1 HP ⊢
    have HW1 := hidE hW1
    clear hW1 q1 q2 f1)
  go_cut [1, 6] from 8 (fun v1 _ wx => Mid K (wrS K S p n) w b bp v1 wx)
  case first =>
    by_cases h0 : S.nx = 0
    · have hx : ¬ 0 < S.nx := by omega
      go_wp2_with fail
      go_meet
      case rel =>
        refine ⟨_, n, c, _, p, rfl, hc, hc2, hn, HS1.out, HF1.out, ?_⟩
        by_cases hn0 : n = 0
        · refine .inl ⟨hn0, ?_⟩
          subst hn0
          simp only [wrS, if_pos h0]
          exact (tailS_0 h0).symm
        · refine .inr ⟨by omega, ⟨op, rfl, HP.out⟩, h0, ?_⟩
          simp only [wrS, if_pos h0]
    · have hx : 0 < S.nx := by omega
      by_cases hB : S.nx + n < 64
      · have k1 : Hid (n = Nat.min n (64 - S.nx)) := (Nat.min_eq_left (by omega)).symm
        have hd2 : Hid (By W1 b (8 + S.nx) n (fun q => S.x (S.nx + q))) := HS1.out.x.at' (by omega)
        have hnf : Hid (Nf W1 b (8 + S.nx) n) := fun k hk => by have := HS1.out.at_ (k := 8 + S.nx + k) (by omega); exact this
        have q2 := HS1.out.nx
        simp only [] at q2
        have e1 : ¬ 64 = S.nx := by omega
        have e2 : (S.nx : Int) ≤ 64 := by omega
        go_wp2_with fail
        go_region_law (refine step_copy_by rfl (.tmp 31) (.tmp 32) rfl rfl rfl k1.out (hd2.out.same (Fr.drew _ W1)) (hnf.out.fr (Fr.drew (fun _ => False) W1)) (HP.out.same (Fr.drew _ W1)) ?_; intro w2 hw1 hw2)
        have HS2 := hidE (Dg.setX (HS1.out.same (Fr.drew _ W1)) hw1 hw2 (by omega))
        have HF2 := hidE ((HF1.out.trans' (Fr.drew (fun _ => False) W1)).trans' hw2)
        clear hw1 hw2
        have q3 := HS2.out.nx
        have f3 := HS2.out.at_ (k := 72) (by omega)
        simp only [] at q3
        have e3 : IntKind.i64.wrap ((S.nx : Int) + (n : Int)) = (S.nx : Int) + (n : Int) := IntWalk.i64_in _ (by omega)
        have e4 : ¬ (S.nx : Int) + (n : Int) = 64 := by omega
        go_wp2_with fail
        all_goals
          go_meet
          case' rel =>
            refine ⟨_, 0, _, _, p, rfl, by omega, by omega, by omega, HS2.out.setNx (S.nx + n), (HF2.out.trans' (Fr.set1 (o := 72) _)).strong fun p _ hp => ?_, .inl ⟨rfl, ?_⟩⟩
            · rcases hp with ((hp | hp) | ⟨t, _, rfl⟩) | ⟨t, _, rfl⟩
              · exact hp
              · exact hp.elim
              · rfl
              · rfl
            · simp only [wrS, if_neg h0, if_pos hB]
      · obtain ⟨m, hm⟩ : ∃ m, m = 64 - S.nx := ⟨_, rfl⟩
        have k1 : Hid (m = Nat.min n (64 - S.nx)) := hm.trans (Nat.min_eq_right (by omega)).symm
        have hd2 : Hid (By W1 b (8 + S.nx) m (fun q => S.x (S.nx + q))) := HS1.out.x.at' (by omega)
        have hnf : Hid (Nf W1 b (8 + S.nx) m) := fun k hk => by have := HS1.out.at_ (k := 8 + S.nx + k) (by omega); exact this
        have hp2 : Hid (By W1 bp op m p) := ⟨HP.out.1, fun k hk => HP.out.2 k (by omega)⟩
        have q2 := HS1.out.nx
        simp only [] at q2
        have e1 : ¬ 64 = S.nx := by omega
        have e2 : (S.nx : Int) ≤ 64 := by omega
        have e5 : Hid (m = 64 - S.nx) := hm
        have e6 : m ≤ n := by omega
        clear hm
        go_wp2_with fail
        go_region_law (refine step_copy_by rfl (.tmp 31) (.tmp 32) rfl rfl rfl k1.out (hd2.out.same (Fr.drew _ W1)) (hnf.out.fr (Fr.drew (fun _ => False) W1)) (hp2.out.same (Fr.drew _ W1)) ?_; intro w2 hw1 hw2)
        have HS2 := hidE (Dg.setX (HS1.out.same (Fr.drew _ W1)) hw1 hw2 (by have := e5.out; omega))
        have HF2 := hidE ((HF1.out.trans' (Fr.drew (fun _ => False) W1)).trans' hw2)
        clear hw1 hw2
        have q3 := HS2.out.nx
        have f3 := HS2.out.at_ (k := 72) (by omega)
        simp only [] at q3
        have e3 : IntKind.i64.wrap ((S.nx : Int) + (m : Int)) = 64 := by rw [IntWalk.i64_in _ (by omega)]; have := e5.out; omega
        have HS3 : Hid (Dg (w2.setCell ⟨b, 72, none⟩ (.int .i64 64)) b _) := hidE (HS2.out.setNx 64)
        have HF3 : Hid (Fr _ w2 (w2.setCell ⟨b, 72, none⟩ (.int .i64 64))) := hidE (Fr.set1 (o := 72) _)
        have HF4 : Hid (Fr (fun p => p.block = b) w (w2.setCell ⟨b, 72, none⟩ (.int .i64 64))) := hidE ((HF2.out.trans' HF3.out).strong fun p _ hp => by
          rcases hp with ((hp | hp) | ⟨t, _, rfl⟩) | ⟨t, _, rfl⟩
          · exact hp
          · exact hp.elim
          · rfl
          · rfl)
        have HC := hidE (c86 (m := 1) (n := 64) (c := 64) HS3.out.h (HS3.out.nf.sub (p := 0) (n := 8) (by omega)) (HK.out.fr HF4.out fun k _ => (Ne.symm hb0)) HS3.out.x rfl (by omega) (by omega))
        clear q2
        go_wp2_with fail
        ((with_reducible refine HC.out.mono ?_); rintro e w3 ⟨rfl, hc1, hc2'⟩)
        have HS5 := hidE (HS3.out.setH hc1 hc2')
        have HF5 : Hid (Fr (fun p => p.block = b) w w3) := hidE ((HF4.out.trans' hc2').strong fun p _ hp => by
          rcases hp with hp | ⟨t, _, rfl⟩
          · exact hp
          · rfl)
        clear hc1 hc2' HC q3 f3
        have q4 := HS5.out.nx
        have f4 := HS5.out.at_ (k := 72) (by omega)
        have hp4 : Hid (n - m ≠ 0 → By (w3.setCell ⟨b, 72, none⟩ (.int .i64 0)) bp (op + m) (n - m) (fun q => p (m + q))) := fun _ => (((By.at' (k := m) (n := n - m) HP0.out (by omega)).fr HF5.out fun k _ => d).fr (Fr.set1 (o := 72) _) fun k _ => not_inR (.inl d))
        simp only [] at q4
        have HS6 : Hid (Dg (w3.setCell ⟨b, 72, none⟩ (.int .i64 0)) b _) := hidE (HS5.out.setNx 0)
        have HF6 : Hid (Fr (fun p => p.block = b) w (w3.setCell ⟨b, 72, none⟩ (.int .i64 0))) := hidE ((HF5.out.trans' (Fr.set1 (o := 72) _)).strong fun p _ hp => by
          rcases hp with hp | ⟨t, _, rfl⟩
          · exact hp
          · rfl)
        have HT : Hid (n - m = 0 → ({ h := (bls K (putB S.x S.nx m p) S.h 1).1, x := putB S.x S.nx m p, nx := 0, ln := S.ln + n } : DS) = wrS K S p n) := fun hz => by
          simp only [wrS, if_neg h0, if_neg hB, ← e5.out]
          rw [hz, tailS_0 rfl]
        have HT2 : Hid (tailS K ({ h := (bls K (putB S.x S.nx m p) S.h 1).1, x := putB S.x S.nx m p, nx := 0, ln := S.ln + n } : DS) (fun q => p (m + q)) (n - m) = wrS K S p n) := by
          simp only [Hid, wrS, if_neg h0, if_neg hB, ← e5.out]
        by_cases hcm : c = m
        · have hz : n - m = 0 := by omega
          go_wp2_with fail
          go_meet
          case' rel => exact ⟨_, _, _, _, fun q => p (m + q), rfl, by omega, by omega, by omega, HS6.out, HF6.out, .inl ⟨by omega, HT.out hz⟩⟩
        · go_wp2_with fail
          go_meet
          case' rel =>
            refine ⟨_, _, _, _, fun q => p (m + q), rfl, by omega, by omega, by omega, HS6.out, HF6.out, ?_⟩
            by_cases hz : n - m = 0
            · exact .inl ⟨by omega, HT.out hz⟩
            · exact .inr ⟨by omega, ⟨op + m, rfl, hp4.out hz⟩, rfl, HT2.out⟩
  case rest =>
    obtain ⟨A, n1, c1, T, f, rfl, h1, h2, h3, hT, hF, hcase⟩ := hcut
    have HT := hidE hT
    have HF := hidE hF
    clear hT hF HS1 HF1 HP HP0 HW1 x1
    rcases hcase with ⟨rfl, hTe⟩ | ⟨hpos, ⟨o, rfl, hby⟩, hT0, hTe⟩
    · have HTE := hidE hTe
      clear hTe
      go_wp2_with fail
      go_ret2
      exact ⟨rfl, HTE.out ▸ HT.out, HF.out⟩
    · have HTE := hidE hTe
      have HBY := hidE hby
      have HT0 := hidE hT0
      clear hTe hby hT0
      by_cases h64 : n1 < 64
      · have k1 : Hid (n1 = Nat.min n1 64) := (Nat.min_eq_left (by omega)).symm
        have hd2 : Hid (By wc b 8 n1 T.x) := ⟨HT.out.x.1, fun k hk => HT.out.x.2 k (by omega)⟩
        have hnf : Hid (Nf wc b 8 n1) := fun k hk => HT.out.at_ (k := 8 + k) (by omega)
        have g1 : ¬ (64 : Int) ≤ (n1 : Int) := by omega
        go_wp2_with (with_reducible refine wpList_copy_by rfl (.tmp 90) (.tmp 91) rfl rfl rfl k1.out hd2.out hnf.out HBY.out ?_; intro w2 hw1 hw2; have HS2 := hidE (HT.out.setX (o := 0) hw1 hw2 (by omega)); have HF2 := hidE (HF.out.trans' hw2); clear hw1 hw2; have q3 := HS2.out.nx; have f3 := HS2.out.at_ (k := 72) (by omega))
        have HS3 := hidE (HS2.out.setNx n1)
        have HF3 := hidE (HF2.out.trans' (Fr.set1 (b := b) (o := 72) (w := w2) (.int .i64 (n1 : Int))))
        go_ret2
        refine ⟨rfl, ?_, HF3.out.strong fun p _ hp => ?_⟩
        · rw [← HTE.out]
          simp only [tailS, Nat.div_eq_of_lt h64, Nat.mod_eq_of_lt h64, bls, Nat.mul_zero, Nat.zero_add]
          exact HS3.out
        · rcases hp with (hp | ⟨t, _, rfl⟩) | ⟨t, _, rfl⟩
          · exact hp
          · rfl
          · rfl
      · obtain ⟨q, hq⟩ : ∃ q, q = 64 * (n1 / 64) := ⟨_, rfl⟩
        have g1 : (64 : Int) ≤ (n1 : Int) := by omega
        have g2 : bits .andNot .i64 (n1 : Int) 63 = (q : Int) := by rw [hq]; exact and_not63 h3
        have g3 : q ≤ n1 := by omega
        have g4 : ¬ (65536 : Int) < (q : Int) := by omega
        have HQ : Hid (q = 64 * (n1 / 64)) := hq
        have hbq : Hid (By wc bp o q f) := ⟨HBY.out.1, fun k hk => HBY.out.2 k (by omega)⟩
        have HC := hidE (c86 (m := n1 / 64) (n := q) (c := c1) HT.out.h (HT.out.nf.sub (p := 0) (n := 8) (by omega)) (HK.out.fr HF.out fun k _ => (Ne.symm hb0)) hbq.out hq (by omega) h2)
        clear hq
        go_wp2_with fail
        refine wp_loop_rounds 1 ?_
        rw [rounds_succ]
        go_wp2_with fail
        ((with_reducible refine HC.out.mono ?_); rintro e w3 ⟨rfl, hc1, hc2'⟩)
        have HS5 := hidE (HT.out.setH hc1 hc2')
        have HF5 : Hid (Fr (fun p => p.block = b) wc w3) := hidE (hc2'.mono fun p hp => by obtain ⟨t, _, rfl⟩ := hp; rfl)
        have HF6 : Hid (Fr (fun p => p.block = b) w w3) := hidE ((HF.out.trans' HF5.out).strong fun p _ hp => by
          rcases hp with hp | hp
          · exact hp
          · exact hp)
        clear hc1 hc2' HC
        by_cases hz : n1 - q = 0
        · have hz2 : n1 % 64 = 0 := by have := HQ.out; omega
          have HZ2 : Hid (tailS K T f n1 = { h := (bls K f T.h (n1 / 64)).1, x := T.x, nx := T.nx, ln := T.ln }) := by
            simp only [Hid, tailS, hz2, putB_0, HT0.out]
          clear hz2
          by_cases hcq : c1 = q
          · go_wp2_with fail
            go_ret2
            exact ⟨rfl, by rw [← HTE.out, HZ2.out]; exact HS5.out, HF6.out⟩
          · go_wp2_with fail
            go_ret2
            exact ⟨rfl, by rw [← HTE.out, HZ2.out]; exact HS5.out, HF6.out⟩
        · have hcq : ¬ c1 = q := by omega
          have hz1 : 0 < n1 - q := by omega
          have k1 : Hid (n1 - q = Nat.min (n1 - q) 64) := (Nat.min_eq_left (by have := HQ.out; omega)).symm
          have hd2 : Hid (By w3 b 8 (n1 - q) T.x) := ⟨HS5.out.x.1, fun k hk => HS5.out.x.2 k (by have := HQ.out; omega)⟩
          have hnf : Hid (Nf w3 b 8 (n1 - q)) := fun k hk => HS5.out.at_ (k := 8 + k) (by have := HQ.out; omega)
          have HB3 : Hid (By w3 bp (o + q) (n1 - q) (fun k => f (q + k))) := (By.at' (k := q) (n := n1 - q) HBY.out (by omega)).fr HF5.out fun k _ => d
          go_wp2_with (with_reducible refine wpList_copy_by rfl (.tmp 90) (.tmp 91) rfl rfl rfl k1.out hd2.out hnf.out HB3.out ?_; intro w2 hw1 hw2; have HS2 := hidE (HS5.out.setX (o := 0) hw1 hw2 (by have := HQ.out; omega)); have HF2 := hidE (HF6.out.trans' hw2); clear hw1 hw2; have q3 := HS2.out.nx; have f3 := HS2.out.at_ (k := 72) (by omega))
          have HS3 := hidE (HS2.out.setNx (n1 - q))
          have HF3 := hidE (HF2.out.trans' (Fr.set1 (b := b) (o := 72) (w := w2) (.int .i64 ((n1 - q : Nat) : Int))))
          go_ret2
          refine ⟨rfl, ?_, HF3.out.strong fun p _ hp => ?_⟩
          · rw [← HTE.out]
            have e : n1 % 64 = n1 - q := by have := HQ.out; omega
            simp only [tailS, e, ← HQ.out]
            exact HS3.out
          · rcases hp with (hp | ⟨t, _, rfl⟩) | ⟨t, _, rfl⟩
            · exact hp
            · rfl
            · rfl

set_option maxRecDepth 100000 in
set_option maxHeartbeats 1000000 in
/-- 'Write' of nothing at all, from an empty buffer. -/
theorem c81n {b : Nat} {w : World} {S : DS} {K : Nat → W} {p : Nat → B8} (hS : Dg w b S) (hnx : S.nx = 0) (hln : S.ln ≤ 4294967296) :
    Calls Try.prog 81 #[.pointer (some ⟨b, 0, none⟩), .slice none 0 0] w fun e w' => e = .returned (.tuple #[.int .i64 0, .nilIface]) ∧ Dg w' b (wrS K S p 0) ∧ Fr (fun p => p.block = b) w w' := by
  have q1 := hS.ln
  have q2 := hS.nx
  rw [hnx] at q2
  have f1 := hS.at_ (k := 73) (by omega)
  have hS1 : Dg (w.setCell ⟨b, 73, none⟩ (.int .u64 (S.ln : Int))) b { S with ln := S.ln } := hS.setLn S.ln
  have hf1 : Fr (fun p => p.block = b) w (w.setCell ⟨b, 73, none⟩ (.int .u64 (S.ln : Int))) := (Fr.set1 (o := 73) _).mono fun p hp => by obtain ⟨t, _, rfl⟩ := hp; rfl
  have HS1 := hidE hS1
  have HF1 := hidE hf1
  have HNX := hidE hnx
  have x1 : (S.ln : Int) ≤ 18446744073709551615 := by omega
  clear hS hS1 hf1 hnx
  go_enter Try.func81, Try.ntmps81
  go_wp2_with fail
  go_ret2
  refine ⟨rfl, ?_, HF1.out⟩
  rw [wrS, if_pos HNX.out, Nat.add_zero, tailS_0 HNX.out]
  exact HS1.out
end CI
end Go.Proofs.Yteooohmlmefbnaa
