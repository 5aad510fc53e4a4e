/-
  The contract of 'checkSum'.
  Conditions: none.
-/
import Derived.Test.YteooohmlmefbnaaNe
import Derived.Test.YteooohmlmefbnaaNf
import Derived.Deep.Cut
import Derived.Deep.MidRow
namespace Go.Proofs.Yteooohmlmefbnaa
namespace CI
open Go
open Go.RowKit
/-- How far the padding goes ahead of the length. -/
def padT (L : Nat) : Nat := if L % 64 < 56 then 56 - L % 64 else 120 - L % 64
def padB (L : Nat) (k : Nat) : B8 := if padT L ≤ k ∧ k < padT L + 8 then beB (8 * L) 8 (k - padT L) else if k = 0 then 128#8 else 0#8

theorem By.range {w : World} {b o n : Nat} {f : Nat → B8} (h : By w b o n f) : w.rangeAt b o (bvals n f) := fun j u hu => by
  have := h.vals j u hu
  rwa [Addr.add_mid] at this
theorem bvals_cells (n : Nat) (f : Nat → B8) : ((bvals n f).toArray).all (·.oneCell') = true := all_oneCell_toArray fun v hv => by
  obtain ⟨i, hi, e⟩ := List.getElem_of_mem hv
  have := bvals_get (n := n) (f := f) (by rwa [bvals_length] at hi)
  rw [List.getElem?_eq_getElem hi] at this
  rw [← e, Option.some.inj this]; rfl

/-- An array of 32 bytes is read. -/
theorem wpList_load32 {ops : Array Oper} {rest : List Oper} {op : Oper} {a : Act} {w : World} {Q : Exit → Act → World → Prop} {b o : Nat} {f : Nat → B8} (hgd : op.guard = none) (x : Operand) (ho : op.op = .load 113 x)
    (hx : a.eval x = .pointer (some ⟨b, o, none⟩)) (hb : By w b o 32 f)
    (h : wpList Try.prog ops Q rest (a.put op.dst (.agg (bvals 32 f).toArray)) w) : wpList Try.prog ops Q (op :: rest) a w :=
  wpList_load_mid hgd 113 x ho b o hx (bvals 32 f) (.array 32 5) hb.range (by kernel_rfl) rfl (by rw [bvals_length]; kernel_rfl) h
/-- An array of 32 bytes is written. -/
theorem wpList_store32 {ops : Array Oper} {rest : List Oper} {op : Oper} {a : Act} {w : World} {Q : Exit → Act → World → Prop} {b o : Nat} {f g : Nat → B8} (hgd : op.guard = none) (x y : Operand) (ho : op.op = .store 113 x y)
    (hx : a.eval x = .pointer (some ⟨b, o, none⟩)) (hy : a.eval y = .agg (bvals 32 f).toArray) (hb : By w b o 32 g) (hn : Nf w b o 32)
    (h : ∀ w', By w' b o 32 f → Fr (inR b o 32) w w' → wpList Try.prog ops Q rest (a.put op.dst undef) w') : wpList Try.prog ops Q (op :: rest) a w := by
  have hl : (bvals 32 f).toArray.size = 32 := by rw [List.size_toArray, bvals_length]
  have ht : w.there b o 32 := fun j hj => ⟨by rw [hb.2 j hj]; rfl, hn j hj⟩
  have hfr : Fr (inR b o 32) w (w.setCells b o (bvals 32 f)) := Fr.setCells w b o _ fun j hj => ⟨j, by rw [bvals_length] at hj; exact hj, rfl⟩
  refine wpList_store_mid hgd 113 x y ho b o _ hx hy (by rw [hl]; exact ht) (by rw [hl]; kernel_rfl) (bvals_cells _ _) (h _ ⟨Nat.lt_of_lt_of_le hb.1 hfr.size, fun k hk => ?_⟩ hfr)
  have e := bvals_get (f := f) hk
  exact World.rangeAt_setCells_same w b o (bvals 32 f) (by rw [bvals_length]; exact ht) k _ e
/-- The result is such an array. -/
theorem results32 {fn : Func} {t : Tmp} {tmps : Array Value} {w : World} {b : Nat} {f : Nat → B8} (h : fn.results = #[.cell t 113]) (ht : tmps.getD t undef = .pointer (some ⟨b, 0, none⟩)) (hb : By w b 0 32 f) :
    (results fn tmps).run Try.prog w = .ok (.agg (bvals 32 f).toArray) w := by
  have e := run_loadVar_mid (P := Try.prog) w b 0 113 (bvals 32 f) (.array 32 5) hb.range (by kernel_rfl) rfl (by rw [bvals_length]; kernel_rfl)
  have e2 : (results fn tmps).run Try.prog w = ((asAddr (tmps.getD t undef)).run Try.prog w).andThen fun a w => (loadVar 113 a).run Try.prog w := by
    simp [results, h]
  have e3 : (asAddr (.pointer (some ⟨b, 0, none⟩))).run Try.prog w = .ok ⟨b, 0, none⟩ w := rfl
  rw [e2, ht, e3, Result.andThen_ok]
  exact e

theorem wr_pad {K : Nat → W} {S : DS} {p : Nat → B8} (h : S.ln % 64 = S.nx) : (wrS K S p (padT S.ln + 8)).nx = 0 := by
  have e : padT S.ln = if S.ln % 64 < 56 then 56 - S.ln % 64 else 120 - S.ln % 64 := rfl
  rw [h] at e
  have hl : S.nx < 64 := by omega
  generalize padT S.ln = t at e
  by_cases h0 : S.nx = 0
  · rw [h0, if_pos (by omega)] at e
    simp only [wrS, if_pos h0, tailS]; omega
  · by_cases h1 : S.nx < 56
    · rw [if_pos h1] at e
      rw [wrS, if_neg h0, if_neg (by omega)]
      simp only [tailS]; omega
    · rw [if_neg h1] at e
      rw [wrS, if_neg h0, if_neg (by omega)]
      simp only [tailS]; omega

/-- The first i words of a sum. -/
def sumB (h : Nat → W) (i k : Nat) : B8 := if k < 4 * i then beB (h (k / 4)).toNat 4 (k % 4) else 0#8
theorem sum_step {w w' : World} {bo i : Nat} {h : Nat → W} (_hi : i < 8) (hb : By w bo 0 32 (sumB h i)) (h4 : By w' bo (4 * i) 4 (beB (h i).toNat 4)) (hf : Fr (inR bo (4 * i) 4) w w') : By w' bo 0 32 (sumB h (i + 1)) := by
  refine (By.put (p := 4 * i) hb (by rw [Nat.zero_add]; exact h4) (by rw [Nat.zero_add]; exact hf)).congr fun k hk => ?_
  simp only [putB, sumB]
  by_cases h1 : k < 4 * i
  · rw [if_neg (by omega), if_pos h1, if_pos (by omega)]
  · by_cases h2 : k < 4 * i + 4
    · rw [if_pos (by omega), if_pos (by omega), show k / 4 = i by omega, show k - 4 * i = k % 4 by omega]
    · rw [if_neg (by omega), if_neg h1, if_neg (by omega)]

/-- The sum. -/
def ckB (K : Nat → W) (S : DS) : Nat → B8 := sumB (wrS K S (padB S.ln) (padT S.ln + 8)).h 8

theorem al_by {w W : World} {m t : Nat} {v : Array Value} (h : w.alloc (.cells v t) = W) (hv : v = Array.replicate m (.int .u8 0) := by rfl) : By W w.heap.size 0 m (fun _ => 0#8) ∧ Nf W w.heap.size 0 m ∧ Fr (fun _ => False) w W := by
  subst hv
  subst h
  obtain ⟨z1, z2⟩ := rep_cell w m (.int .u8 0) t
  exact ⟨⟨z1, z2⟩, fun k _ => World.frozen?_alloc_new _ _ _ _, Fr.alloc _ _ _ _⟩

set_option maxRecDepth 100000 in
set_option maxHeartbeats 2000000 in
theorem c83 {b : Nat} {w : World} {S : DS} {K : Nat → W} (hS : Dg w b S) (hK : Wd w 0 0 64 K) (hb0 : b ≠ 0) (hnx : S.ln % 64 = S.nx) (hln : S.ln ≤ 1000000) :
    Calls Try.prog 83 #[.pointer (some ⟨b, 0, none⟩)] w fun e w' => e = .returned (.agg (bvals 32 (ckB K S)).toArray) ∧ Dg w' b (wrS K S (padB S.ln) (padT S.ln + 8)) ∧ Fr (fun p => p.block = b) w w' := by
  have HS := hidE hS
  have HK := hidE hK
  clear hS hK
  have q1 := HS.out.ln
  obtain ⟨t, ht⟩ : ∃ t, t = padT S.ln := ⟨_, rfl⟩
  have HT := hidE ht
  have t1 : t ≤ 64 := by rw [ht]; simp only [padT]; split <;> omega
  have t0 : 0 < t := by rw [ht]; simp only [padT]; split <;> omega
  clear ht
  go_enter Try.func83, Try.ntmps83
  go_upto_region 1 with fail
  refine wp_gen fun W1 hW1 => ?_
  have HW1 := hidE (al_by (m := 32) hW1)
  have HS1 := hidE (HS.out.same HW1.out.2.2)
  have q1 := HS1.out.ln
  clear hW1
  go_upto_region 3 with fail
  refine wp_gen fun W2 hW2 => ?_
  have HW2 := hidE (al_by (m := 72) hW2)
  have HS2 := hidE (HS1.out.same HW2.out.2.2)
  have c1 := HW2.out.1.2 0 (by omega)
  have c2 := HW2.out.2.1 0 (by omega)
  clear hW2 q1
  have x1 : Hid (t = if S.ln % 64 < 56 then 56 - S.ln % 64 else 120 - S.ln % 64) := HT.out
  go_upto_if 15 with fail
  obtain ⟨W3, hW3⟩ : ∃ W3, W3 = W2.setCell ⟨W1.heap.size, 0, none⟩ (.int .u8 128) := ⟨_, rfl⟩
  rw [← hW3]
  have HW3 := hidE hW3
  clear hW3
  go_cut [5] from 8 (fun v5 wx => v5 = .int .u64 (t : Int) ∧ wx = W3)
  case first =>
    by_cases h56 : S.ln % 64 < 56
    · have g1 : ((S.ln : Int) % 64) < 56 := by omega
      have g2 : (56 - (S.ln : Int) % 64) = (t : Int) := by have := x1.out; rw [if_pos h56] at this; omega
      go_wp2_with fail
      go_meet
      case' rel => exact ⟨rfl, rfl⟩
    · have g1 : ¬ ((S.ln : Int) % 64) < 56 := by omega
      have g2 : (120 - (S.ln : Int) % 64) = (t : Int) := by have := x1.out; rw [if_neg h56] at this; omega
      go_wp2_with fail
      go_meet
      case' rel => exact ⟨rfl, rfl⟩
  case rest =>
    obtain ⟨rfl, rfl⟩ := hcut
    have y1 : (t : Int) + 8 ≤ 72 := by omega
    have y0 : (0 : Int) ≤ (t : Int) + 8 := by omega
    have y3 : (t : Int) ≤ 64 := by omega
    have y4 : ((t : Int) + 8).toNat = t + 8 := by omega
    have hb3 : Hid (By wc W1.heap.size 0 72 (fun k => if k = 0 then 128#8 else 0#8)) := by rw [HW3.out]; exact HW2.out.1.set1 (i := 0) (by omega) 128#8
    have hs3 : Hid (Dg wc b S) := by rw [HW3.out]; exact HS2.out.far (Fr.set1 (o := 0) _) fun o => by rintro ⟨k, _, he⟩; simp only [MemPlace.cell.injEq] at he; have := HS1.out.h.1; omega
    have hf3 : Hid (Fr (fun p => p.block = b) w wc) := by
      rw [HW3.out]
      refine (((HW1.out.2.2.trans HW2.out.2.2).trans' (Fr.set1 (o := 0) _))).strong fun p hp hm => ?_
      rcases hm with hm | ⟨t, _, rfl⟩
      · exact hm.elim
      · have := HW1.out.2.2.size; simp only [MemPlace.block] at hp; omega
    have ha3 : Hid (Fr (fun p => p.block ≠ w.heap.size) W1 wc) := by
      rw [HW3.out]
      refine ((HW2.out.2.2.trans' (Fr.set1 (o := 0) _))).strong fun p hp hm => ?_
      rcases hm with hm | ⟨t, _, rfl⟩
      · exact hm.elim
      · have := HW1.out.1.1; simp only [MemPlace.block]; omega
    have hn3 : Hid (Nf wc W1.heap.size 0 72) := by rw [HW3.out]; exact HW2.out.2.1.fr (Fr.set1 (o := 0) _)
    obtain ⟨L8, hL8⟩ : ∃ L8, L8 = 8 * S.ln := ⟨_, rfl⟩
    have e8 : (S.ln : Int) * 8 = (L8 : Int) := by omega
    have HL8 := hidE hL8
    clear c1 c2 hL8 y0 y1 y3 y4
    have y1 : (t : Int) + 8 ≤ 72 := by omega
    have y0 : (0 : Int) ≤ (t : Int) + 8 := by omega
    have y3 : (t : Int) ≤ 64 := by omega
    have y4 : ((t : Int) + 8).toNat = t + 8 := by omega
    go_wp2_with fail
    have HB := hidE (By.sub (p := t) (n := 8) hb3.out (by omega))
    have HN := hidE (Nf.sub (p := t) (n := 8) hn3.out (by omega))
    simp only [Nat.zero_add] at HB HN
    ((with_reducible refine (c89 HB.out HN.out (Nat.le_refl _)).mono ?_); rintro e w4 ⟨rfl, h4, f4⟩)
    have HB4 : Hid (By w4 W1.heap.size 0 72 (padB S.ln)) := hidE ((By.put (o := 0) (p := t) hb3.out (by rw [Nat.zero_add]; exact h4) (by rw [Nat.zero_add]; exact f4)).congr fun k hk => by
      have e := HL8.out
      have e2 := HT.out
      subst e
      simp only [putB, padB, ← e2])
    have HS4 := hidE (hs3.out.far f4 fun o => by rintro ⟨k, _, he⟩; simp only [MemPlace.cell.injEq] at he; have := HS1.out.h.1; omega)
    have HF4 : Hid (Fr (fun p => p.block = b) w w4) := by
      refine (hf3.out.trans' f4).strong fun p hp hm => ?_
      rcases hm with hm | ⟨t, _, rfl⟩
      · exact hm
      · have := HW1.out.2.2.size; simp only [MemPlace.block] at hp; omega
    have HA4 : Hid (Fr (fun p => p.block ≠ w.heap.size) W1 w4) := hidE ((ha3.out.trans' f4).strong fun p _ hm => by
      rcases hm with hm | ⟨t, _, rfl⟩
      · exact hm
      · have := HW1.out.1.1; simp only [MemPlace.block]; omega)
    clear h4 f4 HB HN y0 y1 y3 y4 e8
    go_wp2_with fail
    have hdn : W1.heap.size ≠ b := by have := HS1.out.h.1; omega
    have hk4 : Wd w4 0 0 64 K := HK.out.fr HF4.out fun k _ e => hb0 e.symm
    have hb4 : By w4 W1.heap.size 0 (t + 8) (padB S.ln) := ⟨HB4.out.1, fun k hk => HB4.out.2 k (by omega)⟩
    have HC := hidE (c81 (c := 72) (K := K) HS4.out hk4 hb0 hb4 hdn (by omega) (by omega) (by omega) (by omega) (by omega))
    clear hdn hk4 hb4
    ((with_reducible refine HC.out.mono ?_); rintro e w5 ⟨rfl, h5, f5⟩)
    have hz : (wrS K S (padB S.ln) (t + 8)).nx = 0 := by rw [HT.out]; exact wr_pad hnx
    have q2 := h5.nx
    have q3 := h5.z
    rw [hz] at q2
    have HZ := hidE hz
    have HS5 := hidE h5
    have HF5 : Hid (Fr (fun p => p.block = b) w w5) := (HF4.out.trans' f5).strong fun p _ hm => by
      rcases hm with hm | hm
      · exact hm
      · exact hm
    have HA5 : Hid (Fr (fun p => p.block ≠ w.heap.size) W1 w5) := hidE ((HA4.out.trans' f5).strong fun p _ hm => by
      rcases hm with hm | hm
      · exact hm
      · have := HS.out.h.1; rw [hm]; omega)
    clear h5 f5 HC hz
    go_upto_region 15 with fail
    refine wp_gen fun W6 hW6 => ?_
    have hw6 := al_by (m := 32) hW6
    have HB0 : Hid (By W6 w5.heap.size 0 32 (sumB (wrS K S (padB S.ln) (t + 8)).h 0)) := hidE (hw6.1.congr fun k _ => by simp only [sumB, Nat.mul_zero, if_neg (Nat.not_lt_zero k)])
    have HN0 := hidE hw6.2.1
    have HS6 := hidE (HS5.out.same hw6.2.2)
    have HF6 := hidE (HF5.out.trans' hw6.2.2)
    have HA6 : Hid (Fr (fun p => p.block ≠ w.heap.size) W1 W6) := hidE ((HA5.out.trans' hw6.2.2).strong fun p _ hm => by
      rcases hm with hm | hm
      · exact hm
      · exact hm.elim)
    clear hW6 hw6 q2 q3
    have HFZ : Hid (Fr (fun p => p.block = b ∨ p.block = w5.heap.size) w W6) := hidE (HF6.out.mono fun p hp => hp.elim .inl fun f => f.elim)
    have q0 := HS6.out.h.2 0 (by omega)
    rw [Nat.zero_add] at q0
    have q1 := HS6.out.z
    have hx := By.sub (p := 4 * 0) (n := 4) HB0.out (by omega)
    have hm := Nf.sub (p := 4 * 0) (n := 4) HN0.out (by omega)
    rw [Nat.zero_add] at hx hm
    have HX := hidE hx
    have HM := hidE hm
    clear hx hm
    go_region_with (go_at_call 90; ((with_reducible refine (c90 (HX.out.same (Fr.drew _ _)) (HM.out.fr (Fr.drew (fun _ => False) _)) (by omega)).mono ?_); rintro e v1 ⟨rfl, h6, f6⟩))
    have f7 := (Fr.drew (inR w5.heap.size (4 * 0) 4) W6).trans f6
    have HB1 := hidE (sum_step (by omega) HB0.out h6 f7)
    have HN1 := hidE (HN0.out.fr f7)
    have HSv1 := hidE (HS6.out.far f7 fun o => by rintro ⟨k, _, he⟩; simp only [MemPlace.cell.injEq] at he; have := HS5.out.h.1; omega)
    have HFv1 : Hid (Fr (fun p => p.block = b ∨ p.block = w5.heap.size) w v1) := hidE ((HFZ.out.trans' f7).strong fun p _ hp => by
      rcases hp with hp | ⟨t, _, rfl⟩
      · exact hp
      · exact .inr rfl)
    have HA7 : Hid (Fr (fun p => p.block ≠ w.heap.size) W1 v1) := hidE ((HA6.out.trans' f7).strong fun p _ hm => by
      rcases hm with hm | ⟨t, _, rfl⟩
      · exact hm
      · have := HA5.out.size; have := HW1.out.1.1; simp only [MemPlace.block]; omega)
    clear h6 f6 f7 HX HM q0 q1
    have q0 := HSv1.out.h.2 1 (by omega)
    rw [Nat.zero_add] at q0
    have q1 := HSv1.out.z
    have hx := By.sub (p := 4 * 1) (n := 4) HB1.out (by omega)
    have hm := Nf.sub (p := 4 * 1) (n := 4) HN1.out (by omega)
    rw [Nat.zero_add] at hx hm
    have HX := hidE hx
    have HM := hidE hm
    clear hx hm
    go_upto_region 16 with fail
    go_region_with (go_at_call 90; ((with_reducible refine (c90 (HX.out.same (Fr.drew _ _)) (HM.out.fr (Fr.drew (fun _ => False) _)) (by omega)).mono ?_); rintro e v2 ⟨rfl, h6, f6⟩))
    have f7 := (Fr.drew (inR w5.heap.size (4 * 1) 4) v1).trans f6
    have HB2 := hidE (sum_step (by omega) HB1.out h6 f7)
    have HN2 := hidE (HN1.out.fr f7)
    have HSv2 := hidE (HSv1.out.far f7 fun o => by rintro ⟨k, _, he⟩; simp only [MemPlace.cell.injEq] at he; have := HS5.out.h.1; omega)
    have HFv2 : Hid (Fr (fun p => p.block = b ∨ p.block = w5.heap.size) w v2) := hidE ((HFv1.out.trans' f7).strong fun p _ hp => by
      rcases hp with hp | ⟨t, _, rfl⟩
      · exact hp
      · exact .inr rfl)
    have HA8 : Hid (Fr (fun p => p.block ≠ w.heap.size) W1 v2) := hidE ((HA7.out.trans' f7).strong fun p _ hm => by
      rcases hm with hm | ⟨t, _, rfl⟩
      · exact hm
      · have := HA5.out.size; have := HW1.out.1.1; simp only [MemPlace.block]; omega)
    clear h6 f6 f7 HX HM q0 q1
    have q0 := HSv2.out.h.2 2 (by omega)
    rw [Nat.zero_add] at q0
    have q1 := HSv2.out.z
    have hx := By.sub (p := 4 * 2) (n := 4) HB2.out (by omega)
    have hm := Nf.sub (p := 4 * 2) (n := 4) HN2.out (by omega)
    rw [Nat.zero_add] at hx hm
    have HX := hidE hx
    have HM := hidE hm
    clear hx hm
    go_upto_region 17 with fail
    go_region_with (go_at_call 90; ((with_reducible refine (c90 (HX.out.same (Fr.drew _ _)) (HM.out.fr (Fr.drew (fun _ => False) _)) (by omega)).mono ?_); rintro e v3 ⟨rfl, h6, f6⟩))
    have f7 := (Fr.drew (inR w5.heap.size (4 * 2) 4) v2).trans f6
    have HB3 := hidE (sum_step (by omega) HB2.out h6 f7)
    have HN3 := hidE (HN2.out.fr f7)
    have HSv3 := hidE (HSv2.out.far f7 fun o => by rintro ⟨k, _, he⟩; simp only [MemPlace.cell.injEq] at he; have := HS5.out.h.1; omega)
    have HFv3 : Hid (Fr (fun p => p.block = b ∨ p.block = w5.heap.size) w v3) := hidE ((HFv2.out.trans' f7).strong fun p _ hp => by
      rcases hp with hp | ⟨t, _, rfl⟩
      · exact hp
      · exact .inr rfl)
    have HA9 : Hid (Fr (fun p => p.block ≠ w.heap.size) W1 v3) := hidE ((HA8.out.trans' f7).strong fun p _ hm => by
      rcases hm with hm | ⟨t, _, rfl⟩
      · exact hm
      · have := HA5.out.size; have := HW1.out.1.1; simp only [MemPlace.block]; omega)
    clear h6 f6 f7 HX HM q0 q1
    have q0 := HSv3.out.h.2 3 (by omega)
    rw [Nat.zero_add] at q0
    have q1 := HSv3.out.z
    have hx := By.sub (p := 4 * 3) (n := 4) HB3.out (by omega)
    have hm := Nf.sub (p := 4 * 3) (n := 4) HN3.out (by omega)
    rw [Nat.zero_add] at hx hm
    have HX := hidE hx
    have HM := hidE hm
    clear hx hm
    go_upto_region 18 with fail
    go_region_with (go_at_call 90; ((with_reducible refine (c90 (HX.out.same (Fr.drew _ _)) (HM.out.fr (Fr.drew (fun _ => False) _)) (by omega)).mono ?_); rintro e v4 ⟨rfl, h6, f6⟩))
    have f7 := (Fr.drew (inR w5.heap.size (4 * 3) 4) v3).trans f6
    have HB4 := hidE (sum_step (by omega) HB3.out h6 f7)
    have HN4 := hidE (HN3.out.fr f7)
    have HSv4 := hidE (HSv3.out.far f7 fun o => by rintro ⟨k, _, he⟩; simp only [MemPlace.cell.injEq] at he; have := HS5.out.h.1; omega)
    have HFv4 : Hid (Fr (fun p => p.block = b ∨ p.block = w5.heap.size) w v4) := hidE ((HFv3.out.trans' f7).strong fun p _ hp => by
      rcases hp with hp | ⟨t, _, rfl⟩
      · exact hp
      · exact .inr rfl)
    have HA10 : Hid (Fr (fun p => p.block ≠ w.heap.size) W1 v4) := hidE ((HA9.out.trans' f7).strong fun p _ hm => by
      rcases hm with hm | ⟨t, _, rfl⟩
      · exact hm
      · have := HA5.out.size; have := HW1.out.1.1; simp only [MemPlace.block]; omega)
    clear h6 f6 f7 HX HM q0 q1
    have q0 := HSv4.out.h.2 4 (by omega)
    rw [Nat.zero_add] at q0
    have q1 := HSv4.out.z
    have hx := By.sub (p := 4 * 4) (n := 4) HB4.out (by omega)
    have hm := Nf.sub (p := 4 * 4) (n := 4) HN4.out (by omega)
    rw [Nat.zero_add] at hx hm
    have HX := hidE hx
    have HM := hidE hm
    clear hx hm
    go_upto_region 19 with fail
    go_region_with (go_at_call 90; ((with_reducible refine (c90 (HX.out.same (Fr.drew _ _)) (HM.out.fr (Fr.drew (fun _ => False) _)) (by omega)).mono ?_); rintro e v5 ⟨rfl, h6, f6⟩))
    have f7 := (Fr.drew (inR w5.heap.size (4 * 4) 4) v4).trans f6
    have HB5 := hidE (sum_step (by omega) HB4.out h6 f7)
    have HN5 := hidE (HN4.out.fr f7)
    have HSv5 := hidE (HSv4.out.far f7 fun o => by rintro ⟨k, _, he⟩; simp only [MemPlace.cell.injEq] at he; have := HS5.out.h.1; omega)
    have HFv5 : Hid (Fr (fun p => p.block = b ∨ p.block = w5.heap.size) w v5) := hidE ((HFv4.out.trans' f7).strong fun p _ hp => by
      rcases hp with hp | ⟨t, _, rfl⟩
      · exact hp
      · exact .inr rfl)
    have HA11 : Hid (Fr (fun p => p.block ≠ w.heap.size) W1 v5) := hidE ((HA10.out.trans' f7).strong fun p _ hm => by
      rcases hm with hm | ⟨t, _, rfl⟩
      · exact hm
      · have := HA5.out.size; have := HW1.out.1.1; simp only [MemPlace.block]; omega)
    clear h6 f6 f7 HX HM q0 q1
    have q0 := HSv5.out.h.2 5 (by omega)
    rw [Nat.zero_add] at q0
    have q1 := HSv5.out.z
    have hx := By.sub (p := 4 * 5) (n := 4) HB5.out (by omega)
    have hm := Nf.sub (p := 4 * 5) (n := 4) HN5.out (by omega)
    rw [Nat.zero_add] at hx hm
    have HX := hidE hx
    have HM := hidE hm
    clear hx hm
    go_upto_region 20 with fail
    go_region_with (go_at_call 90; ((with_reducible refine (c90 (HX.out.same (Fr.drew _ _)) (HM.out.fr (Fr.drew (fun _ => False) _)) (by omega)).mono ?_); rintro e v6 ⟨rfl, h6, f6⟩))
    have f7 := (Fr.drew (inR w5.heap.size (4 * 5) 4) v5).trans f6
    have HB6 := hidE (sum_step (by omega) HB5.out h6 f7)
    have HN6 := hidE (HN5.out.fr f7)
    have HSv6 := hidE (HSv5.out.far f7 fun o => by rintro ⟨k, _, he⟩; simp only [MemPlace.cell.injEq] at he; have := HS5.out.h.1; omega)
    have HFv6 : Hid (Fr (fun p => p.block = b ∨ p.block = w5.heap.size) w v6) := hidE ((HFv5.out.trans' f7).strong fun p _ hp => by
      rcases hp with hp | ⟨t, _, rfl⟩
      · exact hp
      · exact .inr rfl)
    have HA12 : Hid (Fr (fun p => p.block ≠ w.heap.size) W1 v6) := hidE ((HA11.out.trans' f7).strong fun p _ hm => by
      rcases hm with hm | ⟨t, _, rfl⟩
      · exact hm
      · have := HA5.out.size; have := HW1.out.1.1; simp only [MemPlace.block]; omega)
    clear h6 f6 f7 HX HM q0 q1
    have q0 := HSv6.out.h.2 6 (by omega)
    rw [Nat.zero_add] at q0
    have q1 := HSv6.out.z
    have hx := By.sub (p := 4 * 6) (n := 4) HB6.out (by omega)
    have hm := Nf.sub (p := 4 * 6) (n := 4) HN6.out (by omega)
    rw [Nat.zero_add] at hx hm
    have HX := hidE hx
    have HM := hidE hm
    clear hx hm
    go_upto_region 21 with fail
    go_region_with (go_at_call 90; ((with_reducible refine (c90 (HX.out.same (Fr.drew _ _)) (HM.out.fr (Fr.drew (fun _ => False) _)) (by omega)).mono ?_); rintro e v7 ⟨rfl, h6, f6⟩))
    have f7 := (Fr.drew (inR w5.heap.size (4 * 6) 4) v6).trans f6
    have HB7 := hidE (sum_step (by omega) HB6.out h6 f7)
    have HN7 := hidE (HN6.out.fr f7)
    have HSv7 := hidE (HSv6.out.far f7 fun o => by rintro ⟨k, _, he⟩; simp only [MemPlace.cell.injEq] at he; have := HS5.out.h.1; omega)
    have HFv7 : Hid (Fr (fun p => p.block = b ∨ p.block = w5.heap.size) w v7) := hidE ((HFv6.out.trans' f7).strong fun p _ hp => by
      rcases hp with hp | ⟨t, _, rfl⟩
      · exact hp
      · exact .inr rfl)
    have HA13 : Hid (Fr (fun p => p.block ≠ w.heap.size) W1 v7) := hidE ((HA12.out.trans' f7).strong fun p _ hm => by
      rcases hm with hm | ⟨t, _, rfl⟩
      · exact hm
      · have := HA5.out.size; have := HW1.out.1.1; simp only [MemPlace.block]; omega)
    clear h6 f6 f7 HX HM q0 q1
    have q0 := HSv7.out.h.2 7 (by omega)
    rw [Nat.zero_add] at q0
    have q1 := HSv7.out.z
    have hx := By.sub (p := 4 * 7) (n := 4) HB7.out (by omega)
    have hm := Nf.sub (p := 4 * 7) (n := 4) HN7.out (by omega)
    rw [Nat.zero_add] at hx hm
    have HX := hidE hx
    have HM := hidE hm
    clear hx hm
    go_upto_region 23 with fail
    go_region_with (go_at_call 90; ((with_reducible refine (c90 (HX.out.same (Fr.drew _ _)) (HM.out.fr (Fr.drew (fun _ => False) _)) (by omega)).mono ?_); rintro e v8 ⟨rfl, h6, f6⟩))
    have f7 := (Fr.drew (inR w5.heap.size (4 * 7) 4) v7).trans f6
    have HB8 := hidE (sum_step (by omega) HB7.out h6 f7)
    have HN8 := hidE (HN7.out.fr f7)
    have HSv8 := hidE (HSv7.out.far f7 fun o => by rintro ⟨k, _, he⟩; simp only [MemPlace.cell.injEq] at he; have := HS5.out.h.1; omega)
    have HFv8 : Hid (Fr (fun p => p.block = b ∨ p.block = w5.heap.size) w v8) := hidE ((HFv7.out.trans' f7).strong fun p _ hp => by
      rcases hp with hp | ⟨t, _, rfl⟩
      · exact hp
      · exact .inr rfl)
    have HA14 : Hid (Fr (fun p => p.block ≠ w.heap.size) W1 v8) := hidE ((HA13.out.trans' f7).strong fun p _ hm => by
      rcases hm with hm | ⟨t, _, rfl⟩
      · exact hm
      · have := HA5.out.size; have := HW1.out.1.1; simp only [MemPlace.block]; omega)
    clear h6 f6 f7 HX HM q0 q1
    have HR := hidE (HW1.out.1.fr HA14.out fun k _ e => e rfl)
    have HRN := hidE (HW1.out.2.1.fr HA14.out)
    go_wp2_with (first
      | with_reducible refine wpList_load32 rfl (.tmp 7) rfl rfl HB8.out ?_
      | with_reducible refine wpList_store32 rfl (.tmp 2) (.tmp 103) rfl rfl rfl HR.out HRN.out ?_; intro w9 h9 f9)
    try simp only [Exit.inBlock, Exit.then]
    refine bodyPost_ret (results32 rfl rfl h9) rfl ⟨?_, ?_, (HFv8.out.trans' f9).strong fun p hp hm => ?_⟩
    · rw [HT.out]; rfl
    · rw [← HT.out]
      exact HSv8.out.far f9 fun o => by rintro ⟨k, _, he⟩; simp only [MemPlace.cell.injEq] at he; have := HS.out.h.1; omega
    · rcases hm with (hm | hm) | ⟨t, _, rfl⟩
      · exact hm
      · have := HF5.out.size; rw [hm] at hp; omega
      · simp only [MemPlace.block] at hp; omega
end CI
end Go.Proofs.Yteooohmlmefbnaa
