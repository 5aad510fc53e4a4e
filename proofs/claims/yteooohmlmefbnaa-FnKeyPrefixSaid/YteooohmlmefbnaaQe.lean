/-
  The contract of HMAC's 'Sum' where the states are saved, into a row with room.
  Conditions: none.
-/
import Derived.Test.YteooohmlmefbnaaQd
import Derived.Test.YteooohmlmefbnaaNi
namespace Go.Proofs.Yteooohmlmefbnaa
namespace CI
open Go
open Go.RowKit

theorem wr_ln (K : Nat → W) (S : DS) (p : Nat → B8) (n : Nat) : (wrS K S p n).ln = S.ln + n := by
  unfold wrS
  split
  · rfl
  · split
    · rfl
    · rfl
theorem wr_nx {K : Nat → W} {S : DS} {p : Nat → B8} {n : Nat} (h : S.ln % 64 = S.nx) : (wrS K S p n).ln % 64 = (wrS K S p n).nx := by
  rw [wr_ln]
  by_cases h0 : S.nx = 0
  · rw [wrS, if_pos h0]
    show (S.ln + n) % 64 = n % 64
    omega
  · by_cases h1 : S.nx + n < 64
    · rw [wrS, if_neg h0, if_pos h1]
      show (S.ln + n) % 64 = S.nx + n
      omega
    · rw [wrS, if_neg h0, if_neg h1]
      show (S.ln + n) % 64 = (n - (64 - S.nx)) % 64
      omega

/-- The sum of the outer digest over the inner one's. -/
def outS (K : Nat → W) (ho : Nat → W) (S : DS) : DS := wrS K (D0 ho) (ckB K S) 32
def macB (K : Nat → W) (ho : Nat → W) (S : DS) : Nat → B8 := ckB K (outS K ho S)

/-- What 'Sum' may write: the outer digest, the 32 bytes. -/
def Sw (bo bd o : Nat) (p : MemPlace) : Prop := p.block = bo ∨ inR bd o 32 p

set_option maxRecDepth 100000 in
set_option maxHeartbeats 2000000 in
theorem c52 {b bi bo po bd o n cap : Nat} {w : World} {vi : Value} {S : DS} {K ho : Nat → W} {g : Nat → B8} (h : HM w b bi bo (.slice (some ⟨po, 0, none⟩) 108 108) vi true) (hS1 : Dg w bi S) (hT : ∃ T, Dg w bo T) (hK : Wd w 0 0 64 K) (hpo : By w po 0 108 (msB ho)) (hb : By w bd (o + n) 32 g) (hn : Nf w bd (o + n) 32) (hroom : n + 32 ≤ cap) (hcap : cap ≤ 9223372036854775807)
    (hnx : S.ln % 64 = S.nx) (hln : S.ln ≤ 1000000) (d1 : bd ≠ b) (d3 : bd ≠ bo) (d4 : bd ≠ po) (d5 : po ≠ bo) (d6 : b ≠ bo) (d7 : bo ≠ 0) (d8 : bd ≠ 0) :
    Calls Try.prog 52 #[.pointer (some ⟨b, 0, none⟩), .slice (some ⟨bd, o, none⟩) n cap] w fun e w' => e = .returned (.slice (some ⟨bd, o, none⟩) (n + 32) cap) ∧ By w' bd (o + n) 32 (macB K ho S) ∧ (∃ T, Dg w' bo T) ∧ Fr (Sw bo bd (o + n)) w w' := by
  have q1 := h.bi
  have m1 := me79
  have m2 := me80
  have m3 := me81
  have n1 := ni79
  have n2 := ni80
  have n3 := ni81
  have ha := as_one
  have hq := neq_nil
  obtain ⟨T, hT⟩ := hT
  have HMM := hidE h
  have HS := hidE hS1
  have HT := hidE hT
  have HK := hidE hK
  have HP := hidE hpo
  have HB := hidE hb
  have HN := hidE hn
  have HX := hidE hnx
  clear h hS1 hT hK hpo hb hn hnx
  have a1 : ((n : Int) + 32 - (n : Int)) = 32 := by omega
  have a2 : ¬ cap = n := by omega
  have a3 : n + 32 - n = 32 := by omega
  have a4 : (n : Int) ≤ (n : Int) + 32 := by omega
  have a5 : n ≤ n + 32 := by omega
  have a6 : n ≤ cap := by omega
  have a7 : (n : Int) ≤ (cap : Int) := by omega
  go_enter Try.func52, Try.ntmps52
  go_wp2_with fail
  ((with_reducible refine (c79 HS.out HK.out HX.out hln HB.out HN.out hroom).mono ?_); rintro e w1 ⟨rfl, h1, f1⟩)
  have off : ∀ k, k ≠ bd → ∀ q, ¬ inR bd (o + n) 32 (.cell k q) := fun k hk q => not_inR (.inl hk)
  have HM1 := hidE (HMM.out.fr f1 (off _ (Ne.symm d1)))
  have HT1 := hidE (HT.out.far f1 (off _ (Ne.symm d3)))
  have HK1 := hidE (HK.out.fr f1 fun _ _ => off _ (Ne.symm d8) _)
  have HP1 := hidE (HP.out.fr f1 fun _ _ => off _ (Ne.symm d4) _)
  have HN1 := hidE (HN.out.fr f1)
  have HB1 := hidE h1
  have HF1 : Hid (Fr (Sw bo bd (o + n)) w w1) := hidE (f1.mono fun _ e => .inr e)
  have q2 := HM1.out.m
  have q3 := HM1.out.bo
  have q4 := HM1.out.op
  clear h1 f1 q1 off HMM HS HT HK HP HB HN
  go_wp2_with fail
  go_still_tail 11, (by kernel_rfl)
  change wpList _ _ _ _ _ w1.drew
  have hd := Fr.drew (fun _ => False) w1
  generalize w1.drew = w2 at hd ⊢
  have HM2 := hidE (HM1.out.same hd)
  have HK2 := hidE (HK1.out.same hd)
  have HB2 := hidE (HB1.out.same hd)
  have HN2 := hidE (HN1.out.fr hd)
  have HF2 := hidE (HF1.out.trans (hd.mono fun _ f => f.elim))
  have HC := hidE (c80 (HT1.out.same hd) (HP1.out.same hd) d5)
  clear hd q2 q3 q4 HM1 HT1 HK1 HP1 HN1 HB1 HF1
  go_wp2_with fail
  ((with_reducible refine HC.out.mono ?_); rintro e w3 ⟨rfl, h1, f1⟩)
  have HM3 := hidE (HM2.out.ofB f1 d6)
  have HT3 : Hid (Dg w3 bo (D0 ho)) := hidE h1
  have HK3 := hidE (HK2.out.ofB f1 (Ne.symm d7))
  have HB3 := hidE (HB2.out.ofB f1 d3)
  have HN3 := hidE (HN2.out.fr f1)
  have HF3 : Hid (Fr (Sw bo bd (o + n)) w w3) := hidE (HF2.out.trans (f1.mono fun _ e => .inl e))
  have q3 := HM3.out.bo
  clear h1 f1 HM2 HK2 HB2 HN2 HF2 HC
  go_wp2_with fail
  go_still_tail 9, (by kernel_rfl)
  change wpList _ _ _ _ _ w3.drew
  have hd := Fr.drew (fun _ => False) w3
  generalize w3.drew = w4 at hd ⊢
  have HM4 := hidE (HM3.out.same hd)
  have HK4 := hidE (HK3.out.same hd)
  have HN4 := hidE (HN3.out.fr hd)
  have HB4 := hidE (HB3.out.same hd)
  have HF4 := hidE (HF3.out.trans (hd.mono fun _ f => f.elim))
  have HC := hidE (c81 (c := cap - n) (HT3.out.same hd) HK4.out d7 HB4.out d3 (by omega) (by omega) (by decide) (by show (0 : Nat) < 64; decide) (by show (64 : Nat) ≤ 4294967296; decide))
  clear hd q3 HM3 HK3 HB3 HN3 HF3 HT3
  go_wp2_with fail
  ((with_reducible refine HC.out.mono ?_); rintro e w5 ⟨rfl, h1, f1⟩)
  have HM5 := hidE (HM4.out.ofB f1 d6)
  have HT5 : Hid (Dg w5 bo (outS K ho S)) := hidE h1
  have HK5 := hidE (HK4.out.ofB f1 (Ne.symm d7))
  have HB5 := hidE (HB4.out.ofB f1 d3)
  have HN5 := hidE (HN4.out.fr f1)
  have HF5 : Hid (Fr (Sw bo bd (o + n)) w w5) := hidE (HF4.out.trans (f1.mono fun _ e => .inl e))
  have q3 := HM5.out.bo
  clear h1 f1 HM4 HK4 HB4 HN4 HF4 HC
  go_wp2_with fail
  go_still_tail 9, (by kernel_rfl)
  change wpList _ _ _ _ _ w5.drew
  have hd := Fr.drew (fun _ => False) w5
  generalize w5.drew = w6 at hd ⊢
  have HT6 := hidE (HT5.out.same hd)
  have HF6 := hidE (HF5.out.trans (hd.mono fun _ f => f.elim))
  have HC := hidE (c79 HT6.out (HK5.out.same hd) (wr_nx (show (64 : Nat) % 64 = 0 by decide)) (by rw [outS, wr_ln]; show (64 : Nat) + 32 ≤ 1000000; decide) (HB5.out.same hd) (HN5.out.fr hd) hroom)
  clear hd q3 HM5 HK5 HB5 HN5 HF5 HT5
  go_wp2_with fail
  ((with_reducible refine HC.out.mono ?_); rintro e w7 ⟨rfl, h1, f1⟩)
  have HB7 : Hid (By w7 bd (o + n) 32 (macB K ho S)) := hidE h1
  have HF7 : Hid (Fr (Sw bo bd (o + n)) w w7) := hidE (HF6.out.trans (f1.mono fun _ e => .inr e))
  have HT7 := hidE (HT6.out.far f1 fun q => not_inR (.inl (Ne.symm d3)))
  clear h1 f1 HC HT6 HF6
  go_wp2_with fail
  go_ret
  exact ⟨rfl, HB7.out, ⟨_, HT7.out⟩, HF7.out⟩
end CI
end Go.Proofs.Yteooohmlmefbnaa
