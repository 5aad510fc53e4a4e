/-
  The contract of 'pbkdf2.key' with one round, over 'newSHA256'.
  Conditions: none.
-/
import Derived.Test.YteooohmlmefbnaaQi
namespace Go.Proofs.Yteooohmlmefbnaa
namespace CI
open Go
open Go.RowKit

theorem rows3 {w W : World} {c : Nat} (h : ((w.alloc (.cells #[.int .u8 0, .int .u8 0, .int .u8 0, .int .u8 0] 80)).alloc (zObjB c)).alloc (zObjB 32) = W) :
    (By W w.heap.size 0 4 (fun _ => 0#8) ∧ Nf W w.heap.size 0 4) ∧ (By W (w.heap.size + 1) 0 c (fun _ => 0#8) ∧ Nf W (w.heap.size + 1) 0 c) ∧ (By W (w.heap.size + 1 + 1) 0 32 (fun _ => 0#8) ∧ Nf W (w.heap.size + 1 + 1) 0 32) ∧ Fr (fun _ => False) w W := by
  obtain ⟨wa, ha⟩ : ∃ wa, w.alloc (.cells #[.int .u8 0, .int .u8 0, .int .u8 0, .int .u8 0] 80) = wa := ⟨_, rfl⟩
  obtain ⟨a1, a2, a3⟩ := al_by (m := 4) ha
  have ea : wa.heap.size = w.heap.size + 1 := by rw [← ha]; simp
  obtain ⟨b1, b2, b3⟩ := zObjB_by wa c
  have eb : (wa.alloc (zObjB c)).heap.size = w.heap.size + 1 + 1 := by rw [← ea]; simp
  obtain ⟨c1, c2, c3⟩ := zObjB_by (wa.alloc (zObjB c)) 32
  rw [ea] at b1 b2
  rw [eb] at c1 c2
  rw [ha] at h
  subst h
  exact ⟨⟨(a1.same b3).same c3, (a2.fr b3).fr c3⟩, ⟨b1.same c3, b2.fr c3⟩, ⟨c1, c2⟩, (a3.trans b3).trans c3⟩

/-- A pad's block is none of PBKDF2's own. -/
def Ap3 (gb gd gu x : Nat) : Prop := x ≠ gb ∧ x ≠ gd ∧ x ≠ gu

theorem Ap3.next {gb gd gu pi pi' s : Nat} (h : Ap3 gb gd gu pi) (e : pi' = pi ∨ s ≤ pi') (h1 : gb < s) (h2 : gd < s) (h3 : gu < s) : Ap3 gb gd gu pi' := by
  rcases e with rfl | e
  · exact h
  · exact ⟨by omega, by omega, by omega⟩
theorem Ne5.next {b bi bo pi po pi' po' s : Nat} (h : Ne5 b bi bo pi po) (e1 : pi' = pi ∨ s ≤ pi') (e2 : po' = po ∨ s ≤ po') (h1 : b < s) (h2 : bi < s) (h3 : bo < s) : Ne5 b bi bo pi' po' := by
  obtain ⟨a1, a2, a3, a4, a5, a6, a7, a8, a9, b1, b2, b3⟩ := h
  refine ⟨a1, a2, a3, a4, a5, a6, ?_, ?_, ?_, ?_, ?_, ?_⟩
  · rcases e1 with rfl | e
    · exact a7
    · omega
  · rcases e1 with rfl | e
    · exact a8
    · omega
  · rcases e1 with rfl | e
    · exact a9
    · omega
  · rcases e2 with rfl | e
    · exact b1
    · omega
  · rcases e2 with rfl | e
    · exact b2
    · omega
  · rcases e2 with rfl | e
    · exact b3
    · omega

theorem setBuf {w : World} {gb j : Nat} {z : Nat → B8} (h : By w gb 0 4 z) (hj : j < 200) :
    By ((((w.setCell ⟨gb, 0, none⟩ (.int .u8 (((j : Int) + 1) / 16777216))).setCell ⟨gb, 1, none⟩ (.int .u8 (((j : Int) + 1) / 65536))).setCell ⟨gb, 2, none⟩ (.int .u8 (((j : Int) + 1) / 256))).setCell ⟨gb, 3, none⟩ (.int .u8 ((j : Int) + 1))) gb 0 4 (beB (j + 1) 4) ∧
    Fr (fun p => p.block = gb) w ((((w.setCell ⟨gb, 0, none⟩ (.int .u8 (((j : Int) + 1) / 16777216))).setCell ⟨gb, 1, none⟩ (.int .u8 (((j : Int) + 1) / 65536))).setCell ⟨gb, 2, none⟩ (.int .u8 (((j : Int) + 1) / 256))).setCell ⟨gb, 3, none⟩ (.int .u8 ((j : Int) + 1))) := by
  have v0 : ((j : Int) + 1) / 16777216 = ((beB (j + 1) 4 0).toNat : Int) := by rw [beB_val]; simp only [Nat.reduceSub, Nat.reducePow]; omega
  have v1 : ((j : Int) + 1) / 65536 = ((beB (j + 1) 4 1).toNat : Int) := by rw [beB_val]; simp only [Nat.reduceSub, Nat.reducePow]; omega
  have v2 : ((j : Int) + 1) / 256 = ((beB (j + 1) 4 2).toNat : Int) := by rw [beB_val]; simp only [Nat.reduceSub, Nat.reducePow]; omega
  have v3 : ((j : Int) + 1) = ((beB (j + 1) 4 3).toNat : Int) := by rw [beB_val]; simp only [Nat.reduceSub, Nat.reducePow]; omega
  refine ⟨?_, (((ofB _).trans (ofB _)).trans (ofB _)).trans (ofB _)⟩
  rw [v0, v1, v2]
  have z := (((h.set1 (i := 0) (by omega) (beB (j + 1) 4 0)).set1 (i := 1) (by omega) (beB (j + 1) 4 1)).set1 (i := 2) (by omega) (beB (j + 1) 4 2)).set1 (i := 3) (by omega) (beB (j + 1) 4 3)
  simp only [Nat.zero_add] at z
  rw [← v3] at z
  refine z.congr fun k hk => ?_
  obtain rfl | rfl | rfl | rfl : k = 0 ∨ k = 1 ∨ k = 2 ∨ k = 3 := by omega
  all_goals simp
theorem Lay.gb_far {n1 b bi bo gb gd gu : Nat} (h : Lay n1 b bi bo gb gd gu) : b ≠ gb ∧ bi ≠ gb ∧ bo ≠ gb ∧ b ≠ gd ∧ bi ≠ gd ∧ bo ≠ gd ∧ b ≠ gu ∧ bi ≠ gu ∧ bo ≠ gu := by
  obtain ⟨h1, h2, h3, h4, h5, h6, h7, h8, h9⟩ := h
  omega

set_option maxRecDepth 100000 in
set_option maxHeartbeats 4000000 in
theorem c44 {n m c L B : Nat} {A : Option Addr} {w : World} {K : Nat → W} {pw sa : Nat → B8} (hK : Wd w 0 0 64 K) (hs : Sl B w A m c sa) (hB : B ≤ w.heap.size) (hn : n ≤ 4096) (hm : m ≤ 4096) (hL1 : 1 ≤ L) (hL2 : L ≤ 4096) :
    Calls Try.prog 44 #[.func (.func 35) #[] #[], .string (strOfNums (numsB n pw)), .slice A m c, .int .i64 1, .int .i64 (L : Int)] w fun e w' => ∃ g cap, e = .returned (.tuple #[.slice (some ⟨g, 0, none⟩) L cap, .nilIface]) ∧ L ≤ cap ∧ cap ≤ 9223372036854775807 ∧ w.heap.size ≤ g ∧ By w' g 0 L (pbB K pw n sa m) ∧ Nf w' g 0 L ∧ Below w.heap.size w w' := by
  obtain ⟨nb, hnb⟩ : ∃ nb, nb = (L + 31) / 32 := ⟨_, rfl⟩
  have hd := c49 hL1 (by omega)
  rw [← hnb] at hd
  have HD := hidE hd
  obtain ⟨cap, hcap⟩ : ∃ cap, cap = 32 * nb := ⟨_, rfl⟩
  have r1 : (nb : Int) * 32 = (cap : Int) := by omega
  have r2 : (cap : Int) ≤ 4128 := by omega
  have r3 : ¬ ((L : Int) + 32 < (L : Int)) := by omega
  have r4 : ¬ ((L : Int) ≤ 0) := by omega
  have r5 : ¬ (4294967295 < (nb : Int)) := by omega
  have mk1 := make29c cap (by omega)
  have mk2 : ∀ w : World, (Instr.makeSlice 29 (.int .i64 32) (.int .i64 32)).run Try.prog w = .ok (.slice (some ⟨w.heap.size, 0, none⟩) 32 32) (w.alloc (zObjB 32)) := fun w => make29 32 (by decide) w
  have hcv := conv_bytes
  have hsz : (strOfNums (numsB n pw)).size = n := by rw [strOfNums_size]; simp [numsB]
  obtain ⟨hb1, hb2⟩ := bytes_new (w := w) (n := n) (f := pw)
  have HKB := hidE (hK.below hb2)
  have HSB := hidE (hs.below hb2)
  have HB1 := hidE hb1
  have HB2 := hidE hb2
  have HCAP := hidE hcap
  have HNB := hidE hnb
  clear hd hnb hcap hb1 hb2 hK hs
  go_enter Try.func44, Try.ntmps44
  go_wp2_with fail
  obtain ⟨W1, hW1⟩ : ∃ W, W = Lib.bytesWorld w 5 (strOfNums (numsB n pw)) := ⟨_, rfl⟩
  obtain ⟨C, hC⟩ : ∃ C, C = grownCap w n 0 5 := ⟨_, rfl⟩
  have hge := grownCap_ge w n 0 5
  have hle := grownCap_le_maxLen w n 0 5 (by unfold maxLen; omega)
  rw [← hC] at hge hle ⊢
  unfold maxLen at hle
  rw [← hW1] at HKB HSB HB1 HB2 ⊢
  have wB := HB2.out.size
  clear hW1 hC hcv hsz
  ((with_reducible refine (c47 HKB.out HB1.out hn hge (by omega)).mono ?_); rintro e w2 ⟨b, bi, bo, pi, po, S, T, rfl, h1, h2, h3, h4, h5, h6, ne, l1, l2, l3, l4, l5, f1⟩)
  have HAH : Hid (HA K (ipB K pw n) (opB K pw n) b bi bo pi po w2) := hidE ⟨h1, ⟨S, h2, h3⟩, ⟨T, h4⟩, h5, h6⟩
  have NE := hidE ne
  have HF2 := hidE f1
  have HC := hidE (c48 h1 h4)
  clear h1 h2 h3 h4 h5 h6 ne f1 HB1
  go_wp2_with fail
  ((with_reducible refine HC.out.mono ?_); rintro e w3 ⟨rfl, rfl⟩)
  clear HC
  go_wp2_with fail
  ((with_reducible refine (HD.out _).mono ?_); rintro e w4 ⟨rfl, rfl⟩)
  clear HD
  go_wp2_with fail
  obtain ⟨gb, hgb⟩ : ∃ g, g = w3.heap.size := ⟨_, rfl⟩
  obtain ⟨gd, hgd⟩ : ∃ g, g = w3.heap.size + 1 := ⟨_, rfl⟩
  obtain ⟨gu, hgu⟩ : ∃ g, g = w3.heap.size + 1 + 1 := ⟨_, rfl⟩
  rw [← hgu, ← hgd, ← hgb]
  refine wp_gen fun W4 hW4 => ?_
  obtain ⟨⟨a1, a2⟩, ⟨a3, a4⟩, ⟨a5, a6⟩, a7⟩ := rows3 hW4
  rw [← hgb] at a1 a2
  rw [← hgd] at a3 a4
  rw [← hgu] at a5 a6
  have LAY : Lay W1.heap.size b bi bo gb gd gu := ⟨HKB.out.1, l1, l2, l3, by rw [hgb]; exact HAH.out.hm.lt, by rw [hgb]; obtain ⟨S, hS, _⟩ := HAH.out.si; exact hS.h.1, by rw [hgb]; obtain ⟨S, hS⟩ := HAH.out.so; exact hS.h.1, by omega, by omega⟩
  have HPT : Hid (PT W1.heap.size W1 K gb gd gu nb A m c sa (pbB K pw n sa m) 0 W4) := hidE ⟨(HKB.out.same HF2.out).same a7, (((HSB.out.mono (Nat.le_trans hB wB)).fr (HF2.out.mono fun _ f => f.elim)).fr (a7.mono fun _ f => f.elim)), ⟨a3.1, fun k hk => absurd hk (by omega)⟩, ⟨_, a3.1, fun k hk => a3.2 k (by have := HCAP.out; omega)⟩, by rw [← HCAP.out]; exact a4, ⟨_, a5⟩, a6, ⟨_, a1⟩, a2, (HF2.out.mono fun _ f => f.elim).trans (a7.mono fun _ f => f.elim)⟩
  have ap1 : Ap3 gb gd gu pi := by have := HAH.out.pi.1; exact ⟨by omega, by omega, by omega⟩
  have ap2 : Ap3 gb gd gu po := by have := HAH.out.po.1; exact ⟨by omega, by omega, by omega⟩
  have HA4 := hidE (HAH.out.fr a7 (fun _ f => f) (fun _ f => f) (fun _ f => f) (fun _ f => f) (fun _ f => f))
  have HLAY := hidE LAY
  have HAP1 := hidE ap1
  have HAP2 := hidE ap2
  clear hW4 a1 a2 a3 a4 a5 a6 a7 LAY ap1 ap2 HAH HF2 HSB HKB hgb hgd hgu mk1 mk2
  go_loopw [16, 17, 18] (fun v16 v17 v18 wr => ∃ j pi po, j ≤ nb ∧ v18 = .int .i64 ((j : Int) + 1) ∧ v16 = .slice (some ⟨gd, 0, none⟩) (32 * j) cap ∧ v17 = .slice (some ⟨gu, 0, none⟩) 32 32 ∧ Ne5 b bi bo pi po ∧ Ap3 gb gd gu pi ∧ Ap3 gb gd gu po ∧ (HA K (ipB K pw n) (opB K pw n) b bi bo pi po wr ∨ ∃ S, HB K (ipB K pw n) (opB K pw n) b bi bo pi po wr S) ∧ PT W1.heap.size W1 K gb gd gu nb A m c sa (pbB K pw n sa m) j wr) (fun _ _ v18 _ => nb + 1 - (intOf v18).toNat)
  case atStart => exact ⟨0, pi, po, Nat.zero_le _, rfl, rfl, rfl, NE.out, HAP1.out, HAP2.out, .inl HA4.out, HPT.out⟩
  case round =>
    clear HAP1 HAP2 HA4 HPT NE
    obtain ⟨j, pi, po, hj, rfl, rfl, rfl, ne, ap1, ap2, hH, hP⟩ := hrel
    have NE := hidE ne
    have AP1 := hidE ap1
    have AP2 := hidE ap2
    have HH := hidE hH
    have HP := hidE hP
    clear ne ap1 ap2 hH hP
    by_cases hlt : j < nb
    · have x1 : (j : Int) + 1 ≤ (nb : Int) := by omega
      go_wp2_with fail
      ((with_reducible refine (c50 HH.out HP.out.k NE.out).mono ?_); rintro e w5 ⟨pi', po', rfl, hb, e1, e2, f1⟩)
      obtain ⟨zg, hzg⟩ := HP.out.g
      obtain ⟨zu, hzu⟩ := HP.out.u
      have ap1 := AP1.out.next e1 hzg.1 HP.out.d.1 hzu.1
      have ap2 := AP2.out.next e2 hzg.1 HP.out.d.1 hzu.1
      have ne := NE.out.next e1 e2 (Nat.lt_trans HLAY.out.b hzg.1) (Nat.lt_trans HLAY.out.i hzg.1) (Nat.lt_trans HLAY.out.o hzg.1)
      have HB5 := hidE hb
      have P5 := hidE (HP.out.hw HLAY.out f1)
      have NE5 := hidE ne
      have AQ1 := hidE ap1
      have AQ2 := hidE ap2
      clear hzg hzu ap1 ap2 ne hb e1 e2 f1 NE AP1 AP2 HH HP
      go_wp2_with fail
      ((with_reducible refine (c51s HB5.out P5.out.k NE5.out P5.out.s HLAY.out.li hm).mono ?_); rintro e w6 ⟨rfl, hb, f1⟩)
      have HB6 := hidE hb
      have P6 := hidE (P5.out.inner HLAY.out f1)
      obtain ⟨zg, hzg⟩ := P6.out.g
      have HZG := hidE hzg
      have q0 := hzg.2 0 (by decide)
      have q1 := hzg.2 1 (by decide)
      have q2 := hzg.2 2 (by decide)
      have q3 := hzg.2 3 (by decide)
      have p0 := P6.out.gn 0 (by decide)
      have p1 := P6.out.gn 1 (by decide)
      have p2 := P6.out.gn 2 (by decide)
      have p3 := P6.out.gn 3 (by decide)
      simp only [Nat.zero_add, Nat.add_zero] at q0 q1 q2 q3 p0 p1 p2 p3
      clear hzg hb f1 HB5 P5
      go_wp2_with fail
      obtain ⟨w7, hw7⟩ : ∃ W, W = ((((w6.setCell ⟨gb, 0, none⟩ (.int .u8 (((j : Int) + 1) / 16777216))).setCell ⟨gb, 1, none⟩ (.int .u8 (((j : Int) + 1) / 65536))).setCell ⟨gb, 2, none⟩ (.int .u8 (((j : Int) + 1) / 256))).setCell ⟨gb, 3, none⟩ (.int .u8 ((j : Int) + 1))) := ⟨_, rfl⟩
      rw [← hw7]
      obtain ⟨y1, y2⟩ := setBuf HZG.out (j := j) (by omega)
      rw [← hw7] at y1 y2
      obtain ⟨z1, z2, z3, z4, z5, z6, z7, z8, z9⟩ := HLAY.out.gb_far
      have HB7 := hidE (HB6.out.fr y2 (fun _ e => z1 e) (fun _ e => z2 e) (fun _ e => z3 e) (fun _ e => AQ1.out.1 e) (fun _ e => AQ2.out.1 e))
      have P7 := hidE (P6.out.buf HLAY.out y1 y2)
      have hnx : (wrS K (D0 (hS K (ipB K pw n))) sa m).ln % 64 = (wrS K (D0 (hS K (ipB K pw n))) sa m).nx := wr_nx (show (64 : Nat) % 64 = 0 by decide)
      have hln : (wrS K (D0 (hS K (ipB K pw n))) sa m).ln = 64 + m := by rw [wr_ln]; rfl
      have HC := hidE (c51 HB7.out.hm HB7.out.si P7.out.k NE5.out.i0 y1 (Ne.symm z2) (show 4 ≤ 4 by decide) (by decide) (by decide) (by omega) (by omega))
      clear hw7 y1 y2 q0 q1 q2 q3 p0 p1 p2 p3 HZG HB6 P6 hnx hln
      ((with_reducible refine HC.out.mono ?_); rintro e w8 ⟨rfl, h1, f1⟩)
      have HB8 : Hid (HB K (ipB K pw n) (opB K pw n) b bi bo pi' po' w8 (innS K pw n sa m (j + 1))) := hidE ⟨HB7.out.hm.ofB f1 NE5.out.nbi, h1, let ⟨T, h3⟩ := HB7.out.so; ⟨T, h3.ofB f1 NE5.out.nio.symm⟩, HB7.out.pi.ofB f1 NE5.out.npi, HB7.out.po.ofB f1 NE5.out.nqi⟩
      have P8 := hidE (P7.out.inner HLAY.out f1)
      obtain ⟨zr, hzr⟩ := P8.out.r
      have hcp := HCAP.out
      have hnx : (innS K pw n sa m (j + 1)).ln % 64 = (innS K pw n sa m (j + 1)).nx := wr_nx (wr_nx (show (64 : Nat) % 64 = 0 by decide))
      have hln : (innS K pw n sa m (j + 1)).ln = 64 + m + 4 := by unfold innS; rw [wr_ln, wr_ln]; rfl
      have hzz : By w8 gd (0 + 32 * j) 32 zr := by rw [Nat.zero_add]; exact ⟨hzr.1, fun k hk => hzr.2 k (by omega)⟩
      have HC2 := hidE (c52 (cap := cap) HB8.out.hm HB8.out.si HB8.out.so P8.out.k HB8.out.po hzz (P8.out.dn.sub (p := 32 * j) (by omega)) (by omega) (by omega) hnx (by omega) (Ne.symm z4) (Ne.symm z6) (Ne.symm AQ2.out.2.1) NE5.out.nqo NE5.out.nbo NE5.out.o0 (by have := HLAY.out.b; have := HLAY.out.d; omega))
      clear hzr hzz hnx hln h1 f1 HC HB7 P7 hcp
      go_wp2_with fail
      ((with_reducible refine HC2.out.mono ?_); rintro e w9 ⟨rfl, h1, h2, f1⟩)
      have far : ∀ x, x ≠ gd → x ≠ bo → ∀ o, ¬ Sw bo gd (0 + 32 * j) (.cell x o) := fun x d1 d2 o => by
        rintro (e | e)
        · exact d2 e
        · exact not_inR (.inl d1) e
      have HB9 : Hid (HB K (ipB K pw n) (opB K pw n) b bi bo pi' po' w9 (innS K pw n sa m (j + 1))) := hidE ⟨HB8.out.hm.fr f1 (far _ z4 NE5.out.nbo), HB8.out.si.far f1 (far _ z5 NE5.out.nio), h2, HB8.out.pi.fr f1 fun _ _ => far _ AQ1.out.2.1 NE5.out.npo _, HB8.out.po.fr f1 fun _ _ => far _ AQ2.out.2.1 NE5.out.nqo _⟩
      have P9 : Hid (PT W1.heap.size W1 K gb gd gu nb A m c sa (pbB K pw n sa m) (j + 1) w9) := hidE (P8.out.next HLAY.out hlt h1 (fun k hk => by
        unfold pbB
        rw [show (32 * j + k) / 32 = j by omega, show (32 * j + k) % 32 = k by omega]
        rfl) f1)
      rw [Nat.zero_add] at h1
      have HD9 := hidE h1
      obtain ⟨zu, hzu⟩ := P9.out.u
      have HU9 := hidE hzu
      clear h1 h2 f1 far hzu HC2 HB8 P8
      have s1 : (32 * (j : Int) + 32 - 32) = 32 * (j : Int) := by omega
      have s2 : ¬ cap = 32 * j := by have := HCAP.out; omega
      have s3 : 32 * j + 32 - 32 * j = 32 := by omega
      have s4 : 32 * (j : Int) ≤ 32 * (j : Int) + 32 := by omega
      have s5 : (0 : Int) ≤ 32 * (j : Int) := by omega
      have s6 : (32 * (j : Int)).toNat = 32 * j := by omega
      go_wp2_with (refine wpList_copy_by rfl (.tmp 87) (.tmp 88) rfl rfl rfl (m := 32) (by decide) HU9.out P9.out.un HD9.out ?_; intro w10 h1 f1)
      have P10 := hidE (P9.out.row HLAY.out h1 (inR_block f1))
      have HB10 := hidE (HB9.out.fr (inR_block f1) (fun _ e => z7 e) (fun _ e => z8 e) (fun _ e => z9 e) (fun _ e => AQ1.out.2.2 e) (fun _ e => AQ2.out.2.2 e))
      clear h1 f1 HB9 P9 HD9 HU9 s1 s2 s3 s4 s5 s6
      go_loopw [17, 20] (fun v17 v20 wx => v17 = .slice (some ⟨gu, 0, none⟩) 32 32 ∧ v20 = .int .i64 2 ∧ wx = w10) (fun _ _ _ => 0)
      case atStart => exact ⟨rfl, rfl, rfl⟩
      case round =>
        obtain ⟨rfl, rfl, rfl⟩ := hrel
        go_wp2_with fail
        go_roundw
        case rel => exact ⟨j + 1, pi', po', by omega, by go_num, rfl, rfl, NE5.out, AQ1.out, AQ2.out, .inr ⟨_, HB10.out⟩, P10.out⟩
        case measure => simp [intOf]; omega
    · obtain rfl : nb = j := by omega
      have hcp := HCAP.out
      have x2 : ¬ ((nb : Int) + 1 ≤ (nb : Int)) := by omega
      have x3 : (L : Int) ≤ (cap : Int) := by have := HNB.out; omega
      have x4 : (0 : Int) ≤ (L : Int) := by omega
      have x5 : L ≤ 32 * nb := by omega
      clear hcp
      go_wp2_with fail
      go_ret2
      exact ⟨gd, cap, rfl, by omega, by omega, by have := HLAY.out.d; have := HLAY.out.b; have := HLAY.out.lb; omega, ⟨HP.out.d.1, fun k hk => HP.out.d.2 k (by omega)⟩, fun k hk => HP.out.dn k (by omega), CI.Below.then_ HB2.out (CI.Fr.newBelow (Nat.le_refl _) HP.out.fr)⟩
end CI
end Go.Proofs.Yteooohmlmefbnaa
