/-
  The contract of SHA-256's 'blockGeneric', over whatever 64 constants.
  Conditions: none.
-/
import Derived.Test.YteooohmlmefbnaaNb
import Derived.Deep.CutRange
namespace Go.Proofs.Yteooohmlmefbnaa
namespace CI
open Go
open Go.RowKit

theorem met_gen {J : Act → World → Prop} {a : Act} {w : World} (h : ∀ W, w = W → Met J a W) : Met J a w := h w rfl

set_option maxRecDepth 100000 in
set_option maxHeartbeats 8000000 in
theorem c93 {b bp op m c n : Nat} {w : World} {h K : Nat → W} {p : Nat → B8} (hh : Wd w b 0 8 h) (hf : Nf w b 0 8) (hk : Wd w 0 0 64 K) (hp : By w bp op n p) (hn : n = 64 * m) (hm : n ≤ c) (_hm2 : c ≤ 9223372036854775807) :
    Calls Try.prog 93 #[.pointer (some ⟨b, 0, none⟩), .slice (some ⟨bp, op, none⟩) n c] w fun e w' => e = .returned (.tuple #[]) ∧ Wd w' b 0 8 (bls K p h m).1 ∧ Fr (inR b 0 8) w w' := by
  have HH := hidE hh
  have HF := hidE hf
  have HK := hidE hk
  have HP := hidE hp
  have HN := hidE hn
  clear hh hf hk hp hn
  go_enter Try.func93, Try.ntmps93
  go_wp2_with fail
  refine wp_gen fun W1 hW1 => ?_
  have hW2 : w.alloc (.cells (Array.replicate 64 (.int .u32 0)) 95) = W1 := hW1
  have HW := hidE hW2
  clear hW1 hW2
  have hf1 : Fr (fun _ => False) w W1 := by rw [← HW.out]; exact Fr.alloc _ _ _ _
  have hg0 : Wd W1 w.heap.size 0 64 (fun _ => 0#32) ∧ Nf W1 w.heap.size 0 64 := by
    rw [← HW.out]
    obtain ⟨z1, z2⟩ := rep_cell w 64 (.int .u32 0) 95
    exact ⟨⟨z1, z2⟩, fun k _ => World.frozen?_alloc_new _ _ _ _⟩
  have HG0 := hidE hg0
  have hh1 := HH.out.same hf1
  have q0 := hh1.2 0 (by omega)
  have q1 := hh1.2 1 (by omega)
  have q2 := hh1.2 2 (by omega)
  have q3 := hh1.2 3 (by omega)
  have q4 := hh1.2 4 (by omega)
  have q5 := hh1.2 5 (by omega)
  have q6 := hh1.2 6 (by omega)
  have q7 := hh1.2 7 (by omega)
  simp only [Nat.zero_add] at q0 q1 q2 q3 q4 q5 q6 q7
  clear hh1 hg0
  go_quiet (fail)
  clear q0 q1 q2 q3 q4 q5 q6 q7
  go_wp2_with fail
  refine wp_gen fun W2 hW2 => ?_
  have hf2 : Fr (fun _ => False) W1 W2 := by rw [← hW2]; exact (Fr.refl _ _).drewN _
  clear hW2
  go_loopw [1, 5, 6, 7, 8, 9, 10, 11, 12] (fun vp v0 v1 v2 v3 v4 v5 v6 v7 wr => ∃ (i : Nat) (A : Option Addr) (s g : Nat → W), i ≤ m ∧ vp = .slice A (n - 64 * i) (c - 64 * i) ∧ Hid (i < m → A = some ⟨bp, op + 64 * i, none⟩) ∧ Hid (bls K p h i = (s, g)) ∧
    v0 = .int .u32 ((s 0).toNat : Int) ∧ v1 = .int .u32 ((s 1).toNat : Int) ∧ v2 = .int .u32 ((s 2).toNat : Int) ∧ v3 = .int .u32 ((s 3).toNat : Int) ∧ v4 = .int .u32 ((s 4).toNat : Int) ∧ v5 = .int .u32 ((s 5).toNat : Int) ∧ v6 = .int .u32 ((s 6).toNat : Int) ∧ v7 = .int .u32 ((s 7).toNat : Int) ∧
    Wd wr w.heap.size 0 64 g ∧ Fr (inR w.heap.size 0 64) W2 wr) (fun vp _ _ _ _ _ _ _ _ _ => match vp with | .slice _ l _ => l | _ => 0)
  case atStart => exact ⟨0, some ⟨bp, op, none⟩, h, fun _ => 0#32, Nat.zero_le _, rfl, fun _ => rfl, rfl, rfl, rfl, rfl, rfl, rfl, rfl, rfl, rfl, HG0.out.1.same hf2, Fr.refl _ _⟩
  case round =>
    obtain ⟨i, A, s, g, hi, rfl, hA, hbl, rfl, rfl, rfl, rfl, rfl, rfl, rfl, rfl, hg, hfr⟩ := hrel
    have HBL := hbl
    have HG := hidE hg
    clear hbl hg
    by_cases hlt : i < m
    · have hA' := hA.out hlt
      subst hA'
      have g1 : ¬ n - 64 * i < 64 := by have := HN.out; omega
      have g2 : (64 : Int) ≤ ((n - 64 * i : Nat) : Int) := by omega
      clear hA
      have hn2 : 64 * i + 64 ≤ n := by have := HN.out; omega
      obtain ⟨wo, rfl⟩ : ∃ wo : World, wo = wr := ⟨_, rfl⟩
      go_wp2_with fail
      go_loopw [13, 14, 15, 16, 17, 18, 19, 20, 80] (fun v0 v1 v2 v3 v4 v5 v6 v7 vj wr => ∃ (j : Nat) (v : Nat → W), j ≤ 64 ∧ vj = .int .i64 j ∧ Hid (v = rds K (fun q => p (64 * i + q)) g s j) ∧
        v0 = .int .u32 ((v 0).toNat : Int) ∧ v1 = .int .u32 ((v 1).toNat : Int) ∧ v2 = .int .u32 ((v 2).toNat : Int) ∧ v3 = .int .u32 ((v 3).toNat : Int) ∧ v4 = .int .u32 ((v 4).toNat : Int) ∧ v5 = .int .u32 ((v 5).toNat : Int) ∧ v6 = .int .u32 ((v 6).toNat : Int) ∧ v7 = .int .u32 ((v 7).toNat : Int) ∧
        Wd wr w.heap.size 0 64 (sg (fun q => p (64 * i + q)) g j) ∧ Fr (inR w.heap.size 0 64) wo wr) (fun _ _ _ _ _ _ _ _ vj _ => 64 - (intOf vj).toNat)
      case atStart => exact ⟨0, s, Nat.zero_le _, rfl, rfl, rfl, rfl, rfl, rfl, rfl, rfl, rfl, rfl, HG.out, Fr.refl _ _⟩
      case round =>
        obtain ⟨j, v, hj, rfl, hv, rfl, rfl, rfl, rfl, rfl, rfl, rfl, rfl, hsg, hfr2⟩ := hrel
        have HV := hv
        have HSG := hidE hsg
        clear hv hsg
        by_cases hlt2 : j < 64
        · have hB : By wr bp op n p := (((HP.out.same hf1).same hf2).fr hfr fun k _ => not_inR (.inl (by have := HP.out.1; omega))).fr hfr2 fun k _ => not_inR (.inl (by have := HP.out.1; omega))
          have hKr : Wd wr 0 0 64 K := (((HK.out.same hf1).same hf2).fr hfr fun k _ => not_inR (.inl (by have := HK.out.1; omega))).fr hfr2 fun k _ => not_inR (.inl (by have := HK.out.1; omega))
          have HKr := hidE hKr
          have hnf : Nf wr w.heap.size 0 64 := (((HG0.out.2).fr hf2).fr hfr).fr hfr2
          have c6 : wr.frozen? ⟨w.heap.size, j, none⟩ = false := by have := hnf j hlt2; rwa [Nat.zero_add] at this
          clear hnf hKr
          go_upto_if 84 with fail
          go_cut [21] from 81 to 216 (fun v21 wx => v21 = .int .i64 (j : Int) ∧ Wd wx w.heap.size 0 64 (sg (fun q => p (64 * i + q)) g (j + 1)) ∧ Fr (inR w.heap.size 0 64) wr wx)
          case first =>
            by_cases h16 : j < 16
            · as_aux_lemma =>
              have z0 := hB.2 (64 * i + 4 * j) (by omega)
              have z1 := hB.2 (64 * i + (4 * j + 1)) (by omega)
              have z2 := hB.2 (64 * i + (4 * j + 2)) (by omega)
              have z3 := hB.2 (64 * i + (4 * j + 3)) (by omega)
              rw [show op + (64 * i + 4 * j) = op + 64 * i + j * 4 by omega] at z0
              rw [show op + (64 * i + (4 * j + 1)) = op + 64 * i + (j * 4 + 1) by omega] at z1
              rw [show op + (64 * i + (4 * j + 2)) = op + 64 * i + (j * 4 + 2) by omega] at z2
              rw [show op + (64 * i + (4 * j + 3)) = op + 64 * i + (j * 4 + 3) by omega] at z3
              have y1 : IntKind.i64.wrap ((j : Int) * 4 + 1) = (j : Int) * 4 + 1 := IntWalk.i64_in _ (by omega)
              have y2 : IntKind.i64.wrap ((j : Int) * 4 + 2) = (j : Int) * 4 + 2 := IntWalk.i64_in _ (by omega)
              have y3 : IntKind.i64.wrap ((j : Int) * 4 + 3) = (j : Int) * 4 + 3 := IntWalk.i64_in _ (by omega)
              have x1 : ((j : Int) * 4 + 1).toNat = j * 4 + 1 := by omega
              have x2 : ((j : Int) * 4 + 2).toNat = j * 4 + 2 := by omega
              have x3 : ((j : Int) * 4 + 3).toNat = j * 4 + 3 := by omega
              have l3 : j * 4 + 3 < n - 64 * i := by omega
              obtain ⟨e0, he0⟩ : ∃ u, u = p (64 * i + 4 * j) := ⟨_, rfl⟩
              obtain ⟨e1, he1⟩ : ∃ u, u = p (64 * i + (4 * j + 1)) := ⟨_, rfl⟩
              obtain ⟨e2, he2⟩ : ∃ u, u = p (64 * i + (4 * j + 2)) := ⟨_, rfl⟩
              obtain ⟨e3, he3⟩ : ∃ u, u = p (64 * i + (4 * j + 3)) := ⟨_, rfl⟩
              rw [← he0] at z0
              rw [← he1] at z1
              rw [← he2] at z2
              rw [← he3] at z3
              have HE0 := hidE he0
              have HE1 := hidE he1
              have HE2 := hidE he2
              have HE3 := hidE he3
              have c1 := HSG.out.2 j (by omega)
              rw [Nat.zero_add] at c1
              clear hB he0 he1 he2 he3
              go_wp2_with fail
              go_region
              go_wp2_with fail
              refine met_gen fun W5 hW5 => ?_
              have hnx : Wd W5 w.heap.size 0 64 (sg (fun q => p (64 * i + q)) g (j + 1)) ∧ Fr (inR w.heap.size 0 64) wr W5 := by
                rw [← hW5]
                refine sg_next HSG.out hlt2 ?_
                rw [nextW_lt h16, ← HE0.out, ← HE1.out, ← HE2.out, ← HE3.out]
                exact u32_be4 _ _ _ _
              clear hW5 y1 y2 y3 x1 x2 x3 z0 z1 z2 z3 c1 c6
              go_meet
              case' rel => exact ⟨rfl, hnx⟩
            · as_aux_lemma =>
              have c1 := HSG.out.2 (j - 2) (by omega)
              have c2 := HSG.out.2 (j - 15) (by omega)
              have c3 := HSG.out.2 (j - 7) (by omega)
              have c4 := HSG.out.2 (j - 16) (by omega)
              have c5 := HSG.out.2 j (by omega)
              rw [Nat.zero_add] at c1 c2 c3 c4 c5
              obtain ⟨u1, hu1⟩ : ∃ u, u = sg (fun q => p (64 * i + q)) g j (j - 2) := ⟨_, rfl⟩
              obtain ⟨u2, hu2⟩ : ∃ u, u = sg (fun q => p (64 * i + q)) g j (j - 15) := ⟨_, rfl⟩
              obtain ⟨u3, hu3⟩ : ∃ u, u = sg (fun q => p (64 * i + q)) g j (j - 7) := ⟨_, rfl⟩
              obtain ⟨u4, hu4⟩ : ∃ u, u = sg (fun q => p (64 * i + q)) g j (j - 16) := ⟨_, rfl⟩
              rw [← hu1] at c1
              rw [← hu2] at c2
              rw [← hu3] at c3
              rw [← hu4] at c4
              have HU1 := hidE hu1
              have HU2 := hidE hu2
              have HU3 := hidE hu3
              have HU4 := hidE hu4
              clear hB hu1 hu2 hu3 hu4
              have y1 : IntKind.i64.wrap ((j : Int) - 7) = (j : Int) - 7 := IntWalk.i64_in _ (by omega)
              have y2 : IntKind.i64.wrap ((j : Int) - 16) = (j : Int) - 16 := IntWalk.i64_in _ (by omega)
              have x1 : ((j : Int) - 7).toNat = j - 7 := by omega
              have x2 : ((j : Int) - 16).toNat = j - 16 := by omega
              have p1 : (0 : Int) ≤ (j : Int) - 7 := by omega
              have p2 : (0 : Int) ≤ (j : Int) - 16 := by omega
              have i1 := xW_val (rl 15 u1) (rl 13 u1)
              have i2 : (u1.toNat : Int) / 1024 = ((rW 10 u1).toNat : Int) := rW_val 10 u1
              have i3 := xW_val (xW (rl 15 u1) (rl 13 u1)) (rW 10 u1)
              have i4 := xW_val (rl 25 u2) (rl 14 u2)
              have i5 : (u2.toNat : Int) / 8 = ((rW 3 u2).toNat : Int) := rW_val 3 u2
              have i6 := xW_val (xW (rl 25 u2) (rl 14 u2)) (rW 3 u2)
              go_wp2_with fail
              ((with_reducible refine (c38 (c := 15) (by decide) (by omega) _ _).mono ?_); rintro e w2 ⟨rfl, rfl⟩)
              go_wp2_with fail
              ((with_reducible refine (c38 (c := 13) (by decide) (by omega) _ _).mono ?_); rintro e w2 ⟨rfl, rfl⟩)
              go_wp2_with fail
              ((with_reducible refine (c38 (c := 25) (by decide) (by omega) _ _).mono ?_); rintro e w2 ⟨rfl, rfl⟩)
              go_wp2_with fail
              ((with_reducible refine (c38 (c := 14) (by decide) (by omega) _ _).mono ?_); rintro e w2 ⟨rfl, rfl⟩)
              go_wp2_with fail
              have i7 := pW_val (xW (xW (rl 15 u1) (rl 13 u1)) (rW 10 u1)) u3
              have i8 := pW_val (pW (xW (xW (rl 15 u1) (rl 13 u1)) (rW 10 u1)) u3) (xW (xW (rl 25 u2) (rl 14 u2)) (rW 3 u2))
              have i9 := pW_val (pW (pW (xW (xW (rl 15 u1) (rl 13 u1)) (rW 10 u1)) u3) (xW (xW (rl 25 u2) (rl 14 u2)) (rW 3 u2))) u4
              go_region
              go_wp2_with fail
              refine met_gen fun W5 hW5 => ?_
              have hnx : Wd W5 w.heap.size 0 64 (sg (fun q => p (64 * i + q)) g (j + 1)) ∧ Fr (inR w.heap.size 0 64) wr W5 := by
                rw [← hW5]
                refine sg_next HSG.out hlt2 ?_
                rw [nextW_ge h16, ← HU1.out, ← HU2.out, ← HU3.out, ← HU4.out]
                rfl
              clear hW5 i1 i2 i3 i4 i5 i6 i7 i8 i9 c1 c2 c3 c4 c5 c6 y1 y2 x1 x2 p1 p2
              go_meet
              case' rel => exact ⟨rfl, hnx⟩
          case rest =>
            obtain ⟨rfl, hnx⟩ := hcut
            obtain ⟨W5, rfl⟩ : ∃ W5 : World, W5 = wc := ⟨_, rfl⟩
            clear c6
            go_wp2_with fail
            as_aux_lemma =>
            have HNX := hidE hnx
            clear hnx
            obtain ⟨kj, hkj⟩ : ∃ kj, kj = K j := ⟨_, rfl⟩
            obtain ⟨wj, hwj⟩ : ∃ wj, wj = sg (fun q => p (64 * i + q)) g (j + 1) j := ⟨_, rfl⟩
            have d1 : W5.cell? ⟨0, j, none⟩ = some (.int .u32 (kj.toNat : Int)) := by
              have := (HKr.out.fr HNX.out.2 fun k _ => not_inR (.inl (by have := HK.out.1; omega))).2 j hlt2
              rw [Nat.zero_add] at this
              rw [hkj]; exact this
            have d2 : W5.cell? ⟨w.heap.size, j, none⟩ = some (.int .u32 (wj.toNat : Int)) := by
              have := HNX.out.1.2 j hlt2
              rw [Nat.zero_add] at this
              rw [hwj]; exact this
            have HKJ := hidE hkj
            have HWJ := hidE hwj
            clear hkj hwj
            have i1 := xW_val (rl 26 (v 4)) (rl 21 (v 4))
            have i2 := xW_val (xW (rl 26 (v 4)) (rl 21 (v 4))) (rl 7 (v 4))
            have i3 := pW_val (v 7) (xW (xW (rl 26 (v 4)) (rl 21 (v 4))) (rl 7 (v 4)))
            have i4 := aW_val (v 4) (v 5)
            have i5 := nW_val (v 4)
            have i5' := nW_val' (v 4)
            have i6 := aW_val (nW (v 4)) (v 6)
            have i7 := xW_val (aW (v 4) (v 5)) (aW (nW (v 4)) (v 6))
            have i8 := pW_val (pW (v 7) (xW (xW (rl 26 (v 4)) (rl 21 (v 4))) (rl 7 (v 4)))) (xW (aW (v 4) (v 5)) (aW (nW (v 4)) (v 6)))
            have i9 := pW_val (pW (pW (v 7) (xW (xW (rl 26 (v 4)) (rl 21 (v 4))) (rl 7 (v 4)))) (xW (aW (v 4) (v 5)) (aW (nW (v 4)) (v 6)))) kj
            have j1 := pW_val (pW (pW (pW (v 7) (xW (xW (rl 26 (v 4)) (rl 21 (v 4))) (rl 7 (v 4)))) (xW (aW (v 4) (v 5)) (aW (nW (v 4)) (v 6)))) kj) wj
            go_quiet ((go_at_call 38; first | exact Calls.quiet_of_same (c38s (c := 26) (by decide) (by omega) _ _) | exact Calls.quiet_of_same (c38s (c := 21) (by decide) (by omega) _ _) | exact Calls.quiet_of_same (c38s (c := 7) (by decide) (by omega) _ _)))
            rw [j1]
            clear i1 i2 i3 i4 i5 i5' i6 i7 i8 i9 j1 d1 d2
            obtain ⟨t1, ht1⟩ : ∃ t1, t1 = pW (pW (pW (pW (v 7) (xW (xW (rl 26 (v 4)) (rl 21 (v 4))) (rl 7 (v 4)))) (xW (aW (v 4) (v 5)) (aW (nW (v 4)) (v 6)))) kj) wj := ⟨_, rfl⟩
            rw [← ht1]
            have HT1 := hidE ht1
            clear ht1
            have i1 := xW_val (rl 30 (v 0)) (rl 19 (v 0))
            have i2 := xW_val (xW (rl 30 (v 0)) (rl 19 (v 0))) (rl 10 (v 0))
            have i3 := aW_val (v 0) (v 1)
            have i4 := aW_val (v 0) (v 2)
            have i5 := aW_val (v 1) (v 2)
            have i6 := xW_val (aW (v 0) (v 1)) (aW (v 0) (v 2))
            have i7 := xW_val (xW (aW (v 0) (v 1)) (aW (v 0) (v 2))) (aW (v 1) (v 2))
            have i8 := pW_val (xW (xW (rl 30 (v 0)) (rl 19 (v 0))) (rl 10 (v 0))) (xW (xW (aW (v 0) (v 1)) (aW (v 0) (v 2))) (aW (v 1) (v 2)))
            have i9 := pW_val t1 (pW (xW (xW (rl 30 (v 0)) (rl 19 (v 0))) (rl 10 (v 0))) (xW (xW (aW (v 0) (v 1)) (aW (v 0) (v 2))) (aW (v 1) (v 2))))
            have j1 := pW_val (v 3) t1
            go_wp2_with fail
            ((with_reducible refine (c38 (c := 30) (by decide) (by omega) _ _).mono ?_); rintro e w2 ⟨rfl, rfl⟩)
            go_wp2_with fail
            ((with_reducible refine (c38 (c := 19) (by decide) (by omega) _ _).mono ?_); rintro e w2 ⟨rfl, rfl⟩)
            go_wp2_with fail
            ((with_reducible refine (c38 (c := 10) (by decide) (by omega) _ _).mono ?_); rintro e w2 ⟨rfl, rfl⟩)
            go_wp2_with fail
            clear i1 i2 i3 i4 i5 i6 i7 i8 i9 j1
            go_roundw
            case rel =>
              have hd : Fr (fun _ => False) W5 (W5.drewN nq) := (Fr.refl _ _).drewN _
              refine ⟨j + 1, rnd v kj wj, by omega, by go_num, ?_, by rw [HT1.out]; rfl, rfl, rfl, rfl, by rw [HT1.out]; rfl, rfl, rfl, rfl, HNX.out.1.same hd, (hfr2.trans HNX.out.2).trans (hd.mono fun _ f => f.elim)⟩
              rw [HV.out, HKJ.out, HWJ.out]; rfl
            case measure => simp [intOf]; omega
        · obtain rfl : j = 64 := by omega
          as_aux_lemma =>
          have e0 := pW_val (s 0) (v 0)
          have e1 := pW_val (s 1) (v 1)
          have e2 := pW_val (s 2) (v 2)
          have e3 := pW_val (s 3) (v 3)
          have e4 := pW_val (s 4) (v 4)
          have e5 := pW_val (s 5) (v 5)
          have e6 := pW_val (s 6) (v 6)
          have e7 := pW_val (s 7) (v 7)
          have hnx : bls K p h (i + 1) = (fun k => pW (s k) (v k), sg (fun q => p (64 * i + q)) g 64) := by
            have h1 := HBL.out
            have h2 := HV.out
            simp only [bls, h1]
            rw [h2]
          have HNX := hidE hnx
          have k1 : n - 64 * (i + 1) = n - 64 * i - 64 := by omega
          have k2 : c - 64 * (i + 1) = c - 64 * i - 64 := by omega
          have HK1 := hidE k1
          have HK2 := hidE k2
          clear hnx k1 k2
          by_cases hc : c - 64 * i = 64
          · have hc2 : ¬ i + 1 < m := by have := HN.out; omega
            go_wp2_with fail
            go_roundw
            case rel => exact ⟨i + 1, some ⟨bp, op + 64 * i, none⟩, fun k => pW (s k) (v k), sg (fun q => p (64 * i + q)) g 64, by omega, by rw [HK1.out, HK2.out, hc], fun h => absurd h hc2, HNX, congrArg (Value.int .u32) e0, congrArg (Value.int .u32) e1, congrArg (Value.int .u32) e2, congrArg (Value.int .u32) e3, congrArg (Value.int .u32) e4, congrArg (Value.int .u32) e5, congrArg (Value.int .u32) e6, congrArg (Value.int .u32) e7, HSG.out, hfr.trans hfr2⟩
            case measure => simp only []; omega
          · go_wp2_with fail
            go_roundw
            case rel => exact ⟨i + 1, some ⟨bp, op + 64 * i + 64, none⟩, fun k => pW (s k) (v k), sg (fun q => p (64 * i + q)) g 64, by omega, by rw [HK1.out, HK2.out], fun _ => rfl, HNX, congrArg (Value.int .u32) e0, congrArg (Value.int .u32) e1, congrArg (Value.int .u32) e2, congrArg (Value.int .u32) e3, congrArg (Value.int .u32) e4, congrArg (Value.int .u32) e5, congrArg (Value.int .u32) e6, congrArg (Value.int .u32) e7, HSG.out, hfr.trans hfr2⟩
            case measure => simp only []; omega

    · obtain rfl : m = i := by omega
      have k1 : n - 64 * m < 64 := by have := HN.out; omega
      have hh3 : Wd wr b 0 8 h := ((HH.out.same hf1).same hf2).fr hfr fun k _ => not_inR (.inl (by have := HH.out.1; omega))
      have hn3 : Nf wr b 0 8 := ((HF.out.fr hf1).fr hf2).fr hfr
      have q0 := hh3.2 0 (by omega)
      have q1 := hh3.2 1 (by omega)
      have q2 := hh3.2 2 (by omega)
      have q3 := hh3.2 3 (by omega)
      have q4 := hh3.2 4 (by omega)
      have q5 := hh3.2 5 (by omega)
      have q6 := hh3.2 6 (by omega)
      have q7 := hh3.2 7 (by omega)
      have f0 := hn3 0 (by omega)
      have f1 := hn3 1 (by omega)
      have f2 := hn3 2 (by omega)
      have f3 := hn3 3 (by omega)
      have f4 := hn3 4 (by omega)
      have f5 := hn3 5 (by omega)
      have f6 := hn3 6 (by omega)
      have f7 := hn3 7 (by omega)
      simp only [Nat.zero_add] at q0 q1 q2 q3 q4 q5 q6 q7 f0 f1 f2 f3 f4 f5 f6 f7
      have HH3 := hidE hh3
      clear hh3 hn3 hA
      go_wp2_with fail
      go_region
      go_end0
      obtain ⟨z1, z2⟩ := set8 s HH3.out
      refine ⟨rfl, ?_, (((hf1.trans hf2).trans' hfr).trans' z2).strong fun p hp hm => ?_⟩
      · rw [HBL.out]; exact z1
      · rcases hm with (hm | ⟨t, _, rfl⟩) | hm
        · exact hm.elim
        · exact absurd hp (Nat.lt_irrefl _)
        · exact hm

end CI
end Go.Proofs.Yteooohmlmefbnaa
