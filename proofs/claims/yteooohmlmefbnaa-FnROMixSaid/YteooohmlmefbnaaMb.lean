/-
  The contract of 'spec.ROMix'.
  Conditions: none.
-/
import Derived.Test.YteooohmlmefbnaaMa
namespace Go.Proofs.Yteooohmlmefbnaa
namespace CI
open Go
open Go.RowKit

set_option maxRecDepth 100000 in
set_option maxHeartbeats 4000000 in
theorem c17 {r n N lb cb : Nat} (h1 : 1 ≤ r) (h2 : r ≤ 8) (hn : n = 32 * r) {kN : Nat} (hN2 : N = 2 ^ kN) (hk1 : 1 ≤ kN) (hk2 : kN ≤ 6) (hlb : lb = 128 * r)
    {w : World} {bb ob : Nat} {B : Nat → B8} (hB : By w bb ob lb B) :
    Calls Try.prog 17 #[.slice (some ⟨bb, ob, none⟩) lb cb, .int .i64 (r : Int), .int .i64 (N : Int)] w fun e w' => ∃ g p cap,
      e = .returned (.slice (some ⟨g, p, none⟩) lb cap) ∧ By w' g p lb (toB (Ys r N (leW B) N)) ∧ Fr (fun _ => False) w w' := by
  have b0 : N ≤ 64 := by rw [hN2]; exact Nat.pow_le_pow_right (n := 2) (by omega) hk2
  have b1 : 2 ≤ N := by rw [hN2]; exact Nat.pow_le_pow_right (n := 2) (by omega) hk1
  have b2 : lb ≤ 1024 := by omega
  have b3 : n ≤ 256 := by omega
  have b4 : lb ≤ 4 * n := by omega
  have r1 : (128 : Int) * (r : Int) = (lb : Int) := by omega
  have r2 : (32 : Int) * (r : Int) = (n : Int) := by omega
  have mk := make26 n (by omega)
  have HN2 := hidE hN2
  have HN := hidE hn
  have HLB := hidE hlb
  have HB := hidE hB
  clear hN2 hlb hB hn
  go_enter Try.func17, Try.ntmps17
  go_wp2_with fail
  have HZ := hidE (zObj_wd w n)
  generalize hW1 : w.alloc (zObj n) = W1 at HZ
  have HW1 := hidE hW1
  clear hW1
  go_loopw [23] (fun vi wr => ∃ i : Nat, i ≤ lb ∧ vi = .int .i64 i ∧ R1 W1 bb ob lb w.heap.size n B i wr) (fun vi _ => lb - (intOf vi).toNat)
  case atStart => exact ⟨0, Nat.zero_le _, rfl, HB.out.same HZ.out.2.2, HZ.out.1, Fr.refl _ _⟩
  case round =>
    obtain ⟨i, hi, rfl, hS⟩ := hrel
    have HS := hidE hS
    clear hS
    by_cases hlt : i < lb
    · have q1 := HS.out.b.2 i hlt
      have q2 := HS.out.x.2 (i / 4) (by omega)
      have q3 := (HZ.out.2.1.fr HS.out.fr) (i / 4) (by omega)
      rw [Nat.zero_add] at q2 q3
      go_wp2_with fail
      go_region
      go_wp2_with fail
      go_roundw
      case rel => exact ⟨i + 1, by omega, by go_num, HS.out.next (by have := HB.out.1; omega) (by omega) (u32_sh_or _ _ _)⟩
      case measure => simp [intOf]; omega
    · obtain rfl : lb = i := by omega
      have hx0 : Wd wr w.heap.size 0 n (leW B) := HS.out.x.congr fun k hk => by
        have e : lb = 4 * n := by have := HLB.out; have := HN.out; omega
        rw [e, acc_leW, if_pos hk]
      have hfr0 : Fr (fun _ => False) w wr := (HZ.out.2.2.trans' HS.out.fr).strong fun p hp hm => by
        rcases hm with h | ⟨j, _, rfl⟩
        · exact h
        · exact absurd hp (Nat.lt_irrefl _)
      have HX0 := hidE hx0
      have HF0 := hidE hfr0
      clear hx0 hfr0
      obtain ⟨i0, hi0, hz0, hz1, hz2⟩ := info_parts info26
      have HI0 := hidE hi0
      have HI1 := hidE hz0
      have HI2 := hidE hz1
      have HI3 := hidE hz2
      clear hi0 hz0 hz1 hz2
      obtain ⟨wo, rfl⟩ : ∃ wo : World, wo = wr := ⟨_, rfl⟩
      go_wp2_with fail
      go_loopw [7, 10, 11] (fun vx vv vi wr => ∃ i gv cv gx cx : Nat, i ≤ N ∧ vi = .int .i64 i ∧ vv = .slice (some ⟨gv, 0, none⟩) i cv ∧ vx = .slice (some ⟨gx, 0, none⟩) n cx ∧ R2 w n r (leW B) gv cv gx cx i wr) (fun _ _ vi _ => N - (intOf vi).toNat)
      case atStart =>
        refine ⟨0, wo.heap.size, 0, w.heap.size, n, Nat.zero_le _, rfl, rfl, rfl, ⟨[], Own.empty wo 26, fun j hj => absurd hj (Nat.not_lt_zero j)⟩, HX0.out.same (Fr.alloc _ _ _ _), Nat.le_refl _, ?_, HF0.out.trans (Fr.alloc _ _ _ _), HF0.out.size⟩
        have := HX0.out.1; omega
      case round =>
        obtain ⟨i, gv, cv, gx, cx, hi, rfl, rfl, rfl, hS2⟩ := hrel
        have HS2 := hidE hS2
        clear hS2
        by_cases hlt : i < N
        · obtain ⟨xs, hown, hxs⟩ := HS2.out.own
          have HOWN := hidE hown
          have HXS := hidE hxs
          have HLN := hidE hown.len
          have hby : (i + 1) * i0.bytes ≤ 140737488355328 := by rw [HI3.out]; omega
          have hml : i + 1 ≤ maxLen := by unfold maxLen; omega
          clear hown hxs
          go_wp2_with (at_builtin; refine wpList_append_blk rfl (.tmp 51) (.tmp 53) _ rfl Try.underlying46 HI0.out HI1.out HI2.out rfl rfl (HOWN.out.fr (Fr.alloc (fun _ => False) _ _ _) (fun _ f => f)) rfl rfl (new_one _ (slV gx n cx) 26) (by intro u hu; rw [List.mem_singleton.1 hu]; rfl) hml hby ?_; intro g' cap' w1 hown1 hg1 hf1; have HO1 := hidE hown1; have HG1 := hidE hg1; have HF1 := hidE hf1; clear hown1 hg1 hf1)
          have hx1 := (HS2.out.x.same (Fr.alloc _ _ _ _)).fr HF1.out fun k _ hm => HS2.out.ne hm.2
          have HX1 := hidE hx1
          clear hx1
          ((with_reducible refine (c13 h1 (by omega) HN.out HX1.out HS2.out.cx).mono ?_); rintro e w2 ⟨q, cap2, rfl, hq, hc2, hw2, hf2⟩)
          have HW2 := hidE hw2
          clear hw2
          go_wp2_with fail
          go_roundw
          case rel => exact ⟨i + 1, g', cap', q, cap2, by omega, by go_num, rfl, rfl, HS2.out.next HXS.out HLN.out ⟨_, _, rfl⟩ HO1.out HG1.out HF1.out hq HW2.out hc2 hf2⟩
          case measure => simp [intOf]; omega
        · obtain rfl : N = i := by omega
          have HS3 := hidE (HS2.out.r3)
          clear HS HS2 HX0 HF0
          obtain ⟨wo2, rfl⟩ : ∃ wo2 : World, wo2 = wr := ⟨_, rfl⟩
          go_wp2_with fail
          go_loopw [7, 12] (fun vx vi wr => ∃ i gx cx : Nat, i ≤ N ∧ vi = .int .i64 i ∧ vx = .slice (some ⟨gx, 0, none⟩) n cx ∧ R3 w n r N (leW B) gv gx cx i wr) (fun _ vi _ => N - (intOf vi).toNat)
          case atStart => exact ⟨0, gx, cx, Nat.zero_le _, rfl, rfl, HS3.out⟩
          case round =>
            clear HS3
            obtain ⟨i, gx, cx, hi, rfl, rfl, hS3⟩ := hrel
            have HS3 := hidE hS3
            clear hS3
            by_cases hlt : i < N
            · have q1 := HS3.out.x.2 (n - 16) (by have := HN.out; omega)
              obtain ⟨d, hd⟩ : ∃ d, d = n - 16 := ⟨_, rfl⟩
              rw [← hd, Nat.zero_add] at q1
              have r3 : (16 : Int) * ((2 : Int) * (r : Int) - 1) = (d : Int) := by have := HN.out; omega
              have b5 : d < n := by omega
              have b6 : 0 ≤ (d : Int) := by omega
              have HD := hidE hd
              clear hd
              obtain ⟨u, hu⟩ : ∃ u, u = (Ys r N (leW B) i d).toNat := ⟨_, rfl⟩
              rw [← hu] at q1
              have b7 : u < 4294967296 := by have := (Ys r N (leW B) i d).isLt; omega
              have HU := hidE hu
              clear hu
              obtain ⟨j, hj⟩ : ∃ j, j = u % N := ⟨_, rfl⟩
              have r4 : (u : Int) % (N : Int) = (j : Int) := by omega
              have b8 : j < N := by rw [hj]; exact Nat.mod_lt _ (by omega)
              have HJ := hidE hj
              clear hj
              obtain ⟨⟨hgv, hcop⟩, hx3, hcx3, hfr3⟩ := HS3.out
              obtain ⟨gj, cj, hc1, hc2, hc3⟩ := hcop j b8
              have HCop := hidE hcop
              have HX3 := hidE hx3
              have HC1 := hidE hc1
              have HC3 := hidE hc3
              clear hcop hx3 hc1 hc3
              obtain ⟨wo3, rfl⟩ : ∃ wo3 : World, wo3 = wr := ⟨_, rfl⟩
              go_wp2_with fail
              rw [r4]
              have HZ2 := hidE (zObj_wd wo3 n)
              generalize hW2 : wo3.alloc (zObj n) = W2 at HZ2
              have HW2 := hidE hW2
              clear hW2 r4
              go_loopw [78] (fun vk wr => ∃ k : Nat, k ≤ n ∧ vk = .int .i64 k ∧ R4 W2 wo3.heap.size n (Ys r N (leW B) i) (Xs r (leW B) j) k wr) (fun vk _ => n - (intOf vk).toNat)
              case atStart => exact ⟨0, Nat.zero_le _, rfl, HZ2.out.1.congr (fun k _ => by rw [if_neg (by omega)]), Fr.refl _ _⟩
              case round =>
                obtain ⟨k, hk, rfl, hS4⟩ := hrel
                have HS4 := hidE hS4
                clear hS4 q1
                by_cases hlt2 : k < n
                · have q1 := ((HX3.out.same HZ2.out.2.2).fr HS4.out.fr fun _ _ => not_inR (.inl (by have := HX3.out.1; omega))).2 k hlt2
                  have q2 := HS4.out.fr.cell (Nat.lt_of_lt_of_le hgv HZ2.out.2.2.size) (not_inR (.inl (by omega))) (HZ2.out.2.2.cell hgv (fun f => f) HC1.out)
                  have q3 := ((HC3.out.same HZ2.out.2.2).fr HS4.out.fr fun _ _ => not_inR (.inl (by have := HC3.out.1; omega))).2 k hlt2
                  have q4 := HS4.out.y.2 k hlt2
                  have q5 := (HZ2.out.2.1.fr HS4.out.fr) k hlt2
                  rw [Nat.zero_add] at q1 q3 q4 q5
                  unfold slV at q2
                  go_wp2_with fail
                  go_region
                  go_wp2_with fail
                  go_roundw
                  case rel => exact ⟨k + 1, by omega, by go_num, HS4.out.next hlt2 (u32_xor_bv _ _)⟩
                  case measure => simp [intOf]; omega
                · obtain rfl : n = k := by omega
                  go_wp2_with fail
                  ((with_reducible refine (c13 h1 (by omega) HN.out HS4.out.y (Nat.le_refl _)).mono ?_); rintro e w5 ⟨q, cap5, rfl, hq, hc5, hw5, hf5⟩)
                  rw [Ys_spec HN.out HN2.out hk2 HD.out HU.out HJ.out] at hw5
                  have HW5 := hidE hw5
                  clear hw5
                  have hff : Fr (fun _ => False) wo3 w5 := ((HZ2.out.2.2.trans' HS4.out.fr).trans' hf5).strong fun p hp hm => by
                    rcases hm with (hm | ⟨t, _, rfl⟩) | hm
                    · exact hm
                    · exact absurd hp (Nat.lt_irrefl _)
                    · exact hm
                  go_wp2_with fail
                  go_roundw
                  case rel => exact ⟨i + 1, q, cap5, by omega, by go_num, rfl, HS3.out.next hff HW5.out hc5⟩
                  case measure => simp [intOf]; omega
            · obtain rfl : N = i := by omega
              have mk2 := make29 lb (by omega)
              obtain ⟨wo4, rfl⟩ : ∃ wo4 : World, wo4 = wr := ⟨_, rfl⟩
              go_wp2_with fail
              have HZ3 := hidE (zObjB_by wo4 lb)
              generalize hW3 : wo4.alloc (zObjB lb) = W3 at HZ3
              have HW3 := hidE hW3
              clear hW3
              go_loopw [105] (fun vi wr => ∃ i : Nat, i ≤ lb ∧ vi = .int .i64 i ∧ R5 W3 wo4.heap.size lb (Ys r N (leW B) N) i wr) (fun vi _ => lb - (intOf vi).toNat)
              case atStart => exact ⟨0, Nat.zero_le _, rfl, HZ3.out.1.congr (fun k _ => by rw [if_neg (by omega)]), Fr.refl _ _⟩
              case round =>
                obtain ⟨i, hi, rfl, hS5⟩ := hrel
                have HS5 := hidE hS5
                clear hS5
                by_cases hlt2 : i < lb
                · have q1 := ((HS3.out.x.same HZ3.out.2.2).fr HS5.out.fr fun _ _ => not_inR (.inl (by have := HS3.out.x.1; omega))).2 (i / 4) (by omega)
                  have q4 := HS5.out.b.2 i hlt2
                  have q5 := (HZ3.out.2.1.fr HS5.out.fr) i hlt2
                  rw [Nat.zero_add] at q1 q4 q5
                  go_wp2_with fail
                  go_roundw
                  case rel =>
                    exact ⟨i + 1, by omega, by go_num, HS5.out.next hlt2 (toB_val _ i)⟩
                  case measure => simp [intOf]; omega
                · obtain rfl : lb = i := by omega
                  go_wp2_with fail
                  go_ret
                  exact ⟨wo4.heap.size, 0, lb, rfl, HS5.out.b.congr (fun k hk => by rw [if_pos hk]), ((HS3.out.fr.trans HZ3.out.2.2).trans' HS5.out.fr).strong fun p hp hm => by
                    rcases hm with hm | ⟨t, _, rfl⟩
                    · exact hm
                    · have := HS3.out.fr.size; simp only [MemPlace.block] at hp; omega⟩
end CI
end Go.Proofs.Yteooohmlmefbnaa
