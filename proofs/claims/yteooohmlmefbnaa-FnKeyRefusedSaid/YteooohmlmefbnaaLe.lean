/-
  The contract of 'smix' (r from 1 to 8).
  Conditions: none.
-/
import Derived.Test.YteooohmlmefbnaaLf
import Derived.Test.YteooohmlmefbnaaKc
namespace Go.Proofs.Yteooohmlmefbnaa
namespace CI
open Go
open Go.RowKit

theorem Fr.trans' {may may' : MemPlace → Prop} {a b c : World} (h : Fr may a b) (k : Fr may' b c) : Fr (fun p => may p ∨ may' p) a c :=
  (h.mono fun _ h => .inl h).trans (k.mono fun _ h => .inr h)

/-- The first loop's state. -/
structure S1 (W1 : World) (bb ob lb bx ox n : Nat) (B : Nat → B8) (G : Nat → W) (i : Nat) (w : World) : Prop where
  b : By w bb ob lb B
  x : Wd w bx ox (2 * n) (fun k => if k < i then leW B k else G k)
  fr : Fr (inR bx ox (2 * n)) W1 w

theorem S1.next {W1 w w1 : World} {bb ob lb bx ox n : Nat} {B : Nat → B8} {G : Nat → W} {i : Nat} (h : S1 W1 bb ob lb bx ox n B G i w) (hf : Fr (fun _ => False) w w1) (d : bb ≠ bx) (hi : i < n) :
    S1 W1 bb ob lb bx ox n B G (i + 1) (w1.setCell ⟨bx, ox + i, none⟩ (.int .u32 ((leW B i).toNat : Int))) := by
  obtain ⟨h1, h2, h3⟩ := h
  have hs : Fr (inR bx (ox + i) 1) w1 (w1.setCell ⟨bx, ox + i, none⟩ (.int .u32 ((leW B i).toNat : Int))) := Fr.set1 _
  refine ⟨(h1.same hf).fr hs fun k _ => not_inR (.inl d), ((h2.same hf).set1 (by omega) (leW B i)).congr fun k hk => ?_, (h3.trans (hf.mono fun _ f => f.elim)).trans (hs.mono fun p hp => hp.mono (by omega) (by omega))⟩
  by_cases e : k = i
  · subst e; rw [if_pos rfl, if_pos (by omega)]
  · rw [if_neg e]
    by_cases e2 : k < i
    · rw [if_pos e2, if_pos (by omega)]
    · rw [if_neg e2, if_neg (by omega)]

def mayS (bx ox bv ov bt n m : Nat) (p : MemPlace) : Prop := inR bx ox (2 * n) p ∨ inR bv ov m p ∨ inR bt 0 16 p
structure P2 (W1 : World) (bx ox bv ov bt n m r : Nat) (X : Nat → W) (i : Nat) (w : World) : Prop where
  even : i % 2 = 0
  st : ∃ Y h, Sm (mayS bx ox bv ov bt n m) W1 bx ox bv ov bt n m (Xs r X i) Y h w ∧ Laid r n X h i

structure P3 (W1 : World) (bx ox bv ov bt n m r N : Nat) (X : Nat → W) (i : Nat) (w : World) : Prop where
  even : i % 2 = 0
  st : ∃ Y h, Sm (mayS bx ox bv ov bt n m) W1 bx ox bv ov bt n m (Ys r N X i) Y h w ∧ Laid r n X h N

/-- The last loop's state. -/
structure S4 (W4 : World) (bb ob lb : Nat) (X : Nat → W) (B : Nat → B8) (i : Nat) (w : World) : Prop where
  b : By w bb ob lb (fun k => if k < 4 * i then toB X k else B k)
  fr : Fr (inR bb ob lb) W4 w

theorem S4.next {W4 w w1 : World} {bb ob lb n : Nat} {X : Nat → W} {B : Nat → B8} {i : Nat} (h : S4 W4 bb ob lb X B i w) (hi : i < n) (hlb : 4 * n ≤ lb) (hx : By w1 bb (ob + 4 * i) 4 (bt (X i))) (hf : Fr (inR bb (ob + 4 * i) 4) w w1) : S4 W4 bb ob lb X B (i + 1) w1 := by
  refine ⟨(h.b.put hx hf).congr fun k hk => ?_, h.fr.trans (hf.mono fun p hp => hp.mono (by omega) (by omega))⟩
  simp only [putB]
  by_cases e : 4 * i ≤ k ∧ k < 4 * i + 4
  · rw [if_pos e, if_pos (by omega)]
    unfold toB
    rw [show k / 4 = i by omega, show k % 4 = k - 4 * i by omega]
  · rw [if_neg e]
    by_cases e2 : k < 4 * i
    · rw [if_pos e2, if_pos (by omega)]
    · rw [if_neg e2, if_neg (by omega)]

theorem smix_end {w W1 wo wr : World} {bb ob lb bx ox bv ov n m : Nat} {X Y h : Nat → W} {B : Nat → B8} (F1 : Fr (fun _ => False) w W1) (hs : Sm (mayS bx ox bv ov w.heap.size n m) W1 bx ox bv ov w.heap.size n m X Y h wo) (hb : By wr bb ob lb (fun k => if k < 4 * n then toB X k else B k)) (hf : Fr (inR bb ob lb) wo wr) (dbx : bb ≠ bx) (dbv : bb ≠ bv) (hlb : lb ≤ 4 * n) :
    Ending.returned (.tuple #[]) = .returned (.tuple #[]) ∧ By wr bb ob lb (toB X) ∧ (∃ g, Wd wr bx ox (2 * n) g) ∧ (∃ h, Wd wr bv ov m h) ∧ Fr (fun p => inR bb ob lb p ∨ inR bx ox (2 * n) p ∨ inR bv ov m p) w wr := by
  refine ⟨rfl, hb.congr fun k hk => by rw [if_pos (by omega)], ⟨fun k => if k < n then X k else Y (k - n), ?_⟩, ⟨h, hs.v.fr hf fun k _ => not_inR (.inl (Ne.symm dbv))⟩, ?_⟩
  · have hx := hs.x.fr hf fun k _ => not_inR (.inl (Ne.symm dbx))
    have hy := hs.y.fr hf fun k _ => not_inR (.inl (Ne.symm dbx))
    refine ⟨hx.1, fun k hk => ?_⟩
    by_cases e : k < n
    · simp only [if_pos e]; exact hx.2 k e
    · simp only [if_neg e]
      have := hy.2 (k - n) (by omega)
      rwa [show ox + n + (k - n) = ox + k by omega] at this
  · refine (((F1.mono fun _ f => f.elim).trans (hs.fr.mono fun _ h => h)).trans' hf).strong fun p hp hm => ?_
    rcases hm with (h | h | h) | h
    · exact .inr (.inl h)
    · exact .inr (.inr h)
    · obtain ⟨j, _, rfl⟩ := h
      exact absurd hp (Nat.lt_irrefl _)
    · exact .inl h

set_option maxRecDepth 100000 in
set_option maxHeartbeats 4000000 in
theorem c32 {r n N m lb cb lv cv lx cx : Nat} (h1 : 1 ≤ r) (h2 : r ≤ 8) (hn : n = 32 * r) (hm : m = N * n) {kN : Nat} (hN2 : N = 2 ^ kN) (hk1 : 1 ≤ kN) (hk2 : kN ≤ 6) (hlb : lb = 4 * n) (hcb : lb ≤ cb) (hlv : lv = m) (hcv : lv ≤ cv) (hlx : lx = 2 * n) (hcx : lx ≤ cx) (_hcb2 : cb ≤ 9223372036854775807) (hcv2 : cv ≤ 9223372036854775807) (hcx2 : cx ≤ 9223372036854775807)
    {w : World} {bb ob bv ov bx ox : Nat} {B : Nat → B8} {G H : Nat → W} (hB : By w bb ob lb B) (hBf : Nf w bb ob lb) (hx : Wd w bx ox (2 * n) G) (hxf : Nf w bx ox (2 * n)) (hv : Wd w bv ov m H) (hvf : Nf w bv ov m) (dbx : bb ≠ bx) (dbv : bb ≠ bv) (dxv : bx ≠ bv) :
    Calls Try.prog 32 #[.slice (some ⟨bb, ob, none⟩) lb cb, .int .i64 (r : Int), .int .i64 (N : Int), .slice (some ⟨bv, ov, none⟩) lv cv, .slice (some ⟨bx, ox, none⟩) lx cx] w fun e w' =>
      e = .returned (.tuple #[]) ∧ By w' bb ob lb (toB (Ys r N (leW B) N)) ∧ (∃ g, Wd w' bx ox (2 * n) g) ∧ (∃ h, Wd w' bv ov m h) ∧ Fr (fun p => inR bb ob lb p ∨ inR bx ox (2 * n) p ∨ inR bv ov m p) w w' := by
  have hN : 2 ≤ N := by rw [hN2]; exact Nat.pow_le_pow_right (n := 2) (by omega) hk1
  have hN3 : N ≤ 64 := by rw [hN2]; exact Nat.pow_le_pow_right (n := 2) (by omega) hk2
  have hE : N % 2 = 0 := by
    obtain ⟨j, rfl⟩ : ∃ j, kN = j + 1 := ⟨kN - 1, by omega⟩
    rw [hN2, Nat.pow_succ]; omega
  have HE := hidE hE
  clear hE
  have r1 : (32 : Int) * (r : Int) = (n : Int) := by omega
  have b1 : n ≤ 256 := by omega
  have b2 : n ≤ lx := by omega
  have b3 : ¬ cx = n := by omega
  have b4 : 4 * n ≤ lb := by omega
  have b5 : lb ≤ 1024 := by omega
  have HN := hidE hn
  have HM := hidE hm
  have HLB := hidE hlb
  have HLV := hidE hlv
  have HLX := hidE hlx
  have HB := hidE hB
  have HBf := hidE hBf
  have HX := hidE hx
  have HXf := hidE hxf
  have HV := hidE hv
  have HVf := hidE hvf
  have HN2 := hidE hN2
  clear hn hm hlb hlv hlx hB hBf hx hxf hv hvf hN2
  go_enter Try.func32, Try.ntmps32
  go_wp2_with fail
  generalize hW1 : w.alloc (Obj.cells #[Value.int IntKind.u32 0, Value.int IntKind.u32 0, Value.int IntKind.u32 0, Value.int IntKind.u32 0,
      Value.int IntKind.u32 0, Value.int IntKind.u32 0, Value.int IntKind.u32 0, Value.int IntKind.u32 0,
      Value.int IntKind.u32 0, Value.int IntKind.u32 0, Value.int IntKind.u32 0, Value.int IntKind.u32 0,
      Value.int IntKind.u32 0, Value.int IntKind.u32 0, Value.int IntKind.u32 0, Value.int IntKind.u32 0] 23) = W1
  have HW1 := hidE hW1
  clear hW1
  have F1 : Fr (fun _ => False) w W1 := by rw [← HW1.out]; exact Fr.alloc _ _ _ _
  go_loopw [14, 15] (fun vj vi wr => ∃ i : Nat, i ≤ n ∧ vi = .int .i64 i ∧ vj = .int .i64 (4 * (i : Int)) ∧ S1 W1 bb ob lb bx ox n B G i wr) (fun _ vi _ => n - (intOf vi).toNat)
  case atStart => exact ⟨0, Nat.zero_le _, rfl, rfl, ⟨HB.out.same F1, (HX.out.same F1).congr (fun k _ => by rw [if_neg (by omega)]), Fr.refl _ _⟩⟩
  case round =>
    obtain ⟨i, hi, rfl, rfl, hS⟩ := hrel
    have HS := hidE hS
    clear hS
    by_cases hlt : i < n
    · have c1 : ¬ cb = 4 * i := by omega
      go_wp2_with fail
      ((with_reducible refine (c40' (B := fun k => B (4 * i + k)) (by omega) (by omega) (HS.out.b.sub (p := 4 * i) (by omega))).mono ?_); rintro e w1 ⟨rfl, hf⟩)
      have q1 := (HS.out.x.same hf).2 i (by omega)
      have q2 := ((HXf.out.fr F1).fr (HS.out.fr.trans (hf.mono fun _ f => f.elim))) i (by omega)
      go_wp2_with fail
      go_roundw
      case rel => exact ⟨i + 1, by omega, by go_num, by go_num, HS.out.next hf dbx hlt⟩
      case measure => simp [intOf]; omega
    · obtain rfl : n = i := by omega
      have Z0 : Fr (fun _ => False) w W1 := F1
      have zt : Wd W1 w.heap.size 0 16 (fun _ => 0#32) ∧ Nf W1 w.heap.size 0 16 := by
        rw [← HW1.out]
        refine ⟨⟨by simp, fun k hk => ?_⟩, fun k hk => World.frozen?_alloc_new _ _ _ _⟩
        rw [World.cell?_alloc_new]
        have : k = 0 ∨ k = 1 ∨ k = 2 ∨ k = 3 ∨ k = 4 ∨ k = 5 ∨ k = 6 ∨ k = 7 ∨ k = 8 ∨ k = 9 ∨ k = 10 ∨ k = 11 ∨ k = 12 ∨ k = 13 ∨ k = 14 ∨ k = 15 := by omega
        rcases this with rfl | rfl | rfl | rfl | rfl | rfl | rfl | rfl | rfl | rfl | rfl | rfl | rfl | rfl | rfl | rfl <;> rfl
      have hP : Pl (mayS bx ox bv ov w.heap.size n m) W1 bx ox bv ov w.heap.size n m :=
        ⟨dxv, by have := HX.out.1; omega, by have := HV.out.1; omega, HXf.out.fr F1, HVf.out.fr F1, zt.2, fun _ h => .inl h, fun _ h => .inr (.inl h), fun _ h => .inr (.inr h)⟩
      have hS0 : Sm (mayS bx ox bv ov w.heap.size n m) W1 bx ox bv ov w.heap.size n m (leW B) (fun k => G (n + k)) H wr :=
        ⟨(HS.out.x.sub (p := 0) (n := n) (by omega)).congr fun k hk => by simp only [Nat.zero_add]; rw [if_pos hk],
         (HS.out.x.sub (p := n) (n := n) (by omega)).congr fun k hk => by rw [if_neg (by omega)],
         ⟨_, zt.1.fr HS.out.fr fun k _ => not_inR (.inl hP.tx)⟩,
         (HV.out.same F1).fr HS.out.fr fun k _ => not_inR (.inl (Ne.symm dxv)), HS.out.fr.mono fun _ h => .inl h⟩
      have HP := hidE hP
      have HS0 := hidE hS0
      clear hP hS0 zt
      go_wp2_with fail
      go_loopw [16] (fun vi wr => ∃ i : Nat, i ≤ N ∧ vi = .int .i64 i ∧ P2 W1 bx ox bv ov w.heap.size n m r (leW B) i wr) (fun vi _ => N - (intOf vi).toNat)
      case atStart => exact ⟨0, Nat.zero_le _, rfl, rfl, _, _, HS0.out, fun j hj => absurd hj (Nat.not_lt_zero j)⟩
      case round =>
        clear HS HS0
        obtain ⟨i, hi, rfl, hev, Y, h, hS, hl⟩ := hrel
        have HS := hidE hS
        have HL := hidE hl
        have HEV := hidE hev
        clear hS hl hev
        by_cases hlt : i < N
        · have hi2 : i + 2 ≤ N := by have := HEV.out; have := HE.out; omega
          obtain ⟨p, hp⟩ : ∃ p, p = i * n := ⟨_, rfl⟩
          obtain ⟨p2, hp2⟩ : ∃ p2, p2 = (i + 1) * n := ⟨_, rfl⟩
          have e2 : p2 = p + n := by rw [hp, hp2, Nat.succ_mul]
          have e3 : p2 + n ≤ m := by
            rw [HM.out, hp2, ← Nat.succ_mul]; exact Nat.mul_le_mul_right n (by omega)
          have HP1 := hidE hp
          have HP2 := hidE hp2
          have rp : (i : Int) * (n : Int) = (p : Int) := by rw [hp]; exact (Int.natCast_mul i n).symm
          have rp2 : ((i : Int) + 1) * (n : Int) = (p2 : Int) := by rw [hp2, Int.natCast_mul]; rfl
          have HE2 := hidE e2
          have k1 : p + n ≤ m := by omega
          have k2 : p + n ≤ lv := by have := HLV.out; omega
          have k3 : p2 + n ≤ lv := by have := HLV.out; omega
          have k4 : ¬ cv = p := by omega
          have k5 : ¬ cv = p2 := by omega
          have k6 : lv ≤ 16384 := by
            have h3 : N * n ≤ 64 * 256 := Nat.mul_le_mul hN3 b1
            have := HLV.out; have := HM.out; omega
          have k7 : 0 ≤ (p : Int) := by omega
          have k8 : 0 ≤ (p2 : Int) := by omega
          have k9 : lx = 2 * n := HLX.out
          have K9 := hidE k9
          clear hp hp2 e2 k9
          go_wp2_with fail
          ((with_reducible refine (stA h1 h2 HN.out HP.out HS.out k1 (by omega) (by omega) b2 hcx).mono ?_); rintro e w1 ⟨rfl, hS1⟩)
          have HS1 := hidE hS1
          clear hS1
          go_wp2_with fail
          ((with_reducible refine (stM h1 h2 HN.out HP.out HS1.out K9.out hcx (by have := K9.out; omega) (by omega)).mono ?_); rintro e w2 ⟨rfl, hS2⟩)
          have HS2 := hidE hS2
          clear hS2
          go_wp2_with fail
          ((with_reducible refine (stA' h1 h2 HN.out HP.out HS2.out e3 (by omega) (by omega) (by have := K9.out; omega) (by omega)).mono ?_); rintro e w3 ⟨rfl, hS3⟩)
          have HS3 := hidE hS3
          clear hS3
          go_wp2_with fail
          ((with_reducible refine (stM' h1 h2 HN.out HP.out HS3.out K9.out hcx (by have := K9.out; omega) (by omega)).mono ?_); rintro e w4 ⟨rfl, hS4⟩)
          have HS4 := hidE hS4
          clear hS4
          go_wp2_with fail
          go_roundw
          case rel => exact ⟨i + 2, hi2, by go_num, by have := HEV.out; omega, _, _, HS4.out, (HL.out.next HP1.out fun k _ => rfl).next HP2.out fun k _ => rfl⟩
          case measure => simp [intOf]; omega
        · obtain rfl : N = i := by omega
          go_wp2_with fail
          go_loopw [17] (fun vi wr => ∃ i : Nat, i ≤ N ∧ vi = .int .i64 i ∧ P3 W1 bx ox bv ov w.heap.size n m r N (leW B) i wr) (fun vi _ => N - (intOf vi).toNat)
          case atStart => exact ⟨0, Nat.zero_le _, rfl, rfl, _, _, HS.out, HL.out⟩
          case round =>
            clear HS HL
            obtain ⟨i, hi, rfl, hev, Y, h, hS, hl⟩ := hrel
            have HS := hidE hS
            have HL := hidE hl
            have HEV := hidE hev
            clear hS hl hev
            by_cases hlt : i < N
            · have hi2 : i + 2 ≤ N := by have := HEV.out; have := HE.out; omega
              go_wp2_with fail
              have k6 : lv ≤ 16384 := by
                have h3 : N * n ≤ 64 * 256 := Nat.mul_le_mul hN3 b1
                have := HLV.out; have := HM.out; omega
              have K9 : Hid (lx = 2 * n) := HLX.out
              ((with_reducible refine (stI h1 h2 HN.out HS.out b2 hcx).mono ?_); rintro e y1 ⟨q1, hq, rfl, hS1⟩)
              have yS1 := hidE hS1
              have yQ := hidE hq
              have yq : q1 < 18446744073709551616 := by have := yQ.out; have := (integ (Ys r N (leW B) i (n - 16)) (Ys r N (leW B) i (n - 15))).isLt; omega
              clear hS1 hq
              have yb := bits_mod HN2.out hk2 yq
              clear yq
              obtain ⟨j1, hj⟩ : ∃ j, j = q1 % N := ⟨_, rfl⟩
              rw [← hj] at yb
              have yj : j1 < N := by rw [hj]; exact Nat.mod_lt _ (by omega)
              have yJ := hidE hj
              clear hj
              obtain ⟨p1, hp⟩ : ∃ p, p = j1 * n := ⟨_, rfl⟩
              have yP := hidE hp
              have yp : (j1 : Int) * (n : Int) = (p1 : Int) := by rw [hp]; exact (Int.natCast_mul j1 n).symm
              have ym : p1 + n ≤ m := by
                rw [HM.out, hp, ← Nat.succ_mul]; exact Nat.mul_le_mul_right n yj
              clear hp
              have yk2 : p1 + n ≤ lv := by have := HLV.out; omega
              have yk4 : ¬ cv = p1 := by omega
              have yk7 : 0 ≤ (p1 : Int) := by omega
              go_wp2_with fail
              ((with_reducible refine (stX h1 h2 HN.out HP.out yS1.out ym (by omega) (by omega) b2 hcx).mono ?_); rintro e y2 ⟨rfl, hS2⟩)
              have yS2 := hidE hS2
              clear hS2
              go_wp2_with fail
              ((with_reducible refine (stM h1 h2 HN.out HP.out yS2.out K9.out hcx (by have := K9.out; omega) (by omega)).mono ?_); rintro e y3 ⟨rfl, hS3⟩)
              rw [Ys_step HN.out (by omega) HL.out yQ.out (by rw [yP.out, yJ.out])] at hS3
              have yS3 := hidE hS3
              clear hS3 yb yp
              go_wp2_with fail
              ((with_reducible refine (stI' h1 h2 HN.out yS3.out (by have := K9.out; omega) (by omega)).mono ?_); rintro e z1 ⟨q2, hq, rfl, hS1⟩)
              have zS1 := hidE hS1
              have zQ := hidE hq
              have zq : q2 < 18446744073709551616 := by have := zQ.out; have := (integ (Ys r N (leW B) (i + 1) (n - 16)) (Ys r N (leW B) (i + 1) (n - 15))).isLt; omega
              clear hS1 hq
              have zb := bits_mod HN2.out hk2 zq
              clear zq
              obtain ⟨j2, hj⟩ : ∃ j, j = q2 % N := ⟨_, rfl⟩
              rw [← hj] at zb
              have zj : j2 < N := by rw [hj]; exact Nat.mod_lt _ (by omega)
              have zJ := hidE hj
              clear hj
              obtain ⟨p2, hp⟩ : ∃ p, p = j2 * n := ⟨_, rfl⟩
              have zP := hidE hp
              have zp : (j2 : Int) * (n : Int) = (p2 : Int) := by rw [hp]; exact (Int.natCast_mul j2 n).symm
              have zm : p2 + n ≤ m := by
                rw [HM.out, hp, ← Nat.succ_mul]; exact Nat.mul_le_mul_right n zj
              clear hp
              have zk2 : p2 + n ≤ lv := by have := HLV.out; omega
              have zk4 : ¬ cv = p2 := by omega
              have zk7 : 0 ≤ (p2 : Int) := by omega
              go_wp2_with fail
              ((with_reducible refine (stX' h1 h2 HN.out HP.out zS1.out zm (by omega) (by omega) (by have := K9.out; omega) (by omega)).mono ?_); rintro e z2 ⟨rfl, hS2⟩)
              have zS2 := hidE hS2
              clear hS2
              go_wp2_with fail
              ((with_reducible refine (stM' h1 h2 HN.out HP.out zS2.out K9.out hcx (by have := K9.out; omega) (by omega)).mono ?_); rintro e z3 ⟨rfl, hS3⟩)
              rw [Ys_step HN.out (by omega) HL.out zQ.out (by rw [zP.out, zJ.out])] at hS3
              have zS3 := hidE hS3
              clear hS3 zb zp
              go_wp2_with fail
              go_roundw
              case rel => exact ⟨i + 2, hi2, by go_num, by have := HEV.out; omega, _, _, zS3.out, HL.out⟩
              case measure => simp [intOf]; omega
            · obtain rfl : N = i := by omega
              have HBW : Hid (By wr bb ob lb B) := hidE ((HB.out.same F1).fr HS.out.fr fun k _ => by
                have hd : bb ≠ w.heap.size := by have := HB.out.1; omega
                rintro (h | h | h)
                · exact not_inR (.inl dbx) h
                · exact not_inR (.inl dbv) h
                · exact not_inR (.inl hd) h)
              have HLa : Hid (∃ h, Sm (mayS bx ox bv ov w.heap.size n m) W1 bx ox bv ov w.heap.size n m (Ys r N (leW B) N) Y h wr) := ⟨_, HS.out⟩
              obtain ⟨wo, rfl⟩ : ∃ wo : World, wo = wr := ⟨_, rfl⟩
              go_wp2_with fail
              go_loopw [14, 120] (fun vj vi wr => ∃ i : Nat, i ≤ n ∧ vi = .int .i64 i ∧ vj = .int .i64 (4 * (i : Int)) ∧ S4 wo bb ob lb (Ys r N (leW B) N) B i wr) (fun _ vi _ => n - (intOf vi).toNat)
              case atStart => exact ⟨0, Nat.zero_le _, rfl, rfl, HBW.out.congr (fun k _ => by rw [if_neg (by omega)]), Fr.refl _ _⟩
              case round =>
                obtain ⟨i, hi, rfl, rfl, hS4⟩ := hrel
                have HS4 := hidE hS4
                clear hS4
                by_cases hlt : i < n
                · have c1 : ¬ cb = 4 * i := by omega
                  have q1 := (HS.out.x.fr HS4.out.fr fun k _ => not_inR (.inl (Ne.symm dbx))).2 i hlt
                  go_wp2_with fail
                  ((with_reducible refine (c43' (by omega) (by omega) (HS4.out.b.sub (p := 4 * i) (by omega)) ((((HBf.out.fr F1).fr HS.out.fr).fr HS4.out.fr).sub (p := 4 * i) (by omega))).mono ?_); rintro e w1 ⟨rfl, hx1, hf1⟩)
                  have HX1 := hidE hx1
                  clear hx1 q1
                  go_wp2_with fail
                  go_roundw
                  case rel => exact ⟨i + 1, by omega, by go_num, by go_num, HS4.out.next hlt b4 HX1.out hf1⟩
                  case measure => simp [intOf]; omega
                · obtain rfl : n = i := by omega
                  go_wp2_with fail
                  go_end0
                  exact smix_end F1 HS.out HS4.out.b HS4.out.fr dbx dbv (by have := HLB.out; omega)
end CI
end Go.Proofs.Yteooohmlmefbnaa
