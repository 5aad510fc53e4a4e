/-
  The contracts of 'pbkdf2.Key' with one round, of 'errors.New', of 'slices.Clone' at bytes whatever came in. The contract of 'scrypt.Key' with r = 1, p = 1, n a power of two. The contracts of 'scrypt.Key' where it refuses, and of 'impl.Key'.
  Conditions: none.
-/
import Derived.Test.YteooohmlmefbnaaQj
namespace Go.Proofs.Yteooohmlmefbnaa
namespace CI
open Go
open Go.RowKit

theorem Sl.str {B : Nat} {w : World} {A : Option Addr} {n c : Nat} {f : Nat → B8} (h : Sl B w A n c f) : (convert 29 9 (.slice A n c)).run Try.prog w = .ok (.string (strOfNums (numsB n f))) w := by
  obtain ⟨_, _, ⟨b, o, rfl, _, h4⟩ | ⟨rfl, rfl, rfl⟩⟩ := h
  · exact h4.str c
  · exact conv_nil w 0

set_option maxRecDepth 100000 in
set_option maxHeartbeats 1000000 in
theorem c34 {n cp m c L B : Nat} {P A : Option Addr} {w : World} {K : Nat → W} {pw sa : Nat → B8} (hK : Wd w 0 0 64 K) (hp : Sl B w P n cp pw) (hs : Sl B w A m c sa) (hB : B ≤ w.heap.size) (hn : n ≤ 4096) (hm : m ≤ 4096) (hL1 : 1 ≤ L) (hL2 : L ≤ 4096) :
    Calls Try.prog 34 #[.slice P n cp, .slice A m c, .int .i64 1, .int .i64 (L : Int), .func (.func 35) #[] #[]] w fun e w' => ∃ g cap, e = .returned (.slice (some ⟨g, 0, none⟩) L cap) ∧ L ≤ cap ∧ cap ≤ 9223372036854775807 ∧ w.heap.size ≤ g ∧ By w' g 0 L (pbB K pw n sa m) ∧ Nf w' g 0 L ∧ Below w.heap.size w w' := by
  have hc := hp.str
  have HC := hidE (c44 (n := n) (pw := pw) hK hs hB hn hm hL1 hL2)
  have hq := neq_nil
  clear hK hp hs
  go_enter Try.func34, Try.ntmps34
  go_wp2_with fail
  ((with_reducible refine HC.out.mono ?_); rintro e w1 ⟨g, cap, rfl, h1⟩)
  have H1 := hidE h1
  clear h1 HC hc
  go_wp2_with fail
  go_ret
  exact ⟨g, cap, rfl, H1.out⟩

set_option maxRecDepth 100000 in
set_option maxHeartbeats 1000000 in
theorem c33 {s : ByteArray} {w : World} :
    Calls Try.prog 33 #[.string s] w fun e w' => ∃ v, e = .returned (.iface 68 v) ∧ Fr (fun _ => False) w w' := by
  go_enter Try.func33, Try.ntmps33
  go_wp2_with fail
  go_ret
  exact ⟨_, rfl, Fr.alloc _ _ _ _⟩

/-- 'slices.Clone' of an empty slice that is not nil, wherever it points. -/
theorem c25z (ad : Addr) (c : Nat) (w : World) :
    Calls Try.prog 25 #[.slice (some ad) 0 c] w fun e w' => ∃ g cap, e = .returned (.slice (some ⟨g, 0, none⟩) 0 cap) ∧ w.heap.size ≤ g ∧ Own w' g cap 5 0 [] ∧ Fr (fun _ => False) w w' := by
  have hnil := fun (w : World) => run_eql_nilS (P := Try.prog) w 29 5 (some ad) 0 c 0 0 Try.underlying29
  obtain ⟨i0, hi, hz0, hz1, hz2⟩ := info_parts info5
  have hb : (0 + 0) * i0.bytes ≤ 140737488355328 := by rw [hz2]; omega
  have hm : 0 + 0 ≤ maxLen := by unfold maxLen; omega
  have HC : Hid (∀ j u, ([] : List Value)[j]? = some u → (w.alloc (.cells #[] 5)).cell? (ad.add j) = some u) := hidE (fun j u hu => by cases hu)
  have HL : Hid (([] : List Value).length = 0) := rfl
  have H1 : Hid (∀ u ∈ ([] : List Value), u.oneCell' = true) := hidE (fun u hu => by cases hu)
  go_enter Try.func25, Try.ntmps25
  go_wp2_with (at_builtin; refine wpList_append_blk rfl (.tmp 5) (.tmp 6) _ rfl Try.underlying29 hi hz0 hz1 rfl rfl (Own.empty w 5) rfl HL.out HC.out H1.out hm hb ?_; intro g' cap' w' hown hg hfr)
  go_ret
  exact clone_end hown hg hfr

/-- What came in: nil; empty; bytes in memory. -/
def Raw (w : World) (A : Option Addr) (n c : Nat) (f : Nat → B8) : Prop := (A = none ∧ n = 0 ∧ c = 0) ∨ (n = 0 ∧ ∃ x, A = some x) ∨ (∃ b o, A = some ⟨b, o, none⟩ ∧ By w b o n f)
theorem Raw.below {w w' : World} {A : Option Addr} {n c : Nat} {f : Nat → B8} (h : Raw w A n c f) (hf : Below w.heap.size w w') : Raw w' A n c f :=
  h.imp id (·.imp id fun ⟨b, o, h1, h2⟩ => ⟨b, o, h1, h2.below hf⟩)
theorem c25u {w : World} {A : Option Addr} {n c : Nat} {f : Nat → B8} (h : Raw w A n c f) (hn : n ≤ 4294967296) :
    Calls Try.prog 25 #[.slice A n c] w fun e w' => ∃ A' c', e = .returned (.slice A' n c') ∧ Sl w'.heap.size w' A' n c' f ∧ Fr (fun _ => False) w w' := by
  rcases h with ⟨rfl, rfl, rfl⟩ | ⟨rfl, x, rfl⟩ | ⟨b, o, rfl, h⟩
  · exact (clone25_nil 0 0 w).mono fun e w' ⟨h1, h2⟩ => ⟨none, 0, h1, ⟨Nat.le_refl _, by decide, .inr ⟨rfl, rfl, rfl⟩⟩, by rw [h2]; exact Fr.refl _ _⟩
  · exact (c25z x c w).mono fun e w' ⟨g, cap, h1, _, h3, h4⟩ => ⟨_, cap, h1, ⟨Nat.zero_le _, by have := h3.max; unfold maxLen at this; omega, .inl ⟨g, 0, rfl, h3.lt, h3.lt, fun k hk => absurd hk (Nat.not_lt_zero k)⟩⟩, h4⟩
  · exact (c25 h hn).mono fun e w' ⟨g, cap, h1, h2, h3, _, h5, _, h7⟩ => ⟨_, cap, h1, ⟨h2, by unfold maxLen at h3; omega, .inl ⟨g, 0, rfl, h5.1, h5⟩⟩, h7⟩

/-- The bytes of a key with r = 1, p = 1. -/
def midB (K : Nat → W) (pw : Nat → B8) (n : Nat) (sa : Nat → B8) (m N : Nat) : Nat → B8 := toB (Ys 1 N (leW (pbB K pw n sa m)) N)
def skB (K : Nat → W) (pw : Nat → B8) (n : Nat) (sa : Nat → B8) (m N : Nat) : Nat → B8 := pbB K pw n (midB K pw n sa m N) 128

theorem rowsXV (w : World) (k1 k2 : Nat) : Wd ((w.alloc (zObj k1)).alloc (zObj k2)) w.heap.size 0 k1 (fun _ => 0#32) ∧ Nf ((w.alloc (zObj k1)).alloc (zObj k2)) w.heap.size 0 k1 ∧
    Wd ((w.alloc (zObj k1)).alloc (zObj k2)) (w.heap.size + 1) 0 k2 (fun _ => 0#32) ∧ Nf ((w.alloc (zObj k1)).alloc (zObj k2)) (w.heap.size + 1) 0 k2 ∧ Fr (fun _ => False) w ((w.alloc (zObj k1)).alloc (zObj k2)) := by
  obtain ⟨a1, a2, a3⟩ := zObj_wd w k1
  obtain ⟨b1, b2, b3⟩ := zObj_wd (w.alloc (zObj k1)) k2
  have e : (w.alloc (zObj k1)).heap.size = w.heap.size + 1 := by simp
  rw [e] at b1 b2
  exact ⟨a1.same b3, a2.fr b3, b1, b2, a3.trans b3⟩

theorem Fr.belowN {w w' : World} {n : Nat} (h : Fr (fun p => n ≤ p.block) w w') (hn : n ≤ w.heap.size) : Below n w w' := by
  obtain ⟨⟨h1, h2, h3⟩, hf, hs, ht⟩ := h
  refine ⟨h1, ht, h2, hs, fun i hi => ?_⟩
  have hk := h3 i (Nat.lt_of_lt_of_le hi hn)
  revert hk
  generalize w.heap[i]? = x
  generalize w'.heap[i]? = y
  intro hk
  split at hk
  · obtain ⟨rfl, rfl, hsz, hc⟩ := hk
    congr 2
    exact Array.ext_getElem? fun j => hc j (Nat.not_le.2 hi)
  · obtain ⟨rfl, rfl⟩ := hk.resolve_left (Nat.not_le.2 hi)
    rfl
  · exact hk

set_option maxRecDepth 100000 in
set_option maxHeartbeats 4000000 in
theorem c27 {n cp m c L B N : Nat} {P A : Option Addr} {w : World} {K : Nat → W} {pw sa : Nat → B8} (hK : Wd w 0 0 64 K) (hp : Sl B w P n cp pw) (hs : Sl B w A m c sa) (hB : B ≤ w.heap.size) (hn : n ≤ 4096) (hm : m ≤ 4096) (hL1 : 1 ≤ L) (hL2 : L ≤ 4096) {kN : Nat} (hN : N = 2 ^ kN) (hk1 : 1 ≤ kN) (hk2 : kN ≤ 6) :
    Calls Try.prog 27 #[.slice P n cp, .slice A m c, .int .i64 (N : Int), .int .i64 1, .int .i64 1, .int .i64 (L : Int)] w fun e w' => ∃ g cap, e = .returned (.tuple #[.slice (some ⟨g, 0, none⟩) L cap, .nilIface]) ∧ L ≤ cap ∧ cap ≤ 9223372036854775807 ∧ w.heap.size ≤ g ∧ By w' g 0 L (skB K pw n sa m N) ∧ Below w.heap.size w w' := by
  have b0 : N ≤ 64 := by rw [hN]; exact Nat.pow_le_pow_right (n := 2) (by omega) hk2
  have b1 : 2 ≤ N := by rw [hN]; exact Nat.pow_le_pow_right (n := 2) (by omega) hk1
  have r2 := and_pred hN hk1 hk2
  obtain ⟨mm, hmm⟩ : ∃ mm, mm = N * 32 := ⟨_, rfl⟩
  have r3 : (32 : Int) * (N : Int) = (mm : Int) := by omega
  have mkV := make26 mm (by omega)
  have mkX : ∀ w : World, (Instr.makeSlice 26 (.int .i64 64) (.int .i64 64)).run Try.prog w = .ok (.slice (some ⟨w.heap.size, 0, none⟩) 64 64) (w.alloc (zObj 64)) := fun w => make26 64 (by decide) w
  have HN := hidE hN
  have HM := hidE hmm
  have HK := hidE hK
  have HP := hidE hp
  have HS := hidE hs
  clear hK hp hs hN
  have x1 : mm ≤ 2048 := by omega
  clear hmm
  go_enter Try.func27, Try.ntmps27
  go_wp2_with fail
  obtain ⟨v1, v2, v3, v4, v5⟩ := rowsXV w 64 mm
  obtain ⟨bv, hbv⟩ : ∃ g, g = w.heap.size + 1 := ⟨_, rfl⟩
  obtain ⟨bx, hbx⟩ : ∃ g, g = w.heap.size := ⟨_, rfl⟩
  obtain ⟨W2, hW2⟩ : ∃ W, W = (w.alloc (zObj 64)).alloc (zObj mm) := ⟨_, rfl⟩
  rw [← hW2] at v1 v2 v3 v4 v5
  rw [← hbx] at v1 v2
  rw [← hbv] at v3 v4
  rw [← hW2, ← hbv, ← hbx]
  have hb2 := v5.below
  have HC : Hid (Calls Try.prog 34 #[.slice P n cp, .slice A m c, .int .i64 1, .int .i64 128, .func (.func 35) #[] #[]] W2 _) := hidE (c34 (L := 128) (HK.out.same v5) (HP.out.below hb2) (HS.out.below hb2) (Nat.le_trans hB hb2.size) hn hm (show 1 ≤ 128 by decide) (by decide))
  have HB2 := hidE hb2
  have V1 := hidE v1
  have V2 := hidE v2
  have V3 := hidE v3
  have V4 := hidE v4
  have HBX := hidE hbx
  have HBV := hidE hbv
  clear v1 v2 v3 v4 v5 hb2 hW2 mkV mkX hbx hbv
  ((with_reducible refine HC.out.mono ?_); rintro e w3 ⟨g, cg, rfl, h1, h2, h3, h4, h5, h6⟩)
  have G1 := hidE h4
  have G2 := hidE h5
  have hgx : bx < g := Nat.lt_of_lt_of_le V1.out.1 h3
  have hgv : bv < g := Nat.lt_of_lt_of_le V3.out.1 h3
  have X1 := hidE (V1.out.below h6)
  have X2 := hidE (V2.out.below V1.out.1 h6)
  have Y1 := hidE (V3.out.below h6)
  have Y2 := hidE (V4.out.below V3.out.1 h6)
  have HB3 := hidE (CI.Below.then_ HB2.out h6)
  have hxv : bx ≠ bv := by have := HBX.out; have := HBV.out; omega
  clear h4 h5 h6 HC V1 V2 V3 V4 HB2
  go_wp2_with fail
  go_loopw [17] (fun v17 wr => (v17 = .int .i64 0 ∧ wr = w3) ∨ (v17 = .int .i64 1 ∧ By wr g 0 128 (midB K pw n sa m N) ∧ Below w.heap.size w wr)) (fun v17 _ => 1 - (intOf v17).toNat)
  case atStart => exact .inl ⟨rfl, rfl⟩
  case round =>
    rcases hrel with ⟨rfl, rfl⟩ | ⟨rfl, h1, h2⟩
    · go_wp2_with fail
      have HC : Hid (Calls Try.prog 32 #[.slice (some ⟨g, 0, none⟩) 128 cg, .int .i64 1, .int .i64 (N : Int), .slice (some ⟨bv, 0, none⟩) mm mm, .slice (some ⟨bx, 0, none⟩) 64 64] wr _) := hidE (c32 (r := 1) (n := 32) (N := N) (m := mm) (lb := 128) (lx := 64) (by decide) (by decide) rfl HM.out HN.out hk1 hk2 rfl h1 rfl (Nat.le_refl _) rfl (Nat.le_refl _) h2 (by omega) (by decide) G1.out G2.out X1.out X2.out Y1.out Y2.out (Nat.ne_of_gt hgx) (Nat.ne_of_gt hgv) hxv)
      ((with_reducible refine HC.out.mono ?_); rintro e w4 ⟨rfl, k1, _, _, k4⟩)
      have K1 := hidE k1
      have KB : Hid (Below w.heap.size w w4) := hidE (HB3.out.trans (CI.Fr.belowN (k4.mono fun p hp => by
        have := HBX.out
        have := HBV.out
        rcases hp with ⟨_, _, rfl⟩ | ⟨_, _, rfl⟩ | ⟨_, _, rfl⟩ <;> (simp only [MemPlace.block]; omega)) HB3.out.size))
      clear k1 k4 HC
      go_wp2_with fail
      go_roundw
      case rel => exact .inr ⟨by go_num, K1.out, KB.out⟩
      case measure => simp [intOf]
    · have G3 := hidE h1
      have HB4 := hidE h2
      have HC := hidE (c34 (B := wr.heap.size) (A := some ⟨g, 0, none⟩) (m := 128) (c := cg) (L := L) (HK.out.below h2) ((HP.out.below h2).mono (Nat.le_trans hB h2.size)) ⟨by omega, by omega, .inl ⟨g, 0, rfl, h1.1, h1⟩⟩ (Nat.le_refl _) hn (by decide) hL1 hL2)
      clear h1 h2
      go_wp2_with fail
      ((with_reducible refine HC.out.mono ?_); rintro e w5 ⟨g2, c2, rfl, k1, k2, k3, k4, k5, k6⟩)
      have K4 := hidE k4
      have K6 := hidE (CI.Below.then_ HB4.out k6)
      have k7 := Nat.le_trans HB4.out.size k3
      clear k4 k5 k6 HC
      go_wp2_with fail
      go_ret2
      exact ⟨g2, c2, rfl, k1, k2, k7, K4.out, K6.out⟩

/-! ### 1. Refused -/
theorem and_pow : ∀ q : Fin 1001, bits .and .i64 (q.val : Int) ((q.val : Int) - 1) = 0 → q.val = 0 ∨ q.val = 1 ∨ q.val = 2 ∨ q.val = 4 ∨ q.val = 8 ∨ q.val = 16 ∨ q.val = 32 ∨ q.val = 64 ∨ q.val = 128 ∨ q.val = 256 ∨ q.val = 512 := by decide +kernel
theorem and_not_pow {N : Nat} (h1 : 2 ≤ N) (h2 : N ≤ 1000) (hP : ¬ Pw N) : bits .and .i64 (N : Int) ((N : Int) - 1) ≠ 0 := fun e => by
  apply hP
  rcases and_pow ⟨N, by omega⟩ e with h | h | h | h | h | h | h | h | h | h | h <;> simp only at h
  · omega
  · omega
  · exact ⟨0, h⟩
  · exact ⟨1, h⟩
  · exact ⟨2, h⟩
  · exact ⟨3, h⟩
  · exact ⟨4, h⟩
  · exact ⟨5, h⟩
  · exact ⟨6, h⟩
  · exact ⟨7, h⟩
  · exact ⟨8, h⟩

/-- Why 'scrypt.Key' refuses. -/
inductive No (N r p : Int) : Prop
  | small : N ≤ 1 → No N r p
  | pow : 2 ≤ N → N ≤ 1000 → bits .and .i64 N (N - 1) ≠ 0 → No N r p
  | big : N = 2 → 1 ≤ r → 1 ≤ p → r ≤ 1073741824 → p ≤ 1073741824 → 1073741824 ≤ r * p → No N r p

set_option maxRecDepth 100000 in
set_option maxHeartbeats 1000000 in
theorem c27r {n cp m c : Nat} {P A : Option Addr} {w : World} {N r p L : Int} (h : No N r p) :
    Calls Try.prog 27 #[.slice P n cp, .slice A m c, .int .i64 N, .int .i64 r, .int .i64 p, .int .i64 L] w fun e w' => ∃ v, e = .returned (.tuple #[.slice none 0 0, .iface 68 v]) ∧ Fr (fun _ => False) w w' := by
  cases h with
  | small h =>
    go_enter Try.func27, Try.ntmps27
    go_wp2_with fail
    ((with_reducible refine c33.mono ?_); rintro e w1 ⟨v, rfl, f1⟩)
    go_wp2_with fail
    go_ret2
    exact ⟨v, rfl, f1⟩
  | pow h1 h2 h3 =>
    have g1 : ¬ N ≤ 1 := by omega
    obtain ⟨x, hx⟩ : ∃ x, x = bits .and .i64 N (N - 1) := ⟨_, rfl⟩
    rw [← hx] at h3
    have hx2 := hx.symm
    clear hx
    go_enter Try.func27, Try.ntmps27
    go_wp2_with fail
    ((with_reducible refine c33.mono ?_); rintro e w1 ⟨v, rfl, f1⟩)
    go_wp2_with fail
    go_ret2
    exact ⟨v, rfl, f1⟩
  | big h1 h2 h3 h4 h5 h6 =>
    subst h1
    have g0 : bits .and .i64 2 1 = 0 := by decide
    have g1 : ¬ r ≤ 0 := by omega
    have g2 : ¬ p ≤ 0 := by omega
    have h7 : r * p ≤ 1073741824 * 1073741824 := Int.mul_le_mul h4 h5 (by omega) (by omega)
    obtain ⟨q, hq⟩ : ∃ q, r * p = q := ⟨_, rfl⟩
    rw [hq] at h6 h7
    have h8 : q ≤ 18446744073709551615 := by omega
    go_enter Try.func27, Try.ntmps27
    go_wp2_with fail
    ((with_reducible refine c33.mono ?_); rintro e w1 ⟨v, rfl, f1⟩)
    go_wp2_with fail
    go_ret2
    exact ⟨v, rfl, f1⟩

/-! ### 2. impl.Key -/
theorem neq_err (v : Value) (w : World) : (binOp .neq 49 (.iface 68 v) .nilIface).run Try.prog w = .ok (.bool true) w := by kernel_rfl

set_option maxRecDepth 100000 in
set_option maxHeartbeats 1000000 in
theorem c19 {n cp m c L N : Nat} {P A : Option Addr} {w : World} {K : Nat → W} {pw sa : Nat → B8} (hK : Wd w 0 0 64 K) (hp : Raw w P n cp pw) (hs : Raw w A m c sa) (hn : n ≤ 4096) (hm : m ≤ 4096) (hL1 : 1 ≤ L) (hL2 : L ≤ 4096) {kN : Nat} (hN : N = 2 ^ kN) (hk1 : 1 ≤ kN) (hk2 : kN ≤ 6) :
    Calls Try.prog 19 #[.slice P n cp, .slice A m c, .int .i64 (N : Int), .int .i64 1, .int .i64 1, .int .i64 (L : Int)] w fun e w' => ∃ g cap, e = .returned (.tuple #[.slice (some ⟨g, 0, none⟩) L cap, .bool true]) ∧ L ≤ cap ∧ cap ≤ 9223372036854775807 ∧ w.heap.size ≤ g ∧ By w' g 0 L (skB K pw n sa m N) ∧ Below w.heap.size w w' := by
  have g1 : ¬ (L : Int) < 1 := by omega
  have HK := hidE hK
  have HS := hidE hs
  have HC := hidE (c25u hp (by omega))
  have HN := hidE hN
  have hq := neq_nil
  clear hK hp hs hN
  go_enter Try.func19, Try.ntmps19
  go_wp2_with fail
  ((with_reducible refine HC.out.mono ?_); rintro e w1 ⟨P1, c1, rfl, h1, f1⟩)
  have HP1 := hidE h1
  have HB1 := hidE f1.below
  have HC1 := hidE (c25u (HS.out.below f1.below) (by omega))
  clear h1 f1 HC
  go_wp2_with fail
  ((with_reducible refine HC1.out.mono ?_); rintro e w2 ⟨A1, c2, rfl, h1, f1⟩)
  have HB2 := hidE (CI.Below.then_ HB1.out f1.below)
  have HC2 := hidE (c27 (B := w2.heap.size) (L := L) (HK.out.below HB2.out) ((HP1.out.below f1.below).mono f1.size) h1 (Nat.le_refl _) hn hm hL1 hL2 HN.out hk1 hk2)
  clear h1 f1 HC1
  go_wp2_with fail
  ((with_reducible refine HC2.out.mono ?_); rintro e w3 ⟨g, cap, rfl, k1, k2, k3, k4, k5⟩)
  have K4 := hidE k4
  have K5 := hidE (CI.Below.then_ HB2.out k5)
  have k6 := Nat.le_trans HB2.out.size k3
  clear k4 k5 HC2
  go_wp2_with fail
  go_ret2
  exact ⟨g, cap, rfl, k1, k2, k6, K4.out, K5.out⟩

set_option maxRecDepth 100000 in
set_option maxHeartbeats 1000000 in
theorem c19r {n cp m c : Nat} {P A : Option Addr} {w : World} {pw sa : Nat → B8} {N r p L : Int} (hp : Raw w P n cp pw) (hs : Raw w A m c sa) (hn : n ≤ 4096) (hm : m ≤ 4096) (hL : 1 ≤ L) (h : No N r p) :
    Calls Try.prog 19 #[.slice P n cp, .slice A m c, .int .i64 N, .int .i64 r, .int .i64 p, .int .i64 L] w fun e w' => e = .returned (.tuple #[.slice none 0 0, .bool false]) ∧ Below w.heap.size w w' := by
  have g1 : ¬ L < 1 := by omega
  have HS := hidE hs
  have HC := hidE (c25u hp (by omega))
  have HH := hidE h
  have hq := neq_err
  clear hp hs h
  go_enter Try.func19, Try.ntmps19
  go_wp2_with fail
  ((with_reducible refine HC.out.mono ?_); rintro e w1 ⟨P1, c1, rfl, h1, f1⟩)
  have HB1 := hidE f1.below
  have HC1 := hidE (c25u (HS.out.below f1.below) (by omega))
  clear h1 f1 HC
  go_wp2_with fail
  ((with_reducible refine HC1.out.mono ?_); rintro e w2 ⟨A1, c2, rfl, h1, f1⟩)
  have HB2 := hidE (CI.Below.then_ HB1.out f1.below)
  clear h1 f1 HC1
  go_wp2_with fail
  ((with_reducible refine (c27r HH.out).mono ?_); rintro e w3 ⟨v, rfl, f1⟩)
  have K5 := hidE (CI.Below.then_ HB2.out f1.below)
  clear f1
  go_wp2_with fail
  go_ret2
  exact ⟨rfl, K5.out⟩
end CI
end Go.Proofs.Yteooohmlmefbnaa
