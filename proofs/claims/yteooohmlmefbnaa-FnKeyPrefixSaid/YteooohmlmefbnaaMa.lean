/-
  The reference's 'spec.ROMix': the states of its loops.
  Conditions: none.
-/
import Derived.Test.YteooohmlmefbnaaLh
namespace Go.Proofs.Yteooohmlmefbnaa
namespace CI
open Go
open Go.RowKit

/-! ### 1. Numbers -/
theorem u32_sh_or (x : W) (b : B8) (s : Nat) : bits .or .u32 (x.toNat : Int) ((b.toNat : Int) * 2 ^ s % 4294967296) = ((x ||| b.setWidth 32 <<< s).toNat : Int) := by
  have hb := b.isLt
  have hx := x.isLt
  have e : ((b.toNat : Int) * 2 ^ s % 4294967296) = ((b.toNat * 2 ^ s % 4294967296 : Nat) : Int) := by
    rw [Int.natCast_emod, Int.natCast_mul, Int.natCast_pow]; rfl
  rw [e, u32_or_nat x.toNat _ hx (Nat.mod_lt _ (by omega))]
  congr 1
  rw [BitVec.toNat_or, BitVec.toNat_shiftLeft, BitVec.toNat_setWidth, Nat.mod_eq_of_lt (show b.toNat < 2 ^ 32 by omega), Nat.shiftLeft_eq]

theorem u32_xor_bv (x y : W) : bits .xor .u32 (x.toNat : Int) (y.toNat : Int) = ((x ^^^ y).toNat : Int) := by
  rw [u32_xor_nat _ _ x.isLt y.isLt, BitVec.toNat_xor]

theorem integ_mod (a b : W) {k N : Nat} (hN : N = 2 ^ k) (hk : k ≤ 6) : (integ a b).toNat % N = a.toNat % N := by
  have ha := a.isLt
  have hb := b.isLt
  have e : (integ a b).toNat = a.toNat + 2 ^ 32 * b.toNat := by
    unfold integ
    rw [BitVec.toNat_or, BitVec.toNat_shiftLeft, BitVec.toNat_setWidth, BitVec.toNat_setWidth, Nat.mod_eq_of_lt (show a.toNat < 2 ^ 64 by omega), Nat.mod_eq_of_lt (show b.toNat < 2 ^ 64 by omega), Nat.shiftLeft_eq,
      Nat.mod_eq_of_lt (show b.toNat * 2 ^ 32 < 2 ^ 64 by omega), Nat.or_comm, Nat.mul_comm, ← Nat.two_pow_add_eq_or_of_lt ha, Nat.add_comm]
  rw [e]
  obtain ⟨c, hc⟩ : N ∣ 2 ^ 32 := by rw [hN]; exact Nat.pow_dvd_pow 2 (by omega)
  rw [hc, Nat.mul_assoc, Nat.add_mul_mod_self_left]

/-- The words, byte by byte. -/
def acc (B : Nat → B8) : Nat → Nat → W
  | 0 => fun _ => 0#32
  | i + 1 => fun k => if k = i / 4 then acc B i k ||| (B i).setWidth 32 <<< (8 * (i % 4)) else acc B i k

theorem acc_leW (B : Nat → B8) : ∀ m k, acc B (4 * m) k = if k < m then leW B k else 0#32
  | 0, k => by simp [acc]
  | m + 1, k => by
    have h := acc_leW B m k
    rw [show 4 * (m + 1) = 4 * m + 1 + 1 + 1 + 1 by omega]
    simp only [acc, show (4 * m + 1 + 1 + 1) / 4 = m by omega, show (4 * m + 1 + 1) / 4 = m by omega, show (4 * m + 1) / 4 = m by omega, show 4 * m / 4 = m by omega,
      show (4 * m + 1 + 1 + 1) % 4 = 3 by omega, show (4 * m + 1 + 1) % 4 = 2 by omega, show (4 * m + 1) % 4 = 1 by omega, show 4 * m % 4 = 0 by omega, h]
    by_cases e : k = m
    · subst e
      simp [leW, le4]
    · simp only [if_neg e]
      by_cases e2 : k < m
      · rw [if_pos e2, if_pos (by omega)]
      · rw [if_neg e2, if_neg (by omega)]

/-! ### 2. The first loop -/
structure R1 (W1 : World) (bb ob lb gx n : Nat) (B : Nat → B8) (i : Nat) (w : World) : Prop where
  b : By w bb ob lb B
  x : Wd w gx 0 n (acc B i)
  fr : Fr (inR gx 0 n) W1 w

theorem R1.next {W1 w : World} {bb ob lb gx n : Nat} {B : Nat → B8} {i : Nat} (h : R1 W1 bb ob lb gx n B i w) (d : bb ≠ gx) (hi : i / 4 < n) {v : Int} (hv : v = ((acc B i (i / 4) ||| (B i).setWidth 32 <<< (8 * (i % 4))).toNat : Int)) :
    R1 W1 bb ob lb gx n B (i + 1) (w.setCell ⟨gx, i / 4, none⟩ (.int .u32 v)).drew := by
  subst hv
  have hs : Fr (inR gx (0 + i / 4) 1) w (w.setCell ⟨gx, 0 + i / 4, none⟩ (.int .u32 ((acc B i (i / 4) ||| (B i).setWidth 32 <<< (8 * (i % 4))).toNat : Int))) := Fr.set1 _
  have hx := h.x.set1 hi (acc B i (i / 4) ||| (B i).setWidth 32 <<< (8 * (i % 4)))
  rw [Nat.zero_add] at hs hx
  have hd := Fr.drew (fun _ => False) (w.setCell ⟨gx, i / 4, none⟩ (.int .u32 ((acc B i (i / 4) ||| (B i).setWidth 32 <<< (8 * (i % 4))).toNat : Int)))
  refine ⟨(h.b.fr hs fun k _ => not_inR (.inl d)).same hd, (hx.congr fun k _ => ?_).same hd, (h.fr.trans (hs.mono fun p hp => hp.mono (by omega) (by omega))).trans (hd.mono fun _ f => f.elim)⟩
  simp only [acc]
  by_cases e : k = i / 4
  · subst e; simp
  · rw [if_neg e, if_neg e]

/-! ### 3. The copies -/
theorem info26 : (Try.prog.info? 26).map (fun i => (i.zero, i.size, i.bytes)) = some (some (.slice none 0 0), 1, 24) := by kernel_rfl

theorem Own.fr {w w' : World} {g cap n : Nat} {e : TypeId} {xs : List Value} (h : Own w g cap e n xs) {may : MemPlace → Prop} (hf : Fr may w w') (hm : ∀ o, ¬ may (.cell g o)) : Own w' g cap e n xs := by
  obtain ⟨cur, h1, h2, h3⟩ := h.ex
  refine ⟨⟨cur, ?_, h2, h3⟩, h.len, h.le, h.max⟩
  have hk := hf.kept.2.2 g (Array.getElem?_eq_some_iff.1 h1).1
  rw [h1] at hk
  cases e : w'.heap[g]? with
  | none => rw [e] at hk; cases hk
  | some ob =>
    rw [e] at hk
    cases ob with
    | cells c t fr =>
      obtain ⟨rfl, rfl, _, hc⟩ := hk
      rw [show c = cur from Array.ext_getElem? fun j => hc j (hm j)]
    | _ => cases hk

def slV (g n c : Nat) : Value := .slice (some ⟨g, 0, none⟩) n c

structure R2 (W0 : World) (n r : Nat) (X : Nat → W) (gv cv gx cx i : Nat) (w : World) : Prop where
  own : ∃ xs, Own w gv cv 26 i xs ∧ ∀ j, j < i → ∃ g c, xs[j]? = some (slV g n c) ∧ n ≤ c ∧ g ≠ gv ∧ Wd w g 0 n (Xs r X j)
  x : Wd w gx 0 n (Xs r X i)
  cx : n ≤ cx
  ne : gx ≠ gv
  fr : Fr (fun _ => False) W0 w
  new : W0.heap.size ≤ gv

theorem R2.next {W0 w w1 w2 : World} {n r : Nat} {X : Nat → W} {gv cv gx cx i g' cap' q cap2 : Nat} {xs : List Value} {o : Obj} (h : R2 W0 n r X gv cv gx cx i w)
    (hxs : ∀ j, j < i → ∃ g c, xs[j]? = some (slV g n c) ∧ n ≤ c ∧ g ≠ gv ∧ Wd w g 0 n (Xs r X j)) (hlen : xs.length = i) (ho : ∃ c t, o = .cells c t)
    (hown : Own w1 g' cap' 26 (i + 1) (xs ++ [slV gx n cx])) (hg : g' = gv ∧ cap' = cv ∨ g' = (w.alloc o).heap.size) (hf : Fr (fun p => g' = gv ∧ p.block = gv) (w.alloc o) w1)
    (hq : w1.heap.size ≤ q) (hx : Wd w2 q 0 n (bm r (Xs r X i))) (hc2 : n ≤ cap2) (hf2 : Fr (fun _ => False) w1 w2) : R2 W0 n r X g' cap' q cap2 (i + 1) w2 := by
  obtain ⟨oc, ot, rfl⟩ := ho
  have hs : (w.alloc (.cells oc ot)).heap.size = w.heap.size + 1 := by simp
  have hlt := hown.lt
  have hgv : gv < w.heap.size := by obtain ⟨xs', h1, _⟩ := h.own; exact h1.lt
  have ha : Fr (fun _ => False) w (w.alloc (.cells oc ot)) := Fr.alloc _ _ _ _
  have keep : ∀ {g : Nat} {f : Nat → W}, g ≠ gv → Wd w g 0 n f → Wd w2 g 0 n f ∧ g ≠ g' := fun {g f} hne hw => by
    refine ⟨((hw.same ha).fr hf fun k _ hm => hne hm.2).same hf2, ?_⟩
    rcases hg with ⟨rfl, _⟩ | rfl
    · exact hne
    · have := hw.1; omega
  have hnew : W0.heap.size ≤ g' := by
    rcases hg with ⟨rfl, _⟩ | rfl
    · exact h.new
    · have := h.fr.size; omega
  refine ⟨⟨_, hown.fr hf2 (fun _ f => f), fun j hj => ?_⟩, hx, hc2, by omega, ((h.fr.trans ha).trans' hf).trans' hf2 |>.strong fun p hp hm => ?_, hnew⟩
  · by_cases e : j = i
    · subst e
      obtain ⟨k1, k2⟩ := keep h.ne h.x
      exact ⟨gx, cx, by rw [List.getElem?_append_right (by omega), hlen, Nat.sub_self]; rfl, h.cx, k2, k1⟩
    · obtain ⟨g, c, k1, k2, k3, k4⟩ := hxs j (by omega)
      obtain ⟨m1, m2⟩ := keep k3 k4
      exact ⟨g, c, by rw [List.getElem?_append_left (by omega)]; exact k1, k2, m2, m1⟩
  · rcases hm with (hm | hm) | hm
    · exact hm
    · have := h.new; omega
    · exact hm

theorem new_one (w : World) (v : Value) (t : TypeId) : ∀ j u, [v][j]? = some u → (w.alloc (.cells #[v] t)).cell? ((⟨w.heap.size, 0, none⟩ : Addr).add j) = some u := fun j u hu => by
  have hj : j = 0 := by have := (List.getElem?_eq_some_iff.1 hu).1; simp at this; omega
  subst hj
  cases hu
  rw [addr_add, World.cell?_alloc_new]
  rfl

/-! ### 4. The second pass -/
structure R3 (W0 : World) (n r N : Nat) (X : Nat → W) (gv gx cx i : Nat) (w : World) : Prop where
  v : gv < w.heap.size ∧ ∀ j, j < N → ∃ g c, w.cell? ⟨gv, j, none⟩ = some (slV g n c) ∧ n ≤ c ∧ Wd w g 0 n (Xs r X j)
  x : Wd w gx 0 n (Ys r N X i)
  cx : n ≤ cx
  fr : Fr (fun _ => False) W0 w

theorem R2.r3 {W0 w : World} {n r N : Nat} {X : Nat → W} {gv cv gx cx : Nat} (h : R2 W0 n r X gv cv gx cx N w) : R3 W0 n r N X gv gx cx 0 w := by
  obtain ⟨xs, h1, h2⟩ := h.own
  refine ⟨⟨h1.lt, fun j hj => ?_⟩, h.x, h.cx, h.fr⟩
  obtain ⟨g, c, k1, k2, _, k4⟩ := h2 j hj
  have := h1.cell k1
  rw [Nat.zero_add] at this
  exact ⟨g, c, this, k2, k4⟩

/-- Within the second pass: the words mixed so far. -/
structure R4 (W1 : World) (gy n : Nat) (X V : Nat → W) (k : Nat) (w : World) : Prop where
  y : Wd w gy 0 n (fun t => if t < k then X t ^^^ V t else 0#32)
  fr : Fr (inR gy 0 n) W1 w

theorem R4.next {W1 w : World} {gy n : Nat} {X V : Nat → W} {k : Nat} (h : R4 W1 gy n X V k w) (hk : k < n) {v : Int} (hv : v = ((X k ^^^ V k).toNat : Int)) : R4 W1 gy n X V (k + 1) (w.setCell ⟨gy, k, none⟩ (.int .u32 v)).drew := by
  subst hv
  have hs : Fr (inR gy (0 + k) 1) w (w.setCell ⟨gy, 0 + k, none⟩ (.int .u32 ((X k ^^^ V k).toNat : Int))) := Fr.set1 _
  have hx := h.y.set1 hk (X k ^^^ V k)
  rw [Nat.zero_add] at hs hx
  have hd := Fr.drew (fun _ => False) (w.setCell ⟨gy, k, none⟩ (.int .u32 ((X k ^^^ V k).toNat : Int)))
  refine ⟨(hx.congr fun t _ => ?_).same hd, (h.fr.trans (hs.mono fun p hp => hp.mono (by omega) (by omega))).trans (hd.mono fun _ f => f.elim)⟩
  by_cases e : t = k
  · subst e; rw [if_pos rfl, if_pos (by omega)]
  · rw [if_neg e]
    by_cases e2 : t < k
    · rw [if_pos e2, if_pos (by omega)]
    · rw [if_neg e2, if_neg (by omega)]
theorem R3.next {W0 w w' : World} {n r N : Nat} {X : Nat → W} {gv gx cx i q cap : Nat} (h : R3 W0 n r N X gv gx cx i w) (hf : Fr (fun _ => False) w w') (hx : Wd w' q 0 n (Ys r N X (i + 1))) (hc : n ≤ cap) : R3 W0 n r N X gv q cap (i + 1) w' := by
  refine ⟨⟨Nat.lt_of_lt_of_le h.v.1 hf.size, fun j hj => ?_⟩, hx, hc, h.fr.trans hf⟩
  obtain ⟨g, c, k1, k2, k3⟩ := h.v.2 j hj
  exact ⟨g, c, hf.cell h.v.1 (fun f => f) k1, k2, k3.same hf⟩

theorem Ys_spec {r n N i d u j : Nat} {X : Nat → W} {kN : Nat} (hn : n = 32 * r) (hN : N = 2 ^ kN) (hk : kN ≤ 6) (hd : d = n - 16) (hu : u = (Ys r N X i d).toNat) (hj : j = u % N) :
    bm r (fun t => if t < n then Ys r N X i t ^^^ Xs r X j t else 0#32) = Ys r N X (i + 1) := by
  have e : j = jOf r N (Ys r N X i) := by
    subst hn hd hu hj
    exact (integ_mod _ _ hN hk).symm
  rw [e]
  subst hn
  exact bm_congr fun k hk => by rw [if_pos hk]

/-! ### 5. The bytes -/
def zObjB (n : Nat) : Obj := .cells (madeCells #[.int .u8 0] n) 5
theorem zObjB_by (w : World) (n : Nat) : By (w.alloc (zObjB n)) w.heap.size 0 n (fun _ => 0#8) ∧ Nf (w.alloc (zObjB n)) w.heap.size 0 n ∧ Fr (fun _ => False) w (w.alloc (zObjB n)) := by
  refine ⟨⟨by simp, fun k hk => ?_⟩, fun k hk => World.frozen?_alloc_new _ _ _ _, Fr.alloc _ _ _ _⟩
  unfold zObjB
  rw [World.cell?_alloc_new, Nat.zero_add]
  simp [madeCells, hk, Nat.mod_one]
theorem make29 (n : Nat) (hn : n ≤ 281474976710656) (w : World) : (Instr.makeSlice 29 (.int .i64 (n : Int)) (.int .i64 (n : Int))).run Try.prog w = .ok (.slice (some ⟨w.heap.size, 0, none⟩) n n) (w.alloc (zObjB n)) := by
  obtain ⟨i0, hi, hz0, hz1, hz2⟩ := info_parts info5
  have := run_make (P := Try.prog) w 29 5 i0 _ Try.underlying29 hi hz0 .i64 .i64 (n : Int) (n : Int) (by omega) (by omega) (by rw [hz2]; omega) (by omega)
  rw [hz1] at this
  simpa [zObjB, Value.cells] using this

theorem toB_val (X : Nat → W) (i : Nat) : ((X (i / 4)).toNat : Int) / 2 ^ (8 * (i % 4)) % 256 = ((toB X i).toNat : Int) := by
  unfold toB bt
  rw [BitVec.toNat_setWidth, BitVec.toNat_ushiftRight, Nat.shiftRight_eq_div_pow, Int.natCast_emod, Int.natCast_ediv, Int.natCast_pow]
  rfl

structure R5 (W3 : World) (go lb : Nat) (X : Nat → W) (i : Nat) (w : World) : Prop where
  b : By w go 0 lb (fun q => if q < i then toB X q else 0#8)
  fr : Fr (inR go 0 lb) W3 w
theorem R5.next {W3 w : World} {go lb : Nat} {X : Nat → W} {i : Nat} (h : R5 W3 go lb X i w) (hi : i < lb) {v : Int} (hv : v = ((toB X i).toNat : Int)) : R5 W3 go lb X (i + 1) (w.setCell ⟨go, i, none⟩ (.int .u8 v)) := by
  subst hv
  have hs : Fr (inR go (0 + i) 1) w (w.setCell ⟨go, 0 + i, none⟩ (.int .u8 ((toB X i).toNat : Int))) := Fr.set1 _
  have hx := h.b.set1 hi (toB X i)
  rw [Nat.zero_add] at hs hx
  refine ⟨hx.congr fun t _ => ?_, h.fr.trans (hs.mono fun p hp => hp.mono (by omega) (by omega))⟩
  by_cases e : t = i
  · subst e; rw [if_pos rfl, if_pos (by omega)]
  · rw [if_neg e]
    by_cases e2 : t < i
    · rw [if_pos e2, if_pos (by omega)]
    · rw [if_neg e2, if_neg (by omega)]
end CI
end Go.Proofs.Yteooohmlmefbnaa
