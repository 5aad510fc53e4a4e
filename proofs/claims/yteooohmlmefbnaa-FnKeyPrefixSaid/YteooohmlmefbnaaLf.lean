/-
  What each call within 'smix' does to its state.
  Conditions: none.
-/
import Derived.Test.YteooohmlmefbnaaLd
namespace Go.Proofs.Yteooohmlmefbnaa
namespace CI
open Go

section
variable {may : MemPlace → Prop} {W w : World} {bx ox bv ov bt n m r : Nat} {X Y h : Nat → CI.W}

theorem stA (h1 : 1 ≤ r) (h2 : r ≤ 8) (hn : n = 32 * r) (P : Pl may W bx ox bv ov bt n m) (hs : Sm may W bx ox bv ov bt n m X Y h w) {p ld cd lx cx : Nat} (hp : p + n ≤ m) (hld : n ≤ ld) (hcd : ld ≤ cd) (hlx : n ≤ lx) (hcx : lx ≤ cx) :
    Calls Try.prog 39 #[.slice (some ⟨bv, ov + p, none⟩) ld cd, .slice (some ⟨bx, ox, none⟩) lx cx, .int .i64 (n : Int)] w fun e w' => e = .returned (.tuple #[]) ∧ Sm may W bx ox bv ov bt n m X Y (put h p n X) w' :=
  (c39' h1 h2 hn hld hcd hlx hcx (hs.v.sub hp) ((P.nv.sub hp).fr hs.fr) hs.x (.inl (Ne.symm P.xv))).mono fun _ _ ⟨e1, e2, e3⟩ => ⟨e1, hs.copy P hp e2 e3⟩
theorem stA' (h1 : 1 ≤ r) (h2 : r ≤ 8) (hn : n = 32 * r) (P : Pl may W bx ox bv ov bt n m) (hs : Sm may W bx ox bv ov bt n m X Y h w) {p ld cd lx cx : Nat} (hp : p + n ≤ m) (hld : n ≤ ld) (hcd : ld ≤ cd) (hlx : n ≤ lx) (hcx : lx ≤ cx) :
    Calls Try.prog 39 #[.slice (some ⟨bv, ov + p, none⟩) ld cd, .slice (some ⟨bx, ox + n, none⟩) lx cx, .int .i64 (n : Int)] w fun e w' => e = .returned (.tuple #[]) ∧ Sm may W bx ox bv ov bt n m X Y (put h p n Y) w' :=
  (c39' h1 h2 hn hld hcd hlx hcx (hs.v.sub hp) ((P.nv.sub hp).fr hs.fr) hs.y (.inl (Ne.symm P.xv))).mono fun _ _ ⟨e1, e2, e3⟩ => ⟨e1, hs.copy P hp e2 e3⟩

theorem stM (h1 : 1 ≤ r) (h2 : r ≤ 8) (hn : n = 32 * r) (P : Pl may W bx ox bv ov bt n m) (hs : Sm may W bx ox bv ov bt n m X Y h w) {lx cx ly cy : Nat} (hlx : lx = 2 * n) (hcx : lx ≤ cx) (hly : ly = n) (hcy : ly ≤ cy) :
    Calls Try.prog 31 #[.pointer (some ⟨bt, 0, none⟩), .slice (some ⟨bx, ox, none⟩) lx cx, .slice (some ⟨bx, ox + n, none⟩) ly cy, .int .i64 (r : Int)] w fun e w' => e = .returned (.tuple #[]) ∧ Sm may W bx ox bv ov bt n m X (bm r X) h w' := by
  obtain ⟨t, ht⟩ := hs.t
  exact (c31x' h1 h2 hn (by omega) hcx hly hcy ht (P.nt.fr hs.fr) hs.x hs.y ((P.nx.sub (p := n) (n := n) (by omega)).fr hs.fr) (.inl P.tx) (.inl P.tx) (.inr (.inl (by omega)))).mono fun _ _ ⟨e1, e2, e3, e4⟩ => ⟨e1, hs.toY P e2 e3 e4⟩
theorem stM' (h1 : 1 ≤ r) (h2 : r ≤ 8) (hn : n = 32 * r) (P : Pl may W bx ox bv ov bt n m) (hs : Sm may W bx ox bv ov bt n m X Y h w) {lx cx ly cy : Nat} (hlx : lx = 2 * n) (hcx : lx ≤ cx) (hly : ly = n) (hcy : ly ≤ cy) :
    Calls Try.prog 31 #[.pointer (some ⟨bt, 0, none⟩), .slice (some ⟨bx, ox + n, none⟩) ly cy, .slice (some ⟨bx, ox, none⟩) lx cx, .int .i64 (r : Int)] w fun e w' => e = .returned (.tuple #[]) ∧ Sm may W bx ox bv ov bt n m (bm r Y) Y h w' := by
  obtain ⟨t, ht⟩ := hs.t
  exact (c31y' h1 h2 hn (by omega) hcx hly hcy ht (P.nt.fr hs.fr) hs.y hs.x ((P.nx.sub (p := 0) (n := n) (by omega)).fr hs.fr) (.inl P.tx) (.inl P.tx) (.inr (.inr (by omega)))).mono fun _ _ ⟨e1, e2, e3, e4⟩ => ⟨e1, hs.toX P e2 e3 e4⟩

theorem stX (h1 : 1 ≤ r) (h2 : r ≤ 8) (hn : n = 32 * r) (P : Pl may W bx ox bv ov bt n m) (hs : Sm may W bx ox bv ov bt n m X Y h w) {p ld cd lx cx : Nat} (hp : p + n ≤ m) (hld : n ≤ ld) (hcd : ld ≤ cd) (hlx : n ≤ lx) (hcx : lx ≤ cx) :
    Calls Try.prog 42 #[.slice (some ⟨bx, ox, none⟩) lx cx, .slice (some ⟨bv, ov + p, none⟩) ld cd, .int .i64 (n : Int)] w fun e w' => e = .returned (.tuple #[]) ∧ Sm may W bx ox bv ov bt n m (fun k => X k ^^^ h (p + k)) Y h w' :=
  (c42' h1 h2 hn hlx hcx hld hcd hs.x ((P.nx.sub (p := 0) (n := n) (by omega)).fr hs.fr) (hs.v.sub hp) (.inl P.xv)).mono fun _ _ ⟨e1, e2, e3⟩ => ⟨e1, hs.xorX P e2 e3⟩
theorem stX' (h1 : 1 ≤ r) (h2 : r ≤ 8) (hn : n = 32 * r) (P : Pl may W bx ox bv ov bt n m) (hs : Sm may W bx ox bv ov bt n m X Y h w) {p ld cd lx cx : Nat} (hp : p + n ≤ m) (hld : n ≤ ld) (hcd : ld ≤ cd) (hlx : n ≤ lx) (hcx : lx ≤ cx) :
    Calls Try.prog 42 #[.slice (some ⟨bx, ox + n, none⟩) lx cx, .slice (some ⟨bv, ov + p, none⟩) ld cd, .int .i64 (n : Int)] w fun e w' => e = .returned (.tuple #[]) ∧ Sm may W bx ox bv ov bt n m X (fun k => Y k ^^^ h (p + k)) h w' :=
  (c42' h1 h2 hn hlx hcx hld hcd hs.y ((P.nx.sub (p := n) (n := n) (by omega)).fr hs.fr) (hs.v.sub hp) (.inl P.xv)).mono fun _ _ ⟨e1, e2, e3⟩ => ⟨e1, hs.xorY P e2 e3⟩

theorem stI (h1 : 1 ≤ r) (h2 : r ≤ 8) (hn : n = 32 * r) (hs : Sm may W bx ox bv ov bt n m X Y h w) {lx cx : Nat} (hlx : n ≤ lx) (hcx : lx ≤ cx) :
    Calls Try.prog 41 #[.slice (some ⟨bx, ox, none⟩) lx cx, .int .i64 (r : Int)] w fun e w' => ∃ q, q = (integ (X (n - 16)) (X (n - 15))).toNat ∧ e = .returned (.int .u64 (q : Int)) ∧ Sm may W bx ox bv ov bt n m X Y h w' :=
  (c41' h1 h2 hn hlx hcx hs.x).mono fun _ _ ⟨e1, e2⟩ => ⟨_, rfl, e1, hs.same e2⟩
theorem stI' (h1 : 1 ≤ r) (h2 : r ≤ 8) (hn : n = 32 * r) (hs : Sm may W bx ox bv ov bt n m X Y h w) {lx cx : Nat} (hlx : n ≤ lx) (hcx : lx ≤ cx) :
    Calls Try.prog 41 #[.slice (some ⟨bx, ox + n, none⟩) lx cx, .int .i64 (r : Int)] w fun e w' => ∃ q, q = (integ (Y (n - 16)) (Y (n - 15))).toNat ∧ e = .returned (.int .u64 (q : Int)) ∧ Sm may W bx ox bv ov bt n m X Y h w' :=
  (c41' h1 h2 hn hlx hcx hs.y).mono fun _ _ ⟨e1, e2⟩ => ⟨_, rfl, e1, hs.same e2⟩
end

/-! ### The copies and the passes -/
/-- The words that bytes spell, the lowest first. -/
def leW (B : Nat → B8) (k : Nat) : W := le4 (B (4 * k)) (B (4 * k + 1)) (B (4 * k + 2)) (B (4 * k + 3))
/-- The bytes of words. -/
def toB (X : Nat → W) (q : Nat) : B8 := bt (X (q / 4)) (q % 4)
/-- The copies. -/
def Xs (r : Nat) (X : Nat → W) : Nat → Nat → W
  | 0 => X
  | i + 1 => bm r (Xs r X i)
/-- Which copy is taken. -/
def jOf (r N : Nat) (Y : Nat → W) : Nat := (integ (Y (32 * r - 16)) (Y (32 * r - 15))).toNat % N
/-- The second pass. -/
def Ys (r N : Nat) (X : Nat → W) : Nat → Nat → W
  | 0 => Xs r X N
  | i + 1 => bm r fun k => Ys r N X i k ^^^ Xs r X (jOf r N (Ys r N X i)) k

/-- Are the first i copies laid? -/
def Laid (r n : Nat) (X : Nat → W) (h : Nat → W) (i : Nat) : Prop := ∀ j, j < i → ∀ k, k < n → h (j * n + k) = Xs r X j k

theorem Laid.next {r n : Nat} {X h : Nat → W} {i p : Nat} (hl : Laid r n X h i) (hp : p = i * n) {Z : Nat → W} (hz : ∀ k, k < n → Z k = Xs r X i k) : Laid r n X (put h p n Z) (i + 1) := by
  subst hp
  intro j hj k hk
  by_cases e : j = i
  · subst e
    simp only [put]
    rw [if_pos (by omega), show j * n + k - j * n = k by omega, hz k hk]
  · have h3 : j * n + n ≤ i * n := by
      have := Nat.mul_le_mul_right n (show j + 1 ≤ i by omega)
      rwa [Nat.succ_mul] at this
    simp only [put]
    rw [if_neg (by omega)]
    exact hl j (by omega) k hk

theorem bits_mod {k q N : Nat} (hN : N = 2 ^ k) (hk : k ≤ 6) (hq : q < 18446744073709551616) : bits .and .u64 (q : Int) ((N : Int) - 1) = ((q % N : Nat) : Int) := by
  have h1 : 1 ≤ N := by rw [hN]; exact Nat.one_le_two_pow
  have h2 : N ≤ 64 := by rw [hN]; exact Nat.pow_le_pow_right (by omega) hk
  have e : ((N : Int) - 1) = ((N - 1 : Nat) : Int) := by omega
  rw [e, u64_and_nat q (N - 1) hq (by omega), hN, Nat.and_two_pow_sub_one_eq_mod]

/-- One step of the second pass: x, mixed with the copy that its own words choose. -/
theorem Ys_step {r n N i p q : Nat} {X h : Nat → W} (hn : n = 32 * r) (hN : 0 < N) (hl : Laid r n X h N) (hq : q = (integ (Ys r N X i (n - 16)) (Ys r N X i (n - 15))).toNat) (hp : p = q % N * n) : bm r (fun k => Ys r N X i k ^^^ h (p + k)) = Ys r N X (i + 1) := by
  subst hn hq hp
  exact bm_congr fun k hk => by rw [hl _ (Nat.mod_lt _ hN) k hk]; rfl

theorem jOf_lt {r N : Nat} (hN : 0 < N) (Y : Nat → W) : jOf r N Y < N := Nat.mod_lt _ hN
end CI
end Go.Proofs.Yteooohmlmefbnaa
