/-
  The state of 'smix': x and y side by side in one block, the copies in another; what each step does to it.
  Conditions: none.
-/
import Derived.Test.YteooohmlmefbnaaLc
namespace Go.Proofs.Yteooohmlmefbnaa
namespace CI
open Go

/-! ### 1. Contracts at whatever lengths -/
section
variable {w : World} {b0 o0 b1 o1 b2 o2 : Nat} {f g t : Nat → W}
theorem c31x' {r n li ci lo co : Nat} (h1 : 1 ≤ r) (h2 : r ≤ 8) (hn : n = 32 * r) (hli : li = 64 * r) (hci : li ≤ ci) (hlo : lo = n) (hco : lo ≤ co)
    (ht : Wd w b0 o0 16 t) (htf : Nf w b0 o0 16) (hx : Wd w b1 o1 n f) (hy : Wd w b2 o2 n g) (hyf : Nf w b2 o2 n) (d01 : Dis b0 o0 16 b1 o1 n) (d02 : Dis b0 o0 16 b2 o2 n) (d12 : Dis b1 o1 n b2 o2 n) :
    Calls Try.prog 31 #[.pointer (some ⟨b0, o0, none⟩), .slice (some ⟨b1, o1, none⟩) li ci, .slice (some ⟨b2, o2, none⟩) lo co, .int .i64 (r : Int)] w fun e w' =>
      e = .returned (.tuple #[]) ∧ Wd w' b2 o2 n (bm r f) ∧ (∃ t', Wd w' b0 o0 16 t') ∧ Fr (fun p => inR b0 o0 16 p ∨ inR b2 o2 n p) w w' := by
  subst hlo
  have := c31x h1 h2 hn hli (ei := ci - li) (eo := co - lo) ht htf hx hy hyf d01 d02 d12
  rwa [Nat.add_sub_cancel' hci, Nat.add_sub_cancel' hco] at this
theorem c31y' {r n li ci lo co : Nat} (h1 : 1 ≤ r) (h2 : r ≤ 8) (hn : n = 32 * r) (hlo : lo = 64 * r) (hco : lo ≤ co) (hli : li = n) (hci : li ≤ ci)
    (ht : Wd w b0 o0 16 t) (htf : Nf w b0 o0 16) (hx : Wd w b1 o1 n f) (hy : Wd w b2 o2 n g) (hyf : Nf w b2 o2 n) (d01 : Dis b0 o0 16 b1 o1 n) (d02 : Dis b0 o0 16 b2 o2 n) (d12 : Dis b1 o1 n b2 o2 n) :
    Calls Try.prog 31 #[.pointer (some ⟨b0, o0, none⟩), .slice (some ⟨b1, o1, none⟩) li ci, .slice (some ⟨b2, o2, none⟩) lo co, .int .i64 (r : Int)] w fun e w' =>
      e = .returned (.tuple #[]) ∧ Wd w' b2 o2 n (bm r f) ∧ (∃ t', Wd w' b0 o0 16 t') ∧ Fr (fun p => inR b0 o0 16 p ∨ inR b2 o2 n p) w w' := by
  subst hli
  have := c31y h1 h2 hn hlo (ei := ci - li) (eo := co - lo) ht htf hx hy hyf d01 d02 d12
  rwa [Nat.add_sub_cancel' hci, Nat.add_sub_cancel' hco] at this
theorem c39' {r n ld cd ls cs : Nat} (h1 : 1 ≤ r) (h2 : r ≤ 8) (hn : n = 32 * r) (hld : n ≤ ld) (hcd : ld ≤ cd) (hls : n ≤ ls) (hcs : ls ≤ cs) (hd : Wd w b0 o0 n f) (hdf : Nf w b0 o0 n) (hs : Wd w b1 o1 n g) (d : Dis b0 o0 n b1 o1 n) :
    Calls Try.prog 39 #[.slice (some ⟨b0, o0, none⟩) ld cd, .slice (some ⟨b1, o1, none⟩) ls cs, .int .i64 (n : Int)] w fun ed w' =>
      ed = .returned (.tuple #[]) ∧ Wd w' b0 o0 n g ∧ Fr (inR b0 o0 n) w w' := by
  have := c39 h1 h2 hn (a := ld - n) (b := ls - n) (e := cd - ld) (e2 := cs - ls) hd hdf hs d
  rwa [Nat.sub_add_cancel hld, Nat.sub_add_cancel hls, Nat.add_sub_cancel' hcd, Nat.add_sub_cancel' hcs] at this
theorem c42' {r n ld cd ls cs : Nat} (h1 : 1 ≤ r) (h2 : r ≤ 8) (hn : n = 32 * r) (hld : n ≤ ld) (hcd : ld ≤ cd) (hls : n ≤ ls) (hcs : ls ≤ cs) (hd : Wd w b0 o0 n f) (hdf : Nf w b0 o0 n) (hs : Wd w b1 o1 n g) (d : Dis b0 o0 n b1 o1 n) :
    Calls Try.prog 42 #[.slice (some ⟨b0, o0, none⟩) ld cd, .slice (some ⟨b1, o1, none⟩) ls cs, .int .i64 (n : Int)] w fun ed w' =>
      ed = .returned (.tuple #[]) ∧ Wd w' b0 o0 n (fun k => f k ^^^ g k) ∧ Fr (inR b0 o0 n) w w' := by
  have := c42 h1 h2 hn (a := ld - n) (b := ls - n) (e := cd - ld) (e2 := cs - ls) hd hdf hs d
  rwa [Nat.sub_add_cancel hld, Nat.sub_add_cancel hls, Nat.add_sub_cancel' hcd, Nat.add_sub_cancel' hcs] at this
theorem c41' {r n ls cs : Nat} (h1 : 1 ≤ r) (h2 : r ≤ 8) (hn : n = 32 * r) (hls : n ≤ ls) (hcs : ls ≤ cs) (hd : Wd w b0 o0 n f) :
    Calls Try.prog 41 #[.slice (some ⟨b0, o0, none⟩) ls cs, .int .i64 (r : Int)] w fun ed w' =>
      ed = .returned (.int .u64 ((integ (f (n - 16)) (f (n - 15))).toNat : Int)) ∧ Fr (fun _ => False) w w' := by
  have := c41 h1 h2 hn (a := ls - n) (e := cs - ls) hd
  rwa [Nat.sub_add_cancel hls, Nat.add_sub_cancel' hcs] at this
theorem c40' {ls cs : Nat} {B : Nat → B8} (hls : 4 ≤ ls) (hcs : ls ≤ cs) (hd : By w b0 o0 4 B) :
    Calls Try.prog 40 #[.slice (some ⟨b0, o0, none⟩) ls cs] w fun ed w' =>
      ed = .returned (.int .u32 ((le4 (B 0) (B 1) (B 2) (B 3)).toNat : Int)) ∧ Fr (fun _ => False) w w' := by
  have := c40 (a := ls - 4) (e := cs - ls) hd
  rwa [Nat.sub_add_cancel hls, Nat.add_sub_cancel' hcs] at this
theorem c43' {ls cs : Nat} {B : Nat → B8} {v : W} (hls : 4 ≤ ls) (hcs : ls ≤ cs) (hd : By w b0 o0 4 B) (hf : Nf w b0 o0 4) :
    Calls Try.prog 43 #[.slice (some ⟨b0, o0, none⟩) ls cs, .int .u32 (v.toNat : Int)] w fun ed w' =>
      ed = .returned (.tuple #[]) ∧ By w' b0 o0 4 (bt v) ∧ Fr (inR b0 o0 4) w w' := by
  have := c43 (a := ls - 4) (e := cs - ls) (v := v) hd hf
  rwa [Nat.sub_add_cancel hls, Nat.add_sub_cancel' hcs] at this
end

/-! ### 2. Pieces of memory -/
def put (h : Nat → W) (p n : Nat) (X : Nat → W) : Nat → W := fun q => if p ≤ q ∧ q < p + n then X (q - p) else h q

theorem Wd.sub {w : World} {b o m : Nat} {h : Nat → W} (hw : Wd w b o m h) {p n : Nat} (hp : p + n ≤ m) : Wd w b (o + p) n (fun k => h (p + k)) :=
  ⟨hw.1, fun k hk => by rw [Nat.add_assoc]; exact hw.2 (p + k) (by omega)⟩
theorem Nf.sub {w : World} {b o m : Nat} (hw : Nf w b o m) {p n : Nat} (hp : p + n ≤ m) : Nf w b (o + p) n := fun k hk => by rw [Nat.add_assoc]; exact hw (p + k) (by omega)
theorem Wd.congr {w : World} {b o n : Nat} {f g : Nat → W} (hw : Wd w b o n f) (h : ∀ k, k < n → f k = g k) : Wd w b o n g := ⟨hw.1, fun k hk => by rw [← h k hk]; exact hw.2 k hk⟩
theorem Wd.put {w w' : World} {b o m : Nat} {h : Nat → W} (hw : Wd w b o m h) {p n : Nat} {X : Nat → W} (hx : Wd w' b (o + p) n X) (hf : Fr (inR b (o + p) n) w w') : Wd w' b o m (CI.put h p n X) := by
  refine ⟨hx.1, fun k hk => ?_⟩
  by_cases hc : p ≤ k ∧ k < p + n
  · have := hx.2 (k - p) (by omega)
    rw [show o + p + (k - p) = o + k by omega] at this
    simp only [CI.put, if_pos hc]
    exact this
  · simp only [CI.put, if_neg hc]
    refine hf.cell hw.1 ?_ (hw.2 k hk)
    rintro ⟨j, hj, he⟩
    simp only [MemPlace.cell.injEq] at he
    omega
theorem By.sub {w : World} {b o m : Nat} {h : Nat → B8} (hw : By w b o m h) {p n : Nat} (hp : p + n ≤ m) : By w b (o + p) n (fun k => h (p + k)) :=
  ⟨hw.1, fun k hk => by rw [Nat.add_assoc]; exact hw.2 (p + k) (by omega)⟩
theorem By.congr {w : World} {b o n : Nat} {f g : Nat → B8} (hw : By w b o n f) (h : ∀ k, k < n → f k = g k) : By w b o n g := ⟨hw.1, fun k hk => by rw [← h k hk]; exact hw.2 k hk⟩

theorem Fr.set1 {w : World} {b o : Nat} (v : Value) : Fr (inR b o 1) w (w.setCell ⟨b, o, none⟩ v) :=
  Fr.setCells w b o [v] fun j hj => ⟨j, by simpa using hj, rfl⟩
theorem Wd.set1 {w : World} {b o m : Nat} {h : Nat → W} (hw : Wd w b o m h) {i : Nat} (hi : i < m) (x : W) : Wd (w.setCell ⟨b, o + i, none⟩ (.int .u32 (x.toNat : Int))) b o m (fun k => if k = i then x else h k) := by
  have hf : Fr (inR b (o + i) 1) w (w.setCell ⟨b, o + i, none⟩ (.int .u32 (x.toNat : Int))) := Fr.set1 _
  have := hw.put (p := i) (n := 1) (X := fun _ => x) ⟨Nat.lt_of_lt_of_le hw.1 hf.size, fun k hk => by
    obtain rfl : k = 0 := by omega
    exact World.cell?_setCell_same _ _ _ (hw.2 i hi)⟩ hf
  refine this.congr fun k hk => ?_
  simp only [CI.put]
  by_cases e : k = i
  · rw [if_pos (by omega), if_pos e]
  · rw [if_neg (by omega), if_neg e]
theorem By.set1 {w : World} {b o m : Nat} {h : Nat → B8} (hw : By w b o m h) {i : Nat} (hi : i < m) (x : B8) : By (w.setCell ⟨b, o + i, none⟩ (.int .u8 (x.toNat : Int))) b o m (fun k => if k = i then x else h k) := by
  have hf : Fr (inR b (o + i) 1) w (w.setCell ⟨b, o + i, none⟩ (.int .u8 (x.toNat : Int))) := Fr.set1 _
  refine ⟨Nat.lt_of_lt_of_le hw.1 hf.size, fun k hk => ?_⟩
  by_cases e : k = i
  · subst e
    simp only [if_pos]
    exact World.cell?_setCell_same _ _ _ (hw.2 k hk)
  · simp only [if_neg e]
    refine hf.cell hw.1 ?_ (hw.2 k hk)
    rintro ⟨j, hj, he⟩
    simp only [MemPlace.cell.injEq] at he
    omega

def putB (h : Nat → B8) (p n : Nat) (X : Nat → B8) : Nat → B8 := fun q => if p ≤ q ∧ q < p + n then X (q - p) else h q
theorem By.put {w w' : World} {b o m : Nat} {h : Nat → B8} (hw : By w b o m h) {p n : Nat} {X : Nat → B8} (hx : By w' b (o + p) n X) (hf : Fr (inR b (o + p) n) w w') : By w' b o m (putB h p n X) := by
  refine ⟨hx.1, fun k hk => ?_⟩
  by_cases hc : p ≤ k ∧ k < p + n
  · have := hx.2 (k - p) (by omega)
    rw [show o + p + (k - p) = o + k by omega] at this
    simp only [putB, if_pos hc]
    exact this
  · simp only [putB, if_neg hc]
    refine hf.cell hw.1 ?_ (hw.2 k hk)
    rintro ⟨j, hj, he⟩
    simp only [MemPlace.cell.injEq] at he
    omega

/-! ### 3. The state -/
/-- Where all lies; what may be written. -/
structure Pl (may : MemPlace → Prop) (W : World) (bx ox bv ov bt n m : Nat) : Prop where
  xv : bx ≠ bv
  tx : bt ≠ bx
  tv : bt ≠ bv
  nx : Nf W bx ox (2 * n)
  nv : Nf W bv ov m
  nt : Nf W bt 0 16
  mx : ∀ p, inR bx ox (2 * n) p → may p
  mv : ∀ p, inR bv ov m p → may p
  mt : ∀ p, inR bt 0 16 p → may p

structure Sm (may : MemPlace → Prop) (W : World) (bx ox bv ov bt n m : Nat) (X Y h : Nat → CI.W) (w : World) : Prop where
  x : Wd w bx ox n X
  y : Wd w bx (ox + n) n Y
  t : ∃ t, Wd w bt 0 16 t
  v : Wd w bv ov m h
  fr : Fr may W w

section
variable {may : MemPlace → Prop} {W w w' : World} {bx ox bv ov bt n m : Nat} {X Y Z h : Nat → CI.W}
theorem inR.mono {b o n o' n' : Nat} {p : MemPlace} (h : inR b o n p) (h1 : o' ≤ o) (h2 : o + n ≤ o' + n') : inR b o' n' p := by
  obtain ⟨j, hj, rfl⟩ := h
  exact ⟨o + j - o', by omega, by rw [show o' + (o + j - o') = o + j by omega]⟩
theorem not_inR {b o b' o' n' : Nat} (h : b ≠ b' ∨ o < o' ∨ o' + n' ≤ o) : ¬ inR b' o' n' (.cell b o) := by
  rintro ⟨j, hj, he⟩
  simp only [MemPlace.cell.injEq] at he
  omega

theorem Sm.same (hs : Sm may W bx ox bv ov bt n m X Y h w) (hf : Fr (fun _ => False) w w') : Sm may W bx ox bv ov bt n m X Y h w' := by
  obtain ⟨t, ht⟩ := hs.t
  exact ⟨hs.x.same hf, hs.y.same hf, ⟨t, ht.same hf⟩, hs.v.same hf, hs.fr.trans (hf.mono fun _ f => f.elim)⟩

theorem Sm.copy (P : Pl may W bx ox bv ov bt n m) (hs : Sm may W bx ox bv ov bt n m X Y h w) {p : Nat} (hp : p + n ≤ m) (hx : Wd w' bv (ov + p) n Z) (hf : Fr (inR bv (ov + p) n) w w') : Sm may W bx ox bv ov bt n m X Y (put h p n Z) w' := by
  obtain ⟨t, ht⟩ := hs.t
  have a := P.xv
  have b := P.tv
  exact ⟨hs.x.fr hf fun k _ => not_inR (.inl a), hs.y.fr hf fun k _ => not_inR (.inl a), ⟨t, ht.fr hf fun k _ => not_inR (.inl b)⟩, hs.v.put hx hf, hs.fr.trans (hf.mono fun p' hp' => P.mv _ (hp'.mono (by omega) (by omega)))⟩

theorem Sm.toY (P : Pl may W bx ox bv ov bt n m) (hs : Sm may W bx ox bv ov bt n m X Y h w) (hy : Wd w' bx (ox + n) n Z) (ht : ∃ t, Wd w' bt 0 16 t) (hf : Fr (fun p => inR bt 0 16 p ∨ inR bx (ox + n) n p) w w') : Sm may W bx ox bv ov bt n m X Z h w' := by
  have a := P.xv
  have b := P.tv
  have c := P.tx
  refine ⟨hs.x.fr hf fun k hk => ?_, hy, ht, hs.v.fr hf fun k hk => ?_, hs.fr.trans (hf.mono fun p hp => ?_)⟩
  · rintro (h | h)
    · exact not_inR (.inl (Ne.symm c)) h
    · exact not_inR (.inr (.inl (by omega))) h
  · rintro (h | h)
    · exact not_inR (.inl (Ne.symm b)) h
    · exact not_inR (.inl (Ne.symm a)) h
  · rcases hp with hp | hp
    · exact P.mt _ hp
    · exact P.mx _ (hp.mono (by omega) (by omega))

theorem Sm.toX (P : Pl may W bx ox bv ov bt n m) (hs : Sm may W bx ox bv ov bt n m X Y h w) (hy : Wd w' bx ox n Z) (ht : ∃ t, Wd w' bt 0 16 t) (hf : Fr (fun p => inR bt 0 16 p ∨ inR bx ox n p) w w') : Sm may W bx ox bv ov bt n m Z Y h w' := by
  have a := P.xv
  have b := P.tv
  have c := P.tx
  refine ⟨hy, hs.y.fr hf fun k hk => ?_, ht, hs.v.fr hf fun k hk => ?_, hs.fr.trans (hf.mono fun p hp => ?_)⟩
  · rintro (h | h)
    · exact not_inR (.inl (Ne.symm c)) h
    · exact not_inR (.inr (.inr (by omega))) h
  · rintro (h | h)
    · exact not_inR (.inl (Ne.symm b)) h
    · exact not_inR (.inl (Ne.symm a)) h
  · rcases hp with hp | hp
    · exact P.mt _ hp
    · exact P.mx _ (hp.mono (by omega) (by omega))

theorem Sm.xorX (P : Pl may W bx ox bv ov bt n m) (hs : Sm may W bx ox bv ov bt n m X Y h w) (hy : Wd w' bx ox n Z) (hf : Fr (inR bx ox n) w w') : Sm may W bx ox bv ov bt n m Z Y h w' := by
  obtain ⟨t, ht⟩ := hs.t
  exact hs.toX P hy ⟨t, ht.fr hf fun k _ => not_inR (.inl P.tx)⟩ (hf.mono fun _ h => .inr h)
theorem Sm.xorY (P : Pl may W bx ox bv ov bt n m) (hs : Sm may W bx ox bv ov bt n m X Y h w) (hy : Wd w' bx (ox + n) n Z) (hf : Fr (inR bx (ox + n) n) w w') : Sm may W bx ox bv ov bt n m X Z h w' := by
  obtain ⟨t, ht⟩ := hs.t
  exact hs.toY P hy ⟨t, ht.fr hf fun k _ => not_inR (.inl P.tx)⟩ (hf.mono fun _ h => .inr h)
end
end CI
end Go.Proofs.Yteooohmlmefbnaa
