/-
  What is kept where a conversion '[]byte(s)' lays a row ('Below'); a slice of bytes that came in ('Sl'); 'divRoundUp'; HMAC's state before and behind its first 'Reset', under one name. What PBKDF2 of one round reckons ('pbB'), and what lies where while it does.
  Conditions: none.
-/
import Derived.Test.YteooohmlmefbnaaQg
import Derived.Test.YteooohmlmefbnaaMc
import Derived.Lib.ConvBytes
namespace Go.Proofs.Yteooohmlmefbnaa
namespace CI
open Go
open Go.RowKit

/-! ### 1. Below -/
theorem By.below {w w' : World} {b o n : Nat} {f : Nat → B8} (h : By w b o n f) (hf : Below w.heap.size w w') : By w' b o n f :=
  ⟨Nat.lt_of_lt_of_le h.1 hf.size, fun k hk => (hf.cell (p := ⟨b, o + k, none⟩) h.1).trans (h.2 k hk)⟩
theorem Wd.below {w w' : World} {b o n : Nat} {f : Nat → W} (h : Wd w b o n f) (hf : Below w.heap.size w w') : Wd w' b o n f :=
  ⟨Nat.lt_of_lt_of_le h.1 hf.size, fun k hk => (hf.cell (p := ⟨b, o + k, none⟩) h.1).trans (h.2 k hk)⟩
theorem Nf.below {w w' : World} {b o n : Nat} (h : Nf w b o n) (hb : b < w.heap.size) (hf : Below w.heap.size w w') : Nf w' b o n :=
  fun k hk => (hf.frozen (p := ⟨b, o + k, none⟩) hb).trans (h k hk)
theorem Below.then_ {a b c : World} (h : Below a.heap.size a b) (k : Below b.heap.size b c) : Below a.heap.size a c := h.trans (k.mono h.size)
theorem Fr.newBelow {a c : World} {n : Nat} (hn : a.heap.size ≤ n) (k : Fr (fun p => n ≤ p.block) a c) : Below a.heap.size a c :=
  (k.strong fun _ hp hm => absurd hp (Nat.not_lt.2 (Nat.le_trans hn hm))).below

/-! ### 2. '[]byte(s)', 'string(b)' -/
theorem bytes_new {w : World} {n : Nat} {f : Nat → B8} : By (Lib.bytesWorld w 5 (strOfNums (numsB n f))) w.heap.size 0 n f ∧ Below w.heap.size w (Lib.bytesWorld w 5 (strOfNums (numsB n f))) := by
  have hs : (strOfNums (numsB n f)).size = n := by rw [strOfNums_size]; simp [numsB]
  refine ⟨⟨by rw [Lib.bytesWorld_size]; exact Nat.lt_succ_self _, fun k hk => ?_⟩, ⟨rfl, rfl, rfl, by rw [Lib.bytesWorld_size]; exact Nat.le_succ _, fun k hk => Lib.bytesWorld_at_old w 5 _ k hk⟩⟩
  rw [Nat.zero_add, Lib.bytesWorld_cell _ _ _ _ (by rw [hs]; exact hk), strOfNums_data]
  have hlt := (f k).isLt
  have e : ((numsB n f).map fun n => UInt8.ofNat n.toNat).getD k 0 = UInt8.ofNat (f k).toNat := by
    simp [numsB, List.getD, hk]
  rw [e]
  congr 2
  simp
theorem conv_bytes (w : World) (s : ByteArray) : (convert 9 29 (.string s)).run Try.prog w = .ok (.slice (some ⟨w.heap.size, 0, none⟩) s.size (grownCap w s.size 0 5)) (Lib.bytesWorld w 5 s) :=
  Lib.run_convert_string_bytes w 9 29 5 s Try.underlying9 Try.underlying29 Try.underlying5
theorem conv_nil (w : World) (c : Nat) : (convert 29 9 (.slice none 0 c)).run Try.prog w = .ok (.string (strOfNums (numsB 0 fun _ => 0#8))) w := by
  have e : strOfNums (numsB 0 fun _ => 0#8) = .empty := by kernel_rfl
  rw [e]
  simp [convert, run_underlying Try.underlying9, run_underlying Try.underlying29, run_underlying Try.underlying5, Conv.bytesToString]

/-! ### 3. A slice of bytes -/
/-- The slice (A, n, c) holds the bytes f, in a block below B; or it is nil. -/
def Sl (B : Nat) (w : World) (A : Option Addr) (n c : Nat) (f : Nat → B8) : Prop := n ≤ c ∧ c ≤ 9223372036854775807 ∧ ((∃ b o, A = some ⟨b, o, none⟩ ∧ b < B ∧ By w b o n f) ∨ (A = none ∧ n = 0 ∧ c = 0))
theorem Sl.fr {B : Nat} {w w' : World} {A : Option Addr} {n c : Nat} {f : Nat → B8} (h : Sl B w A n c f) (hf : Fr (fun p => B ≤ p.block) w w') : Sl B w' A n c f :=
  ⟨h.1, h.2.1, h.2.2.imp (fun ⟨b, o, h1, h2, h3⟩ => ⟨b, o, h1, h2, h3.fr hf fun _ _ e => absurd h2 (Nat.not_lt.2 e)⟩) id⟩
theorem Sl.below {w w' : World} {B : Nat} {A : Option Addr} {n c : Nat} {f : Nat → B8} (h : Sl B w A n c f) (hf : Below w.heap.size w w') : Sl B w' A n c f :=
  ⟨h.1, h.2.1, h.2.2.imp (fun ⟨b, o, h1, h2, h3⟩ => ⟨b, o, h1, h2, h3.below hf⟩) id⟩
theorem Sl.mono {w : World} {B B' : Nat} {A : Option Addr} {n c : Nat} {f : Nat → B8} (h : Sl B w A n c f) (hB : B ≤ B') : Sl B' w A n c f :=
  ⟨h.1, h.2.1, h.2.2.imp (fun ⟨b, o, h1, h2, h3⟩ => ⟨b, o, h1, Nat.lt_of_lt_of_le h2 hB, h3⟩) id⟩

/-! ### 4. divRoundUp -/
set_option maxRecDepth 100000 in
set_option maxHeartbeats 1000000 in
theorem c49 {n : Nat} (h1 : 1 ≤ n) (h2 : n ≤ 100000) (w : World) :
    Calls Try.prog 49 #[.int .i64 (n : Int), .int .i64 32] w fun e w' => e = .returned (.int .i64 (((n + 31) / 32 : Nat) : Int)) ∧ w = w' := by
  go_enter Try.func49, Try.ntmps49
  go_wp2_with fail
  go_ret
  have e : ((n : Int) + 32 - 1) / 32 = (((n + 31) / 32 : Nat) : Int) := by omega
  exact ⟨congrArg (fun v => Ending.returned (.int .i64 v)) e, rfl⟩

/-! ### 5. HMAC's state -/
/-- Before the first 'Reset'. -/
structure HA (K : Nat → W) (ip op : Nat → B8) (b bi bo pi po : Nat) (w : World) : Prop where
  hm : HM w b bi bo (.slice (some ⟨po, 0, none⟩) 64 64) (.slice (some ⟨pi, 0, none⟩) 64 64) false
  si : ∃ S, Dg w bi S ∧ S.x = fun _ => 0#8
  so : ∃ T, Dg w bo T
  pi : By w pi 0 64 ip
  po : By w po 0 64 op
/-- Behind it; S: the inner digest. -/
structure HB (K : Nat → W) (ip op : Nat → B8) (b bi bo pi po : Nat) (w : World) (S : DS) : Prop where
  hm : HM w b bi bo (.slice (some ⟨po, 0, none⟩) 108 108) (.slice (some ⟨pi, 0, none⟩) 108 108) true
  si : Dg w bi S
  so : ∃ T, Dg w bo T
  pi : By w pi 0 108 (msB (hS K ip))
  po : By w po 0 108 (msB (hS K op))

section
variable {K : Nat → W} {ip op : Nat → B8} {b bi bo pi po : Nat} {w w' : World} {S : DS}
theorem HA.fr (h : HA K ip op b bi bo pi po w) {may : MemPlace → Prop} (hf : Fr may w w') (m1 : ∀ o, ¬ may (.cell b o)) (m2 : ∀ o, ¬ may (.cell bi o)) (m3 : ∀ o, ¬ may (.cell bo o)) (m4 : ∀ o, ¬ may (.cell pi o)) (m5 : ∀ o, ¬ may (.cell po o)) : HA K ip op b bi bo pi po w' :=
  ⟨h.hm.fr hf m1, let ⟨S, h1, h2⟩ := h.si; ⟨S, h1.far hf m2, h2⟩, let ⟨T, h1⟩ := h.so; ⟨T, h1.far hf m3⟩, h.pi.fr hf fun _ _ => m4 _, h.po.fr hf fun _ _ => m5 _⟩
theorem HB.fr (h : HB K ip op b bi bo pi po w S) {may : MemPlace → Prop} (hf : Fr may w w') (m1 : ∀ o, ¬ may (.cell b o)) (m2 : ∀ o, ¬ may (.cell bi o)) (m3 : ∀ o, ¬ may (.cell bo o)) (m4 : ∀ o, ¬ may (.cell pi o)) (m5 : ∀ o, ¬ may (.cell po o)) : HB K ip op b bi bo pi po w' S :=
  ⟨h.hm.fr hf m1, h.si.far hf m2, let ⟨T, h1⟩ := h.so; ⟨T, h1.far hf m3⟩, h.pi.fr hf fun _ _ => m4 _, h.po.fr hf fun _ _ => m5 _⟩

/-- 'Reset', whichever. -/
theorem c50 (h : HA K ip op b bi bo pi po w ∨ ∃ S, HB K ip op b bi bo pi po w S) (hK : Wd w 0 0 64 K) (ne : Ne5 b bi bo pi po) :
    Calls Try.prog 50 #[.pointer (some ⟨b, 0, none⟩)] w fun e w' => ∃ pi' po', e = .returned (.tuple #[]) ∧ HB K ip op b bi bo pi' po' w' (D0 (hS K ip)) ∧ (pi' = pi ∨ w.heap.size ≤ pi') ∧ (po' = po ∨ w.heap.size ≤ po') ∧ Fr (Hw b bi bo) w w' := by
  rcases h with ⟨h1, ⟨S, h2, h3⟩, ⟨T, h4⟩, h5, h6⟩ | ⟨S, h1, h2, ⟨T, h3⟩, h4, h5⟩
  · exact (c50f h1 h2 h3 h4 hK h5 h6 ne).mono fun e w' ⟨gi, go, e1, e2, e3, e4, e5, e6, e7, e8, e9⟩ => ⟨gi, go, e1, ⟨e4, e5, e6, e7, e8⟩, .inr e2, .inr e3, e9⟩
  · exact (c50s h1 h2 h4 ne.npi).mono fun e w' ⟨e1, e2, e3⟩ => ⟨pi, po, e1, ⟨h1.ofB e3 ne.nbi, e2, ⟨T, h3.ofB e3 ne.nio.symm⟩, h4.ofB e3 ne.npi, h5.ofB e3 ne.nqi⟩, .inl rfl, .inl rfl, e3.mono fun _ e => .inr (.inl e)⟩

/-- 'Write' of a slice that may be nil, behind 'Reset'. -/
theorem c51s {B m c : Nat} {A : Option Addr} {p : Nat → B8} (h : HB K ip op b bi bo pi po w (D0 (hS K ip))) (hK : Wd w 0 0 64 K) (ne : Ne5 b bi bo pi po) (hs : Sl B w A m c p) (hB : B ≤ bi) (hm : m ≤ 4096) :
    Calls Try.prog 51 #[.pointer (some ⟨b, 0, none⟩), .slice A m c] w fun e w' => e = .returned (.tuple #[.int .i64 (m : Int), .nilIface]) ∧ HB K ip op b bi bo pi po w' (wrS K (D0 (hS K ip)) p m) ∧ Fr (fun p => p.block = bi) w w' := by
  have fin : ∀ (e : Ending) (w' : World), (e = .returned (.tuple #[.int .i64 (m : Int), .nilIface]) ∧ Dg w' bi (wrS K (D0 (hS K ip)) p m) ∧ Fr (fun p => p.block = bi) w w') → e = .returned (.tuple #[.int .i64 (m : Int), .nilIface]) ∧ HB K ip op b bi bo pi po w' (wrS K (D0 (hS K ip)) p m) ∧ Fr (fun p => p.block = bi) w w' := fun e w' ⟨e1, e2, e3⟩ =>
    ⟨e1, ⟨h.hm.ofB e3 ne.nbi, e2, let ⟨T, h3⟩ := h.so; ⟨T, h3.ofB e3 ne.nio.symm⟩, h.pi.ofB e3 ne.npi, h.po.ofB e3 ne.nqi⟩, e3⟩
  obtain ⟨h1, h2, ⟨sb, so, rfl, h3, h4⟩ | ⟨rfl, rfl, rfl⟩⟩ := hs
  · exact (c51 h.hm h.si hK ne.i0 h4 (by omega) h1 h2 hm (show (0 : Nat) < 64 by decide) (show (64 : Nat) ≤ 4294967296 by decide)).mono fin
  · exact (c51n h.hm h.si rfl (show (64 : Nat) ≤ 4294967296 by decide)).mono fin
end

/-! ### 1. The reckoning -/
/-- The inner digest of block i. -/
def innS (K : Nat → W) (pw : Nat → B8) (n : Nat) (sa : Nat → B8) (m i : Nat) : DS := wrS K (wrS K (D0 (hS K (ipB K pw n))) sa m) (beB i 4) 4
/-- Block i (from 1). -/
def tB (K : Nat → W) (pw : Nat → B8) (n : Nat) (sa : Nat → B8) (m i : Nat) : Nat → B8 := macB K (hS K (opB K pw n)) (innS K pw n sa m i)
/-- The bytes of PBKDF2 with one round, as many as are wanted. -/
def pbB (K : Nat → W) (pw : Nat → B8) (n : Nat) (sa : Nat → B8) (m q : Nat) : B8 := tB K pw n sa m (q / 32 + 1) (q % 32)

theorem make29c (c : Nat) (hc : c ≤ 281474976710656) (w : World) : (Instr.makeSlice 29 (.int .i64 0) (.int .i64 (c : Int))).run Try.prog w = .ok (.slice (some ⟨w.heap.size, 0, none⟩) 0 c) (w.alloc (zObjB c)) := by
  obtain ⟨i0, hi, hz0, hz1, hz2⟩ := info_parts info5
  have := run_make (P := Try.prog) w 29 5 i0 _ Try.underlying29 hi hz0 .i64 .i64 0 (c : Int) (by omega) (by omega) (by rw [hz2]; omega) (by omega)
  rw [hz1] at this
  simpa [zObjB, Value.cells] using this

/-! ### 2. What lies where -/
/-- Which blocks are which. -/
structure Lay (n1 b bi bo gb gd gu : Nat) : Prop where
  l0 : 0 < n1
  lb : n1 ≤ b
  li : n1 ≤ bi
  lo : n1 ≤ bo
  b : b < gb
  i : bi < gb
  o : bo < gb
  d : gb < gd
  u : gd < gu
theorem Lay.hw {n1 b bi bo gb gd gu x : Nat} (h : Lay n1 b bi bo gb gd gu) (hx : x < n1 ∨ gb ≤ x) (o : Nat) : ¬ Hw b bi bo (.cell x o) := by
  obtain ⟨h1, h2, h3, h4, h5, h6, h7, h8, h9⟩ := h
  rintro (e | e | e) <;> simp only [MemPlace.block] at e <;> omega

/-- All but HMAC's own state, after j blocks. -/
structure PT (n1 : Nat) (W1 : World) (K : Nat → W) (gb gd gu nb : Nat) (A : Option Addr) (m c : Nat) (sa F : Nat → B8) (j : Nat) (w : World) : Prop where
  k : Wd w 0 0 64 K
  s : Sl n1 w A m c sa
  d : By w gd 0 (32 * j) F
  r : ∃ z, By w gd (32 * j) (32 * (nb - j)) z
  dn : Nf w gd 0 (32 * nb)
  u : ∃ z, By w gu 0 32 z
  un : Nf w gu 0 32
  g : ∃ z, By w gb 0 4 z
  gn : Nf w gb 0 4
  fr : Fr (fun p => n1 ≤ p.block) W1 w
section
variable {n1 : Nat} {W1 : World} {K : Nat → W} {b bi bo gb gd gu nb : Nat} {A : Option Addr} {m c : Nat} {sa F : Nat → B8} {j : Nat} {w w' : World}
theorem PT.hw (h : PT n1 W1 K gb gd gu nb A m c sa F j w) (l : Lay n1 b bi bo gb gd gu) (hf : Fr (Hw b bi bo) w w') : PT n1 W1 K gb gd gu nb A m c sa F j w' := by
  have ld := l.d
  have lu := l.u
  have hl : Fr (fun p => n1 ≤ p.block) w w' := hf.mono fun p e => by
    rcases e with e | e | e <;> (show n1 ≤ p.block; rw [e])
    · exact l.lb
    · exact l.li
    · exact l.lo
  obtain ⟨z1, h1⟩ := h.r
  obtain ⟨z2, h2⟩ := h.u
  obtain ⟨z3, h3⟩ := h.g
  exact ⟨h.k.fr hf fun _ _ => l.hw (.inl l.l0) _, h.s.fr hl, h.d.fr hf fun _ _ => l.hw (.inr (by omega)) _, ⟨z1, h1.fr hf fun _ _ => l.hw (.inr (by omega)) _⟩, h.dn.fr hf, ⟨z2, h2.fr hf fun _ _ => l.hw (.inr (by omega)) _⟩, h.un.fr hf, ⟨z3, h3.fr hf fun _ _ => l.hw (.inr (by omega)) _⟩, h.gn.fr hf, h.fr.trans hl⟩
theorem PT.inner (h : PT n1 W1 K gb gd gu nb A m c sa F j w) (l : Lay n1 b bi bo gb gd gu) (hf : Fr (fun p => p.block = bi) w w') : PT n1 W1 K gb gd gu nb A m c sa F j w' := h.hw l (hf.mono fun _ e => .inr (.inl e))
theorem PT.buf (h : PT n1 W1 K gb gd gu nb A m c sa F j w) (l : Lay n1 b bi bo gb gd gu) {z : Nat → B8} (hz : By w' gb 0 4 z) (hf : Fr (fun p => p.block = gb) w w') : PT n1 W1 K gb gd gu nb A m c sa F j w' := by
  have ld := l.d
  have lu := l.u
  have l0 := l.l0
  have lb := l.b
  have lbb := l.lb
  have hl : Fr (fun p => n1 ≤ p.block) w w' := hf.mono fun p e => by show n1 ≤ p.block; rw [e]; omega
  obtain ⟨z1, h1⟩ := h.r
  obtain ⟨z2, h2⟩ := h.u
  exact ⟨h.k.ofB hf (by omega), h.s.fr hl, h.d.ofB hf (by omega), ⟨z1, h1.ofB hf (by omega)⟩, h.dn.fr hf, ⟨z2, h2.ofB hf (by omega)⟩, h.un.fr hf, ⟨z, hz⟩, h.gn.fr hf, h.fr.trans hl⟩
theorem PT.row (h : PT n1 W1 K gb gd gu nb A m c sa F j w) (l : Lay n1 b bi bo gb gd gu) {z : Nat → B8} (hz : By w' gu 0 32 z) (hf : Fr (fun p => p.block = gu) w w') : PT n1 W1 K gb gd gu nb A m c sa F j w' := by
  have ld := l.d
  have lu := l.u
  have l0 := l.l0
  have lb := l.b
  have lbb := l.lb
  have hl : Fr (fun p => n1 ≤ p.block) w w' := hf.mono fun p e => by show n1 ≤ p.block; rw [e]; omega
  obtain ⟨z1, h1⟩ := h.r
  obtain ⟨z2, h2⟩ := h.g
  exact ⟨h.k.ofB hf (by omega), h.s.fr hl, h.d.ofB hf (by omega), ⟨z1, h1.ofB hf (by omega)⟩, h.dn.fr hf, ⟨z, hz⟩, h.un.fr hf, ⟨z2, h2.ofB hf (by omega)⟩, h.gn.fr hf, h.fr.trans hl⟩
/-- The next 32 bytes. -/
theorem PT.next (h : PT n1 W1 K gb gd gu nb A m c sa F j w) (l : Lay n1 b bi bo gb gd gu) (hj : j < nb) {f : Nat → B8} (hb : By w' gd (0 + 32 * j) 32 f) (e : ∀ k, k < 32 → f k = F (32 * j + k)) (hf : Fr (Sw bo gd (0 + 32 * j)) w w') : PT n1 W1 K gb gd gu nb A m c sa F (j + 1) w' := by
  rw [Nat.zero_add] at hb hf
  have l1 := l.d
  have l2 := l.u
  have l3 := l.l0
  have l4 := l.o
  have l5 := l.lo
  have hl : Fr (fun p => n1 ≤ p.block) w w' := hf.mono fun p e => by
    rcases e with e | ⟨_, _, rfl⟩
    · show n1 ≤ p.block; rw [e]; omega
    · show n1 ≤ gd; omega
  have far : ∀ x, x ≠ gd → x ≠ bo → ∀ o, ¬ Sw bo gd (32 * j) (.cell x o) := fun x h1 h2 o => by
    rintro (e | e)
    · exact h2 e
    · exact not_inR (.inl h1) e
  obtain ⟨z1, h1⟩ := h.r
  obtain ⟨z2, h2⟩ := h.u
  obtain ⟨z3, h3⟩ := h.g
  refine ⟨h.k.fr hf fun _ _ => far _ (by omega) (by omega) _, h.s.fr hl, ⟨hb.1, fun k hk => ?_⟩, ⟨fun k => z1 (32 + k), hb.1, fun k hk => ?_⟩, h.dn.fr hf, ⟨z2, h2.fr hf fun _ _ => far _ (by omega) (by omega) _⟩, h.un.fr hf, ⟨z3, h3.fr hf fun _ _ => far _ (by omega) (by omega) _⟩, h.gn.fr hf, h.fr.trans hl⟩
  · by_cases hk' : k < 32 * j
    · refine hf.cell h.d.1 ?_ (h.d.2 k hk')
      rintro (e | e)
      · simp only [MemPlace.block] at e; omega
      · exact not_inR (.inr (.inl (by omega))) e
    · have := hb.2 (k - 32 * j) (by omega)
      rw [e _ (by omega), show 32 * j + (k - 32 * j) = k by omega] at this
      rw [Nat.zero_add]
      exact this
  · have := hf.cell h1.1 (b := gd) (o := 32 * j + (32 + k)) (by
      rintro (e | e)
      · simp only [MemPlace.block] at e; omega
      · exact not_inR (.inr (.inr (by omega))) e) (h1.2 (32 + k) (by omega))
    rw [show 32 * (j + 1) + k = 32 * j + (32 + k) by omega]
    exact this
end
end CI
end Go.Proofs.Yteooohmlmefbnaa
