/-
  The contract of 'hmac.New' over 'newSHA256': its parts (what lies where, what a pad holds). The contract of 'hmac.New' over 'newSHA256'.
  Conditions: none.
-/
import Derived.Test.YteooohmlmefbnaaQe
import Derived.Deep.Cut
namespace Go.Proofs.Yteooohmlmefbnaa
namespace CI
open Go
open Go.RowKit

/-! ### 1. A record of seven cells -/
structure RecF (w : World) (b : Nat) (f : Nat → Value) : Prop where
  c : ∀ k, k < 7 → w.cell? ⟨b, k, none⟩ = some (f k)
  nf : Nf w b 0 7
def upF (f : Nat → Value) (i : Nat) (v : Value) : Nat → Value := fun k => if k = i then v else f k
theorem RecF.lt {w : World} {b : Nat} {f : Nat → Value} (h : RecF w b f) : b < w.heap.size := World.block_lt_of_cell? w _ (h.c 0 (by decide))
theorem RecF.fr {w w' : World} {b : Nat} {f : Nat → Value} (h : RecF w b f) {may : MemPlace → Prop} (hf : Fr may w w') (hm : ∀ o, ¬ may (.cell b o)) : RecF w' b f :=
  ⟨fun k hk => hf.cell h.lt (hm _) (h.c k hk), h.nf.fr hf⟩
theorem RecF.set {w : World} {b i : Nat} {f : Nat → Value} (h : RecF w b f) (hi : i < 7) (v : Value) : RecF (w.setCell ⟨b, i, none⟩ v) b (upF f i v) := by
  refine ⟨fun k hk => ?_, h.nf.fr (CI.ofB (b := b) v)⟩
  unfold upF
  by_cases e : k = i
  · subst e
    rw [if_pos rfl]
    exact World.cell?_setCell_same _ _ _ (h.c k hk)
  · rw [if_neg e]
    exact (World.cell?_setCell_other _ _ _ _ (fun h => e (by cases h; rfl))).trans (h.c k hk)
theorem RecF.at_ {w : World} {b : Nat} {f : Nat → Value} (h : RecF w b f) {k : Nat} (hk : k < 7) : w.frozen? ⟨b, k, none⟩ = false := by
  have := h.nf k hk
  rwa [Nat.zero_add] at this
theorem RecF.hm {w : World} {b bi bo : Nat} {f : Nat → Value} {m : Bool} (h : RecF w b f) (e2 : f 2 = .iface 74 (.pointer (some ⟨bo, 0, none⟩))) (e3 : f 3 = .iface 74 (.pointer (some ⟨bi, 0, none⟩))) (e4 : f 4 = .bool m) : HM w b bi bo (f 0) (f 1) m :=
  ⟨h.c 0 (by decide), h.c 1 (by decide), (h.c 2 (by decide)).trans (by rw [e2]), (h.c 3 (by decide)).trans (by rw [e3]), (h.c 4 (by decide)).trans (by rw [e4]), h.nf⟩

/-- The record as it is made. -/
def f0 (n : Nat) (k : Nat) : Value := (#[.slice none 0 0, .slice none 0 0, .nilIface, .nilIface, .bool false, .bool false, .int .i64 (n : Int)] : Array Value).getD k undef

/-! ### 2. What lies where -/
structure NS (w0 : World) (b vb : Nat) (f : Nat → Value) (K : Nat → W) (w : World) : Prop where
  r : RecF w b f
  v : w.cell? ⟨vb, 0, none⟩ = some (.pointer (some ⟨b, 0, none⟩))
  k : Wd w 0 0 64 K
  fr : Fr (fun p => w0.heap.size ≤ p.block) w0 w
  lb : w0.heap.size ≤ b
  lv : b < vb
  l0 : 0 < w0.heap.size
theorem NS.vlt {w0 w : World} {b vb : Nat} {f : Nat → Value} {K : Nat → W} (h : NS w0 b vb f K w) : vb < w.heap.size := World.block_lt_of_cell? w _ h.v
theorem NS.same {w0 w w' : World} {b vb : Nat} {f : Nat → Value} {K : Nat → W} (h : NS w0 b vb f K w) (hf : Fr (fun _ => False) w w') : NS w0 b vb f K w' :=
  ⟨h.r.fr hf fun _ f => f, hf.cell h.vlt (fun f => f) h.v, h.k.same hf, h.fr.trans (hf.mono fun _ f => f.elim), h.lb, h.lv, h.l0⟩
theorem NS.far {w0 w w' : World} {b vb x : Nat} {f : Nat → Value} {K : Nat → W} (h : NS w0 b vb f K w) (hf : Fr (fun p => p.block = x) w w') (hx : vb < x) : NS w0 b vb f K w' := by
  have := h.lb
  have := h.lv
  have := h.l0
  exact ⟨h.r.fr hf fun _ e => by simp only [MemPlace.block] at e; omega, hf.cell h.vlt (fun e => by simp only [MemPlace.block] at e; omega) h.v, h.k.ofB hf (by omega), h.fr.trans (hf.mono fun p e => by show w0.heap.size ≤ p.block; rw [e]; omega), h.lb, h.lv, h.l0⟩
theorem NS.set {w0 w : World} {b vb i : Nat} {f : Nat → Value} {K : Nat → W} (h : NS w0 b vb f K w) (hi : i < 7) (v : Value) : NS w0 b vb (upF f i v) K (w.setCell ⟨b, i, none⟩ v) := by
  have h1 := h.lb
  have h2 := h.lv
  have h3 := h.l0
  have hf := ofB (b := b) (k := i) (w := w) v
  exact ⟨h.r.set hi v, hf.cell h.vlt (fun e => by simp only [MemPlace.block] at e; omega) h.v, h.k.ofB hf (by omega), h.fr.trans (hf.mono fun p e => by show w0.heap.size ≤ p.block; rw [e]; omega), h.lb, h.lv, h.l0⟩

theorem rec_new {w W1 : World} {n : Nat} {K : Nat → W} (hK : Wd w 0 0 64 K) (h : (w.alloc (.cells #[.slice none 0 0, .slice none 0 0, .nilIface, .nilIface, .bool false, .bool false, .int .i64 (n : Int)] 89)).alloc (.cells #[.pointer (some ⟨w.heap.size, 0, none⟩)] 76) = W1) :
    NS w w.heap.size (w.heap.size + 1) (f0 n) K W1 ∧ Fr (fun _ => False) w W1 := by
  subst h
  have e : (w.alloc (.cells #[.slice none 0 0, .slice none 0 0, .nilIface, .nilIface, .bool false, .bool false, .int .i64 (n : Int)] 89)).heap.size = w.heap.size + 1 := by simp
  have hf : Fr (fun _ => False) w ((w.alloc (.cells #[.slice none 0 0, .slice none 0 0, .nilIface, .nilIface, .bool false, .bool false, .int .i64 (n : Int)] 89)).alloc (.cells #[.pointer (some ⟨w.heap.size, 0, none⟩)] 76)) := (Fr.alloc _ _ _ _).trans (Fr.alloc _ _ _ _)
  refine ⟨⟨⟨fun k hk => ?_, fun k _ => ?_⟩, ?_, hK.same hf, hf.mono fun _ f => f.elim, Nat.le_refl _, Nat.lt_succ_self _, hK.1⟩, hf⟩
  · rw [World.cell?_alloc_lt _ _ _ (by rw [e]; exact Nat.lt_succ_self _), World.cell?_alloc_new]
    obtain rfl | rfl | rfl | rfl | rfl | rfl | rfl : k = 0 ∨ k = 1 ∨ k = 2 ∨ k = 3 ∨ k = 4 ∨ k = 5 ∨ k = 6 := by omega
    all_goals rfl
  · rw [(Fr.alloc (fun _ => False) _ _ _).frozen, World.frozen?_alloc_new]
  · rw [← e, World.cell?_alloc_new]; rfl

/-! ### 3. The pads -/
/-- A new digest. -/
def D00 : DS := { h := H0, x := fun _ => 0#8, nx := 0, ln := 0 }
/-- The key, hashed if it is long, in 64 bytes. -/
def keyB (K : Nat → W) (key : Nat → B8) (n : Nat) (k : Nat) : B8 := if n ≤ 64 then (if k < n then key k else 0#8) else (if k < 32 then ckB K (wrS K D00 key n) k else 0#8)
def ipB (K : Nat → W) (key : Nat → B8) (n : Nat) (k : Nat) : B8 := keyB K key n k ^^^ 54#8
def opB (K : Nat → W) (key : Nat → B8) (n : Nat) (k : Nat) : B8 := keyB K key n k ^^^ 92#8

theorem xor54' : ∀ q : Fin 256, bits .xor .u8 (q.val : Int) 54 = ((BitVec.ofNat 8 q.val ^^^ 54#8).toNat : Int) := by decide +kernel
theorem xor92' : ∀ q : Fin 256, bits .xor .u8 (q.val : Int) 92 = ((BitVec.ofNat 8 q.val ^^^ 92#8).toNat : Int) := by decide +kernel
theorem xor54 (x : B8) : bits .xor .u8 (x.toNat : Int) 54 = ((x ^^^ 54#8).toNat : Int) := by
  have := xor54' ⟨x.toNat, x.isLt⟩
  rwa [BitVec.ofNat_toNat, BitVec.setWidth_eq] at this
theorem xor92 (x : B8) : bits .xor .u8 (x.toNat : Int) 92 = ((x ^^^ 92#8).toNat : Int) := by
  have := xor92' ⟨x.toNat, x.isLt⟩
  rwa [BitVec.ofNat_toNat, BitVec.setWidth_eq] at this

/-- What lies where while the pads are made. -/
structure NG (w0 : World) (b vb bi bo pi po : Nat) (F : Nat → Value) (K : Nat → W) (f g : Nat → B8) (w : World) (S T : DS) : Prop where
  n : NS w0 b vb F K w
  o : Dg w bo T
  i : Dg w bi S
  p : By w pi 0 64 f
  pn : Nf w pi 0 64
  q : By w po 0 64 g
  qn : Nf w po 0 64
  h1 : vb < bo
  h2 : bo < bi
  h3 : bi < pi
  h4 : pi < po
section
variable {w0 : World} {b vb bi bo pi po : Nat} {F : Nat → Value} {K : Nat → W} {f g : Nat → B8} {w w' : World} {S T : DS}
theorem NG.same (h : NG w0 b vb bi bo pi po F K f g w S T) (hf : Fr (fun _ => False) w w') : NG w0 b vb bi bo pi po F K f g w' S T :=
  ⟨h.n.same hf, h.o.same hf, h.i.same hf, h.p.same hf, h.pn.fr hf, h.q.same hf, h.qn.fr hf, h.h1, h.h2, h.h3, h.h4⟩
theorem NG.outer (h : NG w0 b vb bi bo pi po F K f g w S T) (hf : Fr (fun p => p.block = bo) w w') {T' : DS} (hd : Dg w' bo T') : NG w0 b vb bi bo pi po F K f g w' S T' := by
  have h1 := h.h1
  have h2 := h.h2
  have h3 := h.h3
  have h4 := h.h4
  exact ⟨h.n.far hf h1, hd, h.i.ofB hf (by omega), h.p.ofB hf (by omega), h.pn.fr hf, h.q.ofB hf (by omega), h.qn.fr hf, h1, h2, h3, h4⟩
theorem NG.inner (h : NG w0 b vb bi bo pi po F K f g w S T) (hf : Fr (fun p => p.block = bi) w w') {S' : DS} (hd : Dg w' bi S') : NG w0 b vb bi bo pi po F K f g w' S' T := by
  have h1 := h.h1
  have h2 := h.h2
  have h3 := h.h3
  have h4 := h.h4
  exact ⟨h.n.far hf (by omega), h.o.ofB hf (by omega), hd, h.p.ofB hf (by omega), h.pn.fr hf, h.q.ofB hf (by omega), h.qn.fr hf, h1, h2, h3, h4⟩
theorem NG.setP (h : NG w0 b vb bi bo pi po F K f g w S T) (hf : Fr (fun p => p.block = pi) w w') {f' : Nat → B8} (hd : By w' pi 0 64 f') : NG w0 b vb bi bo pi po F K f' g w' S T := by
  have h1 := h.h1
  have h2 := h.h2
  have h3 := h.h3
  have h4 := h.h4
  exact ⟨h.n.far hf (by omega), h.o.ofB hf (by omega), h.i.ofB hf (by omega), hd, h.pn.fr hf, h.q.ofB hf (by omega), h.qn.fr hf, h1, h2, h3, h4⟩
theorem NG.setQ (h : NG w0 b vb bi bo pi po F K f g w S T) (hf : Fr (fun p => p.block = po) w w') {g' : Nat → B8} (hd : By w' po 0 64 g') : NG w0 b vb bi bo pi po F K f g' w' S T := by
  have h1 := h.h1
  have h2 := h.h2
  have h3 := h.h3
  have h4 := h.h4
  exact ⟨h.n.far hf (by omega), h.o.ofB hf (by omega), h.i.ofB hf (by omega), h.p.ofB hf (by omega), h.pn.fr hf, hd, h.qn.fr hf, h1, h2, h3, h4⟩
theorem NG.congrP (h : NG w0 b vb bi bo pi po F K f g w S T) {f' : Nat → B8} (e : ∀ k, k < 64 → f k = f' k) : NG w0 b vb bi bo pi po F K f' g w S T := ⟨h.n, h.o, h.i, h.p.congr e, h.pn, h.q, h.qn, h.h1, h.h2, h.h3, h.h4⟩
theorem NG.congrQ (h : NG w0 b vb bi bo pi po F K f g w S T) {g' : Nat → B8} (e : ∀ k, k < 64 → g k = g' k) : NG w0 b vb bi bo pi po F K f g' w S T := ⟨h.n, h.o, h.i, h.p, h.pn, h.q.congr e, h.qn, h.h1, h.h2, h.h3, h.h4⟩
end
/-- The first i bytes have been turned. -/
def halfB (f g : Nat → B8) (i : Nat) (k : Nat) : B8 := if k < i then f k else g k
theorem halfB_next {w : World} {b i : Nat} {f g : Nat → B8} (h : By w b 0 64 (halfB f g i)) (hi : i < 64) : By (w.setCell ⟨b, i, none⟩ (.int .u8 ((f i).toNat : Int))) b 0 64 (halfB f g (i + 1)) := by
  have := h.set1 hi (f i)
  rw [Nat.zero_add] at this
  exact this.congr fun k _ => by
    unfold halfB
    by_cases e : k = i
    · subst e; rw [if_pos rfl, if_pos (by omega)]
    · by_cases hk : k < i
      · rw [if_neg e, if_pos hk, if_pos (by omega)]
      · rw [if_neg e, if_neg hk, if_neg (by omega)]
theorem halfB_at {w : World} {b i : Nat} {f g : Nat → B8} (h : By w b 0 64 (halfB f g i)) (hi : i < 64) : w.cell? ⟨b, i, none⟩ = some (.int .u8 ((g i).toNat : Int)) := by
  have := h.2 i hi
  rwa [Nat.zero_add, halfB, if_neg (Nat.lt_irrefl _)] at this
theorem inR_block {bi o n : Nat} {w w' : World} (h : Fr (inR bi o n) w w') : Fr (fun p => p.block = bi) w w' := h.mono fun _ hp => by obtain ⟨_, _, rfl⟩ := hp; rfl
theorem By.put0 {w w' : World} {b n m : Nat} {h X : Nat → B8} (hw : By w b 0 m h) (hx : By w' b 0 n X) (hf : Fr (inR b 0 n) w w') : By w' b 0 m (fun k => if k < n then X k else h k) :=
  (hw.put (p := 0) (n := n) hx hf).congr fun k _ => by
    unfold putB
    by_cases hk : k < n
    · rw [if_pos (by omega), if_pos hk, Nat.sub_zero]
    · rw [if_neg (by omega), if_neg hk]

set_option maxRecDepth 100000 in
set_option maxHeartbeats 4000000 in
theorem c47 {kb ko n c : Nat} {w : World} {K : Nat → W} {key : Nat → B8} (hK : Wd w 0 0 64 K) (hkey : By w kb ko n key) (hn : n ≤ 4096) (hc : n ≤ c) (hc2 : c ≤ 9223372036854775807) :
    Calls Try.prog 47 #[.func (.func 35) #[] #[], .slice (some ⟨kb, ko, none⟩) n c] w fun e w' => ∃ b bi bo pi po S T, e = .returned (.pointer (some ⟨b, 0, none⟩)) ∧ HM w' b bi bo (.slice (some ⟨po, 0, none⟩) 64 64) (.slice (some ⟨pi, 0, none⟩) 64 64) false ∧ Dg w' bi S ∧ S.x = (fun _ => 0#8) ∧ Dg w' bo T ∧ By w' pi 0 64 (ipB K key n) ∧ By w' po 0 64 (opB K key n) ∧ Ne5 b bi bo pi po ∧ w.heap.size ≤ b ∧ w.heap.size ≤ bi ∧ w.heap.size ≤ bo ∧ w.heap.size ≤ pi ∧ w.heap.size ≤ po ∧ Fr (fun _ => False) w w' := by
  have HKEY := hidE hkey
  have HK := hidE hK
  clear hK hkey
  go_enter Try.func47, Try.ntmps47
  go_wp2_with fail
  refine wp_gen fun W1 hW1 => ?_
  have hr := rec_new HK.out hW1
  obtain ⟨b, hb⟩ : ∃ b, b = w.heap.size := ⟨_, rfl⟩
  rw [← hb] at hr ⊢
  obtain ⟨vb, hvb⟩ : ∃ vb, vb = b + 1 := ⟨_, rfl⟩
  rw [← hvb] at hr ⊢
  have hvw : w.heap.size < vb := by omega
  have N1 := hidE hr.1
  have HKEY1 := hidE (HKEY.out.same hr.2)
  have q1 := hr.1.v
  have q2 : W1.cell? ⟨b, 2, none⟩ = some .nilIface := hr.1.r.c 2 (by decide)
  have q3 := hr.1.r.at_ (k := 2) (by decide)
  clear hW1 hr hb hvb
  go_cut [] from 10 (fun wx => ∃ bo, vb < bo ∧ NS w b vb (upF (f0 n) 2 (.iface 74 (.pointer (some ⟨bo, 0, none⟩)))) K wx ∧ Dg wx bo D00 ∧ Row0 wx bo ∧ By wx kb ko n key)
  case first =>
    have hlt := N1.out.vlt
    go_region_with (go_at_call 35; ((with_reducible refine c35r.mono ?_); rintro e w2 ⟨rfl, h1, r1, f1⟩; have q4 := f1.cell hlt (fun f => f) q1; have q5 := f1.cell N1.out.r.lt (fun f => f) q2; have q6 := (f1.frozen _).trans q3; have NX := hidE (N1.out.same ((Fr.drew _ W1).trans f1)); have HD := hidE h1; have HR0 := hidE r1; have HKX := hidE (HKEY1.out.same ((Fr.drew _ W1).trans f1)); clear f1 h1 r1))
    all_goals (go_wp2_with fail; go_meet)
    all_goals (case' rel => exact ⟨W1.heap.size, hlt, NX.out.set (by decide) _, HD.out.ofB (ofB (b := b) _) (Nat.ne_of_gt (show b < W1.heap.size from Nat.lt_trans N1.out.lv hlt)), HR0.out.fr (ofB (b := b) _), HKX.out.ofB (ofB (b := b) _) (by have := HKEY.out.1; have := N1.out.lb; omega)⟩)
  case rest =>
    obtain ⟨bo, hbo, hN, hD, hR, hKy⟩ := hcut
    have N2 := hidE hN
    have HD2 := hidE hD
    have HR2 := hidE hR
    have HKEY2 := hidE hKy
    clear hN hD hR hKy N1 HKEY1 q1 q2 q3
    have q1 := N2.out.v
    have q2 : wc.cell? ⟨b, 3, none⟩ = some .nilIface := N2.out.r.c 3 (by decide)
    have q3 := N2.out.r.at_ (k := 3) (by decide)
    go_wp2_with fail
    go_cut [] from 10 (fun wx => ∃ bi, bo < bi ∧ NS w b vb (upF (upF (f0 n) 2 (.iface 74 (.pointer (some ⟨bo, 0, none⟩)))) 3 (.iface 74 (.pointer (some ⟨bi, 0, none⟩)))) K wx ∧ Dg wx bo D00 ∧ Row0 wx bo ∧ Dg wx bi D00 ∧ Row0 wx bi ∧ By wx kb ko n key)
    case first =>
      have hlt : vb < wc.heap.size := N2.out.vlt
      have hlt2 : bo < wc.heap.size := HD2.out.h.1
      go_region_with (go_at_call 35; ((with_reducible refine c35r.mono ?_); rintro e w2 ⟨rfl, h1, r1, f1⟩; have q4 := f1.cell hlt (fun f => f) q1; have q5 := f1.cell N2.out.r.lt (fun f => f) q2; have q6 := (f1.frozen _).trans q3; have NX := hidE (N2.out.same ((Fr.drew _ wc).trans f1)); have HD := hidE h1; have HR0 := hidE r1; have HKX := hidE (HKEY2.out.same ((Fr.drew _ wc).trans f1)); have HDX := hidE (HD2.out.same ((Fr.drew _ wc).trans f1)); have HRX := hidE (HR2.out.fr ((Fr.drew (fun _ => False) wc).trans f1)); clear f1 h1 r1))
      all_goals (go_wp2_with fail; go_meet)
      all_goals (case' rel => exact ⟨wc.heap.size, hlt2, NX.out.set (by decide) _, HDX.out.ofB (ofB (b := b) _) (by have := N2.out.lv; omega), HRX.out.fr (ofB (b := b) _), HD.out.ofB (ofB (b := b) _) (Nat.ne_of_gt (show b < wc.heap.size from Nat.lt_trans N2.out.lv hlt)), HR0.out.fr (ofB (b := b) _), HKX.out.ofB (ofB (b := b) _) (by have := HKEY.out.1; have := N2.out.lb; omega)⟩)
    case rest =>
      obtain ⟨bi, hbi, hN, hD, hR, hD', hR', hKy⟩ := hcut
      obtain ⟨wd, hwd⟩ : ∃ wd, wd = wc.alloc (.cells #[.bool true] 4) := ⟨_, rfl⟩
      have hal : Fr (fun _ => False) wc wd := by rw [hwd]; exact Fr.alloc _ _ _ _
      have N3 := hidE (hN.same hal)
      have HDo := hidE (hD.same hal)
      have HDi := hidE (hD'.same hal)
      have HRo := hidE (hR.fr hal)
      have HRi := hidE (hR'.fr hal)
      have HKEY3 := hidE (hKy.same hal)
      have qu : wd.cell? ⟨wc.heap.size, 0, none⟩ = some (.bool true) := by rw [hwd, World.cell?_alloc_new]; rfl
      have hu : bi < wc.heap.size := hD'.h.1
      have HWD := hidE hwd
      clear N2 HD2 HR2 HKEY2 q1 q2 q3 hN hD hR hD' hR' hKy hal hwd
      go_wp2_with fail
      rw [← HWD.out]
      have HC := hidE (c55 (vu := wc.heap.size) N3.out.v (N3.out.r.hm rfl rfl rfl) HRo.out HRi.out (Nat.ne_of_lt hbi))
      ((with_reducible refine HC.out.mono ?_); rintro e w5 ⟨rfl, f1⟩)
      have N5 := hidE (N3.out.same f1)
      have HDo5 := hidE (HDo.out.same f1)
      have HDi5 := hidE (HDi.out.same f1)
      have HKEY5 := hidE (HKEY3.out.same f1)
      have qu5 := f1.cell (World.block_lt_of_cell? _ _ qu) (fun f => f) qu
      have q1 := N5.out.v
      have q2 : w5.cell? ⟨b, 3, none⟩ = some (.iface 74 (.pointer (some ⟨bi, 0, none⟩))) := N5.out.r.c 3 (by decide)
      have m1 := me76
      clear f1 HC N3 HDo HDi HRo HRi HKEY3 qu HWD
      go_wp2_with fail
      ((with_reducible refine c76.mono ?_); rintro e w6 ⟨rfl, rfl⟩)
      clear qu5
      have mk : ∀ w : World, (Instr.makeSlice 29 (.int .i64 64) (.int .i64 64)).run Try.prog w = .ok (.slice (some ⟨w.heap.size, 0, none⟩) 64 64) (w.alloc (zObjB 64)) := fun w => make29 64 (by decide) w
      go_wp2_with fail
      obtain ⟨Z1, Z2, Z3⟩ := zObjB_by w6 64
      have a1 := (N5.out.same Z3).v
      have a2 : (w6.alloc (zObjB 64)).cell? ⟨b, 1, none⟩ = some (.slice none 0 0) := (N5.out.same Z3).r.c 1 (by decide)
      have a3 := (N5.out.same Z3).r.at_ (k := 1) (by decide)
      clear Z1 Z2 Z3
      go_region
      obtain ⟨w7, hw7⟩ : ∃ W, W = ((w6.alloc (zObjB 64)).setCell ⟨b, 1, none⟩ (.slice (some ⟨w6.heap.size, 0, none⟩) 64 64)).drew := ⟨_, rfl⟩
      rw [← hw7]
      obtain ⟨pi, hpi⟩ : ∃ pi, pi = w6.heap.size := ⟨_, rfl⟩
      rw [← hpi] at hw7 ⊢
      obtain ⟨Z1, Z2, Z3⟩ := zObjB_by w6 64
      have hb7 := (ofB (b := b) (k := 1) (w := w6.alloc (zObjB 64)) (.slice (some ⟨pi, 0, none⟩) 64 64)).trans (Fr.drew _ _)
      have hpb : pi ≠ b := by rw [hpi]; exact Nat.ne_of_gt N5.out.r.lt
      have hbp : bi < pi := by rw [hpi]; exact HDi5.out.h.1
      have N7 := hidE (show NS w b vb (upF (upF (upF (f0 n) 2 (.iface 74 (.pointer (some ⟨bo, 0, none⟩)))) 3 (.iface 74 (.pointer (some ⟨bi, 0, none⟩)))) 1 (.slice (some ⟨pi, 0, none⟩) 64 64)) K w7 by rw [hw7]; exact ((N5.out.same Z3).set (by decide) _).same (Fr.drew _ _))
      have HDo7 := hidE (show Dg w7 bo D00 by rw [hw7]; exact (HDo5.out.same Z3).ofB hb7 (by have := N5.out.lv; omega))
      have HDi7 := hidE (show Dg w7 bi D00 by rw [hw7]; exact (HDi5.out.same Z3).ofB hb7 (by have := N5.out.lv; omega))
      have HKEY7 := hidE (show By w7 kb ko n key by rw [hw7]; exact (HKEY5.out.same Z3).ofB hb7 (by have := HKEY.out.1; have := N5.out.lb; omega))
      have HP7 := hidE (show By w7 pi 0 64 (fun _ => 0#8) by rw [← hpi] at Z1; rw [hw7]; exact Z1.ofB hb7 hpb)
      have HPn7 := hidE (show Nf w7 pi 0 64 by rw [← hpi] at Z2; rw [hw7]; exact Z2.fr hb7)
      clear Z1 Z2 Z3 hb7 hw7 hpi a1 a2 a3 q1 q2 N5 HDo5 HDi5 HKEY5
      obtain ⟨Z1, Z2, Z3⟩ := zObjB_by w7 64
      have q1 := N7.out.v
      have a1 := (N7.out.same Z3).v
      have a2 : (w7.alloc (zObjB 64)).cell? ⟨b, 0, none⟩ = some (.slice none 0 0) := (N7.out.same Z3).r.c 0 (by decide)
      have a3 := (N7.out.same Z3).r.at_ (k := 0) (by decide)
      clear Z1 Z2 Z3
      go_wp2_with fail
      go_region
      obtain ⟨w8, hw8⟩ : ∃ W, W = ((w7.alloc (zObjB 64)).setCell ⟨b, 0, none⟩ (.slice (some ⟨w7.heap.size, 0, none⟩) 64 64)).drew := ⟨_, rfl⟩
      rw [← hw8]
      obtain ⟨po, hpo⟩ : ∃ po, po = w7.heap.size := ⟨_, rfl⟩
      rw [← hpo] at hw8 ⊢
      obtain ⟨Z1, Z2, Z3⟩ := zObjB_by w7 64
      have hb8 := (ofB (b := b) (k := 0) (w := w7.alloc (zObjB 64)) (.slice (some ⟨po, 0, none⟩) 64 64)).trans (Fr.drew _ _)
      have hpb2 : po ≠ b := by rw [hpo]; exact Nat.ne_of_gt N7.out.r.lt
      have hbp2 : pi < po := by rw [hpo]; exact HP7.out.1
      have G8 := hidE (show NG w b vb bi bo pi po (upF (upF (upF (upF (f0 n) 2 (.iface 74 (.pointer (some ⟨bo, 0, none⟩)))) 3 (.iface 74 (.pointer (some ⟨bi, 0, none⟩)))) 1 (.slice (some ⟨pi, 0, none⟩) 64 64)) 0 (.slice (some ⟨po, 0, none⟩) 64 64)) K (fun _ => 0#8) (fun _ => 0#8) w8 D00 D00 by
        rw [← hpo] at Z1 Z2
        rw [hw8]
        exact ⟨((N7.out.same Z3).set (by decide) _).same (Fr.drew _ _), (HDo7.out.same Z3).ofB hb8 (by have := N7.out.lv; omega), (HDi7.out.same Z3).ofB hb8 (by have := N7.out.lv; omega), (HP7.out.same Z3).ofB hb8 hpb, (HPn7.out.fr Z3).fr hb8, Z1.ofB hb8 hpb2, Z2.fr hb8, hbo, hbi, hbp, hbp2⟩)
      have HKEY8 := hidE (show By w8 kb ko n key by rw [hw8]; exact (HKEY7.out.same Z3).ofB hb8 (by have := HKEY.out.1; have := N7.out.lb; omega))
      clear Z1 Z2 Z3 hb8 hw8 hpo a1 a2 a3 q1 N7 HDo7 HDi7 HKEY7 HP7 HPn7 mk
      obtain ⟨F, hF⟩ : ∃ F, F = (upF (upF (upF (upF (f0 n) 2 (.iface 74 (.pointer (some ⟨bo, 0, none⟩)))) 3 (.iface 74 (.pointer (some ⟨bi, 0, none⟩)))) 1 (.slice (some ⟨pi, 0, none⟩) 64 64)) 0 (.slice (some ⟨po, 0, none⟩) 64 64)) := ⟨_, rfl⟩
      rw [← hF] at G8
      have F0 : F 0 = .slice (some ⟨po, 0, none⟩) 64 64 := by rw [hF]; rfl
      have F1 : F 1 = .slice (some ⟨pi, 0, none⟩) 64 64 := by rw [hF]; rfl
      have F2 : F 2 = .iface 74 (.pointer (some ⟨bo, 0, none⟩)) := by rw [hF]; rfl
      have F3 : F 3 = .iface 74 (.pointer (some ⟨bi, 0, none⟩)) := by rw [hF]; rfl
      have F4 : F 4 = .bool false := by rw [hF]; rfl
      have HF0 := hidE F0
      have HF1 := hidE F1
      have HF2 := hidE F2
      have HF3 := hidE F3
      have HF4 := hidE F4
      clear hF F0 F1 F2 F3 F4
      have x8 := G8.out.n.lb
      have y8 := G8.out.n.lv
      go_upto_if 47 with fail
      go_cut [1] from 10 (fun v1 wx => ∃ kb' ko' n' c' key' T, v1 = .slice (some ⟨kb', ko', none⟩) n' c' ∧ n' ≤ 64 ∧ kb' ≠ pi ∧ kb' ≠ po ∧ By wx kb' ko' n' key' ∧ (∀ k, (if k < n' then key' k else 0#8) = keyB K key n k) ∧ NG w b vb bi bo pi po F K (fun _ => 0#8) (fun _ => 0#8) wx D00 T)
      case first =>
        by_cases hlong : 64 < n
        · have g1 : (64 : Int) < (n : Int) := by omega
          have q1 := G8.out.n.v
          have q2 : w8.cell? ⟨b, 2, none⟩ = some (.iface 74 (.pointer (some ⟨bo, 0, none⟩))) := HF2.out ▸ G8.out.n.r.c 2 (by decide)
          have m2 := me81
          go_wp2_with fail
          have HC := hidE (c81 G8.out.o G8.out.n.k (by omega) HKEY8.out (by have := HKEY.out.1; omega) hc hc2 hn (by show (0 : Nat) < 64; decide) (by show (0 : Nat) ≤ 4294967296; decide))
          ((with_reducible refine HC.out.mono ?_); rintro e w9 ⟨rfl, h1, f1⟩)
          have G9 := hidE (G8.out.outer f1 h1)
          have q3 := G9.out.n.v
          have q4 : w9.cell? ⟨b, 2, none⟩ = some (.iface 74 (.pointer (some ⟨bo, 0, none⟩))) := HF2.out ▸ G9.out.n.r.c 2 (by decide)
          have m3 := me79
          have HC2 := hidE (c79n G9.out.o G9.out.n.k (wr_nx (show (0 : Nat) % 64 = 0 by decide)) (by rw [wr_ln]; show 0 + n ≤ 1000000; omega))
          clear h1 f1 q1 q2 HC
          go_wp2_with fail
          ((with_reducible refine HC2.out.mono ?_); rintro e w10 ⟨gk, ck, rfl, k1, k2, k3, k4, k5, f1⟩)
          have G10 := hidE (G9.out.same f1)
          have HK4 := hidE k4
          have s1 := G9.out.p.1
          have s2 := G9.out.q.1
          clear k4 k5 f1
          go_wp2_with fail
          go_meet
          case' rel => exact ⟨gk, 0, 32, ck, ckB K (wrS K D00 key n), _, rfl, by decide, by omega, by omega, HK4.out, fun k => by rw [keyB, if_neg (show ¬ n ≤ 64 by omega)], G10.out⟩
        · have g1 : ¬ (64 : Int) < (n : Int) := by omega
          go_wp2_with fail
          go_meet
          case' rel => exact ⟨kb, ko, n, c, key, D00, rfl, by omega, by have := HKEY.out.1; have := G8.out.h3; omega, by have := HKEY.out.1; have := G8.out.h3; omega, HKEY8.out, fun k => by rw [keyB, if_pos (show n ≤ 64 by omega)], G8.out⟩
      case rest =>
        obtain ⟨kb', ko', n', c', key', T, rfl, hn', d1, d2, hky, hkk, hG⟩ := hcut
        rename_i wd
        have G := hidE hG
        have HY := hidE hky
        have HKK := hidE hkk
        have q1 := G.out.n.v
        have q2 : wc.cell? ⟨b, 1, none⟩ = some (.slice (some ⟨pi, 0, none⟩) 64 64) := HF1.out ▸ G.out.n.r.c 1 (by decide)
        have g1 := (G.out.p.sub (p := 0) (n := n') (by omega))
        have g2 := (G.out.pn.sub (p := 0) (n := n') (by omega))
        have HG1 := hidE g1
        have HG2 := hidE g2
        clear hky hkk hG G8 HKEY8 g1 g2
        have HG3 := hidE (G.out.q.sub (p := 0) (n := n') (by omega))
        have HG4 := hidE (G.out.qn.sub (p := 0) (n := n') (by omega))
        go_wp2_with (first
          | refine wpList_copy_by rfl (.tmp 62) (.tmp 63) rfl rfl rfl (m := n') (by show n' = min n' 64; omega) HG1.out HG2.out HY.out ?_; intro w9 h1 f1; have GX : Hid (NG w b vb bi bo pi po F K (keyB K key n) (fun _ => 0#8) w9 D00 T) := G.out.setP (inR_block f1) ((G.out.p.put0 h1 f1).congr fun k _ => HKK.out k); have HYX : Hid (By w9 kb' ko' n' key') := HY.out.ofB (inR_block f1) d1; have HG3X : Hid (By w9 po (0 + 0) n' (fun k => (fun _ => 0#8) (0 + k))) := HG3.out.ofB (inR_block f1) (Nat.ne_of_gt GX.out.h4); have HG4X : Hid (Nf w9 po (0 + 0) n') := HG4.out.fr f1; have q3 := GX.out.n.v; have q4 : w9.cell? ⟨b, 0, none⟩ = some (.slice (some ⟨po, 0, none⟩) 64 64) := (GX.out.n.r.c 0 (by decide)).trans (congrArg some HF0.out); clear h1 f1
          | refine wpList_copy_by rfl (.tmp 68) (.tmp 69) rfl rfl rfl (m := n') (by show n' = min n' 64; omega) HG3X.out HG4X.out HYX.out ?_; intro w10 h1 f1; have GY : Hid (NG w b vb bi bo pi po F K (keyB K key n) (keyB K key n) w10 D00 T) := GX.out.setQ (inR_block f1) ((GX.out.q.put0 h1 f1).congr fun k _ => HKK.out k); have q5 := GY.out.n.v; have q6 : w10.cell? ⟨b, 1, none⟩ = some (.slice (some ⟨pi, 0, none⟩) 64 64) := (GY.out.n.r.c 1 (by decide)).trans (congrArg some HF1.out); clear h1 f1)
        clear HG1 HG2 HG3 HG4 HG3X HG4X HY HYX HKK q1 q2 q3 q4 q5 q6
        go_loopw [76] (fun vi wr => ∃ i : Nat, i ≤ 64 ∧ vi = .int .i64 i ∧ NG w b vb bi bo pi po F K (halfB (ipB K key n) (keyB K key n) i) (keyB K key n) wr D00 T) (fun vi _ => 64 - (intOf vi).toNat)
        case atStart => exact ⟨0, by decide, rfl, GY.out.congrP fun k _ => (if_neg (Nat.not_lt_zero k)).symm⟩
        case round =>
          clear G GX GY
          obtain ⟨i, hi, rfl, hG⟩ := hrel
          have G := hidE hG
          clear hG
          by_cases hlt : i < 64
          · have q1 := G.out.n.v
            have q2 : wr.cell? ⟨b, 1, none⟩ = some (.slice (some ⟨pi, 0, none⟩) 64 64) := (G.out.n.r.c 1 (by decide)).trans (congrArg some HF1.out)
            have q3 := halfB_at G.out.p hlt
            have q4 := G.out.pn i hlt
            rw [Nat.zero_add] at q4
            go_wp2_with fail
            go_roundw
            case rel =>
              refine ⟨i + 1, by omega, by go_num, ?_⟩
              rw [xor54]
              exact G.out.setP (ofB _) (halfB_next G.out.p hlt)
            case measure => simp [intOf]; omega
          · obtain rfl : i = 64 := by omega
            have q1 := G.out.n.v
            have q2 : wr.cell? ⟨b, 0, none⟩ = some (.slice (some ⟨po, 0, none⟩) 64 64) := (G.out.n.r.c 0 (by decide)).trans (congrArg some HF0.out)
            go_wp2_with fail
            clear q1 q2
            go_loopw [94] (fun vi wr => ∃ i : Nat, i ≤ 64 ∧ vi = .int .i64 i ∧ NG w b vb bi bo pi po F K (ipB K key n) (halfB (opB K key n) (keyB K key n) i) wr D00 T) (fun vi _ => 64 - (intOf vi).toNat)
            case atStart => exact ⟨0, by decide, rfl, (G.out.congrP fun k hk => if_pos hk).congrQ fun k _ => (if_neg (Nat.not_lt_zero k)).symm⟩
            case round =>
              clear G
              obtain ⟨i, hi, rfl, hG⟩ := hrel
              have G := hidE hG
              clear hG
              by_cases hlt : i < 64
              · have q1 := G.out.n.v
                have q2 : wr.cell? ⟨b, 0, none⟩ = some (.slice (some ⟨po, 0, none⟩) 64 64) := (G.out.n.r.c 0 (by decide)).trans (congrArg some HF0.out)
                have q3 := halfB_at G.out.q hlt
                have q4 := G.out.qn i hlt
                rw [Nat.zero_add] at q4
                go_wp2_with fail
                go_roundw
                case rel =>
                  refine ⟨i + 1, by omega, by go_num, ?_⟩
                  rw [xor92]
                  exact G.out.setQ (ofB _) (halfB_next G.out.q hlt)
                case measure => simp [intOf]; omega
              · obtain rfl : i = 64 := by omega
                have G1 := hidE (G.out.congrQ fun k hk => if_pos hk)
                have q1 := G1.out.n.v
                have q2 : wr.cell? ⟨b, 3, none⟩ = some (.iface 74 (.pointer (some ⟨bi, 0, none⟩))) := (G1.out.n.r.c 3 (by decide)).trans (congrArg some HF3.out)
                have q3 : wr.cell? ⟨b, 1, none⟩ = some (.slice (some ⟨pi, 0, none⟩) 64 64) := (G1.out.n.r.c 1 (by decide)).trans (congrArg some HF1.out)
                have m2 := me81
                have n2 := ni81
                clear G
                go_wp2_with fail
                go_still_tail 10, (by kernel_rfl)
                change wpList _ _ _ _ _ wr.drew
                have hd := Fr.drew (fun _ => False) wr
                generalize wr.drew = w11 at hd ⊢
                have G2 := hidE (G1.out.same hd)
                have z1 := G2.out.n.lb
                have z2 := G2.out.n.lv
                have z0 := G2.out.n.l0
                have z3 := G2.out.h1
                have z4 := G2.out.h2
                have z5 := G2.out.h3
                have z6 := G2.out.h4
                have HC := hidE (c81 (c := 64) G2.out.i G2.out.n.k (by omega) G2.out.p (by omega) (by decide) (by decide) (by decide) (by show (0 : Nat) < 64; decide) (by show (0 : Nat) ≤ 4294967296; decide))
                clear hd G1 q1 q2 q3
                go_wp2_with fail
                ((with_reducible refine HC.out.mono ?_); rintro e w12 ⟨rfl, h1, f1⟩)
                have G3 := hidE (G2.out.inner f1 h1)
                have q1 := G3.out.n.v
                clear h1 f1 HC G2
                go_wp2_with fail
                go_ret
                refine ⟨b, bi, bo, pi, po, _, _, rfl, ?_, G3.out.i, ?_, G3.out.o, G3.out.p, G3.out.q, ⟨by omega, by omega, by omega, by omega, by omega, by omega, by omega, by omega, by omega, by omega, by omega, by omega⟩, by omega, by omega, by omega, by omega, by omega, G3.out.n.fr.strong fun p hp hm => absurd hp (Nat.not_lt.2 hm)⟩
                · have := G3.out.n.r.hm HF2.out HF3.out HF4.out
                  rwa [HF0.out, HF1.out] at this
                · show (wrS K D00 (ipB K key n) 64).x = fun _ => 0#8
                  rw [D00, wr_one]
end CI
end Go.Proofs.Yteooohmlmefbnaa
