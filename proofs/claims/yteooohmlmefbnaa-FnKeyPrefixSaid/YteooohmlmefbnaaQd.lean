/-
  The contracts of HMAC's 'Write', and of 'Reset' where the states are saved. The contract of HMAC's first 'Reset': the states are saved.
  Conditions: none.
-/
import Derived.Test.YteooohmlmefbnaaQb
import Derived.Test.YteooohmlmefbnaaNm
import Derived.Deep.RegionWith
import Derived.StillTailTactics
namespace Go.Proofs.Yteooohmlmefbnaa
namespace CI
open Go
open Go.RowKit

/-- A digest that has taken in one whole block. -/
def D0 (h : Nat → W) : DS := { h := h, x := fun _ => 0#8, nx := 0, ln := 64 }

set_option maxRecDepth 100000 in
set_option maxHeartbeats 1000000 in
theorem c51 {b bi bo bp op n c : Nat} {w : World} {vo vi : Value} {m : Bool} {S : DS} {K : Nat → W} {p : Nat → B8} (h : HM w b bi bo vo vi m) (hS : Dg w bi S) (hK : Wd w 0 0 64 K) (hb0 : bi ≠ 0) (hp : By w bp op n p) (d : bp ≠ bi) (hc : n ≤ c) (hc2 : c ≤ 9223372036854775807) (hn : n ≤ 4096) (hnx : S.nx < 64) (hln : S.ln ≤ 4294967296) :
    Calls Try.prog 51 #[.pointer (some ⟨b, 0, none⟩), .slice (some ⟨bp, op, none⟩) n c] w fun e w' => e = .returned (.tuple #[.int .i64 (n : Int), .nilIface]) ∧ Dg w' bi (wrS K S p n) ∧ Fr (fun p => p.block = bi) w w' := by
  have q := h.bi
  have hm := me81
  have HC := hidE (c81 hS hK hb0 hp d hc hc2 hn hnx hln)
  clear h hS hK hp
  go_enter Try.func51, Try.ntmps51
  go_wp2_with fail
  ((with_reducible refine HC.out.mono ?_); rintro e w1 ⟨rfl, h1, f1⟩)
  have H1 := hidE h1
  clear h1 HC
  go_wp2_with fail
  go_ret2
  exact ⟨rfl, H1.out, f1⟩

set_option maxRecDepth 100000 in
set_option maxHeartbeats 1000000 in
theorem c51n {b bi bo : Nat} {w : World} {vo vi : Value} {m : Bool} {S : DS} {K : Nat → W} {p : Nat → B8} (h : HM w b bi bo vo vi m) (hS : Dg w bi S) (hnx : S.nx = 0) (hln : S.ln ≤ 4294967296) :
    Calls Try.prog 51 #[.pointer (some ⟨b, 0, none⟩), .slice none 0 0] w fun e w' => e = .returned (.tuple #[.int .i64 0, .nilIface]) ∧ Dg w' bi (wrS K S p 0) ∧ Fr (fun p => p.block = bi) w w' := by
  have q := h.bi
  have hm := me81
  have HC := hidE (c81n (K := K) (p := p) hS hnx hln)
  clear h hS hnx hln
  go_enter Try.func51, Try.ntmps51
  go_wp2_with fail
  ((with_reducible refine HC.out.mono ?_); rintro e w1 ⟨rfl, h1, f1⟩)
  have H1 := hidE h1
  clear h1 HC
  go_wp2_with fail
  go_ret2
  exact ⟨rfl, H1.out, f1⟩

theorem neq_nil (w : World) : (binOp .neq 49 .nilIface .nilIface).run Try.prog w = .ok (.bool false) w := by kernel_rfl

set_option maxRecDepth 100000 in
set_option maxHeartbeats 1000000 in
/-- 'Reset' where the states are saved. -/
theorem c50s {b bi bo pi : Nat} {w : World} {vo : Value} {S : DS} {hi : Nat → W} (h : HM w b bi bo vo (.slice (some ⟨pi, 0, none⟩) 108 108) true) (hS : Dg w bi S) (hp : By w pi 0 108 (msB hi)) (d : pi ≠ bi) :
    Calls Try.prog 50 #[.pointer (some ⟨b, 0, none⟩)] w fun e w' => e = .returned (.tuple #[]) ∧ Dg w' bi (D0 hi) ∧ Fr (fun p => p.block = bi) w w' := by
  have q1 := h.bi
  have q2 := h.m
  have q3 := h.ip
  have hm := me80
  have ha := as_one
  have hn := ni80
  have hq := neq_nil
  have HC := hidE (c80 (hS.same (Fr.drew _ w)) (hp.same (Fr.drew _ w)) d)
  clear h hS hp
  go_enter Try.func50, Try.ntmps50
  go_wp2_with fail
  go_region_with (go_at_call 80; (with_reducible refine HC.out.mono ?_); rintro e w1 ⟨rfl, h1, f1⟩; have H1 := hidE h1; have F1 := hidE (((Fr.drew (fun p => p.block = bi) w).trans f1)); clear h1 f1)
  all_goals (go_wp2_with fail; first | go_end0 | refine bodyPost_ret (results_none rfl _ _ _) rfl ?_)
  all_goals exact ⟨rfl, H1.out, F1.out⟩

/-- The state after one block from the start. -/
def hS (K : Nat → W) (p : Nat → B8) : Nat → W := (bls K p H0 1).1
theorem wr_one (K : Nat → W) (x p : Nat → B8) : wrS K { h := H0, x := x, nx := 0, ln := 0 } p 64 = { h := hS K p, x := x, nx := 0, ln := 64 } := by
  rw [wrS, if_pos rfl, tailS]
  simp only [Nat.reduceDiv, Nat.reduceMod, putB_0, Nat.zero_add]
  rfl

/-- HMAC's blocks are apart. -/
structure Ne5 (b bi bo pi po : Nat) : Prop where
  b0 : b ≠ 0
  i0 : bi ≠ 0
  o0 : bo ≠ 0
  nbi : b ≠ bi
  nbo : b ≠ bo
  nio : bi ≠ bo
  npb : pi ≠ b
  npi : pi ≠ bi
  npo : pi ≠ bo
  nqb : po ≠ b
  nqi : po ≠ bi
  nqo : po ≠ bo

/-- What HMAC may write: its record, its digests. -/
def Hw (b bi bo : Nat) (p : MemPlace) : Prop := p.block = b ∨ p.block = bi ∨ p.block = bo

theorem Wd.ofB {w w' : World} {bi b o n : Nat} {f : Nat → W} (h : Wd w bi o n f) (hf : Fr (fun p => p.block = b) w w') (d : bi ≠ b) : Wd w' bi o n f := h.fr hf fun _ _ e => d e
theorem Dg.ofB {w w' : World} {bi b : Nat} {S : DS} (h : Dg w bi S) (hf : Fr (fun p => p.block = b) w w') (d : bi ≠ b) : Dg w' bi S := h.far hf fun _ e => d e
theorem HM.ofB {w w' : World} {b bi bo k : Nat} {vo vi : Value} {m : Bool} (h : HM w b bi bo vo vi m) (hf : Fr (fun p => p.block = k) w w') (d : b ≠ k) : HM w' b bi bo vo vi m := h.fr hf fun _ e => d e


theorem HM.setPads {w : World} {b bi bo : Nat} {vo vi vo' vi' : Value} {m : Bool} (h : HM w b bi bo vo vi m) : HM (((w.setCell ⟨b, 1, none⟩ vi').setCell ⟨b, 0, none⟩ vo').setCell ⟨b, 4, none⟩ (.bool true)) b bi bo vo' vi' true := by
  have o : ∀ (w : World) (i j : Nat) (v : Value), i ≠ j → (w.setCell ⟨b, i, none⟩ v).cell? ⟨b, j, none⟩ = w.cell? ⟨b, j, none⟩ := fun w i j v d => World.cell?_setCell_other _ _ _ _ (fun e => d (by cases e; rfl))
  refine ⟨?_, ?_, ?_, ?_, ?_, ((h.nf.fr (CI.ofB (b := b) _)).fr (CI.ofB (b := b) _)).fr (CI.ofB (b := b) _)⟩
  · rw [o _ 4 0 _ (by decide)]
    exact World.cell?_setCell_same _ _ _ ((o _ 1 0 _ (by decide)).trans h.op)
  · rw [o _ 4 1 _ (by decide), o _ 0 1 _ (by decide)]
    exact World.cell?_setCell_same _ _ _ h.ip
  · rw [o _ 4 2 _ (by decide), o _ 0 2 _ (by decide), o _ 1 2 _ (by decide)]
    exact h.bo
  · rw [o _ 4 3 _ (by decide), o _ 0 3 _ (by decide), o _ 1 3 _ (by decide)]
    exact h.bi
  · exact World.cell?_setCell_same _ _ _ ((o _ 0 4 _ (by decide)).trans ((o _ 1 4 _ (by decide)).trans h.m))

/-- What lies where while 'Reset' saves the states. -/
structure RS (w0 : World) (b bi bo pi po : Nat) (K : Nat → W) (ip op : Nat → B8) (w : World) (S T : DS) : Prop where
  hm : HM w b bi bo (.slice (some ⟨po, 0, none⟩) 64 64) (.slice (some ⟨pi, 0, none⟩) 64 64) false
  si : Dg w bi S
  so : Dg w bo T
  k : Wd w 0 0 64 K
  i : By w pi 0 64 ip
  o : By w po 0 64 op
  fr : Fr (Hw b bi bo) w0 w
  ne : Ne5 b bi bo pi po
theorem RS.same {w0 w w' : World} {b bi bo pi po : Nat} {K : Nat → W} {ip op : Nat → B8} {S T : DS} (h : RS w0 b bi bo pi po K ip op w S T) (hf : Fr (fun _ => False) w w') : RS w0 b bi bo pi po K ip op w' S T :=
  ⟨h.hm.same hf, h.si.same hf, h.so.same hf, h.k.same hf, h.i.same hf, h.o.same hf, h.fr.trans (hf.mono fun _ f => f.elim), h.ne⟩
theorem RS.inner {w0 w w' : World} {b bi bo pi po : Nat} {K : Nat → W} {ip op : Nat → B8} {S S' T : DS} (h : RS w0 b bi bo pi po K ip op w S T) (hd : Dg w' bi S') (hf : Fr (fun p => p.block = bi) w w') : RS w0 b bi bo pi po K ip op w' S' T :=
  ⟨h.hm.ofB hf h.ne.nbi, hd, h.so.ofB hf h.ne.nio.symm, h.k.ofB hf h.ne.i0.symm, h.i.ofB hf h.ne.npi, h.o.ofB hf h.ne.nqi, h.fr.trans (hf.mono fun _ e => .inr (.inl e)), h.ne⟩
theorem RS.outer {w0 w w' : World} {b bi bo pi po : Nat} {K : Nat → W} {ip op : Nat → B8} {S T T' : DS} (h : RS w0 b bi bo pi po K ip op w S T) (hd : Dg w' bo T') (hf : Fr (fun p => p.block = bo) w w') : RS w0 b bi bo pi po K ip op w' S T' :=
  ⟨h.hm.ofB hf h.ne.nbo, h.si.ofB hf h.ne.nio, hd, h.k.ofB hf h.ne.o0.symm, h.i.ofB hf h.ne.npo, h.o.ofB hf h.ne.nqo, h.fr.trans (hf.mono fun _ e => .inr (.inr e)), h.ne⟩

set_option maxRecDepth 100000 in
set_option maxHeartbeats 2000000 in
theorem c50f {b bi bo pi po : Nat} {w : World} {S T : DS} {K : Nat → W} {ip op : Nat → B8} (h : HM w b bi bo (.slice (some ⟨po, 0, none⟩) 64 64) (.slice (some ⟨pi, 0, none⟩) 64 64) false) (hS1 : Dg w bi S) (hx : S.x = fun _ => 0#8) (hT : Dg w bo T) (hK : Wd w 0 0 64 K) (hi : By w pi 0 64 ip) (ho : By w po 0 64 op) (ne : Ne5 b bi bo pi po) :
    Calls Try.prog 50 #[.pointer (some ⟨b, 0, none⟩)] w fun e w' => ∃ gi go, e = .returned (.tuple #[]) ∧ w.heap.size ≤ gi ∧ w.heap.size ≤ go ∧ HM w' b bi bo (.slice (some ⟨go, 0, none⟩) 108 108) (.slice (some ⟨gi, 0, none⟩) 108 108) true ∧ Dg w' bi (D0 (hS K ip)) ∧ (∃ T, Dg w' bo T) ∧ By w' gi 0 108 (msB (hS K ip)) ∧ By w' go 0 108 (msB (hS K op)) ∧ Fr (Hw b bi bo) w w' := by
  have q1 := h.bi
  have q2 := h.m
  have m1 := me53
  have m2 := me81
  have m3 := me77
  have n2 := ni81
  have ha := as_ok
  have hq := neq_nil
  have R0 : Hid (RS w b bi bo pi po K ip op w S T) := hidE ⟨h, hS1, hT, hK, hi, ho, Fr.refl _ _, ne⟩
  have HX := hidE hx
  clear h hS1 hx hT hK hi ho ne
  go_enter Try.func50, Try.ntmps50
  go_wp2_with fail
  ((with_reducible refine (c53 R0.out.si).mono ?_); rintro e w1 ⟨rfl, h1, f1⟩)
  have R1 : Hid (RS w b bi bo pi po K ip op w1 { h := H0, x := fun _ => 0#8, nx := 0, ln := 0 } T) := hidE (R0.out.inner (by rw [HX.out] at h1; exact h1) f1)
  have q3 := R1.out.hm.bi
  have q4 := R1.out.hm.ip
  clear h1 f1 q1 q2 R0 HX
  go_wp2_with fail
  go_still_tail 10, (by kernel_rfl)
  change wpList _ _ _ _ _ w1.drew
  have hd := Fr.drew (fun _ => False) w1
  generalize w1.drew = w2 at hd ⊢
  have R2 := hidE (R1.out.same hd)
  clear hd R1 q3 q4
  go_wp2_with fail
  ((with_reducible refine (c81 R2.out.si R2.out.k R2.out.ne.i0 R2.out.i R2.out.ne.npi (by decide) (by decide) (by decide) (by decide) (by decide)).mono ?_); rintro e w3 ⟨rfl, h1, f1⟩)
  have R3 : Hid (RS w b bi bo pi po K ip op w3 (D0 (hS K ip)) T) := hidE (R2.out.inner (by rw [wr_one] at h1; exact h1) f1)
  have q3 := R3.out.hm.bi
  have q4 := R3.out.hm.bo
  clear h1 f1 R2
  go_wp2_with fail
  ((with_reducible refine (c77 R3.out.si rfl rfl).mono ?_); rintro e w4 ⟨gi, rfl, g1, h1, f1⟩)
  have R4 := hidE (R3.out.same f1)
  have HGI := hidE h1
  have hgi : w.heap.size ≤ gi := Nat.le_trans R3.out.fr.size g1
  have dgi : gi ≠ bo := fun e => by
    have := R3.out.so.h.1
    omega
  have dgb : gi ≠ b := fun e => by
    have := R3.out.hm.lt
    omega
  have q5 := R4.out.hm.bo
  clear h1 f1 R3 q3 q4 g1
  go_wp2_with fail
  ((with_reducible refine (c53 R4.out.so).mono ?_); rintro e w5 ⟨rfl, h1, f1⟩)
  have R5 := hidE (R4.out.outer h1 f1)
  have HGI5 := hidE (HGI.out.ofB f1 dgi)
  have q3 := R5.out.hm.bo
  have q4 := R5.out.hm.op
  clear h1 f1 q5 R4 HGI
  go_wp2_with fail
  go_still_tail 10, (by kernel_rfl)
  change wpList _ _ _ _ _ w5.drew
  have hd := Fr.drew (fun _ => False) w5
  generalize w5.drew = w6 at hd ⊢
  have R6 := hidE (R5.out.same hd)
  have HGI6 := hidE (HGI5.out.same hd)
  clear hd R5 q3 q4 HGI5
  go_wp2_with fail
  ((with_reducible refine (c81 R6.out.so R6.out.k R6.out.ne.o0 R6.out.o R6.out.ne.nqo (by decide) (by decide) (by decide) (by show (0 : Nat) < 64; decide) (by show (0 : Nat) ≤ 4294967296; decide)).mono ?_); rintro e w7 ⟨rfl, h1, f1⟩)
  have R7 := hidE (R6.out.outer h1 f1)
  have HGI7 := hidE (HGI6.out.ofB f1 dgi)
  clear h1 f1 R6 HGI6
  go_wp2_with fail
  ((with_reducible refine (c77 R7.out.so (by rw [wr_one]) (by rw [wr_one])).mono ?_); rintro e w8 ⟨go, rfl, g1, h1, f1⟩)
  have R8 := hidE (R7.out.same f1)
  have HGO := hidE (show By w8 go 0 108 (msB (hS K op)) by rw [wr_one] at h1; exact h1)
  have HGI8 := hidE (HGI7.out.same f1)
  have hgo : w.heap.size ≤ go := Nat.le_trans R7.out.fr.size g1
  have dgo : go ≠ b := fun e => by
    have := R7.out.hm.lt
    omega
  have q0 := R8.out.hm.op
  have q1 := R8.out.hm.ip
  have q2 := R8.out.hm.m
  have f0 := R8.out.hm.at_ (k := 0) (by decide)
  have f4 := R8.out.hm.at_ (k := 4) (by decide)
  have f5 := R8.out.hm.at_ (k := 1) (by decide)
  clear h1 f1 R7 HGI7 g1
  go_wp2_with fail
  go_end0
  have hf := ((ofB (b := b) (k := 1) (w := w8) (Value.slice (some ⟨gi, 0, none⟩) 108 108)).trans (ofB (k := 0) (.slice (some ⟨go, 0, none⟩) 108 108))).trans (ofB (k := 4) (.bool true))
  exact ⟨gi, go, rfl, hgi, hgo, R8.out.hm.setPads, R8.out.si.ofB hf R8.out.ne.nbi.symm, ⟨_, R8.out.so.ofB hf R8.out.ne.nbo.symm⟩, HGI8.out.ofB hf dgb, HGO.out.ofB hf dgo, R8.out.fr.trans (hf.mono fun _ e => .inl e)⟩
end CI
end Go.Proofs.Yteooohmlmefbnaa
