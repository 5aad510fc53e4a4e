/-
  The statement 'Rows.FnBlockMixSaid': for every input the law FnBlockMix returns true: blocks are mixed as RFC 7914 says.
  Conditions: none beyond the law's own (outside its bounds the law returns true at once).
  The frame (from 'THE ROW's STEP' on) was laid by the kit's proof-skeleton; the walk is ours.
-/
import Derived.Test.YteooohmlmefbnaaKc
import Derived.Test.YteooohmlmefbnaaRows
import Derived.Deep.QuietTactic
import Derived.BigQuiet
import Derived.WalkKit
import Derived.ProofKit
import Derived.OpenShut
import Derived.ShutString
import Derived.ChangeOld
import Derived.Below
namespace Go.Proofs.Yteooohmlmefbnaa.fnBlockMix
open Go.ChangeShapes Go.WideShapes Go.ChangeAt Go.RowKit
open Go.ChangeMaps (open_string shut_string)
open CI
set_option linter.unusedVariables false

theorem own : ownKnob Try.prog.godebug = none := by kernel_rfl
theorem laidOut : laidOutB Try.prog = true := by kernel_rfl

/-- WHAT THE WALK IS TOLD OF A SLICE OF INTEGERS THAT CAME IN: it is nil; or it leads to a row of 'cap' cells, the numbers 'zs' (the first 'len' are its elements, the rest its spare room), each fitting its kind. -/
def IsRow (k : IntKind) (w : World) (a : Option Addr) (len cap : Nat) (zs : List Int) : Prop :=
  (a = none ∧ len = 0 ∧ cap = 0 ∧ zs = []) ∨
  ∃ x, a = some x ∧ len ≤ cap ∧ cap ≤ maxLen ∧ zs.length = cap ∧ (∀ i, i < zs.length → w.cell? (x.add i) = some (.int k (zs.getD i 0))) ∧ ∀ n ∈ zs, (Lit.int k n).wf = true

/-! ### THE WALK -/
theorem words_of {w : World} {x : Addr} {n : Nat} {zs : List Int} (hn : 0 < n) (hz : n ≤ zs.length) (hcell : ∀ i, i < zs.length → w.cell? (x.add i) = some (.int .u32 (zs.getD i 0))) (hwf : ∀ v ∈ zs, (Lit.int .u32 v).wf = true) :
    ∃ b o f, x = ⟨b, o, none⟩ ∧ Wd w b o n f := by
  obtain ⟨b, o, spot⟩ := x
  have h0 := hcell 0 (by omega)
  have hspot : spot = none := by simpa [Addr.add] using World.cell?_spot h0
  subst hspot
  have h00 : w.cell? ⟨b, o, none⟩ = some (.int .u32 (zs.getD 0 0)) := by simpa [Addr.add] using h0
  refine ⟨b, o, fun k => BitVec.ofInt 32 (zs.getD k 0), rfl, World.block_lt_of_cell? w _ h00, fun k hk => ?_⟩
  have := hcell k (by omega)
  rw [addr_add] at this
  rw [this]
  have hb := bounds_u32 (hwf (zs.getD k 0) (by
    have e : zs.getD k 0 = zs[k]'(by omega) := by simp [List.getD, List.getElem?_eq_getElem (show k < zs.length by omega)]
    rw [e]; exact List.getElem_mem _))
  congr 2
  simp only [BitVec.toNat_ofInt]
  omega

set_option maxHeartbeats 400000 in
theorem skip (a0 : Option Addr) (len0 cap0 : Nat) (a1 : Int) (w : World) (hl : (len0 : Int) ≤ 9223372036854775807) (h1 : -9223372036854775808 ≤ a1) (h2 : a1 ≤ 9223372036854775807) (h : (2147483647 : Int) < len0 ∨ a1 < 1 ∨ 16 < a1 ∨ (len0 : Int) ≠ 32 * a1) :
    Calls Try.prog 4 #[.slice a0 len0 cap0, .int .i64 a1] w fun e w' => e = .returned (.bool true) ∧ Fr (fun _ => False) w w' := by
  by_cases g0 : (2147483647 : Int) < len0
  · clear h
    go_enter Try.func4, Try.ntmps4
    go_wp2
    go_ret
    exact ⟨rfl, Fr.refl _ _⟩
  · by_cases g1 : a1 < 1
    · clear h
      go_enter Try.func4, Try.ntmps4
      go_wp2
      go_ret
      exact ⟨rfl, Fr.refl _ _⟩
    · by_cases g2 : 16 < a1
      · clear h
        go_enter Try.func4, Try.ntmps4
        go_wp2
        go_ret
        exact ⟨rfl, Fr.refl _ _⟩
      · have g3 : ((len0 : Int) != 32 * a1) = true := by
          have : (len0 : Int) ≠ 32 * a1 := by omega
          simpa using this
        have g4 : 32 * a1 ≤ 1000 := by omega
        clear h
        go_enter Try.func4, Try.ntmps4
        go_wp2
        go_ret
        exact ⟨rfl, Fr.refl _ _⟩

set_option maxHeartbeats 1000000 in
theorem main (b o n c r : Nat) (f : Nat → W) (w : World) (hw : Wd w b o n f) (h1 : 1 ≤ r) (h2 : r ≤ 16) (hn : n = 32 * r) (hc : n ≤ c) :
    Calls Try.prog 4 #[.slice (some ⟨b, o, none⟩) n c, .int .i64 (r : Int)] w fun e w' => e = .returned (.bool true) ∧ Fr (fun _ => False) w w' := by
  have k1 : ¬ (r : Int) < 1 := by omega
  have k2 : ¬ (16 : Int) < r := by omega
  have k3 : (32 : Int) * r ≤ 1000 := by omega
  have k4 : ((n : Int) != 32 * (r : Int)) = false := by subst hn; simp
  have k5 : n ≤ 512 := by omega
  have HN : Hid (n = 32 * r) := hn
  have HW : Hid (Wd w b o n f) := hw
  clear hn hw
  go_enter Try.func4, Try.ntmps4
  go_wp2_with fail
  ((with_reducible refine (c12 h1 h2 HN.out HW.out).mono ?_); rintro e w1 ⟨q, p, rfl, hq, hw1, hf1⟩)
  have HW1 := hidE hw1
  clear hw1
  go_wp2_with fail
  ((with_reducible refine (c13 h1 h2 HN.out (HW.out.same hf1) hc).mono ?_); rintro e w2 ⟨q2, cap2, rfl, hq2, hc2, hw2, hf2⟩)
  have HW2 := hidE hw2
  clear hw2
  go_wp2_with fail
  go_loopw [37] (fun i wr => ∃ k : Nat, k ≤ n ∧ i = .int .i64 k ∧ ∃ nq, wr = w2.drewN nq) (fun i _ => n - (intOf i).toNat)
  case atStart => exact ⟨0, Nat.zero_le _, rfl, 0, rfl⟩
  case round =>
    obtain ⟨k, hk, rfl, nq, rfl⟩ := hrel
    by_cases hlt : k < n
    · have g1 := (HW1.out.same hf2).2 k hlt
      have g2 := HW2.out.2 k hlt
      rw [Nat.zero_add] at g2
      go_wp2
      go_quiet (fail)
      go_wp2
      go_roundw
      case rel => exact ⟨k + 1, by omega, by go_num, _, rfl⟩
      case measure => simp [intOf]; omega
    · go_wp2
      go_ret
      exact ⟨rfl, (hf1.trans hf2).drewN nq⟩

theorem walk (a0 : Option Addr) (len0 cap0 : Nat) (z0 : List Int) (a1 : Int) (w : World) (w0 : IsRow .u32 w a0 len0 cap0 z0) (w1 : (Lit.int .i64 a1).wf = true) :
    Calls Try.prog 4 #[.slice a0 len0 cap0, .int .i64 a1] w fun e w' => e = .returned (.bool true) ∧ Below w.heap.size w w' := by
  have hb := bounds_i64 w1
  by_cases h : (2147483647 : Int) < len0 ∨ a1 < 1 ∨ 16 < a1 ∨ (len0 : Int) ≠ 32 * a1
  · refine (skip a0 len0 cap0 a1 w ?_ hb.1 hb.2 h).mono fun e w' ⟨h1, h2⟩ => ⟨h1, h2.below⟩
    rcases w0 with ⟨_, rfl, _, _⟩ | ⟨x, _, hl, hm, _⟩
    · omega
    · unfold maxLen at hm; omega
  · obtain ⟨r, rfl⟩ : ∃ r : Nat, a1 = r := ⟨a1.toNat, by omega⟩
    rcases w0 with ⟨_, rfl, _, _⟩ | ⟨x, rfl, hl, hm, hz, hcell, hwf⟩
    · omega
    · obtain ⟨b, o, f, rfl, hw⟩ := words_of (n := len0) (by omega) (by omega) hcell hwf
      exact (main b o len0 cap0 r f w hw (by omega) (by omega) (by omega) hl).mono fun e w' ⟨h1, h2⟩ => ⟨h1, h2.below⟩

/-! ### THE ROW's STEP: WRITTEN OUT: LEAVE IT -/
set_option maxRecDepth 100000 in
theorem lifted (os : Os) (started : os.Started) (H : Type) (enc : TypeId × Value → H) :
    ReturnsInHanded {} Try.checked os 4 .any (Rows.fnBlockMixSpec.pre6 enc Try.prog Try.f4 Rows.fnBlockMixRow.domain false) (Rows.fnBlockMixSpec.post enc Try.prog Try.f4 false true false false) := by
  refine returnsInHanded_of_change (C := Try.checked) own started (by kernel_rfl) Try.func4
    (ChangeSpec.witness6 (enc := enc) (C := Try.checked) false ⟨#[], #[.slice none 0 0, .int .i64 0], []⟩ 8 (by kernel_rfl) (by kernel_rfl) (by kernel_rfl) (by kernel_rfl)) ?_
  intro W base args ds gs before hval0 hW hcnd _
  have hval : ∀ (j : Nat) t v, Try.f4.params[j]? = some t → args[j]? = some v → Value.okWide Try.prog W .any base t v := hval0
  have hW' := hW
  obtain ⟨p, q, hA0, hV, rfl, hfz, hnd⟩ := hW
  have hA : DataW.TrodAll enc Try.prog W 0 (fun _ => true) true Try.f4.params.toList args.toList ds p := hA0
  rw [Try.params4] at hA hval
  obtain ⟨v0, vs0, d0, ds0, p0, q0, hargs, rfl, rfl, h0, r0⟩ := trodAll_cons hA
  obtain ⟨v1, vs1, d1, ds1, p1, q1, rfl, rfl, rfl, h1, r1⟩ := trodAll_cons r0
  obtain ⟨rfl, rfl, rfl⟩ := trodAll_nil r1
  obtain rfl : args = #[v0, v1] := by cases args; simp_all
  obtain ⟨rfl, rfl⟩ := trodVars_none hV
  obtain ⟨a0, len0, cap0, rfl⟩ := okWide_slice Try.underlying26 (hval 0 26 v0 rfl rfl)
  have k0 := h0
  have lt0 : ∀ x ∈ p0, x.block < W.heap.size := by obtain ⟨m, hm⟩ := k0; exact DataW.trod_lt m _ _ _ hm
  obtain ⟨z0, w0⟩ : ∃ zs, IsRow .u32 W a0 len0 cap0 zs := by
    obtain ⟨fuel, hf⟩ := h0
    rcases open_ints Try.underlying26 Try.underlying22 (by kernel_rfl) hf with ⟨hcs, _⟩ | ⟨x, l, c, zs, hcs, _, hl, hm, hz, _, hcell, hwz⟩
    · simp [Value.cells] at hcs
      obtain ⟨rfl, rfl, rfl⟩ := hcs
      exact ⟨[], .inl ⟨rfl, rfl, rfl, rfl⟩⟩
    · simp [Value.cells] at hcs
      obtain ⟨rfl, rfl, rfl⟩ := hcs
      exact ⟨zs, .inr ⟨_, rfl, hl, hm, by simpa using hz, hcell, hwz⟩⟩
  obtain ⟨a1, rfl, rfl, rfl, w1⟩ := open_int Try.underlying3 (hval 1 3 v1 rfl rfl) h1
  clear hA0 hval0
  refine (walk a0 len0 cap0 z0 a1 W w0 w1).mono fun e W' ⟨he, bel⟩ => ?_
  subst he
  exact ⟨_, rfl, _, _, _, [], _, [], hW', trodAll_mk1 (shut_bool Try.underlying4 _), (trodAll_cons_mk (Below.trod laidOut (by kernel_rfl) (of_decide_eq_true (by kernel_rfl)) k0 bel lt0) (trodAll_cons_mk (shut_int Try.underlying3 w1) trodAll_mk0)), rfl, bel.frame _, fun h => by cases h⟩

theorem over : Rows.fnBlockMixRow.holds Try.pinned (OpenSpec.ofChange Rows.fnBlockMixSpec) :=
  OpenClaim.holds_of_wide 4 Try.f4 rfl rfl rfl rfl rfl rfl rfl ⟨rfl, rfl, rfl, rfl, rfl⟩ rfl rfl rfl rfl rfl (by kernel_rfl) Try.func4 (by kernel_rfl)
    (of_decide_eq_true (by kernel_rfl)) (by unfold Func.isWrapper; first | (rw [if_pos (by decide +kernel)]; kernel_rfl) | (rw [if_neg (by decide +kernel)]; exact ⟨rfl, rfl⟩))
    (fun os started H enc _ => lifted os started H enc)

/-- ████ THE STATEMENT ████ -/
theorem proved : Rows.FnBlockMixSaid := over
#print axioms proved
end Go.Proofs.Yteooohmlmefbnaa.fnBlockMix
