/-
  The statement 'Rows.FnROMixSaid': for every input the law FnROMix returns true: bytes are mixed with n copies as RFC 7914 says.
  Conditions: none beyond the law's own (outside its bounds the law returns true at once).
  The frame (from 'THE ROW's STEP' on) was laid by the kit's proof-skeleton; the walk is ours.
-/
import Derived.Test.YteooohmlmefbnaaMb
import Derived.Test.YteooohmlmefbnaaMc
import Derived.Test.YteooohmlmefbnaaRows
import Derived.WalkKit
import Derived.ProofKit
import Derived.OpenShut
import Derived.ShutString
import Derived.ChangeOld
import Derived.Below
namespace Go.Proofs.Yteooohmlmefbnaa.fnROMix
open Go.ChangeShapes Go.WideShapes Go.ChangeAt Go.RowKit
open Go.ChangeMaps (open_string shut_string)
open CI
set_option linter.unusedVariables false

theorem own : ownKnob Try.prog.godebug = none := by kernel_rfl
theorem laidOut : laidOutB Try.prog = true := by kernel_rfl

/-- WHAT THE WALK IS TOLD OF A SLICE OF INTEGERS THAT CAME IN: it is nil; or it leads to a row of 'cap' cells, the numbers 'zs' (the first 'len' are its elements, the rest its spare room), each fitting its kind. -/
def IsRow (k : IntKind) (w : World) (a : Option Addr) (len cap : Nat) (zs : List Int) : Prop :=
  (a = none ∧ len = 0 ∧ cap = 0 ∧ zs = []) ∨
  ∃ x, a = some x ∧ len ≤ cap ∧ cap ≤ maxLen ∧ zs.length = cap ∧ (∀ i, i < zs.length → w.cell? (x.add i) = some (.int k (zs.getD i 0))) ∧ ∀ n ∈ zs, (Lit.int k n).wf = true

/-! ### THE WALK -/
theorem bytes_of {w : World} {x : Addr} {n : Nat} {zs : List Int} (hn : 0 < n) (hz : n ≤ zs.length) (hcell : ∀ i, i < zs.length → w.cell? (x.add i) = some (.int .u8 (zs.getD i 0))) (hwf : ∀ v ∈ zs, (Lit.int .u8 v).wf = true) :
    ∃ b o f, x = ⟨b, o, none⟩ ∧ By w b o n f := by
  obtain ⟨b, o, spot⟩ := x
  have h0 := hcell 0 (by omega)
  have hspot : spot = none := by simpa [Addr.add] using World.cell?_spot h0
  subst hspot
  have h00 : w.cell? ⟨b, o, none⟩ = some (.int .u8 (zs.getD 0 0)) := by simpa [Addr.add] using h0
  refine ⟨b, o, fun k => BitVec.ofInt 8 (zs.getD k 0), rfl, World.block_lt_of_cell? w _ h00, fun k hk => ?_⟩
  have := hcell k (by omega)
  rw [addr_add] at this
  rw [this]
  have hb := bounds_u8 (hwf (zs.getD k 0) (by
    have e : zs.getD k 0 = zs[k]'(by omega) := by simp [List.getD, List.getElem?_eq_getElem (show k < zs.length by omega)]
    rw [e]; exact List.getElem_mem _))
  congr 2
  simp only [BitVec.toNat_ofInt]
  omega

set_option maxRecDepth 100000 in
set_option maxHeartbeats 400000 in
theorem skip (a0 : Option Addr) (len0 cap0 : Nat) (a1 a2 : Int) (w : World) (hl : (len0 : Int) ≤ 9223372036854775807) (h1 : -9223372036854775808 ≤ a1) (h2 : a1 ≤ 9223372036854775807) (h3 : -9223372036854775808 ≤ a2) (h4 : a2 ≤ 9223372036854775807)
    (h : (2147483647 : Int) < len0 ∨ a1 < 1 ∨ 8 < a1 ∨ (len0 : Int) ≠ 128 * a1 ∨ a2 < 2 ∨ 64 < a2) :
    Calls Try.prog 5 #[.slice a0 len0 cap0, .int .i64 a1, .int .i64 a2] w fun e w' => e = .returned (.bool true) ∧ Fr (fun _ => False) w w' := by
  by_cases g0 : (2147483647 : Int) < len0
  · clear h
    go_enter Try.func5, Try.ntmps5
    go_wp2
    go_ret
    exact ⟨rfl, Fr.refl _ _⟩
  · by_cases g1 : a1 < 1
    · clear h
      go_enter Try.func5, Try.ntmps5
      go_wp2
      go_ret
      exact ⟨rfl, Fr.refl _ _⟩
    · by_cases g2 : 8 < a1
      · clear h
        go_enter Try.func5, Try.ntmps5
        go_wp2
        go_ret
        exact ⟨rfl, Fr.refl _ _⟩
      · have g4 : 128 * a1 ≤ 2000 := by omega
        by_cases gl : (len0 : Int) ≠ 128 * a1
        · have g3 : ((len0 : Int) != 128 * a1) = true := by simpa using gl
          clear h gl
          go_enter Try.func5, Try.ntmps5
          go_wp2
          go_ret
          exact ⟨rfl, Fr.refl _ _⟩
        · have g3 : ((len0 : Int) != 128 * a1) = false := by simpa using gl
          clear gl
          by_cases g5 : a2 < 2
          · clear h
            go_enter Try.func5, Try.ntmps5
            go_wp2
            go_ret
            exact ⟨rfl, Fr.refl _ _⟩
          · have g6 : 64 < a2 := by
              have : ¬ (len0 : Int) ≠ 128 * a1 := by simpa using g3
              omega
            clear h
            go_enter Try.func5, Try.ntmps5
            go_wp2
            go_ret
            exact ⟨rfl, Fr.refl _ _⟩

set_option maxRecDepth 100000 in
set_option maxHeartbeats 1000000 in
theorem notPow (a0 : Option Addr) (len0 cap0 r N : Nat) (w : World) (h1 : 1 ≤ r) (h2 : r ≤ 8) (hl : len0 = 128 * r) (hN1 : 2 ≤ N) (hN2 : N ≤ 64) (hP : ¬ Pw N) :
    Calls Try.prog 5 #[.slice a0 len0 cap0, .int .i64 (r : Int), .int .i64 (N : Int)] w fun e w' => e = .returned (.bool true) ∧ Fr (fun _ => False) w w' := by
  have b1 : len0 ≤ 1024 := by omega
  have b2 : (128 : Int) * (r : Int) ≤ 2000 := by omega
  have b3 : ((len0 : Int) != 128 * (r : Int)) = false := by subst hl; simp
  have HP := hidE hP
  clear hP hl
  go_enter Try.func5, Try.ntmps5
  go_wp2_with fail
  ((with_reducible refine (c14_false N (by omega) HP.out _).mono ?_); rintro e w1 ⟨rfl, rfl⟩)
  go_wp2_with fail
  go_ret
  exact ⟨rfl, Fr.refl _ _⟩

set_option maxRecDepth 100000 in
set_option maxHeartbeats 1000000 in
theorem main (bb ob len0 cap0 r N : Nat) (B : Nat → B8) (w : World) (hB : By w bb ob len0 B) (h1 : 1 ≤ r) (h2 : r ≤ 8) (hl : len0 = 128 * r) (hN1 : 2 ≤ N) (hN2 : N ≤ 64) (hP : Pw N) :
    Calls Try.prog 5 #[.slice (some ⟨bb, ob, none⟩) len0 cap0, .int .i64 (r : Int), .int .i64 (N : Int)] w fun e w' => e = .returned (.bool true) ∧ Fr (fun _ => False) w w' := by
  have b1 : len0 ≤ 1024 := by omega
  have b2 : (128 : Int) * (r : Int) ≤ 2000 := by omega
  have b3 : ((len0 : Int) != 128 * (r : Int)) = false := by subst hl; simp
  obtain ⟨kN, hk⟩ := hP
  have hk1 : kN + 1 ≤ 6 := by
    refine Nat.le_of_not_lt fun hlt => ?_
    have : 2 ^ 7 ≤ 2 ^ (kN + 1) := Nat.pow_le_pow_right (by omega) hlt
    omega
  have HPw : Hid (Pw N) := hidE ⟨kN, hk⟩
  have HK := hidE hk
  have HL := hidE hl
  have HB := hidE hB
  clear hk hl hB
  go_enter Try.func5, Try.ntmps5
  go_wp2_with fail
  ((with_reducible refine (c14_true N (by omega) HPw.out _).mono ?_); rintro e w0 ⟨rfl, rfl⟩)
  go_wp2_with fail
  ((with_reducible refine (c16 h1 h2 HK.out (by omega) hk1 HL.out HB.out).mono ?_); rintro e w1 ⟨g, cap, rfl, hc, hg, hb1, hf1⟩)
  have HB1 := hidE hb1
  clear hb1
  go_wp2_with fail
  ((with_reducible refine (c17 h1 h2 rfl HK.out (by omega) hk1 HL.out (HB.out.same hf1)).mono ?_); rintro e w2 ⟨g2, p2, cap2, rfl, hb2, hf2⟩)
  have HB2 := hidE hb2
  clear hb2
  go_wp2_with fail
  ((with_reducible refine (c15 (HB1.out.same hf2) HB2.out).mono ?_); rintro e w3 ⟨rfl, rfl⟩)
  go_wp2_with fail
  go_ret
  exact ⟨rfl, hf1.trans hf2⟩

theorem walk (a0 : Option Addr) (len0 cap0 : Nat) (z0 : List Int) (a1 : Int) (a2 : Int) (w : World) (w0 : IsRow .u8 w a0 len0 cap0 z0) (w1 : (Lit.int .i64 a1).wf = true) (w2 : (Lit.int .i64 a2).wf = true) :
    Calls Try.prog 5 #[.slice a0 len0 cap0, .int .i64 a1, .int .i64 a2] w fun e w' => e = .returned (.bool true) ∧ Below w.heap.size w w' := by
  have hb := bounds_i64 w1
  have hb2 := bounds_i64 w2
  by_cases h : (2147483647 : Int) < len0 ∨ a1 < 1 ∨ 8 < a1 ∨ (len0 : Int) ≠ 128 * a1 ∨ a2 < 2 ∨ 64 < a2
  · refine (skip a0 len0 cap0 a1 a2 w ?_ hb.1 hb.2 hb2.1 hb2.2 h).mono fun e w' ⟨h1, h2⟩ => ⟨h1, h2.below⟩
    rcases w0 with ⟨_, rfl, _, _⟩ | ⟨x, _, hl, hm, _⟩
    · omega
    · unfold maxLen at hm; omega
  · obtain ⟨r, rfl⟩ : ∃ r : Nat, a1 = r := ⟨a1.toNat, by omega⟩
    obtain ⟨N, rfl⟩ : ∃ N : Nat, a2 = N := ⟨a2.toNat, by omega⟩
    rcases w0 with ⟨_, rfl, _, _⟩ | ⟨x, rfl, hl, hm, hz, hcell, hwf⟩
    · omega
    · by_cases hP : Pw N
      · obtain ⟨b, o, f, rfl, hw⟩ := bytes_of (n := len0) (by omega) (by omega) hcell hwf
        exact (main b o len0 cap0 r N f w hw (by omega) (by omega) (by omega) (by omega) (by omega) hP).mono fun e w' ⟨h1, h2⟩ => ⟨h1, h2.below⟩
      · exact (notPow _ len0 cap0 r N w (by omega) (by omega) (by omega) (by omega) (by omega) hP).mono fun e w' ⟨h1, h2⟩ => ⟨h1, h2.below⟩

/-! ### THE ROW's STEP: WRITTEN OUT: LEAVE IT -/
set_option maxRecDepth 100000 in
theorem lifted (os : Os) (started : os.Started) (H : Type) (enc : TypeId × Value → H) :
    ReturnsInHanded {} Try.checked os 5 .any (Rows.fnROMixSpec.pre6 enc Try.prog Try.f5 Rows.fnROMixRow.domain false) (Rows.fnROMixSpec.post enc Try.prog Try.f5 false true false false) := by
  refine returnsInHanded_of_change (C := Try.checked) own started (by kernel_rfl) Try.func5
    (ChangeSpec.witness6 (enc := enc) (C := Try.checked) false ⟨#[], #[.slice none 0 0, .int .i64 0, .int .i64 0], []⟩ 8 (by kernel_rfl) (by kernel_rfl) (by kernel_rfl) (by kernel_rfl)) ?_
  intro W base args ds gs before hval0 hW hcnd _
  have hval : ∀ (j : Nat) t v, Try.f5.params[j]? = some t → args[j]? = some v → Value.okWide Try.prog W .any base t v := hval0
  have hW' := hW
  obtain ⟨p, q, hA0, hV, rfl, hfz, hnd⟩ := hW
  have hA : DataW.TrodAll enc Try.prog W 0 (fun _ => true) true Try.f5.params.toList args.toList ds p := hA0
  rw [Try.params5] at hA hval
  obtain ⟨v0, vs0, d0, ds0, p0, q0, hargs, rfl, rfl, h0, r0⟩ := trodAll_cons hA
  obtain ⟨v1, vs1, d1, ds1, p1, q1, rfl, rfl, rfl, h1, r1⟩ := trodAll_cons r0
  obtain ⟨v2, vs2, d2, ds2, p2, q2, rfl, rfl, rfl, h2, r2⟩ := trodAll_cons r1
  obtain ⟨rfl, rfl, rfl⟩ := trodAll_nil r2
  obtain rfl : args = #[v0, v1, v2] := by cases args; simp_all
  obtain ⟨rfl, rfl⟩ := trodVars_none hV
  obtain ⟨a0, len0, cap0, rfl⟩ := okWide_slice Try.underlying29 (hval 0 29 v0 rfl rfl)
  have k0 := h0
  have lt0 : ∀ x ∈ p0, x.block < W.heap.size := by obtain ⟨m, hm⟩ := k0; exact DataW.trod_lt m _ _ _ hm
  obtain ⟨z0, w0⟩ : ∃ zs, IsRow .u8 W a0 len0 cap0 zs := by
    obtain ⟨fuel, hf⟩ := h0
    rcases open_ints Try.underlying29 Try.underlying5 (by kernel_rfl) hf with ⟨hcs, _⟩ | ⟨x, l, c, zs, hcs, _, hl, hm, hz, _, hcell, hwz⟩
    · simp [Value.cells] at hcs
      obtain ⟨rfl, rfl, rfl⟩ := hcs
      exact ⟨[], .inl ⟨rfl, rfl, rfl, rfl⟩⟩
    · simp [Value.cells] at hcs
      obtain ⟨rfl, rfl, rfl⟩ := hcs
      exact ⟨zs, .inr ⟨_, rfl, hl, hm, by simpa using hz, hcell, hwz⟩⟩
  obtain ⟨a1, rfl, rfl, rfl, w1⟩ := open_int Try.underlying3 (hval 1 3 v1 rfl rfl) h1
  obtain ⟨a2, rfl, rfl, rfl, w2⟩ := open_int Try.underlying3 (hval 2 3 v2 rfl rfl) h2
  clear hA0 hval0
  refine (walk a0 len0 cap0 z0 a1 a2 W w0 w1 w2).mono fun e W' ⟨he, bel⟩ => ?_
  subst he
  exact ⟨_, rfl, _, _, _, [], _, [], hW', trodAll_mk1 (shut_bool Try.underlying4 _), (trodAll_cons_mk (Below.trod laidOut (by kernel_rfl) (of_decide_eq_true (by kernel_rfl)) k0 bel lt0) (trodAll_cons_mk (shut_int Try.underlying3 w1) (trodAll_cons_mk (shut_int Try.underlying3 w2) trodAll_mk0))), rfl, bel.frame _, fun h => by cases h⟩

theorem over : Rows.fnROMixRow.holds Try.pinned (OpenSpec.ofChange Rows.fnROMixSpec) :=
  OpenClaim.holds_of_wide 5 Try.f5 rfl rfl rfl rfl rfl rfl rfl ⟨rfl, rfl, rfl, rfl, rfl⟩ rfl rfl rfl rfl rfl (by kernel_rfl) Try.func5 (by kernel_rfl)
    (of_decide_eq_true (by kernel_rfl)) (by unfold Func.isWrapper; first | (rw [if_pos (by decide +kernel)]; kernel_rfl) | (rw [if_neg (by decide +kernel)]; exact ⟨rfl, rfl⟩))
    (fun os started H enc _ => lifted os started H enc)

/-- ████ THE STATEMENT ████ -/
theorem proved : Rows.FnROMixSaid := over
#print axioms proved
end Go.Proofs.Yteooohmlmefbnaa.fnROMix
