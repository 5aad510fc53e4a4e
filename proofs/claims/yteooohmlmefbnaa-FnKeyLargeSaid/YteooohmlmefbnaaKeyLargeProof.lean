/-
  The statement 'Rows.FnKeyLargeSaid': for every input the law FnKeyLarge returns true: there is no key where r times p is 2^30 or more.
  Conditions: none beyond the law's own (outside its bounds the law returns true at once).
  The frame (from 'THE ROW's STEP' on) was laid by the kit's proof-skeleton, turned to the wrap that hands on the world's shape; the walk is ours.
-/
import Derived.Test.YteooohmlmefbnaaQm
import Derived.Test.YteooohmlmefbnaaPa
import Derived.Test.YteooohmlmefbnaaRows
import Derived.WalkKit
import Derived.ProofKit
import Derived.OpenShut
import Derived.ShutString
import Derived.ChangeOld
import Derived.Below
import Derived.HandedShaped
namespace Go.Proofs.Yteooohmlmefbnaa.fnKeyLarge
open Go.ChangeShapes Go.WideShapes Go.ChangeAt Go.RowKit
open Go.ChangeMaps (open_string shut_string)
open CI
set_option linter.unusedVariables false

theorem own : ownKnob Try.prog.godebug = none := by kernel_rfl
theorem laidOut : laidOutB Try.prog = true := by kernel_rfl

/-! ### THE WALK -/
set_option maxRecDepth 100000 in
set_option maxHeartbeats 1000000 in
theorem skip (a0 a1 : Int) (w : World) (h : a0 < 1 ∨ 1073741824 < a0 ∨ a1 < 1 ∨ 1073741824 < a1 ∨ a0 * a1 < 1073741824) :
    Calls Try.prog 7 #[.int .i64 a0, .int .i64 a1] w fun e w' => e = .returned (.bool true) ∧ Fr (fun _ => False) w w' := by
  by_cases g0 : a0 < 1
  · clear h
    go_enter Try.func7, Try.ntmps7
    go_wp2
    go_ret
    exact ⟨rfl, Fr.refl _ _⟩
  · by_cases g1 : 1073741824 < a0
    · clear h
      go_enter Try.func7, Try.ntmps7
      go_wp2
      go_ret
      exact ⟨rfl, Fr.refl _ _⟩
    · by_cases g2 : a1 < 1
      · clear h
        go_enter Try.func7, Try.ntmps7
        go_wp2
        go_ret
        exact ⟨rfl, Fr.refl _ _⟩
      · by_cases g3 : 1073741824 < a1
        · clear h
          go_enter Try.func7, Try.ntmps7
          go_wp2
          go_ret
          exact ⟨rfl, Fr.refl _ _⟩
        · have g4 : a0 * a1 < 1073741824 := by omega
          have g5 : 0 ≤ a0 * a1 := Int.mul_nonneg (by omega) (by omega)
          obtain ⟨q, hq⟩ : ∃ q, a0 * a1 = q := ⟨_, rfl⟩
          rw [hq] at g4 g5
          clear h
          go_enter Try.func7, Try.ntmps7
          go_wp2
          go_ret
          exact ⟨rfl, Fr.refl _ _⟩

set_option maxRecDepth 100000 in
set_option maxHeartbeats 1000000 in
theorem main (a0 a1 : Int) (w : World) {K : Nat → W} (hK : Wd w 0 0 64 K) (h1 : 1 ≤ a0) (h2 : a0 ≤ 1073741824) (h3 : 1 ≤ a1) (h4 : a1 ≤ 1073741824) (h5 : 1073741824 ≤ a0 * a1) :
    Calls Try.prog 7 #[.int .i64 a0, .int .i64 a1] w fun e w' => e = .returned (.bool true) ∧ Below w.heap.size w w' := by
  have HC := hidE (c19r (n := 0) (cp := 0) (m := 0) (c := 0) (P := none) (A := none) (w := w) (pw := fun _ => 0#8) (sa := fun _ => 0#8) (L := 1) (.inl ⟨rfl, rfl, rfl⟩) (.inl ⟨rfl, rfl, rfl⟩) (by decide) (by decide) (by decide) (No.big (N := 2) rfl h1 h3 h2 h4 h5))
  have HK := hidE hK
  have g7 : a0 * a1 ≤ 1073741824 * 1073741824 := Int.mul_le_mul h2 h4 (by omega) (by omega)
  obtain ⟨q, hq⟩ : ∃ q, a0 * a1 = q := ⟨_, rfl⟩
  rw [hq] at h5 g7
  have g8 : q ≤ 9223372036854775807 := by omega
  clear hK
  go_enter Try.func7, Try.ntmps7
  go_wp2_with fail
  ((with_reducible refine HC.out.mono ?_); rintro e w1 ⟨rfl, f1⟩)
  have HB1 := hidE f1
  have HC2 : Hid (Calls Try.prog 19 #[.slice none 0 0, .slice none 0 0, .int .i64 2, .int .i64 1, .int .i64 1, .int .i64 1] w1 _) := hidE (c19 (n := 0) (m := 0) (L := 1) (N := 2) (kN := 1) (pw := fun _ => 0#8) (sa := fun _ => 0#8) (HK.out.below f1) (.inl ⟨rfl, rfl, rfl⟩) (.inl ⟨rfl, rfl, rfl⟩) (by decide) (by decide) (by decide) (by decide) rfl (by decide) (by decide))
  clear f1 HC
  go_wp2_with fail
  ((with_reducible refine HC2.out.mono ?_); rintro e w2 ⟨g, cap, rfl, k1, k2, k3, k4, k5⟩)
  have HB2 := hidE (CI.Below.then_ HB1.out k5)
  clear k4 k5 HC2
  go_wp2_with fail
  go_ret
  exact ⟨rfl, HB2.out⟩

theorem walk (a0 : Int) (a1 : Int) (w : World) (hsh : w.ShapedOpen Try.prog) :
    Calls Try.prog 7 #[.int .i64 a0, .int .i64 a1] w fun e w' => e = .returned (.bool true) ∧ Below w.heap.size w w' := by
  by_cases h : a0 < 1 ∨ 1073741824 < a0 ∨ a1 < 1 ∨ 1073741824 < a1 ∨ a0 * a1 < 1073741824
  · exact (skip a0 a1 w h).mono fun e w' ⟨h1, h2⟩ => ⟨h1, h2.below⟩
  · obtain ⟨K, hK⟩ := K_of_shaped hsh
    exact main a0 a1 w hK (by omega) (by omega) (by omega) (by omega) (by omega)

/-! ### THE ROW's STEP: WRITTEN OUT: LEAVE IT -/
set_option maxRecDepth 100000 in
theorem lifted (os : Os) (started : os.Started) (H : Type) (enc : TypeId × Value → H) :
    ReturnsInHanded {} Try.checked os 7 .any (Rows.fnKeyLargeSpec.pre6 enc Try.prog Try.f7 Rows.fnKeyLargeRow.domain false) (Rows.fnKeyLargeSpec.post enc Try.prog Try.f7 false true false false) := by
  refine returnsInHanded_of_change_shaped (C := Try.checked) own started (by kernel_rfl) Try.func7
    (ChangeSpec.witness6 (enc := enc) (C := Try.checked) false ⟨#[], #[.int .i64 0, .int .i64 0], []⟩ 8 (by kernel_rfl) (by kernel_rfl) (by kernel_rfl) (by kernel_rfl)) ?_
  intro W base args ds gs before hval0 hW hcnd _ hsh _
  have hval : ∀ (j : Nat) t v, Try.f7.params[j]? = some t → args[j]? = some v → Value.okWide Try.prog W .any base t v := hval0
  have hW' := hW
  obtain ⟨p, q, hA0, hV, rfl, hfz, hnd⟩ := hW
  have hA : DataW.TrodAll enc Try.prog W 0 (fun _ => true) true Try.f7.params.toList args.toList ds p := hA0
  rw [Try.params7] at hA hval
  obtain ⟨v0, vs0, d0, ds0, p0, q0, hargs, rfl, rfl, h0, r0⟩ := trodAll_cons hA
  obtain ⟨v1, vs1, d1, ds1, p1, q1, rfl, rfl, rfl, h1, r1⟩ := trodAll_cons r0
  obtain ⟨rfl, rfl, rfl⟩ := trodAll_nil r1
  obtain rfl : args = #[v0, v1] := by cases args; simp_all
  obtain ⟨rfl, rfl⟩ := trodVars_none hV
  obtain ⟨a0, rfl, rfl, rfl, w0⟩ := open_int Try.underlying3 (hval 0 3 v0 rfl rfl) h0
  obtain ⟨a1, rfl, rfl, rfl, w1⟩ := open_int Try.underlying3 (hval 1 3 v1 rfl rfl) h1
  clear hA0 hval0
  refine (walk a0 a1 W hsh).mono fun e W' ⟨he, bel⟩ => ?_
  subst he
  exact ⟨_, rfl, _, _, _, [], _, [], hW', trodAll_mk1 (shut_bool Try.underlying4 _), (trodAll_cons_mk (shut_int Try.underlying3 w0) (trodAll_cons_mk (shut_int Try.underlying3 w1) trodAll_mk0)), rfl, bel.frame _, fun h => by cases h⟩

theorem over : Rows.fnKeyLargeRow.holds Try.pinned (OpenSpec.ofChange Rows.fnKeyLargeSpec) :=
  OpenClaim.holds_of_wide 7 Try.f7 rfl rfl rfl rfl rfl rfl rfl ⟨rfl, rfl, rfl, rfl, rfl⟩ rfl rfl rfl rfl rfl (by kernel_rfl) Try.func7 (by kernel_rfl)
    (of_decide_eq_true (by kernel_rfl)) (by unfold Func.isWrapper; first | (rw [if_pos (by decide +kernel)]; kernel_rfl) | (rw [if_neg (by decide +kernel)]; exact ⟨rfl, rfl⟩))
    (fun os started H enc _ => lifted os started H enc)

/-- ████ THE STATEMENT ████ -/
theorem proved : Rows.FnKeyLargeSaid :=
  over
#print axioms proved
end Go.Proofs.Yteooohmlmefbnaa.fnKeyLarge
