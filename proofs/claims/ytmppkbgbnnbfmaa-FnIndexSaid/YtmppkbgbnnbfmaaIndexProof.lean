/-
  The statement 'Rows.FnIndexSaid': for every input the law FnIndex returns true: which block a number chooses is as RFC 9106 says.
  Conditions: none beyond the law's own (outside its bounds the law returns true at once).
  The frame behind the walk (from 'THE ROW's STEP' on) was laid by the kit's proof-skeleton; the walks are in YtmppkbgbnnbfmaaIndex and here.
-/
import Derived.Test.YtmppkbgbnnbfmaaIndex
import Derived.WalkKit
import Derived.ProofKit
import Derived.OpenShut
namespace Go.Proofs.Ytmppkbgbnnbfmaa.fnIndex
open Ix
open Go.ChangeShapes Go.WideShapes Go.ChangeAt Go.RowKit
set_option linter.unusedVariables false      -- a walk need not use every 'w<i>' (that an integer argument fits its kind)

theorem own : ownKnob Try.prog.godebug = none := by kernel_rfl

theorem dn (w : World) (n : Nat) : Grown w (w.drewN n) := Grown.refl w

set_option maxHeartbeats 1000000 in
theorem idx_any (N sg t p c l i : Int) (w : World) (h : Dom N sg t p c l i) :
    Calls Try.prog 8 #[.int .u64 N, .int .u32 (4 * sg), .int .u32 sg, .int .u32 t, .int .u32 p, .int .u32 c, .int .u32 l, .int .u32 i] w fun e w' => e = .returned (.int .u32 (chosen N sg t p c l i)) ∧ w = w' := by
  go_enter Try.func8, Try.ntmps8
  go_wp2_with (first | (go_at_call 20; refine (alpha_any N sg t p c l i _ h).mono ?_; rintro e w' ⟨rfl, rfl⟩) | (go_at_call 15; go_in))
  go_ret
  exact ⟨rfl, rfl⟩

theorem dom1 : Dom 0 2 1 1 0 0 1 := by constructor <;> decide
theorem chosen1 : chosen 0 2 1 1 0 0 1 = 7 := by decide
theorem one_any (w : World) :
    Calls Try.prog 8 #[.int .u64 0, .int .u32 8, .int .u32 2, .int .u32 1, .int .u32 1, .int .u32 0, .int .u32 0, .int .u32 1] w fun e w' => e = .returned (.int .u32 7) ∧ w = w' := by
  have h := idx_any 0 2 1 1 0 0 1 w dom1
  rw [chosen1] at h
  exact h

set_option maxHeartbeats 4000000 in
theorem walk (a0 : Int) (a1 : Int) (a2 : Int) (a3 : Int) (a4 : Int) (a5 : Int) (a6 : Int) (w0 : (Lit.int .u64 a0).wf = true) (w1 : (Lit.int .u32 a1).wf = true) (w2 : (Lit.int .u32 a2).wf = true) (w3 : (Lit.int .u32 a3).wf = true) (w4 : (Lit.int .u32 a4).wf = true) (w5 : (Lit.int .u32 a5).wf = true) (w6 : (Lit.int .u32 a6).wf = true) (w : World) :
    Calls Try.prog 3 #[.int .u64 a0, .int .u32 a1, .int .u32 a2, .int .u32 a3, .int .u32 a4, .int .u32 a5, .int .u32 a6] w fun e w' => e = .returned (.bool true) ∧ Grown w w' := by
  have b0 := bounds_u64 w0
  have b1 := bounds_u32 w1
  have b2 := bounds_u32 w2
  have b3 := bounds_u32 w3
  have b4 := bounds_u32 w4
  have b5 := bounds_u32 w5
  have b6 := bounds_u32 w6
  clear w0 w1 w2 w3 w4 w5 w6
  by_cases h1 : a1 < 2
  · go_enter Try.func3, Try.ntmps3
    go_wp2
    go_ret
    exact ⟨rfl, Grown.refl _⟩
  by_cases h2 : 64 < a1
  · go_enter Try.func3, Try.ntmps3
    go_wp2
    go_ret
    exact ⟨rfl, Grown.refl _⟩
  by_cases h3 : a2 < 1
  · go_enter Try.func3, Try.ntmps3
    go_wp2
    go_ret
    exact ⟨rfl, Grown.refl _⟩
  by_cases h4 : 4 < a2
  · go_enter Try.func3, Try.ntmps3
    go_wp2
    go_ret
    exact ⟨rfl, Grown.refl _⟩
  by_cases h5 : 2 < a3
  · go_enter Try.func3, Try.ntmps3
    go_wp2
    go_ret
    exact ⟨rfl, Grown.refl _⟩
  by_cases h6 : 3 < a4
  · go_enter Try.func3, Try.ntmps3
    go_wp2
    go_ret
    exact ⟨rfl, Grown.refl _⟩
  by_cases h7 : a2 ≤ a5
  · go_enter Try.func3, Try.ntmps3
    go_wp2
    go_ret
    exact ⟨rfl, Grown.refl _⟩
  by_cases h8 : a1 ≤ a6
  · go_enter Try.func3, Try.ntmps3
    go_wp2
    go_ret
    exact ⟨rfl, Grown.refl _⟩
  have key : ∀ (_ : Dom a0 a1 a2 a3 a4 a5 a6), 0 ≤ chosen a0 a1 a2 a3 a4 a5 a6 ∧ chosen a0 a1 a2 a3 a4 a5 a6 ≤ 1024 := fun hd =>
    val_bd a0 (mOf a1 a3 a4 a5 a6 (refOf a0 a2 a3 a4 a5)) (sOf a1 a3 a4) (refOf a0 a2 a3 a4 a5) (4 * a1) (ref_bd hd).1 (ref_bd hd).2 (by omega) (by omega)
  by_cases hno : a3 = 0 ∧ a4 = 0 ∧ a6 < 2
  · obtain ⟨g1, g2, g3⟩ := hno
    subst g1; subst g2
    clear key
    go_enter Try.func3, Try.ntmps3
    go_wp2
    go_ret
    exact ⟨rfl, Grown.refl _⟩
  have hd : Dom a0 a1 a2 a3 a4 a5 a6 := ⟨by omega, by omega, by omega, by omega, by omega, by omega, by omega, by omega, by omega, by omega, by omega, by omega, by omega, by omega, hno⟩
  obtain ⟨v0, v1⟩ := key hd
  clear key
  have HD : Hid (Dom a0 a1 a2 a3 a4 a5 a6) := hd
  clear hd
  by_cases g1 : a3 = 0
  · by_cases g2 : a4 = 0
    · subst g1; subst g2
      have g3 : ¬ a6 < 2 := fun h => hno ⟨rfl, rfl, h⟩
      clear hno
      go_enter Try.func3, Try.ntmps3
      go_wp2_with fail
      ((with_reducible refine (spec_any a0 a1 a2 0 0 a5 a6 _ HD.out).mono ?_); rintro e w' ⟨rfl, nn, rfl⟩)
      go_wp2_with fail
      ((with_reducible refine (idx_any a0 a1 a2 0 0 a5 a6 _ HD.out).mono ?_); rintro e w' ⟨rfl, rfl⟩)
      go_wp2_with fail
      ((with_reducible refine (one_any _).mono ?_); rintro e w' ⟨rfl, rfl⟩)
      go_wp2
      go_ret
      exact ⟨rfl, dn _ _⟩
    · subst g1
      have g3 : (a4 == 0) = false := by simpa using g2
      clear hno
      go_enter Try.func3, Try.ntmps3
      go_wp2_with fail
      ((with_reducible refine (spec_any a0 a1 a2 0 a4 a5 a6 _ HD.out).mono ?_); rintro e w' ⟨rfl, nn, rfl⟩)
      go_wp2_with fail
      ((with_reducible refine (idx_any a0 a1 a2 0 a4 a5 a6 _ HD.out).mono ?_); rintro e w' ⟨rfl, rfl⟩)
      go_wp2_with fail
      ((with_reducible refine (one_any _).mono ?_); rintro e w' ⟨rfl, rfl⟩)
      go_wp2
      go_ret
      exact ⟨rfl, dn _ _⟩
  · have g3 : (a3 == 0) = false := by simpa using g1
    clear hno
    go_enter Try.func3, Try.ntmps3
    go_wp2_with fail
    ((with_reducible refine (spec_any a0 a1 a2 a3 a4 a5 a6 _ HD.out).mono ?_); rintro e w' ⟨rfl, nn, rfl⟩)
    go_wp2_with fail
    ((with_reducible refine (idx_any a0 a1 a2 a3 a4 a5 a6 _ HD.out).mono ?_); rintro e w' ⟨rfl, rfl⟩)
    go_wp2_with fail
    ((with_reducible refine (one_any _).mono ?_); rintro e w' ⟨rfl, rfl⟩)
    go_wp2
    go_ret
    exact ⟨rfl, dn _ _⟩

/-! ### THE ROW's STEP: WRITTEN OUT: LEAVE IT -/
set_option maxRecDepth 100000 in
theorem lifted (os : Os) (started : os.Started) (H : Type) (enc : TypeId × Value → H) :
    ReturnsInHanded {} Try.checked os 3 .any (Rows.fnIndexSpec.pre6 enc Try.prog Try.f3 Rows.fnIndexRow.domain false) (Rows.fnIndexSpec.post enc Try.prog Try.f3 false true false false) := by
  refine returnsInHanded_of_change (C := Try.checked) own started (by kernel_rfl) Try.func3
    (ChangeSpec.witness6 (enc := enc) (C := Try.checked) false ⟨#[], #[.int .u64 0, .int .u32 0, .int .u32 0, .int .u32 0, .int .u32 0, .int .u32 0, .int .u32 0], []⟩ 8 (by kernel_rfl) (by kernel_rfl) (by kernel_rfl) (by kernel_rfl)) ?_
  intro W base args ds gs before hval0 hW hcnd _
  have hval : ∀ (j : Nat) t v, Try.f3.params[j]? = some t → args[j]? = some v → Value.okWide Try.prog W .any base t v := hval0
  have hW' := hW
  obtain ⟨p, q, hA0, hV, rfl, hfz, hnd⟩ := hW
  have hA : DataW.TrodAll enc Try.prog W 0 (fun _ => true) true Try.f3.params.toList args.toList ds p := hA0
  rw [Try.params3] at hA hval
  obtain ⟨v0, vs0, d0, ds0, p0, q0, hargs, rfl, rfl, h0, r0⟩ := trodAll_cons hA
  obtain ⟨v1, vs1, d1, ds1, p1, q1, rfl, rfl, rfl, h1, r1⟩ := trodAll_cons r0
  obtain ⟨v2, vs2, d2, ds2, p2, q2, rfl, rfl, rfl, h2, r2⟩ := trodAll_cons r1
  obtain ⟨v3, vs3, d3, ds3, p3, q3, rfl, rfl, rfl, h3, r3⟩ := trodAll_cons r2
  obtain ⟨v4, vs4, d4, ds4, p4, q4, rfl, rfl, rfl, h4, r4⟩ := trodAll_cons r3
  obtain ⟨v5, vs5, d5, ds5, p5, q5, rfl, rfl, rfl, h5, r5⟩ := trodAll_cons r4
  obtain ⟨v6, vs6, d6, ds6, p6, q6, rfl, rfl, rfl, h6, r6⟩ := trodAll_cons r5
  obtain ⟨rfl, rfl, rfl⟩ := trodAll_nil r6
  obtain rfl : args = #[v0, v1, v2, v3, v4, v5, v6] := by cases args; simp_all
  obtain ⟨rfl, rfl⟩ := trodVars_none hV
  obtain ⟨a0, rfl, rfl, rfl, w0⟩ := open_int Try.underlying22 (hval 0 22 v0 rfl rfl) h0
  obtain ⟨a1, rfl, rfl, rfl, w1⟩ := open_int Try.underlying23 (hval 1 23 v1 rfl rfl) h1
  obtain ⟨a2, rfl, rfl, rfl, w2⟩ := open_int Try.underlying23 (hval 2 23 v2 rfl rfl) h2
  obtain ⟨a3, rfl, rfl, rfl, w3⟩ := open_int Try.underlying23 (hval 3 23 v3 rfl rfl) h3
  obtain ⟨a4, rfl, rfl, rfl, w4⟩ := open_int Try.underlying23 (hval 4 23 v4 rfl rfl) h4
  obtain ⟨a5, rfl, rfl, rfl, w5⟩ := open_int Try.underlying23 (hval 5 23 v5 rfl rfl) h5
  obtain ⟨a6, rfl, rfl, rfl, w6⟩ := open_int Try.underlying23 (hval 6 23 v6 rfl rfl) h6
  clear hA0 hval0
  simp only [List.append_nil] at hW'
  refine (walk a0 a1 a2 a3 a4 a5 a6 w0 w1 w2 w3 w4 w5 w6 W).mono fun e W' ⟨he, hg⟩ => ?_
  subst he
  exact ⟨_, rfl, post_of_same (pa := []) (pv := []) hW' (fun _ _ _ => (trodAll_cons_mk (shut_bool Try.underlying4 _) trodAll_mk0)) (fun sp _ => (trodAll_cons_mk (shut_int Try.underlying22 w0) (trodAll_cons_mk (shut_int Try.underlying23 w1) (trodAll_cons_mk (shut_int Try.underlying23 w2) (trodAll_cons_mk (shut_int Try.underlying23 w3) (trodAll_cons_mk (shut_int Try.underlying23 w4) (trodAll_cons_mk (shut_int Try.underlying23 w5) (trodAll_cons_mk (shut_int Try.underlying23 w6) trodAll_mk0)))))))) (fun _ _ => rfl) rfl
    (hg.frame _) hg.2.1 (ok_one (by kernel_rfl) rfl (okWide_bool_mk Try.underlying4 _))⟩

theorem over : Rows.fnIndexRow.holds Try.pinned (OpenSpec.ofChange Rows.fnIndexSpec) :=
  OpenClaim.holds_of_wide 3 Try.f3 rfl rfl rfl rfl rfl rfl rfl ⟨rfl, rfl, rfl, rfl, rfl⟩ rfl rfl rfl rfl rfl (by kernel_rfl) Try.func3 (by kernel_rfl)
    (of_decide_eq_true (by kernel_rfl)) (by unfold Func.isWrapper; first | (rw [if_pos (by decide +kernel)]; kernel_rfl) | (rw [if_neg (by decide +kernel)]; exact ⟨rfl, rfl⟩))
    (fun os started H enc _ => lifted os started H enc)

/-- ████ THE STATEMENT ████ -/
theorem proved : Rows.FnIndexSaid :=
  over
#print axioms proved
end Go.Proofs.Ytmppkbgbnnbfmaa.fnIndex
