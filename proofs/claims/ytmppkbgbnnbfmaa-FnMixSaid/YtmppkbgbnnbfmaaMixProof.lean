/-
  The statement 'Rows.FnMixSaid': for every input the law FnMix returns true.
  Conditions: none.
  The frame (from 'THE ROW's STEP' on) was turned from the kit's proof-skeleton by a program (wip/frame.py).
-/
import Derived.Test.YtmppkbgbnnbfmaaMixLaw
import Derived.Test.YtmppkbgbnnbfmaaCIi
import Derived.WalkKit
import Derived.ProofKit
import Derived.OpenShut
namespace Go.Proofs.Ytmppkbgbnnbfmaa.fnMix
open CI
open Go.ChangeShapes Go.WideShapes Go.ChangeAt Go.RowKit
set_option linter.unusedVariables false      -- the frame's names

theorem own : ownKnob Try.prog.godebug = none := by kernel_rfl
theorem cellsE : Try.prog.cellsOf 22 = 1 := by kernel_rfl
theorem cells30 : Try.prog.cellsOf 30 = 128 := by kernel_rfl
theorem list128 (ws : List (BitVec 64)) (h : ws.length = 128) : ws.map SW.w64 = (List.range 128).map (fun i => SW.w64 (ws.getD i 0#64)) := by
  apply List.ext_getElem (by simp [h])
  intro i h1 h2
  have h3 : i < ws.length := by simpa using h1
  simp [List.getD, List.getElem?_eq_getElem h3]

/-! ### THE ROW's STEP -/
set_option maxRecDepth 100000 in
theorem lifted (os : Os) (started : os.Started) (H : Type) (enc : TypeId × Value → H) :
    ReturnsInHanded {} Try.checked os 6 .any (Rows.fnMixSpec.pre6 enc Try.prog Try.f6 Rows.fnMixRow.domain false) (Rows.fnMixSpec.post enc Try.prog Try.f6 false true false false) := by
  refine returnsInHanded_of_change (C := Try.checked) own started (by kernel_rfl) Try.func6
    (ChangeSpec.witness6 (enc := enc) (C := Try.checked) false ⟨#[], #[.agg (List.replicate 128 (.int .u64 0)).toArray, .agg (List.replicate 128 (.int .u64 0)).toArray, .agg (List.replicate 128 (.int .u64 0)).toArray], []⟩ 8 (by kernel_rfl) (by kernel_rfl) (by kernel_rfl) (by kernel_rfl)) ?_
  intro W base args ds gs before hval0 hW hcnd _
  have hval : ∀ (j : Nat) t v, Try.f6.params[j]? = some t → args[j]? = some v → Value.okWide Try.prog W .any base t v := hval0
  have hW' := hW
  obtain ⟨p, q, hA0, hV, rfl, hfz, hnd⟩ := hW
  have hA : DataW.TrodAll enc Try.prog W 0 (fun _ => true) true Try.f6.params.toList args.toList ds p := hA0
  rw [Try.params6] at hA hval
  obtain ⟨v0, vs0, d0, ds0, p0, q0, hargs, rfl, rfl, h0, r0⟩ := trodAll_cons hA
  obtain ⟨v1, vs1, d1, ds1, p1, q1, rfl, rfl, rfl, h1, r1⟩ := trodAll_cons r0
  obtain ⟨v2, vs2, d2, ds2, p2, q2, rfl, rfl, rfl, h2, r2⟩ := trodAll_cons r1
  obtain ⟨rfl, rfl, rfl⟩ := trodAll_nil r2
  obtain rfl : args = #[v0, v1, v2] := by cases args; simp_all
  obtain ⟨rfl, rfl⟩ := trodVars_none hV
  obtain ⟨l0, n0, rfl, rfl, rfl, w0⟩ := open_array Try.underlying30 Try.underlying22 cellsE cells30 (hval 0 30 v0 rfl rfl) h0
  obtain ⟨ws0, hws0⟩ := words64 l0 w0
  obtain ⟨l1, n1, rfl, rfl, rfl, w1⟩ := open_array Try.underlying30 Try.underlying22 cellsE cells30 (hval 1 30 v1 rfl rfl) h1
  obtain ⟨ws1, hws1⟩ := words64 l1 w1
  obtain ⟨l2, n2, rfl, rfl, rfl, w2⟩ := open_array Try.underlying30 Try.underlying22 cellsE cells30 (hval 2 30 v2 rfl rfl) h2
  obtain ⟨ws2, hws2⟩ := words64 l2 w2
  clear hA0 hval0
  simp only [List.append_nil] at hW'
  have m0 : ws0.length = 128 := by rw [hws0, List.length_map] at n0; exact n0
  have g0 : Value.agg (l0.map (Value.int .u64)).toArray = (SV.agg ((List.range 128).map (fun i => SW.w64 (ws0.getD i 0#64)))).val (fun _ => (0, 0)) := by rw [hws0, agg64 ws0 (fun _ => (0, 0)), list128 ws0 m0]
  have m1 : ws1.length = 128 := by rw [hws1, List.length_map] at n1; exact n1
  have g1 : Value.agg (l1.map (Value.int .u64)).toArray = (SV.agg ((List.range 128).map (fun i => SW.w64 (ws1.getD i 0#64)))).val (fun _ => (0, 0)) := by rw [hws1, agg64 ws1 (fun _ => (0, 0)), list128 ws1 m1]
  have m2 : ws2.length = 128 := by rw [hws2, List.length_map] at n2; exact n2
  have g2 : Value.agg (l2.map (Value.int .u64)).toArray = (SV.agg ((List.range 128).map (fun i => SW.w64 (ws2.getD i 0#64)))).val (fun _ => (0, 0)) := by rw [hws2, agg64 ws2 (fun _ => (0, 0)), list128 ws2 m2]
  have hlaw := law6 (fun i => ws0.getD i 0#64) (fun i => ws1.getD i 0#64) (fun i => ws2.getD i 0#64) (fun _ => (0, 0)) W
  have hargs' : vals (fun _ => (0, 0)) [.agg ((List.range 128).map (fun i => SW.w64 (ws0.getD i 0#64))), .agg ((List.range 128).map (fun i => SW.w64 (ws1.getD i 0#64))), .agg ((List.range 128).map (fun i => SW.w64 (ws2.getD i 0#64)))] = #[Value.agg (l0.map (Value.int .u64)).toArray, Value.agg (l1.map (Value.int .u64)).toArray, Value.agg (l2.map (Value.int .u64)).toArray] := by
    rw [g0, g1, g2]; rfl
  rw [hargs'] at hlaw
  refine hlaw.mono fun e W' ⟨he, hf⟩ => ?_
  have hg := hf.grown
  subst he
  exact ⟨_, rfl, post_of_same (pa := []) (pv := []) hW' (fun _ _ _ => (trodAll_cons_mk (shut_bool Try.underlying4 _) trodAll_mk0)) (fun sp _ => (trodAll_cons_mk (shut_array Try.underlying30 Try.underlying22 cellsE cells30 n0 w0) (trodAll_cons_mk (shut_array Try.underlying30 Try.underlying22 cellsE cells30 n1 w1) (trodAll_cons_mk (shut_array Try.underlying30 Try.underlying22 cellsE cells30 n2 w2) trodAll_mk0)))) (fun _ _ => rfl) rfl
    (hg.frame _) hg.2.1 (ok_one (by kernel_rfl) rfl (okWide_bool_mk Try.underlying4 _))⟩

theorem over : Rows.fnMixRow.holds Try.pinned (OpenSpec.ofChange Rows.fnMixSpec) :=
  OpenClaim.holds_of_wide 6 Try.f6 rfl rfl rfl rfl rfl rfl rfl ⟨rfl, rfl, rfl, rfl, rfl⟩ rfl rfl rfl rfl rfl (by kernel_rfl) Try.func6 (by kernel_rfl)
    (of_decide_eq_true (by kernel_rfl)) (by unfold Func.isWrapper; first | (rw [if_pos (by decide +kernel)]; kernel_rfl) | (rw [if_neg (by decide +kernel)]; exact ⟨rfl, rfl⟩))
    (fun os started H enc _ => lifted os started H enc)

/-- ████ THE STATEMENT ████ -/
theorem proved : Rows.FnMixSaid :=
  over
#print axioms proved
end Go.Proofs.Ytmppkbgbnnbfmaa.fnMix
