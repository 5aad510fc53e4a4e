/-
  The statement 'Rows.FnRoundSaid': for every input the law FnRound returns true.
  Conditions: none.
  The frame (from 'THE ROW's STEP' on) was turned from the kit's proof-skeleton by a program (wip/frame.py).
-/
import Derived.Test.YtmppkbgbnnbfmaaRoundLaw
import Derived.Test.YtmppkbgbnnbfmaaCIi
import Derived.WalkKit
import Derived.ProofKit
import Derived.OpenShut
namespace Go.Proofs.Ytmppkbgbnnbfmaa.fnRound
open CI
open Go.ChangeShapes Go.WideShapes Go.ChangeAt Go.RowKit
set_option linter.unusedVariables false      -- the frame's names

theorem own : ownKnob Try.prog.godebug = none := by kernel_rfl
theorem cellsE : Try.prog.cellsOf 22 = 1 := by kernel_rfl
theorem cells27 : Try.prog.cellsOf 27 = 16 := by kernel_rfl
theorem list16 (ws : List (BitVec 64)) (h : ws.length = 16) : ws.map SW.w64 = (List.range 16).map (fun i => SW.w64 (ws.getD i 0#64)) := by
  apply List.ext_getElem (by simp [h])
  intro i h1 h2
  have h3 : i < ws.length := by simpa using h1
  simp [List.getD, List.getElem?_eq_getElem h3]

/-! ### THE ROW's STEP -/
set_option maxRecDepth 100000 in
theorem lifted (os : Os) (started : os.Started) (H : Type) (enc : TypeId × Value → H) :
    ReturnsInHanded {} Try.checked os 4 .any (Rows.fnRoundSpec.pre6 enc Try.prog Try.f4 Rows.fnRoundRow.domain false) (Rows.fnRoundSpec.post enc Try.prog Try.f4 false true false false) := by
  refine returnsInHanded_of_change (C := Try.checked) own started (by kernel_rfl) Try.func4
    (ChangeSpec.witness6 (enc := enc) (C := Try.checked) false ⟨#[], #[.agg (List.replicate 16 (.int .u64 0)).toArray], []⟩ 8 (by kernel_rfl) (by kernel_rfl) (by kernel_rfl) (by kernel_rfl)) ?_
  intro W base args ds gs before hval0 hW hcnd _
  have hval : ∀ (j : Nat) t v, Try.f4.params[j]? = some t → args[j]? = some v → Value.okWide Try.prog W .any base t v := hval0
  have hW' := hW
  obtain ⟨p, q, hA0, hV, rfl, hfz, hnd⟩ := hW
  have hA : DataW.TrodAll enc Try.prog W 0 (fun _ => true) true Try.f4.params.toList args.toList ds p := hA0
  rw [Try.params4] at hA hval
  obtain ⟨v0, vs0, d0, ds0, p0, q0, hargs, rfl, rfl, h0, r0⟩ := trodAll_cons hA
  obtain ⟨rfl, rfl, rfl⟩ := trodAll_nil r0
  obtain rfl : args = #[v0] := by cases args; simp_all
  obtain ⟨rfl, rfl⟩ := trodVars_none hV
  obtain ⟨l0, n0, rfl, rfl, rfl, w0⟩ := open_array Try.underlying27 Try.underlying22 cellsE cells27 (hval 0 27 v0 rfl rfl) h0
  obtain ⟨ws0, hws0⟩ := words64 l0 w0
  clear hA0 hval0
  simp only [List.append_nil] at hW'
  have m0 : ws0.length = 16 := by rw [hws0, List.length_map] at n0; exact n0
  have g0 : Value.agg (l0.map (Value.int .u64)).toArray = (SV.agg ((List.range 16).map (fun i => SW.w64 (ws0.getD i 0#64)))).val (fun _ => (0, 0)) := by rw [hws0, agg64 ws0 (fun _ => (0, 0)), list16 ws0 m0]
  have hlaw := law4F (fun i => ws0.getD i 0#64) (fun _ => (0, 0)) W
  have hargs' : vals (fun _ => (0, 0)) [.agg ((List.range 16).map (fun i => SW.w64 (ws0.getD i 0#64)))] = #[Value.agg (l0.map (Value.int .u64)).toArray] := by
    rw [g0]; rfl
  rw [hargs'] at hlaw
  refine hlaw.mono fun e W' ⟨he, hf⟩ => ?_
  have hg := hf.grown
  subst he
  exact ⟨_, rfl, post_of_same (pa := []) (pv := []) hW' (fun _ _ _ => (trodAll_cons_mk (shut_bool Try.underlying4 _) trodAll_mk0)) (fun sp _ => (trodAll_cons_mk (shut_array Try.underlying27 Try.underlying22 cellsE cells27 n0 w0) trodAll_mk0)) (fun _ _ => rfl) rfl
    (hg.frame _) hg.2.1 (ok_one (by kernel_rfl) rfl (okWide_bool_mk Try.underlying4 _))⟩

theorem over : Rows.fnRoundRow.holds Try.pinned (OpenSpec.ofChange Rows.fnRoundSpec) :=
  OpenClaim.holds_of_wide 4 Try.f4 rfl rfl rfl rfl rfl rfl rfl ⟨rfl, rfl, rfl, rfl, rfl⟩ rfl rfl rfl rfl rfl (by kernel_rfl) Try.func4 (by kernel_rfl)
    (of_decide_eq_true (by kernel_rfl)) (by unfold Func.isWrapper; first | (rw [if_pos (by decide +kernel)]; kernel_rfl) | (rw [if_neg (by decide +kernel)]; exact ⟨rfl, rfl⟩))
    (fun os started H enc _ => lifted os started H enc)

/-- ████ THE STATEMENT ████ -/
theorem proved : Rows.FnRoundSaid :=
  over
#print axioms proved
end Go.Proofs.Ytmppkbgbnnbfmaa.fnRound
