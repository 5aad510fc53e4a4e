/-
  The statement 'Rows.FnSalsaSaid': for every input the law FnSalsa returns true.
  Conditions: none.
  The frame (from 'THE ROW's STEP' on) was turned from the kit's proof-skeleton by a program (wip/frame.py).
-/
import Derived.Test.YteooohmlmefbnaaSalsaLaw
import Derived.Test.YteooohmlmefbnaaCIi
import Derived.WalkKit
import Derived.ProofKit
import Derived.OpenShut
namespace Go.Proofs.Yteooohmlmefbnaa.fnSalsa
open CI
open Go.ChangeShapes Go.WideShapes Go.ChangeAt Go.RowKit
set_option linter.unusedVariables false      -- the frame's names

theorem own : ownKnob Try.prog.godebug = none := by kernel_rfl
theorem cellsE : Try.prog.cellsOf 22 = 1 := by kernel_rfl
theorem cells23 : Try.prog.cellsOf 23 = 16 := by kernel_rfl
theorem list16 (ws : List (BitVec 32)) (h : ws.length = 16) : ws.map SW.w32 = (List.range 16).map (fun i => SW.w32 (ws.getD i 0#32)) := by
  apply List.ext_getElem (by simp [h])
  intro i h1 h2
  have h3 : i < ws.length := by simpa using h1
  simp [List.getD, List.getElem?_eq_getElem h3]

/-! ### THE ROW's STEP -/
set_option maxRecDepth 100000 in
theorem lifted (os : Os) (started : os.Started) (H : Type) (enc : TypeId × Value → H) :
    ReturnsInHanded {} Try.checked os 3 .any (Rows.fnSalsaSpec.pre6 enc Try.prog Try.f3 Rows.fnSalsaRow.domain false) (Rows.fnSalsaSpec.post enc Try.prog Try.f3 false true false false) := by
  refine returnsInHanded_of_change (C := Try.checked) own started (by kernel_rfl) Try.func3
    (ChangeSpec.witness6 (enc := enc) (C := Try.checked) false ⟨#[], #[.agg (List.replicate 16 (.int .u32 0)).toArray], []⟩ 8 (by kernel_rfl) (by kernel_rfl) (by kernel_rfl) (by kernel_rfl)) ?_
  intro W base args ds gs before hval0 hW hcnd _
  have hval : ∀ (j : Nat) t v, Try.f3.params[j]? = some t → args[j]? = some v → Value.okWide Try.prog W .any base t v := hval0
  have hW' := hW
  obtain ⟨p, q, hA0, hV, rfl, hfz, hnd⟩ := hW
  have hA : DataW.TrodAll enc Try.prog W 0 (fun _ => true) true Try.f3.params.toList args.toList ds p := hA0
  rw [Try.params3] at hA hval
  obtain ⟨v0, vs0, d0, ds0, p0, q0, hargs, rfl, rfl, h0, r0⟩ := trodAll_cons hA
  obtain ⟨rfl, rfl, rfl⟩ := trodAll_nil r0
  obtain rfl : args = #[v0] := by cases args; simp_all
  obtain ⟨rfl, rfl⟩ := trodVars_none hV
  obtain ⟨l0, n0, rfl, rfl, rfl, w0⟩ := open_array Try.underlying23 Try.underlying22 cellsE cells23 (hval 0 23 v0 rfl rfl) h0
  obtain ⟨ws0, hws0⟩ := words32 l0 w0
  clear hA0 hval0
  simp only [List.append_nil] at hW'
  have m0 : ws0.length = 16 := by rw [hws0, List.length_map] at n0; exact n0
  have g0 : Value.agg (l0.map (Value.int .u32)).toArray = (SV.agg ((List.range 16).map (fun i => SW.w32 (ws0.getD i 0#32)))).val (fun _ => (0, 0)) := by rw [hws0, agg32 ws0 (fun _ => (0, 0)), list16 ws0 m0]
  have hlaw := law3F (fun i => ws0.getD i 0#32) (fun _ => (0, 0)) W
  have hargs' : vals (fun _ => (0, 0)) [.agg ((List.range 16).map (fun i => SW.w32 (ws0.getD i 0#32)))] = #[Value.agg (l0.map (Value.int .u32)).toArray] := by
    rw [g0]; rfl
  rw [hargs'] at hlaw
  refine hlaw.mono fun e W' ⟨he, hf⟩ => ?_
  have hg := hf.grown
  subst he
  exact ⟨_, rfl, post_of_same (pa := []) (pv := []) hW' (fun _ _ _ => (trodAll_cons_mk (shut_bool Try.underlying4 _) trodAll_mk0)) (fun sp _ => (trodAll_cons_mk (shut_array Try.underlying23 Try.underlying22 cellsE cells23 n0 w0) trodAll_mk0)) (fun _ _ => rfl) rfl
    (hg.frame _) hg.2.1 (ok_one (by kernel_rfl) rfl (okWide_bool_mk Try.underlying4 _))⟩

theorem over : Rows.fnSalsaRow.holds Try.pinned (OpenSpec.ofChange Rows.fnSalsaSpec) :=
  OpenClaim.holds_of_wide 3 Try.f3 rfl rfl rfl rfl rfl rfl rfl ⟨rfl, rfl, rfl, rfl, rfl⟩ rfl rfl rfl rfl rfl (by kernel_rfl) Try.func3 (by kernel_rfl)
    (of_decide_eq_true (by kernel_rfl)) (by unfold Func.isWrapper; first | (rw [if_pos (by decide +kernel)]; kernel_rfl) | (rw [if_neg (by decide +kernel)]; exact ⟨rfl, rfl⟩))
    (fun os started H enc _ => lifted os started H enc)

/-- ████ THE STATEMENT ████ -/
theorem proved : Rows.FnSalsaSaid :=
  over
#print axioms proved
end Go.Proofs.Yteooohmlmefbnaa.fnSalsa
