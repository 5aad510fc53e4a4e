/-
  The law 'FnSalsa' over words.
  Conditions: none.
-/
import Derived.Test.YteooohmlmefbnaaSalsa
namespace Go.Proofs.Yteooohmlmefbnaa
namespace CI
open Go

set_option maxRecDepth 100000 in
theorem run3 (x0 x1 x2 x3 x4 x5 x6 x7 x8 x9 x10 x11 x12 x13 x14 x15 : W) : evLaw Γ Δ [(10, .pure g10), (11, .pure g11)] (fi Try.f3) [.agg (ins x0 x1 x2 x3 x4 x5 x6 x7 x8 x9 x10 x11 x12 x13 x14 x15)] =
    some (.s (.bool true), [(true, salsa (0#32 ^^^ x0) (0#32 ^^^ x1) (0#32 ^^^ x2) (0#32 ^^^ x3) (0#32 ^^^ x4) (0#32 ^^^ x5) (0#32 ^^^ x6) (0#32 ^^^ x7) (0#32 ^^^ x8) (0#32 ^^^ x9) (0#32 ^^^ x10) (0#32 ^^^ x11) (0#32 ^^^ x12) (0#32 ^^^ x13) (0#32 ^^^ x14) (0#32 ^^^ x15), salsa x0 x1 x2 x3 x4 x5 x6 x7 x8 x9 x10 x11 x12 x13 x14 x15), (false, salsa (0#32 ^^^ 1#32) (0#32 ^^^ 0#32) (0#32 ^^^ 0#32) (0#32 ^^^ 0#32) (0#32 ^^^ 0#32) (0#32 ^^^ 0#32) (0#32 ^^^ 0#32) (0#32 ^^^ 0#32) (0#32 ^^^ 0#32) (0#32 ^^^ 0#32) (0#32 ^^^ 0#32) (0#32 ^^^ 0#32) (0#32 ^^^ 0#32) (0#32 ^^^ 0#32) (0#32 ^^^ 0#32) (0#32 ^^^ 0#32), List.replicate 16 (.w32 0#32))]) := by kernel_rfl

set_option maxRecDepth 100000 in
theorem ne3 : ObOK (false, salsa (0#32 ^^^ 1#32) (0#32 ^^^ 0#32) (0#32 ^^^ 0#32) (0#32 ^^^ 0#32) (0#32 ^^^ 0#32) (0#32 ^^^ 0#32) (0#32 ^^^ 0#32) (0#32 ^^^ 0#32) (0#32 ^^^ 0#32) (0#32 ^^^ 0#32) (0#32 ^^^ 0#32) (0#32 ^^^ 0#32) (0#32 ^^^ 0#32) (0#32 ^^^ 0#32) (0#32 ^^^ 0#32) (0#32 ^^^ 0#32), List.replicate 16 (.w32 0#32)) := by unfold ObOK; kernel_rfl

theorem law3 (x0 x1 x2 x3 x4 x5 x6 x7 x8 x9 x10 x11 x12 x13 x14 x15 : W) (ρ : Env) (w : World) : Calls Try.prog 3 (vals ρ [.agg (ins x0 x1 x2 x3 x4 x5 x6 x7 x8 x9 x10 x11 x12 x13 x14 x15)]) w fun e w' => e = .returned (.bool true) ∧ Fr (fun _ => False) w w' :=
  evLaw_sound Γok Δok (.cons at10 ok10 (.cons at11 ok11 .nil)) mixed at3 (run3 x0 x1 x2 x3 x4 x5 x6 x7 x8 x9 x10 x11 x12 x13 x14 x15) (fun b hb => by
    simp only [List.mem_cons, List.not_mem_nil, or_false] at hb
    rcases hb with rfl | rfl
    · exact obOK_same (by simp only [BitVec.zero_xor])
    · exact ne3) ρ w

theorem law3F (f : Nat → W) (ρ : Env) (w : World) : Calls Try.prog 3 (vals ρ [.agg ((List.range 16).map fun i => .w32 (f i))]) w fun e w' => e = .returned (.bool true) ∧ Fr (fun _ => False) w w' :=
  law3 (f 0) (f 1) (f 2) (f 3) (f 4) (f 5) (f 6) (f 7) (f 8) (f 9) (f 10) (f 11) (f 12) (f 13) (f 14) (f 15) ρ w
end CI
end Go.Proofs.Yteooohmlmefbnaa
