/-
  The mixing of two blocks of argon2, the program's side: 'processBlockXOR'.
  Conditions: none.
-/
import Derived.Test.YtmppkbgbnnbfmaaMixI
namespace Go.Proofs.Ytmppkbgbnnbfmaa
namespace CI
open Go

noncomputable def g25 := evFun Γ [(27, .eff g27)] 200 false (fi Try.f25)

theorem ok25 : FnOK Try.prog 25 (.eff g25) := fnOK_eff Γok (.cons at27 ok27 .nil) mixed at25 false
noncomputable def g19 := evPure2 Γ [(25, .eff g25)] 200 (fi Try.f19)
theorem ok19 : FnOK Try.prog 19 (.pure g19) := fnOK_pure2 Γok (.cons at25 ok25 .nil) mixed at19
noncomputable def g13 := evPure Γ [(19, .pure g19)] 200 (fi Try.f13)
theorem ok13 : FnOK Try.prog 13 (.pure g13) := fnOK_pure Γok (.cons at19 ok19 .nil) mixed at13

set_option maxRecDepth 100000 in
theorem run13 (h f g : Nat → W) : g13 [.agg (blk h), .agg (blk f), .agg (blk g)] = some (.agg (xorL (blk h) (xorL (qs f g) (turns blI places (qs f g))))) := by kernel_rfl
end CI
end Go.Proofs.Ytmppkbgbnnbfmaa
