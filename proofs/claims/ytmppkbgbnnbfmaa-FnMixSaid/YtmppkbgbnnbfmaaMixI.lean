/-
  The mixing of two blocks of argon2, the program's side: 'processBlock'.
  Conditions: none.
-/
import Derived.Test.YtmppkbgbnnbfmaaMixS
import Derived.Test.YtmppkbgbnnbfmaaCIk
namespace Go.Proofs.Ytmppkbgbnnbfmaa
namespace CI
open Go

noncomputable def g27 := evFun Γ [(21, .eff g21)] 200 false (fi Try.f27)
theorem ok27 : FnOK Try.prog 27 (.eff g27) := fnOK_eff Γok (.cons at21 ok21 .nil) mixed at27 false
noncomputable def g24 := evFun Γ [(27, .eff g27)] 200 false (fi Try.f24)
theorem ok24 : FnOK Try.prog 24 (.eff g24) := fnOK_eff Γok (.cons at27 ok27 .nil) mixed at24 false
noncomputable def g18 := evPure2 Γ [(24, .eff g24)] 200 (fi Try.f18)
theorem ok18 : FnOK Try.prog 18 (.pure g18) := fnOK_pure2 Γok (.cons at24 ok24 .nil) mixed at18
noncomputable def g11 := evPure Γ [(18, .pure g18)] 200 (fi Try.f11)
theorem ok11 : FnOK Try.prog 11 (.pure g11) := fnOK_pure Γok (.cons at18 ok18 .nil) mixed at11

set_option maxRecDepth 100000 in
theorem run11 (f g : Nat → W) : g11 [.agg (blk f), .agg (blk g)] = some (.agg (xorL (qs f g) (turns blI places (qs f g)))) := by kernel_rfl
end CI
end Go.Proofs.Ytmppkbgbnnbfmaa
