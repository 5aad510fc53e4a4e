/-
  The small functions of scrypt over words: what the kernel computes.
  Conditions: none.
-/
import Derived.Test.YteooohmlmefbnaaSpecMix
namespace Go.Proofs.Yteooohmlmefbnaa
namespace CI
open Go

def Γ2 : List (Nat × TRow) := (5, ⟨.int .u8, 1, .s (.w8 0#8)⟩) :: (29, ⟨.slc 1, 1, .s (.raw (.slice none 0 0))⟩) :: (58, ⟨.int .u64, 1, .s (.w64 0#64)⟩) :: Γ
theorem Γ2ok : ∀ t r, lk Γ2 t = some r → TOK Try.prog t r :=
  .cons ⟨⟨Try.t5, by kernel_rfl, rfl, by kernel_rfl⟩, trivial, Try.underlying5⟩ <|
  .cons ⟨⟨Try.t29, by kernel_rfl, rfl, by kernel_rfl⟩, trivial, ⟨5, Try.t5, Try.underlying29, by kernel_rfl, rfl⟩⟩ <|
  .cons ⟨⟨Try.t58, by kernel_rfl, rfl, by kernel_rfl⟩, trivial, Try.underlying58⟩ Γok

theorem at40 : FnAt Try.prog 40 (fi Try.f40) := ⟨_, Try.func40, by kernel_rfl, rfl, rfl, by kernel_rfl⟩
theorem at41 : FnAt Try.prog 41 (fi Try.f41) := ⟨_, Try.func41, by kernel_rfl, rfl, rfl, by kernel_rfl⟩
theorem at42 : FnAt Try.prog 42 (fi Try.f42) := ⟨_, Try.func42, by kernel_rfl, rfl, rfl, by kernel_rfl⟩
theorem at43 : FnAt Try.prog 43 (fi Try.f43) := ⟨_, Try.func43, by kernel_rfl, rfl, rfl, by kernel_rfl⟩
noncomputable def g40 := evFun2 Γ2 [] 50 false (fi Try.f40)
theorem ok40 : FnOK Try.prog 40 (.eff g40) := fnOK_eff2 Γ2ok .nil mixed at40 false
noncomputable def g41 := evFun2 Γ2 [] 50 false (fi Try.f41)
theorem ok41 : FnOK Try.prog 41 (.eff g41) := fnOK_eff2 Γ2ok .nil mixed at41 false
noncomputable def g42 := evFun2 Γ2 [] 300 false (fi Try.f42)
theorem ok42 : FnOK Try.prog 42 (.eff g42) := fnOK_eff2 Γ2ok .nil mixed at42 false
noncomputable def g43 := evFun2 Γ2 [] 50 false (fi Try.f43)
theorem ok43 : FnOK Try.prog 43 (.eff g43) := fnOK_eff2 Γ2ok .nil mixed at43 false
end CI
end Go.Proofs.Yteooohmlmefbnaa
