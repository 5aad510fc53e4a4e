/-
  The reference's 'BlockMix' over words, for each r from 1 to 16.
  Conditions: none.
-/
import Derived.Test.YteooohmlmefbnaaBlockMixRJ
import Derived.Test.YteooohmlmefbnaaCJo
namespace Go.Proofs.Yteooohmlmefbnaa
namespace CI
open Go

def Ω : List (Nat × SRow) := [(26, ⟨22, 4, .w32 0#32⟩)]
theorem SRowOK.nil {P : Program} : ∀ t r, lk ([] : List (Nat × SRow)) t = some r → SRowOK P t r := fun _ _ h => by cases h
theorem SRowOK.cons {P : Program} {l : List (Nat × SRow)} {u : Nat} {s : SRow} (h : SRowOK P u s) (hl : ∀ t r, lk l t = some r → SRowOK P t r) : ∀ t r, lk ((u, s) :: l) t = some r → SRowOK P t r := fun t r hr => by
  rw [lk_cons] at hr
  split at hr
  · rename_i e; subst e; cases hr; exact h
  · exact hl t r hr
theorem Ωok : ∀ t r, lk Ω t = some r → SRowOK Try.prog t r :=
  .cons ⟨⟨Try.t22, _, Try.underlying26, by kernel_rfl, rfl, by kernel_rfl, by kernel_rfl, by kernel_rfl⟩, trivial⟩ .nil

theorem PhiOKO.nil {P : Program} : PhiOKO P [] := fun f s h => by cases h
theorem PhiOKO.cons {P : Program} {Ψ : List (Nat × GO)} {f : Nat} {s : GO} {i : FnI} (h0 : FnAt P f i) (h : FnOKO P f s) (hΨ : PhiOKO P Ψ) : PhiOKO P ((f, s) :: Ψ) := fun g u hu => by
  rw [lk_cons] at hu
  split at hu
  · rename_i e; subst e; cases hu; exact ⟨h0.callable, h⟩
  · exact hΨ g u hu

theorem at12 : FnAt Try.prog 12 (fi Try.f12) := ⟨_, Try.func12, by kernel_rfl, rfl, rfl, by kernel_rfl⟩
theorem at13 : FnAt Try.prog 13 (fi Try.f13) := ⟨_, Try.func13, by kernel_rfl, rfl, rfl, by kernel_rfl⟩
theorem at23 : FnAt Try.prog 23 (fi Try.f23) := ⟨_, Try.func23, by kernel_rfl, rfl, rfl, by kernel_rfl⟩
theorem at24 : FnAt Try.prog 24 (fi Try.f24) := ⟨_, Try.func24, by kernel_rfl, rfl, rfl, by kernel_rfl⟩

def g11' : List SV → Option SV
  | [.agg l] => match get16 l salsa with
    | some r => some (.agg r)
    | none => none
  | _ => none

theorem ok11' : FnOK Try.prog 11 (.pure g11') := ok11.pure_mono fun a v h => by
  unfold g11' at h
  split at h
  · split at h
    · rename_i r hr
      obtain ⟨f, rfl, rfl⟩ := get16_spec hr
      cases h
      exact run11 (f 0) (f 1) (f 2) (f 3) (f 4) (f 5) (f 6) (f 7) (f 8) (f 9) (f 10) (f 11) (f 12) (f 13) (f 14) (f 15)
    · cases h
  · cases h

noncomputable def g13 := evFunO Γ Ω [(11, .pure g11')] [] 50 (fi Try.f13)
theorem ok13 : FnOKO Try.prog 13 g13 := fnOKO Γok Ωok (.cons at11 ok11' .nil) .nil mixed at13

def Mb (n : Nat) (f : Nat → W) : Mem := [(0, ⟨wn n f, false⟩)]
/-- A new slice's words. -/
def outO : Option (SV × Mem × OT × Nat) → Option (List SW)
  | some (.s (.own id len), [(id', ⟨l, false⟩), _], [(id2, 22)], _) => bif Nat.beq id id' && (Nat.beq id id2 && Nat.beq l.length len) then some l else none
  | _ => none
/-- A new slice's words, of whatever kind. -/
def outN : Option (SV × Mem × OT × Nat) → Option (List SW)
  | some (.s (.slc id 0 len 0), [(id', ⟨l, true⟩), _], [], _) => bif Nat.beq id id' && Nat.beq l.length len then some l else none
  | _ => none

noncomputable def g24 := evFunO Γ Ω [] [] 50 (fi Try.f24)
theorem ok24 : FnOKO Try.prog 24 g24 := fnOKO Γok Ωok .nil .nil mixed at24
noncomputable def g23 := evFunO Γ Ω [(31, .eff g31)] [] 50 (fi Try.f23)
theorem ok23 : FnOKO Try.prog 23 g23 := fnOKO Γok Ωok (.cons at31 ok31 .nil) .nil mixed at23
end CI
end Go.Proofs.Yteooohmlmefbnaa
