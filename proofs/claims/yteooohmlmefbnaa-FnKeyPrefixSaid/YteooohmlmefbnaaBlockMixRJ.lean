/-
  'blockMix' over words, for each r from 1 to 16.
  Conditions: none.
-/
import Derived.Test.YteooohmlmefbnaaSalsaAtJ
namespace Go.Proofs.Yteooohmlmefbnaa
namespace CI
open Go
theorem at31 : FnAt Try.prog 31 (fi Try.f31) := ⟨_, Try.func31, by kernel_rfl, rfl, rfl, by kernel_rfl⟩
theorem at39 : FnAt Try.prog 39 (fi Try.f39) := ⟨_, Try.func39, by kernel_rfl, rfl, rfl, by kernel_rfl⟩

noncomputable def g39 := evFun2 Γ [] 50 false (fi Try.f39)
theorem ok39 : FnOK Try.prog 39 (.eff g39) := fnOK_eff2 Γok .nil mixed at39 false
noncomputable def g31 := evFun2 Γ [(29, .eff g29'), (39, .eff g39)] 50 false (fi Try.f31)
theorem ok31 : FnOK Try.prog 31 (.eff g31) := fnOK_eff2 Γok (.cons at29 ok29' (.cons at39 ok39 .nil)) mixed at31 false

def wn (n : Nat) (f : Nat → W) : List SW := (List.range n).map fun i => .w32 (f i)

/-- Block after block. -/
def chain : List SW → Nat → List SW → Option (List (List SW))
  | _, 0, _ => some []
  | t, k + 1, l => match salsaL t (l.take 16) with
    | some y => match chain y k (l.drop 16) with
      | some ys => some (y :: ys)
      | none => none
    | none => none

def evens {α : Type} : List α → List α
  | x :: _ :: l => x :: evens l
  | l => l
def odds {α : Type} : List α → List α
  | _ :: y :: l => y :: odds l
  | _ => []

def bmix (r : Nat) (l : List SW) : Option (List SW) :=
  match chain (sub16 l (16 * (2 * r - 1))) (2 * r) l with
  | some ys => some ((evens ys).flatten ++ (odds ys).flatten)
  | none => none

def M31 (n : Nat) (t f g : Nat → W) : Mem := [(0, ⟨w16 t, true⟩), (1, ⟨wn n f, false⟩), (2, ⟨wn n g, true⟩)]
def out31 : Option (SV × Mem × Nat) → Option (List SW)
  | some (.unit, [_, _, (_, r)], _) => some r.cells
  | _ => none

set_option maxRecDepth 100000 in
theorem run31_1 (t f g : Nat → W) (ei eo : Nat) : out31 (g31 [.s (.ptr 0 0), .s (.slc 1 0 32 ei), .s (.slc 2 0 32 eo), .s (.int 1)] (M31 32 t f g) 3) = bmix 1 (wn 32 f) := by kernel_rfl
set_option maxRecDepth 100000 in
theorem run31_4 (t f g : Nat → W) (ei eo : Nat) : out31 (g31 [.s (.ptr 0 0), .s (.slc 1 0 128 ei), .s (.slc 2 0 128 eo), .s (.int 4)] (M31 128 t f g) 3) = bmix 4 (wn 128 f) := by kernel_rfl
end CI
end Go.Proofs.Yteooohmlmefbnaa
