/-
  The mixing of two blocks of argon2: what 'processBlock' and the reference's 'spec.Mix' come to.
  Conditions: none.
-/
import Derived.Test.YtmppkbgbnnbfmaaRoundLaw
namespace Go.Proofs.Ytmppkbgbnnbfmaa
namespace CI
open Go
theorem at5 : FnAt Try.prog 5 (fi Try.f5) := ⟨_, Try.func5, by kernel_rfl, rfl, rfl, by kernel_rfl⟩
theorem at6 : FnAt Try.prog 6 (fi Try.f6) := ⟨_, Try.func6, by kernel_rfl, rfl, rfl, by kernel_rfl⟩
theorem at11 : FnAt Try.prog 11 (fi Try.f11) := ⟨_, Try.func11, by kernel_rfl, rfl, rfl, by kernel_rfl⟩
theorem at12 : FnAt Try.prog 12 (fi Try.f12) := ⟨_, Try.func12, by kernel_rfl, rfl, rfl, by kernel_rfl⟩
theorem at13 : FnAt Try.prog 13 (fi Try.f13) := ⟨_, Try.func13, by kernel_rfl, rfl, rfl, by kernel_rfl⟩
theorem at14 : FnAt Try.prog 14 (fi Try.f14) := ⟨_, Try.func14, by kernel_rfl, rfl, rfl, by kernel_rfl⟩
theorem at18 : FnAt Try.prog 18 (fi Try.f18) := ⟨_, Try.func18, by kernel_rfl, rfl, rfl, by kernel_rfl⟩
theorem at19 : FnAt Try.prog 19 (fi Try.f19) := ⟨_, Try.func19, by kernel_rfl, rfl, rfl, by kernel_rfl⟩
theorem at24 : FnAt Try.prog 24 (fi Try.f24) := ⟨_, Try.func24, by kernel_rfl, rfl, rfl, by kernel_rfl⟩
theorem at25 : FnAt Try.prog 25 (fi Try.f25) := ⟨_, Try.func25, by kernel_rfl, rfl, rfl, by kernel_rfl⟩
theorem at27 : FnAt Try.prog 27 (fi Try.f27) := ⟨_, Try.func27, by kernel_rfl, rfl, rfl, by kernel_rfl⟩

/-- A block of words. -/
def blk (f : Nat → W) : List SW := (List.range 128).map fun i => .w64 (f i)

/-- The round of sixteen words in a row. -/
def row (bl : W → W → W) (l : List SW) : Option (List SW) :=
  match l with
  | [.w64 x0, .w64 x1, .w64 x2, .w64 x3, .w64 x4, .w64 x5, .w64 x6, .w64 x7, .w64 x8, .w64 x9, .w64 x10, .w64 x11, .w64 x12, .w64 x13, .w64 x14, .w64 x15] => some (rnd bl rotI x0 x1 x2 x3 x4 x5 x6 x7 x8 x9 x10 x11 x12 x13 x14 x15)
  | _ => none

def g10' (args : List SV) : Option SV :=
  match args with
  | [.agg l] => match row blS l with
    | some r => some (.agg r)
    | none => none
  | _ => none

theorem ok10' : FnOK Try.prog 10 (.pure g10') := ok10.pure_mono fun a v h => by
  unfold g10' at h
  split at h
  · rename_i l
    split at h
    · rename_i r hr
      cases h
      unfold row at hr
      split at hr
      · cases hr
        exact run10 _ _ _ _ _ _ _ _ _ _ _ _ _ _ _ _
      · cases hr
    · cases h
  · cases h

noncomputable def g14 := evPure Γ [] 200 (fi Try.f14)
theorem ok14 : FnOK Try.prog 14 (.pure g14) := fnOK_pure Γok .nil mixed at14
noncomputable def g12 := evPure Γ [(10, .pure g10'), (14, .pure g14)] 200 (fi Try.f12)
theorem ok12 : FnOK Try.prog 12 (.pure g12) := fnOK_pure Γok (.cons at10 ok10' (.cons at14 ok14 .nil)) mixed at12

def gather (l : List SW) : List Nat → List SW
  | [] => []
  | i :: is => match nth l i with
    | some x => x :: gather l is
    | none => gather l is

def scatter (l : List SW) : List Nat → List SW → List SW
  | i :: is, x :: xs => scatter (setn l i x) is xs
  | _, _ => l

/-- Rows and columns. -/
def turns (bl : W → W → W) : List (List Nat) → List SW → List SW
  | [], l => l
  | p :: ps, l => match row bl (gather l p) with
    | some r => turns bl ps (scatter l p r)
    | none => []

def places : List (List Nat) := [[0, 1, 2, 3, 4, 5, 6, 7, 8, 9, 10, 11, 12, 13, 14, 15], [16, 17, 18, 19, 20, 21, 22, 23, 24, 25, 26, 27, 28, 29, 30, 31], [32, 33, 34, 35, 36, 37, 38, 39, 40, 41, 42, 43, 44, 45, 46, 47], [48, 49, 50, 51, 52, 53, 54, 55, 56, 57, 58, 59, 60, 61, 62, 63], [64, 65, 66, 67, 68, 69, 70, 71, 72, 73, 74, 75, 76, 77, 78, 79], [80, 81, 82, 83, 84, 85, 86, 87, 88, 89, 90, 91, 92, 93, 94, 95], [96, 97, 98, 99, 100, 101, 102, 103, 104, 105, 106, 107, 108, 109, 110, 111], [112, 113, 114, 115, 116, 117, 118, 119, 120, 121, 122, 123, 124, 125, 126, 127],
  [0, 1, 16, 17, 32, 33, 48, 49, 64, 65, 80, 81, 96, 97, 112, 113], [2, 3, 18, 19, 34, 35, 50, 51, 66, 67, 82, 83, 98, 99, 114, 115], [4, 5, 20, 21, 36, 37, 52, 53, 68, 69, 84, 85, 100, 101, 116, 117], [6, 7, 22, 23, 38, 39, 54, 55, 70, 71, 86, 87, 102, 103, 118, 119], [8, 9, 24, 25, 40, 41, 56, 57, 72, 73, 88, 89, 104, 105, 120, 121], [10, 11, 26, 27, 42, 43, 58, 59, 74, 75, 90, 91, 106, 107, 122, 123], [12, 13, 28, 29, 44, 45, 60, 61, 76, 77, 92, 93, 108, 109, 124, 125], [14, 15, 30, 31, 46, 47, 62, 63, 78, 79, 94, 95, 110, 111, 126, 127]]

def xorL : List SW → List SW → List SW
  | .w64 x :: l, .w64 y :: l' => .w64 (x ^^^ y) :: xorL l l'
  | _, _ => []

def qs (f g : Nat → W) : List SW := blk fun i => f i ^^^ g i

set_option maxRecDepth 100000 in
theorem run12 (f g : Nat → W) : g12 [.agg (blk f), .agg (blk g)] = some (.agg (xorL (turns blS places (qs f g)) (qs f g))) := by kernel_rfl
end CI
end Go.Proofs.Ytmppkbgbnnbfmaa
