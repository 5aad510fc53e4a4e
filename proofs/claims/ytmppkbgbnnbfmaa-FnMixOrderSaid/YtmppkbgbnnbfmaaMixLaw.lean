/-
  The laws 'FnMixOrder' and 'FnMix' over words: the mixing does not ask which block comes first; it is the reference's.
  Conditions: none.
-/
import Derived.Test.YtmppkbgbnnbfmaaMixX
namespace Go.Proofs.Ytmppkbgbnnbfmaa
namespace CI
open Go

/-- A row of 128 words. -/
def isBlk (l : List SW) : Bool := Nat.beq l.length 128 && l.all (SW.isKind .u64)

theorem blk_of {l : List SW} (h : isBlk l = true) : ∃ f, l = blk f := by
  simp only [isBlk, Bool.and_eq_true] at h
  have hl := Nat.eq_of_beq_eq_true h.1
  have hk := List.all_eq_true.1 h.2
  refine ⟨fun i => match l[i]? with
    | some (.w64 x) => x
    | _ => 0#64, ?_⟩
  apply List.ext_getElem
  · simp [blk, hl]
  · intro i h1 h2
    have := hk _ (List.getElem_mem h1)
    simp only [blk, List.getElem_map, List.getElem_range, List.getElem?_eq_getElem h1]
    cases e : l[i] <;> rw [e] at this <;> first | rfl | cases this

theorem xorL_blk (f g : Nat → W) : xorL (blk f) (blk g) = qs f g := by kernel_rfl

/-- What the mixing comes to. -/
def mixL (bl : W → W → W) (a b : List SW) : List SW := xorL (xorL a b) (turns bl places (xorL a b))

def g11' (args : List SV) : Option SV :=
  match args with
  | [.agg a, .agg b] => bif isBlk a && isBlk b then some (.agg (mixL blI a b)) else none
  | _ => none
theorem ok11' : FnOK Try.prog 11 (.pure g11') := ok11.pure_mono fun x v h => by
  unfold g11' at h
  split at h
  · rename_i a b
    cases hb : (isBlk a && isBlk b) <;> simp only [hb, cond_false, cond_true, reduceCtorEq, Option.some.injEq] at h
    simp only [Bool.and_eq_true] at hb
    obtain ⟨f, rfl⟩ := blk_of hb.1
    obtain ⟨g, rfl⟩ := blk_of hb.2
    rw [run11, ← h, mixL, xorL_blk]
  · cases h

def g12' (args : List SV) : Option SV :=
  match args with
  | [.agg a, .agg b] => bif isBlk a && isBlk b then some (.agg (xorL (turns blS places (xorL a b)) (xorL a b))) else none
  | _ => none
theorem ok12' : FnOK Try.prog 12 (.pure g12') := ok12.pure_mono fun x v h => by
  unfold g12' at h
  split at h
  · rename_i a b
    cases hb : (isBlk a && isBlk b) <;> simp only [hb, cond_false, cond_true, reduceCtorEq, Option.some.injEq] at h
    simp only [Bool.and_eq_true] at hb
    obtain ⟨f, rfl⟩ := blk_of hb.1
    obtain ⟨g, rfl⟩ := blk_of hb.2
    rw [run12, ← h, xorL_blk]
  · cases h

def g13' (args : List SV) : Option SV :=
  match args with
  | [.agg c, .agg a, .agg b] => bif isBlk c && (isBlk a && isBlk b) then some (.agg (xorL c (mixL blI a b))) else none
  | _ => none
theorem ok13' : FnOK Try.prog 13 (.pure g13') := ok13.pure_mono fun x v h => by
  unfold g13' at h
  split at h
  · rename_i c a b
    cases hb : (isBlk c && (isBlk a && isBlk b)) <;> simp only [hb, cond_false, cond_true, reduceCtorEq, Option.some.injEq] at h
    simp only [Bool.and_eq_true] at hb
    obtain ⟨k, rfl⟩ := blk_of hb.1
    obtain ⟨f, rfl⟩ := blk_of hb.2.1
    obtain ⟨g, rfl⟩ := blk_of hb.2.2
    rw [run13, ← h, mixL, xorL_blk]
  · cases h

set_option maxRecDepth 100000 in
theorem run14 (f g : Nat → W) : g14 [.agg (blk f), .agg (blk g)] = some (.agg (qs f g)) := by kernel_rfl
def g14' (args : List SV) : Option SV :=
  match args with
  | [.agg a, .agg b] => bif isBlk a && isBlk b then some (.agg (xorL a b)) else none
  | _ => none
theorem ok14' : FnOK Try.prog 14 (.pure g14') := ok14.pure_mono fun x v h => by
  unfold g14' at h
  split at h
  · rename_i a b
    cases hb : (isBlk a && isBlk b) <;> simp only [hb, cond_false, cond_true, reduceCtorEq, Option.some.injEq] at h
    simp only [Bool.and_eq_true] at hb
    obtain ⟨f, rfl⟩ := blk_of hb.1
    obtain ⟨g, rfl⟩ := blk_of hb.2
    rw [run14, ← h, xorL_blk]
  · cases h

theorem xorL_comm : ∀ a b : List SW, xorL a b = xorL b a
  | [], [] => rfl
  | [], y :: b => by cases y <;> rfl
  | x :: a, [] => by cases x <;> rfl
  | x :: a, y :: b => by
    cases x <;> cases y <;> try rfl
    simp only [xorL, xorL_comm a b, BitVec.xor_comm]

def one : List SW := blk fun i => if i = 0 then 1#64 else 0#64
def zeros : List SW := List.replicate 128 (.w64 0#64)
def one' : List SW := setn zeros 0 (.w64 1#64)

set_option maxRecDepth 100000 in
theorem run5 (f g : Nat → W) : evLaw Γ Δ [(11, .pure g11')] (fi Try.f5) [.agg (blk f), .agg (blk g)] =
    some (.s (.bool true), [(true, mixL blI (blk f) (blk g), mixL blI (blk g) (blk f)), (false, mixL blI one' zeros, zeros)]) := by kernel_rfl

set_option maxRecDepth 100000 in
theorem neMix : ObOK (false, mixL blI one' zeros, zeros) := by unfold ObOK; kernel_rfl

theorem mix_comm (a b : List SW) : mixL blI a b = mixL blI b a := by unfold mixL; rw [xorL_comm a b]

theorem law5 (f g : Nat → W) (ρ : Env) (w : World) : Calls Try.prog 5 (vals ρ [.agg ((List.range 128).map fun i => .w64 (f i)), .agg ((List.range 128).map fun i => .w64 (g i))]) w fun e w' => e = .returned (.bool true) ∧ Fr (fun _ => False) w w' :=
  evLaw_sound Γok Δok (.cons at11 ok11' .nil) mixed at5 (run5 f g) (fun b hb => by
    simp only [List.mem_cons, List.not_mem_nil, or_false] at hb
    rcases hb with rfl | rfl
    · exact obOK_same (mix_comm _ _)
    · exact neMix) ρ w

set_option maxRecDepth 100000 in
theorem run6 (h f g : Nat → W) : evLaw Γ Δ [(11, .pure g11'), (12, .pure g12'), (13, .pure g13'), (14, .pure g14')] (fi Try.f6) [.agg (blk h), .agg (blk f), .agg (blk g)] =
    some (.s (.bool true), [(true, mixL blI (blk f) (blk g), xorL (turns blS places (xorL (blk f) (blk g))) (xorL (blk f) (blk g))),
      (true, xorL (blk h) (mixL blI (blk f) (blk g)), xorL (blk h) (xorL (turns blS places (xorL (blk f) (blk g))) (xorL (blk f) (blk g)))), (false, mixL blI one' zeros, zeros)]) := by kernel_rfl

theorem mix_same (a b : List SW) : mixL blI a b = xorL (turns blS places (xorL a b)) (xorL a b) := by unfold mixL; rw [xorL_comm, bl_eq]

theorem law6 (h f g : Nat → W) (ρ : Env) (w : World) : Calls Try.prog 6 (vals ρ [.agg ((List.range 128).map fun i => .w64 (h i)), .agg ((List.range 128).map fun i => .w64 (f i)), .agg ((List.range 128).map fun i => .w64 (g i))]) w fun e w' => e = .returned (.bool true) ∧ Fr (fun _ => False) w w' :=
  evLaw_sound Γok Δok (.cons at11 ok11' (.cons at12 ok12' (.cons at13 ok13' (.cons at14 ok14' .nil)))) mixed at6 (run6 h f g) (fun b hb => by
    simp only [List.mem_cons, List.not_mem_nil, or_false] at hb
    rcases hb with rfl | rfl | rfl
    · exact obOK_same (mix_same _ _)
    · exact obOK_same (by rw [mix_same])
    · exact neMix) ρ w
end CI
end Go.Proofs.Ytmppkbgbnnbfmaa
