/-
  The law 'FnRound' over words: both rounds alike, and the round of a first word 1 is not all zero.
  Conditions: none.
-/
import Derived.Test.YtmppkbgbnnbfmaaRound
import Derived.Test.YtmppkbgbnnbfmaaCIh
namespace Go.Proofs.Ytmppkbgbnnbfmaa
namespace CI
open Go

theorem KindOK.nil {P : Program} : ∀ t k, lk ([] : Kinds) t = some k → KindOK P t k := fun _ _ h => by cases h
theorem KindOK.cons {P : Program} {l : Kinds} {u : Nat} {s : IntKind} (h : KindOK P u s) (hl : ∀ t k, lk l t = some k → KindOK P t k) : ∀ t k, lk ((u, s) :: l) t = some k → KindOK P t k := fun t k hr => by
  rw [lk_cons] at hr
  split at hr
  · rename_i e; subst e; cases hr; exact h
  · exact hl t k hr

def Δ : Kinds := [(27, .u64), (30, .u64)]
theorem Δok : ∀ t k, lk Δ t = some k → KindOK Try.prog t k :=
  .cons ⟨⟨_, 22, Try.t22, Try.underlying27, by kernel_rfl, rfl, Try.underlying22⟩, by kernel_rfl⟩ <|
  .cons ⟨⟨_, 22, Try.t22, Try.underlying30, by kernel_rfl, rfl, Try.underlying22⟩, by kernel_rfl⟩ .nil

theorem at4 : FnAt Try.prog 4 (fi Try.f4) := ⟨_, Try.func4, by kernel_rfl, rfl, rfl, by kernel_rfl⟩

set_option maxRecDepth 100000 in
theorem run4 (x0 x1 x2 x3 x4 x5 x6 x7 x8 x9 x10 x11 x12 x13 x14 x15 : W) : evLaw Γ Δ [(9, .pure g9), (10, .pure g10)] (fi Try.f4) [.agg (ins x0 x1 x2 x3 x4 x5 x6 x7 x8 x9 x10 x11 x12 x13 x14 x15)] =
    some (.s (.bool true), [(true, rnd blI rotI x0 x1 x2 x3 x4 x5 x6 x7 x8 x9 x10 x11 x12 x13 x14 x15, rnd blS rotI x0 x1 x2 x3 x4 x5 x6 x7 x8 x9 x10 x11 x12 x13 x14 x15), (false, rnd blI rotI 1#64 0#64 0#64 0#64 0#64 0#64 0#64 0#64 0#64 0#64 0#64 0#64 0#64 0#64 0#64 0#64, List.replicate 16 (.w64 0#64))]) := by kernel_rfl

set_option maxRecDepth 100000 in
theorem ne4 : ObOK (false, rnd blI rotI 1#64 0#64 0#64 0#64 0#64 0#64 0#64 0#64 0#64 0#64 0#64 0#64 0#64 0#64 0#64 0#64, List.replicate 16 (.w64 0#64)) := by unfold ObOK; kernel_rfl

theorem law4 (x0 x1 x2 x3 x4 x5 x6 x7 x8 x9 x10 x11 x12 x13 x14 x15 : W) (ρ : Env) (w : World) : Calls Try.prog 4 (vals ρ [.agg (ins x0 x1 x2 x3 x4 x5 x6 x7 x8 x9 x10 x11 x12 x13 x14 x15)]) w fun e w' => e = .returned (.bool true) ∧ Fr (fun _ => False) w w' :=
  evLaw_sound Γok Δok (.cons at9 ok9 (.cons at10 ok10 .nil)) mixed at4 (run4 x0 x1 x2 x3 x4 x5 x6 x7 x8 x9 x10 x11 x12 x13 x14 x15) (fun b hb => by
    simp only [List.mem_cons, List.not_mem_nil, or_false] at hb
    rcases hb with rfl | rfl
    · exact obOK_same (by rw [bl_eq])
    · exact ne4) ρ w

theorem law4F (f : Nat → W) (ρ : Env) (w : World) : Calls Try.prog 4 (vals ρ [.agg ((List.range 16).map fun i => .w64 (f i))]) w fun e w' => e = .returned (.bool true) ∧ Fr (fun _ => False) w w' :=
  law4 (f 0) (f 1) (f 2) (f 3) (f 4) (f 5) (f 6) (f 7) (f 8) (f 9) (f 10) (f 11) (f 12) (f 13) (f 14) (f 15) ρ w
end CI
end Go.Proofs.Ytmppkbgbnnbfmaa
