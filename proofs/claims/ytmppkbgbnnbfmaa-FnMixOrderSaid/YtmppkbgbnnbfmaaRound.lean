/-
  The round of argon2: what 'blamkaGeneric' and the reference's 'spec.Round' come to.
  Conditions: none.
-/
import Derived.Test.YtmppkbgbnnbfmaaCIf
import Derived.Test.YtmppkbgbnnbfmaaRows
namespace Go.Proofs.Ytmppkbgbnnbfmaa
namespace CI
open Go
abbrev W := BitVec 64

def fi (f : Func) : FnI := ⟨f.ntmps, f.results.toList, f.body.getD .skip⟩

def Γ : List (Nat × TRow) :=
  [(22, ⟨.int .u64, 1, .s (.w64 0#64)⟩), (3, ⟨.int .i64, 1, .s (.int 0)⟩), (27, ⟨.arr 16 1 true, 16, .agg (List.replicate 16 (.w64 0#64))⟩), (23, ⟨.int .u32, 1, .s (.w32 0#32)⟩), (30, ⟨.arr 128 1 true, 128, .agg (List.replicate 128 (.w64 0#64))⟩),
   (43, ⟨.arr 128 1 true, 128, .agg (List.replicate 128 (.w64 0#64))⟩), (40, ⟨.oth, 1, .s (.raw (.pointer none))⟩), (37, ⟨.oth, 1, .s (.raw (.pointer none))⟩), (45, ⟨.oth, 1, .s (.raw (.pointer none))⟩),
   (4, ⟨.oth, 1, .s (.bool false)⟩), (38, ⟨.slc 1, 1, .s (.raw (.slice none 0 0))⟩), (35, ⟨.int .u64, 1, .s (.w64 0#64)⟩)]

theorem TOK.nil {P : Program} : ∀ t r, lk ([] : List (Nat × TRow)) t = some r → TOK P t r := fun _ _ h => by cases h
theorem TOK.cons {P : Program} {l : List (Nat × TRow)} {u : Nat} {s : TRow} (h : TOK P u s) (hl : ∀ t r, lk l t = some r → TOK P t r) : ∀ t r, lk ((u, s) :: l) t = some r → TOK P t r := fun t r hr => by
  rw [lk_cons] at hr
  split at hr
  · rename_i e; subst e; cases hr; exact h
  · exact hl t r hr

theorem Γok : ∀ t r, lk Γ t = some r → TOK Try.prog t r :=
  .cons ⟨⟨Try.t22, by kernel_rfl, rfl, by kernel_rfl⟩, trivial, Try.underlying22⟩ <|
  .cons ⟨⟨Try.t3, by kernel_rfl, rfl, by kernel_rfl⟩, trivial, Try.underlying3⟩ <|
  .cons ⟨⟨Try.t27, by kernel_rfl, rfl, by kernel_rfl⟩, SV.lt_of_free (by kernel_rfl), ⟨22, Try.t22, Try.underlying27, by kernel_rfl, rfl, fun _ => ⟨_, Try.underlying22, rfl⟩⟩⟩ <|
  .cons ⟨⟨Try.t23, by kernel_rfl, rfl, by kernel_rfl⟩, trivial, Try.underlying23⟩ <|
  .cons ⟨⟨Try.t30, by kernel_rfl, rfl, by kernel_rfl⟩, SV.lt_of_free (by kernel_rfl), ⟨22, Try.t22, Try.underlying30, by kernel_rfl, rfl, fun _ => ⟨_, Try.underlying22, rfl⟩⟩⟩ <|
  .cons ⟨⟨Try.t43, by kernel_rfl, rfl, by kernel_rfl⟩, SV.lt_of_free (by kernel_rfl), ⟨22, Try.t22, Try.underlying43, by kernel_rfl, rfl, fun _ => ⟨_, Try.underlying22, rfl⟩⟩⟩ <|
  .cons ⟨⟨Try.t40, by kernel_rfl, rfl, by kernel_rfl⟩, trivial, ⟨_, Try.underlying40, rfl⟩⟩ <|
  .cons ⟨⟨Try.t37, by kernel_rfl, rfl, by kernel_rfl⟩, trivial, ⟨_, Try.underlying37, rfl⟩⟩ <|
  .cons ⟨⟨Try.t45, by kernel_rfl, rfl, by kernel_rfl⟩, trivial, ⟨_, Try.underlying45, rfl⟩⟩ <|
  .cons ⟨⟨Try.t4, by kernel_rfl, rfl, by kernel_rfl⟩, trivial, ⟨_, Try.underlying4, rfl⟩⟩ <|
  .cons ⟨⟨Try.t38, by kernel_rfl, rfl, by kernel_rfl⟩, trivial, ⟨22, Try.t22, Try.underlying38, by kernel_rfl, rfl⟩⟩ <|
  .cons ⟨⟨Try.t35, by kernel_rfl, rfl, by kernel_rfl⟩, trivial, Try.underlying35⟩ .nil

theorem mixed : Try.prog.follows .mixedOrders = true := by kernel_rfl

theorem at9 : FnAt Try.prog 9 (fi Try.f9) := ⟨_, Try.func9, by kernel_rfl, rfl, rfl, by kernel_rfl⟩
theorem at10 : FnAt Try.prog 10 (fi Try.f10) := ⟨_, Try.func10, by kernel_rfl, rfl, rfl, by kernel_rfl⟩
theorem at16 : FnAt Try.prog 16 (fi Try.f16) := ⟨_, Try.func16, by kernel_rfl, rfl, rfl, by kernel_rfl⟩
theorem at17 : FnAt Try.prog 17 (fi Try.f17) := ⟨_, Try.func17, by kernel_rfl, rfl, rfl, by kernel_rfl⟩
theorem at21 : FnAt Try.prog 21 (fi Try.f21) := ⟨_, Try.func21, by kernel_rfl, rfl, rfl, by kernel_rfl⟩
theorem at22 : FnAt Try.prog 22 (fi Try.f22) := ⟨_, Try.func22, by kernel_rfl, rfl, rfl, by kernel_rfl⟩
theorem at23 : FnAt Try.prog 23 (fi Try.f23) := ⟨_, Try.func23, by kernel_rfl, rfl, rfl, by kernel_rfl⟩

theorem PhiOK.nil {P : Program} : PhiOK P [] := fun f s h => by cases h
theorem PhiOK.cons {P : Program} {Φ : List (Nat × FnS)} {f : Nat} {s : FnS} {i : FnI} (h0 : FnAt P f i) (h : FnOK P f s) (hΦ : PhiOK P Φ) : PhiOK P ((f, s) :: Φ) := fun g u hu => by
  rw [lk_cons] at hu
  split at hu
  · rename_i e; subst e; cases hu; exact ⟨h0.callable, h⟩
  · exact hΦ g u hu


def blI (x y : W) : W := x + (y + 2#64 * (x.setWidth 32).setWidth 64 * (y.setWidth 32).setWidth 64)
def rotI (x : W) (k : Nat) : W := x >>> k ||| x <<< (64 - k)

/-- A quarter of the round. -/
def G {α : Type} (bl : W → W → W) (rot : W → Nat → W) (a b c d : W) (k : W → W → W → W → α) : α :=
  let a1 := bl a b
  let d1 := rot (d ^^^ a1) 32
  let c1 := bl c d1
  let b1 := rot (b ^^^ c1) 24
  let a2 := bl a1 b1
  let d2 := rot (d1 ^^^ a2) 16
  let c2 := bl c1 d2
  let b2 := rot (b1 ^^^ c2) 63
  k a2 b2 c2 d2

/-- The round. -/
def rnd (bl : W → W → W) (rot : W → Nat → W) (x0 x1 x2 x3 x4 x5 x6 x7 x8 x9 x10 x11 x12 x13 x14 x15 : W) : List SW :=
  G bl rot x0 x4 x8 x12 fun x0 x4 x8 x12 => G bl rot x1 x5 x9 x13 fun x1 x5 x9 x13 =>
  G bl rot x2 x6 x10 x14 fun x2 x6 x10 x14 => G bl rot x3 x7 x11 x15 fun x3 x7 x11 x15 =>
  G bl rot x0 x5 x10 x15 fun x0 x5 x10 x15 => G bl rot x1 x6 x11 x12 fun x1 x6 x11 x12 =>
  G bl rot x2 x7 x8 x13 fun x2 x7 x8 x13 => G bl rot x3 x4 x9 x14 fun x3 x4 x9 x14 =>
  [.w64 x0, .w64 x1, .w64 x2, .w64 x3, .w64 x4, .w64 x5, .w64 x6, .w64 x7, .w64 x8, .w64 x9, .w64 x10, .w64 x11, .w64 x12, .w64 x13, .w64 x14, .w64 x15]

def ins (x0 x1 x2 x3 x4 x5 x6 x7 x8 x9 x10 x11 x12 x13 x14 x15 : W) : List SW := [.w64 x0, .w64 x1, .w64 x2, .w64 x3, .w64 x4, .w64 x5, .w64 x6, .w64 x7, .w64 x8, .w64 x9, .w64 x10, .w64 x11, .w64 x12, .w64 x13, .w64 x14, .w64 x15]

noncomputable def g21 := evFun Γ [] 50 false (fi Try.f21)
theorem ok21 : FnOK Try.prog 21 (.eff g21) := fnOK_eff Γok PhiOK.nil mixed at21 false


/-! ### The program's own -/
noncomputable def g16 := evPure Γ [(21, .eff g21)] 50 (fi Try.f16)
theorem ok16 : FnOK Try.prog 16 (.pure g16) := fnOK_pure Γok (.cons at21 ok21 .nil) mixed at16
noncomputable def g9 := evPure Γ [(16, .pure g16)] 50 (fi Try.f9)
theorem ok9 : FnOK Try.prog 9 (.pure g9) := fnOK_pure Γok (.cons at16 ok16 .nil) mixed at9

set_option maxRecDepth 100000 in
theorem run9 (x0 x1 x2 x3 x4 x5 x6 x7 x8 x9 x10 x11 x12 x13 x14 x15 : W) : g9 [.agg (ins x0 x1 x2 x3 x4 x5 x6 x7 x8 x9 x10 x11 x12 x13 x14 x15)] = some (.agg (rnd blI rotI x0 x1 x2 x3 x4 x5 x6 x7 x8 x9 x10 x11 x12 x13 x14 x15)) := by kernel_rfl

/-! ### The reference -/
def blS (x y : W) : W := x + y + 2#64 * (x &&& 4294967295#64) * (y &&& 4294967295#64)
noncomputable def g22 := evPure Γ [] 50 (fi Try.f22)
theorem ok22 : FnOK Try.prog 22 (.pure g22) := fnOK_pure Γok .nil mixed at22
noncomputable def g23 := evPure Γ [] 50 (fi Try.f23)
theorem ok23 : FnOK Try.prog 23 (.pure g23) := fnOK_pure Γok .nil mixed at23
noncomputable def g17 := evFun Γ [(22, .pure g22), (23, .pure g23)] 50 false (fi Try.f17)
theorem ok17 : FnOK Try.prog 17 (.eff g17) := fnOK_eff Γok (.cons at22 ok22 (.cons at23 ok23 .nil)) mixed at17 false
noncomputable def g10 := evPure Γ [(17, .eff g17)] 50 (fi Try.f10)
theorem ok10 : FnOK Try.prog 10 (.pure g10) := fnOK_pure Γok (.cons at17 ok17 .nil) mixed at10

set_option maxRecDepth 100000 in
theorem run10 (x0 x1 x2 x3 x4 x5 x6 x7 x8 x9 x10 x11 x12 x13 x14 x15 : W) : g10 [.agg (ins x0 x1 x2 x3 x4 x5 x6 x7 x8 x9 x10 x11 x12 x13 x14 x15)] = some (.agg (rnd blS rotI x0 x1 x2 x3 x4 x5 x6 x7 x8 x9 x10 x11 x12 x13 x14 x15)) := by kernel_rfl

/-! ### Both alike -/
theorem lo_mask (x : W) : (x.setWidth 32).setWidth 64 = x &&& 4294967295#64 := by
  apply BitVec.eq_of_toNat_eq
  rw [BitVec.toNat_setWidth, BitVec.toNat_setWidth, BitVec.toNat_and]
  have h : (4294967295#64).toNat = 2 ^ 32 - 1 := rfl
  rw [h, Nat.and_two_pow_sub_one_eq_mod]
  have := x.isLt
  omega

theorem bl_eq : blI = blS := by
  funext x y
  unfold blI blS
  rw [lo_mask, lo_mask, BitVec.add_assoc]

theorem round_same (x0 x1 x2 x3 x4 x5 x6 x7 x8 x9 x10 x11 x12 x13 x14 x15 : W) : g9 [.agg (ins x0 x1 x2 x3 x4 x5 x6 x7 x8 x9 x10 x11 x12 x13 x14 x15)] = g10 [.agg (ins x0 x1 x2 x3 x4 x5 x6 x7 x8 x9 x10 x11 x12 x13 x14 x15)] := by
  rw [run9, run10, bl_eq]
end CI
end Go.Proofs.Ytmppkbgbnnbfmaa
