/-
  Runs of straight code over words that stay open: a small evaluator for the model's operations (part 1: data and words). Each step is proved sound against the model.
  Conditions: none; it proves no statement by itself.
-/
import Derived.WalkKit
import Derived.LoopN
import Derived.Orders
import Derived.Laws.BitsAllLaws
namespace Go.Proofs.Yteooohmlmefbnaa
namespace CI
open Go

/-! ### 1. Data -/
inductive SW where
  | w64 (x : BitVec 64)
  | w32 (x : BitVec 32)
  | w8 (x : BitVec 8)
  | int (n : Int)
  | bool (b : Bool)
  | ptr (id off : Nat)
  | slc (id off len ext : Nat)
  | own (id len : Nat)
  | raw (v : Value)

abbrev Env := Nat → Nat × Nat

def SW.val (ρ : Env) : SW → Value
  | .w64 x => .int .u64 (x.toNat : Int)
  | .w32 x => .int .u32 (x.toNat : Int)
  | .w8 x => .int .u8 (x.toNat : Int)
  | .int n => .int .i64 n
  | .bool b => .bool b
  | .ptr id off => .pointer (some ⟨(ρ id).1, (ρ id).2 + off, none⟩)
  | .slc id off len ext => .slice (some ⟨(ρ id).1, (ρ id).2 + off, none⟩) len (len + ext)
  | .own id len => .slice (some ⟨(ρ id).1, (ρ id).2, none⟩) len (ρ (id + 1)).1
  | .raw v => v

def SW.lt (n : Nat) : SW → Prop
  | .ptr id _ => id < n
  | .slc id _ _ _ => id < n
  | .own id _ => id + 1 < n
  | _ => True

/-- May it be stored into one cell? -/
def SW.cellOk : SW → Bool
  | .raw _ => false
  | _ => true

inductive SV where
  | s (x : SW)
  | agg (cs : List SW)
  | unit

def SV.val (ρ : Env) : SV → Value
  | .s x => x.val ρ
  | .agg cs => .agg (cs.map (SW.val ρ)).toArray
  | .unit => .tuple #[]

def SV.lt (n : Nat) : SV → Prop
  | .s x => x.lt n
  | .agg cs => ∀ x ∈ cs, x.lt n
  | .unit => True

theorem SW.val_congr {ρ ρ' : Env} {n : Nat} (h : ∀ i, i < n → ρ' i = ρ i) {x : SW} (hx : x.lt n) : x.val ρ' = x.val ρ := by
  cases x <;> simp only [SW.val, SW.lt] at * <;> first | rfl | (rw [h _ hx, h _ (Nat.lt_of_succ_lt hx)]) | rw [h _ hx]

theorem SV.val_congr {ρ ρ' : Env} {n : Nat} (h : ∀ i, i < n → ρ' i = ρ i) {x : SV} (hx : x.lt n) : x.val ρ' = x.val ρ := by
  cases x with
  | s x => exact SW.val_congr h hx
  | agg cs =>
    simp only [SV.val, SV.lt] at *
    congr 2
    exact List.map_congr_left fun x hm => SW.val_congr h (hx x hm)
  | unit => rfl

theorem SW.lt_mono {n m : Nat} (h : n ≤ m) {x : SW} (hx : x.lt n) : x.lt m := by
  cases x <;> simp only [SW.lt] at * <;> omega
theorem SV.lt_mono {n m : Nat} (h : n ≤ m) {x : SV} (hx : x.lt n) : x.lt m := by
  cases x with
  | s x => exact SW.lt_mono h hx
  | agg cs => exact fun x hm => SW.lt_mono h (hx x hm)
  | unit => trivial

/-! ### 2. Lists and frames -/
def nth {α : Type} : List α → Nat → Option α
  | [], _ => none
  | x :: l, n => match n with
    | 0 => some x
    | n + 1 => nth l n

theorem nth_eq {α : Type} : ∀ (l : List α) (n : Nat), nth l n = l[n]?
  | [], _ => by simp [nth]
  | x :: l, 0 => by simp [nth]
  | x :: l, n + 1 => by simp [nth, nth_eq l n]

def setn {α : Type} : List α → Nat → α → List α
  | [], _, _ => []
  | y :: l, n, x => match n with
    | 0 => x :: l
    | n + 1 => y :: setn l n x

theorem setn_eq {α : Type} : ∀ (l : List α) (n : Nat) (x : α), setn l n x = l.set n x
  | [], _, _ => by simp [setn]
  | y :: l, 0, x => by simp [setn]
  | y :: l, n + 1, x => by simp [setn, setn_eq l n x]

inductive Tr where
  | lf
  | nd (v : Option SV) (l r : Tr)

def Tr.mk : Nat → Tr
  | 0 => .lf
  | d + 1 => .nd none (Tr.mk d) (Tr.mk d)

def Tr.get : Tr → Nat → Option SV
  | .lf, _ => none
  | .nd v l r, k => match k with
    | 0 => v
    | k + 1 => bif Nat.beq (k % 2) 0 then l.get (k / 2) else r.get (k / 2)

def Tr.set : Tr → Nat → SV → Tr
  | .lf, _, _ => .lf
  | .nd v l r, k, x => match k with
    | 0 => .nd (some x) l r
    | k + 1 => bif Nat.beq (k % 2) 0 then .nd v (l.set (k / 2) x) r else .nd v l (r.set (k / 2) x)

/-- Has it a place for 'k'? -/
def Tr.has : Tr → Nat → Bool
  | .lf, _ => false
  | .nd _ l r, k => match k with
    | 0 => true
    | k + 1 => bif Nat.beq (k % 2) 0 then l.has (k / 2) else r.has (k / 2)

theorem Tr.get_mk : ∀ d k, (Tr.mk d).get k = none
  | 0, _ => rfl
  | d + 1, 0 => rfl
  | d + 1, k + 1 => by simp only [Tr.mk, Tr.get]; cases Nat.beq (k % 2) 0 <;> simp [Tr.get_mk d]

theorem Tr.has_set : ∀ (t : Tr) (k : Nat) (x : SV) (k' : Nat), (t.set k x).has k' = t.has k' := by
  intro t
  induction t with
  | lf => intro k x k'; rfl
  | nd v l r ihl ihr =>
    intro k x k'
    cases k with
    | zero => cases k' <;> rfl
    | succ k =>
      cases k' with
      | zero => simp only [Tr.set]; cases Nat.beq (k % 2) 0 <;> rfl
      | succ k' =>
        simp only [Tr.set]
        cases Nat.beq (k % 2) 0 <;> simp only [cond_true, cond_false, Tr.has] <;> cases Nat.beq (k' % 2) 0 <;> simp [ihl, ihr]

theorem Tr.get_set_ne : ∀ (t : Tr) (k : Nat) (x : SV) (k' : Nat), k ≠ k' → (t.set k x).get k' = t.get k' := by
  intro t
  induction t with
  | lf => intro k x k' _; rfl
  | nd v l r ihl ihr =>
    intro k x k' h
    cases k with
    | zero => cases k' with
      | zero => exact absurd rfl h
      | succ k' => rfl
    | succ k =>
      cases k' with
      | zero => simp only [Tr.set]; cases Nat.beq (k % 2) 0 <;> rfl
      | succ k' =>
        simp only [Tr.set]
        cases hk : Nat.beq (k % 2) 0 <;> simp only [cond_true, cond_false, Tr.get] <;> cases hk' : Nat.beq (k' % 2) 0 <;> simp only [cond_true, cond_false]
        · refine ihr _ _ _ fun e => h ?_
          have h1 := Nat.ne_of_beq_eq_false hk
          have h2 := Nat.ne_of_beq_eq_false hk'
          omega
        · refine ihl _ _ _ fun e => h ?_
          have h1 := Nat.eq_of_beq_eq_true hk
          have h2 := Nat.eq_of_beq_eq_true hk'
          omega

theorem Tr.get_set_eq : ∀ (t : Tr) (k : Nat) (x : SV), (t.set k x).get k = bif t.has k then some x else none := by
  intro t
  induction t with
  | lf => intro k x; rfl
  | nd v l r ihl ihr =>
    intro k x
    cases k with
    | zero => rfl
    | succ k =>
      simp only [Tr.set, Tr.has]
      cases hk : Nat.beq (k % 2) 0 <;> simp [Tr.get, hk, ihl, ihr]

theorem Tr.get_set {t : Tr} {k k' : Nat} {x v : SV} (h : (t.set k x).get k' = some v) : (k = k' ∧ v = x) ∨ (k ≠ k' ∧ t.get k' = some v) := by
  by_cases e : k = k'
  · subst e
    rw [Tr.get_set_eq] at h
    cases hb : t.has k <;> simp [hb] at h
    exact .inl ⟨rfl, h.symm⟩
  · rw [Tr.get_set_ne _ _ _ _ e] at h
    exact .inr ⟨e, h⟩

def putK (K : Tr) : Option Tmp → SV → Tr
  | some d, v => K.set d v
  | none, _ => K

/-! ### 3. Words -/
/-- A count for a shift. -/
def cnt : SW → Option Nat
  | .int n => match n with
    | .ofNat m => some m
    | .negSucc _ => none
  | .w64 x => some x.toNat
  | .w32 x => some x.toNat
  | .w8 x => some x.toNat
  | _ => none

def cmpI (op : BinOp) (x y : Int) : Option SW :=
  match op with
  | .eql => some (.bool (x == y))
  | .neq => some (.bool (x != y))
  | .lss => some (.bool (decide (x < y)))
  | .leq => some (.bool (decide (x ≤ y)))
  | .gtr => some (.bool (decide (x > y)))
  | .geq => some (.bool (decide (x ≥ y)))
  | _ => none

def bin64 (op : BinOp) (x y : BitVec 64) : Option SW :=
  match op with
  | .add => some (.w64 (x + y))
  | .sub => some (.w64 (x - y))
  | .mul => some (.w64 (x * y))
  | .and => some (.w64 (x &&& y))
  | .or => some (.w64 (x ||| y))
  | .xor => some (.w64 (x ^^^ y))
  | .andNot => some (.w64 (x &&& ~~~y))
  | op => cmpI op (x.toNat : Int) (y.toNat : Int)

def bin32 (op : BinOp) (x y : BitVec 32) : Option SW :=
  match op with
  | .add => some (.w32 (x + y))
  | .sub => some (.w32 (x - y))
  | .mul => some (.w32 (x * y))
  | .and => some (.w32 (x &&& y))
  | .or => some (.w32 (x ||| y))
  | .xor => some (.w32 (x ^^^ y))
  | .andNot => some (.w32 (x &&& ~~~y))
  | op => cmpI op (x.toNat : Int) (y.toNat : Int)

def bin8 (op : BinOp) (x y : BitVec 8) : Option SW :=
  match op with
  | .and => some (.w8 (x &&& y))
  | .or => some (.w8 (x ||| y))
  | .xor => some (.w8 (x ^^^ y))
  | op => cmpI op (x.toNat : Int) (y.toNat : Int)

def binI (op : BinOp) (x y : Int) : Option SW :=
  match op with
  | .add => some (.int (IntKind.i64.wrap (x + y)))
  | .sub => some (.int (IntKind.i64.wrap (x - y)))
  | .mul => some (.int (IntKind.i64.wrap (x * y)))
  | .quo => bif y == 0 then none else some (.int (IntKind.i64.wrap (x.tdiv y)))
  | .rem => bif y == 0 then none else some (.int (x.tmod y))
  | op => cmpI op x y

def shW (op : BinOp) (x : SW) (c : Nat) : Option SW :=
  match op, x with
  | .shl, .w64 a => some (.w64 (a <<< c))
  | .shr, .w64 a => some (.w64 (a >>> c))
  | .shl, .w32 a => some (.w32 (a <<< c))
  | .shr, .w32 a => some (.w32 (a >>> c))
  | _, _ => none

def bin2 (op : BinOp) (x y : SW) : Option SW :=
  match x, y with
  | .w64 a, .w64 b => bin64 op a b
  | .w32 a, .w32 b => bin32 op a b
  | .w8 a, .w8 b => bin8 op a b
  | .int a, .int b => binI op a b
  | _, _ => none

def binW (op : BinOp) (x y : SW) : Option SW :=
  match op with
  | .shl => match cnt y with
    | some c => shW .shl x c
    | none => none
  | .shr => match cnt y with
    | some c => shW .shr x c
    | none => none
  | op => bin2 op x y

/-- The operators of words that yield words or Bools. -/
def isCmp : BinOp → Bool
  | .eql | .neq | .lss | .leq | .gtr | .geq => true
  | _ => false

theorem cmpI_sound {P : Program} {op : BinOp} {x y : Int} {r : SW} (h : cmpI op x y = some r) (ρ : Env) (w : World) :
    isCmp op = true ∧ (Op.intCmp op x y).run P w = .ok (r.val ρ) w := by
  cases op <;> simp only [cmpI, Option.some.injEq, reduceCtorEq] at h <;> subst h <;> exact ⟨rfl, rfl⟩

theorem wrapAdd (n : Nat) (k : IntKind) (hk : k.bits = n) (hs : k.signed = false) (x : Int) : k.wrap x = x % (2 ^ n : Int) := by
  simp [IntKind.wrap, hk, hs]

theorem toInt64 (x : BitVec 64) : BitVec.ofInt 64 (x.toNat : Int) = x := by
  apply BitVec.eq_of_toNat_eq
  simp
theorem toInt32 (x : BitVec 32) : BitVec.ofInt 32 (x.toNat : Int) = x := by
  apply BitVec.eq_of_toNat_eq
  simp
theorem toInt8 (x : BitVec 8) : BitVec.ofInt 8 (x.toNat : Int) = x := by
  apply BitVec.eq_of_toNat_eq
  simp

theorem wrap_u64_nat (x : BitVec 64) : IntKind.u64.wrap (x.toNat : Int) = (x.toNat : Int) := by
  have := x.isLt
  rw [IntKind.wrap_u64]; omega
theorem wrap_u32_nat (x : BitVec 32) : IntKind.u32.wrap (x.toNat : Int) = (x.toNat : Int) := by
  have := x.isLt
  rw [IntKind.wrap_u32']; omega
theorem wrap_u8_nat (x : BitVec 8) : IntKind.u8.wrap (x.toNat : Int) = (x.toNat : Int) := by
  have := x.isLt
  rw [IntKind.wrap_u8']; omega

theorem add64 (x y : BitVec 64) : IntKind.u64.wrap ((x.toNat : Int) + (y.toNat : Int)) = ((x + y).toNat : Int) := by
  rw [IntKind.wrap_u64, BitVec.toNat_add]; omega
theorem sub64 (x y : BitVec 64) : IntKind.u64.wrap ((x.toNat : Int) - (y.toNat : Int)) = ((x - y).toNat : Int) := by
  have := x.isLt; have := y.isLt
  rw [IntKind.wrap_u64, BitVec.toNat_sub]; omega
theorem mul64 (x y : BitVec 64) : IntKind.u64.wrap ((x.toNat : Int) * (y.toNat : Int)) = ((x * y).toNat : Int) := by
  rw [IntKind.wrap_u64, BitVec.toNat_mul]
  show _ = ((x.toNat * y.toNat % 18446744073709551616 : Nat) : Int)
  rw [Int.natCast_emod, Int.natCast_mul]; rfl
theorem add32 (x y : BitVec 32) : IntKind.u32.wrap ((x.toNat : Int) + (y.toNat : Int)) = ((x + y).toNat : Int) := by
  rw [IntKind.wrap_u32', BitVec.toNat_add]; omega
theorem sub32 (x y : BitVec 32) : IntKind.u32.wrap ((x.toNat : Int) - (y.toNat : Int)) = ((x - y).toNat : Int) := by
  have := x.isLt; have := y.isLt
  rw [IntKind.wrap_u32', BitVec.toNat_sub]; omega
theorem mul32 (x y : BitVec 32) : IntKind.u32.wrap ((x.toNat : Int) * (y.toNat : Int)) = ((x * y).toNat : Int) := by
  rw [IntKind.wrap_u32', BitVec.toNat_mul]
  show _ = ((x.toNat * y.toNat % 4294967296 : Nat) : Int)
  rw [Int.natCast_emod, Int.natCast_mul]; rfl

theorem shl64 (x : BitVec 64) (c : Nat) : IntKind.u64.wrap ((x.toNat : Int) * 2 ^ min c 64) = ((x <<< c).toNat : Int) := by
  rw [IntKind.wrap_u64, BitVec.toNat_shiftLeft, Nat.shiftLeft_eq]
  by_cases h : c ≤ 64
  · rw [Nat.min_eq_left h, Int.natCast_emod, Int.natCast_mul, Int.natCast_pow]; rfl
  · rw [Nat.min_eq_right (by omega)]
    obtain ⟨d, rfl⟩ : ∃ d, c = 64 + d := ⟨c - 64, by omega⟩
    rw [Nat.pow_add, ← Nat.mul_assoc]
    have e1 : (x.toNat : Int) * 2 ^ 64 % 18446744073709551616 = 0 := Int.mul_emod_left _ _
    have e2 : x.toNat * 2 ^ 64 * 2 ^ d % 2 ^ 64 = 0 := by rw [Nat.mul_right_comm]; exact Nat.mul_mod_left _ _
    rw [e1, e2]; rfl
theorem shl32 (x : BitVec 32) (c : Nat) : IntKind.u32.wrap ((x.toNat : Int) * 2 ^ min c 32) = ((x <<< c).toNat : Int) := by
  rw [IntKind.wrap_u32', BitVec.toNat_shiftLeft, Nat.shiftLeft_eq]
  by_cases h : c ≤ 32
  · rw [Nat.min_eq_left h, Int.natCast_emod, Int.natCast_mul, Int.natCast_pow]; rfl
  · rw [Nat.min_eq_right (by omega)]
    obtain ⟨d, rfl⟩ : ∃ d, c = 32 + d := ⟨c - 32, by omega⟩
    rw [Nat.pow_add, ← Nat.mul_assoc]
    have e1 : (x.toNat : Int) * 2 ^ 32 % 4294967296 = 0 := Int.mul_emod_left _ _
    have e2 : x.toNat * 2 ^ 32 * 2 ^ d % 2 ^ 32 = 0 := by rw [Nat.mul_right_comm]; exact Nat.mul_mod_left _ _
    rw [e1, e2]; rfl
theorem shrN (n c b : Nat) (h : n < 2 ^ b) : (n : Int).fdiv (2 ^ min c b) = ((n >>> c : Nat) : Int) := by
  rw [Nat.shiftRight_eq_div_pow]
  by_cases hc : c ≤ b
  · rw [Nat.min_eq_left hc, Int.fdiv_eq_ediv_of_nonneg _ (Int.pow_nonneg (by omega)), Int.natCast_ediv, Int.natCast_pow]; rfl
  · rw [Nat.min_eq_right (by omega), Int.fdiv_eq_ediv_of_nonneg _ (Int.pow_nonneg (by omega))]
    have h2 : (n : Int) / (2 : Int) ^ b = 0 := by
      have : ((n / 2 ^ b : Nat) : Int) = 0 := by rw [Nat.div_eq_of_lt h]; rfl
      rw [Int.natCast_ediv, Int.natCast_pow] at this; exact this
    have h3 : n / 2 ^ c = 0 := Nat.div_eq_of_lt (Nat.lt_of_lt_of_le h (Nat.pow_le_pow_right (by omega) (by omega)))
    rw [h2, h3]; rfl
theorem shr64 (x : BitVec 64) (c : Nat) : (x.toNat : Int).fdiv (2 ^ min c 64) = ((x >>> c).toNat : Int) := by
  rw [BitVec.toNat_ushiftRight]; exact shrN _ _ _ x.isLt
theorem shr32 (x : BitVec 32) (c : Nat) : (x.toNat : Int).fdiv (2 ^ min c 32) = ((x >>> c).toNat : Int) := by
  rw [BitVec.toNat_ushiftRight]; exact shrN _ _ _ x.isLt

theorem bits64 (op : BinOp) (x y z : BitVec 64) (h : (match op with
    | .and => some (x &&& y) | .or => some (x ||| y) | .xor => some (x ^^^ y) | .andNot => some (x &&& ~~~y) | _ => none) = some z) (P : Program) (w : World) :
    (Op.intBits op .u64 (x.toNat : Int) (y.toNat : Int)).run P w = .ok (.int .u64 (z.toNat : Int)) w := by
  have e : ∀ r : BitVec 64, (pure (Value.int .u64 (IntKind.u64.wrap (r.toNat : Int))) : Sem Value).run P w = .ok (.int .u64 (r.toNat : Int)) w := fun r => by rw [wrap_u64_nat]; rfl
  have ex : BitVec.ofInt IntKind.u64.bits (x.toNat : Int) = x := toInt64 x
  have ey : BitVec.ofInt IntKind.u64.bits (y.toNat : Int) = y := toInt64 y
  cases op <;> simp only [reduceCtorEq, Option.some.injEq] at h <;> subst h <;> simp only [Op.intBits, ex, ey] <;> exact e _

theorem bits32 (op : BinOp) (x y z : BitVec 32) (h : (match op with
    | .and => some (x &&& y) | .or => some (x ||| y) | .xor => some (x ^^^ y) | .andNot => some (x &&& ~~~y) | _ => none) = some z) (P : Program) (w : World) :
    (Op.intBits op .u32 (x.toNat : Int) (y.toNat : Int)).run P w = .ok (.int .u32 (z.toNat : Int)) w := by
  have e : ∀ r : BitVec 32, (pure (Value.int .u32 (IntKind.u32.wrap (r.toNat : Int))) : Sem Value).run P w = .ok (.int .u32 (r.toNat : Int)) w := fun r => by rw [wrap_u32_nat]; rfl
  have ex : BitVec.ofInt IntKind.u32.bits (x.toNat : Int) = x := toInt32 x
  have ey : BitVec.ofInt IntKind.u32.bits (y.toNat : Int) = y := toInt32 y
  cases op <;> simp only [reduceCtorEq, Option.some.injEq] at h <;> subst h <;> simp only [Op.intBits, ex, ey] <;> exact e _

theorem bits8 (op : BinOp) (x y z : BitVec 8) (h : (match op with
    | .and => some (x &&& y) | .or => some (x ||| y) | .xor => some (x ^^^ y) | .andNot => some (x &&& ~~~y) | _ => none) = some z) (P : Program) (w : World) :
    (Op.intBits op .u8 (x.toNat : Int) (y.toNat : Int)).run P w = .ok (.int .u8 (z.toNat : Int)) w := by
  have e : ∀ r : BitVec 8, (pure (Value.int .u8 (IntKind.u8.wrap (r.toNat : Int))) : Sem Value).run P w = .ok (.int .u8 (r.toNat : Int)) w := fun r => by rw [wrap_u8_nat]; rfl
  have ex : BitVec.ofInt IntKind.u8.bits (x.toNat : Int) = x := toInt8 x
  have ey : BitVec.ofInt IntKind.u8.bits (y.toNat : Int) = y := toInt8 y
  cases op <;> simp only [reduceCtorEq, Option.some.injEq] at h <;> subst h <;> simp only [Op.intBits, ex, ey] <;> exact e _

section
variable {P : Program} {t : TypeId} {ρ : Env} {w : World}

theorem bin64_sound {op : BinOp} {x y : BitVec 64} {r : SW} (h : bin64 op x y = some r) (h1 : op ≠ .shl) (h2 : op ≠ .shr) :
    (binOp op t (.int .u64 (x.toNat : Int)) (.int .u64 (y.toNat : Int))).run P w = .ok (r.val ρ) w := by
  cases op <;> simp only [bin64, Option.some.injEq, ne_eq, not_true_eq_false, reduceCtorEq, not_false_eq_true] at h h1 h2
  case add => subst h; simp [binOp, Op.intArith, SW.val, add64]
  case sub => subst h; simp [binOp, Op.intArith, SW.val, sub64]
  case mul => subst h; simp [binOp, Op.intArith, SW.val, mul64]
  case and => subst h; exact bits64 .and x y _ rfl P w
  case or => subst h; exact bits64 .or x y _ rfl P w
  case xor => subst h; exact bits64 .xor x y _ rfl P w
  case andNot => subst h; exact bits64 .andNot x y _ rfl P w
  all_goals
    obtain ⟨hc, hr⟩ := cmpI_sound (P := P) h ρ w
    first | exact hr | simp [isCmp] at hc

theorem bin32_sound {op : BinOp} {x y : BitVec 32} {r : SW} (h : bin32 op x y = some r) (h1 : op ≠ .shl) (h2 : op ≠ .shr) :
    (binOp op t (.int .u32 (x.toNat : Int)) (.int .u32 (y.toNat : Int))).run P w = .ok (r.val ρ) w := by
  cases op <;> simp only [bin32, Option.some.injEq, ne_eq, not_true_eq_false, reduceCtorEq, not_false_eq_true] at h h1 h2
  case add => subst h; simp [binOp, Op.intArith, SW.val, add32]
  case sub => subst h; simp [binOp, Op.intArith, SW.val, sub32]
  case mul => subst h; simp [binOp, Op.intArith, SW.val, mul32]
  case and => subst h; exact bits32 .and x y _ rfl P w
  case or => subst h; exact bits32 .or x y _ rfl P w
  case xor => subst h; exact bits32 .xor x y _ rfl P w
  case andNot => subst h; exact bits32 .andNot x y _ rfl P w
  all_goals
    obtain ⟨hc, hr⟩ := cmpI_sound (P := P) h ρ w
    first | exact hr | simp [isCmp] at hc

theorem bin8_sound {op : BinOp} {x y : BitVec 8} {r : SW} (h : bin8 op x y = some r) (h1 : op ≠ .shl) (h2 : op ≠ .shr) :
    (binOp op t (.int .u8 (x.toNat : Int)) (.int .u8 (y.toNat : Int))).run P w = .ok (r.val ρ) w := by
  cases op <;> simp only [bin8, Option.some.injEq, ne_eq, not_true_eq_false, reduceCtorEq, not_false_eq_true] at h h1 h2
  case and => subst h; exact bits8 .and x y _ rfl P w
  case or => subst h; exact bits8 .or x y _ rfl P w
  case xor => subst h; exact bits8 .xor x y _ rfl P w
  all_goals
    obtain ⟨hc, hr⟩ := cmpI_sound (P := P) h ρ w
    first | exact hr | simp [isCmp] at hc

theorem binI_sound {op : BinOp} {x y : Int} {r : SW} (h : binI op x y = some r) (h1 : op ≠ .shl) (h2 : op ≠ .shr) :
    (binOp op t (.int .i64 x) (.int .i64 y)).run P w = .ok (r.val ρ) w := by
  cases op <;> simp only [binI, Option.some.injEq, ne_eq, not_true_eq_false, reduceCtorEq, not_false_eq_true] at h h1 h2
  case add => subst h; rfl
  case sub => subst h; rfl
  case mul => subst h; rfl
  case quo =>
    cases hy : y == 0 <;> simp [hy] at h
    subst h
    have hy' : ¬ y = 0 := by simpa using hy
    simp [binOp, Op.intDiv, hy', SW.val]
  case rem =>
    cases hy : y == 0 <;> simp [hy] at h
    subst h
    have hy' : ¬ y = 0 := by simpa using hy
    simp [binOp, Op.intDiv, hy', SW.val]
  all_goals
    obtain ⟨hc, hr⟩ := cmpI_sound (P := P) h ρ w
    first | exact hr | simp [isCmp] at hc

theorem cnt_sound {y : SW} {c : Nat} (h : cnt y = some c) : ∃ k, y.val ρ = .int k (c : Int) := by
  cases y with
  | int n => cases n <;> simp [cnt] at h; subst h; exact ⟨_, rfl⟩
  | w64 x => simp [cnt] at h; subst h; exact ⟨_, rfl⟩
  | w32 x => simp [cnt] at h; subst h; exact ⟨_, rfl⟩
  | w8 x => simp [cnt] at h; subst h; exact ⟨_, rfl⟩
  | _ => simp [cnt] at h

theorem shW_sound {op : BinOp} {x r : SW} {c : Nat} {k : IntKind} (h : shW op x c = some r) : (binOp op t (x.val ρ) (.int k (c : Int))).run P w = .ok (r.val ρ) w := by
  have hc : ¬ (c : Int) < 0 := by omega
  cases op <;> cases x <;> simp [shW] at h <;> subst h <;> simp [binOp, Op.shift, SW.val, hc, IntKind.bits, shl64, shl32, shr64, shr32]

theorem binW_sound {op : BinOp} {x y r : SW} (h : binW op x y = some r) : (binOp op t (x.val ρ) (y.val ρ)).run P w = .ok (r.val ρ) w := by
  by_cases h1 : op = .shl
  · subst h1
    simp only [binW] at h
    cases hc : cnt y with
    | none => simp [hc] at h
    | some c =>
      simp only [hc] at h
      obtain ⟨k, hk⟩ := cnt_sound (ρ := ρ) hc
      rw [hk]; exact shW_sound h
  by_cases h2 : op = .shr
  · subst h2
    simp only [binW] at h
    cases hc : cnt y with
    | none => simp [hc] at h
    | some c =>
      simp only [hc] at h
      obtain ⟨k, hk⟩ := cnt_sound (ρ := ρ) hc
      rw [hk]; exact shW_sound h
  have h3 : bin2 op x y = some r := by
    cases op <;> first | exact absurd rfl h1 | exact absurd rfl h2 | exact h
  clear h
  unfold bin2 at h3
  split at h3
  · exact bin64_sound h3 h1 h2
  · exact bin32_sound h3 h1 h2
  · exact bin8_sound h3 h1 h2
  · exact binI_sound h3 h1 h2
  · cases h3

/-! ### 4. Conversions -/
def conv (k : IntKind) (x : SW) : Option SW :=
  match k, x with
  | .u64, .w64 a => some (.w64 a)
  | .u64, .w32 a => some (.w64 (a.setWidth 64))
  | .u64, .w8 a => some (.w64 (a.setWidth 64))
  | .u64, .int n => some (.w64 (BitVec.ofInt 64 n))
  | .u32, .w64 a => some (.w32 (a.setWidth 32))
  | .u32, .w32 a => some (.w32 a)
  | .u32, .w8 a => some (.w32 (a.setWidth 32))
  | .u32, .int n => some (.w32 (BitVec.ofInt 32 n))
  | .u8, .w64 a => some (.w8 (a.setWidth 8))
  | .u8, .w32 a => some (.w8 (a.setWidth 8))
  | .u8, .w8 a => some (.w8 a)
  | .u8, .int n => some (.w8 (BitVec.ofInt 8 n))
  | .i64, .int n => some (.int (IntKind.i64.wrap n))
  | .i64, .w64 a => some (.int (IntKind.i64.wrap (a.toNat : Int)))
  | .i64, .w32 a => some (.int (a.toNat : Int))
  | .i64, .w8 a => some (.int (a.toNat : Int))
  | _, _ => none

theorem conv_sound {k : IntKind} {x r : SW} (h : conv k x = some r) : ∃ k0 n, x.val ρ = .int k0 n ∧ (Conv.intToInt k n).run P w = .ok (r.val ρ) w := by
  have e : ∀ (v v' : Value), v = v' → (pure v : Sem Value).run P w = .ok v' w := fun v v' h => by rw [h]; rfl
  cases k <;> cases x <;> simp only [conv, Option.some.injEq, reduceCtorEq] at h <;> subst h <;> refine ⟨_, _, rfl, e _ _ ?_⟩ <;> simp only [SW.val] <;> congr 1
  all_goals first
    | exact wrap_u64_nat _
    | exact wrap_u32_nat _
    | exact wrap_u8_nat _
    | (rename_i a; have := a.isLt; rw [IntKind.wrap_u64, BitVec.toNat_setWidth]; omega)
    | (rename_i a; have := a.isLt; rw [IntKind.wrap_u32', BitVec.toNat_setWidth]; omega)
    | (rename_i a; have := a.isLt; rw [IntKind.wrap_u8', BitVec.toNat_setWidth]; omega)
    | (rw [IntKind.wrap_u64, BitVec.toNat_ofInt]; omega)
    | (rw [IntKind.wrap_u32', BitVec.toNat_ofInt]; omega)
    | (rw [IntKind.wrap_u8', BitVec.toNat_ofInt]; omega)
    | (rename_i a; have := a.isLt; exact IntWalk.i64_in _ (by omega))
end
end CI
end Go.Proofs.Yteooohmlmefbnaa
