/-
  Runs of straight code over words that stay open (part 2: types, memory, single operations). Each step is proved sound against the model.
  Conditions: none; it proves no statement by itself.
-/
import Derived.Test.YteooohmlmefbnaaCJa
import Derived.Laws.IdiomCopy
import Derived.RowKit3
namespace Go.Proofs.Yteooohmlmefbnaa
namespace CI
open Go

/-! ### 1. Types -/
inductive TD where
  | int (k : IntKind)
  | arr (n esz : Nat) (scal : Bool)
  | slc (esz : Nat)
  | oth

structure TRow where
  d : TD
  size : Nat
  zero : SV

def lk {α : Type} : List (Nat × α) → Nat → Option α
  | [], _ => none
  | (k, v) :: l, n => bif Nat.beq k n then some v else lk l n

def descAgg : TypeDesc → Bool
  | .struct _ | .array _ _ => true
  | _ => false

def TDesc (P : Program) (t : TypeId) : TD → Prop
  | .int k => P.underlying t = some (.int k)
  | .arr n esz scal => ∃ e i, P.underlying t = some (.array n e) ∧ P.info? e = some i ∧ i.size = esz ∧ (scal = true → ∃ d, P.underlying e = some d ∧ descAgg d = false)
  | .slc esz => ∃ e i, P.underlying t = some (.slice e) ∧ P.info? e = some i ∧ i.size = esz
  | .oth => ∃ d, P.underlying t = some d ∧ descAgg d = false

structure TOK (P : Program) (t : TypeId) (r : TRow) : Prop where
  info : ∃ i, P.info? t = some i ∧ i.size = r.size ∧ i.zero = some (r.zero.val (fun _ => (0, 0)))
  free : r.zero.lt 0
  desc : TDesc P t r.d

def TD.agg : TD → Bool
  | .arr _ _ _ => true
  | _ => false

theorem run_isAgg {P : Program} {t : TypeId} {d : TD} (h : TDesc P t d) (w : World) : (isAgg t).run P w = .ok d.agg w := by
  unfold isAgg
  cases d with
  | int k => rw [Sem.run_bind, run_underlying h w]; rfl
  | arr n esz scal => obtain ⟨e, i, hu, _⟩ := h; rw [Sem.run_bind, run_underlying hu w]; rfl
  | slc esz => obtain ⟨e, i, hu, _⟩ := h; rw [Sem.run_bind, run_underlying hu w]; rfl
  | oth =>
    obtain ⟨d, hu, hd⟩ := h
    rw [Sem.run_bind, run_underlying hu w]
    cases d <;> simp [descAgg] at hd <;> rfl

theorem run_sizeOf {P : Program} {t : TypeId} {i : TypeInfo} (h : P.info? t = some i) (w : World) : (sizeOf t).run P w = .ok i.size w := by
  simp [sizeOf, typeInfo, h]

theorem run_zeroValue {P : Program} {t : TypeId} {i : TypeInfo} {v : Value} (h : P.info? t = some i) (hz : i.zero = some v) (w : World) : (zeroValue t).run P w = .ok v w := by
  simp [zeroValue, typeInfo, h, hz]

/-! ### 2. Operands -/
def cst (v : Value) : Option SV :=
  match v with
  | .int k n => match n with
    | .ofNat m => match k with
      | .u64 => bif Nat.blt m 18446744073709551616 then some (.s (.w64 (BitVec.ofNat 64 m))) else none
      | .u32 => bif Nat.blt m 4294967296 then some (.s (.w32 (BitVec.ofNat 32 m))) else none
      | .u8 => bif Nat.blt m 256 then some (.s (.w8 (BitVec.ofNat 8 m))) else none
      | .i64 => some (.s (.int (.ofNat m)))
      | _ => none
    | .negSucc m => match k with
      | .i64 => some (.s (.int (.negSucc m)))
      | _ => none
  | .bool b => some (.s (.bool b))
  | .slice none l c => some (.s (.raw (.slice none l c)))
  | .pointer none => some (.s (.raw (.pointer none)))
  | _ => none

theorem cst_sound {v : Value} {x : SV} (h : cst v = some x) (ρ : Env) : v = x.val ρ ∧ ∀ n, x.lt n := by
  unfold cst at h
  split at h
  · split at h
    · split at h
      · rename_i m _
        cases hb : Nat.blt m 18446744073709551616 <;> simp only [hb, cond_false, cond_true, reduceCtorEq, Option.some.injEq] at h
        subst h
        have : m < 18446744073709551616 := Nat.le_of_ble_eq_true hb
        exact ⟨by simp only [SV.val, SW.val, BitVec.toNat_ofNat]; rw [Nat.mod_eq_of_lt (by simpa using this)]; rfl, fun _ => trivial⟩
      · rename_i m _
        cases hb : Nat.blt m 4294967296 <;> simp only [hb, cond_false, cond_true, reduceCtorEq, Option.some.injEq] at h
        subst h
        have : m < 4294967296 := Nat.le_of_ble_eq_true hb
        exact ⟨by simp only [SV.val, SW.val, BitVec.toNat_ofNat]; rw [Nat.mod_eq_of_lt (by simpa using this)]; rfl, fun _ => trivial⟩
      · rename_i m _
        cases hb : Nat.blt m 256 <;> simp only [hb, cond_false, cond_true, reduceCtorEq, Option.some.injEq] at h
        subst h
        have : m < 256 := Nat.le_of_ble_eq_true hb
        exact ⟨by simp only [SV.val, SW.val, BitVec.toNat_ofNat]; rw [Nat.mod_eq_of_lt (by simpa using this)]; rfl, fun _ => trivial⟩
      · cases h; exact ⟨rfl, fun _ => trivial⟩
      · cases h
    · split at h
      · cases h; exact ⟨rfl, fun _ => trivial⟩
      · cases h
  · cases h; exact ⟨rfl, fun _ => trivial⟩
  · cases h; exact ⟨rfl, fun _ => trivial⟩
  · cases h; exact ⟨rfl, fun _ => trivial⟩
  · cases h

def evX (K : Tr) : Operand → Option SV
  | .tmp t => K.get t
  | .const v => cst v
  | _ => none

/-! ### 3. Operations that look at nothing but their operands -/
def evAddr (d : TD) (x i : SV) : Option SV :=
  match i with
  | .s (.int (.ofNat j)) => match d, x with
    | .arr n esz _, .s (.ptr id off) => bif Nat.blt j n then some (.s (.ptr id (off + j * esz))) else none
    | .slc esz, .s (.slc id off len _) => bif Nat.blt j len then some (.s (.ptr id (off + j * esz))) else none
    | _, _ => none
  | _ => none

def evIndex (d : TD) (x i : SV) : Option SV :=
  match i with
  | .s (.int (.ofNat j)) => match d, x with
    | .arr n 1 true, .agg cs => bif Nat.blt j n then (match nth cs j with
      | some c => some (.s c)
      | none => none) else none
    | _, _ => none
  | _ => none

/-- A bound of a slice expression; 'none': not given. -/
def evBd (E : Operand → Option SV) (o : Option Operand) (dflt : Nat) : Option Nat :=
  match o with
  | none => some dflt
  | some x => match E x with
    | some (.s (.int (.ofNat j))) => some j
    | _ => none

def evSlice (d : TD) (x : SV) (E : Operand → Option SV) (lo hi : Option Operand) : Option SV :=
  match d, x with
  | .arr n esz _, .s (.ptr id off) => match evBd E lo 0 with
    | some l => match evBd E hi n with
      | some h => bif (Nat.ble l h && Nat.ble h n) && (Nat.blt l n || Nat.beq l 0) then some (.s (.slc id (off + l * esz) (h - l) (n - h))) else none
      | none => none
    | none => none
  | .slc esz, .s (.slc id off len ext) => match evBd E lo 0 with
    | some l => match evBd E hi len with
      | some h => bif (Nat.ble l h && Nat.ble h len) && (Nat.blt l len || Nat.beq l 0) then some (.s (.slc id (off + l * esz) (h - l) ((len - h) + ext))) else none
      | none => none
    | none => none
  | _, _ => none

def evP (Γ : List (Nat × TRow)) (E : Operand → Option SV) (op : Op) : Option SV :=
  match op with
  | .move x => E x
  | .assign x => E x
  | .binOp o _ x y _ => match E x with
    | some (.s a) => match E y with
      | some (.s b) => match binW o a b with
        | some r => some (.s r)
        | none => none
      | _ => none
    | _ => none
  | .convert _ dst x => match lk Γ dst with
    | some ⟨.int k, _, _⟩ => match E x with
      | some (.s a) => match conv k a with
        | some r => some (.s r)
        | none => none
      | _ => none
    | _ => none
  | .nilCheck x => match E x with
    | some (.s (.ptr id off)) => some (.s (.ptr id off))
    | _ => none
  | .indexAddr t x i => match lk Γ t with
    | some r => match E x with
      | some vx => match E i with
        | some vi => evAddr r.d vx vi
        | none => none
      | none => none
    | none => none
  | .index t x i => match lk Γ t with
    | some r => match E x with
      | some vx => match E i with
        | some vi => evIndex r.d vx vi
        | none => none
      | none => none
    | none => none
  | .slice t x lo hi none => match lk Γ t with
    | some r => match E x with
      | some vx => evSlice r.d vx E lo hi
      | none => none
    | none => none
  | .sliceToArrayPointer t x => match lk Γ t with
    | some ⟨.arr n _ _, _, _⟩ => match E x with
      | some (.s (.slc id off len _)) => bif Nat.ble n len then some (.s (.ptr id off)) else none
      | _ => none
    | _ => none
  | .build t parts => match parts.toList with
    | [] => match lk Γ t with
      | some ⟨.arr _ _ _, _, .agg z⟩ => some (.agg z)
      | _ => none
    | _ => none
  | _ => none

theorem addr_add (b o n : Nat) : (⟨b, o, none⟩ : Addr).add n = ⟨b, o + n, none⟩ := by
  unfold Addr.add; split <;> simp_all

section
variable {P : Program} {t : TypeId} {ρ : Env} {w : World}

theorem evAddr_sound {d : TD} {x i v : SV} (hd : TDesc P t d) (h : evAddr d x i = some v) : (Instr.indexAt t (x.val ρ) (i.val ρ)).run P w = .ok (v.val ρ) w := by
  unfold evAddr at h
  split at h
  · rename_i j
    split at h
    · rename_i n esz scal id off
      cases hb : Nat.blt j n <;> simp only [hb, cond_false, cond_true, reduceCtorEq, Option.some.injEq] at h
      subst h
      have hj : j < n := Nat.le_of_ble_eq_true hb
      obtain ⟨e, inf, hu, hi, hs, _⟩ := hd
      have hjn : (0 : Int) ≤ Int.ofNat j ∧ Int.ofNat j < (n : Int) := ⟨by simp, by simpa using hj⟩
      simp only [Instr.indexAt, SV.val, SW.val, asIntOf, Sem.run_bind, Sem.run_pure, Result.andThen_ok, run_underlying hu, Instr.sureAddr, if_pos hjn, run_sizeOf hi, hs]
      simp [addr_add, Nat.add_assoc]
    · rename_i esz id off len ext
      cases hb : Nat.blt j len <;> simp only [hb, cond_false, cond_true, reduceCtorEq, Option.some.injEq] at h
      subst h
      have hj : j < len := Nat.le_of_ble_eq_true hb
      obtain ⟨e, inf, hu, hi, hs⟩ := hd
      have hjn : (0 : Int) ≤ Int.ofNat j ∧ Int.ofNat j < (len : Int) := ⟨by simp, by simpa using hj⟩
      simp only [Instr.indexAt, SV.val, SW.val, asIntOf, Sem.run_bind, Sem.run_pure, Result.andThen_ok, run_underlying hu, if_pos hjn, run_sizeOf hi, hs]
      simp [addr_add, Nat.add_assoc]
    · cases h
  · cases h

theorem evIndex_sound {d : TD} {x i v : SV} (hd : TDesc P t d) (h : evIndex d x i = some v) : (Instr.index t (x.val ρ) (i.val ρ)).run P w = .ok (v.val ρ) w := by
  unfold evIndex at h
  split at h
  · rename_i j
    split at h
    · rename_i n cs
      cases hb : Nat.blt j n <;> simp only [hb, cond_false, cond_true, reduceCtorEq] at h
      have hj : j < n := Nat.le_of_ble_eq_true hb
      split at h
      · rename_i c hc
        cases h
        rw [nth_eq] at hc
        obtain ⟨e, inf, hu, hi, hs, hsc⟩ := hd
        obtain ⟨de, hue, hde⟩ := hsc rfl
        have hjn : (0 : Int) ≤ Int.ofNat j ∧ Int.ofNat j < (n : Int) := ⟨by simp, by simpa using hj⟩
        have hagg : (isAgg e).run P w = .ok false w := by
          have := run_isAgg (P := P) (t := e) (d := .oth) ⟨de, hue, hde⟩ w
          exact this
        have hcv : ((cs.map (SW.val ρ)).toArray)[j]? = some (c.val ρ) := by simp [hc]
        simp only [Instr.index, SV.val, SW.val, asIntOf, Sem.run_bind, Sem.run_pure, Result.andThen_ok, run_underlying hu, if_pos hjn, run_sizeOf hi, hs, part, hagg, Nat.mul_one]
        have e0 : (Int.ofNat j).toNat = j := rfl
        simp only [e0, hcv]
        rfl
      · cases h
    · cases h
  · cases h

theorem evBd_none {E : Operand → Option SV} {dflt l : Nat} (h : evBd E none dflt = some l) : l = dflt := by
  simp [evBd] at h; exact h.symm

theorem evBd_some {E : Operand → Option SV} {x : Operand} {dflt l : Nat} (h : evBd E (some x) dflt = some l) : E x = some (.s (.int (.ofNat l))) := by
  simp only [evBd] at h
  split at h
  · rename_i j hj; simp at h; subst h; exact hj
  · cases h

theorem run_sliceBound {y l : Nat} {code : BoundsCode} (h : l ≤ y) : (Instr.sliceBound (.int .i64 (l : Int)) y code).run P w = .ok l w := by
  have : (0 : Int) ≤ (l : Int) ∧ (l : Int) ≤ (y : Int) := ⟨by simp, by simpa using h⟩
  simp only [Instr.sliceBound, asIntOf, Sem.run_bind, Sem.run_pure, Result.andThen_ok, if_pos this]
  rfl

theorem run_sliceBounds {E : Operand → Option SV} {evl : Operand → Value} (hE : ∀ x v, E x = some v → evl x = v.val ρ) {isSlice : Bool} {len cap l h : Nat} {lo hi : Option Operand}
    (h1 : evBd E lo 0 = some l) (h2 : evBd E hi len = some h) (hl : l ≤ h) (hh : h ≤ len) (hc : len ≤ cap) :
    (Instr.sliceBounds isSlice len cap (lo.map evl) (hi.map evl) none).run P w = .ok (l, h, cap) w := by
  unfold Instr.sliceBounds
  cases hi with
  | none =>
    have e2 := evBd_none h2
    subst e2
    cases lo with
    | none => have e1 := evBd_none h1; subst e1; simp
    | some x =>
      have e1 := hE _ _ (evBd_some h1)
      simp only [Option.map_some, Option.map_none, e1, SV.val, SW.val]
      simp [run_sliceBound hl]
  | some y =>
    have e2 := hE _ _ (evBd_some h2)
    cases lo with
    | none =>
      have e1 := evBd_none h1; subst e1
      simp only [Option.map_some, Option.map_none, e2, SV.val, SW.val]
      simp [run_sliceBound (Nat.le_trans hh hc)]
    | some x =>
      have e1 := hE _ _ (evBd_some h1)
      simp only [Option.map_some, e1, e2, SV.val, SW.val]
      simp [run_sliceBound hl, run_sliceBound (Nat.le_trans hh hc)]

theorem evSlice_sound {d : TD} {x v : SV} {E : Operand → Option SV} {evl : Operand → Value} (hE : ∀ x v, E x = some v → evl x = v.val ρ) {lo hi : Option Operand} (hd : TDesc P t d)
    (h : evSlice d x E lo hi = some v) : (Instr.sliceAt t (x.val ρ) (lo.map evl) (hi.map evl) none).run P w = .ok (v.val ρ) w := by
  unfold evSlice at h
  split at h
  · rename_i n esz scal id off
    split at h
    · rename_i l h1
      split at h
      · rename_i hh h2
        cases hb : (Nat.ble l hh && Nat.ble hh n) && (Nat.blt l n || Nat.beq l 0) <;> simp only [hb, cond_false, cond_true, reduceCtorEq, Option.some.injEq] at h
        subst h
        simp only [Bool.and_eq_true, Bool.or_eq_true] at hb
        have a1 := Nat.le_of_ble_eq_true hb.1.1
        have a2 := Nat.le_of_ble_eq_true hb.1.2
        have a3 : l < n ∨ l = 0 := hb.2.imp (fun e => Nat.le_of_ble_eq_true e) (fun e => Nat.eq_of_beq_eq_true e)
        obtain ⟨e, inf, hu, hi, hs, _⟩ := hd
        have hsb := run_sliceBounds (P := P) (ρ := ρ) (w := w) hE (isSlice := false) h1 h2 a1 a2 (Nat.le_refl n)
        simp only [Instr.sliceAt, Sem.run_bind, Sem.run_pure, Result.andThen_ok, run_underlying hu, SV.val, SW.val, Instr.sureAddr, hsb, run_sizeOf hi, hs]
        have ea : (if n = l then (⟨(ρ id).1, (ρ id).2 + off, none⟩ : Addr) else (⟨(ρ id).1, (ρ id).2 + off, none⟩ : Addr).add (l * esz)) = ⟨(ρ id).1, (ρ id).2 + (off + l * esz), none⟩ := by
          rw [addr_add]
          split
          · rename_i e; rcases a3 with a3 | a3
            · omega
            · subst a3; simp
          · rw [Nat.add_assoc]
        rw [ea, show n - l = hh - l + (n - hh) by omega]
      · cases h
    · cases h
  · rename_i esz id off len ext
    split at h
    · rename_i l h1
      split at h
      · rename_i hh h2
        cases hb : (Nat.ble l hh && Nat.ble hh len) && (Nat.blt l len || Nat.beq l 0) <;> simp only [hb, cond_false, cond_true, reduceCtorEq, Option.some.injEq] at h
        subst h
        simp only [Bool.and_eq_true, Bool.or_eq_true] at hb
        have a1 := Nat.le_of_ble_eq_true hb.1.1
        have a2 := Nat.le_of_ble_eq_true hb.1.2
        have a3 : l < len ∨ l = 0 := hb.2.imp (fun e => Nat.le_of_ble_eq_true e) (fun e => Nat.eq_of_beq_eq_true e)
        obtain ⟨e, inf, hu, hi, hs⟩ := hd
        have hsb := run_sliceBounds (P := P) (ρ := ρ) (w := w) hE (isSlice := true) h1 h2 a1 a2 (Nat.le_add_right len ext)
        simp only [Instr.sliceAt, Instr.slice, Sem.run_bind, Sem.run_pure, Result.andThen_ok, run_underlying hu, SV.val, SW.val, hsb, run_sizeOf hi, hs, Option.map_some]
        have ea : (if len + ext = l then some (⟨(ρ id).1, (ρ id).2 + off, none⟩ : Addr) else some ((⟨(ρ id).1, (ρ id).2 + off, none⟩ : Addr).add (l * esz))) = some ⟨(ρ id).1, (ρ id).2 + (off + l * esz), none⟩ := by
          rw [addr_add]
          split
          · rename_i e; rcases a3 with a3 | a3
            · omega
            · subst a3; simp
          · rw [Nat.add_assoc]
        rw [ea, show len + ext - l = hh - l + (len - hh + ext) by omega]
      · cases h
    · cases h
  · cases h

theorem isInt_of_binW {o : BinOp} {a b r : SW} (h : binW o a b = some r) : (∃ k n, a.val ρ = .int k n) ∧ ∃ k n, b.val ρ = .int k n := by
  have ints : ∀ {x y : SW} {z : SW}, bin2 o x y = some z → (∃ k n, x.val ρ = .int k n) ∧ ∃ k n, y.val ρ = .int k n := by
    intro x y z hz
    unfold bin2 at hz
    split at hz
    · exact ⟨⟨_, _, rfl⟩, ⟨_, _, rfl⟩⟩
    · exact ⟨⟨_, _, rfl⟩, ⟨_, _, rfl⟩⟩
    · exact ⟨⟨_, _, rfl⟩, ⟨_, _, rfl⟩⟩
    · exact ⟨⟨_, _, rfl⟩, ⟨_, _, rfl⟩⟩
    · cases hz
  have sh : ∀ {c : Nat}, shW o a c = some r → ∃ k n, a.val ρ = .int k n := by
    intro c hc
    unfold shW at hc
    split at hc <;> first | exact ⟨_, _, rfl⟩ | cases hc
  by_cases h1 : o = .shl
  · subst h1
    simp only [binW] at h
    cases hc : cnt b with
    | none => simp [hc] at h
    | some c =>
      simp only [hc] at h
      obtain ⟨k, hk⟩ := cnt_sound (ρ := ρ) hc
      exact ⟨sh h, _, _, hk⟩
  by_cases h2 : o = .shr
  · subst h2
    simp only [binW] at h
    cases hc : cnt b with
    | none => simp [hc] at h
    | some c =>
      simp only [hc] at h
      obtain ⟨k, hk⟩ := cnt_sound (ρ := ρ) hc
      exact ⟨sh h, _, _, hk⟩
  have h3 : bin2 o a b = some r := by
    cases o <;> first | exact absurd rfl h1 | exact absurd rfl h2 | exact h
  exact ints h3

theorem run_eqGuard (o : BinOp) (t : TypeId) (x y : Operand) (k k' : IntKind) (m n : Int) : (eqGuard o t x y (.int k m) (.int k' n)).run P w = .ok () w := by
  unfold eqGuard
  cases o <;> rfl

theorem run_convert {src dst : TypeId} {k k0 : IntKind} {n : Int} {v : Value} {ds : TypeDesc} (hs : P.underlying src = some ds) (hd : P.underlying dst = some (.int k)) (h : (Conv.intToInt k n).run P w = .ok v w) :
    (convert src dst (.int k0 n)).run P w = .ok v w := by
  unfold convert
  simp only [Sem.run_bind, run_underlying hs, run_underlying hd, Result.andThen_ok]
  cases ds <;> exact h

/-- Both types of a conversion are known. -/
def evPc (Γ : List (Nat × TRow)) (op : Op) : Bool :=
  match op with
  | .convert src _ _ => (lk Γ src).isSome
  | _ => true

theorem TDesc.und {d : TD} (h : TDesc P t d) : ∃ u, P.underlying t = some u := by
  cases d with
  | int k => exact ⟨_, h⟩
  | arr n esz scal => obtain ⟨e, i, hu, _⟩ := h; exact ⟨_, hu⟩
  | slc esz => obtain ⟨e, i, hu, _⟩ := h; exact ⟨_, hu⟩
  | oth => obtain ⟨d, hu, _⟩ := h; exact ⟨_, hu⟩

theorem evP_sound {Γ : List (Nat × TRow)} (hΓ : ∀ t r, lk Γ t = some r → TOK P t r) {E : Operand → Option SV} {evl : Operand → Value} (hE : ∀ x v, E x = some v → evl x = v.val ρ)
    {o : Oper} {v : SV} (hc : evPc Γ o.op = true) (h : evP Γ E o.op = some v) : (execOp evl o).run P w = .ok (.value (v.val ρ)) w := by
  obtain ⟨dst, op, ty, pos, after, guard⟩ := o
  simp only at h hc
  unfold evP at h
  split at h
  · simp only [execOp, hE _ _ h]; rfl
  · simp only [execOp, hE _ _ h]; rfl
  · rename_i o t x y yt
    split at h
    · rename_i a ha
      split at h
      · rename_i b hb
        split at h
        · rename_i r hr
          cases h
          have e1 := hE _ _ ha
          have e2 := hE _ _ hb
          simp only [SV.val] at e1 e2
          obtain ⟨⟨k, m, ek⟩, k', n, ek'⟩ := isInt_of_binW (ρ := ρ) hr
          have hg := run_eqGuard (P := P) (w := w) o t x y k k' m n
          rw [← ek, ← ek'] at hg
          have hbn := binW_sound (P := P) (t := t) (ρ := ρ) (w := w) hr
          simp only [execOp, e1, e2, Sem.run_bind, hg, Result.andThen_ok, hbn]
          rfl
        · cases h
      · cases h
    · cases h
  · rename_i src dst x
    split at h
    · rename_i k sz z hk
      split at h
      · rename_i a ha
        split at h
        · rename_i r hr
          cases h
          have e1 := hE _ _ ha
          simp only [SV.val] at e1
          obtain ⟨k0, n, ek, hrun⟩ := conv_sound (P := P) (ρ := ρ) (w := w) hr
          have hd := (hΓ _ _ hk).desc
          simp only [evPc] at hc
          obtain ⟨rs, hrs⟩ := Option.isSome_iff_exists.1 hc
          obtain ⟨u, hu⟩ := (hΓ _ _ hrs).desc.und
          have := run_convert (P := P) (w := w) (k0 := k0) hu hd hrun
          rw [← ek] at this
          simp only [execOp, e1, Sem.run_bind, this, Result.andThen_ok]
          rfl
        · cases h
      · cases h
    · cases h
  · rename_i x
    split at h
    · rename_i id off hx
      cases h
      have e1 := hE _ _ hx
      simp only [SV.val, SW.val] at e1
      simp only [execOp, e1]
      rfl
    · cases h
  · rename_i t x i
    split at h
    · rename_i r hr
      split at h
      · rename_i vx hx
        split at h
        · rename_i vi hi
          have := evAddr_sound (P := P) (ρ := ρ) (w := w) (hΓ _ _ hr).desc h
          simp only [execOp, hE _ _ hx, hE _ _ hi, Sem.run_bind, this, Result.andThen_ok]
          rfl
        · cases h
      · cases h
    · cases h
  · rename_i t x i
    split at h
    · rename_i r hr
      split at h
      · rename_i vx hx
        split at h
        · rename_i vi hi
          have := evIndex_sound (P := P) (ρ := ρ) (w := w) (hΓ _ _ hr).desc h
          simp only [execOp, hE _ _ hx, hE _ _ hi, Sem.run_bind, this, Result.andThen_ok]
          rfl
        · cases h
      · cases h
    · cases h
  · rename_i t x lo hi
    split at h
    · rename_i r hr
      split at h
      · rename_i vx hx
        have := evSlice_sound (P := P) (ρ := ρ) (w := w) hE (hΓ _ _ hr).desc h
        simp only [execOp, hE _ _ hx, Sem.run_bind, Option.map_none, this, Result.andThen_ok]
        rfl
      · cases h
    · cases h
  · rename_i t x
    split at h
    · rename_i n esz scal sz z hk
      split at h
      · rename_i id off len ext hx
        cases hb : Nat.ble n len <;> simp only [hb, cond_false, cond_true, reduceCtorEq, Option.some.injEq] at h
        subst h
        have hn : n ≤ len := Nat.le_of_ble_eq_true hb
        have e1 := hE _ _ hx
        obtain ⟨e, inf, hu, hi, hs, _⟩ := (hΓ _ _ hk).desc
        simp only [SV.val, SW.val] at e1
        have hlt : ¬ len < n := by omega
        simp only [execOp, e1, Sem.run_bind, Instr.arrayAt, run_underlying hu, Result.andThen_ok, if_neg hlt]
        rfl
      · cases h
    · cases h
  · rename_i t parts
    split at h
    · rename_i hp
      split at h
      · rename_i n esz scal sz z hk
        cases h
        obtain ⟨i, hi, hsz, hz⟩ := (hΓ _ _ hk).info
        have hfree := (hΓ _ _ hk).free
        obtain ⟨e, inf, hu, hie, hes, _⟩ := (hΓ _ _ hk).desc
        have hpa : parts = #[] := by cases parts; simp_all
        subst hpa
        have hzv : i.zero = some ((SV.agg z).val ρ) := by rw [hz]; congr 1; exact (SV.val_congr (n := 0) (fun i hi => absurd hi (by omega)) hfree).symm
        have e0 : (Array.map (fun x : Nat × Operand => (x.fst, evl x.snd)) #[]).toList = [] := by simp
        simp only [execOp, Instr.build, Sem.run_bind, run_zeroValue hi hzv, Result.andThen_ok, run_underlying hu, run_sizeOf hie, SV.val, e0]
        rfl
      · cases h
    · cases h
  · cases h

theorem cmpI_lt {n : Nat} {o : BinOp} {x y : Int} {r : SW} (h : cmpI o x y = some r) : r.lt n := by
  cases o <;> simp only [cmpI, Option.some.injEq, reduceCtorEq] at h <;> subst h <;> trivial

theorem binI_lt {n : Nat} {o : BinOp} {x y : Int} {r : SW} (h : binI o x y = some r) : r.lt n := by
  cases o <;> simp only [binI, Option.some.injEq] at h
  case quo => cases hy : y == 0 <;> simp [hy] at h; subst h; trivial
  case rem => cases hy : y == 0 <;> simp [hy] at h; subst h; trivial
  all_goals first | (subst h; trivial) | exact cmpI_lt h

theorem bin2_lt {n : Nat} {o : BinOp} {a b r : SW} (h : bin2 o a b = some r) : r.lt n := by
  unfold bin2 at h
  split at h
  · cases o <;> simp only [bin64, Option.some.injEq] at h <;> first | (subst h; trivial) | exact cmpI_lt h
  · cases o <;> simp only [bin32, Option.some.injEq] at h <;> first | (subst h; trivial) | exact cmpI_lt h
  · cases o <;> simp only [bin8, Option.some.injEq] at h <;> first | (subst h; trivial) | exact cmpI_lt h
  · exact binI_lt h
  · cases h

theorem shW_lt {n : Nat} {o : BinOp} {a r : SW} {c : Nat} (h : shW o a c = some r) : r.lt n := by
  unfold shW at h
  split at h <;> first | (cases h; trivial) | cases h

theorem binW_lt {n : Nat} {o : BinOp} {a b r : SW} (h : binW o a b = some r) : r.lt n := by
  by_cases h1 : o = .shl
  · subst h1
    simp only [binW] at h
    cases hc : cnt b with
    | none => simp [hc] at h
    | some c => simp only [hc] at h; exact shW_lt h
  by_cases h2 : o = .shr
  · subst h2
    simp only [binW] at h
    cases hc : cnt b with
    | none => simp [hc] at h
    | some c => simp only [hc] at h; exact shW_lt h
  have h3 : bin2 o a b = some r := by
    cases o <;> first | exact absurd rfl h1 | exact absurd rfl h2 | exact h
  exact bin2_lt h3

theorem conv_lt {n : Nat} {k : IntKind} {a r : SW} (h : conv k a = some r) : r.lt n := by
  cases k <;> cases a <;> simp only [conv, Option.some.injEq, reduceCtorEq] at h <;> subst h <;> trivial

theorem evAddr_lt {n : Nat} {d : TD} {x i v : SV} (hx : x.lt n) (h : evAddr d x i = some v) : v.lt n := by
  unfold evAddr at h
  split at h
  · rename_i j
    split at h
    · rename_i m esz scal id off
      cases hb : Nat.blt j m <;> simp only [hb, cond_false, cond_true, reduceCtorEq, Option.some.injEq] at h
      subst h; exact hx
    · rename_i esz id off len ext
      cases hb : Nat.blt j len <;> simp only [hb, cond_false, cond_true, reduceCtorEq, Option.some.injEq] at h
      subst h; exact hx
    · cases h
  · cases h

theorem evIndex_lt {n : Nat} {d : TD} {x i v : SV} (hx : x.lt n) (h : evIndex d x i = some v) : v.lt n := by
  unfold evIndex at h
  split at h
  · rename_i j
    split at h
    · rename_i m cs
      cases hb : Nat.blt j m <;> simp only [hb, cond_false, cond_true, reduceCtorEq] at h
      split at h
      · rename_i c hc
        cases h
        rw [nth_eq] at hc
        exact hx _ (List.mem_of_getElem? hc)
      · cases h
    · cases h
  · cases h

theorem evSlice_lt {n : Nat} {d : TD} {x v : SV} {E : Operand → Option SV} {lo hi : Option Operand} (hx : x.lt n) (h : evSlice d x E lo hi = some v) : v.lt n := by
  unfold evSlice at h
  split at h
  · rename_i m esz scal id off
    split at h
    · rename_i l h1
      split at h
      · rename_i hh h2
        cases hb : (Nat.ble l hh && Nat.ble hh m) && (Nat.blt l m || Nat.beq l 0) <;> simp only [hb, cond_false, cond_true, reduceCtorEq, Option.some.injEq] at h
        subst h; exact hx
      · cases h
    · cases h
  · rename_i esz id off len ext
    split at h
    · rename_i l h1
      split at h
      · rename_i hh h2
        cases hb : (Nat.ble l hh && Nat.ble hh len) && (Nat.blt l len || Nat.beq l 0) <;> simp only [hb, cond_false, cond_true, reduceCtorEq, Option.some.injEq] at h
        subst h; exact hx
      · cases h
    · cases h
  · cases h

theorem evP_lt {Γ : List (Nat × TRow)} (hΓ : ∀ t r, lk Γ t = some r → TOK P t r) {E : Operand → Option SV} {n : Nat} (hE : ∀ x v, E x = some v → v.lt n) {op : Op} {v : SV} (h : evP Γ E op = some v) : v.lt n := by
  unfold evP at h
  split at h
  · exact hE _ _ h
  · exact hE _ _ h
  · split at h
    · split at h
      · split at h
        · rename_i hr; cases h; exact binW_lt hr
        · cases h
      · cases h
    · cases h
  · split at h
    · split at h
      · split at h
        · rename_i hr; cases h; exact conv_lt hr
        · cases h
      · cases h
    · cases h
  · rename_i x
    split at h
    · rename_i id off hx; cases h; exact hE x _ hx
    · cases h
  · split at h
    · split at h
      · rename_i vx hx
        split at h
        · exact evAddr_lt (hE _ _ hx) h
        · cases h
      · cases h
    · cases h
  · split at h
    · split at h
      · rename_i vx hx
        split at h
        · exact evIndex_lt (hE _ _ hx) h
        · cases h
      · cases h
    · cases h
  · split at h
    · split at h
      · rename_i vx hx
        exact evSlice_lt (hE _ _ hx) h
      · cases h
    · cases h
  · rename_i t x
    split at h
    · split at h
      · rename_i m esz scal sz z hk _ id off len ext hx
        cases hb : Nat.ble m len <;> simp only [hb, cond_false, cond_true, reduceCtorEq, Option.some.injEq] at h
        subst h; exact hE x (.s (.slc id off len ext)) hx
      · cases h
    · cases h
  · split at h
    · split at h
      · rename_i hk
        cases h
        exact SV.lt_mono (Nat.zero_le n) (hΓ _ _ hk).free
      · cases h
    · cases h
  · cases h
end
end CI
end Go.Proofs.Yteooohmlmefbnaa
