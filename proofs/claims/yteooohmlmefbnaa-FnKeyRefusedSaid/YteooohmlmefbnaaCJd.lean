/-
  Runs of straight code over words that stay open (part 4: one operation of whatever kind). Each step is proved sound against the model.
  Conditions: none; it proves no statement by itself.
-/
import Derived.Test.YteooohmlmefbnaaCJc
namespace Go.Proofs.Yteooohmlmefbnaa
namespace CI
open Go

inductive FnS where
  | pure (g : List SV → Option SV)
  | eff (g : List SV → Mem → Nat → Option (SV × Mem × Nat))

structure Callable (P : Program) (f : FuncId) : Prop where
  ok : ∃ fn, P.funcs[f]? = some fn ∧ fn.body.isNone = false ∧ (fn.name == "runtime.NumGoroutine") = false

def vals (ρ : Env) (args : List SV) : Array Value := (args.map (SV.val ρ)).toArray

/-- What is asked of a summary. -/
def FnOK (P : Program) (f : FuncId) : FnS → Prop
  | .pure g => ∀ args v, g args = some v → v.lt 0 ∧ ∀ ρ w, Calls P f (vals ρ args) w fun e w' => e = .returned (v.val ρ) ∧ Fr (fun _ => False) w w'
  | .eff g => ∀ args M n v M' n', g args M n = some (v, M', n') → (∀ x ∈ args, x.lt n) → ∀ C ρ w, WR C ρ M n w →
      Calls P f (vals ρ args) w fun e w' => ∃ ρ', (∀ i, i < n → ρ' i = ρ i) ∧ n ≤ n' ∧ v.lt n' ∧ e = .returned (v.val ρ') ∧ WR C ρ' M' n' w'

def PhiOK (P : Program) (Φ : List (Nat × FnS)) : Prop := ∀ f s, lk Φ f = some s → Callable P f ∧ FnOK P f s

def evArgs (E : Operand → Option SV) : List Operand → Option (List SV)
  | [] => some []
  | x :: l => match E x with
    | some v => match evArgs E l with
      | some vs => some (v :: vs)
      | none => none
    | none => none

/-- Operations that leave what is known of the world alone. -/
def ev0 (Γ : List (Nat × TRow)) (Φ : List (Nat × FnS)) (E : Operand → Option SV) (op : Op) : Option SV :=
  match op with
  | .call c => match c.callee with
    | .value (.func f) => match lk Φ f with
      | some (.pure g) => match evArgs E c.args.toList with
        | some vs => g vs
        | none => none
      | _ => none
    | .builtin .len => match c.args.toList, c.argTypes.toList with
      | [x], [t] => match lk Γ t with
        | some ⟨.slc _, _, _⟩ => match E x with
          | some (.s (.slc _ _ len _)) => some (.s (.int (Int.ofNat len)))
          | _ => none
        | _ => none
      | _, _ => none
    | _ => none
  | op => bif evPc Γ op then evP Γ E op else none

def ldv (d : TD) (sz : Nat) (cells : List SW) (off : Nat) : Option SV :=
  match d with
  | .arr _ _ _ => bif Nat.beq ((cells.drop off).take sz).length sz then some (.agg ((cells.drop off).take sz)) else none
  | _ => match nth cells off with
    | some c => some (.s c)
    | none => none

def evL (Γ : List (Nat × TRow)) (E : Operand → Option SV) (M : Mem) (op : Op) : Option SV :=
  match op with
  | .load t x => match lk Γ t with
    | some r => match E x with
      | some (.s (.ptr id off)) => match lk M id with
        | some g => ldv r.d r.size g.cells off
        | none => none
      | _ => none
    | none => none
  | _ => none

def SV.cells? : SV → Option (List SW)
  | .s (.raw _) => none
  | .s x => some [x]
  | .agg cs => some cs
  | .unit => none

def stv (M : Mem) (id off : Nat) (vs : List SW) : Option Mem :=
  match lk M id with
  | some g => bif g.rw && (Nat.ble (off + vs.length) g.cells.length && vs.all SW.cellOk) then some (updM M id (spl g.cells off vs)) else none
  | none => none

def evE (Γ : List (Nat × TRow)) (Φ : List (Nat × FnS)) (E : Operand → Option SV) (M : Mem) (n : Nat) (op : Op) : Option (SV × Mem × Nat) :=
  match op with
  | .store t x v => match lk Γ t with
    | some r => match E x with
      | some (.s (.ptr id off)) => match E v with
        | some vv => match vv.cells? with
          | some vs => bif Nat.beq vs.length r.size then (match stv M id off vs with
            | some M' => some (.unit, M', n)
            | none => none) else none
          | none => none
        | none => none
      | _ => none
    | none => none
  | .box _ x => match E x with
    | some vv => match vv.cells? with
      | some vs => some (.s (.ptr n 0), (n, ⟨vs, true⟩) :: M, n + 1)
      | none => none
    | none => none
  | .alloc t => match lk Γ t with
    | some r => match r.zero.cells? with
      | some vs => some (.s (.ptr n 0), (n, ⟨vs, true⟩) :: M, n + 1)
      | none => none
    | none => none
  | .call c => match c.callee with
    | .value (.func f) => match lk Φ f with
      | some (.eff g) => match evArgs E c.args.toList with
        | some vs => g vs M n
        | none => none
      | _ => none
    | .builtin .copy => match c.args.toList, c.argTypes.toList with
      | [x, y], [t, _] => match lk Γ t with
        | some ⟨.slc 1, _, _⟩ => match E x with
          | some (.s (.slc id off len _)) => match E y with
            | some (.s (.slc id' off' len' _)) => match lk M id' with
              | some g => bif Nat.beq ((g.cells.drop off').take (Nat.min len' len)).length (Nat.min len' len) then (match stv M id off ((g.cells.drop off').take (Nat.min len' len)) with
                | some M' => some (.s (.int (Int.ofNat (Nat.min len' len))), M', n)
                | none => none) else none
              | none => none
            | _ => none
          | _ => none
        | _ => none
      | _, _ => none
    | _ => none
  | _ => none

def kd (Φ : List (Nat × FnS)) (op : Op) : Nat :=
  match op with
  | .load _ _ => 1
  | .store _ _ _ => 2
  | .box _ _ => 2
  | .alloc _ => 2
  | .call c => match c.callee with
    | .value (.func f) => match lk Φ f with
      | some (.pure _) => 0
      | _ => 2
    | .builtin .len => 0
    | _ => 2
  | _ => 0

/-- One operation: the value, the memory and the next number. -/
def ev1 (Γ : List (Nat × TRow)) (Φ : List (Nat × FnS)) (E : Operand → Option SV) (M : Mem) (n : Nat) (op : Op) : Option (SV × Mem × Nat) :=
  match kd Φ op with
  | 0 => match ev0 Γ Φ E op with
    | some v => some (v, M, n)
    | none => none
  | 1 => match evL Γ E M op with
    | some v => some (v, M, n)
    | none => none
  | _ => evE Γ Φ E M n op

section
variable {P : Program} {ρ : Env} {w : World}

theorem evArgs_sound {E : Operand → Option SV} {evl : Operand → Value} (hE : ∀ x v, E x = some v → evl x = v.val ρ) : ∀ {l : List Operand} {vs : List SV}, evArgs E l = some vs → l.map evl = vs.map (SV.val ρ)
  | [], vs, h => by cases h; rfl
  | x :: l, vs, h => by
    simp only [evArgs] at h
    split at h
    · rename_i v hv
      split at h
      · rename_i vs' hvs
        cases h
        simp only [List.map_cons, hE _ _ hv, evArgs_sound hE hvs]
      · cases h
    · cases h

theorem evArgs_lt {E : Operand → Option SV} {n : Nat} (hE : ∀ x v, E x = some v → v.lt n) : ∀ {l : List Operand} {vs : List SV}, evArgs E l = some vs → ∀ v ∈ vs, v.lt n
  | [], vs, h => by cases h; intro v hv; cases hv
  | x :: l, vs, h => by
    simp only [evArgs] at h
    split at h
    · rename_i v hv
      split at h
      · rename_i vs' hvs
        cases h
        intro u hu
        rcases List.mem_cons.1 hu with rfl | hu
        · exact hE _ _ hv
        · exact evArgs_lt hE hvs u hu
      · cases h
    · cases h

theorem map_arr {α β : Type} (f : α → β) (l : Array α) : l.map f = (l.toList.map f).toArray := Array.ext' (by simp)

theorem run_call {f : FuncId} (hf : Callable P f) (a : Act) (dst : Option Tmp) (ty : TypeId) (pos : String) (after : Array Edge) (guard : Option (Nat × Bool)) (args : Array Operand) (ats : Array TypeId) :
    (execOp a.eval { dst, op := .call { callee := .value (.func f), args, argTypes := ats }, type := ty, pos, after, guard }).run P w = .ok (.enter f (args.map a.eval)) w := by
  obtain ⟨fn, h1, h2, h3⟩ := hf.ok
  have h4 : ∀ x : Array Value, (callFunc f x).run P w = .ok (.enter f x) w := fun x => by
    unfold callFunc
    simp only [program, Sem.run_bind, Sem.run, h1, Result.andThen_ok, h3, h2]
    simp
  simp only [execOp, resolve, Act.eval, Deferred.ofValue, Sem.run_bind, Sem.run_pure, Result.andThen_ok, invoke]
  rw [h4]
  congr 2
  simp

theorem ldv_sound {t : TypeId} {d : TD} {i : TypeInfo} (hd : TDesc P t d) (hi : P.info? t = some i) {b o : Nat} {cells : List SW} {off : Nat} {v : SV}
    (hc : ∀ j s, cells[j]? = some s → w.cell? ⟨b, o + j, none⟩ = some (s.val ρ)) (h : ldv d i.size cells off = some v) : (Instr.loadAt t (.pointer (some ⟨b, o + off, none⟩))).run P w = .ok (v.val ρ) w := by
  simp only [Instr.loadAt, Instr.sureAddr, Sem.run_bind, Sem.run_pure, Result.andThen_ok, loadVar, run_isAgg hd]
  have sc : ∀ {c : SW}, nth cells off = some c → (load (⟨b, o + off, none⟩ : Addr)).run P w = .ok (c.val ρ) w := fun hc' => by
    rw [nth_eq] at hc'
    simp [run_load, hc _ _ hc']
  cases d with
  | arr m esz scal =>
    simp only [ldv] at h
    cases hb : Nat.beq ((cells.drop off).take i.size).length i.size <;> simp only [hb, cond_false, cond_true, reduceCtorEq, Option.some.injEq] at h
    subst h
    have hl := Nat.eq_of_beq_eq_true hb
    have := run_loadCells_list (P := P) w ⟨b, o + off, none⟩ (((cells.drop off).take i.size).map (SW.val ρ)) (fun j v hv => by
      rw [addr_add, Nat.add_assoc]
      rw [List.getElem?_map] at hv
      cases e : ((cells.drop off).take i.size)[j]? with
      | none => rw [e] at hv; cases hv
      | some s =>
        rw [e] at hv
        cases hv
        rw [List.getElem?_take] at e
        split at e
        · rw [List.getElem?_drop] at e; exact hc _ _ e
        · cases e)
    rw [List.length_map, hl] at this
    simp only [TD.agg, if_true, Sem.run_bind, run_sizeOf hi, Result.andThen_ok, this, SV.val]
    rfl
  | int k =>
    simp only [ldv] at h
    split at h
    · rename_i c hc'; cases h; exact sc hc'
    · cases h
  | slc k =>
    simp only [ldv] at h
    split at h
    · rename_i c hc'; cases h; exact sc hc'
    · cases h
  | oth =>
    simp only [ldv] at h
    split at h
    · rename_i c hc'; cases h; exact sc hc'
    · cases h

theorem ldv_lt {d : TD} {sz : Nat} {cells : List SW} {off n : Nat} {v : SV} (hc : ∀ (j : Nat) (s : SW), cells[j]? = some s → s.lt n) (h : ldv d sz cells off = some v) : v.lt n := by
  have sc : ∀ {c : SW}, nth cells off = some c → c.lt n := fun hc' => by rw [nth_eq] at hc'; exact hc _ _ hc'
  cases d with
  | arr m esz scal =>
    simp only [ldv] at h
    cases hb : Nat.beq ((cells.drop off).take sz).length sz <;> simp only [hb, cond_false, cond_true, reduceCtorEq, Option.some.injEq] at h
    subst h
    intro x hx
    obtain ⟨j, hj⟩ := List.getElem?_of_mem (List.mem_of_mem_drop (List.mem_of_mem_take hx))
    exact hc j x hj
  | int k => simp only [ldv] at h; split at h; (rename_i hc'; cases h; exact sc hc'); cases h
  | slc k => simp only [ldv] at h; split at h; (rename_i hc'; cases h; exact sc hc'); cases h
  | oth => simp only [ldv] at h; split at h; (rename_i hc'; cases h; exact sc hc'); cases h

theorem cellOk_one {x : SW} (h : x.cellOk = true) : (x.val ρ).oneCell' = true := by
  cases x <;> first | rfl | cases h

theorem stv_spec {M M' : Mem} {id off : Nat} {vs : List SW} (h : stv M id off vs = some M') : ∃ g, lk M id = some g ∧ g.rw = true ∧ off + vs.length ≤ g.cells.length ∧ (∀ x ∈ vs, x.cellOk = true) ∧ M' = updM M id (spl g.cells off vs) := by
  unfold stv at h
  split at h
  · rename_i g hg
    cases hb : g.rw && (Nat.ble (off + vs.length) g.cells.length && vs.all SW.cellOk) <;> simp only [hb, cond_false, cond_true, reduceCtorEq, Option.some.injEq] at h
    simp only [Bool.and_eq_true] at hb
    exact ⟨g, hg, hb.1, Nat.le_of_ble_eq_true hb.2.1, List.all_eq_true.1 hb.2.2, h.symm⟩
  · cases h

theorem stv_run {C : Ctx} {M M' : Mem} {n id off : Nat} {vs : List SW} (hW : WR C ρ M n w) (hvs : ∀ x ∈ vs, x.lt n) (h : stv M id off vs = some M') :
    (storeCells ⟨(ρ id).1, (ρ id).2 + off, none⟩ (vs.map (SW.val ρ)) 0).run P w = .ok () (w.setCells (ρ id).1 ((ρ id).2 + off) (vs.map (SW.val ρ))) ∧
    WR C ρ M' n (w.setCells (ρ id).1 ((ρ id).2 + off) (vs.map (SW.val ρ))) := by
  obtain ⟨g, hg, hrw, hlen, hok, rfl⟩ := stv_spec h
  refine ⟨?_, hW.store hg hrw off vs hlen hvs⟩
  obtain ⟨g1, g2, g3⟩ := hW.rel.cell id g hg
  have hs : ∀ j, j < (vs.map (SW.val ρ)).length → ∃ s, g.cells[off + j]? = some s := fun j hj => by
    rw [List.length_map] at hj
    exact ⟨g.cells[off + j], List.getElem?_eq_getElem (by omega)⟩
  have := run_storeCells_cells (P := P) (ρ id).1 ((ρ id).2 + off) (vs.map (SW.val ρ)) 0 w (fun j hj => by
      obtain ⟨s, e⟩ := hs j hj
      rw [Nat.add_zero, Nat.add_assoc, (g3 _ s e).2.1]; rfl)
    (fun j hj => by
      obtain ⟨s, e⟩ := hs j hj
      rw [Nat.add_zero, Nat.add_assoc]; exact ((g3 _ s e).2.2 hrw).1)
    (fun v hv => by
      obtain ⟨x, hx, rfl⟩ := List.mem_map.1 hv
      exact cellOk_one (hok x hx))
  rwa [Nat.add_zero] at this

theorem cells?_val {vv : SV} {vs : List SW} (h : vv.cells? = some vs) : (vv.val ρ).cells = (vs.map (SW.val ρ)).toArray ∧ ∀ n, vv.lt n → ∀ x ∈ vs, x.lt n := by
  cases vv with
  | s x =>
    have hx : vs = [x] ∧ (x.val ρ).cells = #[x.val ρ] := by cases x <;> cases h <;> exact ⟨rfl, rfl⟩
    obtain ⟨rfl, h2⟩ := hx
    refine ⟨h2, fun n hn y hy => ?_⟩
    simp only [List.mem_singleton] at hy; subst hy; exact hn
  | agg cs => cases h; exact ⟨rfl, fun n hn => hn⟩
  | unit => cases h

theorem zero_val {t : TypeId} {r : TRow} (h : TOK P t r) : ∃ i, P.info? t = some i ∧ i.size = r.size ∧ i.zero = some (r.zero.val ρ) := by
  obtain ⟨i, h1, h2, h3⟩ := h.info
  refine ⟨i, h1, h2, ?_⟩
  rw [h3]; congr 1
  exact (SV.val_congr (n := 0) (fun i hi => absurd hi (Nat.not_lt_zero i)) h.free).symm

variable {C : Ctx} {M M' : Mem} {n n' : Nat} {Γ : List (Nat × TRow)} {Φ : List (Nat × FnS)} {a : Act} {E : Operand → Option SV} {v : SV}

theorem ev0_sound (hΓ : ∀ t r, lk Γ t = some r → TOK P t r) (hΦ : PhiOK P Φ) (hE : ∀ x v, E x = some v → a.eval x = v.val ρ) (hl : ∀ x v, E x = some v → v.lt n) (hW : WR C ρ M n w) {o : Oper} (h : ev0 Γ Φ E o.op = some v)
    {next : Act → World → Prop} {Q : Exit → Act → World → Prop} (hk : ∀ w', v.lt n → WR C ρ M n w' → next (a.put o.dst (v.val ρ)) w') : o.wp P a w next Q := by
  obtain ⟨dst, op, ty, pos, after, guard⟩ := o
  simp only at h hk
  have pl : ∀ {op : Op}, (bif evPc Γ op then evP Γ E op else none) = some v → (∀ w', v.lt n → WR C ρ M n w' → next (a.put dst (v.val ρ)) w') →
      Oper.wp P { dst, op, type := ty, pos, after, guard } a w next Q := fun {op} hp hk => by
    cases hc : evPc Γ op <;> simp only [hc, cond_false, cond_true, reduceCtorEq] at hp
    have := evP_sound (P := P) (ρ := ρ) (w := w) hΓ hE (o := { dst, op, type := ty, pos, after, guard }) hc hp
    unfold Oper.wp
    rw [this]
    exact hk w (evP_lt hΓ hl hp) hW
  unfold ev0 at h
  split at h
  · rename_i c
    obtain ⟨callee, args, ats⟩ := c
    simp only at h
    split at h
    · rename_i f
      split at h
      · rename_i g hg
        split at h
        · rename_i vs hvs
          obtain ⟨hcal, hok⟩ := hΦ _ _ hg
          have hrun := run_call (P := P) (w := w) hcal a dst ty pos after guard args ats
          have hargs : args.map a.eval = vals ρ vs := by
            have := evArgs_sound (ρ := ρ) hE hvs
            unfold vals; rw [← this]; exact map_arr _ _
          rw [hargs] at hrun
          obtain ⟨hv0, hcalls⟩ := hok vs v h
          unfold Oper.wp
          rw [hrun]
          refine (hcalls ρ w).mono fun e w' ⟨he, hf⟩ => ?_
          subst he
          exact hk w' (SV.lt_mono (Nat.zero_le n) hv0) (hW.grown hf)
        · cases h
      · cases h
    · split at h
      · rename_i x t hx ht
        split at h
        · rename_i esz sz z hk'
          split at h
          · rename_i id off len ext hxx
            cases h
            obtain ⟨e, inf, hu, _⟩ := (hΓ _ _ hk').desc
            have hax : args = #[x] := by cases args; simp_all
            have hat : ats = #[t] := by cases ats; simp_all
            subst hax; subst hat
            have e1 := hE _ _ hxx
            simp only [SV.val, SW.val] at e1
            have hrun : (execOp a.eval { dst, op := .call { callee := .builtin .len, args := #[x], argTypes := #[t] }, type := ty, pos, after, guard }).run P w = .ok (.value (.int .i64 (len : Int))) w := by
              rw [BigFrame.execOp_builtin, BigFrame.builtin_len]
              simp [Builtin.len_, run_underlying hu, e1, goInt]
            unfold Oper.wp
            rw [hrun]
            exact hk w trivial hW
          · cases h
        · cases h
      · cases h
    · cases h
  · exact pl h hk

theorem evL_sound (hΓ : ∀ t r, lk Γ t = some r → TOK P t r) (hE : ∀ x v, E x = some v → a.eval x = v.val ρ) (hW : WR C ρ M n w) {o : Oper} (h : evL Γ E M o.op = some v)
    {next : Act → World → Prop} {Q : Exit → Act → World → Prop} (hk : v.lt n → next (a.put o.dst (v.val ρ)) w) : o.wp P a w next Q := by
  obtain ⟨dst, op, ty, pos, after, guard⟩ := o
  simp only at h hk
  unfold evL at h
  split at h
  · rename_i t x
    split at h
    · rename_i r hr
      split at h
      · rename_i id off hx
        split at h
        · rename_i g hg
          have e1 := hE _ _ hx
          simp only [SV.val, SW.val] at e1
          obtain ⟨g1, g2, g3⟩ := hW.rel.cell id g hg
          obtain ⟨i, hi, hsz, _⟩ := (hΓ _ _ hr).info
          rw [← hsz] at h
          have hrun := ldv_sound (P := P) (ρ := ρ) (w := w) (hΓ _ _ hr).desc hi (b := (ρ id).1) (o := (ρ id).2) (fun j s hs => (g3 j s hs).2.1) h
          have hv := ldv_lt (n := n) (fun j s hs => (g3 j s hs).1) h
          unfold Oper.wp
          simp only [execOp, e1, Sem.run_bind, hrun, Result.andThen_ok]
          exact hk hv
        · cases h
      · cases h
    · cases h
  · cases h

theorem evE_sound (hΓ : ∀ t r, lk Γ t = some r → TOK P t r) (hΦ : PhiOK P Φ) (hE : ∀ x v, E x = some v → a.eval x = v.val ρ) (hl : ∀ x v, E x = some v → v.lt n) (hW : WR C ρ M n w) {o : Oper} (h : evE Γ Φ E M n o.op = some (v, M', n'))
    {next : Act → World → Prop} {Q : Exit → Act → World → Prop} (hk : ∀ ρ' w', (∀ i, i < n → ρ' i = ρ i) → n ≤ n' → v.lt n' → WR C ρ' M' n' w' → next (a.put o.dst (v.val ρ')) w') : o.wp P a w next Q := by
  obtain ⟨dst, op, ty, pos, after, guard⟩ := o
  simp only at h hk
  unfold evE at h
  split at h
  · rename_i t x y
    split at h
    · rename_i r hr
      split at h
      · rename_i id off hx
        split at h
        · rename_i vv hy
          split at h
          · rename_i vs hvs
            cases hb : Nat.beq vs.length r.size <;> simp only [hb, cond_false, cond_true, reduceCtorEq] at h
            split at h
            · rename_i M1 hM
              simp only [Option.some.injEq, Prod.mk.injEq] at h
              obtain ⟨rfl, rfl, rfl⟩ := h
              have hlen := Nat.eq_of_beq_eq_true hb
              have e1 := hE _ _ hx
              have e2 := hE _ _ hy
              simp only [SV.val, SW.val] at e1
              obtain ⟨c1, c2⟩ := cells?_val (ρ := ρ) hvs
              obtain ⟨i, hi, hsz, _⟩ := (hΓ _ _ hr).info
              obtain ⟨s1, s2⟩ := stv_run (P := P) hW (c2 n (hl _ _ hy)) hM
              have hrun : (storeVar t ⟨(ρ id).1, (ρ id).2 + off, none⟩ (vv.val ρ)).run P w = .ok () (w.setCells (ρ id).1 ((ρ id).2 + off) (vs.map (SW.val ρ))) := by
                unfold storeVar
                simp only [Sem.run_bind, run_sizeOf hi, Result.andThen_ok, c1]
                have : ¬ ((vs.map (SW.val ρ)).toArray.size ≠ i.size) := by simp [hlen, hsz]
                rw [if_neg this]
                simpa using s1
              unfold Oper.wp
              simp only [execOp, e1, e2, Instr.storeAt, Instr.sureAddr, Sem.run_bind, Sem.run_pure, Result.andThen_ok, hrun]
              exact hk ρ _ (fun _ _ => rfl) (Nat.le_refl _) trivial s2
            · cases h
          · cases h
        · cases h
      · cases h
    · cases h
  · rename_i t x
    split at h
    · rename_i vv hx
      split at h
      · rename_i vs hvs
        simp only [Option.some.injEq, Prod.mk.injEq] at h
        obtain ⟨rfl, rfl, rfl⟩ := h
        obtain ⟨c1, c2⟩ := cells?_val (ρ := ρ) hvs
        have hW' := hW.alloc vs (c2 n (hl _ _ hx)) t
        unfold Oper.wp
        simp only [execOp, hE _ _ hx, Instr.box, newVar, newRow, newObj, c1, Sem.run_bind, Sem.run, Result.andThen_ok]
        refine hk _ _ (fun i hi => upE_lt i hi) (Nat.le_succ _) (Nat.lt_succ_self _) hW' |> fun hh => ?_
        simpa [Oper.upon, SV.val, SW.val, upE] using hh
      · cases h
    · cases h
  · rename_i t
    split at h
    · rename_i r hr
      split at h
      · rename_i vs hvs
        simp only [Option.some.injEq, Prod.mk.injEq] at h
        obtain ⟨rfl, rfl, rfl⟩ := h
        obtain ⟨c1, c2⟩ := cells?_val (ρ := ρ) hvs
        have hW' := hW.alloc vs (c2 n (SV.lt_mono (Nat.zero_le n) (hΓ _ _ hr).free)) t
        obtain ⟨i, hi, hsz, hz⟩ := zero_val (ρ := ρ) (hΓ _ _ hr)
        unfold Oper.wp
        simp only [execOp, Instr.alloc, run_zeroValue hi hz, newVar, newRow, newObj, c1, Sem.run_bind, Sem.run, Result.andThen_ok]
        refine hk _ _ (fun i hi => upE_lt i hi) (Nat.le_succ _) (Nat.lt_succ_self _) hW' |> fun hh => ?_
        simpa [Oper.upon, SV.val, SW.val, upE] using hh
      · cases h
    · cases h
  · rename_i c
    obtain ⟨callee, args, ats⟩ := c
    simp only at h
    split at h
    · rename_i f
      split at h
      · rename_i g hg
        split at h
        · rename_i vs hvs
          obtain ⟨hcal, hok⟩ := hΦ _ _ hg
          have hrun := run_call (P := P) (w := w) hcal a dst ty pos after guard args ats
          have hargs : args.map a.eval = vals ρ vs := by
            have := evArgs_sound (ρ := ρ) hE hvs
            unfold vals; rw [← this]; exact map_arr _ _
          rw [hargs] at hrun
          have hcalls := hok vs M n v M' n' h (evArgs_lt hl hvs) C ρ w hW
          unfold Oper.wp
          rw [hrun]
          refine hcalls.mono fun e w' ⟨ρ', q1, q2, q3, he, hw⟩ => ?_
          subst he
          exact hk ρ' w' q1 q2 q3 hw
        · cases h
      · cases h
    · split at h
      · rename_i x y t u hx ht
        split at h
        · rename_i sz z hkt
          split at h
          · rename_i id off len ext hxx
            split at h
            · rename_i id' off' len' ext' hyy
              split at h
              · rename_i g hg
                cases hb : Nat.beq ((g.cells.drop off').take (Nat.min len' len)).length (Nat.min len' len) <;> simp only [hb, cond_false, cond_true, reduceCtorEq] at h
                split at h
                · rename_i M1 hM
                  simp only [Option.some.injEq, Prod.mk.injEq] at h
                  obtain ⟨rfl, rfl, rfl⟩ := h
                  have hlen := Nat.eq_of_beq_eq_true hb
                  obtain ⟨e, inf, hu, hie, hes⟩ := (hΓ _ _ hkt).desc
                  have hax : args = #[x, y] := by cases args; simp_all
                  have hat : ats = #[t, u] := by cases ats; simp_all
                  subst hax; subst hat
                  have e1 := hE _ _ hxx
                  have e2 := hE _ _ hyy
                  simp only [SV.val, SW.val] at e1 e2
                  obtain ⟨g1, g2, g3⟩ := hW.rel.cell id' g hg
                  have hsub : ∀ (j : Nat) (s : SW), ((g.cells.drop off').take (Nat.min len' len))[j]? = some s → g.cells[off' + j]? = some s := fun j s e => by
                    rw [List.getElem?_take] at e
                    split at e
                    · rw [List.getElem?_drop] at e; exact e
                    · cases e
                  have hvs : ∀ s ∈ (g.cells.drop off').take (Nat.min len' len), s.lt n := fun s hs => by
                    obtain ⟨j, hj⟩ := List.getElem?_of_mem hs
                    exact (g3 _ s (hsub j s hj)).1
                  obtain ⟨s1, s2⟩ := stv_run (P := P) hW hvs hM
                  have hl1 := run_loadCells_list (P := P) w ⟨(ρ id').1, (ρ id').2 + off', none⟩ (((g.cells.drop off').take (Nat.min len' len)).map (SW.val ρ)) (fun j v hv => by
                    rw [addr_add, Nat.add_assoc]
                    rw [List.getElem?_map] at hv
                    cases e : ((g.cells.drop off').take (Nat.min len' len))[j]? with
                    | none => rw [e] at hv; cases hv
                    | some s =>
                      rw [e] at hv
                      cases hv
                      exact (g3 _ s (hsub j s e)).2.1)
                  rw [List.length_map, hlen] at hl1
                  generalize ((g.cells.drop off').take (Nat.min len' len)).map (SW.val ρ) = L at *
                  have hrun : (execOp a.eval { dst, op := .call { callee := .builtin .copy, args := #[x, y], argTypes := #[t, u] }, type := ty, pos, after, guard }).run P w =
                      .ok (.value (.int .i64 (Int.ofNat (Nat.min len' len)))) (w.setCells (ρ id).1 ((ρ id).2 + off) L) := by
                    rw [BigFrame.execOp_builtin, BigFrame.builtin_copy]
                    have hx2 : (#[x, y] : Array Operand).map a.eval = #[a.eval x, a.eval y] := by simp
                    rw [hx2, e1, e2]
                    simp only [Builtin.copy_, Sem.run_bind]
                    simp [run_underlying hu, Builtin.lenOf, Builtin.firstCells, run_sizeOf hie, hes, hl1, s1, goInt]
                  unfold Oper.wp
                  rw [hrun]
                  exact hk ρ _ (fun _ _ => rfl) (Nat.le_refl _) trivial s2
                · cases h
              · cases h
            · cases h
          · cases h
        · cases h
      · cases h
    · cases h
  · cases h

theorem ev1_sound (hΓ : ∀ t r, lk Γ t = some r → TOK P t r) (hΦ : PhiOK P Φ) (hE : ∀ x v, E x = some v → a.eval x = v.val ρ) (hl : ∀ x v, E x = some v → v.lt n) (hW : WR C ρ M n w) {o : Oper} (h : ev1 Γ Φ E M n o.op = some (v, M', n'))
    {next : Act → World → Prop} {Q : Exit → Act → World → Prop} (hk : ∀ ρ' w', (∀ i, i < n → ρ' i = ρ i) → n ≤ n' → v.lt n' → WR C ρ' M' n' w' → next (a.put o.dst (v.val ρ')) w') : o.wp P a w next Q := by
  unfold ev1 at h
  split at h
  · split at h
    · rename_i u hu
      simp only [Option.some.injEq, Prod.mk.injEq] at h
      obtain ⟨rfl, rfl, rfl⟩ := h
      exact ev0_sound hΓ hΦ hE hl hW hu fun w' hv hw => hk ρ w' (fun _ _ => rfl) (Nat.le_refl _) hv hw
    · cases h
  · split at h
    · rename_i u hu
      simp only [Option.some.injEq, Prod.mk.injEq] at h
      obtain ⟨rfl, rfl, rfl⟩ := h
      exact evL_sound hΓ hE hW hu fun hv => hk ρ w (fun _ _ => rfl) (Nat.le_refl _) hv hW
    · cases h
  · exact evE_sound hΓ hΦ hE hl hW h hk
end
end CI
end Go.Proofs.Yteooohmlmefbnaa
