/-
  Runs of straight code over words that stay open (part 7: regions with guards whose operations only read; comparisons of arrays, whose answers are told and owed). Each step is proved sound against the model.
  Conditions: none; it proves no statement by itself.
-/
import Derived.Test.YteooohmlmefbnaaCJf
import Derived.ChangeKeysEq
import Derived.Laws.StructEq
namespace Go.Proofs.Yteooohmlmefbnaa
namespace CI
open Go

/-! ### 1. Words as numbers -/
def SW.num : SW → Int
  | .w64 x => x.toNat
  | .w32 x => x.toNat
  | .w8 x => x.toNat
  | .int n => n
  | _ => 0

def SW.isKind (k : IntKind) : SW → Bool
  | .w64 _ => match k with
    | .u64 => true
    | _ => false
  | .w32 _ => match k with
    | .u32 => true
    | _ => false
  | .w8 _ => match k with
    | .u8 => true
    | _ => false
  | .int _ => match k with
    | .i64 => true
    | _ => false
  | _ => false

theorem SW.val_num {k : IntKind} {x : SW} (h : x.isKind k = true) (ρ : Env) : x.val ρ = .int k x.num := by
  cases x <;> cases k <;> first | rfl | cases h

/-- What is owed: are these rows of words alike? -/
abbrev Ob := Bool × List SW × List SW
def ObOK (o : Ob) : Prop := (o.2.1.map SW.num == o.2.2.map SW.num) = o.1

theorem obOK_same {l l' : List SW} (h : l = l') : ObOK (true, l, l') := by subst h; simp [ObOK]

section
variable {P : Program} {w : World} {ρ : Env}

theorem run_part {e : TypeId} {k : IntKind} (he : P.underlying e = some (.int k)) {l : List SW} {i : Nat} {x : SW} (hx : l[i]? = some x) (hk : x.isKind k = true) :
    (part e (l.map (SW.val ρ)).toArray i).run P w = .ok (.int k x.num) w := by
  simp [part, isAgg, run_underlying he, hx, SW.val_num hk ρ]

theorem all_range : ∀ (xs ys : List Int), xs.length = ys.length → ((List.range xs.length).all fun i => xs.getD i 0 == ys.getD i 0) = (xs == ys)
  | [], [], _ => rfl
  | x :: xs, y :: ys, h => by
    have ih := all_range xs ys (by simpa using h)
    rw [List.length_cons, List.range_succ_eq_map, List.all_cons, List.all_map]
    simp only [List.getD_cons_zero, Function.comp_def, List.getD_cons_succ, ih]
    simp [List.cons_beq_cons]
  | [], _ :: _, h => by simp at h
  | _ :: _, [], h => by simp at h

theorem run_items {e : TypeId} {k : IntKind} (he : P.underlying e = some (.int k)) (d : Nat) {l l' : List SW} (hl : ∀ x ∈ l, x.isKind k = true) (hl' : ∀ x ∈ l', x.isKind k = true) (hlen : l.length = l'.length) :
    ∀ is : List Nat, (∀ i ∈ is, i < l.length) → (Op.eqItems (d + 1) e 1 (l.map (SW.val ρ)).toArray (l'.map (SW.val ρ)).toArray is).run P w = .ok (is.all fun i => (l.map SW.num).getD i 0 == (l'.map SW.num).getD i 0) w
  | [], _ => by simp [Op.eqItems]
  | i :: is, h => by
    have h1 : i < l.length := h i (by simp)
    have h2 : i < l'.length := by omega
    have g1 : l[i]? = some l[i] := List.getElem?_eq_getElem h1
    have g2 : l'[i]? = some l'[i] := List.getElem?_eq_getElem h2
    have p1 := run_part (P := P) (w := w) (ρ := ρ) he g1 (hl _ (List.getElem_mem h1))
    have p2 := run_part (P := P) (w := w) (ρ := ρ) he g2 (hl' _ (List.getElem_mem h2))
    have ih := run_items he d hl hl' hlen is (fun j hj => h j (by simp [hj]))
    simp only [Op.eqItems, Sem.run_bind, Nat.mul_one, p1, p2, Result.andThen_ok, run_equalIn_int w d e k k _ _ he]
    have e1 : (l.map SW.num).getD i 0 = l[i].num := by simp [List.getD, g1]
    have e2 : (l'.map SW.num).getD i 0 = l'[i].num := by simp [List.getD, g2]
    rw [List.all_cons, e1, e2]
    cases hb : (l[i].num == l'[i].num)
    · simp
    · simpa using ih

theorem run_eql_agg {t e : TypeId} {k : IntKind} {n : Nat} {i : TypeInfo} (ht : P.underlying t = some (.array n e)) (hi : P.info? e = some i) (hs : i.size = 1) (he : P.underlying e = some (.int k)) {l l' : List SW}
    (hl : ∀ x ∈ l, x.isKind k = true) (hl' : ∀ x ∈ l', x.isKind k = true) (h1 : l.length = n) (h2 : l'.length = n) :
    (Op.equalIn 10000 t (.agg (l.map (SW.val ρ)).toArray) (.agg (l'.map (SW.val ρ)).toArray)).run P w = .ok (l.map SW.num == l'.map SW.num) w := by
  have hc : P.cellsOf e = 1 := by unfold Program.cellsOf; rw [hi]; simpa using hs
  rw [run_equalIn_array w 9999 _ _ ht hi, hc, run_items he 9998 hl hl' (h1.trans h2.symm) (List.range n) (fun i hi => by rw [h1]; exact List.mem_range.1 hi)]
  congr 1
  rw [← all_range (l.map SW.num) (l'.map SW.num) (by simp [h1, h2]), List.length_map, h1]
end

/-! ### 2. One operation that only reads -/
def kOf (k : IntKind) (l : List SW) (n : Nat) : Bool := Nat.beq l.length n && l.all (SW.isKind k)

/-- The kinds of the arrays' elements: type to kind. -/
abbrev Kinds := List (Nat × IntKind)
def KindOK (P : Program) (t : TypeId) (k : IntKind) : Prop := (∃ n e i, P.underlying t = some (.array n e) ∧ P.info? e = some i ∧ i.size = 1 ∧ P.underlying e = some (.int k)) ∧ P.eqGuardType P.depth t = false

def evBase (Γ : List (Nat × TRow)) (Φ : List (Nat × FnS)) (E : Operand → Option SV) (M : Mem) (n : Nat) (op : Op) : Option (SV × List Ob) :=
  bif Nat.beq (kd Φ op) 2 then none else match ev1 Γ Φ E M n op with
    | some (v, _, _) => some (v, [])
    | none => none

def evG (Γ : List (Nat × TRow)) (Δ : Kinds) (Φ : List (Nat × FnS)) (E : Operand → Option SV) (M : Mem) (n : Nat) (op : Op) : Option (SV × List Ob) :=
  match op with
  | .binOp o t x y yt => match E x with
    | some (.agg l) => match E y with
      | some (.agg l') => match lk Δ t with
        | some k => match lk Γ t with
          | some ⟨.arr m 1 true, _, _⟩ => bif kOf k l m && kOf k l' m then (match o with
            | .eql => some (.s (.bool true), [(true, l, l')])
            | .neq => some (.s (.bool true), [(false, l, l')])
            | _ => none) else none
          | _ => none
        | none => none
      | _ => none
    | _ => evBase Γ Φ E M n (.binOp o t x y yt)
  | .pick c x y => match E c with
    | some (.s (.bool b)) => match (bif b then E x else E y) with
      | some v => some (v, [])
      | none => none
    | _ => none
  | .build t parts => match parts.toList with
    | [(i, x)] => match lk Γ t with
      | some ⟨.arr _ 1 true, _, .agg z⟩ => match E x with
        | some (.s v) => bif Nat.blt i z.length && v.cellOk then some (.agg (setn z i v), []) else none
        | _ => none
      | _ => none
    | _ => evBase Γ Φ E M n (.build t parts)
  | op => evBase Γ Φ E M n op

def gval (ops : List Oper) (K : Tr) (g : Nat) : Option Bool :=
  match nth ops g with
  | some o => match o.dst with
    | some d => match K.get d with
      | some (.s (.bool b)) => some b
      | _ => none
    | none => none
  | none => none

/-- Does it run? -/
def gok (ops : List Oper) (K : Tr) : Option (Nat × Bool) → Option Bool
  | none => some true
  | some (g, b) => match gval ops K g with
    | some c => some (bif b then c else !c)
    | none => none

def stepG (Γ : List (Nat × TRow)) (Δ : Kinds) (Φ : List (Nat × FnS)) (N : Nat) (all : List Oper) (K : Tr) (M : Mem) (n : Nat) (o : Oper) : Option (SV × List Ob) :=
  bif dstOk N o.dst then (match gok all K o.guard with
    | some true => evG Γ Δ Φ (evX K) M n o.op
    | some false => some (.s (.raw undef), [])
    | none => none) else none

def evOpsG (Γ : List (Nat × TRow)) (Δ : Kinds) (Φ : List (Nat × FnS)) (N : Nat) (all : List Oper) : List Oper → Tr → Mem → Nat → Option (Tr × List Ob)
  | [], K, _, _ => some (K, [])
  | o :: l, K, M, n => match stepG Γ Δ Φ N all K M n o with
    | some (v, b) => match evOpsG Γ Δ Φ N all l (putK K o.dst v) M n with
      | some (K', bs) => some (K', b ++ bs)
      | none => none
    | none => none

/-- For the order: a guard is looked at like an operand. -/
def proxy (ops : List Oper) (o : Oper) : Oper :=
  { o with op := .build 0 ((o.op.operands.toList ++ (match o.guard with
    | some (g, _) => match nth ops g with
      | some p => match p.dst with
        | some d => [.tmp d]
        | none => []
      | none => []
    | none => [])).map fun x => ((0 : Nat), x)).toArray }

section
variable {P : Program} {Γ : List (Nat × TRow)} {Δ : Kinds} {Φ : List (Nat × FnS)} {C : Ctx} {N : Nat}

theorem evBase_sound (hΓ : ∀ t r, lk Γ t = some r → TOK P t r) (hΦ : PhiOK P Φ) {ρ : Env} {w : World} {a : Act} {E : Operand → Option SV} {M : Mem} {n : Nat} {v : SV} {obs : List Ob}
    (hE : ∀ x v, E x = some v → a.eval x = v.val ρ) (hl : ∀ x v, E x = some v → v.lt n) (hW : WR C ρ M n w) {o : Oper} (h : evBase Γ Φ E M n o.op = some (v, obs))
    {next : Act → World → Prop} {Q : Exit → Act → World → Prop} (hk : ∀ ρ' w', (∀ i, i < n → ρ' i = ρ i) → v.lt n → WR C ρ' M n w' → next (a.put o.dst (v.val ρ')) w') : o.wp P a w next Q := by
  unfold evBase at h
  cases hb : Nat.beq (kd Φ o.op) 2 <;> simp only [hb, cond_false, cond_true, reduceCtorEq] at h
  split at h
  · rename_i u M' n' hu
    simp only [Option.some.injEq, Prod.mk.injEq] at h
    obtain ⟨rfl, _⟩ := h
    obtain ⟨rfl, rfl⟩ := ev1_kd (Nat.ne_of_beq_eq_false hb) hu
    exact ev1_sound hΓ hΦ hE hl hW hu fun ρ' w' q1 _ q3 hw => hk ρ' w' q1 q3 hw
  · cases h

theorem evG_sound (hΓ : ∀ t r, lk Γ t = some r → TOK P t r) (hΔ : ∀ t k, lk Δ t = some k → KindOK P t k) (hΦ : PhiOK P Φ) {ρ : Env} {w : World} {a : Act} {E : Operand → Option SV} {M : Mem} {n : Nat} {v : SV} {obs : List Ob}
    (hE : ∀ x v, E x = some v → a.eval x = v.val ρ) (hl : ∀ x v, E x = some v → v.lt n) (hW : WR C ρ M n w) {o : Oper} (h : evG Γ Δ Φ E M n o.op = some (v, obs)) (hobs : ∀ b ∈ obs, ObOK b)
    {next : Act → World → Prop} {Q : Exit → Act → World → Prop} (hk : ∀ ρ' w', (∀ i, i < n → ρ' i = ρ i) → v.lt n → WR C ρ' M n w' → next (a.put o.dst (v.val ρ')) w') : o.wp P a w next Q := by
  obtain ⟨dst, op, ty, pos, after, guard⟩ := o
  simp only at h hk
  have base : ∀ {op : Op}, evBase Γ Φ E M n op = some (v, obs) → (∀ ρ' w', (∀ i, i < n → ρ' i = ρ i) → v.lt n → WR C ρ' M n w' → next (a.put dst (v.val ρ')) w') → Oper.wp P { dst, op, type := ty, pos, after, guard } a w next Q :=
    fun {op} h hk => evBase_sound (o := { dst, op, type := ty, pos, after, guard }) hΓ hΦ hE hl hW h hk
  unfold evG at h
  split at h
  · rename_i o t x y yt
    split at h
    · rename_i l hx
      split at h
      · rename_i l' hy
        split at h
        · rename_i k hkk
          split at h
          · rename_i m sz z hkt
            cases hb : kOf k l m && kOf k l' m <;> simp only [hb, cond_false, cond_true, reduceCtorEq] at h
            simp only [kOf, Bool.and_eq_true] at hb
            obtain ⟨⟨b1, b2⟩, b3, b4⟩ := hb
            obtain ⟨⟨n', e, i, ht, hi, hs, he⟩, hg⟩ := hΔ _ _ hkk
            obtain ⟨e', i', ht', hi', hs', _⟩ := (hΓ _ _ hkt).desc
            have hn : n' = m := by rw [ht] at ht'; simp at ht'; exact ht'.1
            have e1 := hE _ _ hx
            have e2 := hE _ _ hy
            simp only [SV.val] at e1 e2
            have heq := run_eql_agg (P := P) (w := w) (ρ := ρ) ht hi hs he (List.all_eq_true.1 b2) (List.all_eq_true.1 b4) ((Nat.eq_of_beq_eq_true b1).trans hn.symm) ((Nat.eq_of_beq_eq_true b3).trans hn.symm)
            split at h
            · simp only [Option.some.injEq, Prod.mk.injEq] at h
              obtain ⟨rfl, rfl⟩ := h
              have ho := hobs (true, l, l') (by simp)
              simp only [ObOK] at ho
              rw [ho] at heq
              unfold Oper.wp
              simp only [execOp, e1, e2, Sem.run_bind, run_eqGuard_agg w _ _ _ _ _ _ hg, Result.andThen_ok, run_eql_struct, heq]
              exact hk ρ w (fun _ _ => rfl) trivial hW
            · simp only [Option.some.injEq, Prod.mk.injEq] at h
              obtain ⟨rfl, rfl⟩ := h
              have ho := hobs (false, l, l') (by simp)
              simp only [ObOK] at ho
              rw [ho] at heq
              unfold Oper.wp
              simp only [execOp, e1, e2, Sem.run_bind, run_eqGuard_agg w _ _ _ _ _ _ hg, Result.andThen_ok, run_neq_struct, heq]
              exact hk ρ w (fun _ _ => rfl) trivial hW
            · cases h
          · cases h
        · cases h
      · cases h
    · exact base h hk
  · rename_i c x y
    split at h
    · rename_i b hc
      have e1 := hE _ _ hc
      simp only [SV.val, SW.val] at e1
      split at h
      · rename_i u hu
        simp only [Option.some.injEq, Prod.mk.injEq] at h
        obtain ⟨rfl, _⟩ := h
        unfold Oper.wp
        cases b
        · have e2 := hE _ _ hu
          simp only [execOp, e1, asBool, Sem.run_bind, Sem.run_pure, Result.andThen_ok]
          have := hk ρ w (fun _ _ => rfl) (hl _ _ hu) hW
          rw [← e2] at this
          exact this
        · have e2 := hE _ _ hu
          simp only [execOp, e1, asBool, Sem.run_bind, Sem.run_pure, Result.andThen_ok]
          have := hk ρ w (fun _ _ => rfl) (hl _ _ hu) hW
          rw [← e2] at this
          exact this
      · cases h
    · cases h
  · rename_i t parts
    split at h
    · rename_i i x hp
      split at h
      · rename_i m sz z hkt
        split at h
        · rename_i v' hx
          cases hb : Nat.blt i z.length && v'.cellOk <;> simp only [hb, cond_false, cond_true, reduceCtorEq, Option.some.injEq, Prod.mk.injEq] at h
          obtain ⟨rfl, _⟩ := h
          simp only [Bool.and_eq_true] at hb
          have hlt : i < z.length := Nat.le_of_ble_eq_true hb.1
          obtain ⟨inf, hi, hsz, hz⟩ := zero_val (ρ := ρ) (hΓ _ _ hkt)
          have hfree := (hΓ _ _ hkt).free
          obtain ⟨e, inf', hu, hie, hes, _⟩ := (hΓ _ _ hkt).desc
          have hpa : parts = #[(i, x)] := by cases parts; simp_all
          subst hpa
          have e1 := hE _ _ hx
          simp only [SV.val] at e1
          have e0 : (Array.map (fun y : Nat × Operand => (y.fst, a.eval y.snd)) #[(i, x)]).toList = [(i, v'.val ρ)] := by simp [e1]
          have ec : (v'.val ρ).cells = #[v'.val ρ] := by
            have : SV.cells? (.s v') = some [v'] := by cases v' <;> first | rfl | cases hb.2
            exact (cells?_val (ρ := ρ) this).1
          have hset : (setn z i v').map (SW.val ρ) = (z.map (SW.val ρ)).set i (v'.val ρ) := by rw [setn_eq, List.map_set]
          have hrun : (execOp a.eval { dst, op := .build t #[(i, x)], type := ty, pos, after, guard }).run P w = .ok (.value ((SV.agg (setn z i v')).val ρ)) w := by
            simp only [execOp, Instr.build, Sem.run_bind, run_zeroValue hi hz, Result.andThen_ok, run_underlying hu, run_sizeOf hie, e0, hes]
            simp only [SV.val, hset]
            have ez : (Value.agg (z.map (SW.val ρ)).toArray).cells = (z.map (SW.val ρ)).toArray := rfl
            have hno : ¬ z.length < i + 1 := by omega
            simp [Instr.fill, ec, ez, hno]
          unfold Oper.wp
          rw [hrun]
          refine hk ρ w (fun _ _ => rfl) ?_ hW
          rw [setn_eq]
          intro y hy
          rcases List.mem_or_eq_of_mem_set hy with hy | rfl
          · exact SW.lt_mono (Nat.zero_le n) (hfree y hy)
          · exact hl _ _ hx
        · cases h
      · cases h
    · exact base h hk
  · exact base h hk
end
end CI
end Go.Proofs.Yteooohmlmefbnaa
