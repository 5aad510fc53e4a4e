/-
  Runs of straight code over words that stay open (part 5: regions; one walk in the order of the text serves every order that the edges allow). Each step is proved sound against the model.
  Conditions: none; it proves no statement by itself.
-/
import Derived.Test.YteooohmlmefbnaaCJd
namespace Go.Proofs.Yteooohmlmefbnaa
namespace CI
open Go

/-! ### 1. What is known of a frame -/
structure FitA (ρ : Env) (f : Nat → Option SV) (n N : Nat) (a : Act) : Prop where
  fit : ∀ t v, f t = some v → v.lt n ∧ a.tmps[t]? = some (v.val ρ)
  size : a.tmps.size = N
  defs : a.defers = []

def St (C : Ctx) (N : Nat) (f : Nat → Option SV) (M : Mem) (n : Nat) (a : Act) (w : World) : Prop := ∃ ρ, WR C ρ M n w ∧ FitA ρ f n N a

def dstOk (N : Nat) : Option Tmp → Bool
  | none => true
  | some d => Nat.blt d N

theorem FitA.ev {ρ : Env} {K : Tr} {n N : Nat} {a : Act} (h : FitA ρ K.get n N a) : ∀ x v, evX K x = some v → a.eval x = v.val ρ := by
  intro x v hx
  cases x with
  | tmp t =>
    have := (h.fit t v hx).2
    simp only [Act.eval, Array.getD_eq_getD_getElem?, this, Option.getD_some]
  | const c => exact (cst_sound hx ρ).1
  | global g => cases hx
  | func f => cases hx

theorem FitA.lt {ρ : Env} {K : Tr} {n N : Nat} {a : Act} (h : FitA ρ K.get n N a) : ∀ x v, evX K x = some v → v.lt n := by
  intro x v hx
  cases x with
  | tmp t => exact (h.fit t v hx).1
  | const c => exact (cst_sound hx ρ).2 n
  | global g => cases hx
  | func f => cases hx

theorem FitA.put {ρ ρ' : Env} {K : Tr} {n n' N : Nat} {a : Act} (h : FitA ρ K.get n N a) (he : ∀ i, i < n → ρ' i = ρ i) (hn : n ≤ n') {v : SV} (hv : v.lt n') {dst : Option Tmp} (hd : dstOk N dst = true) :
    FitA ρ' (putK K dst v).get n' N (a.put dst (v.val ρ')) := by
  refine ⟨fun t u hu => ?_, ?_, ?_⟩
  · cases dst with
    | none =>
      obtain ⟨h1, h2⟩ := h.fit t u hu
      exact ⟨SV.lt_mono hn h1, by rw [SV.val_congr he h1]; exact h2⟩
    | some d =>
      have hd' : d < a.tmps.size := by rw [h.size]; exact Nat.le_of_ble_eq_true hd
      rcases Tr.get_set hu with ⟨rfl, rfl⟩ | ⟨hne, hu'⟩
      · exact ⟨hv, by simp [Act.put, hd']⟩
      · obtain ⟨h1, h2⟩ := h.fit t u hu'
        refine ⟨SV.lt_mono hn h1, ?_⟩
        rw [SV.val_congr he h1]
        simp only [Act.put]
        rw [Array.getElem?_setIfInBounds_ne hne]; exact h2
  · cases dst with
    | none => exact h.size
    | some d => simp [Act.put, h.size]
  · cases dst with
    | none => exact h.defs
    | some d => exact h.defs

theorem FitA.congr {ρ : Env} {f g : Nat → Option SV} {n N : Nat} {a : Act} (h : FitA ρ f n N a) (e : ∀ t, g t = f t) : FitA ρ g n N a :=
  ⟨fun t v hv => h.fit t v (by rw [← e]; exact hv), h.size, h.defs⟩

/-! ### 2. In the order of the text -/
def evOps (Γ : List (Nat × TRow)) (Φ : List (Nat × FnS)) (N : Nat) : List Oper → Tr → Mem → Nat → Option (Tr × Mem × Nat)
  | [], K, M, n => some (K, M, n)
  | o :: l, K, M, n => match o.guard with
    | some _ => none
    | none => bif dstOk N o.dst then (match ev1 Γ Φ (evX K) M n o.op with
      | some (v, M', n') => evOps Γ Φ N l (putK K o.dst v) M' n'
      | none => none) else none

section
variable {P : Program} {Γ : List (Nat × TRow)} {Φ : List (Nat × FnS)} {C : Ctx} {N : Nat}

theorem evOps_sound (hΓ : ∀ t r, lk Γ t = some r → TOK P t r) (hΦ : PhiOK P Φ) {ops : Array Oper} {Q : Exit → Act → World → Prop} : ∀ (l : List Oper) (K : Tr) (M : Mem) (n : Nat) (K' : Tr) (M' : Mem) (n' : Nat),
    evOps Γ Φ N l K M n = some (K', M', n') → ∀ a w, St C N K.get M n a w → (∀ a' w', St C N K'.get M' n' a' w' → Q .normal a' w') → wpList P ops Q l a w
  | [], K, M, n, K', M', n', h, a, w, hs, hk => by
    simp only [evOps, Option.some.injEq, Prod.mk.injEq] at h
    obtain ⟨rfl, rfl, rfl⟩ := h
    exact hk a w hs
  | o :: l, K, M, n, K', M', n', h, a, w, hs, hk => by
    simp only [evOps] at h
    split at h
    · cases h
    · rename_i hg
      cases hd : dstOk N o.dst <;> simp only [hd, cond_false, cond_true, reduceCtorEq] at h
      split at h
      · rename_i v M1 n1 h1
        obtain ⟨ρ, hW, hf⟩ := hs
        refine wpList_plain hg fun K2 hK2 => ?_
        refine ev1_sound hΓ hΦ hf.ev hf.lt hW h1 fun ρ' w' q1 q2 q3 hw => hK2 _ _ ?_
        exact evOps_sound hΓ hΦ l _ _ _ _ _ _ h _ _ ⟨ρ', hw, hf.put q1 q2 q3 hd⟩ hk
      · cases h

/-- The states along the text. -/
theorem evOps_states : ∀ (l : List Oper) (K : Tr) (M : Mem) (n : Nat) (K' : Tr) (M' : Mem) (n' : Nat), evOps Γ Φ N l K M n = some (K', M', n') →
    ∃ (st : Nat → Tr × Mem × Nat) (R : Nat → SV), st 0 = (K, M, n) ∧ st l.length = (K', M', n') ∧ ∀ i o, l[i]? = some o → o.guard = none ∧ dstOk N o.dst = true ∧
      ev1 Γ Φ (evX (st i).1) (st i).2.1 (st i).2.2 o.op = some (R i, (st (i + 1)).2.1, (st (i + 1)).2.2) ∧ (st (i + 1)).1 = putK (st i).1 o.dst (R i)
  | [], K, M, n, K', M', n', h => by
    simp only [evOps, Option.some.injEq] at h
    exact ⟨fun _ => (K, M, n), fun _ => .unit, rfl, h, fun i o hi => by simp at hi⟩
  | o :: l, K, M, n, K', M', n', h => by
    simp only [evOps] at h
    split at h
    · cases h
    · rename_i hg
      cases hd : dstOk N o.dst <;> simp only [hd, cond_false, cond_true, reduceCtorEq] at h
      split at h
      · rename_i v M1 n1 h1
        obtain ⟨st, R, e0, e1, e2⟩ := evOps_states l _ _ _ _ _ _ h
        refine ⟨fun i => match i with | 0 => (K, M, n) | i + 1 => st i, fun i => match i with | 0 => v | i + 1 => R i, rfl, e1, fun i o' hi => ?_⟩
        cases i with
        | zero =>
          simp only [List.getElem?_cons_zero, Option.some.injEq] at hi
          subst hi
          simp only [e0]
          exact ⟨hg, hd, h1, trivial⟩
        | succ i =>
          simp only [List.getElem?_cons_succ] at hi
          exact e2 i o' hi
      · cases h

/-! ### 3. Which operations must keep their order -/
def tmpsOf : List Operand → List Tmp
  | [] => []
  | .tmp t :: l => t :: tmpsOf l
  | _ :: l => tmpsOf l

def memb (t : Nat) : List Nat → Bool
  | [] => false
  | x :: l => bif Nat.beq x t then true else memb t l

theorem memb_iff {t : Nat} : ∀ {l : List Nat}, memb t l = true ↔ t ∈ l
  | [] => by simp [memb]
  | x :: l => by
    simp only [memb, List.mem_cons]
    cases h : Nat.beq x t
    · simp only [cond_false, memb_iff]
      have := Nat.ne_of_beq_eq_false h
      constructor
      · exact fun hh => .inr hh
      · rintro (hh | hh)
        · exact absurd hh.symm this
        · exact hh
    · simp only [cond_true, true_iff]
      exact .inl (Nat.eq_of_beq_eq_true h).symm

theorem mem_tmpsOf {t : Tmp} : ∀ {l : List Operand}, .tmp t ∈ l → t ∈ tmpsOf l
  | x :: l, h => by
    rcases List.mem_cons.1 h with rfl | h
    · simp [tmpsOf]
    · have := mem_tmpsOf h
      cases x <;> simp [tmpsOf, this]

def touches (o : Oper) (t : Tmp) : Bool := memb t (tmpsOf o.op.operands.toList) || (match o.dst with
  | some d => Nat.beq d t
  | none => false)

def conflict (Φ : List (Nat × FnS)) (a b : Oper) : Bool :=
  (match a.dst with
    | some d => touches b d
    | none => false) || ((match b.dst with
    | some d => touches a d
    | none => false) || ((Nat.beq (kd Φ a.op) 2 && !Nat.beq (kd Φ b.op) 0) || (Nat.beq (kd Φ b.op) 2 && !Nat.beq (kd Φ a.op) 0)))

def bitsOf : List Edge → List Nat → Nat
  | [], _ => 0
  | e :: l, acc => bif Region.binds .any e then (2 ^ e.on ||| (nth acc e.on).getD 0) ||| bitsOf l acc else bitsOf l acc

def backB (n : Nat) : List Edge → Bool
  | [] => true
  | e :: l => (!Region.binds .any e || Nat.blt e.on n) && backB n l

def okAt (Φ : List (Nat × FnS)) (o : Oper) (bits : Nat) : List Oper → Nat → Bool
  | [], _ => true
  | p :: l, i => (!conflict Φ p o || Nat.testBit bits i) && okAt Φ o bits l (i + 1)

def okReg (Φ : List (Nat × FnS)) : List Oper → List Nat → List Oper → Bool
  | _, _, [] => true
  | done, acc, o :: l => backB acc.length o.after.toList && (okAt Φ o (bitsOf o.after.toList acc) done 0 && okReg Φ (done ++ [o]) (acc ++ [bitsOf o.after.toList acc]) l)

theorem bitsOf_spec {acc : List Nat} {i : Nat} : ∀ {l : List Edge}, (bitsOf l acc).testBit i = true → ∃ e ∈ l, Region.binds .any e = true ∧ (e.on = i ∨ ((nth acc e.on).getD 0).testBit i = true)
  | [], h => by simp [bitsOf] at h
  | e :: l, h => by
    simp only [bitsOf] at h
    cases hb : Region.binds .any e
    · simp only [hb, cond_false] at h
      obtain ⟨x, hx, hh⟩ := bitsOf_spec h
      exact ⟨x, List.mem_cons_of_mem _ hx, hh⟩
    · simp only [hb, cond_true, Nat.testBit_or, Bool.or_eq_true] at h
      rcases h with (h | h) | h
      · rw [Nat.testBit_two_pow] at h
        exact ⟨e, List.mem_cons_self, hb, .inl (by simpa using h)⟩
      · exact ⟨e, List.mem_cons_self, hb, .inr h⟩
      · obtain ⟨x, hx, hh⟩ := bitsOf_spec h
        exact ⟨x, List.mem_cons_of_mem _ hx, hh⟩

theorem okAt_spec {o : Oper} {bits : Nat} : ∀ {l : List Oper} {i : Nat}, okAt Φ o bits l i = true → ∀ j p, l[j]? = some p → conflict Φ p o = true → bits.testBit (i + j) = true
  | q :: l, i, h, j, p, hj, hc => by
    simp only [okAt, Bool.and_eq_true, Bool.or_eq_true, Bool.not_eq_true'] at h
    cases j with
    | zero =>
      simp only [List.getElem?_cons_zero, Option.some.injEq] at hj
      subst hj
      rcases h.1 with h1 | h1
      · rw [hc] at h1; cases h1
      · exact h1
    | succ j =>
      simp only [List.getElem?_cons_succ] at hj
      have := okAt_spec h.2 j p hj hc
      rwa [show i + 1 + j = i + (j + 1) by omega] at this
  | [], _, _, _, _, hj, _ => by simp at hj

theorem backB_spec {n : Nat} : ∀ {l : List Edge}, backB n l = true → ∀ e ∈ l, Region.binds .any e = true → e.on < n
  | x :: l, h, e, he, hb => by
    simp only [backB, Bool.and_eq_true, Bool.or_eq_true, Bool.not_eq_true'] at h
    rcases List.mem_cons.1 he with rfl | he
    · rcases h.1 with h1 | h1
      · rw [hb] at h1; cases h1
      · exact Nat.le_of_ble_eq_true h1
    · exact backB_spec h.2 e he hb

/-- What the look at a region gives: 'pre j i': operation i comes ahead of operation j. -/
structure Ord (Φ : List (Nat × FnS)) (ops : List Oper) (pre : Nat → Nat → Prop) : Prop where
  back : ∀ j o, ops[j]? = some o → ∀ e ∈ o.after, Region.binds .any e = true → e.on < j
  step : ∀ j i, pre j i → ∃ o, ops[j]? = some o ∧ ∃ e ∈ o.after, Region.binds .any e = true ∧ (e.on = i ∨ pre e.on i)
  conf : ∀ i j p o, i < j → ops[i]? = some p → ops[j]? = some o → conflict Φ p o = true → pre j i

theorem okReg_ord : ∀ (l done : List Oper) (acc : List Nat), okReg Φ done acc l = true → acc.length = done.length →
    (∀ j o, done[j]? = some o → (∀ e ∈ o.after, Region.binds .any e = true → e.on < j) ∧ (∀ i, ((nth acc j).getD 0).testBit i = true → ∃ e ∈ o.after, Region.binds .any e = true ∧ (e.on = i ∨ ((nth acc e.on).getD 0).testBit i = true)) ∧
      ∀ i p, i < j → done[i]? = some p → conflict Φ p o = true → ((nth acc j).getD 0).testBit i = true) →
    ∃ B : List Nat, Ord Φ (done ++ l) (fun j i => ((nth B j).getD 0).testBit i = true)
  | [], done, acc, _, hlen, hinv => by
    refine ⟨acc, ?_⟩
    rw [List.append_nil]
    refine ⟨fun j o ho => (hinv j o ho).1, fun j i h => ?_, fun i j p o hij hp ho hc => (hinv j o ho).2.2 i p hij hp hc⟩
    rcases Nat.lt_or_ge j done.length with hj | hj
    · exact ⟨done[j], List.getElem?_eq_getElem hj, (hinv j _ (List.getElem?_eq_getElem hj)).2.1 i h⟩
    · rw [nth_eq, List.getElem?_eq_none (by omega)] at h
      simp at h
  | o :: l, done, acc, h, hlen, hinv => by
    simp only [okReg, Bool.and_eq_true] at h
    obtain ⟨h1, h2, h3⟩ := h
    have := okReg_ord l (done ++ [o]) (acc ++ [bitsOf o.after.toList acc]) h3 (by simp [hlen]) (fun j q hq => ?_)
    · obtain ⟨B, hB⟩ := this
      refine ⟨B, ?_⟩
      rwa [List.append_assoc] at hB
    · have hold : ∀ {k}, k < acc.length → nth (acc ++ [bitsOf o.after.toList acc]) k = nth acc k := fun hk => by
        rw [nth_eq, nth_eq, List.getElem?_append_left hk]
      rcases Nat.lt_or_ge j done.length with hj | hj
      · rw [List.getElem?_append_left hj] at hq
        obtain ⟨i1, i2, i3⟩ := hinv j q hq
        rw [hold (by omega)]
        refine ⟨i1, fun i hi => ?_, fun i p hij hp hc => ?_⟩
        · obtain ⟨e, he, hb, hh⟩ := i2 i hi
          exact ⟨e, he, hb, hh.imp id (fun x => by rw [hold (by have := i1 e he hb; omega)]; exact x)⟩
        · rw [List.getElem?_append_left (by omega)] at hp
          exact i3 i p hij hp hc
      · have hjlt : j < (done ++ [o]).length := (List.getElem?_eq_some_iff.1 hq).1
        have hje : j = done.length := by simp at hjlt; omega
        subst hje
        rw [List.getElem?_append_right (Nat.le_refl _)] at hq
        simp at hq
        subst hq
        have hlast : nth (acc ++ [bitsOf o.after.toList acc]) done.length = some (bitsOf o.after.toList acc) := by
          rw [nth_eq, ← hlen, List.getElem?_append_right (Nat.le_refl _)]; simp
        rw [hlast]
        have hback : ∀ e ∈ o.after, Region.binds .any e = true → e.on < done.length := fun e he hb => by
          rw [← hlen]; exact backB_spec h1 e (by simpa using he) hb
        refine ⟨hback, fun i hi => ?_, fun i p hij hp hc => ?_⟩
        · obtain ⟨e, he, hb, hh⟩ := bitsOf_spec hi
          have he' : e ∈ o.after := by simpa using he
          exact ⟨e, he', hb, hh.imp id (fun x => by rw [hold (by have := hback e he' hb; omega)]; exact x)⟩
        · rw [List.getElem?_append_left hij] at hp
          have := okAt_spec h2 i p hp hc
          simpa using this

theorem ord_of_okReg {ops : List Oper} (h : okReg Φ [] [] ops = true) : ∃ pre, Ord Φ ops pre := by
  obtain ⟨B, hB⟩ := okReg_ord ops [] [] h rfl (fun j o ho => by simp at ho)
  exact ⟨_, hB⟩

/-! ### 4. Whatever order -/
theorem evArgs_congr {E E' : Operand → Option SV} : ∀ {l : List Operand}, (∀ x ∈ l, E x = E' x) → evArgs E l = evArgs E' l
  | [], _ => rfl
  | x :: l, h => by
    simp only [evArgs]
    rw [h x List.mem_cons_self, evArgs_congr (fun y hy => h y (List.mem_cons_of_mem _ hy))]

theorem evBd_congr {E E' : Operand → Option SV} {o : Option Operand} {d : Nat} (h : ∀ x, o = some x → E x = E' x) : evBd E o d = evBd E' o d := by
  cases o with
  | none => rfl
  | some x => simp only [evBd, h x rfl]

theorem evP_congr {E E' : Operand → Option SV} {op : Op} (h : ∀ x ∈ op.operands, E x = E' x) : evP Γ E op = evP Γ E' op := by
  cases op <;> simp only [Op.operands] at h <;> simp only [evP]
  case move x => exact h x (by simp)
  case assign x => exact h x (by simp)
  case binOp o t x y yt => rw [h x (by simp), h y (by simp)]
  case convert s d x => rw [h x (by simp)]
  case nilCheck x => rw [h x (by simp)]
  case indexAddr t x i => rw [h x (by simp), h i (by simp)]
  case index t x i => rw [h x (by simp), h i (by simp)]
  case slice t x lo hi mx =>
    cases mx with
    | some m => rfl
    | none =>
      simp only
      rw [h x (by simp)]
      cases lk Γ t with
      | none => rfl
      | some r =>
        simp only
        cases E' x with
        | none => rfl
        | some vx =>
          simp only [evSlice]
          have b1 : ∀ d, evBd E lo d = evBd E' lo d := fun d => evBd_congr fun y hy => h y (by subst hy; simp)
          have b2 : ∀ d, evBd E hi d = evBd E' hi d := fun d => evBd_congr fun y hy => h y (by subst hy; simp)
          simp only [b1, b2]
  case sliceToArrayPointer t x => rw [h x (by simp)]

theorem ev1_congr {E E' : Operand → Option SV} {M : Mem} {n : Nat} {op : Op} (h : ∀ x ∈ op.operands, E x = E' x) : ev1 Γ Φ E M n op = ev1 Γ Φ E' M n op := by
  have e0 : ev0 Γ Φ E op = ev0 Γ Φ E' op := by
    cases op
    case call c =>
      obtain ⟨callee, args, ats⟩ := c
      simp only [ev0]
      have ha : ∀ x ∈ args.toList, E x = E' x := fun x hx => h x (by simp [Op.operands, Call.operands]; right; simpa using hx)
      rw [evArgs_congr ha]
      cases callee with
      | value f => cases f <;> rfl
      | invoke r m => rfl
      | builtin b =>
        by_cases hb : b = .len
        · subst hb
          simp only
          cases e1 : args.toList with
          | nil => rfl
          | cons x l => cases l with
            | nil =>
              have hx := ha x (by rw [e1]; simp)
              cases ats.toList with
              | nil => rfl
              | cons t l => cases l with
                | nil => simp only [hx]
                | cons _ _ => rfl
            | cons y l => rfl
        · cases b <;> first | rfl | exact absurd rfl hb
    all_goals (simp only [ev0]; rw [evP_congr h])
  have e1 : evL Γ E M op = evL Γ E' M op := by
    cases op <;> simp only [Op.operands] at h <;> simp only [evL]
    rw [h _ (by simp)]
  have e2 : evE Γ Φ E M n op = evE Γ Φ E' M n op := by
    cases op
    case call c =>
      obtain ⟨callee, args, ats⟩ := c
      simp only [evE]
      have ha : ∀ x ∈ args.toList, E x = E' x := fun x hx => h x (by simp [Op.operands, Call.operands]; right; simpa using hx)
      rw [evArgs_congr ha]
      cases callee with
      | value f => cases f <;> rfl
      | invoke r m => rfl
      | builtin b =>
        by_cases hb : b = .copy
        · subst hb
          simp only
          cases e1 : args.toList with
          | nil => rfl
          | cons x l => cases l with
            | nil => rfl
            | cons y l => cases l with
              | nil =>
                have hx := ha x (by rw [e1]; simp)
                have hy := ha y (by rw [e1]; simp)
                cases ats.toList with
                | nil => rfl
                | cons t l => cases l with
                  | nil => rfl
                  | cons u l => cases l with
                    | nil => simp only [hx, hy]
                    | cons _ _ => rfl
              | cons z l => rfl
        · cases b <;> first | rfl | exact absurd rfl hb
    all_goals simp only [Op.operands] at h
    all_goals simp only [evE]
    case store t x v => rw [h x (by simp), h v (by simp)]
    case box t x => rw [h x (by simp)]
  unfold ev1
  rw [e0, e1, e2]

theorem ev1_kd {E : Operand → Option SV} {M M' : Mem} {n n' : Nat} {op : Op} {v : SV} (hk : kd Φ op ≠ 2) (h : ev1 Γ Φ E M n op = some (v, M', n')) : M' = M ∧ n' = n := by
  unfold ev1 at h
  split at h
  · split at h
    · simp only [Option.some.injEq, Prod.mk.injEq] at h; exact ⟨h.2.1.symm, h.2.2.symm⟩
    · cases h
  · split at h
    · simp only [Option.some.injEq, Prod.mk.injEq] at h; exact ⟨h.2.1.symm, h.2.2.symm⟩
    · cases h
  · rename_i h0 h1
    exfalso
    unfold kd at h0 h1 hk
    split at hk <;> simp_all
    split at hk <;> simp_all
    split at hk <;> simp_all

theorem ev1_kd0 {E : Operand → Option SV} {M M' : Mem} {n n' : Nat} {op : Op} {v : SV} (hk : kd Φ op = 0) (h : ev1 Γ Φ E M n op = some (v, M', n')) (M2 : Mem) (n2 : Nat) : ev1 Γ Φ E M2 n2 op = some (v, M2, n2) := by
  unfold ev1 at h ⊢
  rw [hk] at h ⊢
  simp only at h ⊢
  split at h
  · rename_i u hu
    simp only [Option.some.injEq, Prod.mk.injEq] at h
    rw [h.1]
  · cases h

/-- The frame and the memory behind the operations of a set. -/
def KS (ops : List Oper) (K : Tr) (R : Nat → SV) (S : Nat → Bool) : Nat → Tr
  | 0 => K
  | j + 1 => match ops[j]? with
    | some o => bif S j then putK (KS ops K R S j) o.dst (R j) else KS ops K R S j
    | none => KS ops K R S j

def MS (Φ : List (Nat × FnS)) (ops : List Oper) (st : Nat → Tr × Mem × Nat) (S : Nat → Bool) : Nat → Mem × Nat
  | 0 => (st 0).2
  | j + 1 => match ops[j]? with
    | some o => bif S j && Nat.beq (kd Φ o.op) 2 then (st (j + 1)).2 else MS Φ ops st S j
    | none => MS Φ ops st S j

theorem KS_has {ops : List Oper} {K : Tr} {R : Nat → SV} {S : Nat → Bool} {t : Nat} : ∀ j, (KS ops K R S j).has t = K.has t
  | 0 => rfl
  | j + 1 => by
    simp only [KS]
    split
    · rename_i o _
      cases S j
      · exact KS_has j
      · simp only [cond_true]
        cases o.dst with
        | none => exact KS_has j
        | some d => simp only [putK, Tr.has_set]; exact KS_has j
    · exact KS_has j

theorem putK_get_ne {K : Tr} {d : Option Tmp} {v : SV} {t : Nat} (h : d ≠ some t) : (putK K d v).get t = K.get t := by
  cases d with
  | none => rfl
  | some d => exact Tr.get_set_ne _ _ _ _ (fun e => h (by rw [e]))

theorem putK_get_eq {K : Tr} {v : SV} {t : Nat} : (putK K (some t) v).get t = bif K.has t then some v else none := Tr.get_set_eq _ _ _

theorem KS_get {ops : List Oper} {K : Tr} {R : Nat → SV} {S S' : Nat → Bool} {t : Nat} : ∀ j, (∀ i o, i < j → ops[i]? = some o → o.dst = some t → S i = S' i) → (KS ops K R S j).get t = (KS ops K R S' j).get t
  | 0, _ => rfl
  | j + 1, h => by
    have ih := KS_get (K := K) (R := R) j (fun i o hi ho hd => h i o (by omega) ho hd)
    simp only [KS]
    split
    · rename_i o ho
      by_cases hd : o.dst = some t
      · rw [h j o (Nat.lt_succ_self _) ho hd]
        cases S' j
        · exact ih
        · simp only [cond_true, hd, putK_get_eq, KS_has]
      · have e : ∀ {T : Nat → Bool}, (bif T j then putK (KS ops K R T j) o.dst (R j) else KS ops K R T j).get t = (KS ops K R T j).get t := fun {T} => by
          cases T j
          · rfl
          · simp only [cond_true, putK_get_ne hd]
        rw [e, e]; exact ih
    · exact ih

theorem MS_eq {ops : List Oper} {st : Nat → Tr × Mem × Nat} {S S' : Nat → Bool} : ∀ j, (∀ i o, i < j → ops[i]? = some o → kd Φ o.op = 2 → S i = S' i) → MS Φ ops st S j = MS Φ ops st S' j
  | 0, _ => rfl
  | j + 1, h => by
    have ih := MS_eq (st := st) j (fun i o hi ho hd => h i o (by omega) ho hd)
    simp only [MS]
    split
    · rename_i o ho
      by_cases hd : kd Φ o.op = 2
      · rw [h j o (Nat.lt_succ_self _) ho hd, ih]
      · have : Nat.beq (kd Φ o.op) 2 = false := by
          cases hb : Nat.beq (kd Φ o.op) 2
          · rfl
          · exact absurd (Nat.eq_of_beq_eq_true hb) hd
        simp only [this, Bool.and_false, cond_false]; exact ih
    · exact ih

/-- The run along the text. -/
structure Run (Γ : List (Nat × TRow)) (Φ : List (Nat × FnS)) (N : Nat) (ops : List Oper) (st : Nat → Tr × Mem × Nat) (R : Nat → SV) : Prop where
  step : ∀ i o, ops[i]? = some o → o.guard = none ∧ dstOk N o.dst = true ∧ ev1 Γ Φ (evX (st i).1) (st i).2.1 (st i).2.2 o.op = some (R i, (st (i + 1)).2.1, (st (i + 1)).2.2) ∧ (st (i + 1)).1 = putK (st i).1 o.dst (R i)

theorem Run.K {ops : List Oper} {st : Nat → Tr × Mem × Nat} {R : Nat → SV} (h : Run Γ Φ N ops st R) : ∀ j, j ≤ ops.length → ∀ S : Nat → Bool, (∀ i, i < j → S i = true) → KS ops (st 0).1 R S j = (st j).1
  | 0, _, _, _ => rfl
  | j + 1, hj, S, hS => by
    have ho : ops[j]? = some ops[j] := List.getElem?_eq_getElem (by omega)
    simp only [KS, ho, hS j (Nat.lt_succ_self _), cond_true, h.K j (by omega) S (fun i hi => hS i (by omega))]
    exact ((h.step j _ ho).2.2.2).symm

theorem Run.M {ops : List Oper} {st : Nat → Tr × Mem × Nat} {R : Nat → SV} (h : Run Γ Φ N ops st R) : ∀ j, j ≤ ops.length → ∀ S : Nat → Bool, (∀ i, i < j → S i = true) → MS Φ ops st S j = (st j).2
  | 0, _, _, _ => rfl
  | j + 1, hj, S, hS => by
    have ho : ops[j]? = some ops[j] := List.getElem?_eq_getElem (by omega)
    simp only [MS, ho, hS j (Nat.lt_succ_self _), Bool.true_and, h.M j (by omega) S (fun i hi => hS i (by omega))]
    cases hb : Nat.beq (kd Φ ops[j].op) 2
    · have hne : kd Φ ops[j].op ≠ 2 := Nat.ne_of_beq_eq_false hb
      obtain ⟨e1, e2⟩ := ev1_kd hne (h.step j _ ho).2.2.1
      simp only [cond_false]
      exact Prod.ext e1.symm e2.symm
    · rfl

/-- Behind the first i operations nothing more of the set: as if it ended there. -/
theorem KS_cut {ops : List Oper} {K : Tr} {R : Nat → SV} {S : Nat → Bool} (i : Nat) : ∀ j, i ≤ j → (∀ k, i ≤ k → k < j → S k = false) → KS ops K R S j = KS ops K R S i
  | j, hij, h => by
    induction j with
    | zero => rw [Nat.le_zero.1 hij]
    | succ j ih =>
      rcases Nat.lt_or_ge i (j + 1) with hlt | hge
      · rw [← ih (by omega) (fun k h1 h2 => h k h1 (by omega))]
        simp only [KS, h j (by omega) (Nat.lt_succ_self _), cond_false]
        split <;> rfl
      · rw [show i = j + 1 by omega]

theorem MS_cut {ops : List Oper} {st : Nat → Tr × Mem × Nat} {S : Nat → Bool} (i : Nat) : ∀ j, i ≤ j → (∀ k, i ≤ k → k < j → S k = false) → MS Φ ops st S j = MS Φ ops st S i
  | j, hij, h => by
    induction j with
    | zero => rw [Nat.le_zero.1 hij]
    | succ j ih =>
      rcases Nat.lt_or_ge i (j + 1) with hlt | hge
      · rw [← ih (by omega) (fun k h1 h2 => h k h1 (by omega))]
        simp only [MS, h j (by omega) (Nat.lt_succ_self _), Bool.false_and, cond_false]
        split <;> rfl
      · rw [show i = j + 1 by omega]

theorem countP_lt {p p' : Nat → Bool} (hp : ∀ x, p' x = true → p x = true) {i : Nat} (h1 : p i = true) (h2 : p' i = false) : ∀ {l : List Nat}, i ∈ l → l.countP p' < l.countP p
  | x :: l, hi => by
    have hle : l.countP p' ≤ l.countP p := List.countP_mono_left fun x _ hx => hp x hx
    rcases List.mem_cons.1 hi with rfl | hi
    · rw [List.countP_cons, List.countP_cons, h1, h2]; simp; omega
    · have := countP_lt hp h1 h2 hi
      rw [List.countP_cons, List.countP_cons]
      cases hx : p' x
      · simp; omega
      · rw [hp x hx]; simp; omega

/-- WHATEVER ORDER THE TAPE PICKS. -/
theorem wpAny_of_run (hΓ : ∀ t r, lk Γ t = some r → TOK P t r) (hΦ : PhiOK P Φ) {ops : Array Oper} {st : Nat → Tr × Mem × Nat} {R : Nat → SV} (hrun : Run Γ Φ N ops.toList st R) {pre : Nat → Nat → Prop} (hord : Ord Φ ops.toList pre)
    {Q : Exit → Act → World → Prop} (hk : ∀ a' w', St C N (st ops.size).1.get (st ops.size).2.1 (st ops.size).2.2 a' w' → Q .normal a' w') :
    ∀ (fuel : Nat) (listed : Array Bool) (a : Act) (w : World), listed.size = ops.size → (List.range ops.size).countP (fun j => !listed.getD j false) ≤ fuel →
      (∀ j o, ops[j]? = some o → listed.getD j false = true → ∀ e ∈ o.after, Region.binds .any e = true → listed.getD e.on false = true) →
      St C N (KS ops.toList (st 0).1 R (fun j => listed.getD j false) ops.size).get (MS Φ ops.toList st (fun j => listed.getD j false) ops.size).1 (MS Φ ops.toList st (fun j => listed.getD j false) ops.size).2 a w →
      wpAny P .any ops Q fuel listed a w := by
  have hlen : ops.toList.length = ops.size := Array.length_toList
  have hget : ∀ j : Nat, ops.toList[j]? = ops[j]? := fun j => Array.getElem?_toList
  intro fuel
  -- all listed: the end
  have fin : ∀ (listed : Array Bool) (a : Act) (w : World), (∀ j, j < ops.size → listed.getD j false = true) →
      St C N (KS ops.toList (st 0).1 R (fun j => listed.getD j false) ops.size).get (MS Φ ops.toList st (fun j => listed.getD j false) ops.size).1 (MS Φ ops.toList st (fun j => listed.getD j false) ops.size).2 a w → Q .normal a w := by
    intro listed a w hall hst
    rw [hrun.K ops.size (by omega) _ hall, hrun.M ops.size (by omega) _ hall] at hst
    exact hk a w hst
  -- nothing ready: all listed
  have allOf : ∀ (listed : Array Bool), listed.size = ops.size → Region.ready .any ops listed = [] → ∀ j, j < ops.size → listed.getD j false = true := by
    intro listed hsz hr j
    induction j using Nat.strongRecOn with
    | _ j ih =>
      intro hj
      cases hb : listed.getD j false with
      | true => rfl
      | false =>
        exfalso
        have ho : ops[j]? = some ops[j] := Array.getElem?_eq_getElem hj
        have : j ∈ Region.ready .any ops listed := mem_ready.2 ⟨by
            have hjl : j < listed.size := by omega
            simp [hjl] at hb ⊢; exact hb, ops[j], ho, fun e he hbd => by
            have hlt := hord.back j ops[j] (by rw [hget]; exact ho) e he hbd
            exact ih e.on hlt (by omega)⟩
        rw [hr] at this
        cases this
  induction fuel with
  | zero =>
    intro listed a w hsz hcnt hcl hst
    have hz : (List.range ops.size).countP (fun j => !listed.getD j false) = 0 := Nat.le_zero.1 hcnt
    have hall : ∀ j, j < ops.size → listed.getD j false = true := fun j hj => by
      have := List.countP_eq_zero.1 hz j (List.mem_range.2 hj)
      simpa using this
    refine ⟨?_, fin listed a w hall hst⟩
    cases hr : Region.ready .any ops listed with
    | nil => rfl
    | cons i l =>
      exfalso
      have hi : i ∈ Region.ready .any ops listed := by rw [hr]; exact List.mem_cons_self
      obtain ⟨h0, o, ho, _⟩ := mem_ready.1 hi
      have hlt : i < ops.size := (Array.getElem?_eq_some_iff.1 ho).1
      have := hall i hlt
      have hil : i < listed.size := by omega
      simp [hil] at this h0
      rw [this] at h0; cases h0
  | succ fuel ih =>
    intro listed a w hsz hcnt hcl hst
    refine ⟨fun hr => fin listed a w (allOf listed hsz hr) hst, fun i hi => ?_⟩
    obtain ⟨h0, o, ho, hpre⟩ := mem_ready.1 hi
    have hlt : i < ops.size := (Array.getElem?_eq_some_iff.1 ho).1
    have hil : i < listed.size := by omega
    have hun : listed.getD i false = false := by simp [hil] at h0 ⊢; exact h0
    have hoL : ops.toList[i]? = some o := by rw [hget]; exact ho
    obtain ⟨hg, hd, hev, hK1⟩ := hrun.step i o hoL
    -- what comes ahead of a listed operation is listed; what comes ahead of i is listed
    have hclT : ∀ j p, pre j p → listed.getD j false = true → listed.getD p false = true := by
      intro j
      induction j using Nat.strongRecOn with
      | _ j ihj =>
        intro p hp hj
        obtain ⟨oj, hoj, e, he, hb, hh⟩ := hord.step j p hp
        have hon := hcl j oj (by rw [← hget]; exact hoj) hj e he hb
        rcases hh with rfl | hh
        · exact hon
        · exact ihj e.on (hord.back j oj hoj e he hb) p hh hon
    have hpreI : ∀ p, pre i p → listed.getD p false = true := by
      intro p hp
      obtain ⟨oi, hoi, e, he, hb, hh⟩ := hord.step i p hp
      have : oi = o := Option.some.inj (hoi.symm.trans hoL)
      subst this
      have hon := hpre e he hb
      rcases hh with rfl | hh
      · exact hon
      · exact hclT e.on p hh hon
    -- those that conflict with i: listed just where they stand ahead of it
    have hconf : ∀ j q, ops.toList[j]? = some q → j ≠ i → (conflict Φ q o = true ∧ conflict Φ o q = true) → listed.getD j false = decide (j < i) := by
      intro j q hq hne hc
      rcases Nat.lt_or_ge j i with h | h
      · rw [decide_eq_true h]
        exact hpreI j (hord.conf j i q o h hq hoL hc.1)
      · rw [decide_eq_false (by omega)]
        cases hb : listed.getD j false with
        | false => rfl
        | true =>
          exfalso
          have := hclT j i (hord.conf i j o q (by omega) hoL hq hc.2) hb
          rw [hun] at this; cases this
    have cDst : ∀ q t, q.dst = some t → touches o t = true → conflict Φ q o = true ∧ conflict Φ o q = true := by
      intro q t h1 h2
      constructor
      · simp [conflict, h1, h2]
      · simp only [conflict, h1, h2, Bool.or_true, Bool.true_or]
    have cKind : ∀ q, kd Φ q.op = 2 → kd Φ o.op ≠ 0 → conflict Φ q o = true ∧ conflict Φ o q = true := by
      intro q h1 h2
      have hb : Nat.beq (kd Φ o.op) 0 = false := by
        cases hb : Nat.beq (kd Φ o.op) 0
        · rfl
        · exact absurd (Nat.eq_of_beq_eq_true hb) h2
      constructor <;> simp [conflict, h1, hb]
    let S : Nat → Bool := fun j => listed.getD j false
    let T : Nat → Bool := fun j => decide (j < i)
    let U : Nat → Bool := fun j => decide (j < i + 1)
    have hTi : KS ops.toList (st 0).1 R T ops.size = (st i).1 := by
      rw [KS_cut i ops.size (by omega) (fun k h1 _ => decide_eq_false (by omega))]
      exact hrun.K i (by omega) _ fun k hk => decide_eq_true hk
    have hUi : KS ops.toList (st 0).1 R U ops.size = (st (i + 1)).1 := by
      rw [KS_cut (i + 1) ops.size (by omega) (fun k h1 _ => decide_eq_false (by omega))]
      exact hrun.K (i + 1) (by omega) _ fun k hk => decide_eq_true hk
    have mTi : MS Φ ops.toList st T ops.size = (st i).2 := by
      rw [MS_cut i ops.size (by omega) (fun k h1 _ => decide_eq_false (by omega))]
      exact hrun.M i (by omega) _ fun k hk => decide_eq_true hk
    have mUi : MS Φ ops.toList st U ops.size = (st (i + 1)).2 := by
      rw [MS_cut (i + 1) ops.size (by omega) (fun k h1 _ => decide_eq_false (by omega))]
      exact hrun.M (i + 1) (by omega) _ fun k hk => decide_eq_true hk
    have hE : ∀ x ∈ o.op.operands, evX (KS ops.toList (st 0).1 R S ops.size) x = evX (st i).1 x := by
      intro x hx
      cases x with
      | tmp t =>
        simp only [evX]
        rw [← hTi]
        refine KS_get ops.size fun j q _ hq hdst => ?_
        by_cases hji : j = i
        · subst hji; show listed.getD j false = decide (j < j); rw [hun]; simp
        · have hto : touches o t = true := by
            have : memb t (tmpsOf o.op.operands.toList) = true := memb_iff.2 (mem_tmpsOf (by simpa using hx))
            simp [touches, this]
          exact hconf j q hq hji (cDst q t hdst hto)
      | const c => rfl
      | global g => rfl
      | func f => rfl
    have hS' : ∀ j, (listed.setIfInBounds i true).getD j false = if j = i then true else S j := by
      intro j
      by_cases hji : j = i
      · subst hji; simp [hil]
      · rw [if_neg hji]; exact getD_set_ne false (Ne.symm hji)
    -- the step itself
    obtain ⟨Mx, nx, hstep, hMx⟩ : ∃ Mx nx, ev1 Γ Φ (evX (KS ops.toList (st 0).1 R S ops.size)) (MS Φ ops.toList st S ops.size).1 (MS Φ ops.toList st S ops.size).2 o.op = some (R i, Mx, nx) ∧
        MS Φ ops.toList st (fun j => (listed.setIfInBounds i true).getD j false) ops.size = (Mx, nx) := by
      by_cases hk2 : kd Φ o.op = 2
      · have e1 : MS Φ ops.toList st S ops.size = (st i).2 := by
          rw [← mTi]
          refine MS_eq ops.size fun j q _ hq hkq => ?_
          by_cases hji : j = i
          · subst hji; show listed.getD j false = decide (j < j); rw [hun]; simp
          · exact hconf j q hq hji (cKind q hkq (by rw [hk2]; decide))
        refine ⟨(st (i + 1)).2.1, (st (i + 1)).2.2, ?_, ?_⟩
        · rw [ev1_congr hE, e1]; exact hev
        · show _ = (st (i + 1)).2
          rw [← mUi]
          refine MS_eq ops.size fun j q _ hq hkq => ?_
          simp only [hS']
          by_cases hji : j = i
          · subst hji; rw [if_pos rfl]; show true = decide (j < j + 1); simp
          · rw [if_neg hji]
            have := hconf j q hq hji (cKind q hkq (by rw [hk2]; decide))
            show S j = decide (j < i + 1)
            show listed.getD j false = _
            rw [this]
            exact decide_eq_decide.2 (by omega)
      · have e2 : MS Φ ops.toList st (fun j => (listed.setIfInBounds i true).getD j false) ops.size = MS Φ ops.toList st S ops.size := by
          refine MS_eq ops.size fun j q _ hq hkq => ?_
          simp only [hS']
          by_cases hji : j = i
          · subst hji
            have : q = o := Option.some.inj (hq.symm.trans hoL)
            subst this; exact absurd hkq hk2
          · rw [if_neg hji]
        refine ⟨(MS Φ ops.toList st S ops.size).1, (MS Φ ops.toList st S ops.size).2, ?_, e2⟩
        by_cases hk0 : kd Φ o.op = 0
        · rw [ev1_congr hE]; exact ev1_kd0 hk0 hev _ _
        · have e1 : MS Φ ops.toList st S ops.size = (st i).2 := by
            rw [← mTi]
            refine MS_eq ops.size fun j q _ hq hkq => ?_
            by_cases hji : j = i
            · subst hji; show listed.getD j false = decide (j < j); rw [hun]; simp
            · exact hconf j q hq hji (cKind q hkq hk0)
          obtain ⟨m1, m2⟩ := ev1_kd hk2 hev
          rw [ev1_congr hE, e1, hev, m1, m2]
    have hfr : ∀ t, (KS ops.toList (st 0).1 R (fun j => (listed.setIfInBounds i true).getD j false) ops.size).get t = (putK (KS ops.toList (st 0).1 R S ops.size) o.dst (R i)).get t := by
      intro t
      by_cases hdt : o.dst = some t
      · have hto : touches o t = true := by simp [touches, hdt]
        have e1 : (KS ops.toList (st 0).1 R (fun j => (listed.setIfInBounds i true).getD j false) ops.size).get t = (KS ops.toList (st 0).1 R U ops.size).get t := by
          refine KS_get ops.size fun j q _ hq hdst => ?_
          simp only [hS']
          by_cases hji : j = i
          · subst hji; rw [if_pos rfl]; show true = decide (j < j + 1); simp
          · rw [if_neg hji]
            have := hconf j q hq hji (cDst q t hdst hto)
            show listed.getD j false = decide (j < i + 1)
            rw [this]
            exact decide_eq_decide.2 (by omega)
        rw [e1, hUi, hK1, hdt, putK_get_eq, putK_get_eq, ← hTi, KS_has, KS_has]
      · rw [putK_get_ne hdt]
        refine KS_get ops.size fun j q _ hq hdst => ?_
        simp only [hS']
        by_cases hji : j = i
        · subst hji
          have : q = o := Option.some.inj (hq.symm.trans hoL)
          subst this; exact absurd hdst hdt
        · rw [if_neg hji]
    obtain ⟨ρ, hW, hf⟩ := hst
    have hwant : Region.wanted o (yielded ops a.tmps) = true := by simp [Region.wanted, hg]
    unfold wpOp
    rw [ho]
    show if Region.wanted o (yielded ops a.tmps) = true then _ else _
    rw [if_pos hwant]
    refine .inl (ev1_sound hΓ hΦ hf.ev hf.lt hW hstep fun ρ' w' q1 q2 q3 hw => ?_)
    refine ih (listed.setIfInBounds i true) _ w' (by simp [hsz]) ?_ ?_ ⟨ρ', ?_, ?_⟩
    · have hsub : ∀ x, (!(listed.setIfInBounds i true).getD x false) = true → (!listed.getD x false) = true := fun x hx => by
        cases hb : listed.getD x false with
        | false => rfl
        | true => rw [getD_set_true hb] at hx; cases hx
      have hi1 : (!listed.getD i false) = true := by rw [hun]; rfl
      have hi2 : (!(listed.setIfInBounds i true).getD i false) = false := by rw [hS', if_pos rfl]; rfl
      have := countP_lt (p := fun j => !listed.getD j false) (p' := fun j => !(listed.setIfInBounds i true).getD j false) (i := i) hsub hi1 hi2 (List.mem_range.2 hlt)
      omega
    · intro j q hq hj e he hb
      by_cases hji : j = i
      · subst hji
        have : q = o := Option.some.inj (hq.symm.trans ho)
        subst this
        exact getD_set_true (hpre e he hb)
      · rw [getD_set_ne false (Ne.symm hji)] at hj
        exact getD_set_true (hcl j q hq hj e he hb)
    · rw [hMx]; exact hw
    · rw [hMx]
      exact (hf.put q1 q2 q3 hd).congr hfr
end
end CI
end Go.Proofs.Yteooohmlmefbnaa
