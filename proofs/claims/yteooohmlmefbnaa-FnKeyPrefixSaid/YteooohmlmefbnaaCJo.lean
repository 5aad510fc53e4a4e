/-
  Runs of straight code over words that stay open (part 14: code and functions with slices that grow). Each step is proved sound against the model.
  Conditions: none; it proves no statement by itself.
-/
import Derived.Test.YteooohmlmefbnaaCJn
import Derived.Test.YteooohmlmefbnaaCJh
namespace Go.Proofs.Yteooohmlmefbnaa
namespace CI
open Go

/-- As the elder one, and 'pick'. -/
def ev1P (Γ : List (Nat × TRow)) (Φ : List (Nat × FnS)) (E : Operand → Option SV) (M : Mem) (n : Nat) (op : Op) : Option (SV × Mem × Nat) :=
  match op with
  | .pick c x y => match evG Γ [] Φ E M n (.pick c x y) with
    | some (v, []) => some (v, M, n)
    | _ => none
  | op => ev1 Γ Φ E M n op

def ev1Q (Γ : List (Nat × TRow)) (Ω : List (Nat × SRow)) (Φ : List (Nat × FnS)) (Ψ : List (Nat × GO)) (E : Operand → Option SV) (M : Mem) (O : OT) (n : Nat) (op : Op) : Option (SV × Mem × OT × Nat) :=
  match evN Ω Ψ E M O n op with
  | some r => r
  | none => match ev1P Γ Φ E M n op with
    | some (v, M', n') => bif keepO M M' O n then some (v, M', O, n') else none
    | none => none

def evOpsO (Γ : List (Nat × TRow)) (Ω : List (Nat × SRow)) (Φ : List (Nat × FnS)) (Ψ : List (Nat × GO)) (N : Nat) (all : List Oper) : List Oper → Tr → Mem → OT → Nat → Option (Tr × Mem × OT × Nat)
  | [], K, M, O, n => some (K, M, O, n)
  | o :: l, K, M, O, n => bif dstOk N o.dst then (match gok all K o.guard with
    | some true => (match ev1Q Γ Ω Φ Ψ (evX K) M O n o.op with
      | some (v, M', O', n') => evOpsO Γ Ω Φ Ψ N all l (putK K o.dst v) M' O' n'
      | none => none)
    | some false => evOpsO Γ Ω Φ Ψ N all l (putK K o.dst (.s (.raw undef))) M O n
    | none => none) else none

/-- A region in whatever order: the elder evaluator's. -/
def evDraw (Γ : List (Nat × TRow)) (Φ : List (Nat × FnS)) (N : Nat) (ops : List Oper) (K : Tr) (M : Mem) (n : Nat) : Option (Tr × Mem × Nat) :=
  bif ops.any (fun o => o.guard.isSome) then (match evRegG Γ [] Φ N ops true K M n with
    | some (K', M', n', []) => some (K', M', n')
    | _ => none) else evReg2 Γ Φ N ops true K M n

def evRegO (Γ : List (Nat × TRow)) (Ω : List (Nat × SRow)) (Φ : List (Nat × FnS)) (Ψ : List (Nat × GO)) (N : Nat) (ops : List Oper) (draw : Bool) (K : Tr) (M : Mem) (O : OT) (n : Nat) : Option (Tr × Mem × OT × Nat) :=
  bif draw then (match evDraw Γ Φ N ops K M n with
    | some (K', M', n') => bif keepO M M' O n then some (K', M', O, n') else none
    | none => none) else evOpsO Γ Ω Φ Ψ N ops ops K M O n

abbrev OutO := Option (Exit × Tr × Mem × OT × Nat)

def evRoundsO (f : Tr → Mem → OT → Nat → OutO) : Nat → Tr → Mem → OT → Nat → OutO
  | 0, _, _, _, _ => none
  | k + 1, K, M, O, n => match f K M O n with
    | some (.normal, K', M', O', n') => evRoundsO f k K' M' O' n'
    | r => r

def evCO (Γ : List (Nat × TRow)) (Ω : List (Nat × SRow)) (Φ : List (Nat × FnS)) (Ψ : List (Nat × GO)) (N fuel : Nat) : Code → Tr → Mem → OT → Nat → OutO
  | .skip, K, M, O, n => some (.normal, K, M, O, n)
  | .region _ ops draw, K, M, O, n => match evRegO Γ Ω Φ Ψ N ops.toList draw K M O n with
    | some (K', M', O', n') => some (.normal, K', M', O', n')
    | none => none
  | .seq x y, K, M, O, n => match evCO Γ Ω Φ Ψ N fuel x K M O n with
    | some (.normal, K', M', O', n') => evCO Γ Ω Φ Ψ N fuel y K' M' O' n'
    | r => r
  | .cond c x y, K, M, O, n => match evX K c with
    | some (.s (.bool t)) => bif t then evCO Γ Ω Φ Ψ N fuel x K M O n else evCO Γ Ω Φ Ψ N fuel y K M O n
    | _ => none
  | .block id x, K, M, O, n => match evCO Γ Ω Φ Ψ N fuel x K M O n with
    | some (.exit id', K', M', O', n') => bif Nat.beq id' id then some (.normal, K', M', O', n') else some (.exit id', K', M', O', n')
    | r => r
  | .loop x, K, M, O, n => evRoundsO (evCO Γ Ω Φ Ψ N fuel x) fuel K M O n
  | .exit id, K, M, O, n => some (.exit id, K, M, O, n)
  | .ret, K, M, O, n => some (.ret, K, M, O, n)
  | _, _, _, _, _ => none

def keepId (n : Nat) (v : SV) (k : Nat) : Bool := Nat.blt k n || (match v with
  | .s (.own id _) => Nat.beq k id
  | .s (.slc id _ _ _) => Nat.beq k id
  | _ => false)

def filt {α : Type} (p : Nat → Bool) : List (Nat × α) → List (Nat × α)
  | [] => []
  | (k, r) :: M => bif p k then (k, r) :: filt p M else filt p M

def evFunO (Γ : List (Nat × TRow)) (Ω : List (Nat × SRow)) (Φ : List (Nat × FnS)) (Ψ : List (Nat × GO)) (fuel : Nat) (fi : FnI) (args : List SV) (M : Mem) (O : OT) (n : Nat) : Option (SV × Mem × OT × Nat) :=
  bif Nat.ble args.length fi.ntmps then (match evCO Γ Ω Φ Ψ fi.ntmps fuel fi.code (initK (Tr.mk 10) args 0) M O n with
    | some (e, K', M', O', n') => bif isEnd e then (match evRes Γ K' M' fi.res with
      | some v => some (v, filt (keepId n v) M', filt (keepId n v) O', n')
      | none => none) else none
    | none => none) else none

section
variable {P : Program} {Γ : List (Nat × TRow)} {Ω : List (Nat × SRow)} {Φ : List (Nat × FnS)} {Ψ : List (Nat × GO)} {C : Ctx} {N fuel : Nat}

theorem lk_filt {α : Type} {p : Nat → Bool} {id : Nat} : ∀ (l : List (Nat × α)), lk (filt p l) id = if p id = true then lk l id else none
  | [] => by simp [filt, lk]
  | (k, r) :: M => by
    simp only [filt]
    cases hb : p k
    · simp only [cond_false, lk_filt M, lk_cons]
      by_cases e : k = id
      · subst e; simp [hb]
      · simp [e]
    · simp only [cond_true, lk_cons, lk_filt M]
      by_cases e : k = id
      · subst e; simp [hb]
      · simp [e]

theorem ev1P_sound (hΓ : ∀ t r, lk Γ t = some r → TOK P t r) (hΦ : PhiOK P Φ) {ρ : Env} {M M' : Mem} {n n' : Nat} {w : World} {a : Act} {E : Operand → Option SV} {v : SV} (hE : ∀ x v, E x = some v → a.eval x = v.val ρ) (hl : ∀ x v, E x = some v → v.lt n) (hW : WR C ρ M n w) {o : Oper} (h : ev1P Γ Φ E M n o.op = some (v, M', n'))
    {next : Act → World → Prop} {Q : Exit → Act → World → Prop} (hk : ∀ ρ' w', (∀ i, i < n → ρ' i = ρ i) → n ≤ n' → v.lt n' → WR C ρ' M' n' w' → next (a.put o.dst (v.val ρ')) w') : o.wp P a w next Q := by
  unfold ev1P at h
  split at h
  · rename_i c x y hop
    split at h
    · rename_i u hu
      simp only [Option.some.injEq, Prod.mk.injEq] at h
      obtain ⟨rfl, rfl, rfl⟩ := h
      rw [← hop] at hu
      exact evG_sound (Δ := []) hΓ (fun t k h => by cases h) hΦ hE hl hW hu (fun b hb => by cases hb) fun ρ' w' q1 q3 hw => hk ρ' w' q1 (Nat.le_refl _) q3 hw
    · cases h
  · exact ev1_sound hΓ hΦ hE hl hW h hk

theorem ev1Q_sound (hΓ : ∀ t r, lk Γ t = some r → TOK P t r) (hΩ : ∀ t r, lk Ω t = some r → SRowOK P t r) (hΦ : PhiOK P Φ) (hΨ : PhiOKO P Ψ) {ρ : Env} {M M' : Mem} {O O' : OT} {n n' : Nat} {w : World} {a : Act} {E : Operand → Option SV} {v : SV}
    (hE : ∀ x v, E x = some v → a.eval x = v.val ρ) (hl : ∀ x v, E x = some v → v.lt n) (hW : WR C ρ M n w) (hO : OwnOK C ρ M O n w) {o : Oper} (h : ev1Q Γ Ω Φ Ψ E M O n o.op = some (v, M', O', n')) {next : Act → World → Prop} {Q : Exit → Act → World → Prop}
    (hk : ∀ ρ' w', (∀ i, i < n → ρ' i = ρ i) → n ≤ n' → v.lt n' → WR C ρ' M' n' w' → OwnOK C ρ' M' O' n' w' → next (a.put o.dst (v.val ρ')) w') : o.wp P a w next Q := by
  unfold ev1Q at h
  split at h
  · rename_i r hr
    subst h
    exact evN_sound hΩ hΨ hE hl hW hO hr hk
  · split at h
    · rename_i v1 M1 n1 h1
      cases hb : keepO M M1 O n <;> simp only [hb, cond_false, cond_true, reduceCtorEq, Option.some.injEq, Prod.mk.injEq] at h
      obtain ⟨rfl, rfl, rfl, rfl⟩ := h
      refine ev1P_sound hΓ hΦ hE hl (hO.inner hW) h1 fun ρ' w' q1 q2 q3 hw => ?_
      obtain ⟨g1, g2⟩ := hO.outer hW hb hw
      exact hk ρ' w' q1 q2 q3 g1 g2
    · cases h

theorem gok_sound {ρ : Env} {K : Tr} {n : Nat} {a : Act} {ops : Array Oper} {o : Oper} (hf : FitA ρ K.get n N a) {c : Bool} (hc : gok ops.toList K o.guard = some c) : Region.wanted o (yielded ops a.tmps) = c := by
  unfold gok at hc
  unfold Region.wanted
  cases hg : o.guard with
  | none => rw [hg] at hc; cases hc; rfl
  | some gb =>
    obtain ⟨g, b⟩ := gb
    rw [hg] at hc
    simp only at hc ⊢
    split at hc
    · rename_i y hy
      simp only [Option.some.injEq] at hc
      unfold gval at hy
      split at hy
      · rename_i p hp
        rw [nth_eq] at hp
        split at hy
        · rename_i d hdd
          split at hy
          · rename_i b' hb'
            cases hy
            have hv := (hf.fit d _ hb').2
            have hpa : ops[g]? = some p := by rw [← Array.getElem?_toList]; exact hp
            have : yielded ops a.tmps g = some y := by
              unfold yielded
              rw [hpa]
              simp [hdd, hv, SV.val, SW.val]
            rw [this, ← hc]
            cases b <;> cases y <;> rfl
          · cases hy
        · cases hy
      · cases hy
    · cases hc

theorem evOpsO_sound (hΓ : ∀ t r, lk Γ t = some r → TOK P t r) (hΩ : ∀ t r, lk Ω t = some r → SRowOK P t r) (hΦ : PhiOK P Φ) (hΨ : PhiOKO P Ψ) {ops : Array Oper} {Q : Exit → Act → World → Prop} : ∀ (l : List Oper) (K : Tr) (M : Mem) (O : OT) (n : Nat) (K' : Tr) (M' : Mem) (O' : OT) (n' : Nat),
    evOpsO Γ Ω Φ Ψ N ops.toList l K M O n = some (K', M', O', n') → ∀ a w, StO C N K.get M O n a w → (∀ a' w', StO C N K'.get M' O' n' a' w' → Q .normal a' w') → wpList P ops Q l a w
  | [], K, M, O, n, K', M', O', n', h, a, w, hs, hk => by
    simp only [evOpsO, Option.some.injEq, Prod.mk.injEq] at h
    obtain ⟨rfl, rfl, rfl, rfl⟩ := h
    exact hk a w hs
  | o :: l, K, M, O, n, K', M', O', n', h, a, w, hs, hk => by
    simp only [evOpsO] at h
    cases hd : dstOk N o.dst <;> simp only [hd, cond_false, cond_true, reduceCtorEq] at h
    obtain ⟨ρ, hW, hO, hf⟩ := hs
    refine wpList_step fun K2 hK2 => ?_
    split at h
    · rename_i hgo
      rw [gok_sound hf hgo, if_pos rfl]
      split at h
      · rename_i v M1 O1 n1 h1
        refine ev1Q_sound hΓ hΩ hΦ hΨ hf.ev hf.lt hW hO h1 fun ρ' w' q1 q2 q3 hw hw2 => hK2 _ _ ?_
        exact evOpsO_sound hΓ hΩ hΦ hΨ l _ _ _ _ _ _ _ _ h _ _ ⟨ρ', hw, hw2, hf.put q1 q2 q3 hd⟩ hk
      · cases h
    · rename_i hgo
      rw [gok_sound hf hgo, if_neg (by simp)]
      have := hf.put (ρ' := ρ) (n' := n) (v := .s (.raw undef)) (fun _ _ => rfl) (Nat.le_refl _) trivial hd
      exact hK2 _ _ (evOpsO_sound hΓ hΩ hΦ hΨ l _ _ _ _ _ _ _ _ h _ _ ⟨ρ, hW, hO, this⟩ hk)
    · cases h

theorem evDraw_sound (hΓ : ∀ t r, lk Γ t = some r → TOK P t r) (hΦ : PhiOK P Φ) (hm : P.follows .mixedOrders = true) {id : Nat} {ops : Array Oper} {K K' : Tr} {M M' : Mem} {n n' : Nat}
    (h : evDraw Γ Φ N ops.toList K M n = some (K', M', n')) {Q : Exit → Act → World → Prop} {a : Act} {w : World} (hs : St C N K.get M n a w) (hk : ∀ a' w', St C N K'.get M' n' a' w' → Q .normal a' w') :
    (Code.region id ops true).wp P Q a w := by
  unfold evDraw at h
  cases hb : ops.toList.any (fun o => o.guard.isSome) <;> simp only [hb, cond_false, cond_true] at h
  · exact evReg2_sound hΓ hΦ hm h hs hk
  · split at h
    · rename_i K1 M1 n1 h1
      simp only [Option.some.injEq, Prod.mk.injEq] at h
      obtain ⟨rfl, rfl, rfl⟩ := h
      exact evRegG_sound hΓ (fun t k h => by cases h) hΦ hm h1 (fun b hb => by cases hb) hs hk
    · cases h

theorem evRegO_sound (hΓ : ∀ t r, lk Γ t = some r → TOK P t r) (hΩ : ∀ t r, lk Ω t = some r → SRowOK P t r) (hΦ : PhiOK P Φ) (hΨ : PhiOKO P Ψ) (hm : P.follows .mixedOrders = true) {id : Nat} {ops : Array Oper} {draw : Bool} {K K' : Tr} {M M' : Mem} {O O' : OT} {n n' : Nat}
    (h : evRegO Γ Ω Φ Ψ N ops.toList draw K M O n = some (K', M', O', n')) {Q : Exit → Act → World → Prop} {a : Act} {w : World} (hs : StO C N K.get M O n a w) (hk : ∀ a' w', StO C N K'.get M' O' n' a' w' → Q .normal a' w') :
    (Code.region id ops draw).wp P Q a w := by
  cases draw with
  | false =>
    simp only [evRegO, cond_false] at h
    exact wp_region_list (evOpsO_sound hΓ hΩ hΦ hΨ _ _ _ _ _ _ _ _ _ h _ _ hs hk)
  | true =>
    simp only [evRegO, cond_true] at h
    split at h
    · rename_i K1 M1 n1 h1
      cases hb : keepO M M1 O n <;> simp only [hb, cond_false, cond_true, reduceCtorEq, Option.some.injEq, Prod.mk.injEq] at h
      obtain ⟨rfl, rfl, rfl, rfl⟩ := h
      obtain ⟨ρ, hW, hO, hf⟩ := hs
      refine evDraw_sound (C := CI.inner C ρ O n w) hΓ hΦ hm h1 ⟨ρ, hO.inner hW, hf⟩ fun a' w' ⟨ρ', hw, hf'⟩ => hk a' w' ?_
      obtain ⟨g1, g2⟩ := hO.outer hW hb hw
      exact ⟨ρ', g1, g2, hf'⟩
    · cases h

theorem evRoundsO_sound {c : Code} {f : Tr → Mem → OT → Nat → OutO}
    (hf : ∀ {K M O n e K' M' O' n'}, f K M O n = some (e, K', M', O', n') → ∀ {Q : Exit → Act → World → Prop} {a w}, StO C N K.get M O n a w → (∀ a' w', StO C N K'.get M' O' n' a' w' → Q e a' w') → c.wp P Q a w) :
    ∀ (k : Nat) {K M O n e K' M' O' n'}, evRoundsO f k K M O n = some (e, K', M', O', n') → ∀ {Q : Exit → Act → World → Prop} {a w}, StO C N K.get M O n a w → (∀ a' w', StO C N K'.get M' O' n' a' w' → Q e a' w') → Code.rounds P c Q k a w
  | 0, _, _, _, _, _, _, _, _, _, h, _, _, _, _, _ => by cases h
  | k + 1, K, M, O, n, e, K', M', O', n', h, Q, a, w, hs, hk => by
    simp only [evRoundsO] at h
    split at h
    · rename_i K1 M1 O1 n1 h1
      exact hf h1 hs fun a' w' hs' => evRoundsO_sound hf k h hs' hk
    · rename_i hne
      refine hf h hs fun a' w' hs' => ?_
      have := hk a' w' hs'
      cases e with
      | normal => exact absurd h (hne _ _ _ _)
      | _ => exact this

theorem evCO_sound (hΓ : ∀ t r, lk Γ t = some r → TOK P t r) (hΩ : ∀ t r, lk Ω t = some r → SRowOK P t r) (hΦ : PhiOK P Φ) (hΨ : PhiOKO P Ψ) (hm : P.follows .mixedOrders = true) : ∀ (c : Code) {K M O n e K' M' O' n'}, evCO Γ Ω Φ Ψ N fuel c K M O n = some (e, K', M', O', n') →
    ∀ {Q : Exit → Act → World → Prop} {a w}, StO C N K.get M O n a w → (∀ a' w', StO C N K'.get M' O' n' a' w' → Q e a' w') → c.wp P Q a w := by
  intro c
  induction c with
  | skip =>
    intro K M O n e K' M' O' n' h Q a w hs hk
    simp only [evCO, Option.some.injEq, Prod.mk.injEq] at h
    obtain ⟨rfl, rfl, rfl, rfl, rfl⟩ := h
    exact wp_skip (hk _ _ hs)
  | region id ops draw =>
    intro K M O n e K' M' O' n' h Q a w hs hk
    simp only [evCO] at h
    split at h
    · rename_i K1 M1 O1 n1 h1
      simp only [Option.some.injEq, Prod.mk.injEq] at h
      obtain ⟨rfl, rfl, rfl, rfl, rfl⟩ := h
      exact evRegO_sound hΓ hΩ hΦ hΨ hm h1 hs hk
    · cases h
  | seq x y ihx ihy =>
    intro K M O n e K' M' O' n' h Q a w hs hk
    simp only [evCO] at h
    split at h
    · rename_i K1 M1 O1 n1 h1
      exact wp_seq (ihx h1 hs fun a' w' hs' => ihy h hs' hk)
    · rename_i hne
      refine wp_seq (ihx h hs fun a' w' hs' => ?_)
      have := hk a' w' hs'
      cases e with
      | normal => exact absurd h (hne _ _ _ _)
      | _ => exact this
  | cond c x y ihx ihy =>
    intro K M O n e K' M' O' n' h Q a w hs hk
    simp only [evCO] at h
    split at h
    · rename_i t ht
      have he : a.eval c = .bool t := by
        obtain ⟨ρ, hW, hO, hf⟩ := hs
        exact hf.ev _ _ ht
      cases t with
      | true => exact wp_cond_true he (ihx h hs hk)
      | false => exact wp_cond_false he (ihy h hs hk)
    · cases h
  | block id x ih =>
    intro K M O n e K' M' O' n' h Q a w hs hk
    simp only [evCO] at h
    split at h
    · rename_i id' K1 M1 O1 n1 h1
      refine wp_block (ih h1 hs fun a' w' hs' => ?_)
      cases hb : Nat.beq id' id <;> simp only [hb, cond_false, cond_true, Option.some.injEq, Prod.mk.injEq] at h <;> obtain ⟨rfl, rfl, rfl, rfl, rfl⟩ := h
      · simp only [Exit.inBlock, if_neg (Nat.ne_of_beq_eq_false hb)]
        exact hk _ _ hs'
      · simp only [Exit.inBlock, if_pos (Nat.eq_of_beq_eq_true hb)]
        exact hk _ _ hs'
    · rename_i hne
      refine wp_block (ih h hs fun a' w' hs' => ?_)
      have := hk a' w' hs'
      cases e with
      | exit id' => exact absurd h (hne _ _ _ _ _)
      | _ => exact this
  | loop x ih =>
    intro K M O n e K' M' O' n' h Q a w hs hk
    simp only [evCO] at h
    exact wp_loop_rounds fuel (evRoundsO_sound (fun h => ih h) fuel h hs hk)
  | exit id =>
    intro K M O n e K' M' O' n' h Q a w hs hk
    simp only [evCO, Option.some.injEq, Prod.mk.injEq] at h
    obtain ⟨rfl, rfl, rfl, rfl, rfl⟩ := h
    exact wp_exit (hk _ _ hs)
  | ret =>
    intro K M O n e K' M' O' n' h Q a w hs hk
    simp only [evCO, Option.some.injEq, Prod.mk.injEq] at h
    obtain ⟨rfl, rfl, rfl, rfl, rfl⟩ := h
    exact wp_ret (hk _ _ hs)
  | _ => intro K M O n e K' M' O' n' h; simp [evCO] at h

theorem WR.filt {ρ : Env} {M : Mem} {n : Nat} {w : World} (p : Nat → Bool) (h : WR C ρ M n w) : WR C ρ (CI.filt p M) n w :=
  h.low fun id r hr => by
    rw [lk_filt] at hr
    split at hr
    · exact hr
    · cases hr

theorem OwnOK.filt {ρ : Env} {M : Mem} {O : OT} {n : Nat} {w : World} (p : Nat → Bool) (h : OwnOK C ρ M O n w) : OwnOK C ρ (CI.filt p M) (CI.filt p O) n w := by
  refine ⟨fun id e hid => ?_, fun id e id' r' hid hr hne => ?_⟩
  · rw [lk_filt] at hid
    split at hid
    · rename_i hp
      obtain ⟨h1, h2, h3, h4, h5, r, h6, h7⟩ := h.at_ id e hid
      exact ⟨h1, h2, h3, h4, h5, r, by rw [lk_filt, if_pos hp]; exact h6, h7⟩
    · cases hid
  · rw [lk_filt] at hid hr
    split at hid
    · split at hr
      · exact h.apart id e id' r' hid hr hne
      · cases hr
    · cases hid

theorem evFunO_sound (hΓ : ∀ t r, lk Γ t = some r → TOK P t r) (hΩ : ∀ t r, lk Ω t = some r → SRowOK P t r) (hΦ : PhiOK P Φ) (hΨ : PhiOKO P Ψ) (hm : P.follows .mixedOrders = true) {f : FuncId} {fi : FnI} (hfn : FnAt P f fi) {args : List SV} {M M' : Mem} {O O' : OT} {n n' : Nat} {v : SV}
    (h : evFunO Γ Ω Φ Ψ fuel fi args M O n = some (v, M', O', n')) (hargs : ∀ x ∈ args, x.lt n) {ρ : Env} {w : World} (hW : WR C ρ M n w) (hO : OwnOK C ρ M O n w) :
    Calls P f (vals ρ args) w fun e w' => ∃ ρ', v.lt n' ∧ e = .returned (v.val ρ') ∧ WR C ρ' M' n' w' ∧ OwnOK C ρ' M' O' n' w' := by
  obtain ⟨fn, h1, h2, h3, h4, h5⟩ := hfn.ok
  unfold evFunO at h
  cases hb : Nat.ble args.length fi.ntmps <;> simp only [hb, cond_false, cond_true, reduceCtorEq] at h
  split at h
  · rename_i e K1 M1 O1 n1 hc
    cases he : isEnd e <;> simp only [he, cond_false, cond_true, reduceCtorEq] at h
    split at h
    · rename_i u hu
      simp only [Option.some.injEq, Prod.mk.injEq] at h
      obtain ⟨rfl, rfl, rfl, rfl⟩ := h
      have hle := Nat.le_of_ble_eq_true hb
      have hsz : (vals ρ args).size = args.length := by simp [vals]
      refine calls_of_wp h1 h2 (evCO_sound hΓ hΩ hΦ hΨ hm fi.code hc (C := C) ⟨ρ, hW, hO, ⟨fun t x hx => ?_, ?_, rfl⟩⟩ fun a' w' hs => ?_)
      · rcases initK_get _ _ _ _ _ hx with ⟨_, hx⟩ | hx
        · rw [Nat.sub_zero] at hx
          refine ⟨hargs _ (List.mem_of_getElem? hx), ?_⟩
          have hlt : t < args.length := (List.getElem?_eq_some_iff.1 hx).1
          simp only
          rw [Array.getElem?_append_left (by omega)]
          simp [vals, hx]
        · rw [Tr.get_mk] at hx; cases hx
      · simp only [Array.size_append, hsz, Array.size_replicate, h3]; omega
      · obtain ⟨ρ', hW', hO', hf'⟩ := hs
        rw [← h4] at hu
        obtain ⟨r1, r2⟩ := evRes_sound hΓ hW' hf' hu
        have hfin : a'.defers = [] ∧ ∃ v, (results fn a'.tmps).run P w' = .ok v w' ∧ (fun (e : Ending) w' => ∃ ρ', u.lt n1 ∧ e = .returned (u.val ρ') ∧ WR C ρ' (CI.filt (keepId n u) M1) n1 w' ∧ OwnOK C ρ' (CI.filt (keepId n u) M1) (CI.filt (keepId n u) O1) n1 w') (.returned v) w' :=
          ⟨hf'.defs, u.val ρ', r1, ρ', r2, rfl, hW'.filt _, hO'.filt _⟩
        cases e <;> first | exact hfin | cases he
    · cases h
  · cases h

theorem fnOKO (hΓ : ∀ t r, lk Γ t = some r → TOK P t r) (hΩ : ∀ t r, lk Ω t = some r → SRowOK P t r) (hΦ : PhiOK P Φ) (hΨ : PhiOKO P Ψ) (hm : P.follows .mixedOrders = true) {f : FuncId} {fi : FnI} (hfn : FnAt P f fi) : FnOKO P f (evFunO Γ Ω Φ Ψ fuel fi) := by
  intro args M O n v M' O' n' h hargs C ρ w hW hO
  let C2 : Ctx := ⟨C.may, C.B, ρ, n, w⟩
  have hW2 : WR C2 ρ M n w := ⟨fun _ _ => rfl, Nat.le_refl _, hW.rel, Fr.refl _ _, hW.base, hW.own⟩
  have hO2 : OwnOK C2 ρ M O n w := ⟨hO.at_, hO.apart⟩
  refine (evFunO_sound hΓ hΩ hΦ hΨ hm hfn h hargs hW2 hO2).mono fun e w' ⟨ρ', h1, h2, h3, h4⟩ => ?_
  exact ⟨ρ', fun i hi => h3.env i hi, h3.n0, h1, h2, ⟨fun i hi => (h3.env i (Nat.lt_of_lt_of_le hi hW.n0)).trans (hW.env i hi), Nat.le_trans hW.n0 h3.n0, h3.rel, hW.fr.trans h3.fr, h3.base, h3.own⟩, ⟨h4.at_, h4.apart⟩⟩

theorem FnOKO.mono {f : FuncId} {g g' : GO} (h : FnOKO P f g) (hg : ∀ a M O n v, g' a M O n = some v → g a M O n = some v) : FnOKO P f g' := fun a M O n v M' O' n' hv => h a M O n v M' O' n' (hg a M O n _ hv)
end
end CI
end Go.Proofs.Yteooohmlmefbnaa
