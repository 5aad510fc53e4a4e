/-
  Runs of straight code over words that stay open (part 8: regions with guards in whatever order; functions made of them). Each step is proved sound against the model.
  Conditions: none; it proves no statement by itself.
-/
import Derived.Test.YteooohmlmefbnaaCJg
namespace Go.Proofs.Yteooohmlmefbnaa
namespace CI
open Go

section
variable {P : Program} {Γ : List (Nat × TRow)} {Δ : Kinds} {Φ : List (Nat × FnS)} {C : Ctx} {N : Nat}

theorem evOpsG_states {all : List Oper} {M : Mem} {n : Nat} : ∀ (l : List Oper) (K K' : Tr) (obs : List Ob), evOpsG Γ Δ Φ N all l K M n = some (K', obs) →
    ∃ (st : Nat → Tr) (R : Nat → SV), st 0 = K ∧ st l.length = K' ∧ ∀ i o, l[i]? = some o → ∃ bs, (∀ b ∈ bs, b ∈ obs) ∧ stepG Γ Δ Φ N all (st i) M n o = some (R i, bs) ∧ st (i + 1) = putK (st i) o.dst (R i)
  | [], K, K', obs, h => by
    simp only [evOpsG, Option.some.injEq, Prod.mk.injEq] at h
    exact ⟨fun _ => K, fun _ => .unit, rfl, h.1, fun i o hi => by simp at hi⟩
  | o :: l, K, K', obs, h => by
    simp only [evOpsG] at h
    split at h
    · rename_i v b h1
      split at h
      · rename_i K1 bs h2
        simp only [Option.some.injEq, Prod.mk.injEq] at h
        obtain ⟨rfl, rfl⟩ := h
        obtain ⟨st, R, e0, e1, e2⟩ := evOpsG_states l _ _ _ h2
        refine ⟨fun i => match i with | 0 => K | i + 1 => st i, fun i => match i with | 0 => v | i + 1 => R i, rfl, e1, fun i o' hi => ?_⟩
        cases i with
        | zero =>
          simp only [List.getElem?_cons_zero, Option.some.injEq] at hi
          subst hi
          refine ⟨b, fun x hx => List.mem_append_left _ hx, h1, ?_⟩
          exact e0
        | succ i =>
          simp only [List.getElem?_cons_succ] at hi
          obtain ⟨bs', q1, q2, q3⟩ := e2 i o' hi
          exact ⟨bs', fun x hx => List.mem_append_right _ (q1 x hx), q2, q3⟩
      · cases h
    · cases h

theorem evBase_congr {E E' : Operand → Option SV} {M : Mem} {n : Nat} {op : Op} (h : ∀ x ∈ op.operands, E x = E' x) : evBase Γ Φ E M n op = evBase Γ Φ E' M n op := by
  unfold evBase
  rw [ev1_congr h]

theorem evG_congr {E E' : Operand → Option SV} {M : Mem} {n : Nat} {op : Op} (h : ∀ x ∈ op.operands, E x = E' x) : evG Γ Δ Φ E M n op = evG Γ Δ Φ E' M n op := by
  have hb := evBase_congr (Γ := Γ) (Φ := Φ) (M := M) (n := n) h
  cases op
  case binOp o t x y yt =>
    simp only [Op.operands] at h
    have hx := h x (by simp)
    have hy := h y (by simp)
    simp only [evG, hx, hy, hb]
  case pick c x y =>
    simp only [Op.operands] at h
    have hc := h c (by simp)
    have hx := h x (by simp)
    have hy := h y (by simp)
    simp only [evG, hx, hy, hc]
  case build t parts =>
    simp only [evG, hb]
    cases e : parts.toList with
    | nil => rfl
    | cons p l =>
      obtain ⟨i, x⟩ := p
      cases l with
      | nil =>
        have hx := h x (by simp [Op.operands, e])
        simp only [hx]
      | cons _ _ => rfl
  all_goals exact hb

theorem build_ops (l : List Operand) : (Op.build 0 ((l.map fun x => ((0 : Nat), x)).toArray)).operands.toList = l := by
  simp [Op.operands, Function.comp_def]

theorem proxy_touch {ops : List Oper} {o : Oper} {t : Tmp} (h : .tmp t ∈ o.op.operands.toList) : touches (proxy ops o) t = true := by
  have : memb t (tmpsOf (proxy ops o).op.operands.toList) = true := memb_iff.2 (mem_tmpsOf (by
    simp only [proxy, build_ops]
    exact List.mem_append_left _ h))
  simp [touches, this]

theorem proxy_guard {ops : List Oper} {o p : Oper} {g : Nat} {b : Bool} {d : Tmp} (hg : o.guard = some (g, b)) (hp : ops[g]? = some p) (hd : p.dst = some d) : touches (proxy ops o) d = true := by
  have : memb d (tmpsOf (proxy ops o).op.operands.toList) = true := memb_iff.2 (mem_tmpsOf (by
    simp only [proxy, build_ops, hg, nth_eq, hp, hd]
    exact List.mem_append_right _ (by simp)))
  simp [touches, this]

theorem proxy_dst {ops : List Oper} {o : Oper} {t : Tmp} (h : o.dst = some t) : touches (proxy ops o) t = true := by
  simp [touches, proxy, h]

/-- WHATEVER ORDER THE TAPE PICKS, of a region with guards whose operations only read. -/
theorem wpAny_of_runG (hΓ : ∀ t r, lk Γ t = some r → TOK P t r) (hΔ : ∀ t k, lk Δ t = some k → KindOK P t k) (hΦ : PhiOK P Φ) {ops : Array Oper} {M : Mem} {n : Nat} {st : Nat → Tr} {R : Nat → SV}
    (hrun : ∀ i o, ops.toList[i]? = some o → ∃ bs, (∀ b ∈ bs, ObOK b) ∧ stepG Γ Δ Φ N ops.toList (st i) M n o = some (R i, bs) ∧ st (i + 1) = putK (st i) o.dst (R i))
    {pre : Nat → Nat → Prop} (hord : Ord Φ (ops.toList.map (proxy ops.toList)) pre)
    {Q : Exit → Act → World → Prop} (hk : ∀ a' w', St C N (st ops.size).get M n a' w' → Q .normal a' w') :
    ∀ (fuel : Nat) (listed : Array Bool) (a : Act) (w : World), listed.size = ops.size → (List.range ops.size).countP (fun j => !listed.getD j false) ≤ fuel →
      (∀ j o, ops[j]? = some o → listed.getD j false = true → ∀ e ∈ o.after, Region.binds .any e = true → listed.getD e.on false = true) →
      St C N (KS ops.toList (st 0) R (fun j => listed.getD j false) ops.size).get M n a w →
      wpAny P .any ops Q fuel listed a w := by
  have hlen : ops.toList.length = ops.size := Array.length_toList
  have hget : ∀ j : Nat, ops.toList[j]? = ops[j]? := fun j => Array.getElem?_toList
  have hpx : ∀ j o, ops.toList[j]? = some o → (ops.toList.map (proxy ops.toList))[j]? = some (proxy ops.toList o) := fun j o h => by rw [List.getElem?_map, h]; rfl
  have hpx' : ∀ j p, (ops.toList.map (proxy ops.toList))[j]? = some p → ∃ o, ops.toList[j]? = some o ∧ p = proxy ops.toList o := fun j p h => by
    rw [List.getElem?_map] at h
    cases e : ops.toList[j]? with
    | none => rw [e] at h; cases h
    | some o => rw [e] at h; exact ⟨o, e, (Option.some.inj h).symm⟩
  have hafter : ∀ o, (proxy ops.toList o).after = o.after := fun _ => rfl
  have runK : ∀ j, j ≤ ops.size → ∀ S : Nat → Bool, (∀ i, i < j → S i = true) → KS ops.toList (st 0) R S j = st j := by
    intro j
    induction j with
    | zero => intro _ _ _; rfl
    | succ j ih =>
      intro hj S hS
      have hjl : j < ops.toList.length := by omega
      have ho : ops.toList[j]? = some ops.toList[j] := List.getElem?_eq_getElem hjl
      simp only [KS, ho, hS j (Nat.lt_succ_self _), cond_true, ih (by omega) S (fun i hi => hS i (by omega))]
      obtain ⟨_, _, _, h3⟩ := hrun j _ ho
      exact h3.symm
  intro fuel
  have fin : ∀ (listed : Array Bool) (a : Act) (w : World), (∀ j, j < ops.size → listed.getD j false = true) →
      St C N (KS ops.toList (st 0) R (fun j => listed.getD j false) ops.size).get M n a w → Q .normal a w := by
    intro listed a w hall hst
    rw [runK ops.size (Nat.le_refl _) _ hall] at hst
    exact hk a w hst
  have allOf : ∀ (listed : Array Bool), listed.size = ops.size → Region.ready .any ops listed = [] → ∀ j, j < ops.size → listed.getD j false = true := by
    intro listed hsz hr j
    induction j using Nat.strongRecOn with
    | _ j ih =>
      intro hj
      cases hb : listed.getD j false with
      | true => rfl
      | false =>
        exfalso
        have ho : ops[j]? = some ops[j] := Array.getElem?_eq_getElem hj
        have : j ∈ Region.ready .any ops listed := mem_ready.2 ⟨by
            have hjl : j < listed.size := by omega
            simp [hjl] at hb ⊢; exact hb, ops[j], ho, fun e he hbd => by
            have hlt := hord.back j _ (hpx j _ (by rw [hget]; exact ho)) e he hbd
            exact ih e.on hlt (by omega)⟩
        rw [hr] at this
        cases this
  induction fuel with
  | zero =>
    intro listed a w hsz hcnt hcl hst
    have hz : (List.range ops.size).countP (fun j => !listed.getD j false) = 0 := Nat.le_zero.1 hcnt
    have hall : ∀ j, j < ops.size → listed.getD j false = true := fun j hj => by
      have := List.countP_eq_zero.1 hz j (List.mem_range.2 hj)
      simpa using this
    refine ⟨?_, fin listed a w hall hst⟩
    cases hr : Region.ready .any ops listed with
    | nil => rfl
    | cons i l =>
      exfalso
      have hi : i ∈ Region.ready .any ops listed := by rw [hr]; exact List.mem_cons_self
      obtain ⟨h0, o, ho, _⟩ := mem_ready.1 hi
      have hlt : i < ops.size := (Array.getElem?_eq_some_iff.1 ho).1
      have := hall i hlt
      have hil : i < listed.size := by omega
      simp [hil] at this h0
      rw [this] at h0; cases h0
  | succ fuel ih =>
    intro listed a w hsz hcnt hcl hst
    refine ⟨fun hr => fin listed a w (allOf listed hsz hr) hst, fun i hi => ?_⟩
    obtain ⟨h0, o, ho, hpre⟩ := mem_ready.1 hi
    have hlt : i < ops.size := (Array.getElem?_eq_some_iff.1 ho).1
    have hil : i < listed.size := by omega
    have hun : listed.getD i false = false := by simp [hil] at h0 ⊢; exact h0
    have hoL : ops.toList[i]? = some o := by rw [hget]; exact ho
    obtain ⟨bs, hbs, hev, hK1⟩ := hrun i o hoL
    have hclT : ∀ j p, pre j p → listed.getD j false = true → listed.getD p false = true := by
      intro j
      induction j using Nat.strongRecOn with
      | _ j ihj =>
        intro p hp hj
        obtain ⟨oj', hoj', e, he, hb, hh⟩ := hord.step j p hp
        obtain ⟨oj, hoj, rfl⟩ := hpx' j oj' hoj'
        have hon := hcl j oj (by rw [← hget]; exact hoj) hj e he hb
        rcases hh with rfl | hh
        · exact hon
        · exact ihj e.on (hord.back j _ hoj' e he hb) p hh hon
    have hpreI : ∀ p, pre i p → listed.getD p false = true := by
      intro p hp
      obtain ⟨oi', hoi', e, he, hb, hh⟩ := hord.step i p hp
      obtain ⟨oi, hoi, rfl⟩ := hpx' i oi' hoi'
      have : oi = o := Option.some.inj (hoi.symm.trans hoL)
      subst this
      have hon := hpre e he hb
      rcases hh with rfl | hh
      · exact hon
      · exact hclT e.on p hh hon
    have hconf : ∀ j q, ops.toList[j]? = some q → j ≠ i → (conflict Φ (proxy ops.toList q) (proxy ops.toList o) = true ∧ conflict Φ (proxy ops.toList o) (proxy ops.toList q) = true) → listed.getD j false = decide (j < i) := by
      intro j q hq hne hc
      rcases Nat.lt_or_ge j i with h | h
      · rw [decide_eq_true h]
        exact hpreI j (hord.conf j i _ _ h (hpx j q hq) (hpx i o hoL) hc.1)
      · rw [decide_eq_false (by omega)]
        cases hb : listed.getD j false with
        | false => rfl
        | true =>
          exfalso
          have := hclT j i (hord.conf i j _ _ (by omega) (hpx i o hoL) (hpx j q hq) hc.2) hb
          rw [hun] at this; cases this
    have cDst : ∀ q t, q.dst = some t → touches (proxy ops.toList o) t = true → conflict Φ (proxy ops.toList q) (proxy ops.toList o) = true ∧ conflict Φ (proxy ops.toList o) (proxy ops.toList q) = true := by
      intro q t h1 h2
      have h1' : (proxy ops.toList q).dst = some t := h1
      constructor
      · simp [conflict, h1', h2]
      · simp only [conflict, h1', h2, Bool.or_true, Bool.true_or]
    let S : Nat → Bool := fun j => listed.getD j false
    let T : Nat → Bool := fun j => decide (j < i)
    let U : Nat → Bool := fun j => decide (j < i + 1)
    have hTi : KS ops.toList (st 0) R T ops.size = st i := by
      rw [KS_cut i ops.size (by omega) (fun k h1 _ => decide_eq_false (by omega))]
      exact runK i (by omega) _ fun k hk => decide_eq_true hk
    have hUi : KS ops.toList (st 0) R U ops.size = st (i + 1) := by
      rw [KS_cut (i + 1) ops.size (by omega) (fun k h1 _ => decide_eq_false (by omega))]
      exact runK (i + 1) (by omega) _ fun k hk => decide_eq_true hk
    have hslot : ∀ t, touches (proxy ops.toList o) t = true → (KS ops.toList (st 0) R S ops.size).get t = (st i).get t := by
      intro t hto
      rw [← hTi]
      refine KS_get ops.size fun j q _ hq hdst => ?_
      by_cases hji : j = i
      · subst hji; show listed.getD j false = decide (j < j); rw [hun]; simp
      · exact hconf j q hq hji (cDst q t hdst hto)
    have hE : ∀ x ∈ o.op.operands, evX (KS ops.toList (st 0) R S ops.size) x = evX (st i) x := by
      intro x hx
      cases x with
      | tmp t =>
        simp only [evX]
        exact hslot t (proxy_touch (by simpa using hx))
      | const c => rfl
      | global g => rfl
      | func f => rfl
    have hS' : ∀ j, (listed.setIfInBounds i true).getD j false = if j = i then true else S j := by
      intro j
      by_cases hji : j = i
      · subst hji; simp [hil]
      · rw [if_neg hji]; exact getD_set_ne false (Ne.symm hji)
    have hfr : ∀ t, (KS ops.toList (st 0) R (fun j => (listed.setIfInBounds i true).getD j false) ops.size).get t = (putK (KS ops.toList (st 0) R S ops.size) o.dst (R i)).get t := by
      intro t
      by_cases hdt : o.dst = some t
      · have hto : touches (proxy ops.toList o) t = true := proxy_dst hdt
        have e1 : (KS ops.toList (st 0) R (fun j => (listed.setIfInBounds i true).getD j false) ops.size).get t = (KS ops.toList (st 0) R U ops.size).get t := by
          refine KS_get ops.size fun j q _ hq hdst => ?_
          simp only [hS']
          by_cases hji : j = i
          · subst hji; rw [if_pos rfl]; show true = decide (j < j + 1); simp
          · rw [if_neg hji]
            have := hconf j q hq hji (cDst q t hdst hto)
            show listed.getD j false = decide (j < i + 1)
            rw [this]
            exact decide_eq_decide.2 (by omega)
        rw [e1, hUi, hK1, hdt, putK_get_eq, putK_get_eq, ← hTi, KS_has, KS_has]
      · rw [putK_get_ne hdt]
        refine KS_get ops.size fun j q _ hq hdst => ?_
        simp only [hS']
        by_cases hji : j = i
        · subst hji
          have : q = o := Option.some.inj (hq.symm.trans hoL)
          subst this; exact absurd hdst hdt
        · rw [if_neg hji]
    obtain ⟨ρ, hW, hf⟩ := hst
    unfold stepG at hev
    cases hd : dstOk N o.dst <;> simp only [hd, cond_false, cond_true, reduceCtorEq] at hev
    have next : ∀ (ρ' : Env) (w' : World), (∀ i, i < n → ρ' i = ρ i) → (R i).lt n → WR C ρ' M n w' → wpAny P .any ops Q fuel (listed.setIfInBounds i true) (a.put o.dst ((R i).val ρ')) w' := by
      intro ρ' w' q1 q3 hw
      refine ih (listed.setIfInBounds i true) _ w' (by simp [hsz]) ?_ ?_ ⟨ρ', hw, (hf.put q1 (Nat.le_refl _) q3 hd).congr hfr⟩
      · have hsub : ∀ x, (!(listed.setIfInBounds i true).getD x false) = true → (!listed.getD x false) = true := fun x hx => by
          cases hb : listed.getD x false with
          | false => rfl
          | true => rw [getD_set_true hb] at hx; cases hx
        have hi1 : (!listed.getD i false) = true := by rw [hun]; rfl
        have hi2 : (!(listed.setIfInBounds i true).getD i false) = false := by rw [hS', if_pos rfl]; rfl
        have := countP_lt (p := fun j => !listed.getD j false) (p' := fun j => !(listed.setIfInBounds i true).getD j false) (i := i) hsub hi1 hi2 (List.mem_range.2 hlt)
        omega
      · intro j q hq hj e he hb
        by_cases hji : j = i
        · subst hji
          have : q = o := Option.some.inj (hq.symm.trans ho)
          subst this
          exact getD_set_true (hpre e he hb)
        · rw [getD_set_ne false (Ne.symm hji)] at hj
          exact getD_set_true (hcl j q hq hj e he hb)
    have hwant : ∀ c, gok ops.toList (st i) o.guard = some c → Region.wanted o (yielded ops a.tmps) = c := by
      intro c hc
      unfold gok at hc
      unfold Region.wanted
      cases hg : o.guard with
      | none => rw [hg] at hc; cases hc; rfl
      | some gb =>
        obtain ⟨g, b⟩ := gb
        rw [hg] at hc
        simp only at hc ⊢
        split at hc
        · rename_i y hy
          simp only [Option.some.injEq] at hc
          unfold gval at hy
          split at hy
          · rename_i p hp
            rw [nth_eq] at hp
            split at hy
            · rename_i d hdd
              split at hy
              · rename_i b' hb'
                cases hy
                have hs := hslot d (proxy_guard hg hp hdd)
                rw [hb'] at hs
                have hv := (hf.fit d _ hs).2
                have hpa : ops[g]? = some p := by rw [← hget]; exact hp
                have : yielded ops a.tmps g = some y := by
                  unfold yielded
                  rw [hpa]
                  simp [hdd, hv, SV.val, SW.val]
                rw [this, ← hc]
                cases b <;> cases y <;> rfl
              · cases hy
            · cases hy
          · cases hy
        · cases hc
    unfold wpOp
    rw [ho]
    show if Region.wanted o (yielded ops a.tmps) = true then _ else _
    split at hev
    · rename_i hgo
      rw [hwant _ hgo, if_pos rfl]
      rw [← evG_congr hE] at hev
      exact .inl (evG_sound hΓ hΔ hΦ hf.ev hf.lt hW hev hbs fun ρ' w' q1 q3 hw => next ρ' w' q1 q3 hw)
    · rename_i hgo
      rw [hwant _ hgo, if_neg (by simp)]
      simp only [Option.some.injEq, Prod.mk.injEq] at hev
      have := next ρ w (fun _ _ => rfl) (by rw [← hev.1]; trivial) hW
      rw [← hev.1] at this
      exact this
    · cases hev
end

/-! ### Code and functions -/
def evRegG (Γ : List (Nat × TRow)) (Δ : Kinds) (Φ : List (Nat × FnS)) (N : Nat) (ops : List Oper) (draw : Bool) (K : Tr) (M : Mem) (n : Nat) : Option (Tr × Mem × Nat × List Ob) :=
  bif draw && ops.any (fun o => o.guard.isSome) then (bif okReg Φ [] [] (ops.map (proxy ops)) then (match evOpsG Γ Δ Φ N ops ops K M n with
    | some (K', obs) => some (K', M, n, obs)
    | none => none) else none)
  else match evReg Γ Φ N ops draw K M n with
    | some (K', M', n') => some (K', M', n', [])
    | none => none

def evCG (Γ : List (Nat × TRow)) (Δ : Kinds) (Φ : List (Nat × FnS)) (N : Nat) : Code → Tr → Mem → Nat → Option (Exit × Tr × Mem × Nat × List Ob)
  | .skip, K, M, n => some (.normal, K, M, n, [])
  | .region _ ops draw, K, M, n => match evRegG Γ Δ Φ N ops.toList draw K M n with
    | some (K', M', n', obs) => some (.normal, K', M', n', obs)
    | none => none
  | .seq x y, K, M, n => match evCG Γ Δ Φ N x K M n with
    | some (.normal, K', M', n', obs) => match evCG Γ Δ Φ N y K' M' n' with
      | some (e, K2, M2, n2, obs2) => some (e, K2, M2, n2, obs ++ obs2)
      | none => none
    | r => r
  | .cond c x y, K, M, n => match evX K c with
    | some (.s (.bool t)) => bif t then evCG Γ Δ Φ N x K M n else evCG Γ Δ Φ N y K M n
    | _ => none
  | .exit id, K, M, n => some (.exit id, K, M, n, [])
  | .ret, K, M, n => some (.ret, K, M, n, [])
  | _, _, _, _ => none

section
variable {P : Program} {Γ : List (Nat × TRow)} {Δ : Kinds} {Φ : List (Nat × FnS)} {C : Ctx} {N : Nat}

theorem evRegG_sound (hΓ : ∀ t r, lk Γ t = some r → TOK P t r) (hΔ : ∀ t k, lk Δ t = some k → KindOK P t k) (hΦ : PhiOK P Φ) (hm : P.follows .mixedOrders = true) {id : Nat} {ops : Array Oper} {draw : Bool} {K K' : Tr} {M M' : Mem} {n n' : Nat} {obs : List Ob}
    (h : evRegG Γ Δ Φ N ops.toList draw K M n = some (K', M', n', obs)) (hobs : ∀ b ∈ obs, ObOK b) {Q : Exit → Act → World → Prop} {a : Act} {w : World} (hs : St C N K.get M n a w) (hk : ∀ a' w', St C N K'.get M' n' a' w' → Q .normal a' w') :
    (Code.region id ops draw).wp P Q a w := by
  unfold evRegG at h
  cases hb : draw && ops.toList.any (fun o => o.guard.isSome) <;> simp only [hb, cond_false, cond_true] at h
  · split at h
    · rename_i K1 M1 n1 h1
      simp only [Option.some.injEq, Prod.mk.injEq] at h
      obtain ⟨rfl, rfl, rfl, _⟩ := h
      exact evReg_sound hΓ hΦ hm h1 hs hk
    · cases h
  · simp only [Bool.and_eq_true] at hb
    obtain ⟨rfl, _⟩ := hb
    cases hr : okReg Φ [] [] (ops.toList.map (proxy ops.toList)) <;> simp only [hr, cond_false, cond_true, reduceCtorEq] at h
    split at h
    · rename_i K1 obs1 h1
      simp only [Option.some.injEq, Prod.mk.injEq] at h
      obtain ⟨rfl, rfl, rfl, rfl⟩ := h
      obtain ⟨pre, hord⟩ := ord_of_okReg hr
      obtain ⟨st, R, h0, hE, h2⟩ := evOpsG_states _ _ _ _ h1
      rw [Array.length_toList] at hE
      have hf : ∀ j, (Array.replicate ops.size false).getD j false = false := fun j => by
        simp only [Array.getD_eq_getD_getElem?, Array.getElem?_replicate]
        split <;> rfl
      refine wp_region_any hm (wpAny_of_runG hΓ hΔ hΦ (C := C) (N := N) (M := M) (n := n) (st := st) (R := R) (fun i o ho => ?_) hord (fun a' w' hs' => hk a' w' (by rw [hE] at hs'; exact hs')) ops.size _ a _ (by simp) ?_ ?_ ?_)
      · obtain ⟨bs, q1, q2, q3⟩ := h2 i o ho
        exact ⟨bs, fun b hb => hobs b (q1 b hb), q2, q3⟩
      · exact Nat.le_trans List.countP_le_length (by simp)
      · intro j o _ hj
        rw [hf j] at hj; cases hj
      · rw [KS_cut 0 ops.size (Nat.zero_le _) (fun k _ _ => hf k)]
        simp only [KS, h0]
        exact hs.drew
    · cases h

theorem evCG_sound (hΓ : ∀ t r, lk Γ t = some r → TOK P t r) (hΔ : ∀ t k, lk Δ t = some k → KindOK P t k) (hΦ : PhiOK P Φ) (hm : P.follows .mixedOrders = true) : ∀ (c : Code) {K M n e K' M' n' obs}, evCG Γ Δ Φ N c K M n = some (e, K', M', n', obs) → (∀ b ∈ obs, ObOK b) →
    ∀ {Q : Exit → Act → World → Prop} {a w}, St C N K.get M n a w → (∀ a' w', St C N K'.get M' n' a' w' → Q e a' w') → c.wp P Q a w := by
  intro c
  induction c with
  | skip =>
    intro K M n e K' M' n' obs h hobs Q a w hs hk
    simp only [evCG, Option.some.injEq, Prod.mk.injEq] at h
    obtain ⟨rfl, rfl, rfl, rfl, _⟩ := h
    exact wp_skip (hk _ _ hs)
  | region id ops draw =>
    intro K M n e K' M' n' obs h hobs Q a w hs hk
    simp only [evCG] at h
    split at h
    · rename_i K1 M1 n1 o1 h1
      simp only [Option.some.injEq, Prod.mk.injEq] at h
      obtain ⟨rfl, rfl, rfl, rfl, rfl⟩ := h
      exact evRegG_sound hΓ hΔ hΦ hm h1 hobs hs hk
    · cases h
  | seq x y ihx ihy =>
    intro K M n e K' M' n' obs h hobs Q a w hs hk
    simp only [evCG] at h
    split at h
    · rename_i K1 M1 n1 o1 h1
      split at h
      · rename_i e2 K2 M2 n2 o2 h2
        simp only [Option.some.injEq, Prod.mk.injEq] at h
        obtain ⟨rfl, rfl, rfl, rfl, rfl⟩ := h
        exact wp_seq (ihx h1 (fun b hb => hobs b (List.mem_append_left _ hb)) hs fun a' w' hs' => ihy h2 (fun b hb => hobs b (List.mem_append_right _ hb)) hs' hk)
      · cases h
    · rename_i hne
      refine wp_seq (ihx h hobs hs fun a' w' hs' => ?_)
      have := hk a' w' hs'
      cases e with
      | normal => exact absurd h (hne _ _ _ _)
      | _ => exact this
  | cond c x y ihx ihy =>
    intro K M n e K' M' n' obs h hobs Q a w hs hk
    simp only [evCG] at h
    split at h
    · rename_i t ht
      have he : a.eval c = .bool t := by
        obtain ⟨ρ, hW, hf⟩ := hs
        exact hf.ev _ _ ht
      cases t with
      | true => exact wp_cond_true he (ihx h hobs hs hk)
      | false => exact wp_cond_false he (ihy h hobs hs hk)
    · cases h
  | exit id =>
    intro K M n e K' M' n' obs h hobs Q a w hs hk
    simp only [evCG, Option.some.injEq, Prod.mk.injEq] at h
    obtain ⟨rfl, rfl, rfl, rfl, _⟩ := h
    exact wp_exit (hk _ _ hs)
  | ret =>
    intro K M n e K' M' n' obs h hobs Q a w hs hk
    simp only [evCG, Option.some.injEq, Prod.mk.injEq] at h
    obtain ⟨rfl, rfl, rfl, rfl, _⟩ := h
    exact wp_ret (hk _ _ hs)
  | _ => intro K M n e K' M' n' obs h; simp [evCG] at h

/-- A law: words in, a word out; what is owed besides. -/
def evLaw (Γ : List (Nat × TRow)) (Δ : Kinds) (Φ : List (Nat × FnS)) (fi : FnI) (args : List SV) : Option (SV × List Ob) :=
  bif args.all SV.free && Nat.ble args.length fi.ntmps then (match evCG Γ Δ Φ fi.ntmps fi.code (initK (Tr.mk 10) args 0) [] 0 with
    | some (e, K', M', _, obs) => bif isEnd e then (match evRes Γ K' M' fi.res with
      | some v => bif v.free then some (v, obs) else none
      | none => none) else none
    | none => none) else none

theorem evLaw_sound (hΓ : ∀ t r, lk Γ t = some r → TOK P t r) (hΔ : ∀ t k, lk Δ t = some k → KindOK P t k) (hΦ : PhiOK P Φ) (hm : P.follows .mixedOrders = true) {f : FuncId} {fi : FnI} (hfn : FnAt P f fi) {args : List SV} {v : SV} {obs : List Ob}
    (h : evLaw Γ Δ Φ fi args = some (v, obs)) (hobs : ∀ b ∈ obs, ObOK b) (ρ : Env) (w : World) :
    Calls P f (vals ρ args) w fun e w' => e = .returned (v.val ρ) ∧ Fr (fun _ => False) w w' := by
  obtain ⟨fn, h1, h2, h3, h4, h5⟩ := hfn.ok
  unfold evLaw at h
  cases hb : args.all SV.free && Nat.ble args.length fi.ntmps <;> simp only [hb, cond_false, cond_true, reduceCtorEq] at h
  simp only [Bool.and_eq_true] at hb
  have hargs : ∀ x ∈ args, x.lt 0 := fun x hx => SV.lt_of_free (List.all_eq_true.1 hb.1 x hx)
  split at h
  · rename_i e K1 M1 n1 obs1 hc
    cases he : isEnd e <;> simp only [he, cond_false, cond_true, reduceCtorEq] at h
    split at h
    · rename_i u hu
      cases hv : u.free <;> simp only [hv, cond_false, cond_true, reduceCtorEq, Option.some.injEq, Prod.mk.injEq] at h
      obtain ⟨rfl, rfl⟩ := h
      have hle := Nat.le_of_ble_eq_true hb.2
      have hsz : (vals ρ args).size = args.length := by simp [vals]
      let C2 : Ctx := ⟨fun p => w.heap.size ≤ p.block, w.heap.size, ρ, 0, w⟩
      have hW2 : WR C2 ρ [] 0 w := ⟨fun _ _ => rfl, Nat.le_refl _, ⟨fun id r h => (nomatch h), fun id r _ _ _ _ h => (nomatch h)⟩, Fr.refl _ _, Nat.le_refl _, fun b o h => h⟩
      refine calls_of_wp h1 h2 (evCG_sound hΓ hΔ hΦ hm fi.code hc hobs (C := C2) ⟨ρ, hW2, ⟨fun t x hx => ?_, ?_, rfl⟩⟩ fun a' w' hs => ?_)
      · rcases initK_get _ _ _ _ _ hx with ⟨_, hx⟩ | hx
        · rw [Nat.sub_zero] at hx
          refine ⟨hargs _ (List.mem_of_getElem? hx), ?_⟩
          have hlt : t < args.length := (List.getElem?_eq_some_iff.1 hx).1
          simp only
          rw [Array.getElem?_append_left (by omega)]
          simp [vals, hx]
        · rw [Tr.get_mk] at hx; cases hx
      · simp only [Array.size_append, hsz, Array.size_replicate, h3]; omega
      · obtain ⟨ρ', hW', hf'⟩ := hs
        rw [← h4] at hu
        obtain ⟨r1, r2⟩ := evRes_sound hΓ hW' hf' hu
        have hval : u.val ρ' = u.val ρ := SV.val_congr (n := 0) (fun i hi => absurd hi (Nat.not_lt_zero i)) (SV.lt_of_free hv)
        have hfin : a'.defers = [] ∧ ∃ v, (results fn a'.tmps).run P w' = .ok v w' ∧ (fun (e : Ending) w' => e = .returned (u.val ρ) ∧ Fr (fun _ => False) w w') (.returned v) w' :=
          ⟨hf'.defs, u.val ρ', r1, by rw [hval], fr_false hW'.fr rfl⟩
        cases e <;> first | exact hfin | cases he
    · cases h
  · cases h
end
end CI
end Go.Proofs.Yteooohmlmefbnaa
