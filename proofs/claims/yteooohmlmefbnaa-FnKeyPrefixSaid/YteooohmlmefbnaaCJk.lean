/-
  Runs of straight code over words that stay open (part 10: code and functions, with the regions of part 9). Each step is proved sound against the model.
  Conditions: none; it proves no statement by itself.
-/
import Derived.Test.YteooohmlmefbnaaCJj
namespace Go.Proofs.Yteooohmlmefbnaa
namespace CI
open Go

def backs : List Oper → Nat → Bool
  | [], _ => true
  | o :: l, i => backB i o.after.toList && backs l (i + 1)

theorem backs_spec : ∀ {l : List Oper} {i0 : Nat}, backs l i0 = true → ∀ j o, l[j]? = some o → ∀ e ∈ o.after, Region.binds .any e = true → e.on < i0 + j
  | [], _, _, j, o, hj => by simp at hj
  | x :: l, i0, h, j, o, hj => by
    simp only [backs, Bool.and_eq_true] at h
    cases j with
    | zero =>
      simp only [List.getElem?_cons_zero, Option.some.injEq] at hj
      subst hj
      intro e he hb
      exact backB_spec h.1 e (by simpa using he) hb
    | succ j =>
      simp only [List.getElem?_cons_succ] at hj
      intro e he hb
      have := backs_spec h.2 j o hj e he hb
      omega

def hasAll (K : Tr) (ops : List Oper) : Bool := ops.all fun o => match o.dst with
  | some d => K.has d
  | none => true

theorem hasAll_spec {K : Tr} {ops : List Oper} (h : hasAll K ops = true) : ∀ o ∈ ops, ∀ d, o.dst = some d → K.has d = true := by
  intro o ho d hd
  have := List.all_eq_true.1 h o ho
  simpa [hd] using this

def evTab (Γ : List (Nat × TRow)) (N : Nat) (ops : List Oper) (K : Tr) (M : Mem) (n : Nat) : Option (Tr × Mem × Nat) :=
  match mkTab Γ N ops K M n ops [] with
  | some T => bif dstsOk ops && (onceOk T T 0 && (backs ops 0 && hasAll K ops)) then some (KS ops K (RT T) (fun _ => true) ops.length, MT T M n (fun _ => true) ops.length, n + ops.length) else none
  | none => none

def evReg2 (Γ : List (Nat × TRow)) (Φ : List (Nat × FnS)) (N : Nat) (ops : List Oper) (draw : Bool) (K : Tr) (M : Mem) (n : Nat) : Option (Tr × Mem × Nat) :=
  bif draw then (bif okReg Φ [] [] ops then evOps Γ Φ N ops K M n else evTab Γ N ops K M n) else evOps Γ Φ N ops K M n

def evC2 (Γ : List (Nat × TRow)) (Φ : List (Nat × FnS)) (N fuel : Nat) : Code → Tr → Mem → Nat → Out
  | .skip, K, M, n => some (.normal, K, M, n)
  | .region _ ops draw, K, M, n => match evReg2 Γ Φ N ops.toList draw K M n with
    | some (K', M', n') => some (.normal, K', M', n')
    | none => none
  | .seq x y, K, M, n => match evC2 Γ Φ N fuel x K M n with
    | some (.normal, K', M', n') => evC2 Γ Φ N fuel y K' M' n'
    | r => r
  | .cond c x y, K, M, n => match evX K c with
    | some (.s (.bool t)) => bif t then evC2 Γ Φ N fuel x K M n else evC2 Γ Φ N fuel y K M n
    | _ => none
  | .block id x, K, M, n => match evC2 Γ Φ N fuel x K M n with
    | some (.exit id', K', M', n') => bif Nat.beq id' id then some (.normal, K', M', n') else some (.exit id', K', M', n')
    | r => r
  | .loop x, K, M, n => evRounds (evC2 Γ Φ N fuel x) fuel K M n
  | .exit id, K, M, n => some (.exit id, K, M, n)
  | .ret, K, M, n => some (.ret, K, M, n)
  | _, _, _, _ => none

section
variable {P : Program} {Γ : List (Nat × TRow)} {Φ : List (Nat × FnS)} {C : Ctx} {N fuel : Nat}

theorem St.more {f : Nat → Option SV} {M : Mem} {n n' : Nat} {a : Act} {w : World} (h : St C N f M n a w) (hn : n ≤ n') : St C N f M n' a w := by
  obtain ⟨ρ, hW, hf⟩ := h
  refine ⟨ρ, ⟨hW.env, Nat.le_trans hW.n0 hn, ⟨fun id r hr => ?_, hW.rel.apart⟩, hW.fr, hW.base, hW.own⟩, ⟨fun t v hv => ?_, hf.size, hf.defs⟩⟩
  · obtain ⟨h1, h2, h3⟩ := hW.rel.cell id r hr
    exact ⟨Nat.lt_of_lt_of_le h1 hn, h2, fun j s hs => ⟨SW.lt_mono hn (h3 j s hs).1, (h3 j s hs).2⟩⟩
  · obtain ⟨h1, h2⟩ := hf.fit t v hv
    exact ⟨SV.lt_mono hn h1, h2⟩

theorem evTab_sound (hΓ : ∀ t r, lk Γ t = some r → TOK P t r) {ops : Array Oper} {K K' : Tr} {M M' : Mem} {n n' : Nat} (h : evTab Γ N ops.toList K M n = some (K', M', n')) {Q : Exit → Act → World → Prop} {a : Act} {w : World}
    (hs : St C N K.get M n a w) (hk : ∀ a' w', St C N K'.get M' n' a' w' → Q .normal a' w') : wpAny P .any ops Q ops.size (Array.replicate ops.size false) a w := by
  unfold evTab at h
  split at h
  · rename_i T hT
    cases hb : (dstsOk ops.toList && (onceOk T T 0 && (backs ops.toList 0 && hasAll K ops.toList))) <;> simp only [hb, cond_false, cond_true, reduceCtorEq, Option.some.injEq, Prod.mk.injEq] at h
    obtain ⟨rfl, rfl, rfl⟩ := h
    simp only [Bool.and_eq_true] at hb
    obtain ⟨b1, b2, b3, b4⟩ := hb
    have hf : ∀ j, (Array.replicate ops.size false).getD j false = false := fun j => by
      simp only [Array.getD_eq_getD_getElem?, Array.getElem?_replicate]
      split <;> rfl
    obtain ⟨ρ, hW, hF⟩ := hs
    have hMn : ∀ id r, lk M id = some r → id < n ∧ ∀ x ∈ r.cells, x.lt n := fun id r hr => by
      obtain ⟨h1, h2, h3⟩ := hW.rel.cell id r hr
      refine ⟨h1, fun x hx => ?_⟩
      obtain ⟨j, hj⟩ := List.getElem?_of_mem hx
      exact (h3 j x hj).1
    refine wpAny_tab (C := C) hΓ hT b1 b2 (fun j o ho e he hbd => ?_) (hasAll_spec b4) hMn (fun t v hv => (hF.fit t v hv).1) hW.n0 (fun a' w' hs' => hk a' w' (by rw [Array.length_toList]; exact hs')) ops.size _ a w (by simp) ?_ ?_ ?_
    · have := backs_spec b3 j o (by rw [Array.getElem?_toList]; exact ho) e he hbd
      omega
    · exact Nat.le_trans List.countP_le_length (by simp)
    · intro j o _ hj
      rw [hf j] at hj; cases hj
    · refine (St.more ⟨ρ, hW, hF⟩ (Nat.le_add_right n ops.size)).congr (fun t => ?_) fun id r hr => ?_
      · rw [KS_cut 0 ops.size (Nat.zero_le _) (fun k _ _ => hf k)]; rfl
      · rw [lk_MT (fun id r h => (hMn id r h).1)] at hr
        by_cases h1 : n ≤ id
        · rw [if_pos h1] at hr
          split at hr
          · simp only [hf, cond_false] at hr
            split at hr <;> cases hr
          · cases hr
        · rw [if_neg h1] at hr; exact hr
  · cases h

theorem evReg2_sound (hΓ : ∀ t r, lk Γ t = some r → TOK P t r) (hΦ : PhiOK P Φ) (hm : P.follows .mixedOrders = true) {id : Nat} {ops : Array Oper} {draw : Bool} {K K' : Tr} {M M' : Mem} {n n' : Nat}
    (h : evReg2 Γ Φ N ops.toList draw K M n = some (K', M', n')) {Q : Exit → Act → World → Prop} {a : Act} {w : World} (hs : St C N K.get M n a w) (hk : ∀ a' w', St C N K'.get M' n' a' w' → Q .normal a' w') :
    (Code.region id ops draw).wp P Q a w := by
  cases draw with
  | false =>
    refine evReg_sound hΓ hΦ hm (draw := false) ?_ hs hk
    exact h
  | true =>
    simp only [evReg2, cond_true] at h
    cases hr : okReg Φ [] [] ops.toList <;> simp only [hr, cond_false, cond_true] at h
    · exact wp_region_any hm (evTab_sound hΓ h hs.drew hk)
    · refine evReg_sound hΓ hΦ hm (draw := true) ?_ hs hk
      simp only [evReg, cond_true, hr]
      exact h

theorem evC2_sound (hΓ : ∀ t r, lk Γ t = some r → TOK P t r) (hΦ : PhiOK P Φ) (hm : P.follows .mixedOrders = true) : ∀ (c : Code) {K M n e K' M' n'}, evC2 Γ Φ N fuel c K M n = some (e, K', M', n') →
    ∀ {Q : Exit → Act → World → Prop} {a w}, St C N K.get M n a w → (∀ a' w', St C N K'.get M' n' a' w' → Q e a' w') → c.wp P Q a w := by
  intro c
  induction c with
  | skip =>
    intro K M n e K' M' n' h Q a w hs hk
    simp only [evC2, Option.some.injEq, Prod.mk.injEq] at h
    obtain ⟨rfl, rfl, rfl, rfl⟩ := h
    exact wp_skip (hk _ _ hs)
  | region id ops draw =>
    intro K M n e K' M' n' h Q a w hs hk
    simp only [evC2] at h
    split at h
    · rename_i K1 M1 n1 h1
      simp only [Option.some.injEq, Prod.mk.injEq] at h
      obtain ⟨rfl, rfl, rfl, rfl⟩ := h
      exact evReg2_sound hΓ hΦ hm h1 hs hk
    · cases h
  | seq x y ihx ihy =>
    intro K M n e K' M' n' h Q a w hs hk
    simp only [evC2] at h
    split at h
    · rename_i K1 M1 n1 h1
      exact wp_seq (ihx h1 hs fun a' w' hs' => ihy h hs' hk)
    · rename_i hne
      refine wp_seq (ihx h hs fun a' w' hs' => ?_)
      have := hk a' w' hs'
      cases e with
      | normal => exact absurd h (hne _ _ _)
      | _ => exact this
  | cond c x y ihx ihy =>
    intro K M n e K' M' n' h Q a w hs hk
    simp only [evC2] at h
    split at h
    · rename_i t ht
      have he : a.eval c = .bool t := by
        obtain ⟨ρ, hW, hf⟩ := hs
        exact hf.ev _ _ ht
      cases t with
      | true => exact wp_cond_true he (ihx h hs hk)
      | false => exact wp_cond_false he (ihy h hs hk)
    · cases h
  | block id x ih =>
    intro K M n e K' M' n' h Q a w hs hk
    simp only [evC2] at h
    split at h
    · rename_i id' K1 M1 n1 h1
      refine wp_block (ih h1 hs fun a' w' hs' => ?_)
      cases hb : Nat.beq id' id <;> simp only [hb, cond_false, cond_true, Option.some.injEq, Prod.mk.injEq] at h <;> obtain ⟨rfl, rfl, rfl, rfl⟩ := h
      · simp only [Exit.inBlock, if_neg (Nat.ne_of_beq_eq_false hb)]
        exact hk _ _ hs'
      · simp only [Exit.inBlock, if_pos (Nat.eq_of_beq_eq_true hb)]
        exact hk _ _ hs'
    · rename_i hne
      refine wp_block (ih h hs fun a' w' hs' => ?_)
      have := hk a' w' hs'
      cases e with
      | exit id' => exact absurd h (hne _ _ _ _)
      | _ => exact this
  | loop x ih =>
    intro K M n e K' M' n' h Q a w hs hk
    simp only [evC2] at h
    exact wp_loop_rounds fuel (evRounds_sound (fun h => ih h) fuel h hs hk)
  | exit id =>
    intro K M n e K' M' n' h Q a w hs hk
    simp only [evC2, Option.some.injEq, Prod.mk.injEq] at h
    obtain ⟨rfl, rfl, rfl, rfl⟩ := h
    exact wp_exit (hk _ _ hs)
  | ret =>
    intro K M n e K' M' n' h Q a w hs hk
    simp only [evC2, Option.some.injEq, Prod.mk.injEq] at h
    obtain ⟨rfl, rfl, rfl, rfl⟩ := h
    exact wp_ret (hk _ _ hs)
  | _ => intro K M n e K' M' n' h; simp [evC2] at h

def evFun2 (Γ : List (Nat × TRow)) (Φ : List (Nat × FnS)) (fuel : Nat) (keep : Bool) (fi : FnI) (args : List SV) (M : Mem) (n : Nat) : Option (SV × Mem × Nat) :=
  bif Nat.ble args.length fi.ntmps then (match evC2 Γ Φ fi.ntmps fuel fi.code (initK (Tr.mk 10) args 0) M n with
    | some (e, K', M', n') => bif isEnd e then (match evRes Γ K' M' fi.res with
      | some v => some (v, (bif keep then M' else lowM n M'), n')
      | none => none) else none
    | none => none) else none

theorem evFun2_sound (hΓ : ∀ t r, lk Γ t = some r → TOK P t r) (hΦ : PhiOK P Φ) (hm : P.follows .mixedOrders = true) {f : FuncId} {fi : FnI} (hfn : FnAt P f fi) {keep : Bool} {args : List SV} {M M' : Mem} {n n' : Nat} {v : SV}
    (h : evFun2 Γ Φ fuel keep fi args M n = some (v, M', n')) (hargs : ∀ x ∈ args, x.lt n) {ρ : Env} {w : World} (hW : WR C ρ M n w) :
    Calls P f (vals ρ args) w fun e w' => ∃ ρ', v.lt n' ∧ e = .returned (v.val ρ') ∧ WR C ρ' M' n' w' := by
  obtain ⟨fn, h1, h2, h3, h4, h5⟩ := hfn.ok
  unfold evFun2 at h
  cases hb : Nat.ble args.length fi.ntmps <;> simp only [hb, cond_false, cond_true, reduceCtorEq] at h
  split at h
  · rename_i e K1 M1 n1 hc
    cases he : isEnd e <;> simp only [he, cond_false, cond_true, reduceCtorEq] at h
    split at h
    · rename_i u hu
      simp only [Option.some.injEq, Prod.mk.injEq] at h
      obtain ⟨rfl, rfl, rfl⟩ := h
      have hle := Nat.le_of_ble_eq_true hb
      have hsz : (vals ρ args).size = args.length := by simp [vals]
      refine calls_of_wp h1 h2 (evC2_sound hΓ hΦ hm fi.code hc (C := C) ⟨ρ, hW, ⟨fun t x hx => ?_, ?_, rfl⟩⟩ fun a' w' hs => ?_)
      · rcases initK_get _ _ _ _ _ hx with ⟨_, hx⟩ | hx
        · rw [Nat.sub_zero] at hx
          refine ⟨hargs _ (List.mem_of_getElem? hx), ?_⟩
          have hlt : t < args.length := (List.getElem?_eq_some_iff.1 hx).1
          simp only
          rw [Array.getElem?_append_left (by omega)]
          simp [vals, hx]
        · rw [Tr.get_mk] at hx; cases hx
      · simp only [Array.size_append, hsz, Array.size_replicate, h3]; omega
      · obtain ⟨ρ', hW', hf'⟩ := hs
        rw [← h4] at hu
        obtain ⟨r1, r2⟩ := evRes_sound hΓ hW' hf' hu
        have hfin : a'.defers = [] ∧ ∃ v, (results fn a'.tmps).run P w' = .ok v w' ∧ (fun (e : Ending) w' => ∃ ρ', u.lt n1 ∧ e = .returned (u.val ρ') ∧ WR C ρ' (bif keep then M1 else lowM n M1) n1 w') (.returned v) w' := by
          refine ⟨hf'.defs, u.val ρ', r1, ρ', r2, rfl, ?_⟩
          cases keep
          · exact hW'.low fun id r hr => lk_lowM hr
          · exact hW'
        cases e <;> first | exact hfin | cases he
    · cases h
  · cases h

theorem fnOK_eff2 (hΓ : ∀ t r, lk Γ t = some r → TOK P t r) (hΦ : PhiOK P Φ) (hm : P.follows .mixedOrders = true) {f : FuncId} {fi : FnI} (hfn : FnAt P f fi) (keep : Bool) : FnOK P f (.eff (evFun2 Γ Φ fuel keep fi)) := by
  intro args M n v M' n' h hargs C ρ w hW
  let C2 : Ctx := ⟨C.may, C.B, ρ, n, w⟩
  have hW2 : WR C2 ρ M n w := ⟨fun _ _ => rfl, Nat.le_refl _, hW.rel, Fr.refl _ _, hW.base, hW.own⟩
  refine (evFun2_sound hΓ hΦ hm hfn h hargs hW2).mono fun e w' ⟨ρ', h1, h2, h3⟩ => ?_
  exact ⟨ρ', fun i hi => h3.env i hi, h3.n0, h1, h2, ⟨fun i hi => (h3.env i (Nat.lt_of_lt_of_le hi hW.n0)).trans (hW.env i hi), Nat.le_trans hW.n0 h3.n0, h3.rel, hW.fr.trans h3.fr, h3.base, h3.own⟩⟩

def evPure2 (Γ : List (Nat × TRow)) (Φ : List (Nat × FnS)) (fuel : Nat) (fi : FnI) (args : List SV) : Option SV :=
  bif args.all SV.free then (match evFun2 Γ Φ fuel false fi args [] 0 with
    | some (v, _, _) => bif v.free then some v else none
    | none => none) else none

theorem fnOK_pure2 (hΓ : ∀ t r, lk Γ t = some r → TOK P t r) (hΦ : PhiOK P Φ) (hm : P.follows .mixedOrders = true) {f : FuncId} {fi : FnI} (hfn : FnAt P f fi) : FnOK P f (.pure (evPure2 Γ Φ fuel fi)) := by
  intro args v h
  unfold evPure2 at h
  cases ha : args.all SV.free <;> simp only [ha, cond_false, cond_true, reduceCtorEq] at h
  split at h
  · rename_i u M' n' hu
    cases hv : u.free <;> simp only [hv, cond_false, cond_true, reduceCtorEq, Option.some.injEq] at h
    subst h
    refine ⟨SV.lt_of_free hv, fun ρ w => ?_⟩
    let C2 : Ctx := ⟨fun p => w.heap.size ≤ p.block, w.heap.size, ρ, 0, w⟩
    have hW2 : WR C2 ρ [] 0 w := ⟨fun _ _ => rfl, Nat.le_refl _, ⟨fun id r h => (nomatch h), fun id r _ _ _ _ h => (nomatch h)⟩, Fr.refl _ _, Nat.le_refl _, fun b o h => h⟩
    refine (evFun2_sound hΓ hΦ hm hfn hu (fun x hx => SV.lt_of_free (List.all_eq_true.1 ha x hx)) hW2).mono fun e w' ⟨ρ', h1, h2, h3⟩ => ⟨?_, fr_false h3.fr rfl⟩
    rw [h2]
    congr 1
    exact SV.val_congr (n := 0) (fun i hi => absurd hi (Nat.not_lt_zero i)) (SV.lt_of_free hv)
  · cases h

end
end CI
end Go.Proofs.Yteooohmlmefbnaa
