/-
  Runs of straight code over words that stay open (part 6: code and functions). Each step is proved sound against the model.
  Conditions: none; it proves no statement by itself.
-/
import Derived.Test.YteooohmlmefbnaaCJe
namespace Go.Proofs.Yteooohmlmefbnaa
namespace CI
open Go

def evReg (Γ : List (Nat × TRow)) (Φ : List (Nat × FnS)) (N : Nat) (ops : List Oper) (draw : Bool) (K : Tr) (M : Mem) (n : Nat) : Option (Tr × Mem × Nat) :=
  bif draw then (bif okReg Φ [] [] ops then evOps Γ Φ N ops K M n else none) else evOps Γ Φ N ops K M n

abbrev Out := Option (Exit × Tr × Mem × Nat)

def evRounds (f : Tr → Mem → Nat → Out) : Nat → Tr → Mem → Nat → Out
  | 0, _, _, _ => none
  | k + 1, K, M, n => match f K M n with
    | some (.normal, K', M', n') => evRounds f k K' M' n'
    | r => r

def evC (Γ : List (Nat × TRow)) (Φ : List (Nat × FnS)) (N fuel : Nat) : Code → Tr → Mem → Nat → Out
  | .skip, K, M, n => some (.normal, K, M, n)
  | .region _ ops draw, K, M, n => match evReg Γ Φ N ops.toList draw K M n with
    | some (K', M', n') => some (.normal, K', M', n')
    | none => none
  | .seq x y, K, M, n => match evC Γ Φ N fuel x K M n with
    | some (.normal, K', M', n') => evC Γ Φ N fuel y K' M' n'
    | r => r
  | .cond c x y, K, M, n => match evX K c with
    | some (.s (.bool t)) => bif t then evC Γ Φ N fuel x K M n else evC Γ Φ N fuel y K M n
    | _ => none
  | .block id x, K, M, n => match evC Γ Φ N fuel x K M n with
    | some (.exit id', K', M', n') => bif Nat.beq id' id then some (.normal, K', M', n') else some (.exit id', K', M', n')
    | r => r
  | .loop x, K, M, n => evRounds (evC Γ Φ N fuel x) fuel K M n
  | .exit id, K, M, n => some (.exit id, K, M, n)
  | .ret, K, M, n => some (.ret, K, M, n)
  | _, _, _, _ => none

section
variable {P : Program} {Γ : List (Nat × TRow)} {Φ : List (Nat × FnS)} {C : Ctx} {N fuel : Nat}

theorem St.drew {f : Nat → Option SV} {M : Mem} {n : Nat} {a : Act} {w : World} (h : St C N f M n a w) : St C N f M n a { w with drawn := w.drawn + 1 } := by
  obtain ⟨ρ, hW, hf⟩ := h
  exact ⟨ρ, hW.grown (Fr.drew _ w), hf⟩

theorem evReg_sound (hΓ : ∀ t r, lk Γ t = some r → TOK P t r) (hΦ : PhiOK P Φ) (hm : P.follows .mixedOrders = true) {id : Nat} {ops : Array Oper} {draw : Bool} {K K' : Tr} {M M' : Mem} {n n' : Nat}
    (h : evReg Γ Φ N ops.toList draw K M n = some (K', M', n')) {Q : Exit → Act → World → Prop} {a : Act} {w : World} (hs : St C N K.get M n a w) (hk : ∀ a' w', St C N K'.get M' n' a' w' → Q .normal a' w') :
    (Code.region id ops draw).wp P Q a w := by
  cases draw with
  | false =>
    simp only [evReg, cond_false] at h
    exact wp_region_list (evOps_sound hΓ hΦ _ _ _ _ _ _ _ h _ _ hs hk)
  | true =>
    simp only [evReg, cond_true] at h
    cases hr : okReg Φ [] [] ops.toList <;> simp only [hr, cond_false, cond_true, reduceCtorEq] at h
    obtain ⟨pre, hord⟩ := ord_of_okReg hr
    obtain ⟨st, R, h0, h1, h2⟩ := evOps_states _ _ _ _ _ _ _ h
    rw [Array.length_toList] at h1
    have hrun : Run Γ Φ N ops.toList st R := ⟨h2⟩
    have hf : ∀ j, (Array.replicate ops.size false).getD j false = false := fun j => by
      simp only [Array.getD_eq_getD_getElem?, Array.getElem?_replicate]
      split <;> rfl
    refine wp_region_any hm (wpAny_of_run hΓ hΦ hrun hord (fun a' w' hs' => hk a' w' (by rw [h1] at hs'; exact hs')) ops.size _ a _ (by simp) ?_ ?_ ?_)
    · exact Nat.le_trans List.countP_le_length (by simp)
    · intro j o _ hj
      rw [hf j] at hj; cases hj
    · rw [KS_cut 0 ops.size (Nat.zero_le _) (fun k _ _ => hf k), MS_cut 0 ops.size (Nat.zero_le _) (fun k _ _ => hf k)]
      simp only [KS, MS, h0]
      exact hs.drew

theorem evRounds_sound {c : Code} {f : Tr → Mem → Nat → Out}
    (hf : ∀ {K M n e K' M' n'}, f K M n = some (e, K', M', n') → ∀ {Q : Exit → Act → World → Prop} {a w}, St C N K.get M n a w → (∀ a' w', St C N K'.get M' n' a' w' → Q e a' w') → c.wp P Q a w) :
    ∀ (k : Nat) {K M n e K' M' n'}, evRounds f k K M n = some (e, K', M', n') → ∀ {Q : Exit → Act → World → Prop} {a w}, St C N K.get M n a w → (∀ a' w', St C N K'.get M' n' a' w' → Q e a' w') → Code.rounds P c Q k a w
  | 0, _, _, _, _, _, _, _, h, _, _, _, _, _ => by cases h
  | k + 1, K, M, n, e, K', M', n', h, Q, a, w, hs, hk => by
    simp only [evRounds] at h
    split at h
    · rename_i K1 M1 n1 h1
      exact hf h1 hs fun a' w' hs' => evRounds_sound hf k h hs' hk
    · rename_i hne
      refine hf h hs fun a' w' hs' => ?_
      have := hk a' w' hs'
      cases e with
      | normal => exact absurd h (hne _ _ _)
      | _ => exact this

theorem evC_sound (hΓ : ∀ t r, lk Γ t = some r → TOK P t r) (hΦ : PhiOK P Φ) (hm : P.follows .mixedOrders = true) : ∀ (c : Code) {K M n e K' M' n'}, evC Γ Φ N fuel c K M n = some (e, K', M', n') →
    ∀ {Q : Exit → Act → World → Prop} {a w}, St C N K.get M n a w → (∀ a' w', St C N K'.get M' n' a' w' → Q e a' w') → c.wp P Q a w := by
  intro c
  induction c with
  | skip =>
    intro K M n e K' M' n' h Q a w hs hk
    simp only [evC, Option.some.injEq, Prod.mk.injEq] at h
    obtain ⟨rfl, rfl, rfl, rfl⟩ := h
    exact wp_skip (hk _ _ hs)
  | region id ops draw =>
    intro K M n e K' M' n' h Q a w hs hk
    simp only [evC] at h
    split at h
    · rename_i K1 M1 n1 h1
      simp only [Option.some.injEq, Prod.mk.injEq] at h
      obtain ⟨rfl, rfl, rfl, rfl⟩ := h
      exact evReg_sound hΓ hΦ hm h1 hs hk
    · cases h
  | seq x y ihx ihy =>
    intro K M n e K' M' n' h Q a w hs hk
    simp only [evC] at h
    split at h
    · rename_i K1 M1 n1 h1
      exact wp_seq (ihx h1 hs fun a' w' hs' => ihy h hs' hk)
    · rename_i hne
      refine wp_seq (ihx h hs fun a' w' hs' => ?_)
      have := hk a' w' hs'
      cases e with
      | normal => exact absurd h (hne _ _ _)
      | _ => exact this
  | cond c x y ihx ihy =>
    intro K M n e K' M' n' h Q a w hs hk
    simp only [evC] at h
    split at h
    · rename_i t ht
      have he : a.eval c = .bool t := by
        obtain ⟨ρ, hW, hf⟩ := hs
        exact hf.ev _ _ ht
      cases t with
      | true => exact wp_cond_true he (ihx h hs hk)
      | false => exact wp_cond_false he (ihy h hs hk)
    · cases h
  | block id x ih =>
    intro K M n e K' M' n' h Q a w hs hk
    simp only [evC] at h
    split at h
    · rename_i id' K1 M1 n1 h1
      refine wp_block (ih h1 hs fun a' w' hs' => ?_)
      cases hb : Nat.beq id' id <;> simp only [hb, cond_false, cond_true, Option.some.injEq, Prod.mk.injEq] at h <;> obtain ⟨rfl, rfl, rfl, rfl⟩ := h
      · simp only [Exit.inBlock, if_neg (Nat.ne_of_beq_eq_false hb)]
        exact hk _ _ hs'
      · simp only [Exit.inBlock, if_pos (Nat.eq_of_beq_eq_true hb)]
        exact hk _ _ hs'
    · rename_i hne
      refine wp_block (ih h hs fun a' w' hs' => ?_)
      have := hk a' w' hs'
      cases e with
      | exit id' => exact absurd h (hne _ _ _ _)
      | _ => exact this
  | loop x ih =>
    intro K M n e K' M' n' h Q a w hs hk
    simp only [evC] at h
    exact wp_loop_rounds fuel (evRounds_sound (fun h => ih h) fuel h hs hk)
  | exit id =>
    intro K M n e K' M' n' h Q a w hs hk
    simp only [evC, Option.some.injEq, Prod.mk.injEq] at h
    obtain ⟨rfl, rfl, rfl, rfl⟩ := h
    exact wp_exit (hk _ _ hs)
  | ret =>
    intro K M n e K' M' n' h Q a w hs hk
    simp only [evC, Option.some.injEq, Prod.mk.injEq] at h
    obtain ⟨rfl, rfl, rfl, rfl⟩ := h
    exact wp_ret (hk _ _ hs)
  | _ => intro K M n e K' M' n' h; simp [evC] at h

/-! ### Functions -/
def initK (K : Tr) : List SV → Nat → Tr
  | [], _ => K
  | v :: l, i => initK (K.set i v) l (i + 1)

theorem initK_get : ∀ (l : List SV) (K : Tr) (i t : Nat) (v : SV), (initK K l i).get t = some v → (i ≤ t ∧ l[t - i]? = some v) ∨ K.get t = some v
  | [], K, i, t, v, h => .inr h
  | x :: l, K, i, t, v, h => by
    rcases initK_get l _ _ _ _ h with ⟨h1, h2⟩ | h
    · refine .inl ⟨by omega, ?_⟩
      rw [show t - i = (t - (i + 1)) + 1 by omega]; simpa using h2
    · rcases Tr.get_set h with ⟨rfl, rfl⟩ | ⟨_, h⟩
      · exact .inl ⟨Nat.le_refl _, by simp⟩
      · exact .inr h

def lowM (n : Nat) : Mem → Mem
  | [] => []
  | (k, r) :: M => bif Nat.blt k n then (k, r) :: lowM n M else lowM n M

theorem lk_lowM {n : Nat} : ∀ {M : Mem} {id : Nat} {r : Reg}, lk (lowM n M) id = some r → lk M id = some r
  | [], id, r, h => by cases h
  | (k, r') :: M, id, r, h => by
    simp only [lowM] at h
    rw [lk_cons]
    cases hb : Nat.blt k n
    · simp only [hb, cond_false] at h
      by_cases e : k = id
      · subst e
        exfalso
        -- a number below n only
        have : ∀ {M : Mem} {id : Nat} {r : Reg}, lk (lowM n M) id = some r → id < n := by
          intro M
          induction M with
          | nil => intro id r h; cases h
          | cons x M ih =>
            obtain ⟨j, s⟩ := x
            intro id r h
            simp only [lowM] at h
            cases hj : Nat.blt j n
            · simp only [hj, cond_false] at h; exact ih h
            · simp only [hj, cond_true, lk_cons] at h
              split at h
              · rename_i e; subst e; exact Nat.le_of_ble_eq_true hj
              · exact ih h
        have := this h
        have h2 : ¬ (k < n) := fun hlt => by
          have h3 : Nat.blt k n = true := Nat.ble_eq_true_of_le hlt
          rw [hb] at h3; cases h3
        exact h2 this
      · rw [if_neg e]; exact lk_lowM h
    · simp only [hb, cond_true, lk_cons] at h
      by_cases e : k = id
      · rw [if_pos e] at h ⊢; exact h
      · rw [if_neg e] at h ⊢; exact lk_lowM h

theorem WR.low {ρ : Env} {M M2 : Mem} {n : Nat} {w : World} (hs : ∀ id r, lk M2 id = some r → lk M id = some r) (h : WR C ρ M n w) : WR C ρ M2 n w :=
  ⟨h.env, h.n0, ⟨fun id r hr => h.rel.cell id r (hs _ _ hr), fun id r id' r' j j' hr hr' => h.rel.apart id r id' r' j j' (hs _ _ hr) (hs _ _ hr')⟩, h.fr, h.base, h.own⟩

/-- What a function hands back. -/
def evRes (Γ : List (Nat × TRow)) (K : Tr) (M : Mem) : List ResultVar → Option SV
  | [] => some .unit
  | [.tmp t] => K.get t
  | [.cell a t] => match K.get a with
    | some (.s (.ptr id off)) => match lk Γ t with
      | some r => match lk M id with
        | some g => ldv r.d r.size g.cells off
        | none => none
      | none => none
    | _ => none
  | _ => none

structure FnI where
  ntmps : Nat
  res : List ResultVar
  code : Code

def isEnd : Exit → Bool
  | .normal => true
  | .ret => true
  | _ => false

def evFun (Γ : List (Nat × TRow)) (Φ : List (Nat × FnS)) (fuel : Nat) (keep : Bool) (fi : FnI) (args : List SV) (M : Mem) (n : Nat) : Option (SV × Mem × Nat) :=
  bif Nat.ble args.length fi.ntmps then (match evC Γ Φ fi.ntmps fuel fi.code (initK (Tr.mk 10) args 0) M n with
    | some (e, K', M', n') => bif isEnd e then (match evRes Γ K' M' fi.res with
      | some v => some (v, (bif keep then M' else lowM n M'), n')
      | none => none) else none
    | none => none) else none

structure FnAt (P : Program) (f : FuncId) (fi : FnI) : Prop where
  ok : ∃ fn, P.funcs[f]? = some fn ∧ fn.body = some fi.code ∧ fn.ntmps = fi.ntmps ∧ fn.results.toList = fi.res ∧ (fn.name == "runtime.NumGoroutine") = false

theorem FnAt.callable {f : FuncId} {fi : FnI} (h : FnAt P f fi) : Callable P f := by
  obtain ⟨fn, h1, h2, _, _, h5⟩ := h.ok
  exact ⟨⟨fn, h1, by rw [h2]; rfl, h5⟩⟩

theorem evRes_sound (hΓ : ∀ t r, lk Γ t = some r → TOK P t r) {ρ : Env} {K : Tr} {M : Mem} {n : Nat} {w : World} {a : Act} (hW : WR C ρ M n w) (hf : FitA ρ K.get n N a) {fn : Func} {v : SV} (h : evRes Γ K M fn.results.toList = some v) :
    (results fn a.tmps).run P w = .ok (v.val ρ) w ∧ v.lt n := by
  have hg : ∀ t u, K.get t = some u → a.tmps[t]?.getD undef = u.val ρ := fun t u hu => by
    rw [(hf.fit t u hu).2]; rfl
  generalize hr : fn.results.toList = rs at h
  have hfr : fn.results = rs.toArray := by rw [← hr]
  unfold results
  rw [hfr]
  unfold evRes at h
  split at h
  · cases h
    refine ⟨?_, trivial⟩
    simp [SV.val]
  · rename_i t
    refine ⟨?_, (hf.fit t v h).1⟩
    simp [hg t v h]
  · rename_i x t
    split at h
    · rename_i id off hx
      split at h
      · rename_i r hr'
        split at h
        · rename_i g hgm
          obtain ⟨g1, g2, g3⟩ := hW.rel.cell id g hgm
          obtain ⟨i, hi, hsz, _⟩ := (hΓ _ _ hr').info
          rw [← hsz] at h
          have hrun := ldv_sound (P := P) (ρ := ρ) (w := w) (hΓ _ _ hr').desc hi (b := (ρ id).1) (o := (ρ id).2) (fun j s hs => (g3 j s hs).2.1) h
          have hv := ldv_lt (n := n) (fun j s hs => (g3 j s hs).1) h
          refine ⟨?_, hv⟩
          have e1 := hg _ _ hx
          simp only [SV.val, SW.val] at e1
          simp only [Instr.loadAt, Instr.sureAddr, Sem.run_bind, Sem.run_pure, Result.andThen_ok] at hrun
          simp [e1, asAddr, hrun]
        · cases h
      · cases h
    · cases h
  · cases h

theorem evFun_sound (hΓ : ∀ t r, lk Γ t = some r → TOK P t r) (hΦ : PhiOK P Φ) (hm : P.follows .mixedOrders = true) {f : FuncId} {fi : FnI} (hfn : FnAt P f fi) {keep : Bool} {args : List SV} {M M' : Mem} {n n' : Nat} {v : SV}
    (h : evFun Γ Φ fuel keep fi args M n = some (v, M', n')) (hargs : ∀ x ∈ args, x.lt n) {ρ : Env} {w : World} (hW : WR C ρ M n w) :
    Calls P f (vals ρ args) w fun e w' => ∃ ρ', v.lt n' ∧ e = .returned (v.val ρ') ∧ WR C ρ' M' n' w' := by
  obtain ⟨fn, h1, h2, h3, h4, h5⟩ := hfn.ok
  unfold evFun at h
  cases hb : Nat.ble args.length fi.ntmps <;> simp only [hb, cond_false, cond_true, reduceCtorEq] at h
  split at h
  · rename_i e K1 M1 n1 hc
    cases he : isEnd e <;> simp only [he, cond_false, cond_true, reduceCtorEq] at h
    split at h
    · rename_i u hu
      simp only [Option.some.injEq, Prod.mk.injEq] at h
      obtain ⟨rfl, rfl, rfl⟩ := h
      have hle := Nat.le_of_ble_eq_true hb
      have hsz : (vals ρ args).size = args.length := by simp [vals]
      refine calls_of_wp h1 h2 (evC_sound hΓ hΦ hm fi.code hc (C := C) ⟨ρ, hW, ⟨fun t x hx => ?_, ?_, rfl⟩⟩ fun a' w' hs => ?_)
      · rcases initK_get _ _ _ _ _ hx with ⟨_, hx⟩ | hx
        · rw [Nat.sub_zero] at hx
          refine ⟨hargs _ (List.mem_of_getElem? hx), ?_⟩
          have hlt : t < args.length := (List.getElem?_eq_some_iff.1 hx).1
          simp only
          rw [Array.getElem?_append_left (by omega)]
          simp [vals, hx]
        · rw [Tr.get_mk] at hx; cases hx
      · simp only [Array.size_append, hsz, Array.size_replicate, h3]; omega
      · obtain ⟨ρ', hW', hf'⟩ := hs
        rw [← h4] at hu
        obtain ⟨r1, r2⟩ := evRes_sound hΓ hW' hf' hu
        have hfin : a'.defers = [] ∧ ∃ v, (results fn a'.tmps).run P w' = .ok v w' ∧ (fun (e : Ending) w' => ∃ ρ', u.lt n1 ∧ e = .returned (u.val ρ') ∧ WR C ρ' (bif keep then M1 else lowM n M1) n1 w') (.returned v) w' := by
          refine ⟨hf'.defs, u.val ρ', r1, ρ', r2, rfl, ?_⟩
          cases keep
          · exact hW'.low fun id r hr => lk_lowM hr
          · exact hW'
        cases e <;> first | exact hfin | cases he
    · cases h
  · cases h

theorem fnOK_eff (hΓ : ∀ t r, lk Γ t = some r → TOK P t r) (hΦ : PhiOK P Φ) (hm : P.follows .mixedOrders = true) {f : FuncId} {fi : FnI} (hfn : FnAt P f fi) (keep : Bool) : FnOK P f (.eff (evFun Γ Φ fuel keep fi)) := by
  intro args M n v M' n' h hargs C ρ w hW
  let C2 : Ctx := ⟨C.may, C.B, ρ, n, w⟩
  have hW2 : WR C2 ρ M n w := ⟨fun _ _ => rfl, Nat.le_refl _, hW.rel, Fr.refl _ _, hW.base, hW.own⟩
  refine (evFun_sound hΓ hΦ hm hfn h hargs hW2).mono fun e w' ⟨ρ', h1, h2, h3⟩ => ?_
  exact ⟨ρ', fun i hi => h3.env i hi, h3.n0, h1, h2, ⟨fun i hi => (h3.env i (Nat.lt_of_lt_of_le hi hW.n0)).trans (hW.env i hi), Nat.le_trans hW.n0 h3.n0, h3.rel, hW.fr.trans h3.fr, h3.base, h3.own⟩⟩

def SW.free : SW → Bool
  | .ptr _ _ => false
  | .slc _ _ _ _ => false
  | .own _ _ => false
  | .raw _ => false
  | _ => true

def SV.free : SV → Bool
  | .s x => x.free
  | .agg cs => cs.all SW.free
  | .unit => true

theorem SW.lt_of_free {x : SW} (h : x.free = true) : x.lt 0 := by cases x <;> first | trivial | cases h
theorem SV.lt_of_free {x : SV} (h : x.free = true) : x.lt 0 := by
  cases x with
  | s x => exact SW.lt_of_free h
  | agg cs => exact fun y hy => SW.lt_of_free (List.all_eq_true.1 h y hy)
  | unit => trivial

def evPure (Γ : List (Nat × TRow)) (Φ : List (Nat × FnS)) (fuel : Nat) (fi : FnI) (args : List SV) : Option SV :=
  bif args.all SV.free then (match evFun Γ Φ fuel false fi args [] 0 with
    | some (v, _, _) => bif v.free then some v else none
    | none => none) else none

theorem fr_false {B : Nat} {w w' : World} (h : Fr (fun p => B ≤ p.block) w w') (hB : B = w.heap.size) : Fr (fun _ => False) w w' := by
  refine ⟨⟨h.kept.1, h.kept.2.1, fun i hi => ?_⟩, h.frozen, h.size, h.tape⟩
  have := h.kept.2.2 i hi
  have hn : ¬ B ≤ i := by omega
  revert this
  cases w.heap[i]? with
  | none => exact id
  | some o =>
    cases w'.heap[i]? with
    | none => cases o <;> exact id
    | some o' =>
      cases o <;> cases o' <;> first | exact id | skip
      · exact fun hh => ⟨hh.1, hh.2.1, hh.2.2.1, fun j _ => hh.2.2.2 j hn⟩
      · exact fun hh => .inr (hh.resolve_left hn)

theorem fnOK_pure (hΓ : ∀ t r, lk Γ t = some r → TOK P t r) (hΦ : PhiOK P Φ) (hm : P.follows .mixedOrders = true) {f : FuncId} {fi : FnI} (hfn : FnAt P f fi) : FnOK P f (.pure (evPure Γ Φ fuel fi)) := by
  intro args v h
  unfold evPure at h
  cases ha : args.all SV.free <;> simp only [ha, cond_false, cond_true, reduceCtorEq] at h
  split at h
  · rename_i u M' n' hu
    cases hv : u.free <;> simp only [hv, cond_false, cond_true, reduceCtorEq, Option.some.injEq] at h
    subst h
    refine ⟨SV.lt_of_free hv, fun ρ w => ?_⟩
    let C2 : Ctx := ⟨fun p => w.heap.size ≤ p.block, w.heap.size, ρ, 0, w⟩
    have hW2 : WR C2 ρ [] 0 w := ⟨fun _ _ => rfl, Nat.le_refl _, ⟨fun id r h => (nomatch h), fun id r _ _ _ _ h => (nomatch h)⟩, Fr.refl _ _, Nat.le_refl _, fun b o h => h⟩
    refine (evFun_sound hΓ hΦ hm hfn hu (fun x hx => SV.lt_of_free (List.all_eq_true.1 ha x hx)) hW2).mono fun e w' ⟨ρ', h1, h2, h3⟩ => ⟨?_, fr_false h3.fr rfl⟩
    rw [h2]
    congr 1
    exact SV.val_congr (n := 0) (fun i hi => absurd hi (Nat.not_lt_zero i)) (SV.lt_of_free hv)
  · cases h

/-- A summary may be replaced by what it yields. -/
theorem FnOK.pure_mono {f : FuncId} {g g' : List SV → Option SV} (h : FnOK P f (.pure g)) (hg : ∀ a v, g' a = some v → g a = some v) : FnOK P f (.pure g') := fun a v hv => h a v (hg a v hv)
theorem FnOK.eff_mono {f : FuncId} {g g' : List SV → Mem → Nat → Option (SV × Mem × Nat)} (h : FnOK P f (.eff g)) (hg : ∀ a M n v, g' a M n = some v → g a M n = some v) : FnOK P f (.eff g') := fun a M n v M' n' hv => h a M n v M' n' (hg a M n _ hv)
end
end CI
end Go.Proofs.Yteooohmlmefbnaa
