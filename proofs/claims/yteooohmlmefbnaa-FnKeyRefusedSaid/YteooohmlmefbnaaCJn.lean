/-
  Runs of straight code over words that stay open (part 13: operations on slices that grow). Each step is proved sound against the model.
  Conditions: none; it proves no statement by itself.
-/
import Derived.Test.YteooohmlmefbnaaCJm
import Derived.Laws.MakeOwn
namespace Go.Proofs.Yteooohmlmefbnaa
namespace CI
open Go

structure SRow where
  e : TypeId
  b : Nat
  z : SW

structure SRowOK (P : Program) (t : TypeId) (r : SRow) : Prop where
  ex : ∃ i zz, P.underlying t = some (.slice r.e) ∧ P.info? r.e = some i ∧ i.zero = some zz ∧ i.size = 1 ∧ i.bytes = r.b ∧ zz.cells = #[r.z.val (fun _ => (0, 0))]
  free : r.z.lt 0

theorem SRowOK.sli {P : Program} {t : TypeId} {r : SRow} (h : SRowOK P t r) : SliOK P t r.e r.b := by
  obtain ⟨i, zz, h1, h2, h3, h4, h5, h6⟩ := h.ex
  exact ⟨i, zz, h1, h2, h3, h4, h5, by rw [h6]; rfl⟩

abbrev GO := List SV → Mem → OT → Nat → Option (SV × Mem × OT × Nat)

def FnOKO (P : Program) (f : FuncId) (g : GO) : Prop := ∀ args M O n v M' O' n', g args M O n = some (v, M', O', n') → (∀ x ∈ args, x.lt n) → ∀ C ρ w, WR C ρ M n w → OwnOK C ρ M O n w →
  Calls P f (vals ρ args) w fun e w' => ∃ ρ', (∀ i, i < n → ρ' i = ρ i) ∧ n ≤ n' ∧ v.lt n' ∧ e = .returned (v.val ρ') ∧ WR C ρ' M' n' w' ∧ OwnOK C ρ' M' O' n' w'

def PhiOKO (P : Program) (Ψ : List (Nat × GO)) : Prop := ∀ f g, lk Ψ f = some g → Callable P f ∧ FnOKO P f g

/-- Where a slice's cells lie in the known memory. -/
def cellsOfS (M : Mem) : SV → Option (List SW)
  | .s (.slc id off len _) => match lk M id with
    | some g => bif Nat.beq ((g.cells.drop off).take len).length len then some ((g.cells.drop off).take len) else none
    | none => none
  | .s (.own id len) => match lk M id with
    | some g => bif Nat.beq (g.cells.take len).length len then some (g.cells.take len) else none
    | none => none
  | _ => none

def isNilS : SV → Bool
  | .s (.raw (.slice none _ _)) => true
  | _ => false

def isSomeS : SV → Bool
  | .s (.slc _ _ _ _) => true
  | .s (.own _ _) => true
  | _ => false

/-- The operations beside the elder evaluator's. -/
def evN (Ω : List (Nat × SRow)) (Ψ : List (Nat × GO)) (E : Operand → Option SV) (M : Mem) (O : OT) (n : Nat) (op : Op) : Option (Option (SV × Mem × OT × Nat)) :=
  match op with
  | .call c => match c.callee with
    | .builtin .append => some (match c.args.toList, c.argTypes.toList with
      | [x, y], [t, t'] => match lk Ω t with
        | some r => match E x with
          | some (.s (.own id len)) => match E y with
            | some vy => match cellsOfS M vy with
              | some news => match lk O id with
                | some e => match lk M id with
                  | some g => bif Nat.beq t t' && (Nat.beq e r.e && (Nat.beq g.cells.length len && (news.all SW.cellOk && (Nat.ble (len + news.length) 9223372036854775807 && Nat.ble ((len + news.length) * r.b) 140737488355328)))) then
                      some (.s (.own n (len + news.length)), (n, ⟨g.cells ++ news, false⟩) :: rem id M, (n, e) :: rem id O, n + 2) else none
                  | none => none
                | none => none
              | none => none
            | none => none
          | _ => none
        | none => none
      | _, _ => none)
    | .value (.func f) => match lk Ψ f with
      | some g => some (match evArgs E c.args.toList with
        | some vs => g vs M O n
        | none => none)
      | none => none
    | .builtin .len => match c.args.toList with
      | [x] => match E x with
        | some (.s (.own _ len)) => some (match c.argTypes.toList with
          | [t] => match lk Ω t with
            | some _ => some (.s (.int (Int.ofNat len)), M, O, n)
            | none => none
          | _ => none)
        | _ => none
      | _ => none
    | _ => none
  | .buildSlice t len parts => some (match lk Ω t with
    | some r => bif Nat.beq len 0 && parts.isEmpty then some (.s (.own n 0), (n, ⟨[], false⟩) :: rem n M, (n, r.e) :: rem n O, n + 2) else none
    | none => none)
  | .makeSlice t l c => some (match lk Ω t with
    | some r => match E l with
      | some (.s (.int (.ofNat L))) => match E c with
        | some (.s (.int (.ofNat L'))) => bif Nat.beq L L' && (Nat.blt 0 L && (r.z.cellOk && (Nat.ble L 9223372036854775807 && Nat.ble (L * r.b) 140737488355328))) then
            some (.s (.slc n 0 L 0), (n, ⟨List.replicate L r.z, true⟩) :: M, O, n + 1) else none
        | _ => none
      | _ => none
    | none => none)
  | .indexAddr t x i => match E x with
    | some (.s (.own id len)) => some (match lk Ω t with
      | some _ => match E i with
        | some (.s (.int (.ofNat j))) => bif Nat.blt j len then some (.s (.ptr id j), M, O, n) else none
        | _ => none
      | none => none)
    | _ => none
  | .binOp .eql t x y _ => match E x with
    | some vx => match E y with
      | some vy => bif isSomeS vx && isNilS vy then some (match lk Ω t with
        | some _ => some (.s (.bool false), M, O, n)
        | none => none) else none
      | none => none
    | none => none
  | _ => none

def ev1O (Γ : List (Nat × TRow)) (Ω : List (Nat × SRow)) (Φ : List (Nat × FnS)) (Ψ : List (Nat × GO)) (E : Operand → Option SV) (M : Mem) (O : OT) (n : Nat) (op : Op) : Option (SV × Mem × OT × Nat) :=
  match evN Ω Ψ E M O n op with
  | some r => r
  | none => match ev1 Γ Φ E M n op with
    | some (v, M', n') => bif keepO M M' O n then some (v, M', O, n') else none
    | none => none

section
variable {P : Program} {Γ : List (Nat × TRow)} {Ω : List (Nat × SRow)} {Φ : List (Nat × FnS)} {Ψ : List (Nat × GO)} {C : Ctx}

theorem cellsOfS_spec {ρ : Env} {M : Mem} {n : Nat} {w : World} (hW : WR C ρ M n w) {v : SV} {cs : List SW} (h : cellsOfS M v = some cs) :
    ∃ ad c, v.val ρ = .slice (some ad) cs.length c ∧ ∀ (j : Nat) s, cs[j]? = some s → s.lt n ∧ w.cell? (ad.add j) = some (s.val ρ) := by
  unfold cellsOfS at h
  split at h
  · rename_i id off len ext
    split at h
    · rename_i g hg
      cases hb : Nat.beq ((g.cells.drop off).take len).length len <;> simp only [hb, cond_false, cond_true, reduceCtorEq, Option.some.injEq] at h
      subst h
      have hl := Nat.eq_of_beq_eq_true hb
      obtain ⟨_, _, g3⟩ := hW.rel.cell id g hg
      refine ⟨⟨(ρ id).1, (ρ id).2 + off, none⟩, len + ext, by rw [hl]; rfl, fun j s hs => ?_⟩
      rw [List.getElem?_take] at hs
      split at hs
      · rw [List.getElem?_drop] at hs
        obtain ⟨k1, k2, _⟩ := g3 _ s hs
        exact ⟨k1, by rw [addr_add, Nat.add_assoc]; exact k2⟩
      · cases hs
    · cases h
  · rename_i id len
    split at h
    · rename_i g hg
      cases hb : Nat.beq (g.cells.take len).length len <;> simp only [hb, cond_false, cond_true, reduceCtorEq, Option.some.injEq] at h
      subst h
      have hl := Nat.eq_of_beq_eq_true hb
      obtain ⟨_, _, g3⟩ := hW.rel.cell id g hg
      refine ⟨⟨(ρ id).1, (ρ id).2, none⟩, (ρ (id + 1)).1, by rw [hl]; rfl, fun j s hs => ?_⟩
      rw [List.getElem?_take] at hs
      split at hs
      · obtain ⟨k1, k2, _⟩ := g3 _ s hs
        exact ⟨k1, by rw [addr_add]; exact k2⟩
      · cases hs
    · cases h
  · cases h

theorem run_eqGuard_slice {o : BinOp} {t : TypeId} {x y : Operand} {a b : Option Addr} {l c l' c' : Nat} {w : World} : (eqGuard o t x y (.slice a l c) (.slice b l' c')).run P w = .ok () w := by
  cases o <;> rfl

theorem own_fresh {ρ : Env} {M : Mem} {O : OT} {n : Nat} {w : World} (hW : WR C ρ M n w) (hO : OwnOK C ρ M O n w) (e : TypeId) :
    WR C (newE ρ n w.heap.size 0) ((n, ⟨[], false⟩) :: rem n M) (n + 2) (w.alloc (.cells #[] e)) ∧ OwnOK C (newE ρ n w.heap.size 0) ((n, ⟨[], false⟩) :: rem n M) ((n, e) :: rem n O) (n + 2) (w.alloc (.cells #[] e)) := by
  refine own_new hW hO n (Fr.alloc _ _ _ _) (cur := #[]) (heap_alloc_new w _) rfl (Nat.zero_le _) (fun o => hW.own _ o hW.base) (Nat.zero_le _) (fun j s hs => by simp at hs) (fun id r hr _ => ?_)
  obtain ⟨_, p2, p3⟩ := hW.rel.cell id r hr
  refine ⟨by omega, fun j s hs => ?_⟩
  rw [World.cell?_alloc_lt _ _ _ (by simpa using p2)]
  exact (p3 j s hs).2.1

/-- A new block of known cells beside the own slices. -/
theorem own_alloc {ρ : Env} {M : Mem} {O : OT} {n : Nat} {w : World} (hW : WR C ρ M n w) (hO : OwnOK C ρ M O n w) (cs : List SW) (hcs : ∀ x ∈ cs, x.lt n) (hne : cs ≠ []) (t : TypeId) :
    WR C (upE ρ n (w.heap.size, 0)) ((n, ⟨cs, true⟩) :: M) (n + 1) (w.alloc (.cells (cs.map (SW.val ρ)).toArray t)) ∧ OwnOK C (upE ρ n (w.heap.size, 0)) ((n, ⟨cs, true⟩) :: M) O (n + 1) (w.alloc (.cells (cs.map (SW.val ρ)).toArray t)) := by
  have hin := (hO.inner hW).alloc cs hcs t
  refine hO.outer hW ?_ hin
  simp only [keepO, Bool.and_eq_true, List.all_eq_true]
  have hmem : ∀ {α : Type} {l : List (Nat × α)} {x : Nat × α}, x ∈ l → ∃ v, lk l x.1 = some v := fun {α l x} => by
    induction l with
    | nil => intro h; cases h
    | cons y l ih =>
      obtain ⟨k, v⟩ := y
      intro h
      rw [lk_cons]
      by_cases e : k = x.1
      · exact ⟨v, if_pos e⟩
      · rw [if_neg e]
        rcases List.mem_cons.1 h with rfl | h
        · exact absurd rfl e
        · exact ih h
  refine ⟨fun x hx => ?_, fun x hx => ?_⟩
  · rcases List.mem_cons.1 hx with rfl | hx
    · have : Nat.blt n n = false := by
        cases hb : Nat.blt n n
        · rfl
        · have h1 : n < n := Nat.le_of_ble_eq_true hb
          omega
      simp only [this, cond_false]
      cases cs with
      | nil => exact absurd rfl hne
      | cons _ _ => rfl
    · obtain ⟨v, hv⟩ := hmem hx
      have hlt := (hW.rel.cell _ _ hv).1
      have : Nat.blt x.1 n = true := Nat.ble_eq_true_of_le hlt
      simp only [this, cond_true, hv]
      rfl
  · obtain ⟨v, hv⟩ := hmem hx
    obtain ⟨h1, _, _, _, _, r, h7, h8, _⟩ := hO.at_ _ _ hv
    have hne' : ¬ n = x.1 := by omega
    simp only [h7, lk_cons, if_neg hne', h8]
    simp

theorem run_eql_nilS (w : World) (t e : TypeId) (a : Option Addr) (n c n' c' : Nat) (h : P.underlying t = some (.slice e)) :
    (binOp .eql t (.slice a n c) (.slice none n' c')).run P w = .ok (.bool a.isNone) w := by
  have h0 : ∀ d, (Op.equalIn (d + 1) t (.slice a n c) (.slice none n' c')).run P w = .ok a.isNone w := fun d => by
    cases a <;> simp [Op.equalIn, run_underlying h]
  simp only [binOp]
  simp [Op.equal, Op.maxDepth, h0 9999]

theorem evN_sound (hΩ : ∀ t r, lk Ω t = some r → SRowOK P t r) (hΨ : PhiOKO P Ψ) {ρ : Env} {M M' : Mem} {O O' : OT} {n n' : Nat} {w : World} {a : Act} {E : Operand → Option SV} {v : SV} (hE : ∀ x v, E x = some v → a.eval x = v.val ρ) (hl : ∀ x v, E x = some v → v.lt n)
    (hW : WR C ρ M n w) (hO : OwnOK C ρ M O n w) {o : Oper} (h : evN Ω Ψ E M O n o.op = some (some (v, M', O', n'))) {next : Act → World → Prop} {Q : Exit → Act → World → Prop}
    (hk : ∀ ρ' w', (∀ i, i < n → ρ' i = ρ i) → n ≤ n' → v.lt n' → WR C ρ' M' n' w' → OwnOK C ρ' M' O' n' w' → next (a.put o.dst (v.val ρ')) w') : o.wp P a w next Q := by
  obtain ⟨dst, op, ty, pos, after, guard⟩ := o
  simp only at h hk
  unfold evN at h
  split at h
  · rename_i c
    obtain ⟨callee, args, ats⟩ := c
    simp only at h
    split at h
    · -- append
      simp only [Option.some.injEq] at h
      split at h
      · rename_i x y t t' hargs hats
        split at h
        · rename_i r hr
          split at h
          · rename_i id len hx
            split at h
            · rename_i vy hy
              split at h
              · rename_i news hnews
                split at h
                · rename_i e he
                  split at h
                  · rename_i g hg
                    cases hb : (Nat.beq t t' && (Nat.beq e r.e && (Nat.beq g.cells.length len && (news.all SW.cellOk && (Nat.ble (len + news.length) 9223372036854775807 && Nat.ble ((len + news.length) * r.b) 140737488355328))))) <;> simp only [hb, cond_false, cond_true, reduceCtorEq, Option.some.injEq, Prod.mk.injEq] at h
                    obtain ⟨rfl, rfl, rfl, rfl⟩ := h
                    simp only [Bool.and_eq_true] at hb
                    obtain ⟨b1, b2, b3, b4, b5, b6⟩ := hb
                    have e1 := Nat.eq_of_beq_eq_true b1
                    have e2 := Nat.eq_of_beq_eq_true b2
                    have e3 := Nat.eq_of_beq_eq_true b3
                    subst e1 e3
                    obtain ⟨ad, c, hv, hcs⟩ := cellsOfS_spec hW hnews
                    have hax : args = #[x, y] := by cases args; simp_all
                    have hat : ats = #[t, t] := by cases ats; simp_all
                    subst hax; subst hat
                    obtain ⟨w', ρ', q1, q2, q3, q4⟩ := own_append (P := P) (ty := ty) hW hO (e2 ▸ (hΩ _ _ hr).sli) he hg (ad := ad) (c := c) rfl hcs (List.all_eq_true.1 b4) (Nat.le_of_ble_eq_true b5) (Nat.le_of_ble_eq_true b6)
                    have ex := hE _ _ hx
                    have ey := hE _ _ hy
                    rw [hv] at ey
                    unfold Oper.wp execOp
                    simp only [resolve, invoke, builtin, Sem.run_bind, Sem.run_pure, Result.andThen_ok, List.map_toArray, List.map_cons, List.map_nil, ex, ey, SV.val, q1]
                    exact hk ρ' w' q2 (by omega) (by show n + 1 < n + 2; omega) q3 q4
                  · cases h
                · cases h
              · cases h
            · cases h
          · cases h
        · cases h
      · cases h
    · rename_i f
      split at h
      · rename_i g hg
        simp only [Option.some.injEq] at h
        split at h
        · rename_i vs hvs
          obtain ⟨hcal, hok⟩ := hΨ _ _ hg
          have hrun := run_call (P := P) (w := w) hcal a dst ty pos after guard args ats
          have hargs : args.map a.eval = vals ρ vs := by
            have := evArgs_sound (ρ := ρ) hE hvs
            unfold vals; rw [← this]; exact map_arr _ _
          rw [hargs] at hrun
          unfold Oper.wp
          rw [hrun]
          refine (hok vs M O n v M' O' n' h (evArgs_lt hl hvs) C ρ w hW hO).mono fun e w' ⟨ρ', q1, q2, q3, he, q4, q5⟩ => ?_
          subst he
          exact hk ρ' w' q1 q2 q3 q4 q5
        · cases h
      · cases h
    · split at h
      · rename_i x hx
        split at h
        · rename_i id len hxx
          simp only [Option.some.injEq] at h
          split at h
          · rename_i t ht
            split at h
            · rename_i r hr
              simp only [Option.some.injEq, Prod.mk.injEq] at h
              obtain ⟨rfl, rfl, rfl, rfl⟩ := h
              obtain ⟨i, zz, hu, _⟩ := (hΩ _ _ hr).ex
              have hax : args = #[x] := by cases args; simp_all
              have hat : ats = #[t] := by cases ats; simp_all
              subst hax; subst hat
              have e1 := hE _ _ hxx
              simp only [SV.val, SW.val] at e1
              have hrun : (execOp a.eval { dst, op := .call { callee := .builtin .len, args := #[x], argTypes := #[t] }, type := ty, pos, after, guard }).run P w = .ok (.value (.int .i64 (len : Int))) w := by
                rw [BigFrame.execOp_builtin, BigFrame.builtin_len]
                simp [Builtin.len_, run_underlying hu, e1, goInt]
              unfold Oper.wp
              rw [hrun]
              exact hk ρ w (fun _ _ => rfl) (Nat.le_refl _) trivial hW hO
            · cases h
          · cases h
        · cases h
      · cases h
    · cases h
  · rename_i t len parts
    simp only [Option.some.injEq] at h
    split at h
    · rename_i r hr
      cases hb : (Nat.beq len 0 && parts.isEmpty) <;> simp only [hb, cond_false, cond_true, reduceCtorEq, Option.some.injEq, Prod.mk.injEq] at h
      obtain ⟨rfl, rfl, rfl, rfl⟩ := h
      simp only [Bool.and_eq_true] at hb
      have e0 := Nat.eq_of_beq_eq_true hb.1
      subst e0
      have hp : parts = #[] := by simpa using hb.2
      subst hp
      obtain ⟨i, zz, hu, hi, hz, hsz, hib, hzc⟩ := (hΩ _ _ hr).ex
      obtain ⟨q1, q2⟩ := own_fresh hW hO r.e
      have hh := hk _ _ (fun i hi => newE_lt hi) (by omega) (by show n + 1 < n + 2; omega) q1 q2
      have hrun : (execOp a.eval { dst, op := .buildSlice t 0 #[], type := ty, pos, after, guard }).run P w = .ok (.value (.slice (some ⟨w.heap.size, 0, none⟩) 0 0)) (w.alloc (.cells #[] r.e)) := by
        simp [execOp, Instr.buildSlice, run_underlying hu, run_sizeOf hi, Instr.fill, newRow, newObj, Sem.run]
        rw [show Array.map (fun _ => (default : Value)) (Array.range 0) = #[] from Array.eq_empty_of_size_eq_zero (by simp)]
      unfold Oper.wp
      rw [hrun]
      simp only [SV.val, SW.val, newE_n, newE_n1] at hh
      exact hh
    · cases h
  · rename_i t l c
    simp only [Option.some.injEq] at h
    split at h
    · rename_i r hr
      split at h
      · rename_i L hL
        split at h
        · rename_i L' hL'
          cases hb : (Nat.beq L L' && (Nat.blt 0 L && (r.z.cellOk && (Nat.ble L 9223372036854775807 && Nat.ble (L * r.b) 140737488355328)))) <;> simp only [hb, cond_false, cond_true, reduceCtorEq, Option.some.injEq, Prod.mk.injEq] at h
          obtain ⟨rfl, rfl, rfl, rfl⟩ := h
          simp only [Bool.and_eq_true] at hb
          obtain ⟨b1, b2, b3, b4, b5⟩ := hb
          have e0 := Nat.eq_of_beq_eq_true b1
          subst e0
          have p1 : 0 < L := Nat.le_of_ble_eq_true b2
          have p2 := Nat.le_of_ble_eq_true b4
          have p3 := Nat.le_of_ble_eq_true b5
          obtain ⟨i, zz, hu, hi, hz, hsz, hib, hzc⟩ := (hΩ _ _ hr).ex
          have hfree := (hΩ _ _ hr).free
          have e1 := hE _ _ hL
          have e2 := hE _ _ hL'
          simp only [SV.val, SW.val] at e1 e2
          have hzv : r.z.val (fun _ => (0, 0)) = r.z.val ρ := (SW.val_congr (n := 0) (fun i hi => absurd hi (Nat.not_lt_zero i)) hfree)
          have hrun0 := run_make (P := P) w t r.e i zz hu hi hz .i64 .i64 (Int.ofNat L) (Int.ofNat L) (Int.natCast_nonneg L) (Int.le_refl _) (by
            rw [hib]
            have : ((L * r.b : Nat) : Int) ≤ 140737488355328 := by omega
            rw [Int.natCast_mul] at this
            rw [Int.mul_comm]
            exact Int.le_trans this (by decide)) (by show (L : Int) ≤ _; omega)
          have hcells : madeCells zz.cells ((Int.ofNat L).toNat * i.size) = ((List.replicate L r.z).map (SW.val ρ)).toArray := by
            rw [hsz, Nat.mul_one, hzc, hzv]
            apply Array.ext
            · simp [madeCells]
            · intro j h1 h2
              simp [madeCells, Nat.mod_one]
          rw [hcells] at hrun0
          obtain ⟨q1, q2⟩ := own_alloc hW hO (List.replicate L r.z) (fun x hx => by rw [List.eq_of_mem_replicate hx]; exact SW.lt_mono (Nat.zero_le n) hfree) (by intro h; have := congrArg List.length h; simp at this; omega) r.e
          have hh := hk _ _ (fun i hi => upE_lt i hi) (Nat.le_succ _) (Nat.lt_succ_self _) q1 q2
          unfold Oper.wp
          simp only [execOp, e1, e2, Sem.run_bind, hrun0, Result.andThen_ok]
          simpa [Oper.upon, SV.val, SW.val, upE] using hh
        · cases h
      · cases h
    · cases h
  · rename_i t x i
    split at h
    · rename_i id len hx
      simp only [Option.some.injEq] at h
      split at h
      · rename_i r hr
        split at h
        · rename_i j hj
          cases hb : Nat.blt j len <;> simp only [hb, cond_false, cond_true, reduceCtorEq, Option.some.injEq, Prod.mk.injEq] at h
          obtain ⟨rfl, rfl, rfl, rfl⟩ := h
          have hlt : j < len := Nat.le_of_ble_eq_true hb
          obtain ⟨inf, zz, hu, hi, hz, hsz, hib, hzc⟩ := (hΩ _ _ hr).ex
          have e1 := hE _ _ hx
          have e2 := hE _ _ hj
          simp only [SV.val, SW.val] at e1 e2
          have hlx : id + 1 < n := hl _ _ hx
          have hrun : (execOp a.eval { dst, op := .indexAddr t x i, type := ty, pos, after, guard }).run P w = .ok (.value (.pointer (some ⟨(ρ id).1, (ρ id).2 + j, none⟩))) w := by
            have hjn : (0 : Int) ≤ Int.ofNat j ∧ Int.ofNat j < (len : Int) := ⟨by simp, by simpa using hlt⟩
            simp only [execOp, Instr.indexAt, e1, e2, asIntOf, Sem.run_bind, Sem.run_pure, Result.andThen_ok, run_underlying hu, if_pos hjn, run_sizeOf hi, hsz]
            simp [addr_add]
          unfold Oper.wp
          rw [hrun]
          exact hk ρ w (fun _ _ => rfl) (Nat.le_refl _) (by show id < n; omega) hW hO
        · cases h
      · cases h
    · cases h
  · rename_i t x y yt
    split at h
    · rename_i vx hx
      split at h
      · rename_i vy hy
        cases hb : (isSomeS vx && isNilS vy) <;> simp only [hb, cond_false, cond_true, reduceCtorEq, Option.some.injEq] at h
        simp only [Bool.and_eq_true] at hb
        split at h
        · rename_i r hr
          simp only [Option.some.injEq, Prod.mk.injEq] at h
          obtain ⟨rfl, rfl, rfl, rfl⟩ := h
          obtain ⟨inf, zz, hu, _⟩ := (hΩ _ _ hr).ex
          have e1 := hE _ _ hx
          have e2 := hE _ _ hy
          obtain ⟨ad, l1, c1, hv1⟩ : ∃ ad l1 c1, vx.val ρ = .slice (some ad) l1 c1 := by
            unfold isSomeS at hb
            split at hb <;> first | exact ⟨_, _, _, rfl⟩ | (have := hb.1; cases this)
          obtain ⟨l2, c2, hv2⟩ : ∃ l2 c2, vy.val ρ = .slice none l2 c2 := by
            unfold isNilS at hb
            have hb2 := hb.2
            split at hb2 <;> first | exact ⟨_, _, rfl⟩ | cases hb2
          rw [hv1] at e1
          rw [hv2] at e2
          have hrun : (execOp a.eval { dst, op := .binOp .eql t x y yt, type := ty, pos, after, guard }).run P w = .ok (.value (.bool false)) w := by
            simp only [execOp, e1, e2, Sem.run_bind, run_eqGuard_slice, Result.andThen_ok, run_eql_nilS w t r.e (some ad) l1 c1 l2 c2 hu]
            rfl
          unfold Oper.wp
          rw [hrun]
          exact hk ρ w (fun _ _ => rfl) (Nat.le_refl _) trivial hW hO
        · cases h
      · cases h
    · cases h
  · cases h
end
end CI
end Go.Proofs.Yteooohmlmefbnaa
