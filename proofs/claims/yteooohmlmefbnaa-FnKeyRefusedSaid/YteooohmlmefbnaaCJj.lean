/-
  Runs of straight code over words that stay open (part 9: a drawn region of loads of old memory, new variables and their first stores: the order told by names that go by place). Each step is proved sound against the model.
  Conditions: none; it proves no statement by itself.
-/
import Derived.Test.YteooohmlmefbnaaCJf
namespace Go.Proofs.Yteooohmlmefbnaa
namespace CI
open Go

inductive KD where
  | ld
  | al (z : List SW) (t : TypeId)
  | st (j l : Nat) (vs : List SW)

abbrev Tab := List (SV × KD)

def hasEdge (o : Oper) (j : Nat) : Bool := o.after.toList.any fun e => Region.binds .any e && Nat.beq e.on j

def findDst (ops : List Oper) (a : Tmp) (i : Nat) : Option Nat :=
  match ops with
  | [] => none
  | o :: l => match o.dst with
    | some d => bif Nat.beq d a then some i else findDst l a (i + 1)
    | none => findDst l a (i + 1)

def noDst (ops : List Oper) (a : Tmp) : Bool := ops.all fun o => match o.dst with
  | some d => !Nat.beq d a
  | none => true

def ent (Γ : List (Nat × TRow)) (N : Nat) (all : List Oper) (K : Tr) (M : Mem) (n : Nat) (acc : Tab) (o : Oper) : Option (SV × KD) :=
  match o.guard with
  | some _ => none
  | none => bif dstOk N o.dst then (match o.op with
    | .load t (.tmp a) => bif noDst all a then (match evL Γ (evX K) M (.load t (.tmp a)) with
      | some v => some (v, .ld)
      | none => none) else none
    | .alloc t => match lk Γ t with
      | some r => match r.zero.cells? with
        | some z => some (.s (.ptr (n + acc.length) 0), .al z t)
        | none => none
      | none => none
    | .store t (.tmp a) (.tmp b) => match o.dst with
      | some _ => none
      | none => match lk Γ t with
        | some r => match findDst all a 0 with
          | some j => match findDst all b 0 with
            | some l => match nth acc j with
              | some (.s (.ptr id off), .al z _) => match nth acc l with
                | some (v, .ld) => match v.cells? with
                  | some vs => bif Nat.beq id (n + j) && (Nat.beq off 0 && (Nat.beq vs.length r.size && (Nat.beq vs.length z.length && (vs.all SW.cellOk && (hasEdge o j && hasEdge o l))))) then some (.unit, .st j l vs) else none
                  | none => none
                | _ => none
              | _ => none
            | none => none
          | none => none
        | none => none
    | _ => none) else none

def mkTab (Γ : List (Nat × TRow)) (N : Nat) (all : List Oper) (K : Tr) (M : Mem) (n : Nat) : List Oper → Tab → Option Tab
  | [], acc => some acc
  | o :: l, acc => match ent Γ N all K M n acc o with
    | some e => mkTab Γ N all K M n l (acc ++ [e])
    | none => none

/-- The store into a new variable. -/
def stO (j : Nat) : Tab → Nat → Option (Nat × List SW)
  | [], _ => none
  | (_, .st j' _ vs) :: T, i => bif Nat.beq j' j then some (i, vs) else stO j T (i + 1)
  | _ :: T, i => stO j T (i + 1)

def content (T : Tab) (L : Nat → Bool) (j : Nat) (z : List SW) : List SW :=
  match stO j T 0 with
  | some (i, vs) => bif L i then vs else z
  | none => z

def MT (T : Tab) (M : Mem) (n : Nat) (L : Nat → Bool) : Nat → Mem
  | 0 => M
  | j + 1 => match nth T j with
    | some (_, .al z _) => bif L j then (n + j, ⟨content T L j z, true⟩) :: MT T M n L j else MT T M n L j
    | _ => MT T M n L j

def RT (T : Tab) (i : Nat) : SV := match nth T i with
  | some (v, _) => v
  | none => .unit

def dstsOk : List Oper → Bool
  | [] => true
  | o :: l => (match o.dst with
    | some d => noDst l d
    | none => true) && dstsOk l

/-- Each store is the only one into its variable. -/
def onceOk (T : Tab) : Tab → Nat → Bool
  | [], _ => true
  | (_, .st j _ _) :: l, i => (match stO j T 0 with
    | some (i', _) => Nat.beq i' i
    | none => false) && onceOk T l (i + 1)
  | _ :: l, i => onceOk T l (i + 1)

section
variable {P : Program} {Γ : List (Nat × TRow)} {C : Ctx} {N : Nat}

theorem mkTab_spec {all : List Oper} {K : Tr} {M : Mem} {n : Nat} : ∀ (l : List Oper) (acc T : Tab), mkTab Γ N all K M n l acc = some T →
    (∃ r, T = acc ++ r ∧ r.length = l.length) ∧ ∀ i o, l[i]? = some o → ∃ e, T[acc.length + i]? = some e ∧ ent Γ N all K M n (T.take (acc.length + i)) o = some e
  | [], acc, T, h => by
    simp only [mkTab, Option.some.injEq] at h
    subst h
    exact ⟨⟨[], by simp, rfl⟩, fun i o hi => by simp at hi⟩
  | o :: l, acc, T, h => by
    simp only [mkTab] at h
    split at h
    · rename_i e he
      obtain ⟨⟨r, hr, hl⟩, hs⟩ := mkTab_spec l _ _ h
      have hT : T = acc ++ (e :: r) := by rw [hr]; simp
      refine ⟨⟨e :: r, hT, by simp [hl]⟩, fun i o' hi => ?_⟩
      cases i with
      | zero =>
        simp only [List.getElem?_cons_zero, Option.some.injEq] at hi
        subst hi
        refine ⟨e, by rw [hT]; simp, ?_⟩
        rw [hT, Nat.add_zero, List.take_left']
        · exact he
        · rfl
      | succ i =>
        simp only [List.getElem?_cons_succ] at hi
        obtain ⟨e', h1, h2⟩ := hs i o' hi
        simp only [List.length_append, List.length_singleton] at h1 h2
        rw [show acc.length + (i + 1) = acc.length + 1 + i by omega]
        exact ⟨e', h1, h2⟩
    · cases h

theorem stO_spec {j : Nat} : ∀ {T : Tab} {i0 i : Nat} {vs : List SW}, stO j T i0 = some (i, vs) → i0 ≤ i ∧ ∃ v l, T[i - i0]? = some (v, .st j l vs)
  | [], _, _, _, h => by cases h
  | (u, d) :: T, i0, i, vs, h => by
    cases d with
    | st j' l' vs' =>
      simp only [stO] at h
      cases hb : Nat.beq j' j <;> simp only [hb, cond_false, cond_true, Option.some.injEq, Prod.mk.injEq] at h
      · obtain ⟨h1, v, l, h2⟩ := stO_spec h
        exact ⟨by omega, v, l, by rw [show i - i0 = (i - (i0 + 1)) + 1 by omega]; simpa using h2⟩
      · obtain ⟨rfl, rfl⟩ := h
        have := Nat.eq_of_beq_eq_true hb
        subst this
        exact ⟨Nat.le_refl _, u, l', by simp⟩
    | ld =>
      simp only [stO] at h
      obtain ⟨h1, v, l, h2⟩ := stO_spec h
      exact ⟨by omega, v, l, by rw [show i - i0 = (i - (i0 + 1)) + 1 by omega]; simpa using h2⟩
    | al z t =>
      simp only [stO] at h
      obtain ⟨h1, v, l, h2⟩ := stO_spec h
      exact ⟨by omega, v, l, by rw [show i - i0 = (i - (i0 + 1)) + 1 by omega]; simpa using h2⟩

theorem onceOk_spec {T : Tab} : ∀ {l : Tab} {i0 : Nat}, onceOk T l i0 = true → ∀ i v j k vs, l[i]? = some (v, .st j k vs) → ∃ vs', stO j T 0 = some (i0 + i, vs')
  | [], _, _, i, v, j, k, vs, hi => by simp at hi
  | (u, d) :: l, i0, h, i, v, j, k, vs, hi => by
    cases i with
    | zero =>
      simp only [List.getElem?_cons_zero, Option.some.injEq, Prod.mk.injEq] at hi
      obtain ⟨rfl, rfl⟩ := hi
      simp only [onceOk, Bool.and_eq_true] at h
      cases e : stO j T 0 with
      | none => rw [e] at h; cases h.1
      | some x =>
        obtain ⟨i', vs'⟩ := x
        rw [e] at h
        exact ⟨vs', by rw [Nat.eq_of_beq_eq_true h.1, Nat.add_zero]⟩
    | succ i =>
      simp only [List.getElem?_cons_succ] at hi
      have h' : onceOk T l (i0 + 1) = true := by
        cases d <;> simp only [onceOk, Bool.and_eq_true] at h
        · exact h
        · exact h
        · exact h.2
      obtain ⟨vs', hh⟩ := onceOk_spec h' i v j k vs hi
      exact ⟨vs', by rw [hh]; congr 2; omega⟩

theorem noDst_spec {ops : List Oper} {a : Tmp} (h : noDst ops a = true) : ∀ o ∈ ops, o.dst ≠ some a := by
  intro o ho e
  have := List.all_eq_true.1 h o ho
  simp only [e, Bool.not_eq_true'] at this
  exact Nat.ne_of_beq_eq_false this rfl

theorem dstsOk_spec : ∀ {ops : List Oper}, dstsOk ops = true → ∀ (i j : Nat) (o q : Oper) (d : Tmp), ops[i]? = some o → ops[j]? = some q → o.dst = some d → q.dst = some d → i = j
  | [], _, i, j, o, q, d, hi, _, _, _ => by simp at hi
  | x :: l, h, i, j, o, q, d, hi, hj, h1, h2 => by
    simp only [dstsOk, Bool.and_eq_true] at h
    cases i with
    | zero =>
      simp only [List.getElem?_cons_zero, Option.some.injEq] at hi
      subst hi
      cases j with
      | zero => rfl
      | succ j =>
        exfalso
        simp only [List.getElem?_cons_succ] at hj
        have h0 := h.1
        rw [h1] at h0
        exact noDst_spec h0 q (List.mem_of_getElem? hj) h2
    | succ i =>
      simp only [List.getElem?_cons_succ] at hi
      cases j with
      | zero =>
        exfalso
        simp only [List.getElem?_cons_zero, Option.some.injEq] at hj
        subst hj
        have h0 := h.1
        rw [h2] at h0
        exact noDst_spec h0 o (List.mem_of_getElem? hi) h1
      | succ j =>
        simp only [List.getElem?_cons_succ] at hj
        rw [dstsOk_spec h.2 i j o q d hi hj h1 h2]

theorem findDst_spec {a : Tmp} : ∀ {ops : List Oper} {i j : Nat}, findDst ops a i = some j → i ≤ j ∧ ∃ o, ops[j - i]? = some o ∧ o.dst = some a
  | [], _, _, h => by cases h
  | o :: l, i, j, h => by
    simp only [findDst] at h
    have rec' : findDst l a (i + 1) = some j → i ≤ j ∧ ∃ o', (o :: l)[j - i]? = some o' ∧ o'.dst = some a := fun h => by
      obtain ⟨h1, o', h2, h3⟩ := findDst_spec h
      exact ⟨by omega, o', by rw [show j - i = (j - (i + 1)) + 1 by omega]; simpa using h2, h3⟩
    split at h
    · rename_i d hd
      cases hb : Nat.beq d a <;> simp only [hb, cond_false, cond_true, Option.some.injEq] at h
      · exact rec' h
      · subst h
        exact ⟨Nat.le_refl _, o, by simp, by rw [hd, Nat.eq_of_beq_eq_true hb]⟩
    · exact rec' h

theorem hasEdge_spec {o : Oper} {j : Nat} (h : hasEdge o j = true) : ∃ e ∈ o.after, Region.binds .any e = true ∧ e.on = j := by
  obtain ⟨e, he, hb⟩ := List.any_eq_true.1 h
  simp only [Bool.and_eq_true] at hb
  exact ⟨e, by simpa using he, hb.1, Nat.eq_of_beq_eq_true hb.2⟩

theorem lk_MT {T : Tab} {M : Mem} {n : Nat} {L : Nat → Bool} (hM : ∀ id r, lk M id = some r → id < n) : ∀ (J id : Nat),
    lk (MT T M n L J) id = if n ≤ id then (if id - n < J then (match nth T (id - n) with
      | some (_, .al z _) => bif L (id - n) then some ⟨content T L (id - n) z, true⟩ else none
      | _ => none) else none) else lk M id
  | 0, id => by
    simp only [MT, Nat.not_lt_zero, if_false]
    split
    · rename_i h
      cases e : lk M id with
      | none => rfl
      | some r => exact absurd (hM _ _ e) (by omega)
    · rfl
  | J + 1, id => by
    have ih := lk_MT (T := T) (L := L) hM J id
    have skip : lk (MT T M n L J) id = if n ≤ id then (if id - n < J then (match nth T (id - n) with
      | some (_, .al z _) => bif L (id - n) then some ⟨content T L (id - n) z, true⟩ else none
      | _ => none) else none) else lk M id := ih
    by_cases hid : n ≤ id ∧ id - n = J
    · obtain ⟨h1, h2⟩ := hid
      have hidn : id = n + J := by omega
      rw [if_pos h1, if_pos (by omega)]
      have hno : lk (MT T M n L J) id = none := by rw [ih, if_pos h1, if_neg (by omega)]
      simp only [MT, h2]
      split
      · rename_i z t hz
        cases L J
        · exact hno
        · simp only [cond_true, lk_cons]
          rw [if_pos hidn.symm]
      · exact hno
    · have hcond : (if n ≤ id then (if id - n < J + 1 then (match nth T (id - n) with
        | some (_, .al z _) => bif L (id - n) then some (⟨content T L (id - n) z, true⟩ : Reg) else none
        | _ => none) else none) else lk M id) = lk (MT T M n L J) id := by
        rw [ih]
        by_cases h1 : n ≤ id
        · rw [if_pos h1, if_pos h1]
          by_cases h3 : id - n < J
          · rw [if_pos h3, if_pos (by omega)]
          · rw [if_neg h3, if_neg (by omega)]
        · rw [if_neg h1, if_neg h1]
      rw [hcond]
      simp only [MT]
      split
      · cases L J
        · rfl
        · simp only [cond_true, lk_cons]
          rw [if_neg (by omega)]
      · rfl

theorem evL_mono {E E' : Operand → Option SV} {M M' : Mem} {t : TypeId} {x : Operand} {v : SV} (hE : E' x = E x) (hM : ∀ id g, lk M id = some g → lk M' id = some g) (h : evL Γ E M (.load t x) = some v) : evL Γ E' M' (.load t x) = some v := by
  simp only [evL] at h ⊢
  rw [hE]
  split at h
  · rename_i r hr
    split at h
    · rename_i id off hx
      split at h
      · rename_i g hg
        simp only [hM _ _ hg]
        exact h
      · cases h
    · cases h
  · cases h

theorem KS_get_one {ops : List Oper} {K : Tr} {R : Nat → SV} {S : Nat → Bool} {i : Nat} {o : Oper} {t : Tmp} (ho : ops[i]? = some o) (hd : o.dst = some t) (hS : S i = true)
    (huniq : ∀ j q, ops[j]? = some q → q.dst = some t → j = i) : ∀ J, i < J → (KS ops K R S J).get t = bif K.has t then some (R i) else none
  | 0, h => by omega
  | J + 1, h => by
    by_cases hi : i = J
    · subst hi
      simp only [KS, ho, hS, cond_true, hd, putK_get_eq, KS_has]
    · have ih := KS_get_one (K := K) (R := R) (S := S) ho hd hS huniq J (by omega)
      simp only [KS]
      split
      · rename_i q hq
        have hne : q.dst ≠ some t := fun e => hi (huniq J q hq e).symm
        cases S J
        · exact ih
        · simp only [cond_true, putK_get_ne hne]; exact ih
      · exact ih

theorem KS_val {ops : List Oper} {K : Tr} {R : Nat → SV} {S : Nat → Bool} {t : Tmp} {v : SV} : ∀ J, (KS ops K R S J).get t = some v → K.get t = some v ∨ ∃ j, j < J ∧ S j = true ∧ (∃ o, ops[j]? = some o ∧ o.dst = some t) ∧ v = R j
  | 0, h => .inl h
  | J + 1, h => by
    simp only [KS] at h
    have lift : (K.get t = some v ∨ ∃ j, j < J ∧ S j = true ∧ (∃ o, ops[j]? = some o ∧ o.dst = some t) ∧ v = R j) → (K.get t = some v ∨ ∃ j, j < J + 1 ∧ S j = true ∧ (∃ o, ops[j]? = some o ∧ o.dst = some t) ∧ v = R j) :=
      fun hh => hh.imp id fun ⟨j, h1, h2⟩ => ⟨j, by omega, h2⟩
    split at h
    · rename_i o ho
      cases hS : S J
      · simp only [hS, cond_false] at h
        exact lift (KS_val J h)
      · simp only [hS, cond_true] at h
        by_cases hd : o.dst = some t
        · rw [hd] at h
          rcases Tr.get_set h with ⟨_, rfl⟩ | ⟨hne, _⟩
          · exact .inr ⟨J, Nat.lt_succ_self _, hS, ⟨o, ho, hd⟩, rfl⟩
          · exact absurd rfl hne
        · rw [putK_get_ne hd] at h
          exact lift (KS_val J h)
    · exact lift (KS_val J h)

theorem WR.allocAt {ρ : Env} {M : Mem} {n : Nat} {w : World} (h : WR C ρ M n w) {id n1 : Nat} (hid : id < n) (h0 : C.n0 ≤ n1) (h1 : n1 ≤ id) (hM : ∀ i r, lk M i = some r → i ≠ id ∧ ∀ x ∈ r.cells, x.lt n1) (cs : List SW) (hcs : ∀ x ∈ cs, x.lt n1) (t : TypeId) :
    WR C (upE ρ id (w.heap.size, 0)) ((id, ⟨cs, true⟩) :: M) n (w.alloc (.cells (cs.map (SW.val ρ)).toArray t)) := by
  have hne : ∀ i, i ≠ id → upE ρ id (w.heap.size, 0) i = ρ i := fun i hi => by simp [upE, hi]
  have hv : ∀ {s : SW}, s.lt n1 → s.val (upE ρ id (w.heap.size, 0)) = s.val ρ := fun hs => SW.val_congr (fun i hi => hne i (by omega)) hs
  have hnew : upE ρ id (w.heap.size, 0) id = (w.heap.size, 0) := by simp [upE]
  refine ⟨fun i hi => (hne i (by omega)).trans (h.env i hi), h.n0, ⟨fun i r hr => ?_, fun i r i' r' j j' hr hr' hii hrw hj hj' => ?_⟩,
    h.fr.trans (Fr.alloc _ _ _ _), Nat.le_trans h.base (by simp), h.own⟩
  · rw [lk_cons] at hr
    by_cases e : id = i
    · subst e
      rw [if_pos rfl] at hr
      cases hr
      rw [hnew]
      refine ⟨hid, by simp, fun j s hs => ⟨SW.lt_mono (by omega) (hcs _ (List.mem_of_getElem? hs)), ?_, fun _ => ⟨?_, h.own _ _ h.base⟩⟩⟩
      · rw [hv (hcs _ (List.mem_of_getElem? hs)), Nat.zero_add, World.cell?_alloc_new]
        simp only [List.getElem?_toArray, List.getElem?_map]; simp only at hs; rw [hs]; rfl
      · rw [World.frozen?_alloc_new]
    · rw [if_neg e] at hr
      obtain ⟨g1, g2, g3⟩ := h.rel.cell i r hr
      rw [hne i (Ne.symm e)]
      refine ⟨g1, by simp; omega, fun j s hs => ?_⟩
      obtain ⟨k1, k2, k3⟩ := g3 j s hs
      refine ⟨k1, ?_, fun hrw => ⟨?_, (k3 hrw).2⟩⟩
      · rw [hv ((hM i r hr).2 s (List.mem_of_getElem? hs)), World.cell?_alloc_lt _ _ _ (by simpa using g2)]; exact k2
      · rw [RowKit.frozen?_alloc_cells]; exact (k3 hrw).1
  · rw [lk_cons] at hr hr'
    by_cases e : id = i
    · by_cases e' : id = i'
      · omega
      · rw [if_neg e'] at hr'
        obtain ⟨g1, g2, g3⟩ := h.rel.cell i' r' hr'
        subst e
        rw [hnew, hne i' (Ne.symm e')]
        simp only
        omega
    · rw [if_neg e] at hr
      obtain ⟨g1, g2, g3⟩ := h.rel.cell i r hr
      by_cases e' : id = i'
      · subst e'
        rw [hnew, hne i (Ne.symm e)]
        simp only
        omega
      · rw [if_neg e'] at hr'
        rw [hne i (Ne.symm e), hne i' (Ne.symm e')]
        exact h.rel.apart i r i' r' j j' hr hr' hii hrw hj hj'

theorem evL_lt {E : Operand → Option SV} {M : Mem} {n : Nat} {op : Op} {v : SV} (hM : ∀ id r, lk M id = some r → ∀ x ∈ r.cells, x.lt n) (h : evL Γ E M op = some v) : v.lt n := by
  unfold evL at h
  split at h
  · split at h
    · split at h
      · split at h
        · rename_i g hg
          exact ldv_lt (fun j s hs => hM _ _ hg s (List.mem_of_getElem? hs)) h
        · cases h
      · cases h
    · cases h
  · cases h

/-- What an entry says. -/
theorem ent_cases {all : List Oper} {K : Tr} {M : Mem} {n : Nat} {acc : Tab} {o : Oper} {e : SV × KD} (h : ent Γ N all K M n acc o = some e) :
    o.guard = none ∧ dstOk N o.dst = true ∧
    ((∃ t a, o.op = .load t (.tmp a) ∧ noDst all a = true ∧ evL Γ (evX K) M (.load t (.tmp a)) = some e.1 ∧ e.2 = .ld) ∨
     (∃ t r z, o.op = .alloc t ∧ lk Γ t = some r ∧ r.zero.cells? = some z ∧ e = (.s (.ptr (n + acc.length) 0), .al z t)) ∨
     (∃ t r a b j l z t' v vs, o.op = .store t (.tmp a) (.tmp b) ∧ o.dst = none ∧ lk Γ t = some r ∧ findDst all a 0 = some j ∧ findDst all b 0 = some l ∧ nth acc j = some (.s (.ptr (n + j) 0), .al z t') ∧ nth acc l = some (v, .ld) ∧ v.cells? = some vs ∧
       vs.length = r.size ∧ vs.length = z.length ∧ vs.all SW.cellOk = true ∧ hasEdge o j = true ∧ hasEdge o l = true ∧ e = (.unit, .st j l vs))) := by
  unfold ent at h
  split at h
  · cases h
  · rename_i hg
    cases hd : dstOk N o.dst <;> simp only [hd, cond_false, cond_true, reduceCtorEq] at h
    refine ⟨hg, rfl, ?_⟩
    split at h
    · rename_i t a hop
      cases hn : noDst all a <;> simp only [hn, cond_false, cond_true, reduceCtorEq] at h
      split at h
      · rename_i v hv
        cases h
        exact .inl ⟨t, a, hop, hn, hv, rfl⟩
      · cases h
    · rename_i t hop
      split at h
      · rename_i r hr
        split at h
        · rename_i z hz
          cases h
          exact .inr (.inl ⟨t, r, z, hop, hr, hz, rfl⟩)
        · cases h
      · cases h
    · rename_i t a b hop
      split at h
      · cases h
      · rename_i hdn
        split at h
        · rename_i r hr
          split at h
          · rename_i j hj
            split at h
            · rename_i l hl
              split at h
              · rename_i id off z t' hnj
                split at h
                · rename_i v hnl
                  split at h
                  · rename_i vs hvs
                    cases hb : (Nat.beq id (n + j) && (Nat.beq off 0 && (Nat.beq vs.length r.size && (Nat.beq vs.length z.length && (vs.all SW.cellOk && (hasEdge o j && hasEdge o l)))))) <;> simp only [hb, cond_false, cond_true, reduceCtorEq, Option.some.injEq] at h
                    simp only [Bool.and_eq_true] at hb
                    obtain ⟨b1, b2, b3, b4, b5, b6, b7⟩ := hb
                    have e1 := Nat.eq_of_beq_eq_true b1
                    have e2 := Nat.eq_of_beq_eq_true b2
                    subst e1 e2
                    exact .inr (.inr ⟨t, r, a, b, j, l, z, t', v, vs, hop, hdn, hr, hj, hl, hnj, hnl, hvs, Nat.eq_of_beq_eq_true b3, Nat.eq_of_beq_eq_true b4, b5, b6, b7, h.symm⟩)
                  · cases h
                · cases h
              · cases h
            · cases h
          · cases h
        · cases h
    · cases h

theorem content_congr {T : Tab} {L L' : Nat → Bool} {j : Nat} {z : List SW} (h : ∀ i vs, stO j T 0 = some (i, vs) → L i = L' i) : content T L j z = content T L' j z := by
  unfold content
  cases e : stO j T 0 with
  | none => rfl
  | some x => obtain ⟨i, vs⟩ := x; simp only; rw [h i vs e]

theorem St.congr {f g : Nat → Option SV} {M M' : Mem} {n : Nat} {a : Act} {w : World} (h : St C N f M n a w) (hf : ∀ t, g t = f t) (hM : ∀ id r, lk M' id = some r → lk M id = some r) : St C N g M' n a w := by
  obtain ⟨ρ, hW, hF⟩ := h
  exact ⟨ρ, hW.low hM, hF.congr hf⟩

theorem wpAny_tab (hΓ : ∀ t r, lk Γ t = some r → TOK P t r) {ops : Array Oper} {K : Tr} {M : Mem} {n : Nat} {T : Tab} (hT : mkTab Γ N ops.toList K M n ops.toList [] = some T) (hds : dstsOk ops.toList = true) (hon : onceOk T T 0 = true)
    (hback : ∀ j o, ops[j]? = some o → ∀ e ∈ o.after, Region.binds .any e = true → e.on < j) (hhas : ∀ o ∈ ops.toList, ∀ d, o.dst = some d → K.has d = true)
    (hMn : ∀ id r, lk M id = some r → id < n ∧ ∀ x ∈ r.cells, x.lt n) (hKn : ∀ t v, K.get t = some v → v.lt n) (hn0 : C.n0 ≤ n)
    {Q : Exit → Act → World → Prop} (hk : ∀ a' w', St C N (KS ops.toList K (RT T) (fun _ => true) ops.size).get (MT T M n (fun _ => true) ops.size) (n + ops.size) a' w' → Q .normal a' w') :
    ∀ (fuel : Nat) (listed : Array Bool) (a : Act) (w : World), listed.size = ops.size → (List.range ops.size).countP (fun j => !listed.getD j false) ≤ fuel →
      (∀ j o, ops[j]? = some o → listed.getD j false = true → ∀ e ∈ o.after, Region.binds .any e = true → listed.getD e.on false = true) →
      St C N (KS ops.toList K (RT T) (fun j => listed.getD j false) ops.size).get (MT T M n (fun j => listed.getD j false) ops.size) (n + ops.size) a w →
      wpAny P .any ops Q fuel listed a w := by
  obtain ⟨⟨T0, hT0, hTl⟩, hent⟩ := mkTab_spec _ _ _ hT
  simp only [List.nil_append] at hT0
  subst hT0
  have hlen : ops.toList.length = ops.size := Array.length_toList
  have hTlen : T.length = ops.size := hTl.trans hlen
  have hget : ∀ j : Nat, ops.toList[j]? = ops[j]? := fun j => Array.getElem?_toList
  have hMid : ∀ id r, lk M id = some r → id < n := fun id r h => (hMn id r h).1
  simp only [List.length_nil, Nat.zero_add] at hent
  intro fuel
  have fin : ∀ (listed : Array Bool) (a : Act) (w : World), (∀ j, j < ops.size → listed.getD j false = true) →
      St C N (KS ops.toList K (RT T) (fun j => listed.getD j false) ops.size).get (MT T M n (fun j => listed.getD j false) ops.size) (n + ops.size) a w → Q .normal a w := by
    intro listed a w hall hst
    refine hk a w (hst.congr (fun t => KS_get ops.size fun j q hj _ _ => (hall j hj).symm) fun id r hr => ?_)
    rw [lk_MT hMid] at hr ⊢
    by_cases h1 : n ≤ id
    · rw [if_pos h1] at hr ⊢
      by_cases h2 : id - n < ops.size
      · rw [if_pos h2] at hr ⊢
        rw [hall _ h2]
        have e : ∀ z, content T (fun j => listed.getD j false) (id - n) z = content T (fun _ => true) (id - n) z := fun z => content_congr fun i vs hi => by
          obtain ⟨_, v, l, hh⟩ := stO_spec hi
          have := (List.getElem?_eq_some_iff.1 hh).1
          exact hall i (by omega)
        simp only [e]
        exact hr
      · rw [if_neg h2] at hr; cases hr
    · rw [if_neg h1] at hr ⊢; exact hr
  have allOf : ∀ (listed : Array Bool), listed.size = ops.size → Region.ready .any ops listed = [] → ∀ j, j < ops.size → listed.getD j false = true := by
    intro listed hsz hr j
    induction j using Nat.strongRecOn with
    | _ j ih =>
      intro hj
      cases hb : listed.getD j false with
      | true => rfl
      | false =>
        exfalso
        have ho : ops[j]? = some ops[j] := Array.getElem?_eq_getElem hj
        have : j ∈ Region.ready .any ops listed := mem_ready.2 ⟨by
            have hjl : j < listed.size := by omega
            simp [hjl] at hb ⊢; exact hb, ops[j], ho, fun e he hbd => by
            have hlt := hback j _ ho e he hbd
            exact ih e.on hlt (by omega)⟩
        rw [hr] at this
        cases this
  induction fuel with
  | zero =>
    intro listed a w hsz hcnt hcl hst
    have hz : (List.range ops.size).countP (fun j => !listed.getD j false) = 0 := Nat.le_zero.1 hcnt
    have hall : ∀ j, j < ops.size → listed.getD j false = true := fun j hj => by
      have := List.countP_eq_zero.1 hz j (List.mem_range.2 hj)
      simpa using this
    refine ⟨?_, fin listed a w hall hst⟩
    cases hr : Region.ready .any ops listed with
    | nil => rfl
    | cons i l =>
      exfalso
      have hi : i ∈ Region.ready .any ops listed := by rw [hr]; exact List.mem_cons_self
      obtain ⟨h0, o, ho, _⟩ := mem_ready.1 hi
      have hlt : i < ops.size := (Array.getElem?_eq_some_iff.1 ho).1
      have := hall i hlt
      have hil : i < listed.size := by omega
      simp [hil] at this h0
      rw [this] at h0; cases h0
  | succ fuel ih =>
    intro listed a w hsz hcnt hcl hst
    refine ⟨fun hr => fin listed a w (allOf listed hsz hr) hst, fun i hi => ?_⟩
    obtain ⟨h0, o, ho, hpre⟩ := mem_ready.1 hi
    have hlt : i < ops.size := (Array.getElem?_eq_some_iff.1 ho).1
    have hil : i < listed.size := by omega
    have hun : listed.getD i false = false := by simp [hil] at h0 ⊢; exact h0
    have hoL : ops.toList[i]? = some o := by rw [hget]; exact ho
    obtain ⟨e, hTe, hee⟩ := hent i o hoL
    have htl : (T.take i).length = i := by rw [List.length_take]; omega
    have hRi : RT T i = e.1 := by simp [RT, nth_eq, hTe]
    have hS' : ∀ j, (listed.setIfInBounds i true).getD j false = if j = i then true else listed.getD j false := by
      intro j
      by_cases hji : j = i
      · subst hji; simp [hil]
      · rw [if_neg hji]; exact getD_set_ne false (Ne.symm hji)
    obtain ⟨hg, hd, hcase⟩ := ent_cases hee
    have hwant : Region.wanted o (yielded ops a.tmps) = true := by simp [Region.wanted, hg]
    have huniq : ∀ t, o.dst = some t → ∀ (j : Nat) q, ops.toList[j]? = some q → q.dst = some t → j = i := fun t ht j q hq hqt => dstsOk_spec hds j i q o t hq hoL hqt ht
    have hfr : ∀ t, (KS ops.toList K (RT T) (fun j => (listed.setIfInBounds i true).getD j false) ops.size).get t = (putK (KS ops.toList K (RT T) (fun j => listed.getD j false) ops.size) o.dst e.1).get t := by
      intro t
      by_cases hdt : o.dst = some t
      · rw [KS_get_one hoL hdt (by rw [hS', if_pos rfl]) (huniq t hdt) ops.size hlt, hdt, putK_get_eq, KS_has, hRi]
      · rw [putK_get_ne hdt]
        refine KS_get ops.size fun j q _ hq hdst => ?_
        rw [hS']
        by_cases hji : j = i
        · subst hji
          have : q = o := Option.some.inj (hq.symm.trans hoL)
          subst this; exact absurd hdst hdt
        · rw [if_neg hji]
    have hcount : (List.range ops.size).countP (fun j => !(listed.setIfInBounds i true).getD j false) ≤ fuel := by
      have hsub : ∀ x, (!(listed.setIfInBounds i true).getD x false) = true → (!listed.getD x false) = true := fun x hx => by
        cases hb : listed.getD x false with
        | false => rfl
        | true => rw [getD_set_true hb] at hx; cases hx
      have hi1 : (!listed.getD i false) = true := by rw [hun]; rfl
      have hi2 : (!(listed.setIfInBounds i true).getD i false) = false := by rw [hS', if_pos rfl]; rfl
      have := countP_lt (p := fun j => !listed.getD j false) (p' := fun j => !(listed.setIfInBounds i true).getD j false) (i := i) hsub hi1 hi2 (List.mem_range.2 hlt)
      omega
    have hclosed : ∀ j o, ops[j]? = some o → (listed.setIfInBounds i true).getD j false = true → ∀ e ∈ o.after, Region.binds .any e = true → (listed.setIfInBounds i true).getD e.on false = true := by
      intro j q hq hj e he hb
      by_cases hji : j = i
      · subst hji
        have : q = o := Option.some.inj (hq.symm.trans ho)
        subst this
        exact getD_set_true (hpre e he hb)
      · rw [getD_set_ne false (Ne.symm hji)] at hj
        exact getD_set_true (hcl j q hq hj e he hb)
    have next : ∀ a' w', St C N (putK (KS ops.toList K (RT T) (fun j => listed.getD j false) ops.size) o.dst e.1).get (MT T M n (fun j => (listed.setIfInBounds i true).getD j false) ops.size) (n + ops.size) a' w' → wpAny P .any ops Q fuel (listed.setIfInBounds i true) a' w' :=
      fun a' w' hs => ih (listed.setIfInBounds i true) a' w' (by simp [hsz]) hcount hclosed (hs.congr hfr fun _ _ h => h)
    obtain ⟨ρ, hW, hf⟩ := hst
    -- the content of the other new variables stays
    have hstay : (∀ j l vs, e.2 ≠ .st j l vs) → ∀ j z, content T (fun j => (listed.setIfInBounds i true).getD j false) j z = content T (fun j => listed.getD j false) j z := fun hne j z => content_congr fun i' vs hi' => by
      rw [hS']
      by_cases hii : i' = i
      · subst hii
        obtain ⟨_, v, l, hh⟩ := stO_spec hi'
        rw [Nat.sub_zero, hTe] at hh
        exact absurd (congrArg Prod.snd (Option.some.inj hh)) (hne _ _ _)
      · rw [if_neg hii]
    have hlkM : ∀ id g, lk M id = some g → lk (MT T M n (fun j => listed.getD j false) ops.size) id = some g := fun id g hg => by
      rw [lk_MT hMid, if_neg (by have := hMid _ _ hg; omega)]; exact hg
    unfold wpOp
    rw [ho]
    show if Region.wanted o (yielded ops a.tmps) = true then _ else _
    rw [if_pos hwant]
    refine .inl ?_
    rcases hcase with ⟨t, x, hop, hno, hev, hld⟩ | ⟨t, r, z, hop, hr, hz, rfl⟩ | ⟨t, r, x, y, j, l, z, t', v, vs, hop, hdn, hr, hj, hl, hTj, hTl', hvs, hv1, hv2, hv3, hej, hel, rfl⟩
    · have hEx : evX (KS ops.toList K (RT T) (fun j => listed.getD j false) ops.size) (.tmp x) = evX K (.tmp x) := by
        simp only [evX]
        rw [KS_get (S' := fun _ => false) ops.size (fun j q _ hq hdst => absurd hdst (noDst_spec hno q (List.mem_of_getElem? hq))), KS_cut 0 ops.size (Nat.zero_le _) (fun _ _ _ => rfl)]
        rfl
      have hev' := evL_mono hEx hlkM hev
      rw [← hop] at hev'
      refine evL_sound hΓ hf.ev hW hev' fun hvl => next _ _ ⟨ρ, hW.low fun id r' hr' => ?_, hf.put (fun _ _ => rfl) (Nat.le_refl _) hvl hd⟩
      rw [lk_MT hMid] at hr' ⊢
      by_cases h1 : n ≤ id
      · rw [if_pos h1] at hr' ⊢
        by_cases h2 : id - n < ops.size
        · rw [if_pos h2] at hr' ⊢
          simp only [hstay (fun _ _ _ => by rw [hld]; intro h; cases h)] at hr'
          rw [hS'] at hr'
          by_cases h3 : id - n = i
          · rw [h3, nth_eq, hTe] at hr'
            obtain ⟨e1, e2⟩ := e
            simp only at hld
            subst hld
            cases hr'
          · rw [if_neg h3] at hr'; exact hr'
        · rw [if_neg h2] at hr'; cases hr'
      · rw [if_neg h1] at hr' ⊢; exact hr'
    · obtain ⟨c1, c2⟩ := cells?_val (ρ := ρ) hz
      have hzl : ∀ x ∈ z, x.lt n := c2 n (SV.lt_mono (Nat.zero_le n) (hΓ _ _ hr).free)
      obtain ⟨inf, hinf, hsz', hzv⟩ := zero_val (ρ := ρ) (hΓ _ _ hr)
      have hcellsM : ∀ i' r', lk (MT T M n (fun j => listed.getD j false) ops.size) i' = some r' → i' ≠ n + i ∧ ∀ x ∈ r'.cells, x.lt n := by
        intro i' r' hr'
        rw [lk_MT hMid] at hr'
        by_cases h1 : n ≤ i'
        · rw [if_pos h1] at hr'
          by_cases h2 : i' - n < ops.size
          · rw [if_pos h2] at hr'
            split at hr'
            · rename_i u z2 t2 hTz
              cases hb : listed.getD (i' - n) false
              · rw [hb] at hr'; cases hr'
              · rw [hb] at hr'
                simp only [cond_true, Option.some.injEq] at hr'
                subst hr'
                refine ⟨fun h => ?_, ?_⟩
                · rw [h, Nat.add_sub_cancel_left, hun] at hb; cases hb
                · -- the cells: zero, or what was stored
                  simp only
                  unfold content
                  have hz2 : ∀ x ∈ z2, x.lt n := by
                    obtain ⟨o2, ho2⟩ : ∃ o2, ops.toList[i' - n]? = some o2 := ⟨ops.toList[i' - n], List.getElem?_eq_getElem (by omega)⟩
                    obtain ⟨e2, hTe2, hee2⟩ := hent _ _ ho2
                    rw [nth_eq, hTe2] at hTz
                    obtain ⟨_, _, hc2⟩ := ent_cases hee2
                    rcases hc2 with ⟨_, _, _, _, _, h⟩ | ⟨t3, r3, z3, _, hr3, hz3, h⟩ | ⟨_, _, _, _, _, _, _, _, _, _, _, _, _, _, _, _, _, _, _, _, _, _, _, h⟩
                    · rw [Option.some.inj hTz] at h; cases h
                    · rw [h] at hTz
                      simp only [Option.some.injEq, Prod.mk.injEq, KD.al.injEq] at hTz
                      rw [← hTz.2.1]
                      exact (cells?_val (ρ := ρ) hz3).2 n (SV.lt_mono (Nat.zero_le n) (hΓ _ _ hr3).free)
                    · rw [h] at hTz; cases hTz
                  cases hst : stO (i' - n) T 0 with
                  | none => exact hz2
                  | some x =>
                    obtain ⟨i2, vs2⟩ := x
                    simp only
                    cases listed.getD i2 false
                    · exact hz2
                    · simp only [cond_true]
                      obtain ⟨_, v2, l2, hh⟩ := stO_spec hst
                      rw [Nat.sub_zero] at hh
                      have hi2 : i2 < ops.toList.length := by have := (List.getElem?_eq_some_iff.1 hh).1; omega
                      obtain ⟨e2, hTe2, hee2⟩ := hent i2 _ (List.getElem?_eq_getElem hi2)
                      rw [hTe2] at hh
                      obtain ⟨_, _, hc2⟩ := ent_cases hee2
                      rcases hc2 with ⟨_, _, _, _, _, h⟩ | ⟨t3, r3, z3, _, hr3, hz3, h⟩ | ⟨_, _, _, _, _, l3, _, _, v3, vs3, _, _, _, _, _, _, hl3, hvs3, _, _, _, _, _, h⟩
                      · rw [Option.some.inj hh] at h; cases h
                      · rw [h] at hh; cases hh
                      · rw [h] at hh
                        simp only [Option.some.injEq, Prod.mk.injEq, KD.st.injEq] at hh
                        rw [← hh.2.2.2]
                        -- the value was loaded from old memory
                        rw [nth_eq, List.getElem?_take] at hl3
                        split at hl3
                        · have hl3' : l3 < ops.toList.length := by have := (List.getElem?_eq_some_iff.1 hl3).1; omega
                          obtain ⟨e4, hTe4, hee4⟩ := hent l3 _ (List.getElem?_eq_getElem hl3')
                          rw [hTe4] at hl3
                          obtain ⟨_, _, hc4⟩ := ent_cases hee4
                          rcases hc4 with ⟨_, _, _, _, hev4, _⟩ | ⟨_, _, _, _, _, _, h⟩ | ⟨_, _, _, _, _, _, _, _, _, _, _, _, _, _, _, _, _, _, _, _, _, _, _, h⟩
                          · rw [Option.some.inj hl3] at hev4
                            exact (cells?_val (ρ := ρ) hvs3).2 n (evL_lt (fun id r hr => (hMn id r hr).2) hev4)
                          · rw [h] at hl3; cases hl3
                          · rw [h] at hl3; cases hl3
                        · cases hl3
            · cases hr'
          · rw [if_neg h2] at hr'; cases hr'
        · rw [if_neg h1] at hr'
          exact ⟨by omega, (hMn _ _ hr').2⟩
      have hW' := hW.allocAt (id := n + i) (n1 := n) (by omega) hn0 (by omega) hcellsM z hzl t
      have hne : ∀ i', i' ≠ n + i → upE ρ (n + i) (w.heap.size, 0) i' = ρ i' := fun i' hi' => by simp [upE, hi']
      have hnew : upE ρ (n + i) (w.heap.size, 0) (n + i) = (w.heap.size, 0) := by simp [upE]
      have hs : St C N (putK (KS ops.toList K (RT T) (fun j => listed.getD j false) ops.size) o.dst (.s (.ptr (n + (T.take i).length) 0))).get (MT T M n (fun j => (listed.setIfInBounds i true).getD j false) ops.size) (n + ops.size) (a.put o.dst (.pointer (some ⟨w.heap.size, 0, none⟩))) (w.alloc (.cells (z.map (SW.val ρ)).toArray t)) := by
        rw [htl]
        refine ⟨_, hW'.low fun id r' hr' => ?_, ⟨fun t2 u hu => ?_, ?_, ?_⟩⟩
        · rw [lk_cons]
          rw [lk_MT hMid] at hr'
          by_cases h1 : n ≤ id
          · rw [if_pos h1] at hr'
            by_cases h2 : id - n < ops.size
            · rw [if_pos h2] at hr'
              simp only [hstay (fun _ _ _ => by intro h; cases h)] at hr'
              rw [hS'] at hr'
              by_cases h3 : id - n = i
              · rw [if_pos (by omega)]
                rw [h3, if_pos rfl, nth_eq, hTe] at hr'
                simp only [cond_true] at hr'
                rw [← hr']
                congr 2
                -- its store has not come up
                unfold content
                cases hst : stO i T 0 with
                | none => rfl
                | some x =>
                  obtain ⟨i2, vs2⟩ := x
                  simp only
                  have : listed.getD i2 false = false := by
                    cases hb : listed.getD i2 false with
                    | false => rfl
                    | true =>
                      exfalso
                      obtain ⟨_, v2, l2, hh⟩ := stO_spec hst
                      rw [Nat.sub_zero] at hh
                      have hi2 : i2 < ops.toList.length := by have := (List.getElem?_eq_some_iff.1 hh).1; omega
                      have hoi2 := List.getElem?_eq_getElem hi2
                      obtain ⟨e2, hTe2, hee2⟩ := hent i2 _ hoi2
                      rw [hTe2] at hh
                      obtain ⟨_, _, hc2⟩ := ent_cases hee2
                      rcases hc2 with ⟨_, _, _, _, _, h⟩ | ⟨t3, r3, z3, _, hr3, hz3, h⟩ | ⟨_, _, _, _, _, l3, _, _, v3, vs3, _, _, _, _, _, _, _, _, _, _, _, hej3, _, h⟩
                      · rw [Option.some.inj hh] at h; cases h
                      · rw [h] at hh; cases hh
                      · rw [h] at hh
                        simp only [Option.some.injEq, Prod.mk.injEq, KD.st.injEq] at hh
                        obtain ⟨ed, hed, hbd, hon'⟩ := hasEdge_spec hej3
                        have := hcl i2 _ (by rw [← hget]; exact hoi2) hb ed hed hbd
                        rw [hon', hh.2.1, hun] at this
                        cases this
                  rw [this]; rfl
              · rw [if_neg (by omega)]
                rw [if_neg h3] at hr'
                rw [lk_MT hMid, if_pos h1, if_pos h2]; exact hr'
            · rw [if_neg h2] at hr'; cases hr'
          · rw [if_neg h1] at hr'
            rw [if_neg (by omega), lk_MT hMid, if_neg h1]; exact hr'
        · cases hdo : o.dst with
          | none =>
            rw [hdo] at hu
            -- no place for the pointer: the frame stays
            obtain ⟨u1, u2⟩ := hf.fit t2 u hu
            refine ⟨u1, ?_⟩
            rcases KS_val _ hu with hK | ⟨j, hj1, hj2, ⟨q, hq1, hq2⟩, rfl⟩
            · rw [SV.val_congr (n := n) (fun i' hi' => hne i' (by omega)) (hKn _ _ hK)]; exact u2
            · have hjn : j ≠ i := fun h => by subst h; rw [hun] at hj2; cases hj2
              obtain ⟨e2, hTe2, hee2⟩ := hent j q hq1
              have hR2 : RT T j = e2.1 := by simp [RT, nth_eq, hTe2]
              rw [hR2] at u2 ⊢
              have : e2.1.val (upE ρ (n + i) (w.heap.size, 0)) = e2.1.val ρ := by
                obtain ⟨_, _, hc2⟩ := ent_cases hee2
                rcases hc2 with ⟨_, _, _, _, hev2, _⟩ | ⟨_, _, _, _, _, _, h⟩ | ⟨_, _, _, _, _, _, _, _, _, _, _, _, _, _, _, _, _, _, _, _, _, _, _, h⟩
                · exact SV.val_congr (n := n) (fun i' hi' => hne i' (by omega)) (evL_lt (fun id r hr => (hMn id r hr).2) hev2)
                · rw [h]
                  simp only [SV.val, SW.val]
                  rw [hne _ (by rw [List.length_take]; omega)]
                · rw [h]; rfl
              rw [this]; exact u2
          | some d =>
            rw [hdo] at hu
            rcases Tr.get_set hu with ⟨rfl, rfl⟩ | ⟨hne2, hu'⟩
            · refine ⟨by show n + i < n + ops.size; omega, ?_⟩
              have hdN : d < a.tmps.size := by
                rw [hf.size]; rw [hdo] at hd; exact Nat.le_of_ble_eq_true hd
              simp only [Act.put, SV.val, SW.val, hnew]
              simp [hdN]
            · obtain ⟨u1, u2⟩ := hf.fit t2 u hu'
              refine ⟨u1, ?_⟩
              simp only [Act.put]
              rw [Array.getElem?_setIfInBounds_ne hne2]
              rcases KS_val _ hu' with hK | ⟨j, hj1, hj2, ⟨q, hq1, hq2⟩, rfl⟩
              · rw [SV.val_congr (n := n) (fun i' hi' => hne i' (by omega)) (hKn _ _ hK)]; exact u2
              · have hjn : j ≠ i := fun h => by subst h; rw [hun] at hj2; cases hj2
                obtain ⟨e2, hTe2, hee2⟩ := hent j q hq1
                have hR2 : RT T j = e2.1 := by simp [RT, nth_eq, hTe2]
                rw [hR2] at u2 ⊢
                have : e2.1.val (upE ρ (n + i) (w.heap.size, 0)) = e2.1.val ρ := by
                  obtain ⟨_, _, hc2⟩ := ent_cases hee2
                  rcases hc2 with ⟨_, _, _, _, hev2, _⟩ | ⟨_, _, _, _, _, _, h⟩ | ⟨_, _, _, _, _, _, _, _, _, _, _, _, _, _, _, _, _, _, _, _, _, _, _, h⟩
                  · exact SV.val_congr (n := n) (fun i' hi' => hne i' (by omega)) (evL_lt (fun id r hr => (hMn id r hr).2) hev2)
                  · rw [h]
                    simp only [SV.val, SW.val]
                    rw [hne _ (by rw [List.length_take]; omega)]
                  · rw [h]; rfl
                rw [this]; exact u2
        · cases o.dst with
          | none => exact hf.size
          | some d => simp [Act.put, hf.size]
        · cases o.dst with
          | none => exact hf.defs
          | some d => exact hf.defs
      have hfin := next _ _ hs
      unfold Oper.wp
      simp only [execOp, hop, Instr.alloc, run_zeroValue hinf hzv, newVar, newRow, newObj, c1, Sem.run_bind, Sem.run, Result.andThen_ok]
      simpa [Oper.upon] using hfin
    · obtain ⟨_, oj, hoj, hdj⟩ := findDst_spec hj
      obtain ⟨_, ol, hol, hdl⟩ := findDst_spec hl
      rw [Nat.sub_zero] at hoj hol
      have hLj : listed.getD j false = true := by
        obtain ⟨ed, h1, h2, h3⟩ := hasEdge_spec hej
        rw [← h3]; exact hpre ed h1 h2
      have hLl : listed.getD l false = true := by
        obtain ⟨ed, h1, h2, h3⟩ := hasEdge_spec hel
        rw [← h3]; exact hpre ed h1 h2
      have hjlt : j < ops.size := by have := (List.getElem?_eq_some_iff.1 hoj).1; omega
      have hllt : l < ops.size := by have := (List.getElem?_eq_some_iff.1 hol).1; omega
      have hTj' : T[j]? = some (.s (.ptr (n + j) 0), .al z t') := by
        rw [nth_eq, List.getElem?_take] at hTj
        split at hTj
        · exact hTj
        · cases hTj
      have hTl'' : T[l]? = some (v, .ld) := by
        rw [nth_eq, List.getElem?_take] at hTl'
        split at hTl'
        · exact hTl'
        · cases hTl'
      have hEx : evX (KS ops.toList K (RT T) (fun j => listed.getD j false) ops.size) (.tmp x) = some (.s (.ptr (n + j) 0)) := by
        simp only [evX]
        rw [KS_get_one hoj hdj hLj (fun k q hq hqt => dstsOk_spec hds k j q oj x hq hoj hqt hdj) ops.size hjlt, hhas oj (List.mem_of_getElem? hoj) x hdj]
        simp [RT, nth_eq, hTj']
      have hEy : evX (KS ops.toList K (RT T) (fun j => listed.getD j false) ops.size) (.tmp y) = some v := by
        simp only [evX]
        rw [KS_get_one hol hdl hLl (fun k q hq hqt => dstsOk_spec hds k l q ol y hq hol hqt hdl) ops.size hllt, hhas ol (List.mem_of_getElem? hol) y hdl]
        simp [RT, nth_eq, hTl'']
      obtain ⟨vs', hso⟩ := onceOk_spec hon i .unit j l vs hTe
      rw [Nat.zero_add] at hso
      have hvs' : vs' = vs := by
        obtain ⟨_, v2, l2, hh⟩ := stO_spec hso
        rw [Nat.sub_zero, hTe] at hh
        simp only [Option.some.injEq, Prod.mk.injEq, KD.st.injEq] at hh
        exact hh.2.2.2.symm
      subst hvs'
      have hlkj : lk (MT T M n (fun j => listed.getD j false) ops.size) (n + j) = some ⟨z, true⟩ := by
        rw [lk_MT hMid, if_pos (by omega), if_pos (by omega), Nat.add_sub_cancel_left, nth_eq, hTj']
        simp only [hLj, cond_true]
        congr 2
        unfold content
        rw [hso]
        simp only [hun, cond_false]
      have hspl : spl z 0 vs' = vs' := by
        simp [spl, hv2]
      have hstv : stv (MT T M n (fun j => listed.getD j false) ops.size) (n + j) 0 vs' = some (updM (MT T M n (fun j => listed.getD j false) ops.size) (n + j) vs') := by
        unfold stv
        rw [hlkj]
        have hb : Nat.ble (0 + vs'.length) z.length = true := Nat.ble_eq_true_of_le (by omega)
        simp only [hb, hv3, Bool.and_self, cond_true, hspl]
      have hevE : evE Γ [] (evX (KS ops.toList K (RT T) (fun j => listed.getD j false) ops.size)) (MT T M n (fun j => listed.getD j false) ops.size) (n + ops.size) o.op =
          some (.unit, updM (MT T M n (fun j => listed.getD j false) ops.size) (n + j) vs', n + ops.size) := by
        rw [hop]
        have hbl : Nat.beq vs'.length r.size = true := by rw [hv1]; exact Nat.beq_refl _
        simp only [evE, hr, hEx, hEy, hvs, hbl, cond_true, hstv]
      refine evE_sound (Φ := []) hΓ (fun f s h => by cases h) hf.ev hf.lt hW hevE fun ρ' w' q1 q2 q3 hw => next _ _ ⟨ρ', hw.low fun id r' hr' => ?_, hf.put q1 q2 q3 hd⟩
      rw [lk_upd]
      rw [lk_MT hMid] at hr'
      by_cases h1 : n ≤ id
      · rw [if_pos h1] at hr'
        by_cases h2 : id - n < ops.size
        · rw [if_pos h2] at hr'
          rw [hS'] at hr'
          by_cases h3 : id = n + j
          · subst h3
            rw [if_pos rfl, hlkj]
            rw [Nat.add_sub_cancel_left, nth_eq, hTj'] at hr'
            have hji : j ≠ i := fun h => by
              subst h; rw [hun] at hLj; cases hLj
            simp only [if_neg hji, hLj, cond_true] at hr'
            rw [← hr']
            simp only [Option.map_some]
            congr 2
            unfold content
            rw [hso]
            simp only [hS', if_pos, cond_true]
          · rw [if_neg (by omega), lk_MT hMid, if_pos h1, if_pos h2]
            have hc : ∀ z2, content T (fun j => (listed.setIfInBounds i true).getD j false) (id - n) z2 = content T (fun j => listed.getD j false) (id - n) z2 := fun z2 => content_congr fun i' vs2 hi' => by
              rw [hS']
              by_cases hii : i' = i
              · subst hii
                obtain ⟨_, v2, l2, hh⟩ := stO_spec hi'
                rw [Nat.sub_zero, hTe] at hh
                simp only [Option.some.injEq, Prod.mk.injEq, KD.st.injEq] at hh
                omega
              · rw [if_neg hii]
            simp only [hc] at hr'
            by_cases h4 : id - n = i
            · rw [h4, nth_eq, hTe] at hr'; cases hr'
            · rw [if_neg h4] at hr'; exact hr'
        · rw [if_neg h2] at hr'; cases hr'
      · rw [if_neg h1] at hr'
        rw [if_neg (by omega), lk_MT hMid, if_neg h1]; exact hr'
end
end CI
end Go.Proofs.Yteooohmlmefbnaa
