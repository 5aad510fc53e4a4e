/-
  Runs of straight code over words that stay open (part 3: memory, calls, one operation of whatever kind). Each step is proved sound against the model.
  Conditions: none; it proves no statement by itself.
-/
import Derived.Test.YteooohmlmefbnaaCJb
namespace Go.Proofs.Yteooohmlmefbnaa
namespace CI
open Go

/-! ### 1. Memory -/
structure Reg where
  cells : List SW
  rw : Bool

abbrev Mem := List (Nat × Reg)

def updM : Mem → Nat → List SW → Mem
  | [], _, _ => []
  | (k, r) :: M, id, cs => bif Nat.beq k id then (k, ⟨cs, r.rw⟩) :: M else (k, r) :: updM M id cs

theorem lk_cons {α : Type} (k : Nat) (v : α) (l : List (Nat × α)) (n : Nat) : lk ((k, v) :: l) n = if k = n then some v else lk l n := by
  simp only [lk]
  cases h : Nat.beq k n
  · rw [if_neg (Nat.ne_of_beq_eq_false h)]; rfl
  · rw [if_pos (Nat.eq_of_beq_eq_true h)]; rfl

theorem lk_upd : ∀ (M : Mem) (id : Nat) (cs : List SW) (id' : Nat), lk (updM M id cs) id' = if id = id' then (lk M id).map (fun r => ⟨cs, r.rw⟩) else lk M id'
  | [], id, cs, id' => by simp [updM, lk]
  | (k, r) :: M, id, cs, id' => by
    simp only [updM]
    cases h : Nat.beq k id
    · have hk := Nat.ne_of_beq_eq_false h
      simp only [cond_false, lk_cons, lk_upd M id cs id']
      by_cases e1 : k = id'
      · subst e1; simp [Ne.symm hk]
      · by_cases e2 : id = id'
        · subst e2; simp [hk]
        · simp [e1, e2]
    · have hk := Nat.eq_of_beq_eq_true h
      subst hk
      simp only [cond_true, lk_cons]
      by_cases e1 : k = id'
      · simp [e1]
      · simp [e1]

def spl (cells : List SW) (off : Nat) (vs : List SW) : List SW := cells.take off ++ (vs ++ cells.drop (off + vs.length))

theorem spl_get (cells : List SW) (off : Nat) (vs : List SW) (h : off + vs.length ≤ cells.length) (j : Nat) :
    (spl cells off vs)[j]? = if off ≤ j ∧ j < off + vs.length then vs[j - off]? else cells[j]? := by
  have ht : (cells.take off).length = off := by rw [List.length_take]; omega
  unfold spl
  by_cases h1 : j < off
  · rw [List.getElem?_append_left (by omega), if_neg (by omega), List.getElem?_take, if_pos h1]
  · rw [List.getElem?_append_right (by omega), ht]
    by_cases h2 : j < off + vs.length
    · rw [List.getElem?_append_left (by omega), if_pos (by omega)]
    · rw [List.getElem?_append_right (by omega), if_neg (by omega), List.getElem?_drop]
      congr 1; omega

theorem spl_length (cells : List SW) (off : Nat) (vs : List SW) (h : off + vs.length ≤ cells.length) : (spl cells off vs).length = cells.length := by
  unfold spl; simp; omega

/-- What has become of a world: 'may': the places that may be written. -/
structure Fr (may : MemPlace → Prop) (w w' : World) : Prop where
  kept : w.keptBut w' may
  frozen : ∀ a, w'.frozen? a = w.frozen? a
  size : w.heap.size ≤ w'.heap.size
  tape : w'.tape = w.tape

theorem Fr.refl (may : MemPlace → Prop) (w : World) : Fr may w w := ⟨World.keptBut_refl _ _, fun _ => rfl, Nat.le_refl _, rfl⟩
theorem Fr.trans {may : MemPlace → Prop} {a b c : World} (h : Fr may a b) (k : Fr may b c) : Fr may a c :=
  ⟨World.keptBut_trans h.kept k.kept, fun x => (k.frozen x).trans (h.frozen x), Nat.le_trans h.size k.size, k.tape.trans h.tape⟩
theorem Fr.mono {may may' : MemPlace → Prop} {a b : World} (hm : ∀ p, may p → may' p) (h : Fr may a b) : Fr may' a b :=
  ⟨World.keptBut_mono hm h.kept, h.frozen, h.size, h.tape⟩
theorem Fr.alloc (may : MemPlace → Prop) (w : World) (c : Array Value) (t : TypeId) : Fr may w (w.alloc (.cells c t)) :=
  ⟨World.keptBut_alloc _ _ _, fun a => RowKit.frozen?_alloc_cells _ _ _ a, by simp, rfl⟩
theorem Fr.drew (may : MemPlace → Prop) (w : World) : Fr may w w.drew := ⟨World.keptBut_refl _ _, fun _ => rfl, Nat.le_refl _, rfl⟩
theorem tape_setCells (b : Nat) : ∀ (vs : List Value) (o : Nat) (w : World), (w.setCells b o vs).tape = w.tape
  | [], _, _ => rfl
  | v :: r, o, w => by rw [World.setCells, tape_setCells b r]; rfl
theorem size_setCells (b : Nat) : ∀ (vs : List Value) (o : Nat) (w : World), (w.setCells b o vs).heap.size = w.heap.size
  | [], _, _ => rfl
  | v :: r, o, w => by rw [World.setCells, size_setCells b r]; simp
theorem Fr.setCells {may : MemPlace → Prop} (w : World) (b o : Nat) (vs : List Value) (h : ∀ j, j < vs.length → may (.cell b (o + j))) : Fr may w (w.setCells b o vs) :=
  ⟨World.keptBut_setCells b vs o w h, fun a => World.frozen?_setCells b vs o w a, by rw [size_setCells]; exact Nat.le_refl _, tape_setCells b vs o w⟩

/-- A cell of an old block that may not be written reads as before. -/
theorem Fr.cell {may : MemPlace → Prop} {w w' : World} (h : Fr may w w') {b o : Nat} (hb : b < w.heap.size) (hm : ¬ may (.cell b o)) {v : Value} (hv : w.cell? ⟨b, o, none⟩ = some v) :
    w'.cell? ⟨b, o, none⟩ = some v := by
  have := h.kept.2.2 b hb
  unfold World.cell? at hv ⊢
  simp only at hv ⊢
  cases e : w.heap[b]? with
  | none => simp [e] at hv
  | some ob =>
    cases ob <;> simp [e] at hv
    rename_i c t fr
    rw [e] at this
    cases e' : w'.heap[b]? with
    | none => simp [e'] at this
    | some ob' =>
      cases ob' <;> simp [e'] at this
      rename_i c' t' fr'
      simp
      rw [this.2.2.2 o hm]; exact hv

/-! ### 2. What is known of a world -/
structure Rel (may : MemPlace → Prop) (ρ : Env) (M : Mem) (n : Nat) (w : World) : Prop where
  cell : ∀ id r, lk M id = some r → id < n ∧ (ρ id).1 < w.heap.size ∧ ∀ j s, r.cells[j]? = some s → s.lt n ∧ w.cell? ⟨(ρ id).1, (ρ id).2 + j, none⟩ = some (s.val ρ) ∧
    (r.rw = true → w.frozen? ⟨(ρ id).1, (ρ id).2 + j, none⟩ = false ∧ may (.cell (ρ id).1 ((ρ id).2 + j)))
  apart : ∀ id r id' r' j j', lk M id = some r → lk M id' = some r' → id ≠ id' → r.rw = true → j < r.cells.length → j' < r'.cells.length → ¬ ((ρ id).1 = (ρ id').1 ∧ (ρ id).2 + j = (ρ id').2 + j')

structure Ctx where
  may : MemPlace → Prop
  B : Nat
  ρ0 : Env
  n0 : Nat
  w0 : World

structure WR (C : Ctx) (ρ : Env) (M : Mem) (n : Nat) (w : World) : Prop where
  env : ∀ i, i < C.n0 → ρ i = C.ρ0 i
  n0 : C.n0 ≤ n
  rel : Rel C.may ρ M n w
  fr : Fr C.may C.w0 w
  base : C.B ≤ w.heap.size
  own : ∀ b o, C.B ≤ b → C.may (.cell b o)

/-- Whatever is laid behind the old blocks, and is written nowhere, keeps what is known. -/
theorem WR.grown {C : Ctx} {ρ : Env} {M : Mem} {n : Nat} {w w' : World} (h : WR C ρ M n w) (hg : Fr (fun _ => False) w w') : WR C ρ M n w' :=
  ⟨h.env, h.n0, ⟨fun id r hr => by
      obtain ⟨h1, h2, h3⟩ := h.rel.cell id r hr
      refine ⟨h1, Nat.lt_of_lt_of_le h2 hg.size, fun j s hs => ?_⟩
      obtain ⟨g1, g2, g3⟩ := h3 j s hs
      exact ⟨g1, hg.cell h2 (fun f => f) g2, fun hrw => ⟨(hg.frozen _).trans (g3 hrw).1, (g3 hrw).2⟩⟩, h.rel.apart⟩,
    h.fr.trans (hg.mono fun _ f => f.elim), Nat.le_trans h.base hg.size, h.own⟩

def upE (ρ : Env) (n : Nat) (x : Nat × Nat) : Env := fun i => if i = n then x else ρ i

theorem upE_lt {ρ : Env} {n : Nat} {x : Nat × Nat} (i : Nat) (h : i < n) : upE ρ n x i = ρ i := by simp [upE]; omega

/-- A new block. -/
theorem WR.alloc {C : Ctx} {ρ : Env} {M : Mem} {n : Nat} {w : World} (h : WR C ρ M n w) (cs : List SW) (hcs : ∀ x ∈ cs, x.lt n) (t : TypeId) :
    WR C (upE ρ n (w.heap.size, 0)) ((n, ⟨cs, true⟩) :: M) (n + 1) (w.alloc (.cells (cs.map (SW.val ρ)).toArray t)) := by
  have hv : ∀ {s : SW}, s.lt n → s.val (upE ρ n (w.heap.size, 0)) = s.val ρ := fun hs => SW.val_congr (fun i hi => upE_lt i hi) hs
  have hnew : upE ρ n (w.heap.size, 0) n = (w.heap.size, 0) := by simp [upE]
  refine ⟨fun i hi => (upE_lt i (Nat.lt_of_lt_of_le hi h.n0)).trans (h.env i hi), Nat.le_succ_of_le h.n0, ⟨fun id r hr => ?_, fun id r id' r' j j' hr hr' hne hrw hj hj' => ?_⟩,
    h.fr.trans (Fr.alloc _ _ _ _), Nat.le_trans h.base (by simp), h.own⟩
  · rw [lk_cons] at hr
    by_cases e : n = id
    · subst e
      rw [if_pos rfl] at hr
      cases hr
      rw [hnew]
      refine ⟨Nat.lt_succ_self _, by simp, fun j s hs => ⟨SW.lt_mono (Nat.le_succ _) (hcs _ (List.mem_of_getElem? hs)), ?_, fun _ => ⟨?_, h.own _ _ h.base⟩⟩⟩
      · rw [hv (hcs _ (List.mem_of_getElem? hs)), Nat.zero_add, World.cell?_alloc_new]
        simp only [List.getElem?_toArray, List.getElem?_map] ; simp only at hs; rw [hs]; rfl
      · rw [World.frozen?_alloc_new]
    · rw [if_neg e] at hr
      obtain ⟨h1, h2, h3⟩ := h.rel.cell id r hr
      have e2 : upE ρ n (w.heap.size, 0) id = ρ id := upE_lt id h1
      rw [e2]
      refine ⟨Nat.lt_succ_of_lt h1, by simp; omega, fun j s hs => ?_⟩
      obtain ⟨g1, g2, g3⟩ := h3 j s hs
      refine ⟨SW.lt_mono (Nat.le_succ _) g1, ?_, fun hrw => ⟨?_, (g3 hrw).2⟩⟩
      · rw [hv g1, World.cell?_alloc_lt _ _ _ (by simpa using h2)]; exact g2
      · rw [RowKit.frozen?_alloc_cells]; exact (g3 hrw).1
  · rw [lk_cons] at hr hr'
    by_cases e : n = id
    · by_cases e' : n = id'
      · omega
      · rw [if_neg e'] at hr'
        obtain ⟨h1, h2, h3⟩ := h.rel.cell id' r' hr'
        subst e
        rw [hnew, upE_lt id' h1]
        simp only
        omega
    · rw [if_neg e] at hr
      obtain ⟨h1, h2, h3⟩ := h.rel.cell id r hr
      by_cases e' : n = id'
      · subst e'
        rw [hnew, upE_lt id h1]
        simp only
        omega
      · rw [if_neg e'] at hr'
        obtain ⟨h1', _, _⟩ := h.rel.cell id' r' hr'
        rw [upE_lt id h1, upE_lt id' h1']
        exact h.rel.apart id r id' r' j j' hr hr' hne hrw hj hj'

/-- A store. -/
theorem WR.store {C : Ctx} {ρ : Env} {M : Mem} {n : Nat} {w : World} (h : WR C ρ M n w) {id : Nat} {g : Reg} (hg : lk M id = some g) (hrw : g.rw = true) (off : Nat) (vs : List SW)
    (hlen : off + vs.length ≤ g.cells.length) (hvs : ∀ x ∈ vs, x.lt n) :
    WR C ρ (updM M id (spl g.cells off vs)) n (w.setCells (ρ id).1 ((ρ id).2 + off) (vs.map (SW.val ρ))) := by
  obtain ⟨g1, g2, g3⟩ := h.rel.cell id g hg
  have hmay : ∀ j, j < (vs.map (SW.val ρ)).length → C.may (.cell (ρ id).1 ((ρ id).2 + off + j)) := fun j hj => by
    rw [List.length_map] at hj
    obtain ⟨s, hs⟩ : ∃ s, g.cells[off + j]? = some s := ⟨g.cells[off + j], List.getElem?_eq_getElem (by omega)⟩
    have := ((g3 _ s hs).2.2 hrw).2
    rwa [← Nat.add_assoc] at this
  have hsome : ∀ j, j < (vs.map (SW.val ρ)).length → (w.cell? ⟨(ρ id).1, (ρ id).2 + off + j, none⟩).isSome = true := fun j hj => by
    rw [List.length_map] at hj
    obtain ⟨s, hs⟩ : ∃ s, g.cells[off + j]? = some s := ⟨g.cells[off + j], List.getElem?_eq_getElem (by omega)⟩
    have := (g3 _ s hs).2.1
    rw [← Nat.add_assoc] at this
    rw [this]; rfl
  refine ⟨h.env, h.n0, ⟨fun id' r hr => ?_, fun id1 r1 id2 r2 j j' hr hr' hne hrw1 hj hj' => ?_⟩, h.fr.trans (Fr.setCells _ _ _ _ hmay), by rw [size_setCells]; exact h.base, h.own⟩
  · rw [lk_upd] at hr
    by_cases e : id = id'
    · subst e
      rw [if_pos rfl, hg] at hr
      simp only [Option.map_some, Option.some.injEq] at hr
      subst hr
      refine ⟨g1, by rw [size_setCells]; exact g2, fun j s hs => ?_⟩
      simp only at hs
      rw [spl_get _ _ _ hlen] at hs
      obtain ⟨s0, hs0⟩ : ∃ s, g.cells[j]? = some s := by
        by_cases hj : off ≤ j ∧ j < off + vs.length
        · exact ⟨g.cells[j], List.getElem?_eq_getElem (by omega)⟩
        · rw [if_neg hj] at hs; exact ⟨s, hs⟩
      refine ⟨?_, ?_, fun _ => ⟨by rw [World.frozen?_setCells]; exact ((g3 j s0 hs0).2.2 hrw).1, ((g3 j s0 hs0).2.2 hrw).2⟩⟩
      · by_cases hj : off ≤ j ∧ j < off + vs.length
        · rw [if_pos hj] at hs; exact hvs _ (List.mem_of_getElem? hs)
        · rw [if_neg hj] at hs; exact (g3 j s hs).1
      · by_cases hj : off ≤ j ∧ j < off + vs.length
        · rw [if_pos hj] at hs
          have hlt : j - off < (vs.map (SW.val ρ)).length := by rw [List.length_map]; omega
          have := World.cell?_setCells_in (ρ id).1 (vs.map (SW.val ρ)) ((ρ id).2 + off) w hsome (j - off) hlt
          rw [show (ρ id).2 + off + (j - off) = (ρ id).2 + j by omega] at this
          rw [this]
          have hlt' : j - off < vs.length := by rwa [List.length_map] at hlt
          rw [List.getElem_map]
          rw [List.getElem?_eq_getElem hlt'] at hs
          simp only [Option.some.injEq] at hs
          rw [hs]
        · rw [if_neg hj] at hs
          rw [World.cell?_setCells_out _ _ _ _ _ (fun _ _ => by rw [List.length_map]; simp only; omega)]
          exact (g3 j s hs).2.1
    · rw [if_neg e] at hr
      obtain ⟨k1, k2, k3⟩ := h.rel.cell id' r hr
      refine ⟨k1, by rw [size_setCells]; exact k2, fun j s hs => ?_⟩
      obtain ⟨m1, m2, m3⟩ := k3 j s hs
      refine ⟨m1, ?_, fun hrw' => ⟨by rw [World.frozen?_setCells]; exact (m3 hrw').1, (m3 hrw').2⟩⟩
      rw [World.cell?_setCells_out _ _ _ _ _ (fun hb _ => ?_)]
      · exact m2
      · rw [List.length_map]
        simp only at hb ⊢
        have hjl : j < r.cells.length := (List.getElem?_eq_some_iff.1 hs).1
        rcases Nat.lt_or_ge ((ρ id').2 + j) ((ρ id).2 + off) with hlt | hge
        · exact .inl hlt
        · refine .inr (Nat.le_of_not_lt fun hlt => ?_)
          exact h.rel.apart id g id' r ((ρ id').2 + j - (ρ id).2) j hg hr e hrw (by omega) hjl ⟨hb.symm, by omega⟩
  · have hu : ∀ {i r}, lk (updM M id (spl g.cells off vs)) i = some r → ∃ r', lk M i = some r' ∧ r'.rw = r.rw ∧ r'.cells.length = r.cells.length := by
      intro i r hr
      rw [lk_upd] at hr
      by_cases e : id = i
      · subst e
        rw [if_pos rfl, hg] at hr
        simp only [Option.map_some, Option.some.injEq] at hr
        subst hr
        exact ⟨g, hg, rfl, (spl_length _ _ _ hlen).symm⟩
      · rw [if_neg e] at hr; exact ⟨r, hr, rfl, rfl⟩
    obtain ⟨q1, a1, a2, a3⟩ := hu hr
    obtain ⟨q2, b1, b2, b3⟩ := hu hr'
    exact h.rel.apart id1 q1 id2 q2 j j' a1 b1 hne (a2.trans hrw1) (by omega) (by omega)
end CI
end Go.Proofs.Yteooohmlmefbnaa
