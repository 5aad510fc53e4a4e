/-
  Contracts over memory out of runs over small regions.
  Conditions: none.
-/
import Derived.Test.YteooohmlmefbnaaKa
namespace Go.Proofs.Yteooohmlmefbnaa
namespace CI
open Go

def inR (b o n : Nat) (p : MemPlace) : Prop := ∃ j, j < n ∧ p = .cell b (o + j)
def Dis (b o n b' o' n' : Nat) : Prop := b ≠ b' ∨ o + n ≤ o' ∨ o' + n' ≤ o
/-- Cells that may be written. -/
def Nf (w : World) (b o n : Nat) : Prop := ∀ k, k < n → w.frozen? ⟨b, o + k, none⟩ = false
theorem Nf.fr {w w' : World} {b o n : Nat} (h : Nf w b o n) {may : MemPlace → Prop} (hf : Fr may w w') : Nf w' b o n := fun k hk => (hf.frozen _).trans (h k hk)
theorem Dis.out {b o n b' o' n' : Nat} (h : Dis b o n b' o' n') {k : Nat} (hk : k < n) : ¬ inR b' o' n' (.cell b (o + k)) := by
  rintro ⟨j, hj, he⟩
  simp only [MemPlace.cell.injEq] at he
  rcases h with h | h | h
  · exact h he.1
  · omega
  · omega
theorem Dis.symm {b o n b' o' n' : Nat} (h : Dis b o n b' o' n') : Dis b' o' n' b o n := by
  rcases h with h | h | h
  · exact .inl (Ne.symm h)
  · exact .inr (.inr h)
  · exact .inr (.inl h)

/-- Bytes in memory. -/
def By (w : World) (b o n : Nat) (f : Nat → BitVec 8) : Prop := b < w.heap.size ∧ ∀ k, k < n → w.cell? ⟨b, o + k, none⟩ = some (.int .u8 ((f k).toNat : Int))
theorem By.fr {w w' : World} {b o n : Nat} {f : Nat → BitVec 8} (h : By w b o n f) {may : MemPlace → Prop} (hf : Fr may w w') (hm : ∀ k, k < n → ¬ may (.cell b (o + k))) : By w' b o n f :=
  ⟨Nat.lt_of_lt_of_le h.1 hf.size, fun k hk => hf.cell h.1 (hm k hk) (h.2 k hk)⟩
theorem By.same {w w' : World} {b o n : Nat} {f : Nat → BitVec 8} (h : By w b o n f) (hf : Fr (fun _ => False) w w') : By w' b o n f := h.fr hf fun _ _ h => h
def bn (n : Nat) (f : Nat → BitVec 8) : List SW := (List.range n).map fun i => .w8 (f i)
theorem bn_length (n : Nat) (f : Nat → BitVec 8) : (bn n f).length = n := by simp [bn]
theorem bn_get (n : Nat) (f : Nat → BitVec 8) (k : Nat) (h : k < n) : (bn n f)[k]? = some (.w8 (f k)) := by simp [bn, h]

structure RegAt (w : World) (b o : Nat) (r : Reg) : Prop where
  lt : b < w.heap.size
  cell : ∀ (j : Nat) s, r.cells[j]? = some s → s.free = true ∧ w.cell? ⟨b, o + j, none⟩ = some (s.val (fun _ => (0, 0))) ∧ (r.rw = true → w.frozen? ⟨b, o + j, none⟩ = false)

theorem Wd.reg {w : World} {b o n : Nat} {f : Nat → W} (h : Wd w b o n f) : RegAt w b o ⟨wn n f, false⟩ :=
  ⟨h.1, fun j s hs => by
    have hj : j < n := by have := (List.getElem?_eq_some_iff.1 hs).1; rwa [wn_length] at this
    simp only [wn_get _ _ _ hj, Option.some.injEq] at hs
    subst hs
    exact ⟨rfl, h.2 j hj, fun h => by cases h⟩⟩
theorem Wd.regw {w : World} {b o n : Nat} {f : Nat → W} (h : Wd w b o n f) (hf : Nf w b o n) : RegAt w b o ⟨wn n f, true⟩ :=
  ⟨h.1, fun j s hs => by
    have hj : j < n := by have := (List.getElem?_eq_some_iff.1 hs).1; rwa [wn_length] at this
    simp only [wn_get _ _ _ hj, Option.some.injEq] at hs
    subst hs
    exact ⟨rfl, h.2 j hj, fun _ => hf j hj⟩⟩
theorem By.reg {w : World} {b o n : Nat} {f : Nat → BitVec 8} (h : By w b o n f) : RegAt w b o ⟨bn n f, false⟩ :=
  ⟨h.1, fun j s hs => by
    have hj : j < n := by have := (List.getElem?_eq_some_iff.1 hs).1; rwa [bn_length] at this
    simp only [bn_get _ _ _ hj, Option.some.injEq] at hs
    subst hs
    exact ⟨rfl, h.2 j hj, fun h => by cases h⟩⟩
theorem By.regw {w : World} {b o n : Nat} {f : Nat → BitVec 8} (h : By w b o n f) (hf : Nf w b o n) : RegAt w b o ⟨bn n f, true⟩ :=
  ⟨h.1, fun j s hs => by
    have hj : j < n := by have := (List.getElem?_eq_some_iff.1 hs).1; rwa [bn_length] at this
    simp only [bn_get _ _ _ hj, Option.some.injEq] at hs
    subst hs
    exact ⟨rfl, h.2 j hj, fun _ => hf j hj⟩⟩

def env3 (x0 x1 x2 : Nat × Nat) : Env
  | 0 => x0
  | 1 => x1
  | _ => x2

theorem cell_at {w : World} {b o : Nat} {r : Reg} (h : RegAt w b o r) {ρ : Env} {n : Nat} {j : Nat} {s : SW} (hs : r.cells[j]? = some s) (may : MemPlace → Prop) (hm : r.rw = true → may (.cell b (o + j))) :
    s.lt n ∧ w.cell? ⟨b, o + j, none⟩ = some (s.val ρ) ∧ (r.rw = true → w.frozen? ⟨b, o + j, none⟩ = false ∧ may (.cell b (o + j))) := by
  obtain ⟨h1, h2, h3⟩ := h.cell j s hs
  exact ⟨SW.lt_mono (Nat.zero_le n) (SW.lt_of_free h1), h2.trans (by rw [val_free h1 _ ρ]), fun hr => ⟨h3 hr, hm hr⟩⟩

theorem Dis.ap {b o n b' o' n' : Nat} (h : Dis b o n b' o' n') {j j' : Nat} (hj : j < n) (hj' : j' < n') : ¬ (b = b' ∧ o + j = o' + j') := by
  rintro ⟨h1, h2⟩
  rcases h with h | h | h
  · exact h h1
  · omega
  · omega

theorem lk1 {a : Reg} {i : Nat} {r : Reg} (h : lk [(0, a)] i = some r) : i = 0 ∧ r = a := by
  rw [lk_cons] at h
  split at h
  · rename_i e; exact ⟨e.symm, (Option.some.inj h).symm⟩
  · cases h
theorem lk2 {a b : Reg} {i : Nat} {r : Reg} (h : lk [(0, a), (1, b)] i = some r) : (i = 0 ∧ r = a) ∨ (i = 1 ∧ r = b) := by
  rw [lk_cons, lk_cons] at h
  split at h
  · rename_i e; exact .inl ⟨e.symm, (Option.some.inj h).symm⟩
  · split at h
    · rename_i e; exact .inr ⟨e.symm, (Option.some.inj h).symm⟩
    · cases h

section
variable {w : World} {b0 o0 b1 o1 b2 o2 : Nat} {r0 r1 r2 : Reg}
theorem rel1 (h0 : RegAt w b0 o0 r0) (x1 x2 : Nat × Nat) : Rel (mayOf (env3 (b0, o0) x1 x2) [(0, r0)] w) (env3 (b0, o0) x1 x2) [(0, r0)] 1 w := by
  refine ⟨fun id r hr => ?_, fun id r id' r' j j' hr hr' hne hrw hj hj' => ?_⟩
  · obtain ⟨rfl, rfl⟩ := lk1 hr
    exact ⟨by omega, h0.lt, fun j s hs => cell_at h0 hs _ fun hrw => .inl ⟨0, r, j, rfl, hrw, (List.getElem?_eq_some_iff.1 hs).1, rfl⟩⟩
  · obtain ⟨rfl, _⟩ := lk1 hr
    obtain ⟨rfl, _⟩ := lk1 hr'
    exact absurd rfl hne
theorem rel2 (h0 : RegAt w b0 o0 r0) (h1 : RegAt w b1 o1 r1) (d : Dis b0 o0 r0.cells.length b1 o1 r1.cells.length) (x2 : Nat × Nat) :
    Rel (mayOf (env3 (b0, o0) (b1, o1) x2) [(0, r0), (1, r1)] w) (env3 (b0, o0) (b1, o1) x2) [(0, r0), (1, r1)] 2 w := by
  refine ⟨fun id r hr => ?_, fun id r id' r' j j' hr hr' hne hrw hj hj' => ?_⟩
  · rcases lk2 hr with ⟨rfl, rfl⟩ | ⟨rfl, rfl⟩
    · exact ⟨by omega, h0.lt, fun j s hs => cell_at h0 hs _ fun hrw => .inl ⟨0, r, j, rfl, hrw, (List.getElem?_eq_some_iff.1 hs).1, rfl⟩⟩
    · exact ⟨by omega, h1.lt, fun j s hs => cell_at h1 hs _ fun hrw => .inl ⟨1, r, j, rfl, hrw, (List.getElem?_eq_some_iff.1 hs).1, rfl⟩⟩
  · rcases lk2 hr with ⟨rfl, rfl⟩ | ⟨rfl, rfl⟩ <;> rcases lk2 hr' with ⟨rfl, rfl⟩ | ⟨rfl, rfl⟩
    · exact absurd rfl hne
    · exact d.ap hj hj'
    · exact d.symm.ap hj hj'
    · exact absurd rfl hne
theorem rel3 (h0 : RegAt w b0 o0 r0) (h1 : RegAt w b1 o1 r1) (h2 : RegAt w b2 o2 r2) (d01 : Dis b0 o0 r0.cells.length b1 o1 r1.cells.length) (d02 : Dis b0 o0 r0.cells.length b2 o2 r2.cells.length) (d12 : Dis b1 o1 r1.cells.length b2 o2 r2.cells.length) :
    Rel (mayOf (env3 (b0, o0) (b1, o1) (b2, o2)) [(0, r0), (1, r1), (2, r2)] w) (env3 (b0, o0) (b1, o1) (b2, o2)) [(0, r0), (1, r1), (2, r2)] 3 w := by
  refine ⟨fun id r hr => ?_, fun id r id' r' j j' hr hr' hne hrw hj hj' => ?_⟩
  · rcases lk3 hr with ⟨rfl, rfl⟩ | ⟨rfl, rfl⟩ | ⟨rfl, rfl⟩
    · exact ⟨by omega, h0.lt, fun j s hs => cell_at h0 hs _ fun hrw => .inl ⟨0, r, j, rfl, hrw, (List.getElem?_eq_some_iff.1 hs).1, rfl⟩⟩
    · exact ⟨by omega, h1.lt, fun j s hs => cell_at h1 hs _ fun hrw => .inl ⟨1, r, j, rfl, hrw, (List.getElem?_eq_some_iff.1 hs).1, rfl⟩⟩
    · exact ⟨by omega, h2.lt, fun j s hs => cell_at h2 hs _ fun hrw => .inl ⟨2, r, j, rfl, hrw, (List.getElem?_eq_some_iff.1 hs).1, rfl⟩⟩
  · rcases lk3 hr with ⟨rfl, rfl⟩ | ⟨rfl, rfl⟩ | ⟨rfl, rfl⟩ <;> rcases lk3 hr' with ⟨rfl, rfl⟩ | ⟨rfl, rfl⟩ | ⟨rfl, rfl⟩
    · exact absurd rfl hne
    · exact d01.ap hj hj'
    · exact d02.ap hj hj'
    · exact d01.symm.ap hj hj'
    · exact absurd rfl hne
    · exact d12.ap hj hj'
    · exact d02.symm.ap hj hj'
    · exact d12.symm.ap hj hj'
    · exact absurd rfl hne

theorem may1 {x1 x2 : Nat × Nat} {p : MemPlace} (h : mayOf (env3 (b0, o0) x1 x2) [(0, r0)] w p) (hp : p.block < w.heap.size) : r0.rw = true ∧ inR b0 o0 r0.cells.length p := by
  rcases h with ⟨id, r, j, hr, hrw, hj, rfl⟩ | ⟨b, o, rfl, h⟩
  · obtain ⟨rfl, rfl⟩ := lk1 hr
    exact ⟨hrw, j, hj, rfl⟩
  · simp only [MemPlace.block] at hp; omega
theorem may2 {x2 : Nat × Nat} {p : MemPlace} (h : mayOf (env3 (b0, o0) (b1, o1) x2) [(0, r0), (1, r1)] w p) (hp : p.block < w.heap.size) : (r0.rw = true ∧ inR b0 o0 r0.cells.length p) ∨ (r1.rw = true ∧ inR b1 o1 r1.cells.length p) := by
  rcases h with ⟨id, r, j, hr, hrw, hj, rfl⟩ | ⟨b, o, rfl, h⟩
  · rcases lk2 hr with ⟨rfl, rfl⟩ | ⟨rfl, rfl⟩
    · exact .inl ⟨hrw, j, hj, rfl⟩
    · exact .inr ⟨hrw, j, hj, rfl⟩
  · simp only [MemPlace.block] at hp; omega
theorem may3 {p : MemPlace} (h : mayOf (env3 (b0, o0) (b1, o1) (b2, o2)) [(0, r0), (1, r1), (2, r2)] w p) (hp : p.block < w.heap.size) : (r0.rw = true ∧ inR b0 o0 r0.cells.length p) ∨ (r1.rw = true ∧ inR b1 o1 r1.cells.length p) ∨ (r2.rw = true ∧ inR b2 o2 r2.cells.length p) := by
  rcases h with ⟨id, r, j, hr, hrw, hj, rfl⟩ | ⟨b, o, rfl, h⟩
  · rcases lk3 hr with ⟨rfl, rfl⟩ | ⟨rfl, rfl⟩ | ⟨rfl, rfl⟩
    · exact .inl ⟨hrw, j, hj, rfl⟩
    · exact .inr (.inl ⟨hrw, j, hj, rfl⟩)
    · exact .inr (.inr ⟨hrw, j, hj, rfl⟩)
  · simp only [MemPlace.block] at hp; omega
end

theorem Rel.wd {may : MemPlace → Prop} {ρ : Env} {M : Mem} {k : Nat} {w : World} (h : Rel may ρ M k w) {id n : Nat} {f : Nat → W} {b : Bool} (hr : lk M id = some ⟨wn n f, b⟩) {x y : Nat} (he : ρ id = (x, y)) : Wd w x y n f := by
  obtain ⟨_, h2, h3⟩ := h.cell id _ hr
  rw [he] at h2 h3
  exact ⟨h2, fun j hj => (h3 j _ (wn_get _ _ _ hj)).2.1⟩
theorem Rel.by_ {may : MemPlace → Prop} {ρ : Env} {M : Mem} {k : Nat} {w : World} (h : Rel may ρ M k w) {id n : Nat} {f : Nat → BitVec 8} {b : Bool} (hr : lk M id = some ⟨bn n f, b⟩) {x y : Nat} (he : ρ id = (x, y)) : By w x y n f := by
  obtain ⟨_, h2, h3⟩ := h.cell id _ hr
  rw [he] at h2 h3
  exact ⟨h2, fun j hj => (h3 j _ (bn_get _ _ _ hj)).2.1⟩
end CI
end Go.Proofs.Yteooohmlmefbnaa
