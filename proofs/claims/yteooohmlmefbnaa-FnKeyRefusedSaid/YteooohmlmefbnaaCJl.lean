/-
  Runs of straight code over words that stay open (part 11: a run over few small regions serves wherever such cells lie). Each step is proved sound against the model.
  Conditions: none; it proves no statement by itself.
-/
import Derived.Test.YteooohmlmefbnaaCJk
namespace Go.Proofs.Yteooohmlmefbnaa
namespace CI
open Go

/-- The places that a run over these regions may write. -/
def mayOf (ρ : Env) (M : Mem) (w : World) : MemPlace → Prop := fun p => (∃ id r j, lk M id = some r ∧ r.rw = true ∧ j < r.cells.length ∧ p = .cell (ρ id).1 ((ρ id).2 + j)) ∨ ∃ b o, p = .cell b o ∧ w.heap.size ≤ b

section
variable {P : Program} {Γ : List (Nat × TRow)} {Φ : List (Nat × FnS)} {fuel : Nat}

/-- Out of an eff contract: at whatever world that bears the regions. -/
theorem calls_at {f : FuncId} {g : List SV → Mem → Nat → Option (SV × Mem × Nat)} (hok : FnOK P f (.eff g)) {args : List SV} {M M' : Mem} {n n' : Nat} {v : SV} (h : g args M n = some (v, M', n')) (hargs : ∀ x ∈ args, x.lt n) {ρ : Env} {w : World}
    (hrel : Rel (mayOf ρ M w) ρ M n w) :
    Calls P f (vals ρ args) w fun e w' => ∃ ρ', (∀ i, i < n → ρ' i = ρ i) ∧ v.lt n' ∧ e = .returned (v.val ρ') ∧ Rel (mayOf ρ M w) ρ' M' n' w' ∧ Fr (mayOf ρ M w) w w' := by
  let C : Ctx := ⟨mayOf ρ M w, w.heap.size, ρ, n, w⟩
  have hW : WR C ρ M n w := ⟨fun _ _ => rfl, Nat.le_refl _, hrel, Fr.refl _ _, Nat.le_refl _, fun b o hb => .inr ⟨b, o, rfl, hb⟩⟩
  exact (hok args M n v M' n' h hargs C ρ w hW).mono fun e w' ⟨ρ', h1, _, h3, h4, h5⟩ => ⟨ρ', h1, h3, h4, h5.rel, h5.fr⟩

/-- Where the small regions lie. -/
def subE (ρ : Env) (sub : Nat → Nat × Nat) : Env := fun i => ((ρ (sub i).1).1, (ρ (sub i).1).2 + (sub i).2)

structure Lies (M0 M : Mem) (k : Nat) (sub : Nat → Nat × Nat) : Prop where
  cells : ∀ i r, lk M0 i = some r → i < k ∧ ∃ g, lk M (sub i).1 = some g ∧ (∀ (j : Nat) s, r.cells[j]? = some s → s.free = true ∧ g.cells[(sub i).2 + j]? = some s) ∧ (r.rw = true → g.rw = true)
  apart : ∀ i r i' r' j j', lk M0 i = some r → lk M0 i' = some r' → i ≠ i' → r.rw = true → j < r.cells.length → j' < r'.cells.length → ¬ ((sub i).1 = (sub i').1 ∧ (sub i).2 + j = (sub i').2 + j')

structure Turned (M0 M0' M M' : Mem) (sub : Nat → Nat × Nat) : Prop where
  at_ : ∀ id r', lk M' id = some r' → ∃ r, lk M id = some r ∧ r'.rw = r.rw ∧ r'.cells.length = r.cells.length ∧ ∀ (j : Nat) s, r'.cells[j]? = some s →
    (r.rw = true ∧ s.free = true ∧ ∃ i r0', lk M0' i = some r0' ∧ (sub i).1 = id ∧ (sub i).2 ≤ j ∧ r0'.cells[j - (sub i).2]? = some s) ∨
    (r.cells[j]? = some s ∧ ∀ i r0, lk M0 i = some r0 → r0.rw = true → ¬ ((sub i).1 = id ∧ (sub i).2 ≤ j ∧ j < (sub i).2 + r0.cells.length))

theorem val_free {x : SW} (h : x.free = true) (ρ ρ' : Env) : x.val ρ = x.val ρ' := by cases x <;> first | rfl | cases h

theorem calls_sub {f : FuncId} {g : List SV → Mem → Nat → Option (SV × Mem × Nat)} (hok : FnOK P f (.eff g)) {args : List SV} {M0 M0' M M' : Mem} {k k' n : Nat} {v : SV} (h : g args M0 k = some (v, M0', k')) (hargs : ∀ x ∈ args, x.lt k) (hv : v.free = true) {sub : Nat → Nat × Nat}
    (hl : Lies M0 M k sub) (ht : Turned M0 M0' M M' sub) (hid : ∀ i r, lk M0' i = some r → i < k) {C : Ctx} {ρ : Env} {w : World} (hW : WR C ρ M n w) :
    Calls P f (vals (subE ρ sub) args) w fun e w' => e = .returned (v.val ρ) ∧ WR C ρ M' n w' := by
  have hrel : Rel (mayOf (subE ρ sub) M0 w) (subE ρ sub) M0 k w := by
    refine ⟨fun i r hr => ?_, fun i r i' r' j j' hr hr' hne hrw hj hj' => ?_⟩
    · obtain ⟨h1, g', hg, hc, hrw⟩ := hl.cells i r hr
      obtain ⟨k1, k2, k3⟩ := hW.rel.cell _ g' hg
      refine ⟨h1, k2, fun j s hs => ?_⟩
      obtain ⟨hfree, hgs⟩ := hc j s hs
      obtain ⟨m1, m2, m3⟩ := k3 _ s hgs
      refine ⟨SW.lt_mono (Nat.zero_le k) (SW.lt_of_free hfree), ?_, fun hr1 => ⟨?_, .inl ⟨i, r, j, hr, hr1, (List.getElem?_eq_some_iff.1 hs).1, rfl⟩⟩⟩
      · simp only [subE]
        rw [Nat.add_assoc, m2, val_free hfree ρ (subE ρ sub)]
      · simp only [subE]
        rw [Nat.add_assoc]; exact (m3 (hrw hr1)).1
    · obtain ⟨h1, g1, hg1, hc1, hrw1⟩ := hl.cells i r hr
      obtain ⟨h2, g2, hg2, hc2, _⟩ := hl.cells i' r' hr'
      have hd := hl.apart i r i' r' j j' hr hr' hne hrw hj hj'
      simp only [subE]
      rw [Nat.add_assoc, Nat.add_assoc]
      by_cases e : (sub i).1 = (sub i').1
      · rw [e]
        intro hh
        exact hd ⟨e, by have := hh.2; omega⟩
      · have l1 : (sub i).2 + j < g1.cells.length := (List.getElem?_eq_some_iff.1 (hc1 j _ (List.getElem?_eq_getElem hj)).2).1
        have l2 : (sub i').2 + j' < g2.cells.length := (List.getElem?_eq_some_iff.1 (hc2 j' _ (List.getElem?_eq_getElem hj')).2).1
        exact hW.rel.apart _ g1 _ g2 _ _ hg1 hg2 e (hrw1 hrw) l1 l2
  refine (calls_at hok h hargs hrel).mono fun e w' ⟨ρ', q1, q2, he, hr', hf⟩ => ⟨?_, ?_⟩
  · rw [he]
    congr 1
    exact SV.val_congr (n := 0) (fun i hi => absurd hi (Nat.not_lt_zero i)) (SV.lt_of_free hv)
  · have hmay : ∀ p, mayOf (subE ρ sub) M0 w p → C.may p := by
      rintro p (⟨i, r, j, hr, hrw, hj, rfl⟩ | ⟨b, o, rfl, hb⟩)
      · obtain ⟨_, g1, hg1, hc1, hrw1⟩ := hl.cells i r hr
        obtain ⟨k1, k2, k3⟩ := hW.rel.cell _ g1 hg1
        have := ((k3 _ _ (hc1 j _ (List.getElem?_eq_getElem hj)).2).2.2 (hrw1 hrw)).2
        simp only [subE]
        rw [Nat.add_assoc]; exact this
      · exact hW.own b o (Nat.le_trans hW.base hb)
    refine ⟨hW.env, hW.n0, ⟨fun id r' hr1 => ?_, fun id r id2 r2 j j' h1 h2 hne hrw hj hj' => ?_⟩, hW.fr.trans (hf.mono hmay), Nat.le_trans hW.base hf.size, hW.own⟩
    · obtain ⟨r, hr2, e1, e2, e3⟩ := ht.at_ id r' hr1
      obtain ⟨k1, k2, k3⟩ := hW.rel.cell id r hr2
      refine ⟨k1, Nat.lt_of_lt_of_le k2 hf.size, fun j s hs => ?_⟩
      have hjl : j < r.cells.length := by rw [← e2]; exact (List.getElem?_eq_some_iff.1 hs).1
      obtain ⟨m1, m2, m3⟩ := k3 j _ (List.getElem?_eq_getElem hjl)
      have hfz : r'.rw = true → w'.frozen? ⟨(ρ id).1, (ρ id).2 + j, none⟩ = false ∧ C.may (.cell (ρ id).1 ((ρ id).2 + j)) := fun hrw => by
        rw [e1] at hrw
        exact ⟨(hf.frozen _).trans (m3 hrw).1, (m3 hrw).2⟩
      rcases e3 j s hs with ⟨_, hfree, i, r0, hr0, hsi, hle, hcell⟩ | ⟨hold, hout⟩
      · refine ⟨SW.lt_mono (Nat.zero_le n) (SW.lt_of_free hfree), ?_, hfz⟩
        obtain ⟨_, _, p3⟩ := hr'.cell i r0 hr0
        have := (p3 _ s hcell).2.1
        rw [q1 i (hid i r0 hr0)] at this
        simp only [subE, hsi] at this
        rw [show (ρ id).2 + (sub i).2 + (j - (sub i).2) = (ρ id).2 + j by omega] at this
        rw [this, val_free hfree ρ' ρ]
      · obtain ⟨o1, o2, _⟩ := k3 j s hold
        refine ⟨o1, hf.cell k2 ?_ o2, hfz⟩
        rintro (⟨i, r0, j0, hr0, hrw0, hj0, he0⟩ | ⟨b, o, he0, hb⟩)
        · obtain ⟨_, g1, hg1, hc1, hrw1⟩ := hl.cells i r0 hr0
          have l1 : (sub i).2 + j0 < g1.cells.length := (List.getElem?_eq_some_iff.1 (hc1 j0 _ (List.getElem?_eq_getElem hj0)).2).1
          simp only [subE, MemPlace.cell.injEq] at he0
          by_cases e : (sub i).1 = id
          · refine hout i r0 hr0 hrw0 ⟨e, ?_, ?_⟩
            · rw [e] at he0; omega
            · rw [e] at he0; omega
          · exact hW.rel.apart _ g1 id r _ j hg1 hr2 e (hrw1 hrw0) l1 hjl ⟨he0.1.symm, by omega⟩
        · simp only [MemPlace.cell.injEq] at he0
          omega
    · obtain ⟨a, ha, ha1, ha2, _⟩ := ht.at_ id r h1
      obtain ⟨b, hb, hb1, hb2, _⟩ := ht.at_ id2 r2 h2
      exact hW.rel.apart id a id2 b j j' ha hb hne (ha1 ▸ hrw) (by omega) (by omega)
end
end CI
end Go.Proofs.Yteooohmlmefbnaa
