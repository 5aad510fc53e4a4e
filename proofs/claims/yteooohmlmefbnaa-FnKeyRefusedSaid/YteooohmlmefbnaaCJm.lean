/-
  Runs of straight code over words that stay open (part 12: slices that grow). Each step is proved sound against the model.
  Conditions: none; it proves no statement by itself.
-/
import Derived.Test.YteooohmlmefbnaaCJl
import Derived.Laws.AppendOwn
namespace Go.Proofs.Yteooohmlmefbnaa
namespace CI
open Go

abbrev OT := List (Nat × TypeId)

/-- Slices that the run alone holds: the block is theirs, the capacity is the environment's. -/
structure OwnOK (C : Ctx) (ρ : Env) (M : Mem) (O : OT) (n : Nat) (w : World) : Prop where
  at_ : ∀ id e, lk O id = some e → id + 1 < n ∧ (ρ id).2 = 0 ∧ (ρ (id + 1)).1 ≤ maxLen ∧ (∃ cur, w.heap[(ρ id).1]? = some (.cells cur e (0, 0)) ∧ cur.size = (ρ (id + 1)).1) ∧ (∀ o, C.may (.cell (ρ id).1 o)) ∧
    ∃ r, lk M id = some r ∧ r.rw = false ∧ r.cells.length ≤ (ρ (id + 1)).1
  apart : ∀ id e id' r', lk O id = some e → lk M id' = some r' → id' ≠ id → (ρ id').1 ≠ (ρ id).1

def StO (C : Ctx) (N : Nat) (f : Nat → Option SV) (M : Mem) (O : OT) (n : Nat) (a : Act) (w : World) : Prop := ∃ ρ, WR C ρ M n w ∧ OwnOK C ρ M O n w ∧ FitA ρ f n N a

/-- The context of one step: the own blocks are out of its reach. -/
def inner (C : Ctx) (ρ : Env) (O : OT) (n : Nat) (w : World) : Ctx := ⟨fun p => C.may p ∧ ∀ id e, lk O id = some e → p.block ≠ (ρ id).1, w.heap.size, ρ, n, w⟩

theorem OwnOK.inner {C : Ctx} {ρ : Env} {M : Mem} {O : OT} {n : Nat} {w : World} (h : OwnOK C ρ M O n w) (hW : WR C ρ M n w) : WR (inner C ρ O n w) ρ M n w := by
  refine ⟨fun _ _ => rfl, Nat.le_refl _, ⟨fun id r hr => ?_, hW.rel.apart⟩, Fr.refl _ _, Nat.le_refl _, fun b o hb => ⟨hW.own b o (Nat.le_trans hW.base hb), fun id e hid => ?_⟩⟩
  · obtain ⟨h1, h2, h3⟩ := hW.rel.cell id r hr
    refine ⟨h1, h2, fun j s hs => ?_⟩
    obtain ⟨g1, g2, g3⟩ := h3 j s hs
    refine ⟨g1, g2, fun hrw => ⟨(g3 hrw).1, (g3 hrw).2, fun id' e hid' => ?_⟩⟩
    refine h.apart id' e id r hid' hr fun heq => ?_
    subst heq
    obtain ⟨_, _, _, _, _, r', hr', hrw', _⟩ := h.at_ id e hid'
    rw [hr] at hr'
    cases hr'
    rw [hrw] at hrw'; cases hrw'
  · obtain ⟨_, _, _, ⟨cur, hc, _⟩, _⟩ := h.at_ id e hid
    have hlt : (ρ id).1 < w.heap.size := (Array.getElem?_eq_some_iff.1 hc).1
    simp only [MemPlace.block]
    have : w.heap.size ≤ b := hb
    omega

/-- May what became of the memory stand beside the own slices? -/
def keepO (M M' : Mem) (O : OT) (n : Nat) : Bool :=
  (M'.all fun x => bif Nat.blt x.1 n then (lk M x.1).isSome else (x.2.rw && !x.2.cells.isEmpty)) &&
  O.all fun x => match lk M x.1 with
    | some r => match lk M' x.1 with
      | some r' => !r'.rw && Nat.beq r'.cells.length r.cells.length
      | none => false
    | none => false

theorem lk_mem {α : Type} : ∀ {l : List (Nat × α)} {k : Nat} {v : α}, lk l k = some v → (k, v) ∈ l
  | (k', v') :: l, k, v, h => by
    rw [lk_cons] at h
    split at h
    · rename_i e; subst e; cases h; exact List.mem_cons_self
    · exact List.mem_cons_of_mem _ (lk_mem h)
  | [], _, _, h => by cases h

theorem OwnOK.outer {C : Ctx} {ρ ρ' : Env} {M M' : Mem} {O : OT} {n n' : Nat} {w w' : World} (h : OwnOK C ρ M O n w) (hW : WR C ρ M n w) (hk : keepO M M' O n = true) (hW' : WR (CI.inner C ρ O n w) ρ' M' n' w') : WR C ρ' M' n' w' ∧ OwnOK C ρ' M' O n' w' := by
  simp only [keepO, Bool.and_eq_true] at hk
  have henv : ∀ i, i < n → ρ' i = ρ i := hW'.env
  have hn : n ≤ n' := hW'.n0
  have hf : Fr (CI.inner C ρ O n w).may w w' := hW'.fr
  refine ⟨⟨fun i hi => (henv i (Nat.lt_of_lt_of_le hi hW.n0)).trans (hW.env i hi), Nat.le_trans hW.n0 hn, ⟨fun id r hr => ?_, hW'.rel.apart⟩, hW.fr.trans (hf.mono fun p hp => hp.1), Nat.le_trans hW.base hf.size, hW.own⟩, ?_, ?_⟩
  · obtain ⟨h1, h2, h3⟩ := hW'.rel.cell id r hr
    exact ⟨h1, h2, fun j s hs => ⟨(h3 j s hs).1, (h3 j s hs).2.1, fun hrw => ⟨((h3 j s hs).2.2 hrw).1, ((h3 j s hs).2.2 hrw).2.1⟩⟩⟩
  · intro id e hid
    obtain ⟨h1, h2, h3, ⟨cur, h4, h5⟩, h6, r, h7, h8, h9⟩ := h.at_ id e hid
    have e1 := henv id (by omega)
    have e2 := henv (id + 1) h1
    rw [e1, e2]
    refine ⟨by omega, h2, h3, ?_, h6, ?_⟩
    · have hlt : (ρ id).1 < w.heap.size := (Array.getElem?_eq_some_iff.1 h4).1
      have := hf.kept.2.2 _ hlt
      rw [h4] at this
      cases hw : w'.heap[(ρ id).1]? with
      | none => rw [hw] at this; cases this
      | some ob =>
        rw [hw] at this
        cases ob with
        | cells c t fr =>
          obtain ⟨rfl, rfl, hs, _⟩ := this
          exact ⟨c, rfl, hs.trans h5⟩
        | _ => cases this
    · have := List.all_eq_true.1 hk.2 _ (lk_mem hid)
      simp only [h7] at this
      cases hm : lk M' id with
      | none => rw [hm] at this; cases this
      | some r' =>
        rw [hm] at this
        simp only [Bool.and_eq_true, Bool.not_eq_true'] at this
        exact ⟨r', rfl, this.1, by rw [Nat.eq_of_beq_eq_true this.2]; exact h9⟩
  · intro id e id' r' hid hr' hne
    obtain ⟨h1, _⟩ := h.at_ id e hid
    have e1 := henv id (by omega)
    rw [e1]
    have hm := List.all_eq_true.1 hk.1 _ (lk_mem hr')
    simp only at hm
    cases hb : Nat.blt id' n
    · simp only [hb, cond_false, Bool.and_eq_true, Bool.not_eq_true'] at hm
      obtain ⟨_, _, h3⟩ := hW'.rel.cell id' r' hr'
      cases hc : r'.cells with
      | nil => rw [hc] at hm; simp at hm
      | cons s l =>
        have := (h3 0 s (by rw [hc]; rfl)).2.2 hm.1
        exact this.2.2 id e hid
    · simp only [hb, cond_true] at hm
      have hlt : id' < n := Nat.le_of_ble_eq_true hb
      rw [henv id' hlt]
      cases hl : lk M id' with
      | none => rw [hl] at hm; cases hm
      | some r0 => exact h.apart id e id' r0 hid hl hne

structure SliOK (P : Program) (t e : TypeId) (b : Nat) : Prop where
  ex : ∃ i z, P.underlying t = some (.slice e) ∧ P.info? e = some i ∧ i.zero = some z ∧ i.size = 1 ∧ i.bytes = b ∧ z.cells.size = 1

def rem {α : Type} (k : Nat) : List (Nat × α) → List (Nat × α)
  | [] => []
  | (k', v) :: l => bif Nat.beq k' k then rem k l else (k', v) :: rem k l

theorem lk_rem {α : Type} {k : Nat} : ∀ {l : List (Nat × α)} {id : Nat} {v : α}, lk (rem k l) id = some v → id ≠ k ∧ lk l id = some v
  | [], id, v, h => by cases h
  | (k', v') :: l, id, v, h => by
    simp only [rem] at h
    cases hb : Nat.beq k' k
    · simp only [hb, cond_false, lk_cons] at h
      have hne := Nat.ne_of_beq_eq_false hb
      split at h
      · rename_i e; subst e; cases h
        exact ⟨hne, by rw [lk_cons, if_pos rfl]⟩
      · rename_i e
        obtain ⟨h1, h2⟩ := lk_rem h
        exact ⟨h1, by rw [lk_cons, if_neg e]; exact h2⟩
    · simp only [hb, cond_true] at h
      have hk := Nat.eq_of_beq_eq_true hb
      obtain ⟨h1, h2⟩ := lk_rem h
      exact ⟨h1, by rw [lk_cons, if_neg (by omega)]; exact h2⟩

theorem Fr.setRow {may : MemPlace → Prop} {w : World} {g : Nat} {cur cs : Array Value} {e : TypeId} {fr : Nat × Nat} (hg : w.heap[g]? = some (.cells cur e fr)) (hsz : cs.size = cur.size) (hm : ∀ o, may (.cell g o)) : Fr may w (w.setRow g cs) := by
  refine ⟨⟨rfl, rfl, fun i hi => ?_⟩, fun a => ?_, by simp, rfl⟩
  · by_cases h : i = g
    · subst h
      rw [setRow_heap w i cur cs e fr hg, hg]
      exact ⟨rfl, rfl, hsz, fun j hj => absurd (hm j) hj⟩
    · rw [setRow_other w g i cs h]
      exact (World.keptBut_refl w may).2.2 i hi
  · by_cases h : a.block = g
    · simp only [World.frozen?, h, setRow_heap w g cur cs e fr hg, hg]
    · simp only [World.frozen?, setRow_other w g a.block cs h]

def newE (ρ : Env) (n : Nat) (g cap : Nat) : Env := fun i => if i = n then (g, 0) else if i = n + 1 then (cap, 0) else ρ i

theorem newE_lt {ρ : Env} {n g cap i : Nat} (h : i < n) : newE ρ n g cap i = ρ i := by
  simp only [newE]; rw [if_neg (by omega), if_neg (by omega)]
theorem newE_n {ρ : Env} {n g cap : Nat} : newE ρ n g cap n = (g, 0) := by simp [newE]
theorem newE_n1 {ρ : Env} {n g cap : Nat} : newE ρ n g cap (n + 1) = (cap, 0) := by simp [newE]

/-- A block comes to be (or to be known anew) as an own slice: what is asked of the new world. -/
theorem own_new {C : Ctx} {ρ : Env} {M : Mem} {O : OT} {n : Nat} {w w' : World} (hW : WR C ρ M n w) (hO : OwnOK C ρ M O n w) (k : Nat) (hf : Fr C.may w w') {g cap : Nat} {e : TypeId} {cur : Array Value} (hg : w'.heap[g]? = some (.cells cur e (0, 0))) (hcur : cur.size = cap)
    (hcap : cap ≤ maxLen) (hmay : ∀ o, C.may (.cell g o)) {xs : List SW} (hxl : xs.length ≤ cap) (hxs : ∀ (j : Nat) s, xs[j]? = some s → s.lt n ∧ cur[j]? = some (s.val ρ))
    (hkeep : ∀ id r, lk M id = some r → id ≠ k → (ρ id).1 ≠ g ∧ ∀ (j : Nat) s, r.cells[j]? = some s → w'.cell? ⟨(ρ id).1, (ρ id).2 + j, none⟩ = some (s.val ρ)) :
    WR C (newE ρ n g cap) ((n, ⟨xs, false⟩) :: rem k M) (n + 2) w' ∧ OwnOK C (newE ρ n g cap) ((n, ⟨xs, false⟩) :: rem k M) ((n, e) :: rem k O) (n + 2) w' := by
  have hv : ∀ {s : SW}, s.lt n → s.val (newE ρ n g cap) = s.val ρ := fun hs => SW.val_congr (fun i hi => newE_lt hi) hs
  have old : ∀ {id r}, lk ((n, ⟨xs, false⟩) :: rem k M) id = some r → (id = n ∧ r = ⟨xs, false⟩) ∨ (id ≠ n ∧ id ≠ k ∧ lk M id = some r) := fun {id r} h => by
    rw [lk_cons] at h
    split at h
    · rename_i e; exact .inl ⟨e.symm, (Option.some.inj h).symm⟩
    · rename_i e; obtain ⟨h1, h2⟩ := lk_rem h; exact .inr ⟨Ne.symm e, h1, h2⟩
  have hglt : g < w'.heap.size := (Array.getElem?_eq_some_iff.1 hg).1
  refine ⟨⟨fun i hi => (newE_lt (Nat.lt_of_lt_of_le hi hW.n0)).trans (hW.env i hi), Nat.le_trans hW.n0 (by omega), ⟨fun id r hr => ?_, fun id r id' r' j j' hr hr' hne hrw hj hj' => ?_⟩, hW.fr.trans hf, Nat.le_trans hW.base hf.size, hW.own⟩, fun id e' hid => ?_, fun id e' id' r' hid hr' hne => ?_⟩
  · rcases old hr with ⟨rfl, rfl⟩ | ⟨_, hk, hr⟩
    · rw [newE_n]
      refine ⟨by omega, hglt, fun j s hs => ?_⟩
      obtain ⟨h1, h2⟩ := hxs j s hs
      refine ⟨SW.lt_mono (by omega) h1, ?_, fun h => by cases h⟩
      rw [hv h1, Nat.zero_add]
      simp only [World.cell?, hg]
      exact h2
    · obtain ⟨h1, h2, h3⟩ := hW.rel.cell id r hr
      rw [newE_lt h1]
      obtain ⟨_, hc⟩ := hkeep id r hr hk
      refine ⟨by omega, Nat.lt_of_lt_of_le h2 hf.size, fun j s hs => ?_⟩
      obtain ⟨g1, g2, g3⟩ := h3 j s hs
      exact ⟨SW.lt_mono (by omega) g1, by rw [hv g1]; exact hc j s hs, fun hrw => ⟨(hf.frozen _).trans (g3 hrw).1, (g3 hrw).2⟩⟩
  · rcases old hr with ⟨rfl, rfl⟩ | ⟨_, hk, hr⟩
    · cases hrw
    · rename_i hr1
      obtain ⟨h1, _, _⟩ := hW.rel.cell id r hr
      have hkp := (hkeep id r hr hk).1
      rcases old hr' with ⟨h, _⟩ | ⟨_, hk', hr2⟩
      · rw [h, newE_lt h1, newE_n]
        exact fun hh => hkp hh.1
      · obtain ⟨h1', _, _⟩ := hW.rel.cell id' r' hr2
        rw [newE_lt h1, newE_lt h1']
        exact hW.rel.apart id r id' r' j j' hr hr2 hne hrw hj hj'
  · rw [lk_cons] at hid
    split at hid
    · rename_i e1
      subst e1
      cases hid
      rw [newE_n, newE_n1]
      exact ⟨by omega, rfl, hcap, ⟨cur, hg, hcur⟩, hmay, ⟨xs, false⟩, by rw [lk_cons, if_pos rfl], rfl, hxl⟩
    · rename_i e1
      obtain ⟨hk, hid⟩ := lk_rem hid
      obtain ⟨h1, h2, h3, ⟨cur', h4, h5⟩, h6, r, h7, h8, h9⟩ := hO.at_ id e' hid
      rw [newE_lt (by omega), newE_lt h1]
      refine ⟨by omega, h2, h3, ?_, h6, r, ?_, h8, h9⟩
      · have hlt : (ρ id).1 < w.heap.size := (Array.getElem?_eq_some_iff.1 h4).1
        have := hf.kept.2.2 _ hlt
        rw [h4] at this
        cases hw : w'.heap[(ρ id).1]? with
        | none => rw [hw] at this; cases this
        | some ob =>
          rw [hw] at this
          cases ob with
          | cells c t fr =>
            obtain ⟨rfl, rfl, hs, _⟩ := this
            exact ⟨c, rfl, hs.trans h5⟩
          | _ => cases this
      · rw [lk_cons, if_neg e1]
        have : ∀ {l : Mem}, lk l id = some r → lk (rem k l) id = some r := fun {l} => by
          induction l with
          | nil => intro h; cases h
          | cons x l ih =>
            obtain ⟨a, b⟩ := x
            intro h
            rw [lk_cons] at h
            simp only [rem]
            cases hb : Nat.beq a k
            · simp only [cond_false, lk_cons]
              split at h
              · rename_i e2; rw [if_pos e2]; exact h
              · rename_i e2; rw [if_neg e2]; exact ih h
            · simp only [cond_true]
              have := Nat.eq_of_beq_eq_true hb
              rw [if_neg (by omega)] at h
              exact ih h
        exact this h7
  · rw [lk_cons] at hid
    split at hid
    · rename_i e1
      subst e1
      rcases old hr' with ⟨h, _⟩ | ⟨_, hk, hr'⟩
      · exact absurd h hne
      · obtain ⟨h1, _, _⟩ := hW.rel.cell id' r' hr'
        rw [newE_lt h1, newE_n]
        exact (hkeep id' r' hr' hk).1
    · obtain ⟨hk0, hid⟩ := lk_rem hid
      obtain ⟨h1, _, _, _, _, r, h7, _⟩ := hO.at_ id e' hid
      rcases old hr' with ⟨rfl, _⟩ | ⟨_, hk, hr'⟩
      · rw [newE_n, newE_lt (by omega)]
        exact (hkeep id r h7 hk0).1.symm
      · obtain ⟨h1', _, _⟩ := hW.rel.cell id' r' hr'
        have h1n : id < n := by omega
        rw [newE_lt h1n, newE_lt h1']
        exact hO.apart id e' id' r' hid hr' hne

/-- append to an own slice. -/
theorem own_append {P : Program} {C : Ctx} {ρ : Env} {M : Mem} {O : OT} {n : Nat} {w : World} (hW : WR C ρ M n w) (hO : OwnOK C ρ M O n w) {t ty e : TypeId} {b : Nat} (hs : SliOK P t e b) {id : Nat} (hid : lk O id = some e) {r : Reg} (hr : lk M id = some r)
    {news : List SW} {ad : Addr} {m c : Nat} (hm : news.length = m) (hnews : ∀ (j : Nat) s, news[j]? = some s → s.lt n ∧ w.cell? (ad.add j) = some (s.val ρ)) (hok : ∀ s ∈ news, s.cellOk = true)
    (h63 : r.cells.length + m ≤ 9223372036854775807) (hby : (r.cells.length + m) * b ≤ 140737488355328) :
    ∃ w' ρ', (Builtin.append_ #[t, t] ty #[(SW.own id r.cells.length).val ρ, .slice (some ad) m c]).run P w = .ok ((SW.own n (r.cells.length + m)).val ρ') w' ∧ (∀ i, i < n → ρ' i = ρ i) ∧
      WR C ρ' ((n, ⟨r.cells ++ news, false⟩) :: rem id M) (n + 2) w' ∧ OwnOK C ρ' ((n, ⟨r.cells ++ news, false⟩) :: rem id M) ((n, e) :: rem id O) (n + 2) w' := by
  obtain ⟨i, z, ht, hi, hz, hsz, hib, hzs⟩ := hs.ex
  obtain ⟨a1, a2, a3, ⟨cur, a4, a5⟩, a6, r', a7, a8, a9⟩ := hO.at_ id e hid
  rw [hr] at a7
  cases a7
  obtain ⟨k1, k2, k3⟩ := hW.rel.cell id r hr
  have hcurr : ∀ (j : Nat) s, r.cells[j]? = some s → s.lt n ∧ cur[j]? = some (s.val ρ) := fun j s hs => by
    obtain ⟨g1, g2, _⟩ := k3 j s hs
    refine ⟨g1, ?_⟩
    rw [a2, Nat.zero_add] at g2
    simp only [World.cell?, a4] at g2
    exact g2
  have hval : (SW.own id r.cells.length).val ρ = .slice (some ⟨(ρ id).1, 0, none⟩) r.cells.length (ρ (id + 1)).1 := by simp only [SW.val, a2]
  have hnews' : ∀ j u, (news.map (SW.val ρ))[j]? = some u → w.cell? (ad.add j) = some u := fun j u hu => by
    rw [List.getElem?_map] at hu
    cases e1 : news[j]? with
    | none => rw [e1] at hu; cases hu
    | some s => rw [e1] at hu; cases hu; exact (hnews j s e1).2
  have h1 : ∀ u ∈ news.map (SW.val ρ), u.oneCell' = true := fun u hu => by
    obtain ⟨s, hs, rfl⟩ := List.mem_map.1 hu
    exact cellOk_one (hok s hs)
  have hothers : ∀ id' r', lk M id' = some r' → id' ≠ id → (ρ id').1 ≠ (ρ id).1 := fun id' r' h h' => hO.apart id e id' r' hid h h'
  by_cases hroom : r.cells.length + m ≤ (ρ (id + 1)).1
  · -- in its place
    have hfit : r.cells.length * i.size + (news.map (SW.val ρ)).length ≤ cur.size := by rw [hsz, List.length_map, hm, a5]; omega
    have hrun := run_append_room (P := P) w t ty e i ht hi (ρ id).1 r.cells.length (ρ (id + 1)).1 cur a4 ad m c (news.map (SW.val ρ)) (by rw [List.length_map, hm, hsz, Nat.mul_one]) hnews' h1 hroom hfit
    rw [hsz, Nat.mul_one] at hrun
    generalize hcs : (cur.toList.take r.cells.length ++ news.map (SW.val ρ) ++ cur.toList.drop (r.cells.length + (news.map (SW.val ρ)).length)).toArray = cs at hrun
    have hcsz : cs.size = cur.size := by
      rw [← hcs]
      simp only [List.size_toArray, List.length_append, List.length_take, List.length_drop, Array.length_toList, List.length_map, hm]
      omega
    have hcsj : ∀ (j : Nat) s, (r.cells ++ news)[j]? = some s → s.lt n ∧ cs[j]? = some (s.val ρ) := fun j s hs => by
      rw [← hcs]
      simp only [List.getElem?_toArray]
      have htl : (cur.toList.take r.cells.length).length = r.cells.length := by rw [List.length_take, Array.length_toList]; omega
      by_cases hj : j < r.cells.length
      · rw [List.getElem?_append_left hj] at hs
        obtain ⟨g1, g2⟩ := hcurr j s hs
        refine ⟨g1, ?_⟩
        rw [List.getElem?_append_left (by rw [List.length_append, htl]; omega), List.getElem?_append_left (by omega), List.getElem?_take, if_pos hj, Array.getElem?_toList]
        exact g2
      · rw [List.getElem?_append_right (by omega)] at hs
        have hjl : j - r.cells.length < news.length := (List.getElem?_eq_some_iff.1 hs).1
        refine ⟨(hnews _ s hs).1, ?_⟩
        rw [List.getElem?_append_left (by rw [List.length_append, htl, List.length_map]; omega), List.getElem?_append_right (by omega), htl, List.getElem?_map, hs]
        rfl
    have hf : Fr C.may w (w.setRow (ρ id).1 cs) := Fr.setRow a4 hcsz a6
    obtain ⟨q1, q2⟩ := own_new hW hO id hf (setRow_heap w _ cur cs e (0, 0) a4) (hcsz.trans a5) a3 a6 (xs := r.cells ++ news) (by rw [List.length_append]; omega) hcsj (fun id' r' h h' => ⟨hothers id' r' h h', fun j s hs => by
      rw [cell_setRow_other _ _ _ _ (hothers id' r' h h')]
      obtain ⟨_, _, p3⟩ := hW.rel.cell id' r' h
      exact (p3 j s hs).2.1⟩)
    refine ⟨w.setRow (ρ id).1 cs, newE ρ n (ρ id).1 (ρ (id + 1)).1, ?_, fun i hi => newE_lt hi, q1, q2⟩
    rw [hval, hrun]
    simp only [SW.val, newE_n, newE_n1]
  · -- a new block
    have hrun := run_append_grow (P := P) w t ty e i z ht hi hz ⟨(ρ id).1, 0, none⟩ r.cells.length (ρ (id + 1)).1 (r.cells.map (SW.val ρ)) (by rw [List.length_map, hsz, Nat.mul_one]) (fun j u hu => by
      rw [List.getElem?_map] at hu
      cases e1 : r.cells[j]? with
      | none => rw [e1] at hu; cases hu
      | some s =>
        rw [e1] at hu; cases hu
        have := (k3 j s e1).2.1
        rw [a2] at this
        rw [addr_add]
        exact this) ad m c (news.map (SW.val ρ)) (by rw [List.length_map, hm, hsz, Nat.mul_one]) hnews' (by omega) (by omega) (growslice_fits (by omega) (by rw [hib]; exact hby))
    have hge := grownCap_ge w (r.cells.length + m) (ρ (id + 1)).1 e
    have hle : grownCap w (r.cells.length + m) (ρ (id + 1)).1 e ≤ maxLen := grownCap_le_maxLen w _ _ e (by simp only [maxLen]; omega)
    generalize grownCap w (r.cells.length + m) (ρ (id + 1)).1 e = cap at hrun hge hle
    generalize hcs : (r.cells.map (SW.val ρ)).toArray ++ (news.map (SW.val ρ)).toArray ++ Builtin.zeroCells z.cells (cap - (r.cells.length + m)) = cs at hrun
    have hcsz : cs.size = cap := by
      rw [← hcs]
      simp only [Array.size_append, List.size_toArray, List.length_map, size_zeroCells, hzs, hm]
      omega
    have hcsj : ∀ (j : Nat) s, (r.cells ++ news)[j]? = some s → s.lt n ∧ cs[j]? = some (s.val ρ) := fun j s hs => by
      have hjl : j < (r.cells ++ news).length := (List.getElem?_eq_some_iff.1 hs).1
      have hlt : s.lt n := by
        by_cases hj : j < r.cells.length
        · rw [List.getElem?_append_left hj] at hs; exact (hcurr j s hs).1
        · rw [List.getElem?_append_right (by omega)] at hs; exact (hnews _ s hs).1
      refine ⟨hlt, ?_⟩
      rw [← hcs, Array.getElem?_append_left (by simp only [Array.size_append, List.size_toArray, List.length_map]; rw [List.length_append] at hjl; omega)]
      rw [List.append_toArray, ← List.map_append, List.getElem?_toArray, List.getElem?_map, hs]
      rfl
    have hf : Fr C.may w (w.drew.alloc (.cells cs e)) := (Fr.drew _ w).trans (Fr.alloc _ _ _ _)
    have hnew : (w.drew.alloc (.cells cs e)).heap[w.heap.size]? = some (.cells cs e (0, 0)) := heap_alloc_new w.drew _
    obtain ⟨q1, q2⟩ := own_new hW hO id hf hnew hcsz hle (fun o => hW.own _ o hW.base) (xs := r.cells ++ news) (by rw [List.length_append]; omega) hcsj (fun id' r' h h' => by
      obtain ⟨_, p2, p3⟩ := hW.rel.cell id' r' h
      refine ⟨by omega, fun j s hs => ?_⟩
      rw [World.cell?_alloc_lt _ _ _ (by simpa using p2)]
      exact (p3 j s hs).2.1)
    refine ⟨_, newE ρ n w.heap.size cap, ?_, fun i hi => newE_lt hi, q1, q2⟩
    rw [hval, hrun]
    simp only [SW.val, newE_n, newE_n1]
end CI
end Go.Proofs.Yteooohmlmefbnaa
