/-
  'salsaXOR' wherever its words lie.
  Conditions: none.
-/
import Derived.Test.YteooohmlmefbnaaSalsaJ
import Derived.Test.YteooohmlmefbnaaCJl
namespace Go.Proofs.Yteooohmlmefbnaa
namespace CI
open Go

def w16 (f : Nat → W) : List SW := (List.range 16).map fun i => .w32 (f i)
def salsaF (f : Nat → W) : List SW := salsa (f 0) (f 1) (f 2) (f 3) (f 4) (f 5) (f 6) (f 7) (f 8) (f 9) (f 10) (f 11) (f 12) (f 13) (f 14) (f 15)

def M29 (t i o : Nat → W) : Mem := [(0, ⟨w16 t, true⟩), (1, ⟨w16 i, false⟩), (2, ⟨w16 o, true⟩)]
def M29' (t i : Nat → W) : Mem := [(0, ⟨salsaF (fun k => t k ^^^ i k), true⟩), (1, ⟨w16 i, false⟩), (2, ⟨salsaF (fun k => t k ^^^ i k), true⟩)]

set_option maxRecDepth 100000 in
theorem run29 (t i o : Nat → W) (a b ei eo : Nat) : g29 [.s (.ptr 0 0), .s (.slc 1 0 (a + 16) ei), .s (.slc 2 0 (b + 16) eo)] (M29 t i o) 3 = some (.unit, M29' t i, 3) := by kernel_rfl

def get16 {α : Type} (l : List SW) (k : W → W → W → W → W → W → W → W → W → W → W → W → W → W → W → W → α) : Option α :=
  match l with
  | [.w32 x0, .w32 x1, .w32 x2, .w32 x3, .w32 x4, .w32 x5, .w32 x6, .w32 x7, .w32 x8, .w32 x9, .w32 x10, .w32 x11, .w32 x12, .w32 x13, .w32 x14, .w32 x15] => some (k x0 x1 x2 x3 x4 x5 x6 x7 x8 x9 x10 x11 x12 x13 x14 x15)
  | _ => none

theorem get16_spec {α : Type} {l : List SW} {k : W → W → W → W → W → W → W → W → W → W → W → W → W → W → W → W → α} {r : α} (h : get16 l k = some r) : ∃ f, l = w16 f ∧ r = k (f 0) (f 1) (f 2) (f 3) (f 4) (f 5) (f 6) (f 7) (f 8) (f 9) (f 10) (f 11) (f 12) (f 13) (f 14) (f 15) := by
  unfold get16 at h
  split at h
  · rename_i x0 x1 x2 x3 x4 x5 x6 x7 x8 x9 x10 x11 x12 x13 x14 x15
    exact ⟨fun i => match i with
      | 0 => x0
      | 1 => x1
      | 2 => x2
      | 3 => x3
      | 4 => x4
      | 5 => x5
      | 6 => x6
      | 7 => x7
      | 8 => x8
      | 9 => x9
      | 10 => x10
      | 11 => x11
      | 12 => x12
      | 13 => x13
      | 14 => x14
      | 15 => x15
      | _ => 0#32, rfl, (Option.some.inj h).symm⟩
  · cases h

def salsaL (ts is : List SW) : Option (List SW) :=
  match get16 ts (fun t0 t1 t2 t3 t4 t5 t6 t7 t8 t9 t10 t11 t12 t13 t14 t15 => get16 is (fun i0 i1 i2 i3 i4 i5 i6 i7 i8 i9 i10 i11 i12 i13 i14 i15 => salsa (t0 ^^^ i0) (t1 ^^^ i1) (t2 ^^^ i2) (t3 ^^^ i3) (t4 ^^^ i4) (t5 ^^^ i5) (t6 ^^^ i6) (t7 ^^^ i7) (t8 ^^^ i8) (t9 ^^^ i9) (t10 ^^^ i10) (t11 ^^^ i11) (t12 ^^^ i12) (t13 ^^^ i13) (t14 ^^^ i14) (t15 ^^^ i15))) with
  | some (some r) => some r
  | _ => none

theorem salsaL_spec {ts is r : List SW} (h : salsaL ts is = some r) : ∃ t i, ts = w16 t ∧ is = w16 i ∧ r = salsaF (fun k => t k ^^^ i k) := by
  unfold salsaL at h
  split at h
  · rename_i r' hr
    cases h
    obtain ⟨t, h1, h2⟩ := get16_spec hr
    obtain ⟨i, h3, h4⟩ := get16_spec h2.symm
    exact ⟨t, i, h1, h3, h4⟩
  · cases h

def sub16 (l : List SW) (o : Nat) : List SW := (l.drop o).take 16

def g29' (args : List SV) (M : Mem) (n : Nat) : Option (SV × Mem × Nat) :=
  match args with
  | [.s (.ptr it ot), .s (.slc ii oi li _), .s (.slc io oo lo _)] =>
    bif Nat.ble 16 li && (Nat.ble 16 lo && (!Nat.beq it ii && (!Nat.beq it io && !Nat.beq ii io))) then (match lk M it with
      | some gt => match lk M ii with
        | some gi => match lk M io with
          | some go => bif gt.rw && go.rw then (match salsaL (sub16 gt.cells ot) (sub16 gi.cells oi) with
            | some out => match get16 (sub16 go.cells oo) (fun _ _ _ _ _ _ _ _ _ _ _ _ _ _ _ _ => ()) with
              | some _ => some (.unit, updM (updM M it (spl gt.cells ot out)) io (spl go.cells oo out), n)
              | none => none
            | none => none) else none
          | none => none
        | none => none
      | none => none) else none
  | _ => none

theorem w16_length (f : Nat → W) : (w16 f).length = 16 := by simp [w16]
theorem salsaF_length (f : Nat → W) : (salsaF f).length = 16 := rfl
theorem salsaF_free (f : Nat → W) : ∀ s ∈ salsaF f, s.free = true := List.all_eq_true.1 (by kernel_rfl)
theorem w16_free (f : Nat → W) : ∀ s ∈ w16 f, s.free = true := by
  intro s hs
  obtain ⟨i, _, rfl⟩ := List.mem_map.1 hs
  rfl

theorem sub16_get {l : List SW} {o : Nat} {f : Nat → W} (h : sub16 l o = w16 f) : o + 16 ≤ l.length ∧ ∀ (j : Nat) s, (w16 f)[j]? = some s → l[o + j]? = some s := by
  have hl : (sub16 l o).length = 16 := by rw [h, w16_length]
  refine ⟨by simp [sub16] at hl; omega, fun j s hs => ?_⟩
  rw [← h] at hs
  unfold sub16 at hs
  rw [List.getElem?_take] at hs
  split at hs
  · rw [List.getElem?_drop] at hs; exact hs
  · cases hs

def sub3 (it ot ii oi io oo : Nat) : Nat → Nat × Nat
  | 0 => (it, ot)
  | 1 => (ii, oi)
  | _ => (io, oo)

theorem lk3 {a b c : Reg} {i : Nat} {r : Reg} (h : lk [(0, a), (1, b), (2, c)] i = some r) : (i = 0 ∧ r = a) ∨ (i = 1 ∧ r = b) ∨ (i = 2 ∧ r = c) := by
  rw [lk_cons, lk_cons, lk_cons] at h
  split at h
  · rename_i e; exact .inl ⟨e.symm, (Option.some.inj h).symm⟩
  · split at h
    · rename_i e; exact .inr (.inl ⟨e.symm, (Option.some.inj h).symm⟩)
    · split at h
      · rename_i e; exact .inr (.inr ⟨e.symm, (Option.some.inj h).symm⟩)
      · cases h

theorem ok29' : FnOK Try.prog 29 (.eff g29') := by
  intro args M n v M' n' h hargs C ρ w hW
  unfold g29' at h
  split at h
  · rename_i it ot ii oi li ei io oo lo eo
    cases hb : (Nat.ble 16 li && (Nat.ble 16 lo && (!Nat.beq it ii && (!Nat.beq it io && !Nat.beq ii io)))) <;> simp only [hb, cond_false, cond_true, reduceCtorEq] at h
    simp only [Bool.and_eq_true, Bool.not_eq_true'] at hb
    obtain ⟨b1, b2, b3, b4, b5⟩ := hb
    replace b1 := Nat.le_of_ble_eq_true b1
    replace b2 := Nat.le_of_ble_eq_true b2
    replace b3 := Nat.ne_of_beq_eq_false b3
    replace b4 := Nat.ne_of_beq_eq_false b4
    replace b5 := Nat.ne_of_beq_eq_false b5
    split at h
    · rename_i gt hgt
      split at h
      · rename_i gi hgi
        split at h
        · rename_i go hgo
          cases hrw : gt.rw && go.rw <;> simp only [hrw, cond_false, cond_true, reduceCtorEq] at h
          simp only [Bool.and_eq_true] at hrw
          split at h
          · rename_i out hout
            split at h
            · rename_i u hu
              simp only [Option.some.injEq, Prod.mk.injEq] at h
              obtain ⟨rfl, rfl, rfl⟩ := h
              obtain ⟨t, i, ht, hi, rfl⟩ := salsaL_spec hout
              obtain ⟨o, ho, _⟩ := get16_spec hu
              obtain ⟨t1, t2⟩ := sub16_get ht
              obtain ⟨i1, i2⟩ := sub16_get hi
              obtain ⟨o1, o2⟩ := sub16_get ho
              have hrun := run29 t i o (li - 16) (lo - 16) ei eo
              rw [show li - 16 + 16 = li by omega, show lo - 16 + 16 = lo by omega] at hrun
              have hl : Lies (M29 t i o) M 3 (sub3 it ot ii oi io oo) := by
                refine ⟨fun k r hr => ?_, fun k r k' r' j j' hr hr' hne hrw' hj hj' => ?_⟩
                · rcases lk3 hr with ⟨rfl, rfl⟩ | ⟨rfl, rfl⟩ | ⟨rfl, rfl⟩
                  · exact ⟨by omega, gt, hgt, fun j s hs => ⟨w16_free t s (List.mem_of_getElem? hs), t2 j s hs⟩, fun _ => hrw.1⟩
                  · exact ⟨by omega, gi, hgi, fun j s hs => ⟨w16_free i s (List.mem_of_getElem? hs), i2 j s hs⟩, fun h => by cases h⟩
                  · exact ⟨by omega, go, hgo, fun j s hs => ⟨w16_free o s (List.mem_of_getElem? hs), o2 j s hs⟩, fun _ => hrw.2⟩
                · rcases lk3 hr with ⟨rfl, rfl⟩ | ⟨rfl, rfl⟩ | ⟨rfl, rfl⟩ <;> rcases lk3 hr' with ⟨rfl, rfl⟩ | ⟨rfl, rfl⟩ | ⟨rfl, rfl⟩ <;> simp only [sub3] <;> intro hh <;> first | exact hne rfl | exact b3 hh.1 | exact b3 hh.1.symm | exact b4 hh.1 | exact b4 hh.1.symm | exact b5 hh.1 | exact b5 hh.1.symm
              have hT : Turned (M29 t i o) (M29' t i) M (updM (updM M it (spl gt.cells ot (salsaF fun k => t k ^^^ i k))) io (spl go.cells oo (salsaF fun k => t k ^^^ i k))) (sub3 it ot ii oi io oo) := by
                refine ⟨fun id r' hr' => ?_⟩
                rw [lk_upd] at hr'
                by_cases e1 : io = id
                · subst e1
                  rw [if_pos rfl, lk_upd, if_neg b4, hgo] at hr'
                  simp only [Option.map_some, Option.some.injEq] at hr'
                  subst hr'
                  refine ⟨go, hgo, rfl, spl_length _ _ _ (by rw [salsaF_length]; omega), fun j s hs => ?_⟩
                  simp only at hs
                  rw [spl_get _ _ _ (by rw [salsaF_length]; omega), salsaF_length] at hs
                  split at hs
                  · rename_i hj
                    exact .inl ⟨hrw.2, salsaF_free _ s (List.mem_of_getElem? hs), 2, ⟨salsaF (fun k => t k ^^^ i k), true⟩, rfl, rfl, hj.1, hs⟩
                  · rename_i hj
                    refine .inr ⟨hs, fun k r0 hr0 hrw0 hh => ?_⟩
                    rcases lk3 hr0 with ⟨rfl, rfl⟩ | ⟨rfl, rfl⟩ | ⟨rfl, rfl⟩
                    · exact b4 hh.1
                    · cases hrw0
                    · simp only [sub3, w16_length] at hh; exact hj hh.2
                · rw [if_neg e1, lk_upd] at hr'
                  by_cases e2 : it = id
                  · subst e2
                    rw [if_pos rfl, hgt] at hr'
                    simp only [Option.map_some, Option.some.injEq] at hr'
                    subst hr'
                    refine ⟨gt, hgt, rfl, spl_length _ _ _ (by rw [salsaF_length]; omega), fun j s hs => ?_⟩
                    simp only at hs
                    rw [spl_get _ _ _ (by rw [salsaF_length]; omega), salsaF_length] at hs
                    split at hs
                    · rename_i hj
                      exact .inl ⟨hrw.1, salsaF_free _ s (List.mem_of_getElem? hs), 0, ⟨salsaF (fun k => t k ^^^ i k), true⟩, rfl, rfl, hj.1, hs⟩
                    · rename_i hj
                      refine .inr ⟨hs, fun k r0 hr0 hrw0 hh => ?_⟩
                      rcases lk3 hr0 with ⟨rfl, rfl⟩ | ⟨rfl, rfl⟩ | ⟨rfl, rfl⟩
                      · simp only [sub3, w16_length] at hh; exact hj hh.2
                      · cases hrw0
                      · exact e1 hh.1
                  · rw [if_neg e2] at hr'
                    refine ⟨r', hr', rfl, rfl, fun j s hs => .inr ⟨hs, fun k r0 hr0 hrw0 hh => ?_⟩⟩
                    rcases lk3 hr0 with ⟨rfl, rfl⟩ | ⟨rfl, rfl⟩ | ⟨rfl, rfl⟩
                    · exact e2 hh.1
                    · cases hrw0
                    · exact e1 hh.1
              have hc := calls_sub ok29 hrun (fun x hx => by
                simp only [List.mem_cons, List.not_mem_nil, or_false] at hx
                rcases hx with rfl | rfl | rfl <;> simp [SV.lt, SW.lt]) rfl hl hT (fun k r hr => by rcases lk3 hr with ⟨rfl, _⟩ | ⟨rfl, _⟩ | ⟨rfl, _⟩ <;> omega) hW
              have hva : vals (subE ρ (sub3 it ot ii oi io oo)) [.s (.ptr 0 0), .s (.slc 1 0 li ei), .s (.slc 2 0 lo eo)] = vals ρ [.s (.ptr it ot), .s (.slc ii oi li ei), .s (.slc io oo lo eo)] := by
                simp [vals, SV.val, SW.val, subE, sub3]
              rw [hva] at hc
              exact hc.mono fun e w' ⟨h1, h2⟩ => ⟨ρ, fun _ _ => rfl, Nat.le_refl _, trivial, h1, h2⟩
            · cases h
          · cases h
        · cases h
      · cases h
    · cases h
  · cases h
end CI
end Go.Proofs.Yteooohmlmefbnaa
