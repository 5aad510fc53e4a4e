/-
  Arrays of words as arguments: opened to words that stay open, and shut again.
  Conditions: none; it proves no statement by itself.
-/
import Derived.Test.YteooohmlmefbnaaCIh
import Derived.WalkKit
import Derived.ProofKit
import Derived.OpenShut
import Derived.DataShut
namespace Go.Proofs.Yteooohmlmefbnaa
namespace CI
open Go
open Go.ChangeShapes Go.WideShapes Go.ChangeAt Go.RowKit

section
variable {H : Type} {enc : TypeId × Value → H} {P : Program} {w : World} {base : Nat} {spare : Nat → Bool} {held : Bool}

theorem open_array {r : Reach} {b0 : Nat} {t e : TypeId} {n : Nat} {k : IntKind} {v : Value} {d : DataW H} {ps : List MemPlace} (ht : P.underlying t = some (.array n e)) (he : P.underlying e = some (.int k)) (hce : P.cellsOf e = 1) (hct : P.cellsOf t = n)
    (hval : Value.okWide P w r b0 t v) (hd : DataW.Trod enc P w base spare held t v d ps) :
    ∃ l : List Int, l.length = n ∧ v = .agg (l.map (Value.int k)).toArray ∧ d = .agg (l.map fun x => DataW.lit (.int k x)) ∧ ps = [] ∧ ∀ x ∈ l, (Lit.int k x).wf = true := by
  obtain ⟨cs, rfl, hsz, _⟩ : ∃ cs, v = .agg cs ∧ cs.size = P.cellsOf t ∧ Row.okWide P w r b0 t cs := by
    simpa [Value.okWide, ht] using hval
  obtain ⟨fuel, hf⟩ := hd
  obtain ⟨cl⟩ := cs
  have hf' : DataW.trod enc P w base spare held fuel t cl = some (d, ps) := hf
  obtain ⟨xs, m, _, hx, hlen, hxl, hget⟩ := DataW.trod_array ht hf'
  rw [hct] at hlen
  simp only [hce, Nat.mul_one] at hget
  have key : ∀ (cl : List Value) (xs : List (DataW H × List MemPlace)), cl.length = xs.length → (∀ i, i < xs.length → DataW.trod enc P w base spare held m e ((cl.drop i).take 1) = xs[i]?) →
      ∃ l : List Int, cl = l.map (Value.int k) ∧ xs = l.map (fun x => (DataW.lit (.int k x), [])) ∧ ∀ x ∈ l, (Lit.int k x).wf = true := by
    intro cl
    induction cl with
    | nil =>
      intro xs hl _
      have : xs = [] := List.length_eq_zero_iff.1 hl.symm
      exact ⟨[], rfl, this, fun x hx => by cases hx⟩
    | cons c cl ih =>
      intro xs hl hg
      cases xs with
      | nil => cases hl
      | cons x xs =>
        have h0 := hg 0 (by simp)
        simp only [List.drop_zero, List.take_succ_cons, List.take_zero, List.getElem?_cons_zero] at h0
        obtain ⟨y, hy, hyx, hw⟩ := DataW.trod_int he h0
        simp only [List.cons.injEq, and_true] at hy
        subst hy
        obtain ⟨l, e1, e2, e3⟩ := ih xs (by simpa using hl) (fun i hi => by
          have := hg (i + 1) (by simpa using hi)
          simpa using this)
        refine ⟨y :: l, by rw [List.map_cons, ← e1], ?_, ?_⟩
        · rw [List.map_cons, ← e2, hyx]
        · intro z hz
          rcases List.mem_cons.1 hz with rfl | hz
          · exact hw
          · exact e3 z hz
  obtain ⟨l, e1, e2, e3⟩ := key cl xs (hlen.trans hxl.symm) (fun i hi => hget i (by omega))
  simp only [Prod.mk.injEq] at hx
  refine ⟨l, ?_, ?_, ?_, ?_, e3⟩
  · rw [e1, List.length_map] at hlen; exact hlen
  · rw [e1]
  · rw [hx.1, e2, List.map_map]; rfl
  · rw [hx.2, e2]
    simp

theorem shut_array {t e : TypeId} {n : Nat} {k : IntKind} {l : List Int} (ht : P.underlying t = some (.array n e)) (he : P.underlying e = some (.int k)) (hce : P.cellsOf e = 1) (hct : P.cellsOf t = n) (hl : l.length = n) (hw : ∀ x ∈ l, (Lit.int k x).wf = true) :
    DataW.Trod enc P w base spare held t (.agg (l.map (Value.int k)).toArray) (.agg (l.map fun x => DataW.lit (.int k x))) [] := by
  refine ⟨2, ?_⟩
  show DataW.trod enc P w base spare held 2 t (l.map (Value.int k)) = _
  have hm : (List.range n).mapM (fun i => DataW.trod enc P w base spare held 1 e (((l.map (Value.int k)).drop (i * P.cellsOf e)).take (P.cellsOf e))) = some (l.map fun x => (DataW.lit (.int k x), [])) := by
    refine mapM_some_of_get _ _ (by simp [hl]) fun i x hi => ?_
    have hi' : i < n ∧ x = i := by
      have h1 : i < n := by simpa using (List.getElem?_eq_some_iff.1 hi).1
      rw [List.getElem?_range h1] at hi
      exact ⟨h1, (Option.some.inj hi).symm⟩
    obtain ⟨h1, rfl⟩ := hi'
    have hlt : x < l.length := by omega
    rw [hce, Nat.mul_one]
    have e1 : ((l.map (Value.int k)).drop x).take 1 = [Value.int k l[x]] := by
      rw [List.drop_eq_getElem_cons (by simpa using hlt)]
      simp
    rw [e1, trod_int_mk 0 he (hw _ (List.getElem_mem hlt))]
    simp [List.getElem?_eq_getElem hlt]
  unfold DataW.trod
  rw [ht]
  simp only [List.length_map, hl, hct, if_true, hm, Option.map_some, List.map_map]
  congr 2
  simp

/-- The words of an argument. -/
theorem words64 (l : List Int) (h : ∀ x ∈ l, (Lit.int .u64 x).wf = true) : ∃ ws : List (BitVec 64), l = ws.map (fun b => (b.toNat : Int)) := by
  refine ⟨l.map (BitVec.ofInt 64), ?_⟩
  rw [List.map_map]
  conv => lhs; rw [← List.map_id l]
  refine List.map_congr_left fun x hx => ?_
  have := bounds_u64 (h x hx)
  simp only [Function.comp, id, BitVec.toNat_ofInt]
  omega

theorem words32 (l : List Int) (h : ∀ x ∈ l, (Lit.int .u32 x).wf = true) : ∃ ws : List (BitVec 32), l = ws.map (fun b => (b.toNat : Int)) := by
  refine ⟨l.map (BitVec.ofInt 32), ?_⟩
  rw [List.map_map]
  conv => lhs; rw [← List.map_id l]
  refine List.map_congr_left fun x hx => ?_
  have := bounds_u32 (h x hx)
  simp only [Function.comp, id, BitVec.toNat_ofInt]
  omega

theorem agg64 (ws : List (BitVec 64)) (ρ : Env) : Value.agg ((ws.map (fun b => (b.toNat : Int))).map (Value.int .u64)).toArray = (SV.agg (ws.map SW.w64)).val ρ := by
  simp [SV.val, SW.val, Function.comp_def]

theorem agg32 (ws : List (BitVec 32)) (ρ : Env) : Value.agg ((ws.map (fun b => (b.toNat : Int))).map (Value.int .u32)).toArray = (SV.agg (ws.map SW.w32)).val ρ := by
  simp [SV.val, SW.val, Function.comp_def]

theorem Fr.grown {w w' : World} (h : Fr (fun _ => False) w w') : RowKit.Grown w w' := ⟨h.kept, h.frozen, h.size⟩
end
end CI
end Go.Proofs.Yteooohmlmefbnaa
