/-
  A SHA-256 digest in memory; what 'Write' makes of it. Laws of the builtin 'copy' over bytes.
  Conditions: none.
-/
import Derived.Test.YteooohmlmefbnaaNb
namespace Go.Proofs.Yteooohmlmefbnaa
namespace CI
open Go
open Go.RowKit

/-! ### 1. copy -/
theorem run_copy_by {w : World} {ty : TypeId} {b o dl dc b2 o2 sl sc m : Nat} {g f : Nat → B8} (hm : m = Nat.min sl dl) (hd : By w b o m g) (hf : Nf w b o m) (hs : By w b2 o2 m f) :
    ∃ w', (Builtin.copy_ #[29, 29] ty #[.slice (some ⟨b, o, none⟩) dl dc, .slice (some ⟨b2, o2, none⟩) sl sc]).run Try.prog w = .ok (.int .i64 (m : Int)) w' ∧ By w' b o m f ∧ Fr (inR b o m) w w' := by
  have hl : (bvals m f).length = m := bvals_length m f
  have hrun := run_copy_cells (P := Try.prog) w 29 29 ty 5 b o dl dc ⟨b2, o2, none⟩ sl sc (bvals m f) Try.underlying29 (by kernel_rfl) (by rw [hl]; exact hm) hs.vals (fun j hj => by rw [hd.2 j (by omega)]; rfl) (fun j hj => hf j (by omega)) (bvals_one m f)
  rw [hl] at hrun
  have hfr : Fr (inR b o m) w (w.setCells b o (bvals m f)) := Fr.setCells w b o _ fun j hj => ⟨j, by omega, rfl⟩
  refine ⟨_, hrun, ⟨Nat.lt_of_lt_of_le hd.1 hfr.size, fun k hk => ?_⟩, hfr⟩
  have := World.cell?_setCells_in b (bvals m f) o w (fun j hj => by rw [hd.2 j (by omega)]; rfl) k (by omega)
  rw [this]
  have e := bvals_get (f := f) hk
  rw [List.getElem?_eq_getElem (by omega)] at e
  exact e

theorem wp_copy_by {w : World} {o : Oper} {a : Act} {K : Act → World → Prop} {Q : Exit → Act → World → Prop} (d s : Operand)
    (ho : o.op = .call { callee := .builtin .copy, args := #[d, s], argTypes := #[29, 29] }) {b off dl dc b2 o2 sl sc m : Nat} {g f : Nat → B8} (hd : a.eval d = .slice (some ⟨b, off, none⟩) dl dc) (hs : a.eval s = .slice (some ⟨b2, o2, none⟩) sl sc)
    (hm : m = Nat.min sl dl) (hb : By w b off m g) (hf : Nf w b off m) (hb2 : By w b2 o2 m f)
    (h : ∀ w', By w' b off m f → Fr (inR b off m) w w' → K (a.put o.dst (.int .i64 (m : Int))) w') : o.wp Try.prog a w K Q := by
  obtain ⟨w', hrun, h1, h2⟩ := run_copy_by (ty := o.type) (dc := dc) (sc := sc) hm hb hf hb2
  unfold Oper.wp
  simp only [execOp, ho, resolve, invoke, builtin, Sem.run_bind, Sem.run_pure, Result.andThen_ok, List.map_toArray, List.map_cons, List.map_nil, hd, hs, hrun]
  exact h w' h1 h2

theorem wpList_copy_by {w : World} {ops : Array Oper} {rest : List Oper} {o : Oper} {a : Act} {Q : Exit → Act → World → Prop} (hgd : o.guard = none) (d s : Operand)
    (ho : o.op = .call { callee := .builtin .copy, args := #[d, s], argTypes := #[29, 29] }) {b off dl dc b2 o2 sl sc m : Nat} {g f : Nat → B8} (hd : a.eval d = .slice (some ⟨b, off, none⟩) dl dc) (hs : a.eval s = .slice (some ⟨b2, o2, none⟩) sl sc)
    (hm : m = Nat.min sl dl) (hb : By w b off m g) (hf : Nf w b off m) (hb2 : By w b2 o2 m f)
    (h : ∀ w', By w' b off m f → Fr (inR b off m) w w' → wpList Try.prog ops Q rest (a.put o.dst (.int .i64 (m : Int))) w') : wpList Try.prog ops Q (o :: rest) a w :=
  wpList_plain hgd fun _ hK => wp_copy_by d s ho hd hs hm hb hf hb2 fun w' h1 h2 => hK _ _ (h w' h1 h2)

theorem step_copy_by {w : World} {ops : Array Oper} {o : Oper} {a : Act} {K : Act → World → Prop} {Q : Exit → Act → World → Prop} {E : Prop} (hgd : o.guard = none) (d s : Operand)
    (ho : o.op = .call { callee := .builtin .copy, args := #[d, s], argTypes := #[29, 29] }) {b off dl dc b2 o2 sl sc m : Nat} {g f : Nat → B8} (hd : a.eval d = .slice (some ⟨b, off, none⟩) dl dc) (hs : a.eval s = .slice (some ⟨b2, o2, none⟩) sl sc)
    (hm : m = Nat.min sl dl) (hb : By w b off m g) (hf : Nf w b off m) (hb2 : By w b2 o2 m f)
    (h : ∀ w', By w' b off m f → Fr (inR b off m) w w' → K (a.put o.dst (.int .i64 (m : Int))) w') :
    if Region.wanted o (yielded ops a.tmps) = true then Oper.wp Try.prog o a w K Q else E := by
  have hw : Region.wanted o (yielded ops a.tmps) = true := by simp [Region.wanted, hgd]
  rw [if_pos hw]
  exact wp_copy_by d s ho hd hs hm hb hf hb2 h

/-! ### 2. A digest -/
structure DS where
  h : Nat → W
  x : Nat → B8
  nx : Nat
  ln : Nat

structure Dg (w : World) (b : Nat) (S : DS) : Prop where
  h : Wd w b 0 8 S.h
  x : By w b 8 64 S.x
  nx : w.cell? ⟨b, 72, none⟩ = some (.int .i64 (S.nx : Int))
  ln : w.cell? ⟨b, 73, none⟩ = some (.int .u64 (S.ln : Int))
  z : w.cell? ⟨b, 74, none⟩ = some (.bool false)
  nf : Nf w b 0 75

/-- Whole blocks, and what is left over, from an empty buffer. -/
def tailS (K : Nat → W) (S : DS) (p : Nat → B8) (n : Nat) : DS :=
  { h := (bls K p S.h (n / 64)).1, x := putB S.x 0 (n % 64) (fun q => p (64 * (n / 64) + q)), nx := n % 64, ln := S.ln }

/-- 'Write'. -/
def wrS (K : Nat → W) (S : DS) (p : Nat → B8) (n : Nat) : DS :=
  if S.nx = 0 then tailS K { S with ln := S.ln + n } p n
  else if S.nx + n < 64 then { h := S.h, x := putB S.x S.nx n p, nx := S.nx + n, ln := S.ln + n }
  else tailS K { h := (bls K (putB S.x S.nx (64 - S.nx) p) S.h 1).1, x := putB S.x S.nx (64 - S.nx) p, nx := 0, ln := S.ln + n } (fun q => p (64 - S.nx + q)) (n - (64 - S.nx))

theorem Dg.same {w w' : World} {b : Nat} {S : DS} (h : Dg w b S) (hf : Fr (fun _ => False) w w') : Dg w' b S :=
  ⟨h.h.same hf, h.x.same hf, hf.cell h.h.1 (fun f => f) h.nx, hf.cell h.h.1 (fun f => f) h.ln, hf.cell h.h.1 (fun f => f) h.z, h.nf.fr hf⟩
theorem Dg.far {w w' : World} {b : Nat} {S : DS} (h : Dg w b S) {may : MemPlace → Prop} (hf : Fr may w w') (hm : ∀ o, ¬ may (.cell b o)) : Dg w' b S :=
  ⟨h.h.fr hf fun _ _ => hm _, h.x.fr hf fun _ _ => hm _, hf.cell h.h.1 (hm _) h.nx, hf.cell h.h.1 (hm _) h.ln, hf.cell h.h.1 (hm _) h.z, h.nf.fr hf⟩
theorem Dg.at_ {w : World} {b : Nat} {S : DS} (h : Dg w b S) {k : Nat} (hk : k < 75) : w.frozen? ⟨b, k, none⟩ = false := by
  have := h.nf k hk
  rwa [Nat.zero_add] at this

theorem Fr.one {w : World} {b k : Nat} (v : Value) : Fr (inR b k 1) w (w.setCell ⟨b, k, none⟩ v) := Fr.set1 _

/-- The number of bytes in the buffer is set. -/
theorem Dg.setNx {w : World} {b : Nat} {S : DS} (h : Dg w b S) (m : Nat) : Dg (w.setCell ⟨b, 72, none⟩ (.int .i64 (m : Int))) b { S with nx := m } := by
  have hs : Fr (inR b 72 1) w (w.setCell ⟨b, 72, none⟩ (.int .i64 (m : Int))) := Fr.set1 _
  exact ⟨h.h.fr hs fun k hk => not_inR (.inr (.inl (by omega))), h.x.fr hs fun k hk => not_inR (.inr (.inl (by omega))), World.cell?_setCell_same _ _ _ h.nx, hs.cell h.h.1 (not_inR (.inr (.inr (by omega)))) h.ln, hs.cell h.h.1 (not_inR (.inr (.inr (by omega)))) h.z, h.nf.fr hs⟩
theorem Dg.setLn {w : World} {b : Nat} {S : DS} (h : Dg w b S) (m : Nat) : Dg (w.setCell ⟨b, 73, none⟩ (.int .u64 (m : Int))) b { S with ln := m } := by
  have hs : Fr (inR b 73 1) w (w.setCell ⟨b, 73, none⟩ (.int .u64 (m : Int))) := Fr.set1 _
  exact ⟨h.h.fr hs fun k hk => not_inR (.inr (.inl (by omega))), h.x.fr hs fun k hk => not_inR (.inr (.inl (by omega))), hs.cell h.h.1 (not_inR (.inr (.inl (by omega)))) h.nx, World.cell?_setCell_same _ _ _ h.ln, hs.cell h.h.1 (not_inR (.inr (.inr (by omega)))) h.z, h.nf.fr hs⟩
/-- A block has been taken in. -/
theorem Dg.setH {w w' : World} {b : Nat} {S : DS} (h : Dg w b S) {H : Nat → W} (hh : Wd w' b 0 8 H) (hf : Fr (inR b 0 8) w w') : Dg w' b { S with h := H } :=
  ⟨hh, h.x.fr hf fun k hk => not_inR (.inr (.inr (by omega))), hf.cell h.h.1 (not_inR (.inr (.inr (by omega)))) h.nx, hf.cell h.h.1 (not_inR (.inr (.inr (by omega)))) h.ln, hf.cell h.h.1 (not_inR (.inr (.inr (by omega)))) h.z, h.nf.fr hf⟩
/-- Bytes have come into the buffer. -/
theorem Dg.setX {w w' : World} {b : Nat} {S : DS} (h : Dg w b S) {o m : Nat} {f : Nat → B8} (hx : By w' b (8 + o) m f) (hf : Fr (inR b (8 + o) m) w w') (hm : o + m ≤ 64) : Dg w' b { S with x := putB S.x o m f } :=
  ⟨h.h.fr hf fun k hk => not_inR (.inr (.inl (by omega))), h.x.put hx hf, hf.cell h.h.1 (not_inR (.inr (.inr (by omega)))) h.nx, hf.cell h.h.1 (not_inR (.inr (.inr (by omega)))) h.ln, hf.cell h.h.1 (not_inR (.inr (.inr (by omega)))) h.z, h.nf.fr hf⟩
end CI
end Go.Proofs.Yteooohmlmefbnaa
