/-
  What the table of SHA-256's constants may hold where a law begins: 64 words, whatever they are.
  Conditions: none.
-/
import Derived.Test.YteooohmlmefbnaaKa
import Derived.KernelRfl
import GoSem.Claims
namespace Go.Proofs.Yteooohmlmefbnaa
namespace CI
open Go

set_option maxRecDepth 100000 in
theorem K_of_shaped {w : World} (h : w.ShapedOpen Try.prog) : ∃ K, Wd w 0 0 64 K := by
  have h0 : ((begin Try.prog (fun _ _ => 0) default).world.heap[0]?).bind Obj.row? = some (Array.replicate 64 (.int .u32 0), 95) := by kernel_rfl
  have hg : 0 < Try.prog.globals.size := of_decide_eq_true (by kernel_rfl)
  have hb : Try.prog.buildable 95 = true := by kernel_rfl
  have hc : Try.prog.cellTypes Try.prog.depth 95 = some (List.replicate 64 22) := by kernel_rfl
  have hu : Try.prog.underlying 22 = some (.int .u32) := by kernel_rfl
  obtain ⟨cs, hh, hs, hr⟩ := h.1 0 _ 95 hg h0
  obtain ⟨ts, hts, _, hall⟩ := hr hb
  rw [hc] at hts
  cases hts
  rw [Array.size_replicate] at hs
  have hv : ∀ k, k < 64 → ∃ x : W, cs[k]? = some (.int .u32 (x.toNat : Int)) := fun k hk => by
    have hk' : k < cs.size := by omega
    obtain ⟨u, hu', hok⟩ := hall k cs[k] (by simp [hk'])
    have : u = 22 := by
      rw [List.length_replicate, Nat.mod_eq_of_lt hk, List.getElem?_replicate, if_pos hk] at hu'
      exact (Option.some.inj hu').symm
    subst this
    unfold Cell.ok at hok
    rw [hu] at hok
    rw [Array.getElem?_eq_getElem hk']
    cases hv : cs[k] <;> rw [hv] at hok <;> simp at hok
    case int k' n =>
      obtain ⟨rfl, hn⟩ := hok
      obtain ⟨h1, h2⟩ := hn
      have h3 : 0 ≤ n := h1
      have h4 : n ≤ 4294967295 := h2
      refine ⟨BitVec.ofInt 32 n, ?_⟩
      rw [BitVec.toNat_ofInt]
      congr 2
      omega
  refine ⟨fun k => match cs[k]? with | some (.int _ n) => BitVec.ofInt 32 n | _ => 0#32, ?_, fun k hk => ?_⟩
  · exact (Array.getElem?_eq_some_iff.1 hh).1
  · obtain ⟨x, hx⟩ := hv k hk
    rw [Nat.zero_add]
    simp only [World.cell?, hh, hx]
    rw [BitVec.ofInt_natCast, BitVec.ofNat_toNat, BitVec.setWidth_eq]
    rfl
end CI
end Go.Proofs.Yteooohmlmefbnaa
