/-
  HMAC's record in memory; the facts on its two interface fields (both hold '*sha256.Digest'); 'Size'. A new digest's block is whole and not frozen ('Row0'); the contracts of the two function literals in 'hmac.New': the comparison of the two digests, and its deferred 'recover'.
  Conditions: none.
-/
import Derived.Test.YteooohmlmefbnaaNh
import Derived.Stop.Asserts
import Derived.Recover
import Derived.LaidEql
import Derived.Deep.QuietTactic
import Derived.BigQuiet
namespace Go.Proofs.Yteooohmlmefbnaa
namespace CI
open Go
open Go.RowKit

/-- The record of an HMAC at block b: its pads, its two digests. -/
structure HM (w : World) (b bi bo : Nat) (op ip : Value) (m : Bool) : Prop where
  op : w.cell? ⟨b, 0, none⟩ = some op
  ip : w.cell? ⟨b, 1, none⟩ = some ip
  bo : w.cell? ⟨b, 2, none⟩ = some (.iface 74 (.pointer (some ⟨bo, 0, none⟩)))
  bi : w.cell? ⟨b, 3, none⟩ = some (.iface 74 (.pointer (some ⟨bi, 0, none⟩)))
  m : w.cell? ⟨b, 4, none⟩ = some (.bool m)
  nf : Nf w b 0 7
theorem HM.lt {w : World} {b bi bo : Nat} {op ip : Value} {m : Bool} (h : HM w b bi bo op ip m) : b < w.heap.size := World.block_lt_of_cell? w _ h.op
theorem HM.fr {w w' : World} {b bi bo : Nat} {op ip : Value} {m : Bool} (h : HM w b bi bo op ip m) {may : MemPlace → Prop} (hf : Fr may w w') (hm : ∀ o, ¬ may (.cell b o)) : HM w' b bi bo op ip m :=
  ⟨hf.cell h.lt (hm _) h.op, hf.cell h.lt (hm _) h.ip, hf.cell h.lt (hm _) h.bo, hf.cell h.lt (hm _) h.bi, hf.cell h.lt (hm _) h.m, h.nf.fr hf⟩
theorem HM.same {w w' : World} {b bi bo : Nat} {op ip : Value} {m : Bool} (h : HM w b bi bo op ip m) (hf : Fr (fun _ => False) w w') : HM w' b bi bo op ip m := h.fr hf fun _ f => f
theorem HM.at_ {w : World} {b bi bo : Nat} {op ip : Value} {m : Bool} (h : HM w b bi bo op ip m) {k : Nat} (hk : k < 7) : w.frozen? ⟨b, k, none⟩ = false := by
  have := h.nf k hk
  rwa [Nat.zero_add] at this

theorem as_ok (v : Value) (xT : TypeId) (w : World) : (Instr.typeAssert (.iface 74 v) xT 91 true).run Try.prog w = .ok (.tuple #[.iface 74 v, .bool true]) w := run_typeAssert_hasB Try.underlying91 (by kernel_rfl) v xT w
theorem as_one (v : Value) (xT : TypeId) (w : World) : (Instr.typeAssert (.iface 74 v) xT 91 false).run Try.prog w = .ok (.iface 74 v) w := by
  have hl : (Try.prog.info? 74).map (fun i => (lacking #[("MarshalBinary", 94), ("UnmarshalBinary", 92)] i.methods).isEmpty) = some true := by kernel_rfl
  obtain ⟨i, hi, hl⟩ := Option.map_eq_some_iff.1 hl
  have hn := missingMethod_none (List.isEmpty_iff.1 hl)
  simp [Instr.typeAssert, run_underlying Try.underlying91, typeInfo, hi, hn]

theorem me78 (a : Addr) (w : World) : (method 226 74 (.pointer (some a)) "Size").run Try.prog w = .ok (78, .pointer (some a)) w := by kernel_rfl
theorem ni78 (a : Addr) (w : World) : (nilAhead 226 74 (.pointer (some a)) "Size").run Try.prog w = .ok (some false) w := by kernel_rfl
theorem me53 (a : Addr) (w : World) : (method 226 74 (.pointer (some a)) "Reset").run Try.prog w = .ok (53, .pointer (some a)) w := by kernel_rfl
theorem ni53 (a : Addr) (w : World) : (nilAhead 226 74 (.pointer (some a)) "Reset").run Try.prog w = .ok (some false) w := by kernel_rfl
theorem me81 (a : Addr) (w : World) : (method 226 74 (.pointer (some a)) "Write").run Try.prog w = .ok (81, .pointer (some a)) w := by kernel_rfl
theorem ni81 (a : Addr) (w : World) : (nilAhead 226 74 (.pointer (some a)) "Write").run Try.prog w = .ok (some false) w := by kernel_rfl
theorem me79 (a : Addr) (w : World) : (method 226 74 (.pointer (some a)) "Sum").run Try.prog w = .ok (79, .pointer (some a)) w := by kernel_rfl
theorem ni79 (a : Addr) (w : World) : (nilAhead 226 74 (.pointer (some a)) "Sum").run Try.prog w = .ok (some false) w := by kernel_rfl
theorem me76 (a : Addr) (w : World) : (method 226 74 (.pointer (some a)) "BlockSize").run Try.prog w = .ok (76, .pointer (some a)) w := by kernel_rfl
theorem ni76 (a : Addr) (w : World) : (nilAhead 226 74 (.pointer (some a)) "BlockSize").run Try.prog w = .ok (some false) w := by kernel_rfl
theorem me77 (a : Addr) (w : World) : (method 226 74 (.pointer (some a)) "MarshalBinary").run Try.prog w = .ok (77, .pointer (some a)) w := by kernel_rfl
theorem ni77 (a : Addr) (w : World) : (nilAhead 226 74 (.pointer (some a)) "MarshalBinary").run Try.prog w = .ok (some false) w := by kernel_rfl
theorem me80 (a : Addr) (w : World) : (method 226 74 (.pointer (some a)) "UnmarshalBinary").run Try.prog w = .ok (80, .pointer (some a)) w := by kernel_rfl
theorem ni80 (a : Addr) (w : World) : (nilAhead 226 74 (.pointer (some a)) "UnmarshalBinary").run Try.prog w = .ok (some false) w := by kernel_rfl

set_option maxRecDepth 100000 in
set_option maxHeartbeats 1000000 in
theorem c48 {b bi bo : Nat} {w : World} {op ip : Value} {m : Bool} {S : DS} (h : HM w b bi bo op ip m) (hS : Dg w bo S) :
    Calls Try.prog 48 #[.pointer (some ⟨b, 0, none⟩)] w fun e w' => e = .returned (.int .i64 32) ∧ w' = w := by
  have q := h.bo
  have HS := hidE hS
  have hm := me78
  clear h hS
  go_enter Try.func48, Try.ntmps48
  go_wp2_with fail
  ((with_reducible refine (c78 HS.out).mono ?_); rintro e w1 ⟨rfl, rfl⟩)
  go_wp2_with fail
  go_ret
  exact ⟨rfl, rfl⟩

/-- Block b is a row of which nothing is frozen. -/
def Row0 (w : World) (b : Nat) : Prop := ∃ ca ta, w.heap[b]? = some (.cells ca ta (0, 0))
theorem Row0.fr {w w' : World} {b : Nat} {may : MemPlace → Prop} (h : Row0 w b) (hf : Fr may w w') : Row0 w' b := by
  obtain ⟨ca, ta, h⟩ := h
  have hb : b < w.heap.size := (Array.getElem?_eq_some_iff.1 h).1
  have hb' : b < w'.heap.size := Nat.lt_of_lt_of_le hb hf.size
  have hk := hf.kept.2.2 b hb
  rw [h, Array.getElem?_eq_getElem hb'] at hk
  unfold Row0
  rw [Array.getElem?_eq_getElem hb']
  generalize w'.heap[b] = y at hk
  cases y with
  | cells c' t' fr' =>
    obtain ⟨_, rfl, _⟩ := hk
    exact ⟨c', t', rfl⟩
  | _ => cases hk
theorem Row0.new {w W : World} {v : Array Value} {t : TypeId} (h : w.alloc (.cells v t) = W) : Row0 W w.heap.size := by
  subst h
  exact ⟨v, t, heap_alloc_new w _⟩

set_option maxRecDepth 100000 in
set_option maxHeartbeats 1000000 in
theorem c45r {w : World} :
    Calls Try.prog 45 #[] w fun e w' => e = .returned (.pointer (some ⟨w.heap.size, 0, none⟩)) ∧ Dg w' w.heap.size { h := H0, x := fun _ => 0#8, nx := 0, ln := 0 } ∧ Row0 w' w.heap.size ∧ Fr (fun _ => False) w w' := by
  go_enter Try.func45, Try.ntmps45
  go_upto_region 2 with fail
  refine wp_gen fun W1 hW1 => ?_
  have h1 := dg_new hW1
  have r1 := Row0.new hW1
  have HD := hidE h1
  have HR := hidE r1
  clear hW1 h1 r1
  go_wp2_with fail
  ((with_reducible refine (c53 HD.out.1).mono ?_); rintro e w2 ⟨rfl, h2, f2⟩)
  go_wp2_with fail
  go_ret
  exact ⟨rfl, h2, HR.out.fr f2, (HD.out.2.trans' f2).strong fun p hp hm => by
    rcases hm with hm | hm
    · exact hm
    · rw [hm] at hp; exact absurd hp (Nat.lt_irrefl _)⟩

set_option maxRecDepth 100000 in
set_option maxHeartbeats 1000000 in
theorem c35r {w : World} :
    Calls Try.prog 35 #[] w fun e w' => e = .returned (.iface 74 (.pointer (some ⟨w.heap.size, 0, none⟩))) ∧ Dg w' w.heap.size { h := H0, x := fun _ => 0#8, nx := 0, ln := 0 } ∧ Row0 w' w.heap.size ∧ Fr (fun _ => False) w w' := by
  go_enter Try.func35, Try.ntmps35
  go_wp2_with fail
  ((with_reducible refine c45r.mono ?_); rintro e w2 ⟨rfl, h2, r2, f2⟩)
  go_wp2_with fail
  go_ret
  exact ⟨rfl, h2, r2, f2⟩

set_option maxRecDepth 100000 in
set_option maxHeartbeats 1000000 in
theorem c56 {w : World} : CallsD Try.prog 56 #[] .returning w fun e u' w' => u' = .returning ∧ e = .returned (.tuple #[]) ∧ w' = w := by
  refine callsD_of_wpS Try.func56 rfl fun c₀ cs hu => ?_
  apply wpS_region
  simp [wpOpsS, go_sem, recoverD, hu, Try.ntmps56, bodyPostS, results, Try.results56]
  rw [← hu]

theorem ne_digests {bo bi : Nat} {w : World} (ho : Row0 w bo) (hi : Row0 w bi) (d : bo ≠ bi) (n : Nat) : (binOp .eql 73 (.iface 74 (.pointer (some ⟨bo, 0, none⟩))) (.iface 74 (.pointer (some ⟨bi, 0, none⟩)))).run Try.prog (w.drewN n) = .ok (.bool false) (w.drewN n) := by
  obtain ⟨ca, ta, h1⟩ := ho
  obtain ⟨cb, tb, h2⟩ := hi
  have k1 : (Try.prog.info? 74).map (·.comparable) = some true := by kernel_rfl
  have k2 : (Try.prog.info? 86).map (·.size) = some 75 := by kernel_rfl
  obtain ⟨i, hi, hc⟩ := Option.map_eq_some_iff.1 k1
  obtain ⟨j, hj, hs⟩ := Option.map_eq_some_iff.1 k2
  exact run_eql_iface_ptr_other (P := Try.prog) (w.drewN n) Try.underlying73 Try.underlying74 hi hc hj (by rw [hs]; decide) (fun e => d (by cases e; rfl)) h1 h2

set_option maxRecDepth 100000 in
set_option maxHeartbeats 1000000 in
theorem c55 {vb vu b bi bo : Nat} {w : World} {op ip : Value} {m : Bool} (hv : w.cell? ⟨vb, 0, none⟩ = some (.pointer (some ⟨b, 0, none⟩))) (h : HM w b bi bo op ip m) (ho : Row0 w bo) (hi : Row0 w bi) (d : bo ≠ bi) :
    Calls Try.prog 55 #[.pointer (some ⟨vb, 0, none⟩), .pointer (some ⟨vu, 0, none⟩)] w fun e w' => e = .returned (.tuple #[]) ∧ Fr (fun _ => False) w w' := by
  have q1 := h.bo
  have q2 := h.bi
  have hne := ne_digests ho hi d
  clear h ho hi d
  go_enter_defers Try.func55, Try.ntmps55
  go_wp2_with fail
  go_quiet (fail)
  go_wp2_with fail
  refine leaves_cons (f := 56) (args := #[]) (by simp) (by simp [go_sem]) ?_
  refine c56.mono ?_
  rintro e u' w' ⟨rfl, rfl, rfl⟩
  exact ⟨_, results_none rfl _ _ _, rfl, (Fr.refl _ _).drewN _⟩
end CI
end Go.Proofs.Yteooohmlmefbnaa
