/-
  The contract of 'few' at two slices; what a slice of bytes that came in is to 'slices.Clone'.
  Conditions: none.
-/
import Derived.Test.YteooohmlmefbnaaQm
import Derived.OpenShut
namespace Go.Proofs.Yteooohmlmefbnaa
namespace CI
open Go
open Go.RowKit

set_option maxRecDepth 100000 in
set_option maxHeartbeats 1000000 in
theorem c18 {g n c m d : Nat} {A B : Option Addr} {w : World} (h0 : w.cell? ⟨g, 0, none⟩ = some (.slice A n c)) (h1 : w.cell? ⟨g, 1, none⟩ = some (.slice B m d)) (hn : n ≤ 2147483647) (hm : m ≤ 2147483647) :
    Calls Try.prog 18 #[.slice (some ⟨g, 0, none⟩) 2 2] w fun e w' => e = .returned (.bool (decide (n + m ≤ 1024))) ∧ w = w' := by
  go_enter Try.func18, Try.ntmps18
  go_wp2_with fail
  go_loopw [3, 8] (fun v3 v8 wr => wr = w ∧ ((v8 = .int .i64 0 ∧ v3 = .int .i64 0) ∨ (v8 = .int .i64 1 ∧ v3 = .int .i64 (n : Int) ∧ n ≤ 1024) ∨ (v8 = .int .i64 2 ∧ v3 = .int .i64 ((n : Int) + (m : Int)) ∧ n + m ≤ 1024))) (fun _ v8 _ => 2 - (intOf v8).toNat)
  case atStart => exact ⟨rfl, .inl ⟨rfl, rfl⟩⟩
  case round =>
    obtain ⟨rfl, ⟨rfl, rfl⟩ | ⟨rfl, rfl, h2⟩ | ⟨rfl, rfl, h2⟩⟩ := hrel
    · by_cases h3 : n ≤ 1024
      · have x1 : ¬ (1024 : Int) < (n : Int) := by omega
        go_wp2_with fail
        go_roundw
        case rel => exact ⟨trivial, .inr (.inl ⟨by go_num, by go_num, h3⟩)⟩
        case measure => simp [intOf]
      · have x1 : (1024 : Int) < (n : Int) := by omega
        go_wp2_with fail
        go_ret
        exact ⟨by rw [decide_eq_false (by omega)]; rfl, rfl⟩
    · by_cases h3 : n + m ≤ 1024
      · have x1 : ¬ (1024 : Int) - (n : Int) < (m : Int) := by omega
        go_wp2_with fail
        go_roundw
        case rel => exact ⟨trivial, .inr (.inr ⟨by go_num, by go_num, h3⟩)⟩
        case measure => simp [intOf]
      · have x1 : (1024 : Int) - (n : Int) < (m : Int) := by omega
        go_wp2_with fail
        go_ret
        exact ⟨by rw [decide_eq_false h3]; rfl, rfl⟩
    · go_wp2_with fail
      go_ret
      exact ⟨by rw [decide_eq_true h2]; rfl, rfl⟩

theorem two_slices {w W : World} {A B : Option Addr} {n c m d : Nat} {t : TypeId} (h : w.alloc (.cells #[.slice A n c, .slice B m d] t) = W) : W.cell? ⟨w.heap.size, 0, none⟩ = some (.slice A n c) ∧ W.cell? ⟨w.heap.size, 1, none⟩ = some (.slice B m d) ∧ Fr (fun _ => False) w W := by
  subst h
  exact ⟨by rw [World.cell?_alloc_new]; rfl, by rw [World.cell?_alloc_new]; rfl, Fr.alloc _ _ _ _⟩

/-- A slice of bytes that came in. -/
theorem raw_of {w : World} {a : Option Addr} {len cap : Nat} {zs : List Int}
    (h : (a = none ∧ len = 0 ∧ cap = 0 ∧ zs = []) ∨ ∃ x, a = some x ∧ len ≤ cap ∧ cap ≤ maxLen ∧ zs.length = cap ∧ (∀ i, i < zs.length → w.cell? (x.add i) = some (.int .u8 (zs.getD i 0))) ∧ ∀ n ∈ zs, (Lit.int .u8 n).wf = true) : ∃ f, Raw w a len cap f := by
  rcases h with ⟨rfl, rfl, rfl, _⟩ | ⟨x, rfl, hl, _, hz, hcell, hwf⟩
  · exact ⟨fun _ => 0#8, .inl ⟨rfl, rfl, rfl⟩⟩
  · by_cases h0 : len = 0
    · exact ⟨fun _ => 0#8, .inr (.inl ⟨h0, x, rfl⟩)⟩
    · obtain ⟨b, o, spot⟩ := x
      have h0 := hcell 0 (by omega)
      have hspot : spot = none := by simpa [Addr.add] using World.cell?_spot h0
      subst hspot
      have h00 : w.cell? ⟨b, o, none⟩ = some (.int .u8 (zs.getD 0 0)) := by simpa [Addr.add] using h0
      refine ⟨fun k => BitVec.ofInt 8 (zs.getD k 0), .inr (.inr ⟨b, o, rfl, World.block_lt_of_cell? w _ h00, fun k hk => ?_⟩)⟩
      have := hcell k (by omega)
      rw [addr_add] at this
      rw [this]
      have hb := bounds_u8 (hwf (zs.getD k 0) (by
        have e : zs.getD k 0 = zs[k]'(by omega) := by simp [List.getD, List.getElem?_eq_getElem (show k < zs.length by omega)]
        rw [e]; exact List.getElem_mem _))
      congr 2
      simp only [BitVec.toNat_ofInt]
      omega
theorem len_of {w : World} {a : Option Addr} {len cap : Nat} {zs : List Int}
    (h : (a = none ∧ len = 0 ∧ cap = 0 ∧ zs = []) ∨ ∃ x, a = some x ∧ len ≤ cap ∧ cap ≤ maxLen ∧ zs.length = cap ∧ (∀ i, i < zs.length → w.cell? (x.add i) = some (.int .u8 (zs.getD i 0))) ∧ ∀ n ∈ zs, (Lit.int .u8 n).wf = true) : (len : Int) ≤ 9223372036854775807 := by
  rcases h with ⟨_, rfl, _, _⟩ | ⟨x, _, hl, hm, _⟩
  · decide
  · unfold maxLen at hm; omega
end CI
end Go.Proofs.Yteooohmlmefbnaa
