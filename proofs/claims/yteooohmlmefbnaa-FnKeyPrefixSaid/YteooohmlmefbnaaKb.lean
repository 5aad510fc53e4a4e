/-
  Contracts of 'slices.Clone' at words and at bytes.
  Conditions: none.
-/
import Derived.Test.YteooohmlmefbnaaKa
import Derived.WalkKit
import Derived.WalkSpells
import Derived.ProofKit
namespace Go.Proofs.Yteooohmlmefbnaa
namespace CI
open Go
open Go.RowKit

/-- A row of the run's own: block g holds 'cap' cells of type e, the first n of them xs. -/
structure Own (w : World) (g cap : Nat) (e : TypeId) (n : Nat) (xs : List Value) : Prop where
  ex : ∃ cur : Array Value, w.heap[g]? = some (.cells cur e (0, 0)) ∧ cur.size = cap ∧ cur.toList.take n = xs
  len : xs.length = n
  le : n ≤ cap
  max : cap ≤ maxLen

theorem Own.lt {w : World} {g cap : Nat} {e : TypeId} {n : Nat} {xs : List Value} (h : Own w g cap e n xs) : g < w.heap.size := by
  obtain ⟨cur, h1, _⟩ := h.ex
  exact (Array.getElem?_eq_some_iff.1 h1).1

theorem Own.cell {w : World} {g cap : Nat} {e : TypeId} {n : Nat} {xs : List Value} (h : Own w g cap e n xs) {k : Nat} {v : Value} (hv : xs[k]? = some v) : w.cell? ⟨g, 0 + k, none⟩ = some v := by
  obtain ⟨cur, h1, h2, rfl⟩ := h.ex
  rw [List.getElem?_take] at hv
  split at hv
  · rw [Nat.zero_add]
    simp only [World.cell?, h1]
    rw [Array.getElem?_toList] at hv
    exact hv
  · cases hv

section
variable {P : Program}
theorem run_append_blk {w : World} {t ty e : TypeId} {i : TypeInfo} {z : Value} (ht : P.underlying t = some (.slice e)) (hi : P.info? e = some i) (hz : i.zero = some z) (hsz : i.size = 1) (hzs : z.cells.size = 1)
    {g n cap : Nat} {xs : List Value} (h : Own w g cap e n xs) {ad : Addr} {m c : Nat} {news : List Value} (hl : news.length = m) (hnews : ∀ j u, news[j]? = some u → w.cell? (ad.add j) = some u) (h1 : ∀ u ∈ news, u.oneCell' = true)
    (h63 : n + m ≤ maxLen) (hbytes : (n + m) * i.bytes ≤ 140737488355328) :
    ∃ g' cap' w', (Builtin.append_ #[t, t] ty #[.slice (some ⟨g, 0, none⟩) n cap, .slice (some ad) m c]).run P w = .ok (.slice (some ⟨g', 0, none⟩) (n + m) cap') w' ∧ Own w' g' cap' e (n + m) (xs ++ news) ∧
      (g' = g ∧ cap' = cap ∨ g' = w.heap.size) ∧ Fr (fun p => g' = g ∧ p.block = g) w w' := by
  obtain ⟨cur, hg, hcs, htk⟩ := h.ex
  have hle := h.le
  have hlen := h.len
  have hmx := h.max
  by_cases hroom : n + m ≤ cap
  · have hrun := run_append_room (P := P) w t ty e i ht hi g n cap cur hg ad m c news (by rw [hl, hsz, Nat.mul_one]) hnews h1 hroom (by rw [hsz, hl]; omega)
    rw [hsz, Nat.mul_one, htk] at hrun
    refine ⟨g, cap, _, hrun, ⟨⟨_, setRow_heap w _ cur _ e (0, 0) hg, ?_, ?_⟩, by rw [List.length_append, hlen, hl], hroom, hmx⟩, .inl ⟨rfl, rfl⟩, Fr.setRow hg ?_ fun o => ⟨rfl, rfl⟩⟩
    · simp only [List.size_toArray, List.length_append, List.length_drop, Array.length_toList, hlen, hl]; omega
    · rw [List.take_append_of_le_length (by rw [List.length_append, hlen, hl]; omega), List.take_of_length_le (by rw [List.length_append, hlen, hl]; omega)]
    · simp only [List.size_toArray, List.length_append, List.length_drop, Array.length_toList, hlen, hl]; omega
  · have holds : ∀ j v, xs[j]? = some v → w.cell? ((⟨g, 0, none⟩ : Addr).add j) = some v := fun j v hv => by
      rw [addr_add]; exact h.cell hv
    have hrun := run_append_grow (P := P) w t ty e i z ht hi hz ⟨g, 0, none⟩ n cap xs (by rw [hlen, hsz, Nat.mul_one]) holds ad m c news (by rw [hl, hsz, Nat.mul_one]) hnews (by omega) (by unfold maxLen at h63; omega) (growslice_fits (by omega) hbytes)
    have hge := grownCap_ge w (n + m) cap e
    have hle2 : grownCap w (n + m) cap e ≤ maxLen := grownCap_le_maxLen w _ _ e h63
    generalize grownCap w (n + m) cap e = cap2 at hrun hge hle2
    refine ⟨_, cap2, _, hrun, ⟨⟨_, heap_alloc_new w.drew _, ?_, ?_⟩, by rw [List.length_append, hlen, hl], hge, hle2⟩, .inr rfl, ((Fr.drew _ w).trans (Fr.alloc _ _ _ _)).strong fun p _ hp => hp⟩
    · simp only [Array.size_append, List.size_toArray, size_zeroCells, hzs, hlen, hl]; omega
    · simp only [Array.toList_append]
      rw [List.take_append_of_le_length (by rw [List.length_append, hlen, hl]; omega), List.take_of_length_le (by rw [List.length_append, hlen, hl]; omega)]

theorem wpList_append_blk {w : World} {ops : Array Oper} {rest : List Oper} {o : Oper} {a : Act} {Q : Exit → Act → World → Prop} (hgd : o.guard = none) (s x : Operand) (t : TypeId)
    (ho : o.op = .call { callee := .builtin .append, args := #[s, x], argTypes := #[t, t] })
    {e : TypeId} {i : TypeInfo} {z : Value} (ht : P.underlying t = some (.slice e)) (hi : P.info? e = some i) (hz : i.zero = some z) (hsz : i.size = 1) (hzs : z.cells.size = 1)
    {g n cap : Nat} {xs : List Value} (hs : a.eval s = .slice (some ⟨g, 0, none⟩) n cap) (h : Own w g cap e n xs) {ad : Addr} {m c : Nat} {news : List Value} (hx : a.eval x = .slice (some ad) m c) (hl : news.length = m) (hnews : ∀ j u, news[j]? = some u → w.cell? (ad.add j) = some u) (h1 : ∀ u ∈ news, u.oneCell' = true)
    (h63 : n + m ≤ maxLen) (hbytes : (n + m) * i.bytes ≤ 140737488355328)
    (hk : ∀ g' cap' w', Own w' g' cap' e (n + m) (xs ++ news) → (g' = g ∧ cap' = cap ∨ g' = w.heap.size) → Fr (fun p => g' = g ∧ p.block = g) w w' → wpList P ops Q rest (a.put o.dst (.slice (some ⟨g', 0, none⟩) (n + m) cap')) w') : wpList P ops Q (o :: rest) a w := by
  refine wpList_plain hgd fun K hK => ?_
  obtain ⟨g', cap', w', hrun, h2, h3, h4⟩ := run_append_blk (P := P) (ty := o.type) (c := c) ht hi hz hsz hzs h hl hnews h1 h63 hbytes
  unfold Oper.wp execOp
  simp only [ho, resolve, invoke, builtin, Sem.run_bind, Sem.run_pure, Result.andThen_ok, List.map_toArray, List.map_cons, List.map_nil, hs, hx, hrun]
  exact hK _ _ (hk g' cap' w' h2 h3 h4)
end
theorem Own.empty (w : World) (e : TypeId) : Own (w.alloc (.cells #[] e)) w.heap.size 0 e 0 [] := ⟨⟨#[], heap_alloc_new w _, rfl, rfl⟩, rfl, Nat.le_refl _, by unfold maxLen; omega⟩

theorem info22 : (Try.prog.info? 22).map (fun i => (i.zero, i.size, i.bytes)) = some (some (.int .u32 0), 1, 4) := by kernel_rfl
theorem info5 : (Try.prog.info? 5).map (fun i => (i.zero, i.size, i.bytes)) = some (some (.int .u8 0), 1, 1) := by kernel_rfl

theorem clone_end {w w' : World} {e : TypeId} {n g' cap' : Nat} {xs : List Value} {q : Nat} (hown : Own w' g' cap' e (0 + n) ([] ++ xs)) (hg : g' = w.heap.size ∧ cap' = q ∨ g' = (w.alloc (.cells #[] e)).heap.size) (hfr : Fr (fun p => g' = w.heap.size ∧ p.block = w.heap.size) (w.alloc (.cells #[] e)) w') :
    ∃ g cap, Ending.returned (.slice (some ⟨g', 0, none⟩) n cap') = .returned (.slice (some ⟨g, 0, none⟩) n cap) ∧ w.heap.size ≤ g ∧ Own w' g cap e n xs ∧ Fr (fun _ => False) w w' := by
  rw [Nat.zero_add] at hown
  refine ⟨g', cap', rfl, ?_, hown, ((Fr.alloc _ w _ _).trans hfr).strong fun p hp hm => by omega⟩
  rcases hg with ⟨h, _⟩ | h
  · omega
  · simp at h; omega

set_option maxHeartbeats 400000 in
theorem clone24 (ad : Addr) (n c : Nat) (xs : List Value) (w : World) (hl : xs.length = n) (hc : ∀ j u, xs[j]? = some u → w.cell? (ad.add j) = some u) (h1 : ∀ u ∈ xs, u.oneCell' = true) (hlt : ad.block < w.heap.size) (hn : n ≤ 4294967296) :
    Calls Try.prog 24 #[.slice (some ad) n c] w fun e w' => ∃ g cap, e = .returned (.slice (some ⟨g, 0, none⟩) n cap) ∧ w.heap.size ≤ g ∧ Own w' g cap 22 n xs ∧ Fr (fun _ => False) w w' := by
  have hnil := fun (w : World) => run_eql_nilS (P := Try.prog) w 26 22 (some ad) n c 0 0 Try.underlying26
  obtain ⟨i0, hi, hz0, hz1, hz2⟩ := info_parts info22
  have hb : (0 + n) * i0.bytes ≤ 140737488355328 := by rw [hz2]; omega
  have hm : 0 + n ≤ maxLen := by unfold maxLen; omega
  have hc' : ∀ j u, xs[j]? = some u → (w.alloc (.cells #[] 22)).cell? (ad.add j) = some u := fun j u hu => by
    have hbl : (ad.add j).block = ad.block := by unfold Addr.add; split <;> rfl
    rw [World.cell?_alloc_lt _ _ _ (by rw [hbl]; exact hlt)]; exact hc j u hu
  have HC : Hid (∀ j u, xs[j]? = some u → (w.alloc (.cells #[] 22)).cell? (ad.add j) = some u) := hc'
  have HL : Hid (xs.length = n) := hl
  have H1 : Hid (∀ u ∈ xs, u.oneCell' = true) := h1
  clear hc hc' hl h1
  go_enter Try.func24, Try.ntmps24
  go_wp2_with (at_builtin; refine wpList_append_blk rfl (.tmp 5) (.tmp 6) _ rfl Try.underlying26 hi hz0 hz1 rfl rfl (Own.empty w 22) rfl HL.out HC.out H1.out hm hb ?_; intro g' cap' w' hown hg hfr)
  go_ret
  exact clone_end hown hg hfr

theorem clone24_nil (n c : Nat) (w : World) : Calls Try.prog 24 #[.slice none n c] w fun e w' => e = .returned (.slice none 0 0) ∧ w = w' := by
  have hnil := fun (w : World) => run_eql_nilS (P := Try.prog) w 26 22 none n c 0 0 Try.underlying26
  go_enter Try.func24, Try.ntmps24
  go_wp2
  go_ret
  exact ⟨rfl, rfl⟩

set_option maxHeartbeats 400000 in
theorem clone25 (ad : Addr) (n c : Nat) (xs : List Value) (w : World) (hl : xs.length = n) (hc : ∀ j u, xs[j]? = some u → w.cell? (ad.add j) = some u) (h1 : ∀ u ∈ xs, u.oneCell' = true) (hlt : ad.block < w.heap.size) (hn : n ≤ 4294967296) :
    Calls Try.prog 25 #[.slice (some ad) n c] w fun e w' => ∃ g cap, e = .returned (.slice (some ⟨g, 0, none⟩) n cap) ∧ w.heap.size ≤ g ∧ Own w' g cap 5 n xs ∧ Fr (fun _ => False) w w' := by
  have hnil := fun (w : World) => run_eql_nilS (P := Try.prog) w 29 5 (some ad) n c 0 0 Try.underlying29
  obtain ⟨i0, hi, hz0, hz1, hz2⟩ := info_parts info5
  have hb : (0 + n) * i0.bytes ≤ 140737488355328 := by rw [hz2]; omega
  have hm : 0 + n ≤ maxLen := by unfold maxLen; omega
  have hc' : ∀ j u, xs[j]? = some u → (w.alloc (.cells #[] 5)).cell? (ad.add j) = some u := fun j u hu => by
    have hbl : (ad.add j).block = ad.block := by unfold Addr.add; split <;> rfl
    rw [World.cell?_alloc_lt _ _ _ (by rw [hbl]; exact hlt)]; exact hc j u hu
  have HC : Hid (∀ j u, xs[j]? = some u → (w.alloc (.cells #[] 5)).cell? (ad.add j) = some u) := hc'
  have HL : Hid (xs.length = n) := hl
  have H1 : Hid (∀ u ∈ xs, u.oneCell' = true) := h1
  clear hc hc' hl h1
  go_enter Try.func25, Try.ntmps25
  go_wp2_with (at_builtin; refine wpList_append_blk rfl (.tmp 5) (.tmp 6) _ rfl Try.underlying29 hi hz0 hz1 rfl rfl (Own.empty w 5) rfl HL.out HC.out H1.out hm hb ?_; intro g' cap' w' hown hg hfr)
  go_ret
  exact clone_end hown hg hfr

theorem clone25_nil (n c : Nat) (w : World) : Calls Try.prog 25 #[.slice none n c] w fun e w' => e = .returned (.slice none 0 0) ∧ w = w' := by
  have hnil := fun (w : World) => run_eql_nilS (P := Try.prog) w 29 5 none n c 0 0 Try.underlying29
  go_enter Try.func25, Try.ntmps25
  go_wp2
  go_ret
  exact ⟨rfl, rfl⟩

end CI
end Go.Proofs.Yteooohmlmefbnaa
