/-
  The contract of SHA-256's 'Sum' into a row with room; a digest by value; the builtin 'append' of bytes into spare room.
  Conditions: none.
-/
import Derived.Test.YteooohmlmefbnaaNg
import Derived.Test.YteooohmlmefbnaaNh
import Derived.ArgAppend
namespace Go.Proofs.Yteooohmlmefbnaa
namespace CI
open Go
open Go.RowKit

/-! ### 1. append into spare room -/
theorem info5s : ∃ i, Try.prog.info? 5 = some i ∧ i.size = 1 := by
  have h : (Try.prog.info? 5).map (·.size) = some 1 := by kernel_rfl
  cases hi : Try.prog.info? 5 with
  | none => rw [hi] at h; cases h
  | some i => rw [hi] at h; exact ⟨i, rfl, by simpa using h⟩

theorem wpList_append_by {w : World} {ops : Array Oper} {rest : List Oper} {op : Oper} {a : Act} {Q : Exit → Act → World → Prop} (hgd : op.guard = none) (d s : Operand)
    (ho : op.op = .call { callee := .builtin .append, args := #[d, s], argTypes := #[29, 29] }) {b o n cap b2 o2 m c : Nat} {g f : Nat → B8} (hd : a.eval d = .slice (some ⟨b, o, none⟩) n cap) (hs : a.eval s = .slice (some ⟨b2, o2, none⟩) m c)
    (hb : By w b (o + n) m g) (hn : Nf w b (o + n) m) (hb2 : By w b2 o2 m f) (hroom : n + m ≤ cap)
    (h : ∀ w', By w' b (o + n) m f → Fr (inR b (o + n) m) w w' → wpList Try.prog ops Q rest (a.put op.dst (.slice (some ⟨b, o, none⟩) (n + m) cap)) w') : wpList Try.prog ops Q (op :: rest) a w := by
  refine wpList_plain hgd fun K hK => ?_
  obtain ⟨i, hi, hsz⟩ := info5s
  have hl : (bvals m f).length = m := bvals_length m f
  have hrun := run_append_room_cells (P := Try.prog) w 29 op.type 5 i Try.underlying29 hi b o n cap ⟨b2, o2, none⟩ m c (bvals m f) (by rw [hl, hsz, Nat.mul_one]) hb2.vals (bvals_one m f) hroom
    (fun j hj => by rw [hsz, Nat.mul_one, hb.2 j (by omega)]; rfl) (fun j hj => by rw [hsz, Nat.mul_one]; exact hn j (by omega))
  rw [hsz, Nat.mul_one] at hrun
  have hfr : Fr (inR b (o + n) m) w (w.setCells b (o + n) (bvals m f)) := Fr.setCells w b (o + n) _ fun j hj => ⟨j, by omega, rfl⟩
  unfold Oper.wp execOp
  simp only [ho, resolve, invoke, builtin, Sem.run_bind, Sem.run_pure, Result.andThen_ok, List.map_toArray, List.map_cons, List.map_nil, hd, hs, hrun]
  refine hK _ _ (h _ ⟨Nat.lt_of_lt_of_le hb.1 hfr.size, fun k hk => ?_⟩ hfr)
  have := World.cell?_setCells_in b (bvals m f) (o + n) w (fun j hj => by rw [hb.2 j (by omega)]; rfl) k (by omega)
  rw [this]
  have e := bvals_get (f := f) hk
  rw [List.getElem?_eq_getElem (by omega)] at e
  exact e

/-! ### 2. A digest by value -/
def dgv (S : DS) : List Value := wvals 8 S.h ++ (bvals 64 S.x ++ [.int .i64 (S.nx : Int), .int .u64 (S.ln : Int), .bool false])
theorem dgv_length (S : DS) : (dgv S).length = 75 := by simp only [dgv, List.length_append, wvals_length, bvals_length, List.length_cons, List.length_nil]
theorem dgv_h (S : DS) {k : Nat} (h : k < 8) : (dgv S)[k]? = some (.int .u32 ((S.h k).toNat : Int)) := by
  rw [dgv, List.getElem?_append_left (by rw [wvals_length]; exact h), wvals_get h]
theorem dgv_x (S : DS) {k : Nat} (h : k < 64) : (dgv S)[8 + k]? = some (.int .u8 ((S.x k).toNat : Int)) := by
  rw [dgv, List.getElem?_append_right (by rw [wvals_length]; omega), wvals_length, Nat.add_sub_cancel_left, List.getElem?_append_left (by rw [bvals_length]; exact h), bvals_get h]
theorem dgv_t (S : DS) (k : Nat) : (dgv S)[72 + k]? = ([.int .i64 (S.nx : Int), .int .u64 (S.ln : Int), .bool false] : List Value)[k]? := by
  rw [dgv, List.getElem?_append_right (by rw [wvals_length]; omega), wvals_length, List.getElem?_append_right (by rw [bvals_length]; omega), bvals_length]
  congr 1; omega
theorem Dg.range {w : World} {b : Nat} {S : DS} (h : Dg w b S) : w.rangeAt b 0 (dgv S) := fun j v hv => by
  rw [Nat.zero_add]
  have hj : j < 75 := by have := (List.getElem?_eq_some_iff.1 hv).1; rwa [dgv_length] at this
  by_cases h1 : j < 8
  · rw [dgv_h S h1] at hv
    have := h.h.2 j h1
    rw [Nat.zero_add] at this
    rw [this]; exact hv
  · by_cases h2 : j < 72
    · obtain ⟨k, rfl⟩ : ∃ k, j = 8 + k := ⟨j - 8, by omega⟩
      rw [dgv_x S (by omega)] at hv
      rw [h.x.2 k (by omega)]; exact hv
    · obtain ⟨k, rfl⟩ : ∃ k, j = 72 + k := ⟨j - 72, by omega⟩
      rw [dgv_t] at hv
      obtain rfl | rfl | rfl : k = 0 ∨ k = 1 ∨ k = 2 := by omega
      · rw [h.nx]; exact hv
      · rw [h.ln]; exact hv
      · rw [h.z]; exact hv
theorem Dg.of_range {w : World} {b : Nat} {S : DS} (hl : b < w.heap.size) (h : w.rangeAt b 0 (dgv S)) (hn : Nf w b 0 75) : Dg w b S :=
  ⟨⟨hl, fun _ hk => h _ _ (dgv_h S hk)⟩, ⟨hl, fun k hk => by have := h _ _ (dgv_x S hk); rwa [Nat.zero_add] at this⟩, by have := h (72 + 0) _ (dgv_t S 0); exact this, by have := h (72 + 1) _ (dgv_t S 1); exact this, by have := h (72 + 2) _ (dgv_t S 2); exact this, hn⟩
theorem dgv_cells (S : DS) : (dgv S).toArray.all (·.oneCell') = true := all_oneCell_toArray fun v hv => by
  simp only [dgv, List.mem_append, List.mem_cons, List.not_mem_nil, or_false] at hv
  rcases hv with hv | hv | rfl | rfl | rfl
  · exact wvals_one _ _ v hv
  · exact bvals_one _ _ v hv
  all_goals rfl
theorem und86 : ∃ d, Try.prog.underlying 86 = some d ∧ d.isRow = true := by
  have h : (Try.prog.underlying 86).map TypeDesc.isRow = some true := by kernel_rfl
  cases hi : Try.prog.underlying 86 with
  | none => rw [hi] at h; cases h
  | some i => rw [hi] at h; exact ⟨i, rfl, by simpa using h⟩
theorem wpList_load86 {ops : Array Oper} {rest : List Oper} {op : Oper} {a : Act} {w : World} {Q : Exit → Act → World → Prop} {b : Nat} {S : DS} (hgd : op.guard = none) (x : Operand) (ho : op.op = .load 86 x)
    (hx : a.eval x = .pointer (some ⟨b, 0, none⟩)) (hb : Dg w b S)
    (h : wpList Try.prog ops Q rest (a.put op.dst (.agg (dgv S).toArray)) w) : wpList Try.prog ops Q (op :: rest) a w := by
  obtain ⟨d, h1, h2⟩ := und86
  exact wpList_load_mid hgd 86 x ho b 0 hx (dgv S) d hb.range h1 h2 (by rw [dgv_length]; kernel_rfl) h
theorem wpList_store86 {ops : Array Oper} {rest : List Oper} {op : Oper} {a : Act} {w : World} {Q : Exit → Act → World → Prop} {b : Nat} {S T : DS} (hgd : op.guard = none) (x y : Operand) (ho : op.op = .store 86 x y)
    (hx : a.eval x = .pointer (some ⟨b, 0, none⟩)) (hy : a.eval y = .agg (dgv S).toArray) (hb : Dg w b T)
    (h : ∀ w', Dg w' b S → Fr (fun p => p.block = b) w w' → wpList Try.prog ops Q rest (a.put op.dst undef) w') : wpList Try.prog ops Q (op :: rest) a w := by
  have hl : (dgv S).toArray.size = 75 := by rw [List.size_toArray, dgv_length]
  have ht : w.there b 0 75 := fun j hj => ⟨by
    have e : j < (dgv T).length := by rw [dgv_length]; exact hj
    rw [hb.range j _ (List.getElem?_eq_getElem e)]; rfl, hb.nf j hj⟩
  have hfr : Fr (fun p => p.block = b) w (w.setCells b 0 (dgv S)) := Fr.setCells w b 0 _ fun j _ => rfl
  exact wpList_store_mid hgd 86 x y ho b 0 _ hx hy (by rw [hl]; exact ht) (by rw [hl]; kernel_rfl) (dgv_cells _) (h _ (Dg.of_range (Nat.lt_of_lt_of_le hb.h.1 hfr.size) (World.rangeAt_setCells_same w b 0 (dgv S) (by rw [dgv_length]; exact ht)) (hb.nf.fr hfr)) hfr)
/-! ### 3. Sum -/
set_option maxRecDepth 100000 in
set_option maxHeartbeats 2000000 in
theorem c79 {b bi o n cap : Nat} {w : World} {S : DS} {K : Nat → W} {g : Nat → B8} (hS : Dg w b S) (hK : Wd w 0 0 64 K) (hnx : S.ln % 64 = S.nx) (hln : S.ln ≤ 1000000) (hb : By w bi (o + n) 32 g) (hn : Nf w bi (o + n) 32) (hroom : n + 32 ≤ cap) :
    Calls Try.prog 79 #[.pointer (some ⟨b, 0, none⟩), .slice (some ⟨bi, o, none⟩) n cap] w fun e w' => e = .returned (.slice (some ⟨bi, o, none⟩) (n + 32) cap) ∧ By w' bi (o + n) 32 (ckB K S) ∧ Fr (inR bi (o + n) 32) w w' := by
  have HS := hidE hS
  have HK := hidE hK
  have HB := hidE hb
  have HN := hidE hn
  clear hS hK hb hn
  go_enter Try.func79, Try.ntmps79
  go_wp2_with (first
    | with_reducible refine wpList_load86 rfl (.tmp 8) rfl rfl HS.out ?_
    | refine wpList_store86 rfl (.tmp 5) (.tmp 9) rfl rfl rfl (dg_new rfl).1 ?_; intro w2 h2 f2)
  have HF2 : Hid (Fr (fun _ => False) w w2) := hidE (((dg_new (w := w) rfl).2.trans' f2).strong fun p hp hm => by
    rcases hm with hm | hm
    · exact hm
    · rw [hm] at hp; exact absurd hp (Nat.lt_irrefl _))
  have H2 := hidE h2
  clear h2 f2
  have h0 : w.heap.size ≠ 0 := by have := HK.out.1; omega
  have HC := hidE (c83 (K := K) H2.out (HK.out.same HF2.out) h0 hnx hln)
  ((with_reducible refine HC.out.mono ?_); rintro e w3 ⟨rfl, h3, f3⟩)
  have HF3 : Hid (Fr (fun _ => False) w w3) := hidE ((HF2.out.trans' f3).strong fun p hp hm => by
    rcases hm with hm | hm
    · exact hm
    · rw [hm] at hp; exact absurd hp (Nat.lt_irrefl _))
  have H3 := hidE h3
  clear HC h3 f3
  go_wp2_with (first
    | refine wpList_store32 rfl (.tmp 6) (.tmp 10) rfl rfl rfl (al_by (m := 32) rfl).1 (al_by (m := 32) rfl).2.1 ?_; intro w4 h4 f4; have HF4 : Hid (Fr (fun _ => False) w3 w4) := (((al_by (w := w3) (m := 32) rfl).2.2.trans' f4).strong fun p hp hm => by
        rcases hm with hm | ⟨t, _, rfl⟩
        · exact hm
        · exact absurd hp (Nat.lt_irrefl _)); have H4 := hidE h4; clear h4 f4; have q4 := (H3.out.same HF4.out).z
    | with_reducible refine wpList_append_by rfl (.tmp 16) (.tmp 17) rfl rfl rfl ((HB.out.same HF3.out).same HF4.out) ((HN.out.fr HF3.out).fr HF4.out) H4.out hroom ?_; intro w5 h5 f5)
  go_ret
  exact ⟨rfl, h5, ((HF3.out.trans HF4.out).trans' f5).strong fun p _ hm => by
    rcases hm with hm | hm
    · exact hm.elim
    · exact hm⟩

/-! ### 4. Sum of nil -/
theorem info5t : ∃ i, Try.prog.info? 5 = some i ∧ i.size = 1 ∧ i.bytes = 1 ∧ i.zero = some (.int .u8 0) := by
  have h : (Try.prog.info? 5).map (fun i => (i.size, i.bytes, i.zero)) = some (1, 1, some (.int .u8 0)) := by kernel_rfl
  cases hi : Try.prog.info? 5 with
  | none => rw [hi] at h; cases h
  | some i =>
    rw [hi] at h
    simp only [Option.map_some, Option.some.injEq, Prod.mk.injEq] at h
    exact ⟨i, rfl, h⟩

theorem wpList_append_nil {w : World} {ops : Array Oper} {rest : List Oper} {op : Oper} {a : Act} {Q : Exit → Act → World → Prop} (hgd : op.guard = none) (d s : Operand)
    (ho : op.op = .call { callee := .builtin .append, args := #[d, s], argTypes := #[29, 29] }) {b2 o2 m c : Nat} {f : Nat → B8} (hd : a.eval d = .slice none 0 0) (hs : a.eval s = .slice (some ⟨b2, o2, none⟩) m c)
    (hb2 : By w b2 o2 m f) (h0 : 0 < m) (hm : m ≤ 4096)
    (h : ∀ cap w', m ≤ cap → cap ≤ maxLen → By w' w.heap.size 0 m f → Nf w' w.heap.size 0 cap → Fr (fun _ => False) w w' → wpList Try.prog ops Q rest (a.put op.dst (.slice (some ⟨w.heap.size, 0, none⟩) m cap)) w') : wpList Try.prog ops Q (op :: rest) a w := by
  refine wpList_plain hgd fun K hK => ?_
  obtain ⟨i, hi, hsz, hby, hz⟩ := info5t
  have hl : (bvals m f).length = m := bvals_length m f
  have hrun := run_append_nil (P := Try.prog) w 29 op.type 5 i _ Try.underlying29 hi hz ⟨b2, o2, none⟩ m c (bvals m f) (by rw [hl, hsz, Nat.mul_one]) hb2.vals h0 (by omega) (by rw [hby]; omega)
  have hge := grownCap_ge w m 0 5
  have hle := grownCap_le_maxLen w m 0 5 (by unfold maxLen; omega)
  unfold Oper.wp execOp
  simp only [ho, resolve, invoke, builtin, Sem.run_bind, Sem.run_pure, Result.andThen_ok, List.map_toArray, List.map_cons, List.map_nil, hd, hs, hrun]
  refine hK _ _ (h _ _ hge hle ⟨by simp, fun k hk => ?_⟩ (fun k _ => World.frozen?_alloc_new w.drew _ _ _) (((Fr.drew _ w).trans (Fr.alloc _ _ _ _)).strong fun p _ hp => hp))
  have e2 : w.heap.size = w.drew.heap.size := rfl
  rw [e2, World.cell?_alloc_new, Nat.zero_add, Array.getElem?_append_left (by rw [List.size_toArray, hl]; exact hk), List.getElem?_toArray]
  exact bvals_get hk

set_option maxRecDepth 100000 in
set_option maxHeartbeats 2000000 in
theorem c79n {b : Nat} {w : World} {S : DS} {K : Nat → W} (hS : Dg w b S) (hK : Wd w 0 0 64 K) (hnx : S.ln % 64 = S.nx) (hln : S.ln ≤ 1000000) :
    Calls Try.prog 79 #[.pointer (some ⟨b, 0, none⟩), .slice none 0 0] w fun e w' => ∃ g cap, e = .returned (.slice (some ⟨g, 0, none⟩) 32 cap) ∧ 32 ≤ cap ∧ cap ≤ maxLen ∧ w.heap.size ≤ g ∧ By w' g 0 32 (ckB K S) ∧ Nf w' g 0 cap ∧ Fr (fun _ => False) w w' := by
  have HS := hidE hS
  have HK := hidE hK
  clear hS hK
  go_enter Try.func79, Try.ntmps79
  go_wp2_with (first
    | with_reducible refine wpList_load86 rfl (.tmp 8) rfl rfl HS.out ?_
    | refine wpList_store86 rfl (.tmp 5) (.tmp 9) rfl rfl rfl (dg_new rfl).1 ?_; intro w2 h2 f2)
  have HF2 : Hid (Fr (fun _ => False) w w2) := hidE (((dg_new (w := w) rfl).2.trans' f2).strong fun p hp hm => by
    rcases hm with hm | hm
    · exact hm
    · rw [hm] at hp; exact absurd hp (Nat.lt_irrefl _))
  have H2 := hidE h2
  clear h2 f2
  have h0 : w.heap.size ≠ 0 := by have := HK.out.1; omega
  have HC := hidE (c83 (K := K) H2.out (HK.out.same HF2.out) h0 hnx hln)
  ((with_reducible refine HC.out.mono ?_); rintro e w3 ⟨rfl, h3, f3⟩)
  have HF3 : Hid (Fr (fun _ => False) w w3) := hidE ((HF2.out.trans' f3).strong fun p hp hm => by
    rcases hm with hm | hm
    · exact hm
    · rw [hm] at hp; exact absurd hp (Nat.lt_irrefl _))
  have H3 := hidE h3
  clear HC h3 f3
  go_wp2_with (first
    | refine wpList_store32 rfl (.tmp 6) (.tmp 10) rfl rfl rfl (al_by (m := 32) rfl).1 (al_by (m := 32) rfl).2.1 ?_; intro w4 h4 f4; have HF4 : Hid (Fr (fun _ => False) w3 w4) := (((al_by (w := w3) (m := 32) rfl).2.2.trans' f4).strong fun p hp hm => by
        rcases hm with hm | ⟨t, _, rfl⟩
        · exact hm
        · exact absurd hp (Nat.lt_irrefl _)); have H4 := hidE h4; clear h4 f4; have q4 := (H3.out.same HF4.out).z
    | with_reducible refine wpList_append_nil rfl (.tmp 16) (.tmp 17) rfl rfl rfl H4.out (by decide) (by decide) ?_; intro cap w5 hc1 hc2 h5 n5 f5)
  go_ret
  exact ⟨_, cap, rfl, hc1, hc2, by have := HF3.out.size; have := HF4.out.size; omega, h5, n5, (HF3.out.trans HF4.out).trans f5⟩
end CI
end Go.Proofs.Yteooohmlmefbnaa
