/-
  The contracts of 'beAppendUint32' and 'beAppendUint64' (of 64) into spare room. The contracts of SHA-256's 'AppendBinary' and 'MarshalBinary' where one whole block has been taken in (empty buffer, length 64).
  Conditions: none.
-/
import Derived.Test.YteooohmlmefbnaaNi
import Derived.Deep.RegionLaw
namespace Go.Proofs.Yteooohmlmefbnaa
namespace CI
open Go
open Go.RowKit

theorem al4_by {w W : World} {t : TypeId} {f : Nat → B8} (h : w.alloc (.cells #[.int .u8 ((f 0).toNat : Int), .int .u8 ((f 1).toNat : Int), .int .u8 ((f 2).toNat : Int), .int .u8 ((f 3).toNat : Int)] t) = W) : By W w.heap.size 0 4 f ∧ Fr (fun _ => False) w W := by
  subst h
  refine ⟨⟨by simp, fun k hk => ?_⟩, Fr.alloc _ _ _ _⟩
  rw [World.cell?_alloc_new, Nat.zero_add]
  obtain rfl | rfl | rfl | rfl : k = 0 ∨ k = 1 ∨ k = 2 ∨ k = 3 := by omega
  all_goals rfl

theorem beB4_0 (x : W) : (x.toNat : Int) / 16777216 = ((beB x.toNat 4 0).toNat : Int) := by
  rw [beB_val]; have := x.isLt; simp only [Nat.reduceSub, Nat.reducePow]; omega
theorem beB4_1 (x : W) : (x.toNat : Int) / 65536 % 256 = ((beB x.toNat 4 1).toNat : Int) := by rw [beB_val]; simp only [Nat.reduceSub, Nat.reducePow]; rfl
theorem beB4_2 (x : W) : (x.toNat : Int) / 256 % 256 = ((beB x.toNat 4 2).toNat : Int) := by rw [beB_val]; simp only [Nat.reduceSub, Nat.reducePow]; rfl
theorem beB4_3 (x : W) : (x.toNat : Int) % 256 = ((beB x.toNat 4 3).toNat : Int) := by rw [beB_val]; simp only [Nat.reduceSub, Nat.reducePow]; omega

set_option maxRecDepth 100000 in
set_option maxHeartbeats 1000000 in
theorem c87 {b o n cap : Nat} {w : World} {x : W} {g : Nat → B8} (hb : By w b (o + n) 4 g) (hn : Nf w b (o + n) 4) (hroom : n + 4 ≤ cap) :
    Calls Try.prog 87 #[.slice (some ⟨b, o, none⟩) n cap, .int .u32 (x.toNat : Int)] w fun e w' => e = .returned (.slice (some ⟨b, o, none⟩) (n + 4) cap) ∧ By w' b (o + n) 4 (beB x.toNat 4) ∧ Fr (inR b (o + n) 4) w w' := by
  have HB := hidE hb
  have HN := hidE hn
  clear hb hn
  have v0 := beB4_0 x
  have v1 := beB4_1 x
  have v2 := beB4_2 x
  have v3 := beB4_3 x
  go_enter Try.func87, Try.ntmps87
  go_wp2_with (refine wpList_append_by rfl (.tmp 5) (.tmp 17) rfl rfl rfl (HB.out.same (al4_by (f := beB x.toNat 4) rfl).2) (HN.out.fr (al4_by (f := beB x.toNat 4) rfl).2) (al4_by rfl).1 hroom ?_; intro w2 h2 f2)
  go_ret
  exact ⟨rfl, h2, ((al4_by (w := w) (f := beB x.toNat 4) rfl).2.trans' f2).strong fun p _ hm => by
    rcases hm with hm | hm
    · exact hm.elim
    · exact hm⟩

theorem al8_by {w W : World} {t : TypeId} (h : w.alloc (.cells #[.int .u8 0, .int .u8 0, .int .u8 0, .int .u8 0, .int .u8 0, .int .u8 0, .int .u8 0, .int .u8 64] t) = W) : By W w.heap.size 0 8 (beB 64 8) ∧ Fr (fun _ => False) w W := by
  subst h
  refine ⟨⟨by simp, fun k hk => ?_⟩, Fr.alloc _ _ _ _⟩
  rw [World.cell?_alloc_new, Nat.zero_add]
  obtain rfl | rfl | rfl | rfl | rfl | rfl | rfl | rfl : k = 0 ∨ k = 1 ∨ k = 2 ∨ k = 3 ∨ k = 4 ∨ k = 5 ∨ k = 6 ∨ k = 7 := by omega
  all_goals rfl

set_option maxRecDepth 100000 in
set_option maxHeartbeats 1000000 in
theorem c88 {b o n cap : Nat} {w : World} {g : Nat → B8} (hb : By w b (o + n) 8 g) (hn : Nf w b (o + n) 8) (hroom : n + 8 ≤ cap) :
    Calls Try.prog 88 #[.slice (some ⟨b, o, none⟩) n cap, .int .u64 64] w fun e w' => e = .returned (.slice (some ⟨b, o, none⟩) (n + 8) cap) ∧ By w' b (o + n) 8 (beB 64 8) ∧ Fr (inR b (o + n) 8) w w' := by
  have HB := hidE hb
  have HN := hidE hn
  clear hb hn
  go_enter Try.func88, Try.ntmps88
  go_wp2_with (refine wpList_append_by rfl (.tmp 5) (.tmp 29) rfl rfl rfl (HB.out.same (al8_by rfl).2) (HN.out.fr (al8_by rfl).2) (al8_by rfl).1 hroom ?_; intro w2 h2 f2)
  go_ret
  exact ⟨rfl, h2, ((al8_by (w := w) rfl).2.trans' f2).strong fun p _ hm => by
    rcases hm with hm | hm
    · exact hm.elim
    · exact hm⟩

/-! ### 1. append of a string and of zeros into spare room -/
theorem run_append_list {w : World} {b o n : Nat} {news : List Value} (h1 : ∀ u ∈ news, u.oneCell' = true)
    (hc : ∀ j, j < news.length → (w.cell? ⟨b, o + n + j, none⟩).isSome = true) (hf : ∀ j, j < news.length → w.frozen? ⟨b, o + n + j, none⟩ = false) :
    (storeCells ⟨b, o + n, none⟩ news).run Try.prog w = .ok () (w.setCells b (o + n) news) := by
  have hst := run_storeCells_cells (P := Try.prog) b (o + n) news 0 w (by simpa using hc) (by simpa using hf) h1
  simpa only [Nat.add_zero] using hst

theorem by_setCells {w : World} {b o m : Nat} {g f : Nat → B8} (hb : By w b o m g) : By (w.setCells b o (bvals m f)) b o m f ∧ Fr (inR b o m) w (w.setCells b o (bvals m f)) := by
  have hl : (bvals m f).length = m := bvals_length m f
  have hfr : Fr (inR b o m) w (w.setCells b o (bvals m f)) := Fr.setCells w b o _ fun j hj => ⟨j, by omega, rfl⟩
  refine ⟨⟨Nat.lt_of_lt_of_le hb.1 hfr.size, fun k hk => ?_⟩, hfr⟩
  have := World.cell?_setCells_in b (bvals m f) o w (fun j hj => by rw [hb.2 j (by omega)]; rfl) k (by omega)
  rw [this]
  have e := bvals_get (f := f) hk
  rw [List.getElem?_eq_getElem (by omega)] at e
  exact e

/-- The first four bytes of a saved state. -/
def mag (k : Nat) : B8 := [115#8, 104#8, 97#8, 3#8].getD k 0#8

theorem run_append_mag {w : World} {ty : TypeId} {b o n cap : Nat} {g : Nat → B8} (hb : By w b (o + n) 4 g) (hn : Nf w b (o + n) 4) (hroom : n + 4 ≤ cap) :
    (Builtin.append_ #[29, 9] ty #[.slice (some ⟨b, o, none⟩) n cap, .string { data := #[115, 104, 97, 3] }]).run Try.prog w = .ok (.slice (some ⟨b, o, none⟩) (n + 4) cap) (w.setCells b (o + n) (bvals 4 mag)) := by
  obtain ⟨i, hi, hsz⟩ := info5s
  have hst := run_append_list (w := w) (b := b) (o := o) (n := n) (news := bvals 4 mag) (bvals_one 4 mag) (fun j hj => by rw [bvals_length] at hj; rw [hb.2 j hj]; rfl) (fun j hj => by rw [bvals_length] at hj; exact hn j hj)
  have es : ({ data := #[115, 104, 97, 3] } : ByteArray).size = 4 := by kernel_rfl
  have hl : bvals 4 mag = [.int .u8 115, .int .u8 104, .int .u8 97, .int .u8 3] := by kernel_rfl
  have hst2 : (storeCells ⟨b, o + n, none⟩ [.int .u8 115, .int .u8 104, .int .u8 97, .int .u8 3]).run Try.prog w = .ok () (w.setCells b (o + n) (bvals 4 mag)) := by rw [← hl]; exact hst
  simp [Builtin.append_, run_underlying Try.underlying29, run_underlying Try.underlying9, sizeOf, typeInfo, hi, hsz, Builtin.lenOf, Builtin.firstCells, es, hroom, Addr.add_lit, hst2]

theorem wpList_append_mag {w : World} {ops : Array Oper} {rest : List Oper} {op : Oper} {a : Act} {Q : Exit → Act → World → Prop} (hgd : op.guard = none) (d s : Operand)
    (ho : op.op = .call { callee := .builtin .append, args := #[d, s], argTypes := #[29, 9] }) {b o n cap : Nat} {g : Nat → B8} (hd : a.eval d = .slice (some ⟨b, o, none⟩) n cap) (hs : a.eval s = .string { data := #[115, 104, 97, 3] })
    (hb : By w b (o + n) 4 g) (hn : Nf w b (o + n) 4) (hroom : n + 4 ≤ cap)
    (h : ∀ w', By w' b (o + n) 4 mag → Fr (inR b (o + n) 4) w w' → wpList Try.prog ops Q rest (a.put op.dst (.slice (some ⟨b, o, none⟩) (n + 4) cap)) w') : wpList Try.prog ops Q (op :: rest) a w := by
  refine wpList_plain hgd fun K hK => ?_
  have hrun := run_append_mag (ty := op.type) hb hn hroom
  obtain ⟨h1, h2⟩ := by_setCells (f := mag) hb
  unfold Oper.wp execOp
  simp only [ho, resolve, invoke, builtin, Sem.run_bind, Sem.run_pure, Result.andThen_ok, List.map_toArray, List.map_cons, List.map_nil, hd, hs, hrun]
  exact hK _ _ (h _ h1 h2)

theorem run_append_zeros {w : World} {ty : TypeId} {b o n cap m : Nat} {g : Nat → B8} (hb : By w b (o + n) m g) (hn : Nf w b (o + n) m) (hroom : n + m ≤ cap) (h0 : 0 < m) (hm : m ≤ 4096) :
    (Builtin.append_ #[29, 3] ty #[.slice (some ⟨b, o, none⟩) n cap, .int .i64 (m : Int)]).run Try.prog w = .ok (.slice (some ⟨b, o, none⟩) (n + m) cap) (w.setCells b (o + n) (bvals m fun _ => 0#8)) := by
  obtain ⟨i, hi, hsz, hby, hz⟩ := info5t
  have hst := run_append_list (w := w) (b := b) (o := o) (n := n) (news := bvals m fun _ => 0#8) (bvals_one m _) (fun j hj => by rw [bvals_length] at hj; rw [hb.2 j hj]; rfl) (fun j hj => by rw [bvals_length] at hj; exact hn j hj)
  have e : (Builtin.zeroCells (Value.int .u8 0).cells m).toList = bvals m fun _ => 0#8 := by
    apply List.ext_getElem?
    intro k
    by_cases hk : k < m
    · rw [bvals_get hk]
      simp [Builtin.zeroCells, Value.cells, hk, Nat.mod_one]
    · rw [List.getElem?_eq_none (by rw [Array.length_toList, size_zeroCells]; simp [Value.cells]; omega), List.getElem?_eq_none (by rw [bvals_length]; omega)]
  have w1 : IntKind.i64.wrap (m : Int) = (m : Int) := by rw [IntKind.wrap_i64]; omega
  have w2 : ¬ ((m : Int) < 0) := by omega

  have w3 : ¬ (281474976710656 < (m : Int)) := by omega
  have w4 : m ≠ 0 := by omega
  simp [Builtin.append_, run_underlying Try.underlying29, run_underlying Try.underlying3, sizeOf, typeInfo, zeroValue, hi, hsz, hz, hby, asInt, asIntOf, w1, w2, w3, w4, hroom, Addr.add_lit, e, hst]

theorem wpList_append_zeros {w : World} {ops : Array Oper} {rest : List Oper} {op : Oper} {a : Act} {Q : Exit → Act → World → Prop} (hgd : op.guard = none) (d s : Operand)
    (ho : op.op = .call { callee := .builtin .append, args := #[d, s], argTypes := #[29, 3] }) {b o n cap m : Nat} {g : Nat → B8} (hd : a.eval d = .slice (some ⟨b, o, none⟩) n cap) (hs : a.eval s = .int .i64 (m : Int))
    (hb : By w b (o + n) m g) (hn : Nf w b (o + n) m) (hroom : n + m ≤ cap) (h0 : 0 < m) (hm : m ≤ 4096)
    (h : ∀ w', By w' b (o + n) m (fun _ => 0#8) → Fr (inR b (o + n) m) w w' → wpList Try.prog ops Q rest (a.put op.dst (.slice (some ⟨b, o, none⟩) (n + m) cap)) w') : wpList Try.prog ops Q (op :: rest) a w := by
  refine wpList_plain hgd fun K hK => ?_
  have hrun := run_append_zeros (ty := op.type) hb hn hroom h0 hm
  obtain ⟨h1, h2⟩ := by_setCells (f := fun _ => 0#8) hb
  unfold Oper.wp execOp
  simp only [ho, resolve, invoke, builtin, Sem.run_bind, Sem.run_pure, Result.andThen_ok, List.map_toArray, List.map_cons, List.map_nil, hd, hs, hrun]
  exact hK _ _ (h _ h1 h2)

theorem step_append_none {w : World} {ops : Array Oper} {o : Oper} {a : Act} {K : Act → World → Prop} {Q : Exit → Act → World → Prop} {E : Prop} (hgd : o.guard = none) (d s : Operand)
    (ho : o.op = .call { callee := .builtin .append, args := #[d, s], argTypes := #[29, 29] }) {b off n cap b2 o2 c : Nat} (hd : a.eval d = .slice (some ⟨b, off, none⟩) n cap) (hs : a.eval s = .slice (some ⟨b2, o2, none⟩) 0 c)
    (hroom : n ≤ cap) (h : ∀ w', w' = w → K (a.put o.dst (.slice (some ⟨b, off, none⟩) n cap)) w') :
    if Region.wanted o (yielded ops a.tmps) = true then Oper.wp Try.prog o a w K Q else E := by
  have hw : Region.wanted o (yielded ops a.tmps) = true := by simp [Region.wanted, hgd]
  rw [if_pos hw]
  obtain ⟨i, hi, hsz⟩ := info5s
  have hrun := run_append_room_cells (P := Try.prog) w 29 o.type 5 i Try.underlying29 hi b off n cap ⟨b2, o2, none⟩ 0 c [] (by simp) (fun j u hj => by cases hj) (fun u hu => by cases hu) (by omega) (fun j hj => by cases hj) (fun j hj => by cases hj)
  unfold Oper.wp
  simp only [execOp, ho, resolve, invoke, builtin, Sem.run_bind, Sem.run_pure, Result.andThen_ok, List.map_toArray, List.map_cons, List.map_nil, hd, hs, hrun]
  exact h _ rfl

/-! ### 2. A saved state -/
/-- The 108 bytes of a saved state: mark, eight words, an empty buffer, the length 64. -/
def msB (h : Nat → W) (k : Nat) : B8 := if k < 4 then mag k else if k < 36 then beB (h ((k - 4) / 4)).toNat 4 ((k - 4) % 4) else if k < 100 then 0#8 else beB 64 8 (k - 100)
theorem msB_mag (h : Nat → W) {k : Nat} (hk : k < 4) : msB h k = mag k := by unfold msB; rw [if_pos hk]
theorem msB_word (h : Nat → W) {i k : Nat} (hi : i < 8) (hk : k < 4) : msB h (4 + 4 * i + k) = beB (h i).toNat 4 k := by
  unfold msB
  rw [if_neg (by omega), if_pos (by omega), show (4 + 4 * i + k - 4) / 4 = i by omega, show (4 + 4 * i + k - 4) % 4 = k by omega]
theorem msB_zero (h : Nat → W) {k : Nat} (hk : k < 64) : msB h (36 + k) = 0#8 := by
  unfold msB
  rw [if_neg (by omega), if_neg (by omega), if_pos (by omega)]
theorem msB_len (h : Nat → W) (k : Nat) : msB h (100 + k) = beB 64 8 k := by
  unfold msB
  rw [if_neg (by omega), if_neg (by omega), if_neg (by omega), Nat.add_sub_cancel_left]

/-- The first n bytes of a saved state are laid. -/
structure Ap (w : World) (bi n : Nat) (h : Nat → W) : Prop where
  done : By w bi 0 n (msB h)
  rest : ∃ z, By w bi n (108 - n) z
  nf : Nf w bi 0 108
theorem Ap.start {w : World} {bi : Nat} {h : Nat → W} {z : Nat → B8} (hb : By w bi 0 108 z) (hn : Nf w bi 0 108) : Ap w bi 0 h := ⟨⟨hb.1, fun _ hk => absurd hk (Nat.not_lt_zero _)⟩, ⟨z, hb⟩, hn⟩
theorem Ap.room {w : World} {bi n : Nat} {h : Nat → W} (hA : Ap w bi n h) {m : Nat} (hm : n + m ≤ 108) : ∃ z, By w bi (0 + n) m z := by
  obtain ⟨z, hz⟩ := hA.rest
  rw [Nat.zero_add]
  exact ⟨z, hz.1, fun k hk => hz.2 k (by omega)⟩
theorem Ap.free {w : World} {bi n : Nat} {h : Nat → W} (hA : Ap w bi n h) {m : Nat} (hm : n + m ≤ 108) : Nf w bi (0 + n) m := hA.nf.sub hm
theorem Ap.step {w w' : World} {bi n m : Nat} {h : Nat → W} {f : Nat → B8} (hA : Ap w bi n h) (hm : n + m ≤ 108) (hb : By w' bi (0 + n) m f) (hf : Fr (inR bi (0 + n) m) w w') (e : ∀ k, k < m → f k = msB h (n + k)) : Ap w' bi (n + m) h := by
  rw [Nat.zero_add] at hb hf
  refine ⟨⟨hb.1, fun k hk => ?_⟩, ?_, hA.nf.fr hf⟩
  · by_cases hk' : k < n
    · exact (hA.done.fr hf fun k hk => not_inR (.inr (.inl (by omega)))).2 k hk'
    · have := hb.2 (k - n) (by omega)
      rw [e _ (by omega), show n + (k - n) = k by omega] at this
      rw [Nat.zero_add]
      exact this
  · obtain ⟨z, hz⟩ := hA.rest
    have h2 := hz.fr (may := inR bi n m) hf
    refine ⟨fun k => z (m + k), hb.1, fun k hk => ?_⟩
    have := hf.cell hz.1 (not_inR (b := bi) (o := n + (m + k)) (.inr (.inr (by omega)))) (hz.2 (m + k) (by omega))
    rwa [← Nat.add_assoc] at this
theorem Ap.same {w w' : World} {bi n : Nat} {h : Nat → W} (hA : Ap w bi n h) (hf : Fr (fun _ => False) w w') : Ap w' bi n h := ⟨hA.done.same hf, let ⟨z, hz⟩ := hA.rest; ⟨z, hz.same hf⟩, hA.nf.fr hf⟩

theorem inR_108 {bi n m : Nat} (hm : n + m ≤ 108) {w w' : World} (h : Fr (inR bi (0 + n) m) w w') : Fr (inR bi 0 108) w w' := h.mono fun _ hp => hp.mono (by omega) (by omega)
theorem Dg.off {w w' : World} {b bi o n : Nat} {S : DS} (h : Dg w b S) (hf : Fr (inR bi o n) w w') (d : bi ≠ b) : Dg w' b S := h.far hf fun _ hm => by
  obtain ⟨j, _, e⟩ := hm
  simp only [MemPlace.cell.injEq] at e
  exact d e.1.symm

/-! ### 3. AppendBinary, MarshalBinary -/
set_option maxRecDepth 100000 in
set_option maxHeartbeats 2000000 in
theorem c82 {b bi : Nat} {w : World} {S : DS} {z : Nat → B8} (hS : Dg w b S) (hnx : S.nx = 0) (hln : S.ln = 64) (hb : By w bi 0 108 z) (hn : Nf w bi 0 108) (d : bi ≠ b) :
    Calls Try.prog 82 #[.pointer (some ⟨b, 0, none⟩), .slice (some ⟨bi, 0, none⟩) 0 108] w fun e w' => e = .returned (.tuple #[.slice (some ⟨bi, 0, none⟩) 108 108, .nilIface]) ∧ By w' bi 0 108 (msB S.h) ∧ Fr (inR bi 0 108) w w' := by
  have qz := hS.z
  have HA := hidE (Ap.start (h := S.h) hb hn)
  obtain ⟨z0, hz0⟩ := HA.out.room (m := 4) (by decide)
  have HZ0 := hidE hz0
  have HSS := hidE hS
  have HNX := hidE hnx
  have HLN := hidE hln
  clear hS hnx hln hb hn hz0
  go_enter Try.func82, Try.ntmps82
  go_wp2_with (refine wpList_append_mag rfl (.tmp 12) (.const (.string { data := #[115, 104, 97, 3] })) rfl rfl rfl HZ0.out (HA.out.free (m := 4) (by decide)) (by decide) ?_; intro w0 h1 f1; have HA0 : Hid (Ap w0 bi 4 S.h) := HA.out.step (by decide) h1 f1 (fun k hk => (msB_mag S.h (k := 0 + k) (by omega)).symm ▸ (congrArg mag (Nat.zero_add k).symm)); have HS0 : Hid (Dg w0 b S) := HSS.out.off f1 d; have HF0 : Hid (Fr (inR bi 0 108) w w0) := inR_108 (by decide) f1; clear h1 f1; have q0 : w0.cell? ⟨b, 0, none⟩ = some (.int .u32 ((S.h 0).toNat : Int)) := HS0.out.h.2 0 (by decide))
  obtain ⟨z1, hz1⟩ := HA0.out.room (m := 4) (by decide)
  have HC0 := hidE (c87 (x := S.h 0) (cap := 108) hz1 (HA0.out.free (m := 4) (by decide)) (by decide))
  clear hz1
  ((with_reducible refine HC0.out.mono ?_); rintro e w1 ⟨rfl, h1, f1⟩)
  have HA1 : Hid (Ap w1 bi 8 S.h) := hidE (HA0.out.step (by decide) h1 f1 fun k hk => (msB_word S.h (i := 0) (by decide) hk).symm)
  have HS1 : Hid (Dg w1 b S) := hidE (HS0.out.off f1 d)
  have HF1 : Hid (Fr (inR bi 0 108) w w1) := hidE (HF0.out.trans (inR_108 (by decide) f1))
  clear h1 f1 HC0 HA0 HS0 HF0
  have q1 := HS1.out.h.2 1 (by decide)
  rw [Nat.zero_add] at q1
  go_wp2_with fail
  obtain ⟨z2, hz2⟩ := HA1.out.room (m := 4) (by decide)
  have HC1 := hidE (c87 (x := S.h 1) (cap := 108) hz2 (HA1.out.free (m := 4) (by decide)) (by decide))
  clear hz2
  ((with_reducible refine HC1.out.mono ?_); rintro e w2 ⟨rfl, h1, f1⟩)
  have HA2 : Hid (Ap w2 bi 12 S.h) := hidE (HA1.out.step (by decide) h1 f1 fun k hk => (msB_word S.h (i := 1) (by decide) hk).symm)
  have HS2 : Hid (Dg w2 b S) := hidE (HS1.out.off f1 d)
  have HF2 : Hid (Fr (inR bi 0 108) w w2) := hidE (HF1.out.trans (inR_108 (by decide) f1))
  clear h1 f1 HC1 HA1 HS1 HF1
  have q2 := HS2.out.h.2 2 (by decide)
  rw [Nat.zero_add] at q2
  go_wp2_with fail
  obtain ⟨z3, hz3⟩ := HA2.out.room (m := 4) (by decide)
  have HC2 := hidE (c87 (x := S.h 2) (cap := 108) hz3 (HA2.out.free (m := 4) (by decide)) (by decide))
  clear hz3
  ((with_reducible refine HC2.out.mono ?_); rintro e w3 ⟨rfl, h1, f1⟩)
  have HA3 : Hid (Ap w3 bi 16 S.h) := hidE (HA2.out.step (by decide) h1 f1 fun k hk => (msB_word S.h (i := 2) (by decide) hk).symm)
  have HS3 : Hid (Dg w3 b S) := hidE (HS2.out.off f1 d)
  have HF3 : Hid (Fr (inR bi 0 108) w w3) := hidE (HF2.out.trans (inR_108 (by decide) f1))
  clear h1 f1 HC2 HA2 HS2 HF2
  have q3 := HS3.out.h.2 3 (by decide)
  rw [Nat.zero_add] at q3
  go_wp2_with fail
  obtain ⟨z4, hz4⟩ := HA3.out.room (m := 4) (by decide)
  have HC3 := hidE (c87 (x := S.h 3) (cap := 108) hz4 (HA3.out.free (m := 4) (by decide)) (by decide))
  clear hz4
  ((with_reducible refine HC3.out.mono ?_); rintro e w4 ⟨rfl, h1, f1⟩)
  have HA4 : Hid (Ap w4 bi 20 S.h) := hidE (HA3.out.step (by decide) h1 f1 fun k hk => (msB_word S.h (i := 3) (by decide) hk).symm)
  have HS4 : Hid (Dg w4 b S) := hidE (HS3.out.off f1 d)
  have HF4 : Hid (Fr (inR bi 0 108) w w4) := hidE (HF3.out.trans (inR_108 (by decide) f1))
  clear h1 f1 HC3 HA3 HS3 HF3
  have q4 := HS4.out.h.2 4 (by decide)
  rw [Nat.zero_add] at q4
  go_wp2_with fail
  obtain ⟨z5, hz5⟩ := HA4.out.room (m := 4) (by decide)
  have HC4 := hidE (c87 (x := S.h 4) (cap := 108) hz5 (HA4.out.free (m := 4) (by decide)) (by decide))
  clear hz5
  ((with_reducible refine HC4.out.mono ?_); rintro e w5 ⟨rfl, h1, f1⟩)
  have HA5 : Hid (Ap w5 bi 24 S.h) := hidE (HA4.out.step (by decide) h1 f1 fun k hk => (msB_word S.h (i := 4) (by decide) hk).symm)
  have HS5 : Hid (Dg w5 b S) := hidE (HS4.out.off f1 d)
  have HF5 : Hid (Fr (inR bi 0 108) w w5) := hidE (HF4.out.trans (inR_108 (by decide) f1))
  clear h1 f1 HC4 HA4 HS4 HF4
  have q5 := HS5.out.h.2 5 (by decide)
  rw [Nat.zero_add] at q5
  go_wp2_with fail
  obtain ⟨z6, hz6⟩ := HA5.out.room (m := 4) (by decide)
  have HC5 := hidE (c87 (x := S.h 5) (cap := 108) hz6 (HA5.out.free (m := 4) (by decide)) (by decide))
  clear hz6
  ((with_reducible refine HC5.out.mono ?_); rintro e w6 ⟨rfl, h1, f1⟩)
  have HA6 : Hid (Ap w6 bi 28 S.h) := hidE (HA5.out.step (by decide) h1 f1 fun k hk => (msB_word S.h (i := 5) (by decide) hk).symm)
  have HS6 : Hid (Dg w6 b S) := hidE (HS5.out.off f1 d)
  have HF6 : Hid (Fr (inR bi 0 108) w w6) := hidE (HF5.out.trans (inR_108 (by decide) f1))
  clear h1 f1 HC5 HA5 HS5 HF5
  have q6 := HS6.out.h.2 6 (by decide)
  rw [Nat.zero_add] at q6
  go_wp2_with fail
  obtain ⟨z7, hz7⟩ := HA6.out.room (m := 4) (by decide)
  have HC6 := hidE (c87 (x := S.h 6) (cap := 108) hz7 (HA6.out.free (m := 4) (by decide)) (by decide))
  clear hz7
  ((with_reducible refine HC6.out.mono ?_); rintro e w7 ⟨rfl, h1, f1⟩)
  have HA7 : Hid (Ap w7 bi 32 S.h) := hidE (HA6.out.step (by decide) h1 f1 fun k hk => (msB_word S.h (i := 6) (by decide) hk).symm)
  have HS7 : Hid (Dg w7 b S) := hidE (HS6.out.off f1 d)
  have HF7 : Hid (Fr (inR bi 0 108) w w7) := hidE (HF6.out.trans (inR_108 (by decide) f1))
  clear h1 f1 HC6 HA6 HS6 HF6
  have q7 := HS7.out.h.2 7 (by decide)
  rw [Nat.zero_add] at q7
  go_wp2_with fail
  obtain ⟨z8, hz8⟩ := HA7.out.room (m := 4) (by decide)
  have HC7 := hidE (c87 (x := S.h 7) (cap := 108) hz8 (HA7.out.free (m := 4) (by decide)) (by decide))
  clear hz8
  ((with_reducible refine HC7.out.mono ?_); rintro e w8 ⟨rfl, h1, f1⟩)
  have HA8 : Hid (Ap w8 bi 36 S.h) := hidE (HA7.out.step (by decide) h1 f1 fun k hk => (msB_word S.h (i := 7) (by decide) hk).symm)
  have HS8 : Hid (Dg w8 b S) := hidE (HS7.out.off f1 d)
  have HF8 : Hid (Fr (inR bi 0 108) w w8) := hidE (HF7.out.trans (inR_108 (by decide) f1))
  clear h1 f1 HC7 HA7 HS7 HF7
  have q8 : w8.cell? ⟨b, 72, none⟩ = some (.int .i64 0) := by have := HS8.out.nx; rw [HNX.out] at this; exact this
  have q9 : w8.cell? ⟨b, 73, none⟩ = some (.int .u64 64) := by have := HS8.out.ln; rw [HLN.out] at this; exact this
  go_wp2_with fail
  go_region_law (refine step_append_none rfl (.tmp 70) (.tmp 78) rfl rfl rfl (by decide) ?_; rintro w9 rfl)
  have HA9 : Hid (Ap w8.drew bi 36 S.h) := hidE (HA8.out.same (Fr.drew _ _))
  have HS9 : Hid (Dg w8.drew b S) := hidE (HS8.out.same (Fr.drew _ _))
  have HF9 : Hid (Fr (inR bi 0 108) w w8.drew) := hidE (HF8.out.trans (Fr.drew _ _))
  clear HA8 HS8 HF8
  obtain ⟨z9, hz9⟩ := HA9.out.room (m := 64) (by decide)
  have HZ9 := hidE hz9
  clear hz9
  go_wp2_with (refine wpList_append_zeros rfl (.tmp 80) (.tmp 85) rfl rfl (m := 64) rfl HZ9.out (HA9.out.free (m := 64) (by decide)) (by decide) (by decide) (by decide) ?_; intro w10 h1 f1; have HA10 : Hid (Ap w10 bi 100 S.h) := (HA9.out.step (by decide) h1 f1 fun k hk => (msB_zero S.h hk).symm); have HS10 : Hid (Dg w10 b S) := HS9.out.off f1 d; have HF10 : Hid (Fr (inR bi 0 108) w w10) := HF9.out.trans (inR_108 (by decide) f1); clear h1 f1; have q10 : w10.cell? ⟨b, 73, none⟩ = some (.int .u64 64) := (by have h3 := HS10.out.ln; rw [HLN.out] at h3; exact h3))
  obtain ⟨z10, hz10⟩ := HA10.out.room (m := 8) (by decide)
  have HC8 := hidE (c88 (cap := 108) hz10 (HA10.out.free (m := 8) (by decide)) (by decide))
  clear hz10
  ((with_reducible refine HC8.out.mono ?_); rintro e w11 ⟨rfl, h1, f1⟩)
  have HA11 : Hid (Ap w11 bi 108 S.h) := hidE (HA10.out.step (by decide) h1 f1 fun k _ => (msB_len S.h k).symm)
  have HF11 : Hid (Fr (inR bi 0 108) w w11) := hidE (HF10.out.trans (inR_108 (by decide) f1))
  clear h1 f1 HC8
  go_wp2_with fail
  go_ret2
  exact ⟨rfl, HA11.out.done, HF11.out⟩

theorem make108 (w : World) : (Instr.makeSlice 29 (.int .i64 0) (.int .i64 108)).run Try.prog w = .ok (.slice (some ⟨w.heap.size, 0, none⟩) 0 108) (w.alloc (zObjB 108)) := by
  obtain ⟨i0, hi, hz0, hz1, hz2⟩ := info_parts info5
  have := run_make (P := Try.prog) w 29 5 i0 _ Try.underlying29 hi hz0 .i64 .i64 0 108 (by omega) (by omega) (by rw [hz2]; omega) (by omega)
  rw [hz1] at this
  simpa [zObjB, Value.cells] using this

set_option maxRecDepth 100000 in
set_option maxHeartbeats 1000000 in
theorem c77 {b : Nat} {w : World} {S : DS} (hS : Dg w b S) (hnx : S.nx = 0) (hln : S.ln = 64) :
    Calls Try.prog 77 #[.pointer (some ⟨b, 0, none⟩)] w fun e w' => ∃ g, e = .returned (.tuple #[.slice (some ⟨g, 0, none⟩) 108 108, .nilIface]) ∧ w.heap.size ≤ g ∧ By w' g 0 108 (msB S.h) ∧ Fr (fun _ => False) w w' := by
  have hlt := hS.h.1
  have mk := make108
  have HS := hidE hS
  have HNX := hidE hnx
  have HLN := hidE hln
  clear hS hnx hln
  go_enter Try.func77, Try.ntmps77
  go_wp2_with fail
  obtain ⟨z1, z2, z3⟩ := zObjB_by w 108
  have HC := hidE (c82 (HS.out.same z3) HNX.out HLN.out z1 z2 (by omega))
  have HZ := hidE z3
  clear z1 z2 z3
  ((with_reducible refine HC.out.mono ?_); rintro e w2 ⟨rfl, h2, f2⟩)
  go_wp2_with fail
  go_ret2
  exact ⟨_, rfl, Nat.le_refl _, h2, (HZ.out.trans' f2).strong fun p hp hm => by
    rcases hm with hm | ⟨j, _, rfl⟩
    · exact hm
    · exact absurd hp (Nat.lt_irrefl _)⟩
end CI
end Go.Proofs.Yteooohmlmefbnaa
