/-
  Contracts over memory: blockMix, blockCopy, blockXOR, integer, le32, putLE32 (r from 1 to 8).
  Conditions: none.
-/
import Derived.Test.YteooohmlmefbnaaLb
import Derived.Test.YteooohmlmefbnaaLr
namespace Go.Proofs.Yteooohmlmefbnaa
namespace CI
open Go

theorem lt3 {x : SV} {k : Nat} (h : match x with
  | .s (.ptr i _) => i < k
  | .s (.slc i _ _ _) => i < k
  | .s (.int _) => True
  | .s (.w32 _) => True
  | _ => False) : x.lt k := by
  unfold SV.lt SW.lt
  split at h <;> first | exact h | trivial | exact h.elim

theorem c31 {n li lo ei eo : Nat} {k : Int} {t f g h : Nat → W} (hrun : out3 (g31 [.s (.ptr 0 0), .s (.slc 1 0 li ei), .s (.slc 2 0 lo eo), .s (.int k)] (M31 n t f g) 3) = some (wn n h))
    {w : World} {b0 o0 b1 o1 b2 o2 : Nat} (ht : Wd w b0 o0 16 t) (htf : Nf w b0 o0 16) (hx : Wd w b1 o1 n f) (hy : Wd w b2 o2 n g) (hyf : Nf w b2 o2 n) (d01 : Dis b0 o0 16 b1 o1 n) (d02 : Dis b0 o0 16 b2 o2 n) (d12 : Dis b1 o1 n b2 o2 n) :
    Calls Try.prog 31 #[.pointer (some ⟨b0, o0, none⟩), .slice (some ⟨b1, o1, none⟩) li (li + ei), .slice (some ⟨b2, o2, none⟩) lo (lo + eo), .int .i64 k] w fun e w' =>
      e = .returned (.tuple #[]) ∧ Wd w' b2 o2 n h ∧ (∃ t', Wd w' b0 o0 16 t') ∧ Fr (fun p => inR b0 o0 16 p ∨ inR b2 o2 n p) w w' := by
  unfold out3 at hrun
  split at hrun
  · rename_i _ t1 r1 l hg
    obtain ⟨t', rfl, rfl⟩ := get16_spec hrun
    have hrel := rel3 (ht.regw htf) hx.reg (hy.regw hyf) (by simpa only [wn_length] using d01) (by simpa only [wn_length] using d02) (by simpa only [wn_length] using d12)
    refine (calls_at ok31 hg (fun x hx => lt3 ?_) hrel).mono fun e w' ⟨ρ', q1, q2, q3, q4, q5⟩ => ?_
    · simp only [List.mem_cons, List.not_mem_nil, or_false] at hx
      rcases hx with rfl | rfl | rfl | rfl <;> simp
    · refine ⟨q3, q4.wd (id := 2) (b := true) rfl (q1 2 (by omega)), ⟨t', q4.wd (id := 0) (b := true) rfl (q1 0 (by omega))⟩, q5.strong fun p hp hm => ?_⟩
      rcases may3 hm hp with ⟨_, h⟩ | ⟨h, _⟩ | ⟨_, h⟩
      · exact .inl (by simpa only [w16_length] using h)
      · cases h
      · exact .inr (by simpa only [wn_length] using h)
  · cases hrun

/-- blockMix, from a slice that is longer than what is read of it, to one that just fits. -/
theorem c31x {r n li : Nat} (h1 : 1 ≤ r) (h2 : r ≤ 8) (hn : n = 32 * r) (hli : li = 64 * r) {ei eo : Nat} {t f g : Nat → W}
    {w : World} {b0 o0 b1 o1 b2 o2 : Nat} (ht : Wd w b0 o0 16 t) (htf : Nf w b0 o0 16) (hx : Wd w b1 o1 n f) (hy : Wd w b2 o2 n g) (hyf : Nf w b2 o2 n) (d01 : Dis b0 o0 16 b1 o1 n) (d02 : Dis b0 o0 16 b2 o2 n) (d12 : Dis b1 o1 n b2 o2 n) :
    Calls Try.prog 31 #[.pointer (some ⟨b0, o0, none⟩), .slice (some ⟨b1, o1, none⟩) li (li + ei), .slice (some ⟨b2, o2, none⟩) n (n + eo), .int .i64 (r : Int)] w fun e w' =>
      e = .returned (.tuple #[]) ∧ Wd w' b2 o2 n (bm r f) ∧ (∃ t', Wd w' b0 o0 16 t') ∧ Fr (fun p => inR b0 o0 16 p ∨ inR b2 o2 n p) w w' := by
  subst hn hli
  exact c31 ((run31x h1 h2 t f g ei eo).trans (bmix_bm h1 f)) ht htf hx hy hyf d01 d02 d12
theorem c31y {r n lo : Nat} (h1 : 1 ≤ r) (h2 : r ≤ 8) (hn : n = 32 * r) (hlo : lo = 64 * r) {ei eo : Nat} {t f g : Nat → W}
    {w : World} {b0 o0 b1 o1 b2 o2 : Nat} (ht : Wd w b0 o0 16 t) (htf : Nf w b0 o0 16) (hx : Wd w b1 o1 n f) (hy : Wd w b2 o2 n g) (hyf : Nf w b2 o2 n) (d01 : Dis b0 o0 16 b1 o1 n) (d02 : Dis b0 o0 16 b2 o2 n) (d12 : Dis b1 o1 n b2 o2 n) :
    Calls Try.prog 31 #[.pointer (some ⟨b0, o0, none⟩), .slice (some ⟨b1, o1, none⟩) n (n + ei), .slice (some ⟨b2, o2, none⟩) lo (lo + eo), .int .i64 (r : Int)] w fun e w' =>
      e = .returned (.tuple #[]) ∧ Wd w' b2 o2 n (bm r f) ∧ (∃ t', Wd w' b0 o0 16 t') ∧ Fr (fun p => inR b0 o0 16 p ∨ inR b2 o2 n p) w w' := by
  subst hn hlo
  exact c31 ((run31y h1 h2 t f g ei eo).trans (bmix_bm h1 f)) ht htf hx hy hyf d01 d02 d12

theorem c39 {r n a b e e2 : Nat} (h1 : 1 ≤ r) (h2 : r ≤ 8) (hn : n = 32 * r) {f g : Nat → W} {w : World} {b0 o0 b1 o1 : Nat} (hd : Wd w b0 o0 n f) (hdf : Nf w b0 o0 n) (hs : Wd w b1 o1 n g) (d : Dis b0 o0 n b1 o1 n) :
    Calls Try.prog 39 #[.slice (some ⟨b0, o0, none⟩) (a + n) (a + n + e), .slice (some ⟨b1, o1, none⟩) (b + n) (b + n + e2), .int .i64 (n : Int)] w fun ed w' =>
      ed = .returned (.tuple #[]) ∧ Wd w' b0 o0 n g ∧ Fr (inR b0 o0 n) w w' := by
  subst hn
  refine (calls_at ok39 (run39 h1 h2 f g a b e e2) (fun x hx => lt3 ?_) (rel2 (hd.regw hdf) hs.reg (by simpa only [wn_length] using d) (0, 0))).mono fun ed w' ⟨ρ', q1, q2, q3, q4, q5⟩ => ?_
  · simp only [List.mem_cons, List.not_mem_nil, or_false] at hx
    rcases hx with rfl | rfl | rfl <;> simp
  · refine ⟨q3, q4.wd (id := 0) (b := true) rfl (q1 0 (by omega)), q5.strong fun p hp hm => ?_⟩
    rcases may2 hm hp with ⟨_, h⟩ | ⟨h, _⟩
    · simpa only [wn_length] using h
    · cases h

theorem c42 {r n a b e e2 : Nat} (h1 : 1 ≤ r) (h2 : r ≤ 8) (hn : n = 32 * r) {f g : Nat → W} {w : World} {b0 o0 b1 o1 : Nat} (hd : Wd w b0 o0 n f) (hdf : Nf w b0 o0 n) (hs : Wd w b1 o1 n g) (d : Dis b0 o0 n b1 o1 n) :
    Calls Try.prog 42 #[.slice (some ⟨b0, o0, none⟩) (a + n) (a + n + e), .slice (some ⟨b1, o1, none⟩) (b + n) (b + n + e2), .int .i64 (n : Int)] w fun ed w' =>
      ed = .returned (.tuple #[]) ∧ Wd w' b0 o0 n (fun k => f k ^^^ g k) ∧ Fr (inR b0 o0 n) w w' := by
  subst hn
  refine (calls_at ok42 (run42 h1 h2 f g a b e e2) (fun x hx => lt3 ?_) (rel2 (hd.regw hdf) hs.reg (by simpa only [wn_length] using d) (0, 0))).mono fun ed w' ⟨ρ', q1, q2, q3, q4, q5⟩ => ?_
  · simp only [List.mem_cons, List.not_mem_nil, or_false] at hx
    rcases hx with rfl | rfl | rfl <;> simp
  · refine ⟨q3, q4.wd (id := 0) (b := true) rfl (q1 0 (by omega)), q5.strong fun p hp hm => ?_⟩
    rcases may2 hm hp with ⟨_, h⟩ | ⟨h, _⟩
    · simpa only [wn_length] using h
    · cases h

theorem c41 {r n a e : Nat} (h1 : 1 ≤ r) (h2 : r ≤ 8) (hn : n = 32 * r) {f : Nat → W} {w : World} {b0 o0 : Nat} (hd : Wd w b0 o0 n f) :
    Calls Try.prog 41 #[.slice (some ⟨b0, o0, none⟩) (a + n) (a + n + e), .int .i64 (r : Int)] w fun ed w' =>
      ed = .returned (.int .u64 ((integ (f (n - 16)) (f (n - 15))).toNat : Int)) ∧ Fr (fun _ => False) w w' := by
  subst hn
  refine (calls_at ok41 (run41 h1 h2 f a e) (fun x hx => lt3 ?_) (rel1 hd.reg (0, 0) (0, 0))).mono fun ed w' ⟨ρ', q1, q2, q3, q4, q5⟩ => ?_
  · simp only [List.mem_cons, List.not_mem_nil, or_false] at hx
    rcases hx with rfl | rfl <;> simp
  · exact ⟨q3, q5.strong fun p hp hm => by have := (may1 hm hp).1; cases this⟩

theorem c40 {a e : Nat} {f : Nat → B8} {w : World} {b0 o0 : Nat} (hd : By w b0 o0 4 f) :
    Calls Try.prog 40 #[.slice (some ⟨b0, o0, none⟩) (a + 4) (a + 4 + e)] w fun ed w' =>
      ed = .returned (.int .u32 ((le4 (f 0) (f 1) (f 2) (f 3)).toNat : Int)) ∧ Fr (fun _ => False) w w' := by
  refine (calls_at ok40 (run40 (f 0) (f 1) (f 2) (f 3) a e) (fun x hx => lt3 ?_) (rel1 hd.reg (0, 0) (0, 0))).mono fun ed w' ⟨ρ', q1, q2, q3, q4, q5⟩ => ?_
  · simp only [List.mem_cons, List.not_mem_nil, or_false] at hx
    subst hx; simp
  · exact ⟨q3, q5.strong fun p hp hm => by have := (may1 hm hp).1; cases this⟩

theorem c43 {a e : Nat} {f : Nat → B8} {v : W} {w : World} {b0 o0 : Nat} (hd : By w b0 o0 4 f) (hf : Nf w b0 o0 4) :
    Calls Try.prog 43 #[.slice (some ⟨b0, o0, none⟩) (a + 4) (a + 4 + e), .int .u32 (v.toNat : Int)] w fun ed w' =>
      ed = .returned (.tuple #[]) ∧ By w' b0 o0 4 (bt v) ∧ Fr (inR b0 o0 4) w w' := by
  refine (calls_at ok43 (run43 (f 0) (f 1) (f 2) (f 3) v a e) (fun x hx => lt3 ?_) (rel1 (hd.regw hf) (0, 0) (0, 0))).mono fun ed w' ⟨ρ', q1, q2, q3, q4, q5⟩ => ?_
  · simp only [List.mem_cons, List.not_mem_nil, or_false] at hx
    rcases hx with rfl | rfl <;> simp
  · exact ⟨q3, q4.by_ (id := 0) (n := 4) (f := bt v) (b := true) rfl (q1 0 (by omega)), q5.strong fun p hp hm => (may1 hm hp).2⟩
end CI
end Go.Proofs.Yteooohmlmefbnaa
