/-
  The contract of SHA-256's 'UnmarshalBinary' of what 'MarshalBinary' laid.
  Conditions: none.
-/
import Derived.Test.YteooohmlmefbnaaNl
import Derived.Test.YteooohmlmefbnaaNj
import Derived.Test.YteooohmlmefbnaaMc
namespace Go.Proofs.Yteooohmlmefbnaa
namespace CI
open Go
open Go.RowKit

/-- i words are in. -/
def inH (S : DS) (h : Nat → W) (i : Nat) : DS := { S with h := fun k => if k < i then h k else S.h k }
theorem Dg.inH0 {w : World} {b : Nat} {S : DS} (hS : Dg w b S) (h : Nat → W) : Dg w b (inH S h 0) := hS.congrH fun k _ => by rw [if_neg (by omega)]
theorem Dg.inHs {w : World} {b i : Nat} {S : DS} {h : Nat → W} (hS : Dg w b (inH S h i)) (hi : i < 8) : Dg (w.setCell ⟨b, i, none⟩ (.int .u32 ((h i).toNat : Int))) b (inH S h (i + 1)) :=
  (hS.setHi hi (h i)).congrH fun k _ => by
    show (if k = i then h i else if k < i then h k else S.h k) = if k < i + 1 then h k else S.h k
    by_cases e : k = i
    · subst e; rw [if_pos rfl, if_pos (by omega)]
    · rw [if_neg e]
      by_cases hk : k < i
      · rw [if_pos hk, if_pos (by omega)]
      · rw [if_neg hk, if_neg (by omega)]
theorem word_at {w : World} {bi : Nat} {h : Nat → W} (hb : By w bi 0 108 (msB h)) {i : Nat} (hi : i < 8) {o : Nat} (ho : o = 4 + 4 * i) : By w bi o 4 (beB (h i).toNat 4) := by
  subst ho
  have := hb.sub (p := 4 + 4 * i) (n := 4) (by omega)
  rw [Nat.zero_add] at this
  exact this.congr fun k hk => msB_word h hi hk
theorem ofB {b k : Nat} {w : World} (v : Value) : Fr (fun p => p.block = b) w (w.setCell ⟨b, k, none⟩ v) := (Fr.set1 (o := k) v).mono fun _ hp => by obtain ⟨_, _, rfl⟩ := hp; rfl
theorem By.ofB {w w' : World} {bi b o n : Nat} {f : Nat → B8} (h : By w bi o n f) (hf : Fr (fun p => p.block = b) w w') (d : bi ≠ b) : By w' bi o n f := h.fr hf fun _ _ e => d e
theorem Dg.congrX {w : World} {b : Nat} {S : DS} (h : Dg w b S) {X : Nat → B8} (e : ∀ k, k < 64 → S.x k = X k) : Dg w b { S with x := X } := ⟨h.h, h.x.congr e, h.nx, h.ln, h.z, h.nf⟩
set_option maxRecDepth 100000 in
theorem mag_str {w : World} {bi : Nat} {h : Nat → W} (hb : By w bi 0 108 (msB h)) : (convert 29 9 (.slice (some ⟨bi, 0, none⟩) 4 108)).run Try.prog w = .ok (.string { data := #[115, 104, 97, 3] }) w := by
  have h1 : By w bi 0 4 mag := (hb.sub (p := 0) (n := 4) (by omega)).congr fun k hk => by rw [msB_mag h (by omega)]; rw [Nat.zero_add]
  have h2 := h1.str 108
  have e : strOfNums (numsB 4 mag) = { data := #[115, 104, 97, 3] } := by kernel_rfl
  rwa [e] at h2

set_option maxRecDepth 100000 in
set_option maxHeartbeats 4000000 in
theorem c80 {b bi : Nat} {w : World} {S : DS} {h : Nat → W} (hS : Dg w b S) (hb : By w bi 0 108 (msB h)) (d : bi ≠ b) :
    Calls Try.prog 80 #[.pointer (some ⟨b, 0, none⟩), .slice (some ⟨bi, 0, none⟩) 108 108] w fun e w' => e = .returned .nilIface ∧ Dg w' b { h := h, x := fun _ => 0#8, nx := 0, ln := 64 } ∧ Fr (fun p => p.block = b) w w' := by
  have qz := hS.z
  have qs := mag_str hb
  have HS0 := hidE (hS.inH0 h)
  have HB0 := hidE hb
  have HF0 := hidE (Fr.refl (fun p => p.block = b) w)
  clear hS hb
  go_enter Try.func80, Try.ntmps80
  go_wp2_with fail
  go_region_with (go_at_call 84; ((with_reducible refine (c84 (x := h 0) (word_at (HB0.out.same (Fr.drew _ _)) (i := 0) (by decide) (o := 4) (by decide)) (by decide) (by decide) (by decide)).mono ?_); rintro e w1a ⟨rfl, f1⟩; have HG1 := hidE ((Fr.drew (fun _ => False) w).trans f1); clear f1; have q1 : w1a.cell? ⟨b, 0, none⟩ = some (.int .u32 (((inH S h 0).h 0).toNat : Int)) := (by have h3 := (HS0.out.same HG1.out).h.2 0 (by decide); rwa [Nat.zero_add] at h3); have q2 := (HS0.out.same HG1.out).at_ (k := 0) (by decide)))
  obtain ⟨w1, hw⟩ : ∃ W, W = w1a.setCell ⟨b, 0, none⟩ (.int .u32 ((h 0).toNat : Int)) := ⟨_, rfl⟩
  rw [← hw]
  have HS1 : Hid (Dg w1 b (inH S h 1)) := hidE (by rw [hw]; exact (HS0.out.same HG1.out).inHs (by decide))
  have HB1 : Hid (By w1 bi 0 108 (msB h)) := hidE (by rw [hw]; exact (HB0.out.same HG1.out).ofB (ofB _) d)
  have HF1 : Hid (Fr (fun p => p.block = b) w w1) := hidE (by rw [hw]; exact (HF0.out.trans (HG1.out.mono fun _ f => f.elim)).trans (ofB _))
  clear q1 q2 hw HS0 HB0 HF0 HG1
  go_wp2_with fail
  go_region_with (go_at_call 84; ((with_reducible refine (c84 (x := h 1) (word_at (HB1.out.same (Fr.drew _ _)) (i := 1) (by decide) (o := 8) (by decide)) (by decide) (by decide) (by decide)).mono ?_); rintro e w2a ⟨rfl, f1⟩; have HG2 := hidE ((Fr.drew (fun _ => False) w1).trans f1); clear f1; have q1 : w2a.cell? ⟨b, 1, none⟩ = some (.int .u32 (((inH S h 1).h 1).toNat : Int)) := (by have h3 := (HS1.out.same HG2.out).h.2 1 (by decide); rwa [Nat.zero_add] at h3); have q2 := (HS1.out.same HG2.out).at_ (k := 1) (by decide)))
  obtain ⟨w2, hw⟩ : ∃ W, W = w2a.setCell ⟨b, 1, none⟩ (.int .u32 ((h 1).toNat : Int)) := ⟨_, rfl⟩
  rw [← hw]
  have HS2 : Hid (Dg w2 b (inH S h 2)) := hidE (by rw [hw]; exact (HS1.out.same HG2.out).inHs (by decide))
  have HB2 : Hid (By w2 bi 0 108 (msB h)) := hidE (by rw [hw]; exact (HB1.out.same HG2.out).ofB (ofB _) d)
  have HF2 : Hid (Fr (fun p => p.block = b) w w2) := hidE (by rw [hw]; exact (HF1.out.trans (HG2.out.mono fun _ f => f.elim)).trans (ofB _))
  clear q1 q2 hw HS1 HB1 HF1 HG2
  go_wp2_with fail
  go_region_with (go_at_call 84; ((with_reducible refine (c84 (x := h 2) (word_at (HB2.out.same (Fr.drew _ _)) (i := 2) (by decide) (o := 12) (by decide)) (by decide) (by decide) (by decide)).mono ?_); rintro e w3a ⟨rfl, f1⟩; have HG3 := hidE ((Fr.drew (fun _ => False) w2).trans f1); clear f1; have q1 : w3a.cell? ⟨b, 2, none⟩ = some (.int .u32 (((inH S h 2).h 2).toNat : Int)) := (by have h3 := (HS2.out.same HG3.out).h.2 2 (by decide); rwa [Nat.zero_add] at h3); have q2 := (HS2.out.same HG3.out).at_ (k := 2) (by decide)))
  obtain ⟨w3, hw⟩ : ∃ W, W = w3a.setCell ⟨b, 2, none⟩ (.int .u32 ((h 2).toNat : Int)) := ⟨_, rfl⟩
  rw [← hw]
  have HS3 : Hid (Dg w3 b (inH S h 3)) := hidE (by rw [hw]; exact (HS2.out.same HG3.out).inHs (by decide))
  have HB3 : Hid (By w3 bi 0 108 (msB h)) := hidE (by rw [hw]; exact (HB2.out.same HG3.out).ofB (ofB _) d)
  have HF3 : Hid (Fr (fun p => p.block = b) w w3) := hidE (by rw [hw]; exact (HF2.out.trans (HG3.out.mono fun _ f => f.elim)).trans (ofB _))
  clear q1 q2 hw HS2 HB2 HF2 HG3
  go_wp2_with fail
  go_region_with (go_at_call 84; ((with_reducible refine (c84 (x := h 3) (word_at (HB3.out.same (Fr.drew _ _)) (i := 3) (by decide) (o := 16) (by decide)) (by decide) (by decide) (by decide)).mono ?_); rintro e w4a ⟨rfl, f1⟩; have HG4 := hidE ((Fr.drew (fun _ => False) w3).trans f1); clear f1; have q1 : w4a.cell? ⟨b, 3, none⟩ = some (.int .u32 (((inH S h 3).h 3).toNat : Int)) := (by have h3 := (HS3.out.same HG4.out).h.2 3 (by decide); rwa [Nat.zero_add] at h3); have q2 := (HS3.out.same HG4.out).at_ (k := 3) (by decide)))
  obtain ⟨w4, hw⟩ : ∃ W, W = w4a.setCell ⟨b, 3, none⟩ (.int .u32 ((h 3).toNat : Int)) := ⟨_, rfl⟩
  rw [← hw]
  have HS4 : Hid (Dg w4 b (inH S h 4)) := hidE (by rw [hw]; exact (HS3.out.same HG4.out).inHs (by decide))
  have HB4 : Hid (By w4 bi 0 108 (msB h)) := hidE (by rw [hw]; exact (HB3.out.same HG4.out).ofB (ofB _) d)
  have HF4 : Hid (Fr (fun p => p.block = b) w w4) := hidE (by rw [hw]; exact (HF3.out.trans (HG4.out.mono fun _ f => f.elim)).trans (ofB _))
  clear q1 q2 hw HS3 HB3 HF3 HG4
  go_wp2_with fail
  go_region_with (go_at_call 84; ((with_reducible refine (c84 (x := h 4) (word_at (HB4.out.same (Fr.drew _ _)) (i := 4) (by decide) (o := 20) (by decide)) (by decide) (by decide) (by decide)).mono ?_); rintro e w5a ⟨rfl, f1⟩; have HG5 := hidE ((Fr.drew (fun _ => False) w4).trans f1); clear f1; have q1 : w5a.cell? ⟨b, 4, none⟩ = some (.int .u32 (((inH S h 4).h 4).toNat : Int)) := (by have h3 := (HS4.out.same HG5.out).h.2 4 (by decide); rwa [Nat.zero_add] at h3); have q2 := (HS4.out.same HG5.out).at_ (k := 4) (by decide)))
  obtain ⟨w5, hw⟩ : ∃ W, W = w5a.setCell ⟨b, 4, none⟩ (.int .u32 ((h 4).toNat : Int)) := ⟨_, rfl⟩
  rw [← hw]
  have HS5 : Hid (Dg w5 b (inH S h 5)) := hidE (by rw [hw]; exact (HS4.out.same HG5.out).inHs (by decide))
  have HB5 : Hid (By w5 bi 0 108 (msB h)) := hidE (by rw [hw]; exact (HB4.out.same HG5.out).ofB (ofB _) d)
  have HF5 : Hid (Fr (fun p => p.block = b) w w5) := hidE (by rw [hw]; exact (HF4.out.trans (HG5.out.mono fun _ f => f.elim)).trans (ofB _))
  clear q1 q2 hw HS4 HB4 HF4 HG5
  go_wp2_with fail
  go_region_with (go_at_call 84; ((with_reducible refine (c84 (x := h 5) (word_at (HB5.out.same (Fr.drew _ _)) (i := 5) (by decide) (o := 24) (by decide)) (by decide) (by decide) (by decide)).mono ?_); rintro e w6a ⟨rfl, f1⟩; have HG6 := hidE ((Fr.drew (fun _ => False) w5).trans f1); clear f1; have q1 : w6a.cell? ⟨b, 5, none⟩ = some (.int .u32 (((inH S h 5).h 5).toNat : Int)) := (by have h3 := (HS5.out.same HG6.out).h.2 5 (by decide); rwa [Nat.zero_add] at h3); have q2 := (HS5.out.same HG6.out).at_ (k := 5) (by decide)))
  obtain ⟨w6, hw⟩ : ∃ W, W = w6a.setCell ⟨b, 5, none⟩ (.int .u32 ((h 5).toNat : Int)) := ⟨_, rfl⟩
  rw [← hw]
  have HS6 : Hid (Dg w6 b (inH S h 6)) := hidE (by rw [hw]; exact (HS5.out.same HG6.out).inHs (by decide))
  have HB6 : Hid (By w6 bi 0 108 (msB h)) := hidE (by rw [hw]; exact (HB5.out.same HG6.out).ofB (ofB _) d)
  have HF6 : Hid (Fr (fun p => p.block = b) w w6) := hidE (by rw [hw]; exact (HF5.out.trans (HG6.out.mono fun _ f => f.elim)).trans (ofB _))
  clear q1 q2 hw HS5 HB5 HF5 HG6
  go_wp2_with fail
  go_region_with (go_at_call 84; ((with_reducible refine (c84 (x := h 6) (word_at (HB6.out.same (Fr.drew _ _)) (i := 6) (by decide) (o := 28) (by decide)) (by decide) (by decide) (by decide)).mono ?_); rintro e w7a ⟨rfl, f1⟩; have HG7 := hidE ((Fr.drew (fun _ => False) w6).trans f1); clear f1; have q1 : w7a.cell? ⟨b, 6, none⟩ = some (.int .u32 (((inH S h 6).h 6).toNat : Int)) := (by have h3 := (HS6.out.same HG7.out).h.2 6 (by decide); rwa [Nat.zero_add] at h3); have q2 := (HS6.out.same HG7.out).at_ (k := 6) (by decide)))
  obtain ⟨w7, hw⟩ : ∃ W, W = w7a.setCell ⟨b, 6, none⟩ (.int .u32 ((h 6).toNat : Int)) := ⟨_, rfl⟩
  rw [← hw]
  have HS7 : Hid (Dg w7 b (inH S h 7)) := hidE (by rw [hw]; exact (HS6.out.same HG7.out).inHs (by decide))
  have HB7 : Hid (By w7 bi 0 108 (msB h)) := hidE (by rw [hw]; exact (HB6.out.same HG7.out).ofB (ofB _) d)
  have HF7 : Hid (Fr (fun p => p.block = b) w w7) := hidE (by rw [hw]; exact (HF6.out.trans (HG7.out.mono fun _ f => f.elim)).trans (ofB _))
  clear q1 q2 hw HS6 HB6 HF6 HG7
  go_wp2_with fail
  go_region_with (go_at_call 84; ((with_reducible refine (c84 (x := h 7) (word_at (HB7.out.same (Fr.drew _ _)) (i := 7) (by decide) (o := 32) (by decide)) (by decide) (by decide) (by decide)).mono ?_); rintro e w8a ⟨rfl, f1⟩; have HG8 := hidE ((Fr.drew (fun _ => False) w7).trans f1); clear f1; have q1 : w8a.cell? ⟨b, 7, none⟩ = some (.int .u32 (((inH S h 7).h 7).toNat : Int)) := (by have h3 := (HS7.out.same HG8.out).h.2 7 (by decide); rwa [Nat.zero_add] at h3); have q2 := (HS7.out.same HG8.out).at_ (k := 7) (by decide)))
  obtain ⟨w8, hw⟩ : ∃ W, W = w8a.setCell ⟨b, 7, none⟩ (.int .u32 ((h 7).toNat : Int)) := ⟨_, rfl⟩
  rw [← hw]
  have HS8 : Hid (Dg w8 b (inH S h 8)) := hidE (by rw [hw]; exact (HS7.out.same HG8.out).inHs (by decide))
  have HB8 : Hid (By w8 bi 0 108 (msB h)) := hidE (by rw [hw]; exact (HB7.out.same HG8.out).ofB (ofB _) d)
  have HF8 : Hid (Fr (fun p => p.block = b) w w8) := hidE (by rw [hw]; exact (HF7.out.trans (HG8.out.mono fun _ f => f.elim)).trans (ofB _))
  clear q1 q2 hw HS7 HB7 HF7 HG8
  have HX1 := hidE HS8.out.x
  have HX2 := hidE (HS8.out.nf.sub (p := 8) (n := 64) (by decide))
  have hz : By w8 bi 36 64 (fun _ => 0#8) := by
    have h1 := HB8.out.sub (p := 36) (n := 64) (by decide)
    rw [Nat.zero_add] at h1
    exact h1.congr fun k hk => msB_zero h hk
  have HX3 := hidE hz
  have hl : By w8 bi 100 8 (beB 64 8) := by
    have h1 := HB8.out.sub (p := 100) (n := 8) (by decide)
    rw [Nat.zero_add] at h1
    exact h1.congr fun k _ => msB_len h k
  have HX4 := hidE hl
  clear hz hl
  go_wp2_with (refine wpList_copy_by rfl (.tmp 116) (.tmp 117) rfl rfl rfl (m := 64) (by decide) HX1.out (by have h2 := HX2.out; rwa [Nat.zero_add] at h2) HX3.out ?_; intro w9 h1 f1; have HS9 : Hid (Dg w9 b { inH S h 8 with x := putB S.x 0 64 (fun _ => 0#8) }) := HS8.out.setX (o := 0) h1 f1 (by decide); have HB9 : Hid (By w9 bi 100 8 (beB 64 8)) := HX4.out.fr f1 (fun k _ => not_inR (.inl d)); have HF9 : Hid (Fr (fun p => p.block = b) w w9) := HF8.out.trans (f1.mono fun _ hp => by obtain ⟨_, _, rfl⟩ := hp; rfl); clear h1 f1)
  ((with_reducible refine (c85 HB9.out).mono ?_); rintro e w10 ⟨rfl, f1⟩)
  have HS10 := hidE (HS9.out.same f1)
  have HF10 := hidE (HF9.out.trans (f1.mono fun _ f => f.elim))
  have q1 := HS10.out.ln
  have q2 := HS10.out.nx
  have q3 := HS10.out.at_ (k := 73) (by decide)
  have q4 := HS10.out.at_ (k := 72) (by decide)
  clear f1 HS8 HB8 HF8 HX1 HX2 HX3 HX4 HS9 HB9 HF9
  go_wp2_with fail
  go_ret
  refine ⟨rfl, ?_, (HF10.out.trans (ofB _)).trans (ofB _)⟩
  exact (((HS10.out.setLn 64).setNx 0).congrX fun k hk => by show putB S.x 0 64 (fun _ => 0#8) k = 0#8; unfold putB; rw [if_pos (by omega)]).congrH fun k hk => by show (if k < 8 then h k else S.h k) = h k; rw [if_pos hk]
end CI
end Go.Proofs.Yteooohmlmefbnaa
