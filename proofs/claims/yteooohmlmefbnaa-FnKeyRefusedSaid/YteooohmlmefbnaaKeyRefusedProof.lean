/-
  The statement 'Rows.FnKeyRefusedSaid': for every input the law FnKeyRefused returns true: there is no key where n is not a power of two greater than 1.
  Conditions: none beyond the law's own (outside its bounds the law returns true at once).
  The frame (from 'THE ROW's STEP' on) was laid by the kit's proof-skeleton, turned to the wrap that hands on the world's shape; the walk is ours.
-/
import Derived.Test.YteooohmlmefbnaaQn
import Derived.Test.YteooohmlmefbnaaPa
import Derived.Test.YteooohmlmefbnaaRows
import Derived.WalkKit
import Derived.ProofKit
import Derived.OpenShut
import Derived.ShutString
import Derived.ChangeOld
import Derived.Below
import Derived.HandedShaped
namespace Go.Proofs.Yteooohmlmefbnaa.fnKeyRefused
open Go.ChangeShapes Go.WideShapes Go.ChangeAt Go.RowKit
open Go.ChangeMaps (open_string shut_string)
open CI
set_option linter.unusedVariables false

theorem own : ownKnob Try.prog.godebug = none := by kernel_rfl
theorem laidOut : laidOutB Try.prog = true := by kernel_rfl

/-- WHAT THE WALK IS TOLD OF A SLICE OF INTEGERS THAT CAME IN: it is nil; or it leads to a row of 'cap' cells, the numbers 'zs' (the first 'len' are its elements, the rest its spare room), each fitting its kind. -/
def IsRow (k : IntKind) (w : World) (a : Option Addr) (len cap : Nat) (zs : List Int) : Prop :=
  (a = none ∧ len = 0 ∧ cap = 0 ∧ zs = []) ∨
  ∃ x, a = some x ∧ len ≤ cap ∧ cap ≤ maxLen ∧ zs.length = cap ∧ (∀ i, i < zs.length → w.cell? (x.add i) = some (.int k (zs.getD i 0))) ∧ ∀ n ∈ zs, (Lit.int k n).wf = true

/-! ### THE WALK -/
/-- What is to be shown of the law's run. -/
def Runs (a0 : Option Addr) (len0 cap0 : Nat) (a1 : Option Addr) (len1 cap1 : Nat) (a2 a3 a4 a5 : Int) (w : World) : Prop :=
  Calls Try.prog 9 #[.slice a0 len0 cap0, .slice a1 len1 cap1, .int .i64 a2, .int .i64 a3, .int .i64 a4, .int .i64 a5] w fun e w' => e = .returned (.bool true) ∧ Below w.heap.size w w'
set_option maxRecDepth 100000 in
set_option maxHeartbeats 1000000 in
theorem sA (a0 : Option Addr) (len0 cap0 : Nat) (a1 : Option Addr) (len1 cap1 : Nat) (a2 a3 a4 a5 : Int) (w : World) (h0 : (2147483647 : Int) < len0) : Runs a0 len0 cap0 a1 len1 cap1 a2 a3 a4 a5 w := by
  unfold Runs
  go_enter Try.func9, Try.ntmps9
  go_wp2_with fail
  go_ret
  exact ⟨rfl, Below.refl _ _⟩
set_option maxRecDepth 100000 in
set_option maxHeartbeats 1000000 in
theorem sB (a0 : Option Addr) (len0 cap0 : Nat) (a1 : Option Addr) (len1 cap1 : Nat) (a2 a3 a4 a5 : Int) (w : World) (h0 : ¬ (2147483647 : Int) < len0) (h1 : (2147483647 : Int) < len1) : Runs a0 len0 cap0 a1 len1 cap1 a2 a3 a4 a5 w := by
  unfold Runs
  go_enter Try.func9, Try.ntmps9
  go_wp2_with fail
  go_ret
  exact ⟨rfl, Below.refl _ _⟩
set_option maxRecDepth 100000 in
set_option maxHeartbeats 1000000 in
theorem sC (a0 : Option Addr) (len0 cap0 : Nat) (a1 : Option Addr) (len1 cap1 : Nat) (a2 a3 a4 a5 : Int) (w : World) (h0 : ¬ (2147483647 : Int) < len0) (h1 : ¬ (2147483647 : Int) < len1) (h2 : 1024 < len0 + len1) : Runs a0 len0 cap0 a1 len1 cap1 a2 a3 a4 a5 w := by
  have hd : decide (len0 + len1 ≤ 1024) = false := decide_eq_false (by omega)
  have hf := c18 (g := w.heap.size) (two_slices (w := w) (A := a0) (n := len0) (c := cap0) (B := a1) (m := len1) (d := cap1) (t := 29) rfl).1 (two_slices (w := w) (A := a0) (n := len0) (c := cap0) (B := a1) (m := len1) (d := cap1) (t := 29) rfl).2.1 (by omega) (by omega)
  rw [hd] at hf
  have HF := hidE hf
  clear hd hf
  unfold Runs
  go_enter Try.func9, Try.ntmps9
  go_wp2_with fail
  ((with_reducible refine HF.out.mono ?_); rintro e w1 ⟨rfl, rfl⟩)
  go_wp2_with fail
  go_ret
  exact ⟨rfl, (Fr.alloc (fun _ => False) w _ _).below⟩
set_option maxRecDepth 100000 in
set_option maxHeartbeats 1000000 in
theorem sD0 (a0 : Option Addr) (len0 cap0 : Nat) (a1 : Option Addr) (len1 cap1 : Nat) (a2 a3 a4 a5 : Int) (w : World) (h0 : ¬ (2147483647 : Int) < len0) (h1 : ¬ (2147483647 : Int) < len1) (h2 : len0 + len1 ≤ 1024) (h3 : a3 < 1) : Runs a0 len0 cap0 a1 len1 cap1 a2 a3 a4 a5 w := by
  have hd : decide (len0 + len1 ≤ 1024) = true := decide_eq_true (by omega)
  have hf := c18 (g := w.heap.size) (two_slices (w := w) (A := a0) (n := len0) (c := cap0) (B := a1) (m := len1) (d := cap1) (t := 29) rfl).1 (two_slices (w := w) (A := a0) (n := len0) (c := cap0) (B := a1) (m := len1) (d := cap1) (t := 29) rfl).2.1 (by omega) (by omega)
  rw [hd] at hf
  have HF := hidE hf
  clear hd hf
  unfold Runs
  go_enter Try.func9, Try.ntmps9
  go_wp2_with fail
  ((with_reducible refine HF.out.mono ?_); rintro e w1 ⟨rfl, rfl⟩)
  go_wp2_with fail
  go_ret
  exact ⟨rfl, (Fr.alloc (fun _ => False) w _ _).below⟩
set_option maxRecDepth 100000 in
set_option maxHeartbeats 1000000 in
theorem sD1 (a0 : Option Addr) (len0 cap0 : Nat) (a1 : Option Addr) (len1 cap1 : Nat) (a2 a3 a4 a5 : Int) (w : World) (h0 : ¬ (2147483647 : Int) < len0) (h1 : ¬ (2147483647 : Int) < len1) (h2 : len0 + len1 ≤ 1024) (h3 : ¬ a3 < 1) (h4 : 4 < a3) : Runs a0 len0 cap0 a1 len1 cap1 a2 a3 a4 a5 w := by
  have hd : decide (len0 + len1 ≤ 1024) = true := decide_eq_true (by omega)
  have hf := c18 (g := w.heap.size) (two_slices (w := w) (A := a0) (n := len0) (c := cap0) (B := a1) (m := len1) (d := cap1) (t := 29) rfl).1 (two_slices (w := w) (A := a0) (n := len0) (c := cap0) (B := a1) (m := len1) (d := cap1) (t := 29) rfl).2.1 (by omega) (by omega)
  rw [hd] at hf
  have HF := hidE hf
  clear hd hf
  unfold Runs
  go_enter Try.func9, Try.ntmps9
  go_wp2_with fail
  ((with_reducible refine HF.out.mono ?_); rintro e w1 ⟨rfl, rfl⟩)
  go_wp2_with fail
  go_ret
  exact ⟨rfl, (Fr.alloc (fun _ => False) w _ _).below⟩
set_option maxRecDepth 100000 in
set_option maxHeartbeats 1000000 in
theorem sD2 (a0 : Option Addr) (len0 cap0 : Nat) (a1 : Option Addr) (len1 cap1 : Nat) (a2 a3 a4 a5 : Int) (w : World) (h0 : ¬ (2147483647 : Int) < len0) (h1 : ¬ (2147483647 : Int) < len1) (h2 : len0 + len1 ≤ 1024) (h3 : ¬ a3 < 1) (h4 : ¬ 4 < a3) (h5 : a4 < 1) : Runs a0 len0 cap0 a1 len1 cap1 a2 a3 a4 a5 w := by
  have hd : decide (len0 + len1 ≤ 1024) = true := decide_eq_true (by omega)
  have hf := c18 (g := w.heap.size) (two_slices (w := w) (A := a0) (n := len0) (c := cap0) (B := a1) (m := len1) (d := cap1) (t := 29) rfl).1 (two_slices (w := w) (A := a0) (n := len0) (c := cap0) (B := a1) (m := len1) (d := cap1) (t := 29) rfl).2.1 (by omega) (by omega)
  rw [hd] at hf
  have HF := hidE hf
  clear hd hf
  unfold Runs
  go_enter Try.func9, Try.ntmps9
  go_wp2_with fail
  ((with_reducible refine HF.out.mono ?_); rintro e w1 ⟨rfl, rfl⟩)
  go_wp2_with fail
  go_ret
  exact ⟨rfl, (Fr.alloc (fun _ => False) w _ _).below⟩
set_option maxRecDepth 100000 in
set_option maxHeartbeats 1000000 in
theorem sD3 (a0 : Option Addr) (len0 cap0 : Nat) (a1 : Option Addr) (len1 cap1 : Nat) (a2 a3 a4 a5 : Int) (w : World) (h0 : ¬ (2147483647 : Int) < len0) (h1 : ¬ (2147483647 : Int) < len1) (h2 : len0 + len1 ≤ 1024) (h3 : ¬ a3 < 1) (h4 : ¬ 4 < a3) (h5 : ¬ a4 < 1) (h6 : 4 < a4) : Runs a0 len0 cap0 a1 len1 cap1 a2 a3 a4 a5 w := by
  have hd : decide (len0 + len1 ≤ 1024) = true := decide_eq_true (by omega)
  have hf := c18 (g := w.heap.size) (two_slices (w := w) (A := a0) (n := len0) (c := cap0) (B := a1) (m := len1) (d := cap1) (t := 29) rfl).1 (two_slices (w := w) (A := a0) (n := len0) (c := cap0) (B := a1) (m := len1) (d := cap1) (t := 29) rfl).2.1 (by omega) (by omega)
  rw [hd] at hf
  have HF := hidE hf
  clear hd hf
  unfold Runs
  go_enter Try.func9, Try.ntmps9
  go_wp2_with fail
  ((with_reducible refine HF.out.mono ?_); rintro e w1 ⟨rfl, rfl⟩)
  go_wp2_with fail
  go_ret
  exact ⟨rfl, (Fr.alloc (fun _ => False) w _ _).below⟩
set_option maxRecDepth 100000 in
set_option maxHeartbeats 1000000 in
theorem sD4 (a0 : Option Addr) (len0 cap0 : Nat) (a1 : Option Addr) (len1 cap1 : Nat) (a2 a3 a4 a5 : Int) (w : World) (h0 : ¬ (2147483647 : Int) < len0) (h1 : ¬ (2147483647 : Int) < len1) (h2 : len0 + len1 ≤ 1024) (h3 : ¬ a3 < 1) (h4 : ¬ 4 < a3) (h5 : ¬ a4 < 1) (h6 : ¬ 4 < a4) (h7 : 1000 < a2) : Runs a0 len0 cap0 a1 len1 cap1 a2 a3 a4 a5 w := by
  have hd : decide (len0 + len1 ≤ 1024) = true := decide_eq_true (by omega)
  have hf := c18 (g := w.heap.size) (two_slices (w := w) (A := a0) (n := len0) (c := cap0) (B := a1) (m := len1) (d := cap1) (t := 29) rfl).1 (two_slices (w := w) (A := a0) (n := len0) (c := cap0) (B := a1) (m := len1) (d := cap1) (t := 29) rfl).2.1 (by omega) (by omega)
  rw [hd] at hf
  have HF := hidE hf
  clear hd hf
  unfold Runs
  go_enter Try.func9, Try.ntmps9
  go_wp2_with fail
  ((with_reducible refine HF.out.mono ?_); rintro e w1 ⟨rfl, rfl⟩)
  go_wp2_with fail
  go_ret
  exact ⟨rfl, (Fr.alloc (fun _ => False) w _ _).below⟩
set_option maxRecDepth 100000 in
set_option maxHeartbeats 1000000 in
theorem sD5 (a0 : Option Addr) (len0 cap0 : Nat) (a1 : Option Addr) (len1 cap1 : Nat) (a2 a3 a4 a5 : Int) (w : World) (h0 : ¬ (2147483647 : Int) < len0) (h1 : ¬ (2147483647 : Int) < len1) (h2 : len0 + len1 ≤ 1024) (h3 : ¬ a3 < 1) (h4 : ¬ 4 < a3) (h5 : ¬ a4 < 1) (h6 : ¬ 4 < a4) (h7 : ¬ 1000 < a2) (h8 : a2 < -1000) : Runs a0 len0 cap0 a1 len1 cap1 a2 a3 a4 a5 w := by
  have hd : decide (len0 + len1 ≤ 1024) = true := decide_eq_true (by omega)
  have hf := c18 (g := w.heap.size) (two_slices (w := w) (A := a0) (n := len0) (c := cap0) (B := a1) (m := len1) (d := cap1) (t := 29) rfl).1 (two_slices (w := w) (A := a0) (n := len0) (c := cap0) (B := a1) (m := len1) (d := cap1) (t := 29) rfl).2.1 (by omega) (by omega)
  rw [hd] at hf
  have HF := hidE hf
  clear hd hf
  unfold Runs
  go_enter Try.func9, Try.ntmps9
  go_wp2_with fail
  ((with_reducible refine HF.out.mono ?_); rintro e w1 ⟨rfl, rfl⟩)
  go_wp2_with fail
  go_ret
  exact ⟨rfl, (Fr.alloc (fun _ => False) w _ _).below⟩
set_option maxRecDepth 100000 in
set_option maxHeartbeats 1000000 in
theorem sE (a0 : Option Addr) (len0 cap0 : Nat) (a1 : Option Addr) (len1 cap1 : Nat) (a2 a3 a4 a5 : Int) (w : World) (h0 : ¬ (2147483647 : Int) < len0) (h1 : ¬ (2147483647 : Int) < len1) (h2 : len0 + len1 ≤ 1024) (h3 : ¬ a3 < 1) (h4 : ¬ 4 < a3) (h5 : ¬ a4 < 1) (h6 : ¬ 4 < a4) (h7 : ¬ 1000 < a2) (h8 : ¬ a2 < -1000) (h9 : 1 < a2) (hp : Pw a2.toNat) : Runs a0 len0 cap0 a1 len1 cap1 a2 a3 a4 a5 w := by
  have hd : decide (len0 + len1 ≤ 1024) = true := decide_eq_true (by omega)
  have hf := c18 (g := w.heap.size) (two_slices (w := w) (A := a0) (n := len0) (c := cap0) (B := a1) (m := len1) (d := cap1) (t := 29) rfl).1 (two_slices (w := w) (A := a0) (n := len0) (c := cap0) (B := a1) (m := len1) (d := cap1) (t := 29) rfl).2.1 (by omega) (by omega)
  rw [hd] at hf
  have HF := hidE hf
  clear hd hf
  obtain ⟨N, rfl⟩ : ∃ N : Nat, a2 = (N : Int) := ⟨a2.toNat, by omega⟩
  rw [Int.toNat_natCast] at hp
  have HP := hidE (c14_true N (by omega) hp (w.alloc (.cells #[.slice a0 len0 cap0, .slice a1 len1 cap1] 29)))
  clear hp
  unfold Runs
  go_enter Try.func9, Try.ntmps9
  go_wp2_with fail
  ((with_reducible refine HF.out.mono ?_); rintro e w1 ⟨rfl, rfl⟩)
  go_wp2_with fail
  ((with_reducible refine HP.out.mono ?_); rintro e w2 ⟨rfl, rfl⟩)
  go_wp2_with fail
  go_ret
  exact ⟨rfl, (Fr.alloc (fun _ => False) w _ _).below⟩
set_option maxRecDepth 100000 in
set_option maxHeartbeats 1000000 in
theorem sF0 (a0 : Option Addr) (len0 cap0 : Nat) (a1 : Option Addr) (len1 cap1 : Nat) (a2 a3 a4 a5 : Int) (w : World) (h0 : ¬ (2147483647 : Int) < len0) (h1 : ¬ (2147483647 : Int) < len1) (h2 : len0 + len1 ≤ 1024) (h3 : ¬ a3 < 1) (h4 : ¬ 4 < a3) (h5 : ¬ a4 < 1) (h6 : ¬ 4 < a4) (h7 : ¬ 1000 < a2) (h8 : ¬ a2 < -1000) (h9 : ¬ 1 < a2) (h10 : a5 < 1) : Runs a0 len0 cap0 a1 len1 cap1 a2 a3 a4 a5 w := by
  have hd : decide (len0 + len1 ≤ 1024) = true := decide_eq_true (by omega)
  have hf := c18 (g := w.heap.size) (two_slices (w := w) (A := a0) (n := len0) (c := cap0) (B := a1) (m := len1) (d := cap1) (t := 29) rfl).1 (two_slices (w := w) (A := a0) (n := len0) (c := cap0) (B := a1) (m := len1) (d := cap1) (t := 29) rfl).2.1 (by omega) (by omega)
  rw [hd] at hf
  have HF := hidE hf
  clear hd hf
  unfold Runs
  go_enter Try.func9, Try.ntmps9
  go_wp2_with fail
  ((with_reducible refine HF.out.mono ?_); rintro e w1 ⟨rfl, rfl⟩)
  go_wp2_with fail
  go_ret
  exact ⟨rfl, (Fr.alloc (fun _ => False) w _ _).below⟩
set_option maxRecDepth 100000 in
set_option maxHeartbeats 1000000 in
theorem sG0 (a0 : Option Addr) (len0 cap0 : Nat) (a1 : Option Addr) (len1 cap1 : Nat) (a2 a3 a4 a5 : Int) (w : World) (h0 : ¬ (2147483647 : Int) < len0) (h1 : ¬ (2147483647 : Int) < len1) (h2 : len0 + len1 ≤ 1024) (h3 : ¬ a3 < 1) (h4 : ¬ 4 < a3) (h5 : ¬ a4 < 1) (h6 : ¬ 4 < a4) (h7 : ¬ 1000 < a2) (h8 : ¬ a2 < -1000) (h9 : 1 < a2) (h10 : a5 < 1) (hp : ¬ Pw a2.toNat) : Runs a0 len0 cap0 a1 len1 cap1 a2 a3 a4 a5 w := by
  have hd : decide (len0 + len1 ≤ 1024) = true := decide_eq_true (by omega)
  have hf := c18 (g := w.heap.size) (two_slices (w := w) (A := a0) (n := len0) (c := cap0) (B := a1) (m := len1) (d := cap1) (t := 29) rfl).1 (two_slices (w := w) (A := a0) (n := len0) (c := cap0) (B := a1) (m := len1) (d := cap1) (t := 29) rfl).2.1 (by omega) (by omega)
  rw [hd] at hf
  have HF := hidE hf
  clear hd hf
  obtain ⟨N, rfl⟩ : ∃ N : Nat, a2 = (N : Int) := ⟨a2.toNat, by omega⟩
  rw [Int.toNat_natCast] at hp
  have HP := hidE (c14_false N (by omega) hp (w.alloc (.cells #[.slice a0 len0 cap0, .slice a1 len1 cap1] 29)))
  clear hp
  unfold Runs
  go_enter Try.func9, Try.ntmps9
  go_wp2_with fail
  ((with_reducible refine HF.out.mono ?_); rintro e w1 ⟨rfl, rfl⟩)
  go_wp2_with fail
  ((with_reducible refine HP.out.mono ?_); rintro e w2 ⟨rfl, rfl⟩)
  go_wp2_with fail
  go_ret
  exact ⟨rfl, (Fr.alloc (fun _ => False) w _ _).below⟩
set_option maxRecDepth 100000 in
set_option maxHeartbeats 1000000 in
theorem sF1 (a0 : Option Addr) (len0 cap0 : Nat) (a1 : Option Addr) (len1 cap1 : Nat) (a2 a3 a4 a5 : Int) (w : World) (h0 : ¬ (2147483647 : Int) < len0) (h1 : ¬ (2147483647 : Int) < len1) (h2 : len0 + len1 ≤ 1024) (h3 : ¬ a3 < 1) (h4 : ¬ 4 < a3) (h5 : ¬ a4 < 1) (h6 : ¬ 4 < a4) (h7 : ¬ 1000 < a2) (h8 : ¬ a2 < -1000) (h9 : ¬ 1 < a2) (h10 : ¬ a5 < 1) (h11 : 256 < a5) : Runs a0 len0 cap0 a1 len1 cap1 a2 a3 a4 a5 w := by
  have hd : decide (len0 + len1 ≤ 1024) = true := decide_eq_true (by omega)
  have hf := c18 (g := w.heap.size) (two_slices (w := w) (A := a0) (n := len0) (c := cap0) (B := a1) (m := len1) (d := cap1) (t := 29) rfl).1 (two_slices (w := w) (A := a0) (n := len0) (c := cap0) (B := a1) (m := len1) (d := cap1) (t := 29) rfl).2.1 (by omega) (by omega)
  rw [hd] at hf
  have HF := hidE hf
  clear hd hf
  unfold Runs
  go_enter Try.func9, Try.ntmps9
  go_wp2_with fail
  ((with_reducible refine HF.out.mono ?_); rintro e w1 ⟨rfl, rfl⟩)
  go_wp2_with fail
  go_ret
  exact ⟨rfl, (Fr.alloc (fun _ => False) w _ _).below⟩
set_option maxRecDepth 100000 in
set_option maxHeartbeats 1000000 in
theorem sG1 (a0 : Option Addr) (len0 cap0 : Nat) (a1 : Option Addr) (len1 cap1 : Nat) (a2 a3 a4 a5 : Int) (w : World) (h0 : ¬ (2147483647 : Int) < len0) (h1 : ¬ (2147483647 : Int) < len1) (h2 : len0 + len1 ≤ 1024) (h3 : ¬ a3 < 1) (h4 : ¬ 4 < a3) (h5 : ¬ a4 < 1) (h6 : ¬ 4 < a4) (h7 : ¬ 1000 < a2) (h8 : ¬ a2 < -1000) (h9 : 1 < a2) (h10 : ¬ a5 < 1) (h11 : 256 < a5) (hp : ¬ Pw a2.toNat) : Runs a0 len0 cap0 a1 len1 cap1 a2 a3 a4 a5 w := by
  have hd : decide (len0 + len1 ≤ 1024) = true := decide_eq_true (by omega)
  have hf := c18 (g := w.heap.size) (two_slices (w := w) (A := a0) (n := len0) (c := cap0) (B := a1) (m := len1) (d := cap1) (t := 29) rfl).1 (two_slices (w := w) (A := a0) (n := len0) (c := cap0) (B := a1) (m := len1) (d := cap1) (t := 29) rfl).2.1 (by omega) (by omega)
  rw [hd] at hf
  have HF := hidE hf
  clear hd hf
  obtain ⟨N, rfl⟩ : ∃ N : Nat, a2 = (N : Int) := ⟨a2.toNat, by omega⟩
  rw [Int.toNat_natCast] at hp
  have HP := hidE (c14_false N (by omega) hp (w.alloc (.cells #[.slice a0 len0 cap0, .slice a1 len1 cap1] 29)))
  clear hp
  unfold Runs
  go_enter Try.func9, Try.ntmps9
  go_wp2_with fail
  ((with_reducible refine HF.out.mono ?_); rintro e w1 ⟨rfl, rfl⟩)
  go_wp2_with fail
  ((with_reducible refine HP.out.mono ?_); rintro e w2 ⟨rfl, rfl⟩)
  go_wp2_with fail
  go_ret
  exact ⟨rfl, (Fr.alloc (fun _ => False) w _ _).below⟩
set_option maxRecDepth 100000 in
set_option maxHeartbeats 1000000 in
theorem mF (a0 : Option Addr) (len0 cap0 : Nat) (a1 : Option Addr) (len1 cap1 : Nat) (a2 a3 a4 a5 : Int) (w : World) (h0 : ¬ (2147483647 : Int) < len0) (h1 : ¬ (2147483647 : Int) < len1) (h2 : len0 + len1 ≤ 1024) (h3 : ¬ a3 < 1) (h4 : ¬ 4 < a3) (h5 : ¬ a4 < 1) (h6 : ¬ 4 < a4) (h7 : ¬ 1000 < a2) (h8 : ¬ a2 < -1000) (h9 : ¬ 1 < a2) (h10 : ¬ a5 < 1) (h11 : ¬ 256 < a5) {K : Nat → W} {f g : Nat → B8} (hK : Wd w 0 0 64 K) (hf0 : Raw w a0 len0 cap0 f) (hf1 : Raw w a1 len1 cap1 g) : Runs a0 len0 cap0 a1 len1 cap1 a2 a3 a4 a5 w := by
  have hd : decide (len0 + len1 ≤ 1024) = true := decide_eq_true (by omega)
  have hf := c18 (g := w.heap.size) (two_slices (w := w) (A := a0) (n := len0) (c := cap0) (B := a1) (m := len1) (d := cap1) (t := 29) rfl).1 (two_slices (w := w) (A := a0) (n := len0) (c := cap0) (B := a1) (m := len1) (d := cap1) (t := 29) rfl).2.1 (by omega) (by omega)
  rw [hd] at hf
  have HF := hidE hf
  clear hd hf
  obtain ⟨W1, hW1⟩ : ∃ W, W = w.alloc (.cells #[.slice a0 len0 cap0, .slice a1 len1 cap1] 29) := ⟨_, rfl⟩
  have hfr : Fr (fun _ => False) w W1 := by rw [hW1]; exact Fr.alloc _ _ _ _
  have HC := hidE (c19r (w := W1) (hf0.below hfr.below) (hf1.below hfr.below) (by omega) (by omega) (show 1 ≤ a5 by omega) (No.small (by omega) : No a2 a3 a4))
  have HK := hidE (hK.same hfr)
  have H0 := hidE (hf0.below hfr.below)
  have H1 := hidE (hf1.below hfr.below)
  have HFR := hidE hfr.below
  have HW1 := hidE hW1
  clear hK hf0 hf1 hfr hW1
  unfold Runs
  go_enter Try.func9, Try.ntmps9
  go_wp2_with fail
  ((with_reducible refine HF.out.mono ?_); rintro e w1 ⟨rfl, rfl⟩)
  go_wp2_with fail
  rw [← HW1.out]
  ((with_reducible refine HC.out.mono ?_); rintro e w3 ⟨rfl, f1⟩)
  have HB1 := hidE f1
  have HC2 : Hid (Calls Try.prog 19 #[.slice a0 len0 cap0, .slice a1 len1 cap1, .int .i64 2, .int .i64 1, .int .i64 1, .int .i64 1] w3 _) := hidE (c19 (L := 1) (N := 2) (kN := 1) (HK.out.below f1) (H0.out.below f1) (H1.out.below f1) (by omega) (by omega) (by decide) (by decide) rfl (by decide) (by decide))
  clear f1 HC
  go_wp2_with fail
  ((with_reducible refine HC2.out.mono ?_); rintro e w4 ⟨gk, ck, rfl, k1, k2, k3, k4, k5⟩)
  have HB2 := hidE (CI.Below.then_ HFR.out (CI.Below.then_ HB1.out k5))
  clear k4 k5 HC2
  go_wp2_with fail
  go_ret
  exact ⟨rfl, HB2.out⟩
set_option maxRecDepth 100000 in
set_option maxHeartbeats 1000000 in
theorem mG (a0 : Option Addr) (len0 cap0 : Nat) (a1 : Option Addr) (len1 cap1 : Nat) (a2 a3 a4 a5 : Int) (w : World) (h0 : ¬ (2147483647 : Int) < len0) (h1 : ¬ (2147483647 : Int) < len1) (h2 : len0 + len1 ≤ 1024) (h3 : ¬ a3 < 1) (h4 : ¬ 4 < a3) (h5 : ¬ a4 < 1) (h6 : ¬ 4 < a4) (h7 : ¬ 1000 < a2) (h8 : ¬ a2 < -1000) (h9 : 1 < a2) (h10 : ¬ a5 < 1) (h11 : ¬ 256 < a5) (hp : ¬ Pw a2.toNat) {K : Nat → W} {f g : Nat → B8} (hK : Wd w 0 0 64 K) (hf0 : Raw w a0 len0 cap0 f) (hf1 : Raw w a1 len1 cap1 g) : Runs a0 len0 cap0 a1 len1 cap1 a2 a3 a4 a5 w := by
  have hd : decide (len0 + len1 ≤ 1024) = true := decide_eq_true (by omega)
  have hf := c18 (g := w.heap.size) (two_slices (w := w) (A := a0) (n := len0) (c := cap0) (B := a1) (m := len1) (d := cap1) (t := 29) rfl).1 (two_slices (w := w) (A := a0) (n := len0) (c := cap0) (B := a1) (m := len1) (d := cap1) (t := 29) rfl).2.1 (by omega) (by omega)
  rw [hd] at hf
  have HF := hidE hf
  clear hd hf
  obtain ⟨W1, hW1⟩ : ∃ W, W = w.alloc (.cells #[.slice a0 len0 cap0, .slice a1 len1 cap1] 29) := ⟨_, rfl⟩
  have hfr : Fr (fun _ => False) w W1 := by rw [hW1]; exact Fr.alloc _ _ _ _
  obtain ⟨N, rfl⟩ : ∃ N : Nat, a2 = (N : Int) := ⟨a2.toNat, by omega⟩
  rw [Int.toNat_natCast] at hp
  have HP := hidE (c14_false N (by omega) hp (w.alloc (.cells #[.slice a0 len0 cap0, .slice a1 len1 cap1] 29)))
  have HC := hidE (c19r (w := W1) (hf0.below hfr.below) (hf1.below hfr.below) (by omega) (by omega) (show 1 ≤ a5 by omega) (No.pow (by omega) (by omega) (and_not_pow (by omega) (by omega) hp) : No (N : Int) a3 a4))
  have HK := hidE (hK.same hfr)
  have H0 := hidE (hf0.below hfr.below)
  have H1 := hidE (hf1.below hfr.below)
  have HFR := hidE hfr.below
  have HW1 := hidE hW1
  clear hK hf0 hf1 hfr hW1 hp
  unfold Runs
  go_enter Try.func9, Try.ntmps9
  go_wp2_with fail
  ((with_reducible refine HF.out.mono ?_); rintro e w1 ⟨rfl, rfl⟩)
  go_wp2_with fail
  ((with_reducible refine HP.out.mono ?_); rintro e w2 ⟨rfl, rfl⟩)
  go_wp2_with fail
  rw [← HW1.out]
  ((with_reducible refine HC.out.mono ?_); rintro e w3 ⟨rfl, f1⟩)
  have HB1 := hidE f1
  have HC2 : Hid (Calls Try.prog 19 #[.slice a0 len0 cap0, .slice a1 len1 cap1, .int .i64 2, .int .i64 1, .int .i64 1, .int .i64 1] w3 _) := hidE (c19 (L := 1) (N := 2) (kN := 1) (HK.out.below f1) (H0.out.below f1) (H1.out.below f1) (by omega) (by omega) (by decide) (by decide) rfl (by decide) (by decide))
  clear f1 HC
  go_wp2_with fail
  ((with_reducible refine HC2.out.mono ?_); rintro e w4 ⟨gk, ck, rfl, k1, k2, k3, k4, k5⟩)
  have HB2 := hidE (CI.Below.then_ HFR.out (CI.Below.then_ HB1.out k5))
  clear k4 k5 HC2
  go_wp2_with fail
  go_ret
  exact ⟨rfl, HB2.out⟩

theorem walk (a0 : Option Addr) (len0 cap0 : Nat) (z0 : List Int) (a1 : Option Addr) (len1 cap1 : Nat) (z1 : List Int) (a2 : Int) (a3 : Int) (a4 : Int) (a5 : Int) (w : World) (w0 : IsRow .u8 w a0 len0 cap0 z0) (w1 : IsRow .u8 w a1 len1 cap1 z1) (w2 : (Lit.int .i64 a2).wf = true) (w3 : (Lit.int .i64 a3).wf = true) (w4 : (Lit.int .i64 a4).wf = true) (w5 : (Lit.int .i64 a5).wf = true) (hsh : w.ShapedOpen Try.prog) :
    Calls Try.prog 9 #[.slice a0 len0 cap0, .slice a1 len1 cap1, .int .i64 a2, .int .i64 a3, .int .i64 a4, .int .i64 a5] w fun e w' => e = .returned (.bool true) ∧ Below w.heap.size w w' := by
  show Runs a0 len0 cap0 a1 len1 cap1 a2 a3 a4 a5 w
  have hl0 := len_of w0
  have hl1 := len_of w1
  obtain ⟨f, hf0⟩ := raw_of w0
  obtain ⟨g, hf1⟩ := raw_of w1
  obtain ⟨K, hK⟩ := K_of_shaped hsh
  by_cases h0 : (2147483647 : Int) < len0
  · exact sA a0 len0 cap0 a1 len1 cap1 a2 a3 a4 a5 w h0
  by_cases h1 : (2147483647 : Int) < len1
  · exact sB a0 len0 cap0 a1 len1 cap1 a2 a3 a4 a5 w h0 h1
  by_cases hx : 1024 < len0 + len1
  · exact sC a0 len0 cap0 a1 len1 cap1 a2 a3 a4 a5 w h0 h1 hx
  have h2 : len0 + len1 ≤ 1024 := by omega
  by_cases h3 : a3 < 1
  · exact sD0 a0 len0 cap0 a1 len1 cap1 a2 a3 a4 a5 w h0 h1 h2 h3
  by_cases h4 : 4 < a3
  · exact sD1 a0 len0 cap0 a1 len1 cap1 a2 a3 a4 a5 w h0 h1 h2 h3 h4
  by_cases h5 : a4 < 1
  · exact sD2 a0 len0 cap0 a1 len1 cap1 a2 a3 a4 a5 w h0 h1 h2 h3 h4 h5
  by_cases h6 : 4 < a4
  · exact sD3 a0 len0 cap0 a1 len1 cap1 a2 a3 a4 a5 w h0 h1 h2 h3 h4 h5 h6
  by_cases h7 : 1000 < a2
  · exact sD4 a0 len0 cap0 a1 len1 cap1 a2 a3 a4 a5 w h0 h1 h2 h3 h4 h5 h6 h7
  by_cases h8 : a2 < -1000
  · exact sD5 a0 len0 cap0 a1 len1 cap1 a2 a3 a4 a5 w h0 h1 h2 h3 h4 h5 h6 h7 h8
  by_cases hn : 1 < a2
  · by_cases hp : Pw a2.toNat
    · exact sE a0 len0 cap0 a1 len1 cap1 a2 a3 a4 a5 w h0 h1 h2 h3 h4 h5 h6 h7 h8 hn hp
    by_cases q1 : a5 < 1
    · exact sG0 a0 len0 cap0 a1 len1 cap1 a2 a3 a4 a5 w h0 h1 h2 h3 h4 h5 h6 h7 h8 hn q1 hp
    by_cases q2 : 256 < a5
    · exact sG1 a0 len0 cap0 a1 len1 cap1 a2 a3 a4 a5 w h0 h1 h2 h3 h4 h5 h6 h7 h8 hn q1 q2 hp
    exact mG a0 len0 cap0 a1 len1 cap1 a2 a3 a4 a5 w h0 h1 h2 h3 h4 h5 h6 h7 h8 hn q1 q2 hp hK hf0 hf1
  · by_cases q1 : a5 < 1
    · exact sF0 a0 len0 cap0 a1 len1 cap1 a2 a3 a4 a5 w h0 h1 h2 h3 h4 h5 h6 h7 h8 hn q1
    by_cases q2 : 256 < a5
    · exact sF1 a0 len0 cap0 a1 len1 cap1 a2 a3 a4 a5 w h0 h1 h2 h3 h4 h5 h6 h7 h8 hn q1 q2
    exact mF a0 len0 cap0 a1 len1 cap1 a2 a3 a4 a5 w h0 h1 h2 h3 h4 h5 h6 h7 h8 hn q1 q2 hK hf0 hf1

/-! ### THE ROW's STEP: WRITTEN OUT: LEAVE IT -/
set_option maxRecDepth 100000 in
theorem lifted (os : Os) (started : os.Started) (H : Type) (enc : TypeId × Value → H) :
    ReturnsInHanded {} Try.checked os 9 .any (Rows.fnKeyRefusedSpec.pre6 enc Try.prog Try.f9 Rows.fnKeyRefusedRow.domain false) (Rows.fnKeyRefusedSpec.post enc Try.prog Try.f9 false true false false) := by
  refine returnsInHanded_of_change_shaped (C := Try.checked) own started (by kernel_rfl) Try.func9
    (ChangeSpec.witness6 (enc := enc) (C := Try.checked) false ⟨#[], #[.slice none 0 0, .slice none 0 0, .int .i64 0, .int .i64 0, .int .i64 0, .int .i64 0], []⟩ 8 (by kernel_rfl) (by kernel_rfl) (by kernel_rfl) (by kernel_rfl)) ?_
  intro W base args ds gs before hval0 hW hcnd _ hsh _
  have hval : ∀ (j : Nat) t v, Try.f9.params[j]? = some t → args[j]? = some v → Value.okWide Try.prog W .any base t v := hval0
  have hW' := hW
  obtain ⟨p, q, hA0, hV, rfl, hfz, hnd⟩ := hW
  have hA : DataW.TrodAll enc Try.prog W 0 (fun _ => true) true Try.f9.params.toList args.toList ds p := hA0
  rw [Try.params9] at hA hval
  obtain ⟨v0, vs0, d0, ds0, p0, q0, hargs, rfl, rfl, h0, r0⟩ := trodAll_cons hA
  obtain ⟨v1, vs1, d1, ds1, p1, q1, rfl, rfl, rfl, h1, r1⟩ := trodAll_cons r0
  obtain ⟨v2, vs2, d2, ds2, p2, q2, rfl, rfl, rfl, h2, r2⟩ := trodAll_cons r1
  obtain ⟨v3, vs3, d3, ds3, p3, q3, rfl, rfl, rfl, h3, r3⟩ := trodAll_cons r2
  obtain ⟨v4, vs4, d4, ds4, p4, q4, rfl, rfl, rfl, h4, r4⟩ := trodAll_cons r3
  obtain ⟨v5, vs5, d5, ds5, p5, q5, rfl, rfl, rfl, h5, r5⟩ := trodAll_cons r4
  obtain ⟨rfl, rfl, rfl⟩ := trodAll_nil r5
  obtain rfl : args = #[v0, v1, v2, v3, v4, v5] := by cases args; simp_all
  obtain ⟨rfl, rfl⟩ := trodVars_none hV
  obtain ⟨a0, len0, cap0, rfl⟩ := okWide_slice Try.underlying29 (hval 0 29 v0 rfl rfl)
  have k0 := h0
  have lt0 : ∀ x ∈ p0, x.block < W.heap.size := by obtain ⟨m, hm⟩ := k0; exact DataW.trod_lt m _ _ _ hm
  obtain ⟨z0, w0⟩ : ∃ zs, IsRow .u8 W a0 len0 cap0 zs := by
    obtain ⟨fuel, hf⟩ := h0
    rcases open_ints Try.underlying29 Try.underlying5 (by kernel_rfl) hf with ⟨hcs, _⟩ | ⟨x, l, c, zs, hcs, _, hl, hm, hz, _, hcell, hwz⟩
    · simp [Value.cells] at hcs
      obtain ⟨rfl, rfl, rfl⟩ := hcs
      exact ⟨[], .inl ⟨rfl, rfl, rfl, rfl⟩⟩
    · simp [Value.cells] at hcs
      obtain ⟨rfl, rfl, rfl⟩ := hcs
      exact ⟨zs, .inr ⟨_, rfl, hl, hm, by simpa using hz, hcell, hwz⟩⟩
  obtain ⟨a1, len1, cap1, rfl⟩ := okWide_slice Try.underlying29 (hval 1 29 v1 rfl rfl)
  have k1 := h1
  have lt1 : ∀ x ∈ p1, x.block < W.heap.size := by obtain ⟨m, hm⟩ := k1; exact DataW.trod_lt m _ _ _ hm
  obtain ⟨z1, w1⟩ : ∃ zs, IsRow .u8 W a1 len1 cap1 zs := by
    obtain ⟨fuel, hf⟩ := h1
    rcases open_ints Try.underlying29 Try.underlying5 (by kernel_rfl) hf with ⟨hcs, _⟩ | ⟨x, l, c, zs, hcs, _, hl, hm, hz, _, hcell, hwz⟩
    · simp [Value.cells] at hcs
      obtain ⟨rfl, rfl, rfl⟩ := hcs
      exact ⟨[], .inl ⟨rfl, rfl, rfl, rfl⟩⟩
    · simp [Value.cells] at hcs
      obtain ⟨rfl, rfl, rfl⟩ := hcs
      exact ⟨zs, .inr ⟨_, rfl, hl, hm, by simpa using hz, hcell, hwz⟩⟩
  obtain ⟨a2, rfl, rfl, rfl, w2⟩ := open_int Try.underlying3 (hval 2 3 v2 rfl rfl) h2
  obtain ⟨a3, rfl, rfl, rfl, w3⟩ := open_int Try.underlying3 (hval 3 3 v3 rfl rfl) h3
  obtain ⟨a4, rfl, rfl, rfl, w4⟩ := open_int Try.underlying3 (hval 4 3 v4 rfl rfl) h4
  obtain ⟨a5, rfl, rfl, rfl, w5⟩ := open_int Try.underlying3 (hval 5 3 v5 rfl rfl) h5
  clear hA0 hval0
  refine (walk a0 len0 cap0 z0 a1 len1 cap1 z1 a2 a3 a4 a5 W w0 w1 w2 w3 w4 w5 hsh).mono fun e W' ⟨he, bel⟩ => ?_
  subst he
  exact ⟨_, rfl, _, _, _, [], _, [], hW', trodAll_mk1 (shut_bool Try.underlying4 _), (trodAll_cons_mk (Below.trod laidOut (by kernel_rfl) (of_decide_eq_true (by kernel_rfl)) k0 bel lt0) (trodAll_cons_mk (Below.trod laidOut (by kernel_rfl) (of_decide_eq_true (by kernel_rfl)) k1 bel lt1) (trodAll_cons_mk (shut_int Try.underlying3 w2) (trodAll_cons_mk (shut_int Try.underlying3 w3) (trodAll_cons_mk (shut_int Try.underlying3 w4) (trodAll_cons_mk (shut_int Try.underlying3 w5) trodAll_mk0)))))), rfl, bel.frame _, fun h => by cases h⟩

theorem over : Rows.fnKeyRefusedRow.holds Try.pinned (OpenSpec.ofChange Rows.fnKeyRefusedSpec) :=
  OpenClaim.holds_of_wide 9 Try.f9 rfl rfl rfl rfl rfl rfl rfl ⟨rfl, rfl, rfl, rfl, rfl⟩ rfl rfl rfl rfl rfl (by kernel_rfl) Try.func9 (by kernel_rfl)
    (of_decide_eq_true (by kernel_rfl)) (by unfold Func.isWrapper; first | (rw [if_pos (by decide +kernel)]; kernel_rfl) | (rw [if_neg (by decide +kernel)]; exact ⟨rfl, rfl⟩))
    (fun os started H enc _ => lifted os started H enc)

/-- ████ THE STATEMENT ████ -/
theorem proved : Rows.FnKeyRefusedSaid := over
#print axioms proved
end Go.Proofs.Yteooohmlmefbnaa.fnKeyRefused
