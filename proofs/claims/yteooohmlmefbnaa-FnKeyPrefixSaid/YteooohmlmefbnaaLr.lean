/-
  The small functions of scrypt over words, for each r from 1 to 8: what the kernel computes.
  Conditions: none.
-/
import Derived.Test.YteooohmlmefbnaaLa
namespace Go.Proofs.Yteooohmlmefbnaa
namespace CI
open Go
abbrev B8 := BitVec 8

def out3 : Option (SV × Mem × Nat) → Option (List SW)
  | some (.unit, [(0, ⟨t, true⟩), (1, _), (2, ⟨l, true⟩)], 3) => get16 t fun _ _ _ _ _ _ _ _ _ _ _ _ _ _ _ _ => l
  | _ => none

/-- Four bytes as a word, the lowest first. -/
def le4 (b0 b1 b2 b3 : B8) : W := b0.setWidth 32 ||| b1.setWidth 32 <<< 8 ||| b2.setWidth 32 <<< 16 ||| b3.setWidth 32 <<< 24
def bt (v : W) (i : Nat) : B8 := (v >>> (8 * i)).setWidth 8
def integ (x y : W) : BitVec 64 := x.setWidth 64 ||| y.setWidth 64 <<< 32

theorem run40 (b0 b1 b2 b3 : B8) (a e : Nat) : g40 [.s (.slc 0 0 (a + 4) e)] [(0, ⟨[.w8 b0, .w8 b1, .w8 b2, .w8 b3], false⟩)] 1 = some (.s (.w32 (le4 b0 b1 b2 b3)), [(0, ⟨[.w8 b0, .w8 b1, .w8 b2, .w8 b3], false⟩)], 1) := by kernel_rfl
theorem run43 (b0 b1 b2 b3 : B8) (v : W) (a e : Nat) : g43 [.s (.slc 0 0 (a + 4) e), .s (.w32 v)] [(0, ⟨[.w8 b0, .w8 b1, .w8 b2, .w8 b3], true⟩)] 1 = some (.unit, [(0, ⟨[.w8 (bt v 0), .w8 (bt v 1), .w8 (bt v 2), .w8 (bt v 3)], true⟩)], 1) := by kernel_rfl

set_option maxRecDepth 100000 in
theorem run31x_1 (t f g : Nat → W) (ei eo : Nat) : out3 (g31 [.s (.ptr 0 0), .s (.slc 1 0 64 ei), .s (.slc 2 0 32 eo), .s (.int 1)] (M31 32 t f g) 3) = bmix 1 (wn 32 f) := by kernel_rfl
set_option maxRecDepth 100000 in
theorem run31x_2 (t f g : Nat → W) (ei eo : Nat) : out3 (g31 [.s (.ptr 0 0), .s (.slc 1 0 128 ei), .s (.slc 2 0 64 eo), .s (.int 2)] (M31 64 t f g) 3) = bmix 2 (wn 64 f) := by kernel_rfl
set_option maxRecDepth 100000 in
theorem run31x_3 (t f g : Nat → W) (ei eo : Nat) : out3 (g31 [.s (.ptr 0 0), .s (.slc 1 0 192 ei), .s (.slc 2 0 96 eo), .s (.int 3)] (M31 96 t f g) 3) = bmix 3 (wn 96 f) := by kernel_rfl
set_option maxRecDepth 100000 in
theorem run31x_4 (t f g : Nat → W) (ei eo : Nat) : out3 (g31 [.s (.ptr 0 0), .s (.slc 1 0 256 ei), .s (.slc 2 0 128 eo), .s (.int 4)] (M31 128 t f g) 3) = bmix 4 (wn 128 f) := by kernel_rfl
set_option maxRecDepth 100000 in
theorem run31x_5 (t f g : Nat → W) (ei eo : Nat) : out3 (g31 [.s (.ptr 0 0), .s (.slc 1 0 320 ei), .s (.slc 2 0 160 eo), .s (.int 5)] (M31 160 t f g) 3) = bmix 5 (wn 160 f) := by kernel_rfl
set_option maxRecDepth 100000 in
theorem run31x_6 (t f g : Nat → W) (ei eo : Nat) : out3 (g31 [.s (.ptr 0 0), .s (.slc 1 0 384 ei), .s (.slc 2 0 192 eo), .s (.int 6)] (M31 192 t f g) 3) = bmix 6 (wn 192 f) := by kernel_rfl
set_option maxRecDepth 100000 in
theorem run31x_7 (t f g : Nat → W) (ei eo : Nat) : out3 (g31 [.s (.ptr 0 0), .s (.slc 1 0 448 ei), .s (.slc 2 0 224 eo), .s (.int 7)] (M31 224 t f g) 3) = bmix 7 (wn 224 f) := by kernel_rfl
set_option maxRecDepth 100000 in
theorem run31x_8 (t f g : Nat → W) (ei eo : Nat) : out3 (g31 [.s (.ptr 0 0), .s (.slc 1 0 512 ei), .s (.slc 2 0 256 eo), .s (.int 8)] (M31 256 t f g) 3) = bmix 8 (wn 256 f) := by kernel_rfl
theorem run31x {r : Nat} (h1 : 1 ≤ r) (h2 : r ≤ 8) (t f g : Nat → W) (ei eo : Nat) : out3 (g31 [.s (.ptr 0 0), .s (.slc 1 0 (64 * r) ei), .s (.slc 2 0 (32 * r) eo), .s (.int (r : Int))] (M31 (32 * r) t f g) 3) = bmix r (wn (32 * r) f) := by
  have h : r = 1 ∨ r = 2 ∨ r = 3 ∨ r = 4 ∨ r = 5 ∨ r = 6 ∨ r = 7 ∨ r = 8 := by omega
  rcases h with rfl | rfl | rfl | rfl | rfl | rfl | rfl | rfl
  · exact run31x_1 t f g ei eo
  · exact run31x_2 t f g ei eo
  · exact run31x_3 t f g ei eo
  · exact run31x_4 t f g ei eo
  · exact run31x_5 t f g ei eo
  · exact run31x_6 t f g ei eo
  · exact run31x_7 t f g ei eo
  · exact run31x_8 t f g ei eo
set_option maxRecDepth 100000 in
theorem run31y_1 (t f g : Nat → W) (ei eo : Nat) : out3 (g31 [.s (.ptr 0 0), .s (.slc 1 0 32 ei), .s (.slc 2 0 64 eo), .s (.int 1)] (M31 32 t f g) 3) = bmix 1 (wn 32 f) := by kernel_rfl
set_option maxRecDepth 100000 in
theorem run31y_2 (t f g : Nat → W) (ei eo : Nat) : out3 (g31 [.s (.ptr 0 0), .s (.slc 1 0 64 ei), .s (.slc 2 0 128 eo), .s (.int 2)] (M31 64 t f g) 3) = bmix 2 (wn 64 f) := by kernel_rfl
set_option maxRecDepth 100000 in
theorem run31y_3 (t f g : Nat → W) (ei eo : Nat) : out3 (g31 [.s (.ptr 0 0), .s (.slc 1 0 96 ei), .s (.slc 2 0 192 eo), .s (.int 3)] (M31 96 t f g) 3) = bmix 3 (wn 96 f) := by kernel_rfl
set_option maxRecDepth 100000 in
theorem run31y_4 (t f g : Nat → W) (ei eo : Nat) : out3 (g31 [.s (.ptr 0 0), .s (.slc 1 0 128 ei), .s (.slc 2 0 256 eo), .s (.int 4)] (M31 128 t f g) 3) = bmix 4 (wn 128 f) := by kernel_rfl
set_option maxRecDepth 100000 in
theorem run31y_5 (t f g : Nat → W) (ei eo : Nat) : out3 (g31 [.s (.ptr 0 0), .s (.slc 1 0 160 ei), .s (.slc 2 0 320 eo), .s (.int 5)] (M31 160 t f g) 3) = bmix 5 (wn 160 f) := by kernel_rfl
set_option maxRecDepth 100000 in
theorem run31y_6 (t f g : Nat → W) (ei eo : Nat) : out3 (g31 [.s (.ptr 0 0), .s (.slc 1 0 192 ei), .s (.slc 2 0 384 eo), .s (.int 6)] (M31 192 t f g) 3) = bmix 6 (wn 192 f) := by kernel_rfl
set_option maxRecDepth 100000 in
theorem run31y_7 (t f g : Nat → W) (ei eo : Nat) : out3 (g31 [.s (.ptr 0 0), .s (.slc 1 0 224 ei), .s (.slc 2 0 448 eo), .s (.int 7)] (M31 224 t f g) 3) = bmix 7 (wn 224 f) := by kernel_rfl
set_option maxRecDepth 100000 in
theorem run31y_8 (t f g : Nat → W) (ei eo : Nat) : out3 (g31 [.s (.ptr 0 0), .s (.slc 1 0 256 ei), .s (.slc 2 0 512 eo), .s (.int 8)] (M31 256 t f g) 3) = bmix 8 (wn 256 f) := by kernel_rfl
theorem run31y {r : Nat} (h1 : 1 ≤ r) (h2 : r ≤ 8) (t f g : Nat → W) (ei eo : Nat) : out3 (g31 [.s (.ptr 0 0), .s (.slc 1 0 (32 * r) ei), .s (.slc 2 0 (64 * r) eo), .s (.int (r : Int))] (M31 (32 * r) t f g) 3) = bmix r (wn (32 * r) f) := by
  have h : r = 1 ∨ r = 2 ∨ r = 3 ∨ r = 4 ∨ r = 5 ∨ r = 6 ∨ r = 7 ∨ r = 8 := by omega
  rcases h with rfl | rfl | rfl | rfl | rfl | rfl | rfl | rfl
  · exact run31y_1 t f g ei eo
  · exact run31y_2 t f g ei eo
  · exact run31y_3 t f g ei eo
  · exact run31y_4 t f g ei eo
  · exact run31y_5 t f g ei eo
  · exact run31y_6 t f g ei eo
  · exact run31y_7 t f g ei eo
  · exact run31y_8 t f g ei eo
set_option maxRecDepth 100000 in
theorem run39_1 (f g : Nat → W) (a b e e2 : Nat) : g39 [.s (.slc 0 0 (a + 32) e), .s (.slc 1 0 (b + 32) e2), .s (.int 32)] [(0, ⟨wn 32 f, true⟩), (1, ⟨wn 32 g, false⟩)] 2 = some (.unit, [(0, ⟨wn 32 g, true⟩), (1, ⟨wn 32 g, false⟩)], 2) := by kernel_rfl
set_option maxRecDepth 100000 in
theorem run39_2 (f g : Nat → W) (a b e e2 : Nat) : g39 [.s (.slc 0 0 (a + 64) e), .s (.slc 1 0 (b + 64) e2), .s (.int 64)] [(0, ⟨wn 64 f, true⟩), (1, ⟨wn 64 g, false⟩)] 2 = some (.unit, [(0, ⟨wn 64 g, true⟩), (1, ⟨wn 64 g, false⟩)], 2) := by kernel_rfl
set_option maxRecDepth 100000 in
theorem run39_3 (f g : Nat → W) (a b e e2 : Nat) : g39 [.s (.slc 0 0 (a + 96) e), .s (.slc 1 0 (b + 96) e2), .s (.int 96)] [(0, ⟨wn 96 f, true⟩), (1, ⟨wn 96 g, false⟩)] 2 = some (.unit, [(0, ⟨wn 96 g, true⟩), (1, ⟨wn 96 g, false⟩)], 2) := by kernel_rfl
set_option maxRecDepth 100000 in
theorem run39_4 (f g : Nat → W) (a b e e2 : Nat) : g39 [.s (.slc 0 0 (a + 128) e), .s (.slc 1 0 (b + 128) e2), .s (.int 128)] [(0, ⟨wn 128 f, true⟩), (1, ⟨wn 128 g, false⟩)] 2 = some (.unit, [(0, ⟨wn 128 g, true⟩), (1, ⟨wn 128 g, false⟩)], 2) := by kernel_rfl
set_option maxRecDepth 100000 in
theorem run39_5 (f g : Nat → W) (a b e e2 : Nat) : g39 [.s (.slc 0 0 (a + 160) e), .s (.slc 1 0 (b + 160) e2), .s (.int 160)] [(0, ⟨wn 160 f, true⟩), (1, ⟨wn 160 g, false⟩)] 2 = some (.unit, [(0, ⟨wn 160 g, true⟩), (1, ⟨wn 160 g, false⟩)], 2) := by kernel_rfl
set_option maxRecDepth 100000 in
theorem run39_6 (f g : Nat → W) (a b e e2 : Nat) : g39 [.s (.slc 0 0 (a + 192) e), .s (.slc 1 0 (b + 192) e2), .s (.int 192)] [(0, ⟨wn 192 f, true⟩), (1, ⟨wn 192 g, false⟩)] 2 = some (.unit, [(0, ⟨wn 192 g, true⟩), (1, ⟨wn 192 g, false⟩)], 2) := by kernel_rfl
set_option maxRecDepth 100000 in
theorem run39_7 (f g : Nat → W) (a b e e2 : Nat) : g39 [.s (.slc 0 0 (a + 224) e), .s (.slc 1 0 (b + 224) e2), .s (.int 224)] [(0, ⟨wn 224 f, true⟩), (1, ⟨wn 224 g, false⟩)] 2 = some (.unit, [(0, ⟨wn 224 g, true⟩), (1, ⟨wn 224 g, false⟩)], 2) := by kernel_rfl
set_option maxRecDepth 100000 in
theorem run39_8 (f g : Nat → W) (a b e e2 : Nat) : g39 [.s (.slc 0 0 (a + 256) e), .s (.slc 1 0 (b + 256) e2), .s (.int 256)] [(0, ⟨wn 256 f, true⟩), (1, ⟨wn 256 g, false⟩)] 2 = some (.unit, [(0, ⟨wn 256 g, true⟩), (1, ⟨wn 256 g, false⟩)], 2) := by kernel_rfl
theorem run39 {r : Nat} (h1 : 1 ≤ r) (h2 : r ≤ 8) (f g : Nat → W) (a b e e2 : Nat) : g39 [.s (.slc 0 0 (a + (32 * r)) e), .s (.slc 1 0 (b + (32 * r)) e2), .s (.int (32 * (r : Int)))] [(0, ⟨wn (32 * r) f, true⟩), (1, ⟨wn (32 * r) g, false⟩)] 2 = some (.unit, [(0, ⟨wn (32 * r) g, true⟩), (1, ⟨wn (32 * r) g, false⟩)], 2) := by
  have h : r = 1 ∨ r = 2 ∨ r = 3 ∨ r = 4 ∨ r = 5 ∨ r = 6 ∨ r = 7 ∨ r = 8 := by omega
  rcases h with rfl | rfl | rfl | rfl | rfl | rfl | rfl | rfl
  · exact run39_1 f g a b e e2
  · exact run39_2 f g a b e e2
  · exact run39_3 f g a b e e2
  · exact run39_4 f g a b e e2
  · exact run39_5 f g a b e e2
  · exact run39_6 f g a b e e2
  · exact run39_7 f g a b e e2
  · exact run39_8 f g a b e e2
set_option maxRecDepth 100000 in
theorem run41_1 (f : Nat → W) (a e : Nat) : g41 [.s (.slc 0 0 (a + 32) e), .s (.int 1)] [(0, ⟨wn 32 f, false⟩)] 1 = some (.s (.w64 (integ (f (32 - 16)) (f (32 - 15)))), [(0, ⟨wn 32 f, false⟩)], 1) := by kernel_rfl
set_option maxRecDepth 100000 in
theorem run41_2 (f : Nat → W) (a e : Nat) : g41 [.s (.slc 0 0 (a + 64) e), .s (.int 2)] [(0, ⟨wn 64 f, false⟩)] 1 = some (.s (.w64 (integ (f (64 - 16)) (f (64 - 15)))), [(0, ⟨wn 64 f, false⟩)], 1) := by kernel_rfl
set_option maxRecDepth 100000 in
theorem run41_3 (f : Nat → W) (a e : Nat) : g41 [.s (.slc 0 0 (a + 96) e), .s (.int 3)] [(0, ⟨wn 96 f, false⟩)] 1 = some (.s (.w64 (integ (f (96 - 16)) (f (96 - 15)))), [(0, ⟨wn 96 f, false⟩)], 1) := by kernel_rfl
set_option maxRecDepth 100000 in
theorem run41_4 (f : Nat → W) (a e : Nat) : g41 [.s (.slc 0 0 (a + 128) e), .s (.int 4)] [(0, ⟨wn 128 f, false⟩)] 1 = some (.s (.w64 (integ (f (128 - 16)) (f (128 - 15)))), [(0, ⟨wn 128 f, false⟩)], 1) := by kernel_rfl
set_option maxRecDepth 100000 in
theorem run41_5 (f : Nat → W) (a e : Nat) : g41 [.s (.slc 0 0 (a + 160) e), .s (.int 5)] [(0, ⟨wn 160 f, false⟩)] 1 = some (.s (.w64 (integ (f (160 - 16)) (f (160 - 15)))), [(0, ⟨wn 160 f, false⟩)], 1) := by kernel_rfl
set_option maxRecDepth 100000 in
theorem run41_6 (f : Nat → W) (a e : Nat) : g41 [.s (.slc 0 0 (a + 192) e), .s (.int 6)] [(0, ⟨wn 192 f, false⟩)] 1 = some (.s (.w64 (integ (f (192 - 16)) (f (192 - 15)))), [(0, ⟨wn 192 f, false⟩)], 1) := by kernel_rfl
set_option maxRecDepth 100000 in
theorem run41_7 (f : Nat → W) (a e : Nat) : g41 [.s (.slc 0 0 (a + 224) e), .s (.int 7)] [(0, ⟨wn 224 f, false⟩)] 1 = some (.s (.w64 (integ (f (224 - 16)) (f (224 - 15)))), [(0, ⟨wn 224 f, false⟩)], 1) := by kernel_rfl
set_option maxRecDepth 100000 in
theorem run41_8 (f : Nat → W) (a e : Nat) : g41 [.s (.slc 0 0 (a + 256) e), .s (.int 8)] [(0, ⟨wn 256 f, false⟩)] 1 = some (.s (.w64 (integ (f (256 - 16)) (f (256 - 15)))), [(0, ⟨wn 256 f, false⟩)], 1) := by kernel_rfl
theorem run41 {r : Nat} (h1 : 1 ≤ r) (h2 : r ≤ 8) (f : Nat → W) (a e : Nat) : g41 [.s (.slc 0 0 (a + (32 * r)) e), .s (.int (r : Int))] [(0, ⟨wn (32 * r) f, false⟩)] 1 = some (.s (.w64 (integ (f ((32 * r) - 16)) (f ((32 * r) - 15)))), [(0, ⟨wn (32 * r) f, false⟩)], 1) := by
  have h : r = 1 ∨ r = 2 ∨ r = 3 ∨ r = 4 ∨ r = 5 ∨ r = 6 ∨ r = 7 ∨ r = 8 := by omega
  rcases h with rfl | rfl | rfl | rfl | rfl | rfl | rfl | rfl
  · exact run41_1 f a e
  · exact run41_2 f a e
  · exact run41_3 f a e
  · exact run41_4 f a e
  · exact run41_5 f a e
  · exact run41_6 f a e
  · exact run41_7 f a e
  · exact run41_8 f a e
set_option maxRecDepth 100000 in
theorem run42_1 (f g : Nat → W) (a b e e2 : Nat) : g42 [.s (.slc 0 0 (a + 32) e), .s (.slc 1 0 (b + 32) e2), .s (.int 32)] [(0, ⟨wn 32 f, true⟩), (1, ⟨wn 32 g, false⟩)] 2 = some (.unit, [(0, ⟨wn 32 (fun k => f k ^^^ g k), true⟩), (1, ⟨wn 32 g, false⟩)], 2) := by kernel_rfl
set_option maxRecDepth 100000 in
theorem run42_2 (f g : Nat → W) (a b e e2 : Nat) : g42 [.s (.slc 0 0 (a + 64) e), .s (.slc 1 0 (b + 64) e2), .s (.int 64)] [(0, ⟨wn 64 f, true⟩), (1, ⟨wn 64 g, false⟩)] 2 = some (.unit, [(0, ⟨wn 64 (fun k => f k ^^^ g k), true⟩), (1, ⟨wn 64 g, false⟩)], 2) := by kernel_rfl
set_option maxRecDepth 100000 in
theorem run42_3 (f g : Nat → W) (a b e e2 : Nat) : g42 [.s (.slc 0 0 (a + 96) e), .s (.slc 1 0 (b + 96) e2), .s (.int 96)] [(0, ⟨wn 96 f, true⟩), (1, ⟨wn 96 g, false⟩)] 2 = some (.unit, [(0, ⟨wn 96 (fun k => f k ^^^ g k), true⟩), (1, ⟨wn 96 g, false⟩)], 2) := by kernel_rfl
set_option maxRecDepth 100000 in
theorem run42_4 (f g : Nat → W) (a b e e2 : Nat) : g42 [.s (.slc 0 0 (a + 128) e), .s (.slc 1 0 (b + 128) e2), .s (.int 128)] [(0, ⟨wn 128 f, true⟩), (1, ⟨wn 128 g, false⟩)] 2 = some (.unit, [(0, ⟨wn 128 (fun k => f k ^^^ g k), true⟩), (1, ⟨wn 128 g, false⟩)], 2) := by kernel_rfl
set_option maxRecDepth 100000 in
theorem run42_5 (f g : Nat → W) (a b e e2 : Nat) : g42 [.s (.slc 0 0 (a + 160) e), .s (.slc 1 0 (b + 160) e2), .s (.int 160)] [(0, ⟨wn 160 f, true⟩), (1, ⟨wn 160 g, false⟩)] 2 = some (.unit, [(0, ⟨wn 160 (fun k => f k ^^^ g k), true⟩), (1, ⟨wn 160 g, false⟩)], 2) := by kernel_rfl
set_option maxRecDepth 100000 in
theorem run42_6 (f g : Nat → W) (a b e e2 : Nat) : g42 [.s (.slc 0 0 (a + 192) e), .s (.slc 1 0 (b + 192) e2), .s (.int 192)] [(0, ⟨wn 192 f, true⟩), (1, ⟨wn 192 g, false⟩)] 2 = some (.unit, [(0, ⟨wn 192 (fun k => f k ^^^ g k), true⟩), (1, ⟨wn 192 g, false⟩)], 2) := by kernel_rfl
set_option maxRecDepth 100000 in
theorem run42_7 (f g : Nat → W) (a b e e2 : Nat) : g42 [.s (.slc 0 0 (a + 224) e), .s (.slc 1 0 (b + 224) e2), .s (.int 224)] [(0, ⟨wn 224 f, true⟩), (1, ⟨wn 224 g, false⟩)] 2 = some (.unit, [(0, ⟨wn 224 (fun k => f k ^^^ g k), true⟩), (1, ⟨wn 224 g, false⟩)], 2) := by kernel_rfl
set_option maxRecDepth 100000 in
theorem run42_8 (f g : Nat → W) (a b e e2 : Nat) : g42 [.s (.slc 0 0 (a + 256) e), .s (.slc 1 0 (b + 256) e2), .s (.int 256)] [(0, ⟨wn 256 f, true⟩), (1, ⟨wn 256 g, false⟩)] 2 = some (.unit, [(0, ⟨wn 256 (fun k => f k ^^^ g k), true⟩), (1, ⟨wn 256 g, false⟩)], 2) := by kernel_rfl
theorem run42 {r : Nat} (h1 : 1 ≤ r) (h2 : r ≤ 8) (f g : Nat → W) (a b e e2 : Nat) : g42 [.s (.slc 0 0 (a + (32 * r)) e), .s (.slc 1 0 (b + (32 * r)) e2), .s (.int (32 * (r : Int)))] [(0, ⟨wn (32 * r) f, true⟩), (1, ⟨wn (32 * r) g, false⟩)] 2 = some (.unit, [(0, ⟨wn (32 * r) (fun k => f k ^^^ g k), true⟩), (1, ⟨wn (32 * r) g, false⟩)], 2) := by
  have h : r = 1 ∨ r = 2 ∨ r = 3 ∨ r = 4 ∨ r = 5 ∨ r = 6 ∨ r = 7 ∨ r = 8 := by omega
  rcases h with rfl | rfl | rfl | rfl | rfl | rfl | rfl | rfl
  · exact run42_1 f g a b e e2
  · exact run42_2 f g a b e e2
  · exact run42_3 f g a b e e2
  · exact run42_4 f g a b e e2
  · exact run42_5 f g a b e e2
  · exact run42_6 f g a b e e2
  · exact run42_7 f g a b e e2
  · exact run42_8 f g a b e e2
end CI
end Go.Proofs.Yteooohmlmefbnaa
