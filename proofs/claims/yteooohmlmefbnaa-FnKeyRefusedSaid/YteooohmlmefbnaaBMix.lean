/-
  'impl.BlockMix' and 'spec.BlockMix' over words, for each r from 1 to 16: what the kernel computes.
  Conditions: none.
-/
import Derived.Test.YteooohmlmefbnaaSpecMix
namespace Go.Proofs.Yteooohmlmefbnaa
namespace CI
open Go

set_option maxRecDepth 100000 in
theorem run23_1 (f : Nat → W) (e : Nat) : outN (g23 [.s (.slc 0 0 32 e), .s (.int 1)] (Mb 32 f) [] 1) = bmix 1 (wn 32 f) := by kernel_rfl
set_option maxRecDepth 100000 in
theorem run23_2 (f : Nat → W) (e : Nat) : outN (g23 [.s (.slc 0 0 64 e), .s (.int 2)] (Mb 64 f) [] 1) = bmix 2 (wn 64 f) := by kernel_rfl
set_option maxRecDepth 100000 in
theorem run23_3 (f : Nat → W) (e : Nat) : outN (g23 [.s (.slc 0 0 96 e), .s (.int 3)] (Mb 96 f) [] 1) = bmix 3 (wn 96 f) := by kernel_rfl
set_option maxRecDepth 100000 in
theorem run23_4 (f : Nat → W) (e : Nat) : outN (g23 [.s (.slc 0 0 128 e), .s (.int 4)] (Mb 128 f) [] 1) = bmix 4 (wn 128 f) := by kernel_rfl
set_option maxRecDepth 100000 in
theorem run23_5 (f : Nat → W) (e : Nat) : outN (g23 [.s (.slc 0 0 160 e), .s (.int 5)] (Mb 160 f) [] 1) = bmix 5 (wn 160 f) := by kernel_rfl
set_option maxRecDepth 100000 in
theorem run23_6 (f : Nat → W) (e : Nat) : outN (g23 [.s (.slc 0 0 192 e), .s (.int 6)] (Mb 192 f) [] 1) = bmix 6 (wn 192 f) := by kernel_rfl
set_option maxRecDepth 100000 in
theorem run23_7 (f : Nat → W) (e : Nat) : outN (g23 [.s (.slc 0 0 224 e), .s (.int 7)] (Mb 224 f) [] 1) = bmix 7 (wn 224 f) := by kernel_rfl
set_option maxRecDepth 100000 in
theorem run23_8 (f : Nat → W) (e : Nat) : outN (g23 [.s (.slc 0 0 256 e), .s (.int 8)] (Mb 256 f) [] 1) = bmix 8 (wn 256 f) := by kernel_rfl
set_option maxRecDepth 100000 in
theorem run23_9 (f : Nat → W) (e : Nat) : outN (g23 [.s (.slc 0 0 288 e), .s (.int 9)] (Mb 288 f) [] 1) = bmix 9 (wn 288 f) := by kernel_rfl
set_option maxRecDepth 100000 in
theorem run23_10 (f : Nat → W) (e : Nat) : outN (g23 [.s (.slc 0 0 320 e), .s (.int 10)] (Mb 320 f) [] 1) = bmix 10 (wn 320 f) := by kernel_rfl
set_option maxRecDepth 100000 in
theorem run23_11 (f : Nat → W) (e : Nat) : outN (g23 [.s (.slc 0 0 352 e), .s (.int 11)] (Mb 352 f) [] 1) = bmix 11 (wn 352 f) := by kernel_rfl
set_option maxRecDepth 100000 in
theorem run23_12 (f : Nat → W) (e : Nat) : outN (g23 [.s (.slc 0 0 384 e), .s (.int 12)] (Mb 384 f) [] 1) = bmix 12 (wn 384 f) := by kernel_rfl
set_option maxRecDepth 100000 in
theorem run23_13 (f : Nat → W) (e : Nat) : outN (g23 [.s (.slc 0 0 416 e), .s (.int 13)] (Mb 416 f) [] 1) = bmix 13 (wn 416 f) := by kernel_rfl
set_option maxRecDepth 100000 in
theorem run23_14 (f : Nat → W) (e : Nat) : outN (g23 [.s (.slc 0 0 448 e), .s (.int 14)] (Mb 448 f) [] 1) = bmix 14 (wn 448 f) := by kernel_rfl
set_option maxRecDepth 100000 in
theorem run23_15 (f : Nat → W) (e : Nat) : outN (g23 [.s (.slc 0 0 480 e), .s (.int 15)] (Mb 480 f) [] 1) = bmix 15 (wn 480 f) := by kernel_rfl
set_option maxRecDepth 100000 in
theorem run23_16 (f : Nat → W) (e : Nat) : outN (g23 [.s (.slc 0 0 512 e), .s (.int 16)] (Mb 512 f) [] 1) = bmix 16 (wn 512 f) := by kernel_rfl
theorem run23 {r : Nat} (h1 : 1 ≤ r) (h2 : r ≤ 16) (f : Nat → W) (e : Nat) : outN (g23 [.s (.slc 0 0 (32 * r) e), .s (.int (r : Int))] (Mb (32 * r) f) [] 1) = bmix r (wn (32 * r) f) := by
  have h : r = 1 ∨ r = 2 ∨ r = 3 ∨ r = 4 ∨ r = 5 ∨ r = 6 ∨ r = 7 ∨ r = 8 ∨ r = 9 ∨ r = 10 ∨ r = 11 ∨ r = 12 ∨ r = 13 ∨ r = 14 ∨ r = 15 ∨ r = 16 := by omega
  rcases h with rfl | rfl | rfl | rfl | rfl | rfl | rfl | rfl | rfl | rfl | rfl | rfl | rfl | rfl | rfl | rfl
  · exact run23_1 f e
  · exact run23_2 f e
  · exact run23_3 f e
  · exact run23_4 f e
  · exact run23_5 f e
  · exact run23_6 f e
  · exact run23_7 f e
  · exact run23_8 f e
  · exact run23_9 f e
  · exact run23_10 f e
  · exact run23_11 f e
  · exact run23_12 f e
  · exact run23_13 f e
  · exact run23_14 f e
  · exact run23_15 f e
  · exact run23_16 f e
set_option maxRecDepth 100000 in
theorem run13_1 (f : Nat → W) (e : Nat) : outO (g13 [.s (.slc 0 0 32 e), .s (.int 1)] (Mb 32 f) [] 1) = bmix 1 (wn 32 f) := by kernel_rfl
set_option maxRecDepth 100000 in
theorem run13_2 (f : Nat → W) (e : Nat) : outO (g13 [.s (.slc 0 0 64 e), .s (.int 2)] (Mb 64 f) [] 1) = bmix 2 (wn 64 f) := by kernel_rfl
set_option maxRecDepth 100000 in
theorem run13_3 (f : Nat → W) (e : Nat) : outO (g13 [.s (.slc 0 0 96 e), .s (.int 3)] (Mb 96 f) [] 1) = bmix 3 (wn 96 f) := by kernel_rfl
set_option maxRecDepth 100000 in
theorem run13_4 (f : Nat → W) (e : Nat) : outO (g13 [.s (.slc 0 0 128 e), .s (.int 4)] (Mb 128 f) [] 1) = bmix 4 (wn 128 f) := by kernel_rfl
set_option maxRecDepth 100000 in
theorem run13_5 (f : Nat → W) (e : Nat) : outO (g13 [.s (.slc 0 0 160 e), .s (.int 5)] (Mb 160 f) [] 1) = bmix 5 (wn 160 f) := by kernel_rfl
set_option maxRecDepth 100000 in
theorem run13_6 (f : Nat → W) (e : Nat) : outO (g13 [.s (.slc 0 0 192 e), .s (.int 6)] (Mb 192 f) [] 1) = bmix 6 (wn 192 f) := by kernel_rfl
set_option maxRecDepth 100000 in
theorem run13_7 (f : Nat → W) (e : Nat) : outO (g13 [.s (.slc 0 0 224 e), .s (.int 7)] (Mb 224 f) [] 1) = bmix 7 (wn 224 f) := by kernel_rfl
set_option maxRecDepth 100000 in
theorem run13_8 (f : Nat → W) (e : Nat) : outO (g13 [.s (.slc 0 0 256 e), .s (.int 8)] (Mb 256 f) [] 1) = bmix 8 (wn 256 f) := by kernel_rfl
set_option maxRecDepth 100000 in
theorem run13_9 (f : Nat → W) (e : Nat) : outO (g13 [.s (.slc 0 0 288 e), .s (.int 9)] (Mb 288 f) [] 1) = bmix 9 (wn 288 f) := by kernel_rfl
set_option maxRecDepth 100000 in
theorem run13_10 (f : Nat → W) (e : Nat) : outO (g13 [.s (.slc 0 0 320 e), .s (.int 10)] (Mb 320 f) [] 1) = bmix 10 (wn 320 f) := by kernel_rfl
set_option maxRecDepth 100000 in
theorem run13_11 (f : Nat → W) (e : Nat) : outO (g13 [.s (.slc 0 0 352 e), .s (.int 11)] (Mb 352 f) [] 1) = bmix 11 (wn 352 f) := by kernel_rfl
set_option maxRecDepth 100000 in
theorem run13_12 (f : Nat → W) (e : Nat) : outO (g13 [.s (.slc 0 0 384 e), .s (.int 12)] (Mb 384 f) [] 1) = bmix 12 (wn 384 f) := by kernel_rfl
set_option maxRecDepth 100000 in
theorem run13_13 (f : Nat → W) (e : Nat) : outO (g13 [.s (.slc 0 0 416 e), .s (.int 13)] (Mb 416 f) [] 1) = bmix 13 (wn 416 f) := by kernel_rfl
set_option maxRecDepth 100000 in
theorem run13_14 (f : Nat → W) (e : Nat) : outO (g13 [.s (.slc 0 0 448 e), .s (.int 14)] (Mb 448 f) [] 1) = bmix 14 (wn 448 f) := by kernel_rfl
set_option maxRecDepth 100000 in
theorem run13_15 (f : Nat → W) (e : Nat) : outO (g13 [.s (.slc 0 0 480 e), .s (.int 15)] (Mb 480 f) [] 1) = bmix 15 (wn 480 f) := by kernel_rfl
set_option maxRecDepth 100000 in
theorem run13_16 (f : Nat → W) (e : Nat) : outO (g13 [.s (.slc 0 0 512 e), .s (.int 16)] (Mb 512 f) [] 1) = bmix 16 (wn 512 f) := by kernel_rfl
theorem run13 {r : Nat} (h1 : 1 ≤ r) (h2 : r ≤ 16) (f : Nat → W) (e : Nat) : outO (g13 [.s (.slc 0 0 (32 * r) e), .s (.int (r : Int))] (Mb (32 * r) f) [] 1) = bmix r (wn (32 * r) f) := by
  have h : r = 1 ∨ r = 2 ∨ r = 3 ∨ r = 4 ∨ r = 5 ∨ r = 6 ∨ r = 7 ∨ r = 8 ∨ r = 9 ∨ r = 10 ∨ r = 11 ∨ r = 12 ∨ r = 13 ∨ r = 14 ∨ r = 15 ∨ r = 16 := by omega
  rcases h with rfl | rfl | rfl | rfl | rfl | rfl | rfl | rfl | rfl | rfl | rfl | rfl | rfl | rfl | rfl | rfl
  · exact run13_1 f e
  · exact run13_2 f e
  · exact run13_3 f e
  · exact run13_4 f e
  · exact run13_5 f e
  · exact run13_6 f e
  · exact run13_7 f e
  · exact run13_8 f e
  · exact run13_9 f e
  · exact run13_10 f e
  · exact run13_11 f e
  · exact run13_12 f e
  · exact run13_13 f e
  · exact run13_14 f e
  · exact run13_15 f e
  · exact run13_16 f e
end CI
end Go.Proofs.Yteooohmlmefbnaa
