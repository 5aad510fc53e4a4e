/-
  No cell of these rows narrows 'for every input' (looked for: loops, veiled, ifaces, maps, wideKeys, modest, calm, conditions, laid).
  DERIVED. THE GIVEN ROWS OF THIS SEAT. 4 by the template 'for every input the law returns true; each argument reads behind the call as it read before'; 0 by the template 'total and deterministic' (their statements: YtmppkbgbnnbfmaaTotals.lean).
  GIVEN WITH THE SEED: the statements are not yours to turn. If you find one false, say at which input.
  Laid BY PROGRAM, IN A SANDBOX (cutbox-rows.mjs): the forced cells as the released guide's own fill.sh prints them over the translation cbd540d36b882639… (all of the seat's roots in one cut). By AI agents, Wed Nov 11 2026. No macro, syntax, notation, axiom, sorry.
-/
import Derived.Test.YtmppkbgbnnbfmaaChecked
import GoSem.Claim
import GoSem.ClaimJoined
import GoSem.ClaimMapViews
import Derived.JoinedTies
import Derived.KernelRfl
namespace Go.Proofs.Ytmppkbgbnnbfmaa
/- THE CELL 'sum', in the pinned program and in every row, IS THE sha256 OF THE DUMP (.gsa) THAT YtmppkbgbnnbfmaaProg.lean LOADS. Nothing in Lean hashes anything: it is a label: what it is worth is what the hold of that sum in a sandbox is worth. -/
noncomputable def Try.pinned : Pinned := { name := "ytmppkbgbnnbfmaa", sum := "cbd540d36b882639d33d5822c2f2668b948bad7c7d9db8f01100fecb721c4fb8", checked := Try.checked }
namespace Rows
def none {H : Type} : Left H := { results := [], args := [] }

/-- 'laws.FnIndex': WHATEVER THE INPUT: true; the input reads as it did. -/
def fnIndexSpec : ChangeSpec := { name := "fnIndex", fn := fun _ => fun
  | [d1, d2, d3, d4, d5, d6, d7] => { results := [.lit (.bool true)], args := [d1, d2, d3, d4, d5, d6, d7] }
  | _ => none }
def fnIndexRow : OpenClaim := { program := "ytmppkbgbnnbfmaa", sum := "cbd540d36b882639d33d5822c2f2668b948bad7c7d9db8f01100fecb721c4fb8", func := "loop.example/pub-g03043/laws.FnIndex", spec := "fnIndex", apart := false }
def FnIndexSaid : Prop := fnIndexRow.holds Try.pinned (OpenSpec.ofChange fnIndexSpec)

/-- ITS FALSE NEIGHBOUR: 'it returns false'. Refute it at one input. -/
def fnIndexWrong : ChangeSpec := { name := "fnIndex", fn := fun _ => fun
  | [d1, d2, d3, d4, d5, d6, d7] => { results := [.lit (.bool false)], args := [d1, d2, d3, d4, d5, d6, d7] }
  | _ => none }
def FnIndexWrongFalsely : Prop := fnIndexRow.holds Try.pinned (OpenSpec.ofChange fnIndexWrong)

/-- 'laws.FnRound': WHATEVER THE INPUT: true; the input reads as it did. -/
def fnRoundSpec : ChangeSpec := { name := "fnRound", fn := fun _ => fun
  | [d] => { results := [.lit (.bool true)], args := [d] }
  | _ => none }
def fnRoundRow : OpenClaim := { program := "ytmppkbgbnnbfmaa", sum := "cbd540d36b882639d33d5822c2f2668b948bad7c7d9db8f01100fecb721c4fb8", func := "loop.example/pub-g03043/laws.FnRound", spec := "fnRound", apart := false }
def FnRoundSaid : Prop := fnRoundRow.holds Try.pinned (OpenSpec.ofChange fnRoundSpec)

/-- ITS FALSE NEIGHBOUR: 'it returns false'. Refute it at one input. -/
def fnRoundWrong : ChangeSpec := { name := "fnRound", fn := fun _ => fun
  | [d] => { results := [.lit (.bool false)], args := [d] }
  | _ => none }
def FnRoundWrongFalsely : Prop := fnRoundRow.holds Try.pinned (OpenSpec.ofChange fnRoundWrong)

/-- 'laws.FnMixOrder': WHATEVER THE INPUT: true; the input reads as it did. -/
def fnMixOrderSpec : ChangeSpec := { name := "fnMixOrder", fn := fun _ => fun
  | [d1, d2] => { results := [.lit (.bool true)], args := [d1, d2] }
  | _ => none }
def fnMixOrderRow : OpenClaim := { program := "ytmppkbgbnnbfmaa", sum := "cbd540d36b882639d33d5822c2f2668b948bad7c7d9db8f01100fecb721c4fb8", func := "loop.example/pub-g03043/laws.FnMixOrder", spec := "fnMixOrder", apart := false }
def FnMixOrderSaid : Prop := fnMixOrderRow.holds Try.pinned (OpenSpec.ofChange fnMixOrderSpec)

/-- ITS FALSE NEIGHBOUR: 'it returns false'. Refute it at one input. -/
def fnMixOrderWrong : ChangeSpec := { name := "fnMixOrder", fn := fun _ => fun
  | [d1, d2] => { results := [.lit (.bool false)], args := [d1, d2] }
  | _ => none }
def FnMixOrderWrongFalsely : Prop := fnMixOrderRow.holds Try.pinned (OpenSpec.ofChange fnMixOrderWrong)

/-- 'laws.FnMix': WHATEVER THE INPUT: true; the input reads as it did. -/
def fnMixSpec : ChangeSpec := { name := "fnMix", fn := fun _ => fun
  | [d1, d2, d3] => { results := [.lit (.bool true)], args := [d1, d2, d3] }
  | _ => none }
def fnMixRow : OpenClaim := { program := "ytmppkbgbnnbfmaa", sum := "cbd540d36b882639d33d5822c2f2668b948bad7c7d9db8f01100fecb721c4fb8", func := "loop.example/pub-g03043/laws.FnMix", spec := "fnMix", apart := false }
def FnMixSaid : Prop := fnMixRow.holds Try.pinned (OpenSpec.ofChange fnMixSpec)

/-- ITS FALSE NEIGHBOUR: 'it returns false'. Refute it at one input. -/
def fnMixWrong : ChangeSpec := { name := "fnMix", fn := fun _ => fun
  | [d1, d2, d3] => { results := [.lit (.bool false)], args := [d1, d2, d3] }
  | _ => none }
def FnMixWrongFalsely : Prop := fnMixRow.holds Try.pinned (OpenSpec.ofChange fnMixWrong)

/- THE SECOND FORM. 'bulk': how many values and letters a reading holds, each counted each time it is reached (what is shared counts as often as it is met; a slice's spare places count too). A statement '..UptoSaid' is the law's where the arguments, and the package variables that the reading takes, are together of bulk at most 1048576: NARROWER than '..Said'. Prove '..Said' where nothing that the law and all that it calls make is longer than what came in: it says more and counts as full. Else prove '..UptoSaid'. A law counts once. -/
mutual
def uptoBulk {H : Type} : DataW H → Nat
  | .lit (.string bytes) => bytes.length + 1
  | .lit _ => 1
  | .nil => 1
  | .ptr d => uptoBulk d + 1
  | .slice elems spare => uptoBulkAll elems + uptoBulkAll spare + 1
  | .agg parts => uptoBulkAll parts + 1
  | .iface _ d => uptoBulk d + 1
  | .map entries => uptoBulkEntries entries + 1
  | .held _ => 1
def uptoBulkAll {H : Type} : List (DataW H) → Nat
  | [] => 0
  | d :: r => uptoBulk d + uptoBulkAll r
def uptoBulkEntries {H : Type} : List (Lit × DataW H) → Nat
  | [] => 0
  | x :: r => uptoBulkEntry x + uptoBulkEntries r
def uptoBulkEntry {H : Type} : Lit × DataW H → Nat
  | (.string bytes, d) => bytes.length + uptoBulk d + 1
  | (_, d) => uptoBulk d + 1
 end
def uptoSmall : (H : Type) → List (DataW H) → Bool := fun _ ds => decide (uptoBulkAll ds ≤ 1048576)
def OpenSpec.upto (s : _root_.Go.ChangeSpec) : _root_.Go.OpenSpec := { _root_.Go.OpenSpec.ofChange s with cond := some uptoSmall }

/-- 'laws.FnIndex', WHERE WHAT IT READS IS OF BULK AT MOST 1048576: true; the input reads as it did. -/
def fnIndexUptoRow : OpenClaim := { program := "ytmppkbgbnnbfmaa", sum := "cbd540d36b882639d33d5822c2f2668b948bad7c7d9db8f01100fecb721c4fb8", func := "loop.example/pub-g03043/laws.FnIndex", spec := "fnIndex", apart := false, narrowed := true }
def FnIndexUptoSaid : Prop := fnIndexUptoRow.holds Try.pinned (OpenSpec.upto fnIndexSpec)

/-- 'laws.FnRound', WHERE WHAT IT READS IS OF BULK AT MOST 1048576: true; the input reads as it did. -/
def fnRoundUptoRow : OpenClaim := { program := "ytmppkbgbnnbfmaa", sum := "cbd540d36b882639d33d5822c2f2668b948bad7c7d9db8f01100fecb721c4fb8", func := "loop.example/pub-g03043/laws.FnRound", spec := "fnRound", apart := false, narrowed := true }
def FnRoundUptoSaid : Prop := fnRoundUptoRow.holds Try.pinned (OpenSpec.upto fnRoundSpec)

/-- 'laws.FnMixOrder', WHERE WHAT IT READS IS OF BULK AT MOST 1048576: true; the input reads as it did. -/
def fnMixOrderUptoRow : OpenClaim := { program := "ytmppkbgbnnbfmaa", sum := "cbd540d36b882639d33d5822c2f2668b948bad7c7d9db8f01100fecb721c4fb8", func := "loop.example/pub-g03043/laws.FnMixOrder", spec := "fnMixOrder", apart := false, narrowed := true }
def FnMixOrderUptoSaid : Prop := fnMixOrderUptoRow.holds Try.pinned (OpenSpec.upto fnMixOrderSpec)

/-- 'laws.FnMix', WHERE WHAT IT READS IS OF BULK AT MOST 1048576: true; the input reads as it did. -/
def fnMixUptoRow : OpenClaim := { program := "ytmppkbgbnnbfmaa", sum := "cbd540d36b882639d33d5822c2f2668b948bad7c7d9db8f01100fecb721c4fb8", func := "loop.example/pub-g03043/laws.FnMix", spec := "fnMix", apart := false, narrowed := true }
def FnMixUptoSaid : Prop := fnMixUptoRow.holds Try.pinned (OpenSpec.upto fnMixSpec)

end Rows
end Go.Proofs.Ytmppkbgbnnbfmaa
