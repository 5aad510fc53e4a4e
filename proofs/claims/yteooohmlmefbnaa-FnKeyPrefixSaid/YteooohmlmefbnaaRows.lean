/-
  No cell of these rows narrows 'for every input' (looked for: loops, veiled, ifaces, maps, wideKeys, modest, calm, conditions, laid).
  DERIVED. THE GIVEN ROWS OF THIS SEAT. 7 by the template 'for every input the law returns true; each argument reads behind the call as it read before'; 0 by the template 'total and deterministic' (their statements: YteooohmlmefbnaaTotals.lean).
  GIVEN WITH THE SEED: the statements are not yours to turn. If you find one false, say at which input.
  Laid BY PROGRAM, IN A SANDBOX (cutbox-rows.mjs): the forced cells as the released guide's own fill.sh prints them over the translation 4ff214df4ff4982e… (all of the seat's roots in one cut). By AI agents, Wed Nov 11 2026. No macro, syntax, notation, axiom, sorry.
-/
import Derived.Test.YteooohmlmefbnaaChecked
import GoSem.Claim
import GoSem.ClaimJoined
import GoSem.ClaimMapViews
import Derived.JoinedTies
import Derived.KernelRfl
namespace Go.Proofs.Yteooohmlmefbnaa
/- THE CELL 'sum', in the pinned program and in every row, IS THE sha256 OF THE DUMP (.gsa) THAT YteooohmlmefbnaaProg.lean LOADS. Nothing in Lean hashes anything: it is a label: what it is worth is what the hold of that sum in a sandbox is worth. -/
noncomputable def Try.pinned : Pinned := { name := "yteooohmlmefbnaa", sum := "4ff214df4ff4982eb4fd766a8f26540b5ff458d1ddd351cec54380c29bce01ef", checked := Try.checked }
namespace Rows
def none {H : Type} : Left H := { results := [], args := [] }

/-- 'laws.FnSalsa': WHATEVER THE INPUT: true; the input reads as it did. -/
def fnSalsaSpec : ChangeSpec := { name := "fnSalsa", fn := fun _ => fun
  | [d] => { results := [.lit (.bool true)], args := [d] }
  | _ => none }
def fnSalsaRow : OpenClaim := { program := "yteooohmlmefbnaa", sum := "4ff214df4ff4982eb4fd766a8f26540b5ff458d1ddd351cec54380c29bce01ef", func := "loop.example/pub-g03043/laws.FnSalsa", spec := "fnSalsa", apart := false }
def FnSalsaSaid : Prop := fnSalsaRow.holds Try.pinned (OpenSpec.ofChange fnSalsaSpec)

/-- ITS FALSE NEIGHBOUR: 'it returns false'. Refute it at one input. -/
def fnSalsaWrong : ChangeSpec := { name := "fnSalsa", fn := fun _ => fun
  | [d] => { results := [.lit (.bool false)], args := [d] }
  | _ => none }
def FnSalsaWrongFalsely : Prop := fnSalsaRow.holds Try.pinned (OpenSpec.ofChange fnSalsaWrong)

/-- 'laws.FnBlockMix': WHATEVER THE INPUT: true; the input reads as it did. -/
def fnBlockMixSpec : ChangeSpec := { name := "fnBlockMix", fn := fun _ => fun
  | [d1, d2] => { results := [.lit (.bool true)], args := [d1, d2] }
  | _ => none }
def fnBlockMixRow : OpenClaim := { program := "yteooohmlmefbnaa", sum := "4ff214df4ff4982eb4fd766a8f26540b5ff458d1ddd351cec54380c29bce01ef", func := "loop.example/pub-g03043/laws.FnBlockMix", spec := "fnBlockMix", apart := false }
def FnBlockMixSaid : Prop := fnBlockMixRow.holds Try.pinned (OpenSpec.ofChange fnBlockMixSpec)

/-- ITS FALSE NEIGHBOUR: 'it returns false'. Refute it at one input. -/
def fnBlockMixWrong : ChangeSpec := { name := "fnBlockMix", fn := fun _ => fun
  | [d1, d2] => { results := [.lit (.bool false)], args := [d1, d2] }
  | _ => none }
def FnBlockMixWrongFalsely : Prop := fnBlockMixRow.holds Try.pinned (OpenSpec.ofChange fnBlockMixWrong)

/-- 'laws.FnROMix': WHATEVER THE INPUT: true; the input reads as it did. -/
def fnROMixSpec : ChangeSpec := { name := "fnROMix", fn := fun _ => fun
  | [d1, d2, d3] => { results := [.lit (.bool true)], args := [d1, d2, d3] }
  | _ => none }
def fnROMixRow : OpenClaim := { program := "yteooohmlmefbnaa", sum := "4ff214df4ff4982eb4fd766a8f26540b5ff458d1ddd351cec54380c29bce01ef", func := "loop.example/pub-g03043/laws.FnROMix", spec := "fnROMix", apart := false }
def FnROMixSaid : Prop := fnROMixRow.holds Try.pinned (OpenSpec.ofChange fnROMixSpec)

/-- ITS FALSE NEIGHBOUR: 'it returns false'. Refute it at one input. -/
def fnROMixWrong : ChangeSpec := { name := "fnROMix", fn := fun _ => fun
  | [d1, d2, d3] => { results := [.lit (.bool false)], args := [d1, d2, d3] }
  | _ => none }
def FnROMixWrongFalsely : Prop := fnROMixRow.holds Try.pinned (OpenSpec.ofChange fnROMixWrong)

/-- 'laws.FnKey': WHATEVER THE INPUT: true; the input reads as it did. -/
def fnKeySpec : ChangeSpec := { name := "fnKey", fn := fun _ => fun
  | [d1, d2, d3, d4, d5, d6] => { results := [.lit (.bool true)], args := [d1, d2, d3, d4, d5, d6] }
  | _ => none }
def fnKeyRow : OpenClaim := { program := "yteooohmlmefbnaa", sum := "4ff214df4ff4982eb4fd766a8f26540b5ff458d1ddd351cec54380c29bce01ef", func := "loop.example/pub-g03043/laws.FnKey", spec := "fnKey", unfollowed := true, recurses := true, apart := false }
def FnKeySaid : Prop := fnKeyRow.holds Try.pinned (OpenSpec.ofChange fnKeySpec)

/-- ITS FALSE NEIGHBOUR: 'it returns false'. Refute it at one input. -/
def fnKeyWrong : ChangeSpec := { name := "fnKey", fn := fun _ => fun
  | [d1, d2, d3, d4, d5, d6] => { results := [.lit (.bool false)], args := [d1, d2, d3, d4, d5, d6] }
  | _ => none }
def FnKeyWrongFalsely : Prop := fnKeyRow.holds Try.pinned (OpenSpec.ofChange fnKeyWrong)

/-- 'laws.FnKeyLarge': WHATEVER THE INPUT: true; the input reads as it did. -/
def fnKeyLargeSpec : ChangeSpec := { name := "fnKeyLarge", fn := fun _ => fun
  | [d1, d2] => { results := [.lit (.bool true)], args := [d1, d2] }
  | _ => none }
def fnKeyLargeRow : OpenClaim := { program := "yteooohmlmefbnaa", sum := "4ff214df4ff4982eb4fd766a8f26540b5ff458d1ddd351cec54380c29bce01ef", func := "loop.example/pub-g03043/laws.FnKeyLarge", spec := "fnKeyLarge", unfollowed := true, recurses := true, apart := false }
def FnKeyLargeSaid : Prop := fnKeyLargeRow.holds Try.pinned (OpenSpec.ofChange fnKeyLargeSpec)

/-- ITS FALSE NEIGHBOUR: 'it returns false'. Refute it at one input. -/
def fnKeyLargeWrong : ChangeSpec := { name := "fnKeyLarge", fn := fun _ => fun
  | [d1, d2] => { results := [.lit (.bool false)], args := [d1, d2] }
  | _ => none }
def FnKeyLargeWrongFalsely : Prop := fnKeyLargeRow.holds Try.pinned (OpenSpec.ofChange fnKeyLargeWrong)

/-- 'laws.FnKeyPrefix': WHATEVER THE INPUT: true; the input reads as it did. -/
def fnKeyPrefixSpec : ChangeSpec := { name := "fnKeyPrefix", fn := fun _ => fun
  | [d1, d2, d3, d4, d5] => { results := [.lit (.bool true)], args := [d1, d2, d3, d4, d5] }
  | _ => none }
def fnKeyPrefixRow : OpenClaim := { program := "yteooohmlmefbnaa", sum := "4ff214df4ff4982eb4fd766a8f26540b5ff458d1ddd351cec54380c29bce01ef", func := "loop.example/pub-g03043/laws.FnKeyPrefix", spec := "fnKeyPrefix", unfollowed := true, recurses := true, apart := false }
def FnKeyPrefixSaid : Prop := fnKeyPrefixRow.holds Try.pinned (OpenSpec.ofChange fnKeyPrefixSpec)

/-- ITS FALSE NEIGHBOUR: 'it returns false'. Refute it at one input. -/
def fnKeyPrefixWrong : ChangeSpec := { name := "fnKeyPrefix", fn := fun _ => fun
  | [d1, d2, d3, d4, d5] => { results := [.lit (.bool false)], args := [d1, d2, d3, d4, d5] }
  | _ => none }
def FnKeyPrefixWrongFalsely : Prop := fnKeyPrefixRow.holds Try.pinned (OpenSpec.ofChange fnKeyPrefixWrong)

/-- 'laws.FnKeyRefused': WHATEVER THE INPUT: true; the input reads as it did. -/
def fnKeyRefusedSpec : ChangeSpec := { name := "fnKeyRefused", fn := fun _ => fun
  | [d1, d2, d3, d4, d5, d6] => { results := [.lit (.bool true)], args := [d1, d2, d3, d4, d5, d6] }
  | _ => none }
def fnKeyRefusedRow : OpenClaim := { program := "yteooohmlmefbnaa", sum := "4ff214df4ff4982eb4fd766a8f26540b5ff458d1ddd351cec54380c29bce01ef", func := "loop.example/pub-g03043/laws.FnKeyRefused", spec := "fnKeyRefused", unfollowed := true, recurses := true, apart := false }
def FnKeyRefusedSaid : Prop := fnKeyRefusedRow.holds Try.pinned (OpenSpec.ofChange fnKeyRefusedSpec)

/-- ITS FALSE NEIGHBOUR: 'it returns false'. Refute it at one input. -/
def fnKeyRefusedWrong : ChangeSpec := { name := "fnKeyRefused", fn := fun _ => fun
  | [d1, d2, d3, d4, d5, d6] => { results := [.lit (.bool false)], args := [d1, d2, d3, d4, d5, d6] }
  | _ => none }
def FnKeyRefusedWrongFalsely : Prop := fnKeyRefusedRow.holds Try.pinned (OpenSpec.ofChange fnKeyRefusedWrong)

/- THE SECOND FORM. 'bulk': how many values and letters a reading holds, each counted each time it is reached (what is shared counts as often as it is met; a slice's spare places count too). A statement '..UptoSaid' is the law's where the arguments, and the package variables that the reading takes, are together of bulk at most 1048576: NARROWER than '..Said'. Prove '..Said' where nothing that the law and all that it calls make is longer than what came in: it says more and counts as full. Else prove '..UptoSaid'. A law counts once. -/
mutual
def uptoBulk {H : Type} : DataW H → Nat
  | .lit (.string bytes) => bytes.length + 1
  | .lit _ => 1
  | .nil => 1
  | .ptr d => uptoBulk d + 1
  | .slice elems spare => uptoBulkAll elems + uptoBulkAll spare + 1
  | .agg parts => uptoBulkAll parts + 1
  | .iface _ d => uptoBulk d + 1
  | .map entries => uptoBulkEntries entries + 1
  | .held _ => 1
def uptoBulkAll {H : Type} : List (DataW H) → Nat
  | [] => 0
  | d :: r => uptoBulk d + uptoBulkAll r
def uptoBulkEntries {H : Type} : List (Lit × DataW H) → Nat
  | [] => 0
  | x :: r => uptoBulkEntry x + uptoBulkEntries r
def uptoBulkEntry {H : Type} : Lit × DataW H → Nat
  | (.string bytes, d) => bytes.length + uptoBulk d + 1
  | (_, d) => uptoBulk d + 1
 end
def uptoSmall : (H : Type) → List (DataW H) → Bool := fun _ ds => decide (uptoBulkAll ds ≤ 1048576)
def OpenSpec.upto (s : _root_.Go.ChangeSpec) : _root_.Go.OpenSpec := { _root_.Go.OpenSpec.ofChange s with cond := some uptoSmall }

/-- 'laws.FnSalsa', WHERE WHAT IT READS IS OF BULK AT MOST 1048576: true; the input reads as it did. -/
def fnSalsaUptoRow : OpenClaim := { program := "yteooohmlmefbnaa", sum := "4ff214df4ff4982eb4fd766a8f26540b5ff458d1ddd351cec54380c29bce01ef", func := "loop.example/pub-g03043/laws.FnSalsa", spec := "fnSalsa", apart := false, narrowed := true }
def FnSalsaUptoSaid : Prop := fnSalsaUptoRow.holds Try.pinned (OpenSpec.upto fnSalsaSpec)

/-- 'laws.FnBlockMix', WHERE WHAT IT READS IS OF BULK AT MOST 1048576: true; the input reads as it did. -/
def fnBlockMixUptoRow : OpenClaim := { program := "yteooohmlmefbnaa", sum := "4ff214df4ff4982eb4fd766a8f26540b5ff458d1ddd351cec54380c29bce01ef", func := "loop.example/pub-g03043/laws.FnBlockMix", spec := "fnBlockMix", apart := false, narrowed := true }
def FnBlockMixUptoSaid : Prop := fnBlockMixUptoRow.holds Try.pinned (OpenSpec.upto fnBlockMixSpec)

/-- 'laws.FnROMix', WHERE WHAT IT READS IS OF BULK AT MOST 1048576: true; the input reads as it did. -/
def fnROMixUptoRow : OpenClaim := { program := "yteooohmlmefbnaa", sum := "4ff214df4ff4982eb4fd766a8f26540b5ff458d1ddd351cec54380c29bce01ef", func := "loop.example/pub-g03043/laws.FnROMix", spec := "fnROMix", apart := false, narrowed := true }
def FnROMixUptoSaid : Prop := fnROMixUptoRow.holds Try.pinned (OpenSpec.upto fnROMixSpec)

/-- 'laws.FnKey', WHERE WHAT IT READS IS OF BULK AT MOST 1048576: true; the input reads as it did. -/
def fnKeyUptoRow : OpenClaim := { program := "yteooohmlmefbnaa", sum := "4ff214df4ff4982eb4fd766a8f26540b5ff458d1ddd351cec54380c29bce01ef", func := "loop.example/pub-g03043/laws.FnKey", spec := "fnKey", unfollowed := true, recurses := true, apart := false, narrowed := true }
def FnKeyUptoSaid : Prop := fnKeyUptoRow.holds Try.pinned (OpenSpec.upto fnKeySpec)

/-- 'laws.FnKeyLarge', WHERE WHAT IT READS IS OF BULK AT MOST 1048576: true; the input reads as it did. -/
def fnKeyLargeUptoRow : OpenClaim := { program := "yteooohmlmefbnaa", sum := "4ff214df4ff4982eb4fd766a8f26540b5ff458d1ddd351cec54380c29bce01ef", func := "loop.example/pub-g03043/laws.FnKeyLarge", spec := "fnKeyLarge", unfollowed := true, recurses := true, apart := false, narrowed := true }
def FnKeyLargeUptoSaid : Prop := fnKeyLargeUptoRow.holds Try.pinned (OpenSpec.upto fnKeyLargeSpec)

/-- 'laws.FnKeyPrefix', WHERE WHAT IT READS IS OF BULK AT MOST 1048576: true; the input reads as it did. -/
def fnKeyPrefixUptoRow : OpenClaim := { program := "yteooohmlmefbnaa", sum := "4ff214df4ff4982eb4fd766a8f26540b5ff458d1ddd351cec54380c29bce01ef", func := "loop.example/pub-g03043/laws.FnKeyPrefix", spec := "fnKeyPrefix", unfollowed := true, recurses := true, apart := false, narrowed := true }
def FnKeyPrefixUptoSaid : Prop := fnKeyPrefixUptoRow.holds Try.pinned (OpenSpec.upto fnKeyPrefixSpec)

/-- 'laws.FnKeyRefused', WHERE WHAT IT READS IS OF BULK AT MOST 1048576: true; the input reads as it did. -/
def fnKeyRefusedUptoRow : OpenClaim := { program := "yteooohmlmefbnaa", sum := "4ff214df4ff4982eb4fd766a8f26540b5ff458d1ddd351cec54380c29bce01ef", func := "loop.example/pub-g03043/laws.FnKeyRefused", spec := "fnKeyRefused", unfollowed := true, recurses := true, apart := false, narrowed := true }
def FnKeyRefusedUptoSaid : Prop := fnKeyRefusedUptoRow.holds Try.pinned (OpenSpec.upto fnKeyRefusedSpec)

end Rows
end Go.Proofs.Yteooohmlmefbnaa
