/-
  No cell of these rows narrows 'for every input' (looked for: loops, veiled, ifaces, maps, wideKeys, modest, calm, conditions, laid).
  DERIVED. THE GIVEN ROWS OF THIS SEAT. 9 by the template 'for every input the law returns true; each argument reads behind the call as it read before'; 0 by the template 'total and deterministic' (their statements: YtjkpfliaflmppaaTotals.lean).
  GIVEN WITH THE SEED: the statements are not yours to turn. If you find one false, say at which input.
  Laid BY PROGRAM, IN A SANDBOX (cutbox-rows.mjs): the forced cells as the released guide's own fill.sh prints them over the translation 579c4f01ad8bd732… (all of the seat's roots in one cut). By AI agents, Wed Nov 11 2026. No macro, syntax, notation, axiom, sorry.
-/
import Derived.Test.YtjkpfliaflmppaaChecked
import GoSem.Claim
import GoSem.ClaimJoined
import GoSem.ClaimMapViews
import Derived.JoinedTies
import Derived.KernelRfl
namespace Go.Proofs.Ytjkpfliaflmppaa
/- THE CELL 'sum', in the pinned program and in every row, IS THE sha256 OF THE DUMP (.gsa) THAT YtjkpfliaflmppaaProg.lean LOADS. Nothing in Lean hashes anything: it is a label: what it is worth is what the hold of that sum in a sandbox is worth. -/
noncomputable def Try.pinned : Pinned := { name := "ytjkpfliaflmppaa", sum := "579c4f01ad8bd7321f8e40b74bf17959354058d4a76d0b1d0638d214f3e983c5", checked := Try.checked }
namespace Rows
def none {H : Type} : Left H := { results := [], args := [] }

/-- 'laws.FnPrefixes': WHATEVER THE INPUT: true; the input reads as it did. -/
def fnPrefixesSpec : ChangeSpec := { name := "fnPrefixes", fn := fun _ => fun
  | [d1, d2, d3] => { results := [.lit (.bool true)], args := [d1, d2, d3] }
  | _ => none }
def fnPrefixesRow : OpenClaim := { program := "ytjkpfliaflmppaa", sum := "579c4f01ad8bd7321f8e40b74bf17959354058d4a76d0b1d0638d214f3e983c5", func := "pub-calthrop/laws.FnPrefixes", spec := "fnPrefixes", unfollowed := true, recurses := true, named := ["encoding/binary.LittleEndian"], apart := false }
def FnPrefixesSaid : Prop := fnPrefixesRow.holds Try.pinned (OpenSpec.ofChange fnPrefixesSpec)

/-- ITS FALSE NEIGHBOUR: 'it returns false'. Refute it at one input. -/
def fnPrefixesWrong : ChangeSpec := { name := "fnPrefixes", fn := fun _ => fun
  | [d1, d2, d3] => { results := [.lit (.bool false)], args := [d1, d2, d3] }
  | _ => none }
def FnPrefixesWrongFalsely : Prop := fnPrefixesRow.holds Try.pinned (OpenSpec.ofChange fnPrefixesWrong)

/-- 'laws.FnWritten': WHATEVER THE INPUT: true; the input reads as it did. -/
def fnWrittenSpec : ChangeSpec := { name := "fnWritten", fn := fun _ => fun
  | [d1, d2, d3, d4] => { results := [.lit (.bool true)], args := [d1, d2, d3, d4] }
  | _ => none }
def fnWrittenRow : OpenClaim := { program := "ytjkpfliaflmppaa", sum := "579c4f01ad8bd7321f8e40b74bf17959354058d4a76d0b1d0638d214f3e983c5", func := "pub-calthrop/laws.FnWritten", spec := "fnWritten", unfollowed := true, recurses := true, named := ["encoding/binary.LittleEndian"], apart := false }
def FnWrittenSaid : Prop := fnWrittenRow.holds Try.pinned (OpenSpec.ofChange fnWrittenSpec)

/-- ITS FALSE NEIGHBOUR: 'it returns false'. Refute it at one input. -/
def fnWrittenWrong : ChangeSpec := { name := "fnWritten", fn := fun _ => fun
  | [d1, d2, d3, d4] => { results := [.lit (.bool false)], args := [d1, d2, d3, d4] }
  | _ => none }
def FnWrittenWrongFalsely : Prop := fnWrittenRow.holds Try.pinned (OpenSpec.ofChange fnWrittenWrong)

/-- 'laws.FnCodeNumbers': WHATEVER THE INPUT: true; the input reads as it did. -/
def fnCodeNumbersSpec : ChangeSpec := { name := "fnCodeNumbers", fn := fun _ => fun
  | [d] => { results := [.lit (.bool true)], args := [d] }
  | _ => none }
def fnCodeNumbersRow : OpenClaim := { program := "ytjkpfliaflmppaa", sum := "579c4f01ad8bd7321f8e40b74bf17959354058d4a76d0b1d0638d214f3e983c5", func := "pub-calthrop/laws.FnCodeNumbers", spec := "fnCodeNumbers", unfollowed := true, recurses := true, named := ["encoding/binary.LittleEndian"], apart := false }
def FnCodeNumbersSaid : Prop := fnCodeNumbersRow.holds Try.pinned (OpenSpec.ofChange fnCodeNumbersSpec)

/-- ITS FALSE NEIGHBOUR: 'it returns false'. Refute it at one input. -/
def fnCodeNumbersWrong : ChangeSpec := { name := "fnCodeNumbers", fn := fun _ => fun
  | [d] => { results := [.lit (.bool false)], args := [d] }
  | _ => none }
def FnCodeNumbersWrongFalsely : Prop := fnCodeNumbersRow.holds Try.pinned (OpenSpec.ofChange fnCodeNumbersWrong)

/-- 'laws.FnSorted': WHATEVER THE INPUT: true; the input reads as it did. -/
def fnSortedSpec : ChangeSpec := { name := "fnSorted", fn := fun _ => fun
  | [d1, d2] => { results := [.lit (.bool true)], args := [d1, d2] }
  | _ => none }
def fnSortedRow : OpenClaim := { program := "ytjkpfliaflmppaa", sum := "579c4f01ad8bd7321f8e40b74bf17959354058d4a76d0b1d0638d214f3e983c5", func := "pub-calthrop/laws.FnSorted", spec := "fnSorted", unfollowed := true, recurses := true, named := ["encoding/binary.LittleEndian"], apart := false }
def FnSortedSaid : Prop := fnSortedRow.holds Try.pinned (OpenSpec.ofChange fnSortedSpec)

/-- ITS FALSE NEIGHBOUR: 'it returns false'. Refute it at one input. -/
def fnSortedWrong : ChangeSpec := { name := "fnSorted", fn := fun _ => fun
  | [d1, d2] => { results := [.lit (.bool false)], args := [d1, d2] }
  | _ => none }
def FnSortedWrongFalsely : Prop := fnSortedRow.holds Try.pinned (OpenSpec.ofChange fnSortedWrong)

/-- 'laws.FnLengthsRefuses': WHATEVER THE INPUT: true; the input reads as it did. -/
def fnLengthsRefusesSpec : ChangeSpec := { name := "fnLengthsRefuses", fn := fun _ => fun
  | [d1, d2] => { results := [.lit (.bool true)], args := [d1, d2] }
  | _ => none }
def fnLengthsRefusesRow : OpenClaim := { program := "ytjkpfliaflmppaa", sum := "579c4f01ad8bd7321f8e40b74bf17959354058d4a76d0b1d0638d214f3e983c5", func := "pub-calthrop/laws.FnLengthsRefuses", spec := "fnLengthsRefuses", unfollowed := true, recurses := true, named := ["encoding/binary.LittleEndian"], apart := false }
def FnLengthsRefusesSaid : Prop := fnLengthsRefusesRow.holds Try.pinned (OpenSpec.ofChange fnLengthsRefusesSpec)

/-- ITS FALSE NEIGHBOUR: 'it returns false'. Refute it at one input. -/
def fnLengthsRefusesWrong : ChangeSpec := { name := "fnLengthsRefuses", fn := fun _ => fun
  | [d1, d2] => { results := [.lit (.bool false)], args := [d1, d2] }
  | _ => none }
def FnLengthsRefusesWrongFalsely : Prop := fnLengthsRefusesRow.holds Try.pinned (OpenSpec.ofChange fnLengthsRefusesWrong)

/-- 'laws.FnErrors': WHATEVER THE INPUT: true; the input reads as it did. -/
def fnErrorsSpec : ChangeSpec := { name := "fnErrors", fn := fun _ => fun
  | [d1, d2, d3] => { results := [.lit (.bool true)], args := [d1, d2, d3] }
  | _ => none }
def fnErrorsRow : OpenClaim := { program := "ytjkpfliaflmppaa", sum := "579c4f01ad8bd7321f8e40b74bf17959354058d4a76d0b1d0638d214f3e983c5", func := "pub-calthrop/laws.FnErrors", spec := "fnErrors", unfollowed := true, recurses := true, named := ["encoding/binary.LittleEndian"], apart := false }
def FnErrorsSaid : Prop := fnErrorsRow.holds Try.pinned (OpenSpec.ofChange fnErrorsSpec)

/-- ITS FALSE NEIGHBOUR: 'it returns false'. Refute it at one input. -/
def fnErrorsWrong : ChangeSpec := { name := "fnErrors", fn := fun _ => fun
  | [d1, d2, d3] => { results := [.lit (.bool false)], args := [d1, d2, d3] }
  | _ => none }
def FnErrorsWrongFalsely : Prop := fnErrorsRow.holds Try.pinned (OpenSpec.ofChange fnErrorsWrong)

/-- 'laws.FnLengths': WHATEVER THE INPUT: true; the input reads as it did. -/
def fnLengthsSpec : ChangeSpec := { name := "fnLengths", fn := fun _ => fun
  | [d1, d2] => { results := [.lit (.bool true)], args := [d1, d2] }
  | _ => none }
def fnLengthsRow : OpenClaim := { program := "ytjkpfliaflmppaa", sum := "579c4f01ad8bd7321f8e40b74bf17959354058d4a76d0b1d0638d214f3e983c5", func := "pub-calthrop/laws.FnLengths", spec := "fnLengths", unfollowed := true, recurses := true, named := ["encoding/binary.LittleEndian"], apart := false }
def FnLengthsSaid : Prop := fnLengthsRow.holds Try.pinned (OpenSpec.ofChange fnLengthsSpec)

/-- ITS FALSE NEIGHBOUR: 'it returns false'. Refute it at one input. -/
def fnLengthsWrong : ChangeSpec := { name := "fnLengths", fn := fun _ => fun
  | [d1, d2] => { results := [.lit (.bool false)], args := [d1, d2] }
  | _ => none }
def FnLengthsWrongFalsely : Prop := fnLengthsRow.holds Try.pinned (OpenSpec.ofChange fnLengthsWrong)

/-- 'laws.FnRanges': WHATEVER THE INPUT: true; the input reads as it did. -/
def fnRangesSpec : ChangeSpec := { name := "fnRanges", fn := fun _ => fun
  | [d1, d2, d3] => { results := [.lit (.bool true)], args := [d1, d2, d3] }
  | _ => none }
def fnRangesRow : OpenClaim := { program := "ytjkpfliaflmppaa", sum := "579c4f01ad8bd7321f8e40b74bf17959354058d4a76d0b1d0638d214f3e983c5", func := "pub-calthrop/laws.FnRanges", spec := "fnRanges", unfollowed := true, recurses := true, named := ["encoding/binary.LittleEndian"], apart := false }
def FnRangesSaid : Prop := fnRangesRow.holds Try.pinned (OpenSpec.ofChange fnRangesSpec)

/-- ITS FALSE NEIGHBOUR: 'it returns false'. Refute it at one input. -/
def fnRangesWrong : ChangeSpec := { name := "fnRanges", fn := fun _ => fun
  | [d1, d2, d3] => { results := [.lit (.bool false)], args := [d1, d2, d3] }
  | _ => none }
def FnRangesWrongFalsely : Prop := fnRangesRow.holds Try.pinned (OpenSpec.ofChange fnRangesWrong)

/-- 'laws.FnWriteTry': WHATEVER THE INPUT: true; the input reads as it did. -/
def fnWriteTrySpec : ChangeSpec := { name := "fnWriteTry", fn := fun _ => fun
  | [d1, d2, d3, d4, d5] => { results := [.lit (.bool true)], args := [d1, d2, d3, d4, d5] }
  | _ => none }
def fnWriteTryRow : OpenClaim := { program := "ytjkpfliaflmppaa", sum := "579c4f01ad8bd7321f8e40b74bf17959354058d4a76d0b1d0638d214f3e983c5", func := "pub-calthrop/laws.FnWriteTry", spec := "fnWriteTry", unfollowed := true, recurses := true, named := ["encoding/binary.LittleEndian"], apart := false }
def FnWriteTrySaid : Prop := fnWriteTryRow.holds Try.pinned (OpenSpec.ofChange fnWriteTrySpec)

/-- ITS FALSE NEIGHBOUR: 'it returns false'. Refute it at one input. -/
def fnWriteTryWrong : ChangeSpec := { name := "fnWriteTry", fn := fun _ => fun
  | [d1, d2, d3, d4, d5] => { results := [.lit (.bool false)], args := [d1, d2, d3, d4, d5] }
  | _ => none }
def FnWriteTryWrongFalsely : Prop := fnWriteTryRow.holds Try.pinned (OpenSpec.ofChange fnWriteTryWrong)

/- THE SECOND FORM. 'bulk': how many values and letters a reading holds, each counted each time it is reached (what is shared counts as often as it is met; a slice's spare places count too). A statement '..UptoSaid' is the law's where the arguments, and the package variables that the reading takes, are together of bulk at most 1048576: NARROWER than '..Said'. Prove '..Said' where nothing that the law and all that it calls make is longer than what came in: it says more and counts as full. Else prove '..UptoSaid'. A law counts once. -/
mutual
def uptoBulk {H : Type} : DataW H → Nat
  | .lit (.string bytes) => bytes.length + 1
  | .lit _ => 1
  | .nil => 1
  | .ptr d => uptoBulk d + 1
  | .slice elems spare => uptoBulkAll elems + uptoBulkAll spare + 1
  | .agg parts => uptoBulkAll parts + 1
  | .iface _ d => uptoBulk d + 1
  | .map entries => uptoBulkEntries entries + 1
  | .held _ => 1
def uptoBulkAll {H : Type} : List (DataW H) → Nat
  | [] => 0
  | d :: r => uptoBulk d + uptoBulkAll r
def uptoBulkEntries {H : Type} : List (Lit × DataW H) → Nat
  | [] => 0
  | x :: r => uptoBulkEntry x + uptoBulkEntries r
def uptoBulkEntry {H : Type} : Lit × DataW H → Nat
  | (.string bytes, d) => bytes.length + uptoBulk d + 1
  | (_, d) => uptoBulk d + 1
 end
def uptoSmall : (H : Type) → List (DataW H) → Bool := fun _ ds => decide (uptoBulkAll ds ≤ 1048576)
def OpenSpec.upto (s : _root_.Go.ChangeSpec) : _root_.Go.OpenSpec := { _root_.Go.OpenSpec.ofChange s with cond := some uptoSmall }

/-- 'laws.FnPrefixes', WHERE WHAT IT READS IS OF BULK AT MOST 1048576: true; the input reads as it did. -/
def fnPrefixesUptoRow : OpenClaim := { program := "ytjkpfliaflmppaa", sum := "579c4f01ad8bd7321f8e40b74bf17959354058d4a76d0b1d0638d214f3e983c5", func := "pub-calthrop/laws.FnPrefixes", spec := "fnPrefixes", unfollowed := true, recurses := true, named := ["encoding/binary.LittleEndian"], apart := false, narrowed := true }
def FnPrefixesUptoSaid : Prop := fnPrefixesUptoRow.holds Try.pinned (OpenSpec.upto fnPrefixesSpec)

/-- 'laws.FnWritten', WHERE WHAT IT READS IS OF BULK AT MOST 1048576: true; the input reads as it did. -/
def fnWrittenUptoRow : OpenClaim := { program := "ytjkpfliaflmppaa", sum := "579c4f01ad8bd7321f8e40b74bf17959354058d4a76d0b1d0638d214f3e983c5", func := "pub-calthrop/laws.FnWritten", spec := "fnWritten", unfollowed := true, recurses := true, named := ["encoding/binary.LittleEndian"], apart := false, narrowed := true }
def FnWrittenUptoSaid : Prop := fnWrittenUptoRow.holds Try.pinned (OpenSpec.upto fnWrittenSpec)

/-- 'laws.FnCodeNumbers', WHERE WHAT IT READS IS OF BULK AT MOST 1048576: true; the input reads as it did. -/
def fnCodeNumbersUptoRow : OpenClaim := { program := "ytjkpfliaflmppaa", sum := "579c4f01ad8bd7321f8e40b74bf17959354058d4a76d0b1d0638d214f3e983c5", func := "pub-calthrop/laws.FnCodeNumbers", spec := "fnCodeNumbers", unfollowed := true, recurses := true, named := ["encoding/binary.LittleEndian"], apart := false, narrowed := true }
def FnCodeNumbersUptoSaid : Prop := fnCodeNumbersUptoRow.holds Try.pinned (OpenSpec.upto fnCodeNumbersSpec)

/-- 'laws.FnSorted', WHERE WHAT IT READS IS OF BULK AT MOST 1048576: true; the input reads as it did. -/
def fnSortedUptoRow : OpenClaim := { program := "ytjkpfliaflmppaa", sum := "579c4f01ad8bd7321f8e40b74bf17959354058d4a76d0b1d0638d214f3e983c5", func := "pub-calthrop/laws.FnSorted", spec := "fnSorted", unfollowed := true, recurses := true, named := ["encoding/binary.LittleEndian"], apart := false, narrowed := true }
def FnSortedUptoSaid : Prop := fnSortedUptoRow.holds Try.pinned (OpenSpec.upto fnSortedSpec)

/-- 'laws.FnLengthsRefuses', WHERE WHAT IT READS IS OF BULK AT MOST 1048576: true; the input reads as it did. -/
def fnLengthsRefusesUptoRow : OpenClaim := { program := "ytjkpfliaflmppaa", sum := "579c4f01ad8bd7321f8e40b74bf17959354058d4a76d0b1d0638d214f3e983c5", func := "pub-calthrop/laws.FnLengthsRefuses", spec := "fnLengthsRefuses", unfollowed := true, recurses := true, named := ["encoding/binary.LittleEndian"], apart := false, narrowed := true }
def FnLengthsRefusesUptoSaid : Prop := fnLengthsRefusesUptoRow.holds Try.pinned (OpenSpec.upto fnLengthsRefusesSpec)

/-- 'laws.FnErrors', WHERE WHAT IT READS IS OF BULK AT MOST 1048576: true; the input reads as it did. -/
def fnErrorsUptoRow : OpenClaim := { program := "ytjkpfliaflmppaa", sum := "579c4f01ad8bd7321f8e40b74bf17959354058d4a76d0b1d0638d214f3e983c5", func := "pub-calthrop/laws.FnErrors", spec := "fnErrors", unfollowed := true, recurses := true, named := ["encoding/binary.LittleEndian"], apart := false, narrowed := true }
def FnErrorsUptoSaid : Prop := fnErrorsUptoRow.holds Try.pinned (OpenSpec.upto fnErrorsSpec)

/-- 'laws.FnLengths', WHERE WHAT IT READS IS OF BULK AT MOST 1048576: true; the input reads as it did. -/
def fnLengthsUptoRow : OpenClaim := { program := "ytjkpfliaflmppaa", sum := "579c4f01ad8bd7321f8e40b74bf17959354058d4a76d0b1d0638d214f3e983c5", func := "pub-calthrop/laws.FnLengths", spec := "fnLengths", unfollowed := true, recurses := true, named := ["encoding/binary.LittleEndian"], apart := false, narrowed := true }
def FnLengthsUptoSaid : Prop := fnLengthsUptoRow.holds Try.pinned (OpenSpec.upto fnLengthsSpec)

/-- 'laws.FnRanges', WHERE WHAT IT READS IS OF BULK AT MOST 1048576: true; the input reads as it did. -/
def fnRangesUptoRow : OpenClaim := { program := "ytjkpfliaflmppaa", sum := "579c4f01ad8bd7321f8e40b74bf17959354058d4a76d0b1d0638d214f3e983c5", func := "pub-calthrop/laws.FnRanges", spec := "fnRanges", unfollowed := true, recurses := true, named := ["encoding/binary.LittleEndian"], apart := false, narrowed := true }
def FnRangesUptoSaid : Prop := fnRangesUptoRow.holds Try.pinned (OpenSpec.upto fnRangesSpec)

/-- 'laws.FnWriteTry', WHERE WHAT IT READS IS OF BULK AT MOST 1048576: true; the input reads as it did. -/
def fnWriteTryUptoRow : OpenClaim := { program := "ytjkpfliaflmppaa", sum := "579c4f01ad8bd7321f8e40b74bf17959354058d4a76d0b1d0638d214f3e983c5", func := "pub-calthrop/laws.FnWriteTry", spec := "fnWriteTry", unfollowed := true, recurses := true, named := ["encoding/binary.LittleEndian"], apart := false, narrowed := true }
def FnWriteTryUptoSaid : Prop := fnWriteTryUptoRow.holds Try.pinned (OpenSpec.upto fnWriteTrySpec)

end Rows
end Go.Proofs.Ytjkpfliaflmppaa
