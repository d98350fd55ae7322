/-
  No cell of these rows narrows 'for every input' (looked for: loops, veiled, ifaces, maps, wideKeys, modest, calm, conditions, laid).
  DERIVED. THE GIVEN ROWS OF THIS SEAT. 6 by the template 'for every input the law returns true; each argument reads behind the call as it read before'; 0 by the template 'total and deterministic' (their statements: YtmmhifomfbdfjaaTotals.lean).
  GIVEN WITH THE SEED: the statements are not yours to turn. If you find one false, say at which input.
  Laid BY PROGRAM, IN A SANDBOX (cutbox-rows.mjs): the forced cells as the released guide's own fill.sh prints them over the translation ef2f1549205903b3… (all of the seat's roots in one cut). By AI agents, Wed Nov 11 2026. No macro, syntax, notation, axiom, sorry.
-/
import Derived.Test.YtmmhifomfbdfjaaChecked
import GoSem.Claim
import GoSem.ClaimJoined
import GoSem.ClaimMapViews
import Derived.JoinedTies
import Derived.KernelRfl
namespace Go.Proofs.Ytmmhifomfbdfjaa
/- THE CELL 'sum', in the pinned program and in every row, IS THE sha256 OF THE DUMP (.gsa) THAT YtmmhifomfbdfjaaProg.lean LOADS. Nothing in Lean hashes anything: it is a label: what it is worth is what the hold of that sum in a sandbox is worth. -/
noncomputable def Try.pinned : Pinned := { name := "ytmmhifomfbdfjaa", sum := "ef2f1549205903b3b6e11cd9a9884a736c2b7ec6ea8a9dbf4388d2a42330ec46", checked := Try.checked }
namespace Rows
def none {H : Type} : Left H := { results := [], args := [] }

/-- 'laws.FnLengths': WHATEVER THE INPUT: true; the input reads as it did. -/
def fnLengthsSpec : ChangeSpec := { name := "fnLengths", fn := fun _ => fun
  | [d1, d2] => { results := [.lit (.bool true)], args := [d1, d2] }
  | _ => none }
def fnLengthsRow : OpenClaim := { program := "ytmmhifomfbdfjaa", sum := "ef2f1549205903b3b6e11cd9a9884a736c2b7ec6ea8a9dbf4388d2a42330ec46", func := "nkeytexts/laws.FnLengths", spec := "fnLengths", unfollowed := true, recurses := true, apart := false }
def FnLengthsSaid : Prop := fnLengthsRow.holds Try.pinned (OpenSpec.ofChange fnLengthsSpec)

/-- ITS FALSE NEIGHBOUR: 'it returns false'. Refute it at one input. -/
def fnLengthsWrong : ChangeSpec := { name := "fnLengths", fn := fun _ => fun
  | [d1, d2] => { results := [.lit (.bool false)], args := [d1, d2] }
  | _ => none }
def FnLengthsWrongFalsely : Prop := fnLengthsRow.holds Try.pinned (OpenSpec.ofChange fnLengthsWrong)

/-- 'laws.FnBroken': WHATEVER THE INPUT: true; the input reads as it did. -/
def fnBrokenSpec : ChangeSpec := { name := "fnBroken", fn := fun _ => fun
  | [d1, d2, d3, d4, d5] => { results := [.lit (.bool true)], args := [d1, d2, d3, d4, d5] }
  | _ => none }
def fnBrokenRow : OpenClaim := { program := "ytmmhifomfbdfjaa", sum := "ef2f1549205903b3b6e11cd9a9884a736c2b7ec6ea8a9dbf4388d2a42330ec46", func := "nkeytexts/laws.FnBroken", spec := "fnBroken", unfollowed := true, recurses := true, apart := false }
def FnBrokenSaid : Prop := fnBrokenRow.holds Try.pinned (OpenSpec.ofChange fnBrokenSpec)

/-- ITS FALSE NEIGHBOUR: 'it returns false'. Refute it at one input. -/
def fnBrokenWrong : ChangeSpec := { name := "fnBroken", fn := fun _ => fun
  | [d1, d2, d3, d4, d5] => { results := [.lit (.bool false)], args := [d1, d2, d3, d4, d5] }
  | _ => none }
def FnBrokenWrongFalsely : Prop := fnBrokenRow.holds Try.pinned (OpenSpec.ofChange fnBrokenWrong)

/-- 'laws.FnOther': WHATEVER THE INPUT: true; the input reads as it did. -/
def fnOtherSpec : ChangeSpec := { name := "fnOther", fn := fun _ => fun
  | [d1, d2, d3] => { results := [.lit (.bool true)], args := [d1, d2, d3] }
  | _ => none }
def fnOtherRow : OpenClaim := { program := "ytmmhifomfbdfjaa", sum := "ef2f1549205903b3b6e11cd9a9884a736c2b7ec6ea8a9dbf4388d2a42330ec46", func := "nkeytexts/laws.FnOther", spec := "fnOther", unfollowed := true, recurses := true, apart := false }
def FnOtherSaid : Prop := fnOtherRow.holds Try.pinned (OpenSpec.ofChange fnOtherSpec)

/-- ITS FALSE NEIGHBOUR: 'it returns false'. Refute it at one input. -/
def fnOtherWrong : ChangeSpec := { name := "fnOther", fn := fun _ => fun
  | [d1, d2, d3] => { results := [.lit (.bool false)], args := [d1, d2, d3] }
  | _ => none }
def FnOtherWrongFalsely : Prop := fnOtherRow.holds Try.pinned (OpenSpec.ofChange fnOtherWrong)

/-- 'laws.FnValid': WHATEVER THE INPUT: true; the input reads as it did. -/
def fnValidSpec : ChangeSpec := { name := "fnValid", fn := fun _ => fun
  | [d1, d2, d3] => { results := [.lit (.bool true)], args := [d1, d2, d3] }
  | _ => none }
def fnValidRow : OpenClaim := { program := "ytmmhifomfbdfjaa", sum := "ef2f1549205903b3b6e11cd9a9884a736c2b7ec6ea8a9dbf4388d2a42330ec46", func := "nkeytexts/laws.FnValid", spec := "fnValid", unfollowed := true, recurses := true, apart := false }
def FnValidSaid : Prop := fnValidRow.holds Try.pinned (OpenSpec.ofChange fnValidSpec)

/-- ITS FALSE NEIGHBOUR: 'it returns false'. Refute it at one input. -/
def fnValidWrong : ChangeSpec := { name := "fnValid", fn := fun _ => fun
  | [d1, d2, d3] => { results := [.lit (.bool false)], args := [d1, d2, d3] }
  | _ => none }
def FnValidWrongFalsely : Prop := fnValidRow.holds Try.pinned (OpenSpec.ofChange fnValidWrong)

/-- 'laws.FnEncode': WHATEVER THE INPUT: true; the input reads as it did. -/
def fnEncodeSpec : ChangeSpec := { name := "fnEncode", fn := fun _ => fun
  | [d1, d2] => { results := [.lit (.bool true)], args := [d1, d2] }
  | _ => none }
def fnEncodeRow : OpenClaim := { program := "ytmmhifomfbdfjaa", sum := "ef2f1549205903b3b6e11cd9a9884a736c2b7ec6ea8a9dbf4388d2a42330ec46", func := "nkeytexts/laws.FnEncode", spec := "fnEncode", unfollowed := true, recurses := true, apart := false }
def FnEncodeSaid : Prop := fnEncodeRow.holds Try.pinned (OpenSpec.ofChange fnEncodeSpec)

/-- ITS FALSE NEIGHBOUR: 'it returns false'. Refute it at one input. -/
def fnEncodeWrong : ChangeSpec := { name := "fnEncode", fn := fun _ => fun
  | [d1, d2] => { results := [.lit (.bool false)], args := [d1, d2] }
  | _ => none }
def FnEncodeWrongFalsely : Prop := fnEncodeRow.holds Try.pinned (OpenSpec.ofChange fnEncodeWrong)

/-- 'laws.FnSeed': WHATEVER THE INPUT: true; the input reads as it did. -/
def fnSeedSpec : ChangeSpec := { name := "fnSeed", fn := fun _ => fun
  | [d1, d2] => { results := [.lit (.bool true)], args := [d1, d2] }
  | _ => none }
def fnSeedRow : OpenClaim := { program := "ytmmhifomfbdfjaa", sum := "ef2f1549205903b3b6e11cd9a9884a736c2b7ec6ea8a9dbf4388d2a42330ec46", func := "nkeytexts/laws.FnSeed", spec := "fnSeed", unfollowed := true, recurses := true, apart := false }
def FnSeedSaid : Prop := fnSeedRow.holds Try.pinned (OpenSpec.ofChange fnSeedSpec)

/-- ITS FALSE NEIGHBOUR: 'it returns false'. Refute it at one input. -/
def fnSeedWrong : ChangeSpec := { name := "fnSeed", fn := fun _ => fun
  | [d1, d2] => { results := [.lit (.bool false)], args := [d1, d2] }
  | _ => none }
def FnSeedWrongFalsely : Prop := fnSeedRow.holds Try.pinned (OpenSpec.ofChange fnSeedWrong)

/- THE SECOND FORM. 'bulk': how many values and letters a reading holds, each counted each time it is reached (what is shared counts as often as it is met; a slice's spare places count too). A statement '..UptoSaid' is the law's where the arguments, and the package variables that the reading takes, are together of bulk at most 1048576: NARROWER than '..Said'. Prove '..Said' where nothing that the law and all that it calls make is longer than what came in: it says more and counts as full. Else prove '..UptoSaid'. A law counts once. -/
mutual
def uptoBulk {H : Type} : DataW H → Nat
  | .lit (.string bytes) => bytes.length + 1
  | .lit _ => 1
  | .nil => 1
  | .ptr d => uptoBulk d + 1
  | .slice elems spare => uptoBulkAll elems + uptoBulkAll spare + 1
  | .agg parts => uptoBulkAll parts + 1
  | .iface _ d => uptoBulk d + 1
  | .map entries => uptoBulkEntries entries + 1
  | .held _ => 1
def uptoBulkAll {H : Type} : List (DataW H) → Nat
  | [] => 0
  | d :: r => uptoBulk d + uptoBulkAll r
def uptoBulkEntries {H : Type} : List (Lit × DataW H) → Nat
  | [] => 0
  | x :: r => uptoBulkEntry x + uptoBulkEntries r
def uptoBulkEntry {H : Type} : Lit × DataW H → Nat
  | (.string bytes, d) => bytes.length + uptoBulk d + 1
  | (_, d) => uptoBulk d + 1
 end
def uptoSmall : (H : Type) → List (DataW H) → Bool := fun _ ds => decide (uptoBulkAll ds ≤ 1048576)
def OpenSpec.upto (s : _root_.Go.ChangeSpec) : _root_.Go.OpenSpec := { _root_.Go.OpenSpec.ofChange s with cond := some uptoSmall }

/-- 'laws.FnLengths', WHERE WHAT IT READS IS OF BULK AT MOST 1048576: true; the input reads as it did. -/
def fnLengthsUptoRow : OpenClaim := { program := "ytmmhifomfbdfjaa", sum := "ef2f1549205903b3b6e11cd9a9884a736c2b7ec6ea8a9dbf4388d2a42330ec46", func := "nkeytexts/laws.FnLengths", spec := "fnLengths", unfollowed := true, recurses := true, apart := false, narrowed := true }
def FnLengthsUptoSaid : Prop := fnLengthsUptoRow.holds Try.pinned (OpenSpec.upto fnLengthsSpec)

/-- 'laws.FnBroken', WHERE WHAT IT READS IS OF BULK AT MOST 1048576: true; the input reads as it did. -/
def fnBrokenUptoRow : OpenClaim := { program := "ytmmhifomfbdfjaa", sum := "ef2f1549205903b3b6e11cd9a9884a736c2b7ec6ea8a9dbf4388d2a42330ec46", func := "nkeytexts/laws.FnBroken", spec := "fnBroken", unfollowed := true, recurses := true, apart := false, narrowed := true }
def FnBrokenUptoSaid : Prop := fnBrokenUptoRow.holds Try.pinned (OpenSpec.upto fnBrokenSpec)

/-- 'laws.FnOther', WHERE WHAT IT READS IS OF BULK AT MOST 1048576: true; the input reads as it did. -/
def fnOtherUptoRow : OpenClaim := { program := "ytmmhifomfbdfjaa", sum := "ef2f1549205903b3b6e11cd9a9884a736c2b7ec6ea8a9dbf4388d2a42330ec46", func := "nkeytexts/laws.FnOther", spec := "fnOther", unfollowed := true, recurses := true, apart := false, narrowed := true }
def FnOtherUptoSaid : Prop := fnOtherUptoRow.holds Try.pinned (OpenSpec.upto fnOtherSpec)

/-- 'laws.FnValid', WHERE WHAT IT READS IS OF BULK AT MOST 1048576: true; the input reads as it did. -/
def fnValidUptoRow : OpenClaim := { program := "ytmmhifomfbdfjaa", sum := "ef2f1549205903b3b6e11cd9a9884a736c2b7ec6ea8a9dbf4388d2a42330ec46", func := "nkeytexts/laws.FnValid", spec := "fnValid", unfollowed := true, recurses := true, apart := false, narrowed := true }
def FnValidUptoSaid : Prop := fnValidUptoRow.holds Try.pinned (OpenSpec.upto fnValidSpec)

/-- 'laws.FnEncode', WHERE WHAT IT READS IS OF BULK AT MOST 1048576: true; the input reads as it did. -/
def fnEncodeUptoRow : OpenClaim := { program := "ytmmhifomfbdfjaa", sum := "ef2f1549205903b3b6e11cd9a9884a736c2b7ec6ea8a9dbf4388d2a42330ec46", func := "nkeytexts/laws.FnEncode", spec := "fnEncode", unfollowed := true, recurses := true, apart := false, narrowed := true }
def FnEncodeUptoSaid : Prop := fnEncodeUptoRow.holds Try.pinned (OpenSpec.upto fnEncodeSpec)

/-- 'laws.FnSeed', WHERE WHAT IT READS IS OF BULK AT MOST 1048576: true; the input reads as it did. -/
def fnSeedUptoRow : OpenClaim := { program := "ytmmhifomfbdfjaa", sum := "ef2f1549205903b3b6e11cd9a9884a736c2b7ec6ea8a9dbf4388d2a42330ec46", func := "nkeytexts/laws.FnSeed", spec := "fnSeed", unfollowed := true, recurses := true, apart := false, narrowed := true }
def FnSeedUptoSaid : Prop := fnSeedUptoRow.holds Try.pinned (OpenSpec.upto fnSeedSpec)

end Rows
end Go.Proofs.Ytmmhifomfbdfjaa
