/-
  NARROWER THAN 'FOR EVERY INPUT', by the rows' own cells (each row's printed sentence says how): FnTypeIndex: loops, laid · FnIndexText: laid · FnTrimStr: laid · FnFlattenWrapped: loops, laid.
  DERIVED. THE GIVEN ROWS OF THIS SEAT. 4 by the template 'for every input the law returns true; each argument reads behind the call as it read before'; 0 by the template 'total and deterministic' (their statements: YtmbleojlnaofjaaDoorTotals.lean).
  GIVEN WITH THE SEED: the statements are not yours to turn. If you find one false, say at which input.
  Laid BY PROGRAM, IN A SANDBOX (cutbox-rows.mjs): the forced cells as the released guide's own fill.sh prints them over the translation c823e0de25659b35… (all of the seat's roots in one cut). By AI agents, Wed Nov 11 2026. No macro, syntax, notation, axiom, sorry.
-/
import Derived.Test.YtmbleojlnaofjaaDoorChecked
import GoSem.PinnedTables
import GoSem.Claim
import GoSem.ClaimJoined
import GoSem.ClaimMapViews
import Derived.JoinedTies
import Derived.KernelRfl
namespace Go.Proofs.YtmbleojlnaofjaaDoor
/- THE CELL 'sum', in the pinned program and in every row, IS THE sha256 OF THE DUMP (.gsa) THAT YtmbleojlnaofjaaDoorProg.lean LOADS. Nothing in Lean hashes anything: it is a label: what it is worth is what the hold of that sum in a sandbox is worth. -/
noncomputable def Tryd.pinned : Pinned := { name := "ytmbleojlnaofjaadoor", sum := "c823e0de25659b358b8dad7e624cc306c2a6b15970a44bc091ab25606648a294", checked := Tryd.checked }
namespace Rows
def none {H : Type} : Left H := { results := [], args := [] }

/- WHAT THE LISTED PACKAGE-LEVEL VARIABLES READ AS WHEN THE CALL BEGINS. Each datum BY PROGRAM (the guide's laid-datum.mjs) off the statement by which the dump's own 'gosem.cut.vars' lays the variable. In a bare row this is a premise. The card (YtmbleojlnaofjaaDoorCards.lean) ties it to the program's text. -/
def laid_unicode_utf8_acceptRanges {H : Type} : DataW H := .agg [.agg [.lit (.int .u8 128), .lit (.int .u8 191)], .agg [.lit (.int .u8 160), .lit (.int .u8 191)], .agg [.lit (.int .u8 128), .lit (.int .u8 159)], .agg [.lit (.int .u8 144), .lit (.int .u8 191)], .agg [.lit (.int .u8 128), .lit (.int .u8 143)], .agg [.lit (.int .u8 0), .lit (.int .u8 0)], .agg [.lit (.int .u8 0), .lit (.int .u8 0)], .agg [.lit (.int .u8 0), .lit (.int .u8 0)], .agg [.lit (.int .u8 0), .lit (.int .u8 0)], .agg [.lit (.int .u8 0), .lit (.int .u8 0)], .agg [.lit (.int .u8 0), .lit (.int .u8 0)], .agg [.lit (.int .u8 0), .lit (.int .u8 0)], .agg [.lit (.int .u8 0), .lit (.int .u8 0)], .agg [.lit (.int .u8 0), .lit (.int .u8 0)], .agg [.lit (.int .u8 0), .lit (.int .u8 0)], .agg [.lit (.int .u8 0), .lit (.int .u8 0)]]
/-- One of Go's own tables, pinned by name: the form's constant. -/
def laid_unicode_utf8_first : DataW Unit := Go.Pinned.utf8First

/-- 'laws.FnTypeIndex': WHATEVER THE INPUT: true; the input reads as it did. -/
def fnTypeIndexSpec : ChangeSpec := { name := "fnTypeIndex", fn := fun _ => fun
  | [d1, d2] => { results := [.lit (.bool true)], args := [d1, d2] }
  | _ => none }
def fnTypeIndexRow : OpenClaim := { program := "ytmbleojlnaofjaadoor", sum := "c823e0de25659b358b8dad7e624cc306c2a6b15970a44bc091ab25606648a294", func := "pub-strainer/laws.FnTypeIndex", spec := "fnTypeIndex", recurses := true, named := ["unicode/utf8.first", "unicode/utf8.acceptRanges"], loops := true, apart := false, laid := [("unicode/utf8.acceptRanges", laid_unicode_utf8_acceptRanges), ("unicode/utf8.first", laid_unicode_utf8_first)] }
def FnTypeIndexSaid : Prop := fnTypeIndexRow.holds Tryd.pinned (OpenSpec.ofChange fnTypeIndexSpec)

/-- ITS FALSE NEIGHBOUR: 'it returns false'. Refute it at one input. -/
def fnTypeIndexWrong : ChangeSpec := { name := "fnTypeIndex", fn := fun _ => fun
  | [d1, d2] => { results := [.lit (.bool false)], args := [d1, d2] }
  | _ => none }
def FnTypeIndexWrongFalsely : Prop := fnTypeIndexRow.holds Tryd.pinned (OpenSpec.ofChange fnTypeIndexWrong)

/-- 'laws.FnIndexText': WHATEVER THE INPUT: true; the input reads as it did. -/
def fnIndexTextSpec : ChangeSpec := { name := "fnIndexText", fn := fun _ => fun
  | [d1, d2] => { results := [.lit (.bool true)], args := [d1, d2] }
  | _ => none }
def fnIndexTextRow : OpenClaim := { program := "ytmbleojlnaofjaadoor", sum := "c823e0de25659b358b8dad7e624cc306c2a6b15970a44bc091ab25606648a294", func := "pub-strainer/laws.FnIndexText", spec := "fnIndexText", inPlace := ["math.archTrunc", "math.Float64bits", "math.Float64frombits"], unfollowed := true, recurses := true, named := ["unicode/utf8.first", "unicode/utf8.acceptRanges"], apart := false, laid := [("unicode/utf8.acceptRanges", laid_unicode_utf8_acceptRanges), ("unicode/utf8.first", laid_unicode_utf8_first)] }
def FnIndexTextSaid : Prop := fnIndexTextRow.holds Tryd.pinned (OpenSpec.ofChange fnIndexTextSpec)

/-- ITS FALSE NEIGHBOUR: 'it returns false'. Refute it at one input. -/
def fnIndexTextWrong : ChangeSpec := { name := "fnIndexText", fn := fun _ => fun
  | [d1, d2] => { results := [.lit (.bool false)], args := [d1, d2] }
  | _ => none }
def FnIndexTextWrongFalsely : Prop := fnIndexTextRow.holds Tryd.pinned (OpenSpec.ofChange fnIndexTextWrong)

/-- 'laws.FnTrimStr': WHATEVER THE INPUT: true; the input reads as it did. -/
def fnTrimStrSpec : ChangeSpec := { name := "fnTrimStr", fn := fun _ => fun
  | [d1, d2] => { results := [.lit (.bool true)], args := [d1, d2] }
  | _ => none }
def fnTrimStrRow : OpenClaim := { program := "ytmbleojlnaofjaadoor", sum := "c823e0de25659b358b8dad7e624cc306c2a6b15970a44bc091ab25606648a294", func := "pub-strainer/laws.FnTrimStr", spec := "fnTrimStr", inPlace := ["math.archTrunc", "math.Float64bits", "math.Float64frombits"], unfollowed := true, recurses := true, named := ["unicode/utf8.first", "unicode/utf8.acceptRanges"], apart := false, laid := [("unicode/utf8.acceptRanges", laid_unicode_utf8_acceptRanges), ("unicode/utf8.first", laid_unicode_utf8_first)] }
def FnTrimStrSaid : Prop := fnTrimStrRow.holds Tryd.pinned (OpenSpec.ofChange fnTrimStrSpec)

/-- ITS FALSE NEIGHBOUR: 'it returns false'. Refute it at one input. -/
def fnTrimStrWrong : ChangeSpec := { name := "fnTrimStr", fn := fun _ => fun
  | [d1, d2] => { results := [.lit (.bool false)], args := [d1, d2] }
  | _ => none }
def FnTrimStrWrongFalsely : Prop := fnTrimStrRow.holds Tryd.pinned (OpenSpec.ofChange fnTrimStrWrong)

/-- 'laws.FnFlattenWrapped': WHATEVER THE INPUT: true; the input reads as it did. -/
def fnFlattenWrappedSpec : ChangeSpec := { name := "fnFlattenWrapped", fn := fun _ => fun
  | [d1, d2] => { results := [.lit (.bool true)], args := [d1, d2] }
  | _ => none }
def fnFlattenWrappedRow : OpenClaim := { program := "ytmbleojlnaofjaadoor", sum := "c823e0de25659b358b8dad7e624cc306c2a6b15970a44bc091ab25606648a294", func := "pub-strainer/laws.FnFlattenWrapped", spec := "fnFlattenWrapped", inPlace := ["math.archTrunc", "math.Float64bits", "math.Float64frombits"], unfollowed := true, recurses := true, named := ["unicode/utf8.first", "unicode/utf8.acceptRanges"], loops := true, apart := false, laid := [("unicode/utf8.acceptRanges", laid_unicode_utf8_acceptRanges), ("unicode/utf8.first", laid_unicode_utf8_first)] }
def FnFlattenWrappedSaid : Prop := fnFlattenWrappedRow.holds Tryd.pinned (OpenSpec.ofChange fnFlattenWrappedSpec)

/-- ITS FALSE NEIGHBOUR: 'it returns false'. Refute it at one input. -/
def fnFlattenWrappedWrong : ChangeSpec := { name := "fnFlattenWrapped", fn := fun _ => fun
  | [d1, d2] => { results := [.lit (.bool false)], args := [d1, d2] }
  | _ => none }
def FnFlattenWrappedWrongFalsely : Prop := fnFlattenWrappedRow.holds Tryd.pinned (OpenSpec.ofChange fnFlattenWrappedWrong)

/- THE SECOND FORM. 'bulk': how many values and letters a reading holds, each counted each time it is reached (what is shared counts as often as it is met; a slice's spare places count too). A statement '..UptoSaid' is the law's where the arguments, and the package variables that the reading takes, are together of bulk at most 1048576: NARROWER than '..Said'. Prove '..Said' where nothing that the law and all that it calls make is longer than what came in: it says more and counts as full. Else prove '..UptoSaid'. A law counts once. -/
mutual
def uptoBulk {H : Type} : DataW H → Nat
  | .lit (.string bytes) => bytes.length + 1
  | .lit _ => 1
  | .nil => 1
  | .ptr d => uptoBulk d + 1
  | .slice elems spare => uptoBulkAll elems + uptoBulkAll spare + 1
  | .agg parts => uptoBulkAll parts + 1
  | .iface _ d => uptoBulk d + 1
  | .map entries => uptoBulkEntries entries + 1
  | .held _ => 1
def uptoBulkAll {H : Type} : List (DataW H) → Nat
  | [] => 0
  | d :: r => uptoBulk d + uptoBulkAll r
def uptoBulkEntries {H : Type} : List (Lit × DataW H) → Nat
  | [] => 0
  | x :: r => uptoBulkEntry x + uptoBulkEntries r
def uptoBulkEntry {H : Type} : Lit × DataW H → Nat
  | (.string bytes, d) => bytes.length + uptoBulk d + 1
  | (_, d) => uptoBulk d + 1
 end
def uptoSmall : (H : Type) → List (DataW H) → Bool := fun _ ds => decide (uptoBulkAll ds ≤ 1048576)
def OpenSpec.upto (s : _root_.Go.ChangeSpec) : _root_.Go.OpenSpec := { _root_.Go.OpenSpec.ofChange s with cond := some uptoSmall }

/-- 'laws.FnTypeIndex', WHERE WHAT IT READS IS OF BULK AT MOST 1048576: true; the input reads as it did. -/
def fnTypeIndexUptoRow : OpenClaim := { program := "ytmbleojlnaofjaadoor", sum := "c823e0de25659b358b8dad7e624cc306c2a6b15970a44bc091ab25606648a294", func := "pub-strainer/laws.FnTypeIndex", spec := "fnTypeIndex", recurses := true, named := ["unicode/utf8.first", "unicode/utf8.acceptRanges"], loops := true, apart := false, laid := [("unicode/utf8.acceptRanges", laid_unicode_utf8_acceptRanges), ("unicode/utf8.first", laid_unicode_utf8_first)], narrowed := true }
def FnTypeIndexUptoSaid : Prop := fnTypeIndexUptoRow.holds Tryd.pinned (OpenSpec.upto fnTypeIndexSpec)

/-- 'laws.FnIndexText', WHERE WHAT IT READS IS OF BULK AT MOST 1048576: true; the input reads as it did. -/
def fnIndexTextUptoRow : OpenClaim := { program := "ytmbleojlnaofjaadoor", sum := "c823e0de25659b358b8dad7e624cc306c2a6b15970a44bc091ab25606648a294", func := "pub-strainer/laws.FnIndexText", spec := "fnIndexText", inPlace := ["math.archTrunc", "math.Float64bits", "math.Float64frombits"], unfollowed := true, recurses := true, named := ["unicode/utf8.first", "unicode/utf8.acceptRanges"], apart := false, laid := [("unicode/utf8.acceptRanges", laid_unicode_utf8_acceptRanges), ("unicode/utf8.first", laid_unicode_utf8_first)], narrowed := true }
def FnIndexTextUptoSaid : Prop := fnIndexTextUptoRow.holds Tryd.pinned (OpenSpec.upto fnIndexTextSpec)

/-- 'laws.FnTrimStr', WHERE WHAT IT READS IS OF BULK AT MOST 1048576: true; the input reads as it did. -/
def fnTrimStrUptoRow : OpenClaim := { program := "ytmbleojlnaofjaadoor", sum := "c823e0de25659b358b8dad7e624cc306c2a6b15970a44bc091ab25606648a294", func := "pub-strainer/laws.FnTrimStr", spec := "fnTrimStr", inPlace := ["math.archTrunc", "math.Float64bits", "math.Float64frombits"], unfollowed := true, recurses := true, named := ["unicode/utf8.first", "unicode/utf8.acceptRanges"], apart := false, laid := [("unicode/utf8.acceptRanges", laid_unicode_utf8_acceptRanges), ("unicode/utf8.first", laid_unicode_utf8_first)], narrowed := true }
def FnTrimStrUptoSaid : Prop := fnTrimStrUptoRow.holds Tryd.pinned (OpenSpec.upto fnTrimStrSpec)

/-- 'laws.FnFlattenWrapped', WHERE WHAT IT READS IS OF BULK AT MOST 1048576: true; the input reads as it did. -/
def fnFlattenWrappedUptoRow : OpenClaim := { program := "ytmbleojlnaofjaadoor", sum := "c823e0de25659b358b8dad7e624cc306c2a6b15970a44bc091ab25606648a294", func := "pub-strainer/laws.FnFlattenWrapped", spec := "fnFlattenWrapped", inPlace := ["math.archTrunc", "math.Float64bits", "math.Float64frombits"], unfollowed := true, recurses := true, named := ["unicode/utf8.first", "unicode/utf8.acceptRanges"], loops := true, apart := false, laid := [("unicode/utf8.acceptRanges", laid_unicode_utf8_acceptRanges), ("unicode/utf8.first", laid_unicode_utf8_first)], narrowed := true }
def FnFlattenWrappedUptoSaid : Prop := fnFlattenWrappedUptoRow.holds Tryd.pinned (OpenSpec.upto fnFlattenWrappedSpec)

end Rows
end Go.Proofs.YtmbleojlnaofjaaDoor
