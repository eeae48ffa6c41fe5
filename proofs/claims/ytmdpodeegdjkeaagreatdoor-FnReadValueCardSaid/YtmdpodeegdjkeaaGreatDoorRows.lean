/-
  NARROWER THAN 'FOR EVERY INPUT', by the rows' own cells (each row's printed sentence says how): FnReadDescribed: loops, laid · FnReadAnnotations: loops, laid · FnReadList: loops, laid · FnReadMap: loops, laid · FnReadSymbolMap: loops, laid · FnReadTextMap: loops, laid · FnReadValue: loops, laid.
  DERIVED. THE GIVEN ROWS OF THIS SEAT. 7 by the template 'for every input the law returns true; each argument reads behind the call as it read before'; 0 by the template 'total and deterministic' (their statements: YtmdpodeegdjkeaaGreatDoorTotals.lean).
  GIVEN WITH THE SEED: the statements are not yours to turn. If you find one false, say at which input.
  Laid BY PROGRAM, IN A SANDBOX (cutbox-rows.mjs): the forced cells as the released guide's own fill.sh prints them over the translation 387b61ad861dbf8a… (all of the seat's roots in one cut). By AI agents, Wed Nov 11 2026. No macro, syntax, notation, axiom, sorry.
-/
import Derived.Test.YtmdpodeegdjkeaaGreatDoorChecked
import GoSem.PinnedTables
import GoSem.Claim
import GoSem.ClaimJoined
import GoSem.ClaimMapViews
import Derived.JoinedTies
import Derived.KernelRfl
namespace Go.Proofs.YtmdpodeegdjkeaaGreatDoor
/- THE CELL 'sum', in the pinned program and in every row, IS THE sha256 OF THE DUMP (.gsa) THAT YtmdpodeegdjkeaaGreatDoorProg.lean LOADS. Nothing in Lean hashes anything: it is a label: what it is worth is what the hold of that sum in a sandbox is worth. -/
noncomputable def Tryz.pinned : Pinned := { name := "ytmdpodeegdjkeaagreatdoor", sum := "387b61ad861dbf8a3674a4feb24210269b64dd69054e9fbbf5b4f631344e228a", checked := Tryz.checked }
namespace Rows
def none {H : Type} : Left H := { results := [], args := [] }

/- WHAT THE LISTED PACKAGE-LEVEL VARIABLES READ AS WHEN THE CALL BEGINS. Each datum BY PROGRAM (the guide's laid-datum.mjs) off the statement by which the dump's own 'gosem.cut.vars' lays the variable. In a bare row this is a premise. The card (YtmdpodeegdjkeaaGreatDoorCards.lean) ties it to the program's text. -/
def laid_unicode_utf8_acceptRanges {H : Type} : DataW H := .agg [.agg [.lit (.int .u8 128), .lit (.int .u8 191)], .agg [.lit (.int .u8 160), .lit (.int .u8 191)], .agg [.lit (.int .u8 128), .lit (.int .u8 159)], .agg [.lit (.int .u8 144), .lit (.int .u8 191)], .agg [.lit (.int .u8 128), .lit (.int .u8 143)], .agg [.lit (.int .u8 0), .lit (.int .u8 0)], .agg [.lit (.int .u8 0), .lit (.int .u8 0)], .agg [.lit (.int .u8 0), .lit (.int .u8 0)], .agg [.lit (.int .u8 0), .lit (.int .u8 0)], .agg [.lit (.int .u8 0), .lit (.int .u8 0)], .agg [.lit (.int .u8 0), .lit (.int .u8 0)], .agg [.lit (.int .u8 0), .lit (.int .u8 0)], .agg [.lit (.int .u8 0), .lit (.int .u8 0)], .agg [.lit (.int .u8 0), .lit (.int .u8 0)], .agg [.lit (.int .u8 0), .lit (.int .u8 0)], .agg [.lit (.int .u8 0), .lit (.int .u8 0)]]
def laid_io_EOF {H : Type} : DataW H := .iface "*errors.errorString" (.ptr (.agg [.lit (.string [69, 79, 70])]))
/-- One of Go's own tables, pinned by name: the form's constant. -/
def laid_unicode_utf8_first : DataW Unit := Go.Pinned.utf8First

/-- 'laws.FnReadDescribed': WHATEVER THE INPUT: true; the input reads as it did. -/
def fnReadDescribedSpec : ChangeSpec := { name := "fnReadDescribed", fn := fun _ => fun
  | [d1, d2, d3, d4] => { results := [.lit (.bool true)], args := [d1, d2, d3, d4] }
  | _ => none }
def fnReadDescribedRow : OpenClaim := { program := "ytmdpodeegdjkeaagreatdoor", sum := "387b61ad861dbf8a3674a4feb24210269b64dd69054e9fbbf5b4f631344e228a", func := "given.example/pub-saddlebag/laws.FnReadDescribed", spec := "fnReadDescribed", inPlace := ["math.Float32frombits", "math.Float64frombits", "math.Float32bits", "math.Float64bits", "internal/reflectlite.ValueOf", "internal/reflectlite.Swapper", "(internal/reflectlite.Value).Len"], unfollowed := true, recurses := true, named := ["io.EOF", "encoding/binary.BigEndian", "unicode/utf8.first", "unicode/utf8.acceptRanges"], loops := true, apart := false, laid := [("unicode/utf8.acceptRanges", laid_unicode_utf8_acceptRanges), ("io.EOF", laid_io_EOF), ("unicode/utf8.first", laid_unicode_utf8_first)] }
def FnReadDescribedSaid : Prop := fnReadDescribedRow.holds Tryz.pinned (OpenSpec.ofChange fnReadDescribedSpec)

/-- ITS FALSE NEIGHBOUR: 'it returns false'. Refute it at one input. -/
def fnReadDescribedWrong : ChangeSpec := { name := "fnReadDescribed", fn := fun _ => fun
  | [d1, d2, d3, d4] => { results := [.lit (.bool false)], args := [d1, d2, d3, d4] }
  | _ => none }
def FnReadDescribedWrongFalsely : Prop := fnReadDescribedRow.holds Tryz.pinned (OpenSpec.ofChange fnReadDescribedWrong)

/-- 'laws.FnReadAnnotations': WHATEVER THE INPUT: true; the input reads as it did. -/
def fnReadAnnotationsSpec : ChangeSpec := { name := "fnReadAnnotations", fn := fun _ => fun
  | [d] => { results := [.lit (.bool true)], args := [d] }
  | _ => none }
def fnReadAnnotationsRow : OpenClaim := { program := "ytmdpodeegdjkeaagreatdoor", sum := "387b61ad861dbf8a3674a4feb24210269b64dd69054e9fbbf5b4f631344e228a", func := "given.example/pub-saddlebag/laws.FnReadAnnotations", spec := "fnReadAnnotations", inPlace := ["math.Float32frombits", "math.Float64frombits", "math.Float32bits", "math.Float64bits", "internal/reflectlite.ValueOf", "internal/reflectlite.Swapper", "(internal/reflectlite.Value).Len"], unfollowed := true, recurses := true, named := ["io.EOF", "encoding/binary.BigEndian", "unicode/utf8.first", "unicode/utf8.acceptRanges"], loops := true, apart := false, laid := [("unicode/utf8.acceptRanges", laid_unicode_utf8_acceptRanges), ("io.EOF", laid_io_EOF), ("unicode/utf8.first", laid_unicode_utf8_first)] }
def FnReadAnnotationsSaid : Prop := fnReadAnnotationsRow.holds Tryz.pinned (OpenSpec.ofChange fnReadAnnotationsSpec)

/-- ITS FALSE NEIGHBOUR: 'it returns false'. Refute it at one input. -/
def fnReadAnnotationsWrong : ChangeSpec := { name := "fnReadAnnotations", fn := fun _ => fun
  | [d] => { results := [.lit (.bool false)], args := [d] }
  | _ => none }
def FnReadAnnotationsWrongFalsely : Prop := fnReadAnnotationsRow.holds Tryz.pinned (OpenSpec.ofChange fnReadAnnotationsWrong)

/-- 'laws.FnReadList': WHATEVER THE INPUT: true; the input reads as it did. -/
def fnReadListSpec : ChangeSpec := { name := "fnReadList", fn := fun _ => fun
  | [d] => { results := [.lit (.bool true)], args := [d] }
  | _ => none }
def fnReadListRow : OpenClaim := { program := "ytmdpodeegdjkeaagreatdoor", sum := "387b61ad861dbf8a3674a4feb24210269b64dd69054e9fbbf5b4f631344e228a", func := "given.example/pub-saddlebag/laws.FnReadList", spec := "fnReadList", inPlace := ["math.Float32frombits", "math.Float64frombits", "math.Float32bits", "math.Float64bits", "internal/reflectlite.ValueOf", "internal/reflectlite.Swapper", "(internal/reflectlite.Value).Len"], unfollowed := true, recurses := true, named := ["encoding/binary.BigEndian", "io.EOF", "unicode/utf8.first", "unicode/utf8.acceptRanges"], loops := true, apart := false, laid := [("unicode/utf8.acceptRanges", laid_unicode_utf8_acceptRanges), ("io.EOF", laid_io_EOF), ("unicode/utf8.first", laid_unicode_utf8_first)] }
def FnReadListSaid : Prop := fnReadListRow.holds Tryz.pinned (OpenSpec.ofChange fnReadListSpec)

/-- ITS FALSE NEIGHBOUR: 'it returns false'. Refute it at one input. -/
def fnReadListWrong : ChangeSpec := { name := "fnReadList", fn := fun _ => fun
  | [d] => { results := [.lit (.bool false)], args := [d] }
  | _ => none }
def FnReadListWrongFalsely : Prop := fnReadListRow.holds Tryz.pinned (OpenSpec.ofChange fnReadListWrong)

/-- 'laws.FnReadMap': WHATEVER THE INPUT: true; the input reads as it did. -/
def fnReadMapSpec : ChangeSpec := { name := "fnReadMap", fn := fun _ => fun
  | [d] => { results := [.lit (.bool true)], args := [d] }
  | _ => none }
def fnReadMapRow : OpenClaim := { program := "ytmdpodeegdjkeaagreatdoor", sum := "387b61ad861dbf8a3674a4feb24210269b64dd69054e9fbbf5b4f631344e228a", func := "given.example/pub-saddlebag/laws.FnReadMap", spec := "fnReadMap", inPlace := ["math.Float32frombits", "math.Float64frombits", "math.Float32bits", "math.Float64bits", "internal/reflectlite.ValueOf", "internal/reflectlite.Swapper", "(internal/reflectlite.Value).Len"], unfollowed := true, recurses := true, named := ["io.EOF", "encoding/binary.BigEndian", "unicode/utf8.first", "unicode/utf8.acceptRanges"], loops := true, apart := false, laid := [("unicode/utf8.acceptRanges", laid_unicode_utf8_acceptRanges), ("io.EOF", laid_io_EOF), ("unicode/utf8.first", laid_unicode_utf8_first)] }
def FnReadMapSaid : Prop := fnReadMapRow.holds Tryz.pinned (OpenSpec.ofChange fnReadMapSpec)

/-- ITS FALSE NEIGHBOUR: 'it returns false'. Refute it at one input. -/
def fnReadMapWrong : ChangeSpec := { name := "fnReadMap", fn := fun _ => fun
  | [d] => { results := [.lit (.bool false)], args := [d] }
  | _ => none }
def FnReadMapWrongFalsely : Prop := fnReadMapRow.holds Tryz.pinned (OpenSpec.ofChange fnReadMapWrong)

/-- 'laws.FnReadSymbolMap': WHATEVER THE INPUT: true; the input reads as it did. -/
def fnReadSymbolMapSpec : ChangeSpec := { name := "fnReadSymbolMap", fn := fun _ => fun
  | [d] => { results := [.lit (.bool true)], args := [d] }
  | _ => none }
def fnReadSymbolMapRow : OpenClaim := { program := "ytmdpodeegdjkeaagreatdoor", sum := "387b61ad861dbf8a3674a4feb24210269b64dd69054e9fbbf5b4f631344e228a", func := "given.example/pub-saddlebag/laws.FnReadSymbolMap", spec := "fnReadSymbolMap", inPlace := ["math.Float32frombits", "math.Float64frombits", "math.Float32bits", "math.Float64bits", "internal/reflectlite.ValueOf", "internal/reflectlite.Swapper", "(internal/reflectlite.Value).Len"], unfollowed := true, recurses := true, named := ["io.EOF", "encoding/binary.BigEndian", "unicode/utf8.first", "unicode/utf8.acceptRanges"], loops := true, apart := false, laid := [("unicode/utf8.acceptRanges", laid_unicode_utf8_acceptRanges), ("io.EOF", laid_io_EOF), ("unicode/utf8.first", laid_unicode_utf8_first)] }
def FnReadSymbolMapSaid : Prop := fnReadSymbolMapRow.holds Tryz.pinned (OpenSpec.ofChange fnReadSymbolMapSpec)

/-- ITS FALSE NEIGHBOUR: 'it returns false'. Refute it at one input. -/
def fnReadSymbolMapWrong : ChangeSpec := { name := "fnReadSymbolMap", fn := fun _ => fun
  | [d] => { results := [.lit (.bool false)], args := [d] }
  | _ => none }
def FnReadSymbolMapWrongFalsely : Prop := fnReadSymbolMapRow.holds Tryz.pinned (OpenSpec.ofChange fnReadSymbolMapWrong)

/-- 'laws.FnReadTextMap': WHATEVER THE INPUT: true; the input reads as it did. -/
def fnReadTextMapSpec : ChangeSpec := { name := "fnReadTextMap", fn := fun _ => fun
  | [d] => { results := [.lit (.bool true)], args := [d] }
  | _ => none }
def fnReadTextMapRow : OpenClaim := { program := "ytmdpodeegdjkeaagreatdoor", sum := "387b61ad861dbf8a3674a4feb24210269b64dd69054e9fbbf5b4f631344e228a", func := "given.example/pub-saddlebag/laws.FnReadTextMap", spec := "fnReadTextMap", inPlace := ["math.Float32frombits", "math.Float64frombits", "math.Float32bits", "math.Float64bits", "internal/reflectlite.ValueOf", "internal/reflectlite.Swapper", "(internal/reflectlite.Value).Len"], unfollowed := true, recurses := true, named := ["io.EOF", "encoding/binary.BigEndian", "unicode/utf8.first", "unicode/utf8.acceptRanges"], loops := true, apart := false, laid := [("unicode/utf8.acceptRanges", laid_unicode_utf8_acceptRanges), ("io.EOF", laid_io_EOF), ("unicode/utf8.first", laid_unicode_utf8_first)] }
def FnReadTextMapSaid : Prop := fnReadTextMapRow.holds Tryz.pinned (OpenSpec.ofChange fnReadTextMapSpec)

/-- ITS FALSE NEIGHBOUR: 'it returns false'. Refute it at one input. -/
def fnReadTextMapWrong : ChangeSpec := { name := "fnReadTextMap", fn := fun _ => fun
  | [d] => { results := [.lit (.bool false)], args := [d] }
  | _ => none }
def FnReadTextMapWrongFalsely : Prop := fnReadTextMapRow.holds Tryz.pinned (OpenSpec.ofChange fnReadTextMapWrong)

/-- 'laws.FnReadValue': WHATEVER THE INPUT: true; the input reads as it did. -/
def fnReadValueSpec : ChangeSpec := { name := "fnReadValue", fn := fun _ => fun
  | [d] => { results := [.lit (.bool true)], args := [d] }
  | _ => none }
def fnReadValueRow : OpenClaim := { program := "ytmdpodeegdjkeaagreatdoor", sum := "387b61ad861dbf8a3674a4feb24210269b64dd69054e9fbbf5b4f631344e228a", func := "given.example/pub-saddlebag/laws.FnReadValue", spec := "fnReadValue", inPlace := ["math.Float32frombits", "math.Float64frombits", "math.Float32bits", "math.Float64bits", "internal/reflectlite.ValueOf", "internal/reflectlite.Swapper", "(internal/reflectlite.Value).Len"], unfollowed := true, recurses := true, named := ["io.EOF", "encoding/binary.BigEndian", "unicode/utf8.first", "unicode/utf8.acceptRanges"], loops := true, apart := false, laid := [("unicode/utf8.acceptRanges", laid_unicode_utf8_acceptRanges), ("io.EOF", laid_io_EOF), ("unicode/utf8.first", laid_unicode_utf8_first)] }
def FnReadValueSaid : Prop := fnReadValueRow.holds Tryz.pinned (OpenSpec.ofChange fnReadValueSpec)

/-- ITS FALSE NEIGHBOUR: 'it returns false'. Refute it at one input. -/
def fnReadValueWrong : ChangeSpec := { name := "fnReadValue", fn := fun _ => fun
  | [d] => { results := [.lit (.bool false)], args := [d] }
  | _ => none }
def FnReadValueWrongFalsely : Prop := fnReadValueRow.holds Tryz.pinned (OpenSpec.ofChange fnReadValueWrong)

/- THE SECOND FORM. 'bulk': how many values and letters a reading holds, each counted each time it is reached (what is shared counts as often as it is met; a slice's spare places count too). A statement '..UptoSaid' is the law's where the arguments, and the package variables that the reading takes, are together of bulk at most 1048576: NARROWER than '..Said'. Prove '..Said' where nothing that the law and all that it calls make is longer than what came in: it says more and counts as full. Else prove '..UptoSaid'. A law counts once. -/
mutual
def uptoBulk {H : Type} : DataW H → Nat
  | .lit (.string bytes) => bytes.length + 1
  | .lit _ => 1
  | .nil => 1
  | .ptr d => uptoBulk d + 1
  | .slice elems spare => uptoBulkAll elems + uptoBulkAll spare + 1
  | .agg parts => uptoBulkAll parts + 1
  | .iface _ d => uptoBulk d + 1
  | .map entries => uptoBulkEntries entries + 1
  | .held _ => 1
def uptoBulkAll {H : Type} : List (DataW H) → Nat
  | [] => 0
  | d :: r => uptoBulk d + uptoBulkAll r
def uptoBulkEntries {H : Type} : List (Lit × DataW H) → Nat
  | [] => 0
  | x :: r => uptoBulkEntry x + uptoBulkEntries r
def uptoBulkEntry {H : Type} : Lit × DataW H → Nat
  | (.string bytes, d) => bytes.length + uptoBulk d + 1
  | (_, d) => uptoBulk d + 1
 end
def uptoSmall : (H : Type) → List (DataW H) → Bool := fun _ ds => decide (uptoBulkAll ds ≤ 1048576)
def OpenSpec.upto (s : _root_.Go.ChangeSpec) : _root_.Go.OpenSpec := { _root_.Go.OpenSpec.ofChange s with cond := some uptoSmall }

/-- 'laws.FnReadDescribed', WHERE WHAT IT READS IS OF BULK AT MOST 1048576: true; the input reads as it did. -/
def fnReadDescribedUptoRow : OpenClaim := { program := "ytmdpodeegdjkeaagreatdoor", sum := "387b61ad861dbf8a3674a4feb24210269b64dd69054e9fbbf5b4f631344e228a", func := "given.example/pub-saddlebag/laws.FnReadDescribed", spec := "fnReadDescribed", inPlace := ["math.Float32frombits", "math.Float64frombits", "math.Float32bits", "math.Float64bits", "internal/reflectlite.ValueOf", "internal/reflectlite.Swapper", "(internal/reflectlite.Value).Len"], unfollowed := true, recurses := true, named := ["io.EOF", "encoding/binary.BigEndian", "unicode/utf8.first", "unicode/utf8.acceptRanges"], loops := true, apart := false, laid := [("unicode/utf8.acceptRanges", laid_unicode_utf8_acceptRanges), ("io.EOF", laid_io_EOF), ("unicode/utf8.first", laid_unicode_utf8_first)], narrowed := true }
def FnReadDescribedUptoSaid : Prop := fnReadDescribedUptoRow.holds Tryz.pinned (OpenSpec.upto fnReadDescribedSpec)

/-- 'laws.FnReadAnnotations', WHERE WHAT IT READS IS OF BULK AT MOST 1048576: true; the input reads as it did. -/
def fnReadAnnotationsUptoRow : OpenClaim := { program := "ytmdpodeegdjkeaagreatdoor", sum := "387b61ad861dbf8a3674a4feb24210269b64dd69054e9fbbf5b4f631344e228a", func := "given.example/pub-saddlebag/laws.FnReadAnnotations", spec := "fnReadAnnotations", inPlace := ["math.Float32frombits", "math.Float64frombits", "math.Float32bits", "math.Float64bits", "internal/reflectlite.ValueOf", "internal/reflectlite.Swapper", "(internal/reflectlite.Value).Len"], unfollowed := true, recurses := true, named := ["io.EOF", "encoding/binary.BigEndian", "unicode/utf8.first", "unicode/utf8.acceptRanges"], loops := true, apart := false, laid := [("unicode/utf8.acceptRanges", laid_unicode_utf8_acceptRanges), ("io.EOF", laid_io_EOF), ("unicode/utf8.first", laid_unicode_utf8_first)], narrowed := true }
def FnReadAnnotationsUptoSaid : Prop := fnReadAnnotationsUptoRow.holds Tryz.pinned (OpenSpec.upto fnReadAnnotationsSpec)

/-- 'laws.FnReadList', WHERE WHAT IT READS IS OF BULK AT MOST 1048576: true; the input reads as it did. -/
def fnReadListUptoRow : OpenClaim := { program := "ytmdpodeegdjkeaagreatdoor", sum := "387b61ad861dbf8a3674a4feb24210269b64dd69054e9fbbf5b4f631344e228a", func := "given.example/pub-saddlebag/laws.FnReadList", spec := "fnReadList", inPlace := ["math.Float32frombits", "math.Float64frombits", "math.Float32bits", "math.Float64bits", "internal/reflectlite.ValueOf", "internal/reflectlite.Swapper", "(internal/reflectlite.Value).Len"], unfollowed := true, recurses := true, named := ["encoding/binary.BigEndian", "io.EOF", "unicode/utf8.first", "unicode/utf8.acceptRanges"], loops := true, apart := false, laid := [("unicode/utf8.acceptRanges", laid_unicode_utf8_acceptRanges), ("io.EOF", laid_io_EOF), ("unicode/utf8.first", laid_unicode_utf8_first)], narrowed := true }
def FnReadListUptoSaid : Prop := fnReadListUptoRow.holds Tryz.pinned (OpenSpec.upto fnReadListSpec)

/-- 'laws.FnReadMap', WHERE WHAT IT READS IS OF BULK AT MOST 1048576: true; the input reads as it did. -/
def fnReadMapUptoRow : OpenClaim := { program := "ytmdpodeegdjkeaagreatdoor", sum := "387b61ad861dbf8a3674a4feb24210269b64dd69054e9fbbf5b4f631344e228a", func := "given.example/pub-saddlebag/laws.FnReadMap", spec := "fnReadMap", inPlace := ["math.Float32frombits", "math.Float64frombits", "math.Float32bits", "math.Float64bits", "internal/reflectlite.ValueOf", "internal/reflectlite.Swapper", "(internal/reflectlite.Value).Len"], unfollowed := true, recurses := true, named := ["io.EOF", "encoding/binary.BigEndian", "unicode/utf8.first", "unicode/utf8.acceptRanges"], loops := true, apart := false, laid := [("unicode/utf8.acceptRanges", laid_unicode_utf8_acceptRanges), ("io.EOF", laid_io_EOF), ("unicode/utf8.first", laid_unicode_utf8_first)], narrowed := true }
def FnReadMapUptoSaid : Prop := fnReadMapUptoRow.holds Tryz.pinned (OpenSpec.upto fnReadMapSpec)

/-- 'laws.FnReadSymbolMap', WHERE WHAT IT READS IS OF BULK AT MOST 1048576: true; the input reads as it did. -/
def fnReadSymbolMapUptoRow : OpenClaim := { program := "ytmdpodeegdjkeaagreatdoor", sum := "387b61ad861dbf8a3674a4feb24210269b64dd69054e9fbbf5b4f631344e228a", func := "given.example/pub-saddlebag/laws.FnReadSymbolMap", spec := "fnReadSymbolMap", inPlace := ["math.Float32frombits", "math.Float64frombits", "math.Float32bits", "math.Float64bits", "internal/reflectlite.ValueOf", "internal/reflectlite.Swapper", "(internal/reflectlite.Value).Len"], unfollowed := true, recurses := true, named := ["io.EOF", "encoding/binary.BigEndian", "unicode/utf8.first", "unicode/utf8.acceptRanges"], loops := true, apart := false, laid := [("unicode/utf8.acceptRanges", laid_unicode_utf8_acceptRanges), ("io.EOF", laid_io_EOF), ("unicode/utf8.first", laid_unicode_utf8_first)], narrowed := true }
def FnReadSymbolMapUptoSaid : Prop := fnReadSymbolMapUptoRow.holds Tryz.pinned (OpenSpec.upto fnReadSymbolMapSpec)

/-- 'laws.FnReadTextMap', WHERE WHAT IT READS IS OF BULK AT MOST 1048576: true; the input reads as it did. -/
def fnReadTextMapUptoRow : OpenClaim := { program := "ytmdpodeegdjkeaagreatdoor", sum := "387b61ad861dbf8a3674a4feb24210269b64dd69054e9fbbf5b4f631344e228a", func := "given.example/pub-saddlebag/laws.FnReadTextMap", spec := "fnReadTextMap", inPlace := ["math.Float32frombits", "math.Float64frombits", "math.Float32bits", "math.Float64bits", "internal/reflectlite.ValueOf", "internal/reflectlite.Swapper", "(internal/reflectlite.Value).Len"], unfollowed := true, recurses := true, named := ["io.EOF", "encoding/binary.BigEndian", "unicode/utf8.first", "unicode/utf8.acceptRanges"], loops := true, apart := false, laid := [("unicode/utf8.acceptRanges", laid_unicode_utf8_acceptRanges), ("io.EOF", laid_io_EOF), ("unicode/utf8.first", laid_unicode_utf8_first)], narrowed := true }
def FnReadTextMapUptoSaid : Prop := fnReadTextMapUptoRow.holds Tryz.pinned (OpenSpec.upto fnReadTextMapSpec)

/-- 'laws.FnReadValue', WHERE WHAT IT READS IS OF BULK AT MOST 1048576: true; the input reads as it did. -/
def fnReadValueUptoRow : OpenClaim := { program := "ytmdpodeegdjkeaagreatdoor", sum := "387b61ad861dbf8a3674a4feb24210269b64dd69054e9fbbf5b4f631344e228a", func := "given.example/pub-saddlebag/laws.FnReadValue", spec := "fnReadValue", inPlace := ["math.Float32frombits", "math.Float64frombits", "math.Float32bits", "math.Float64bits", "internal/reflectlite.ValueOf", "internal/reflectlite.Swapper", "(internal/reflectlite.Value).Len"], unfollowed := true, recurses := true, named := ["io.EOF", "encoding/binary.BigEndian", "unicode/utf8.first", "unicode/utf8.acceptRanges"], loops := true, apart := false, laid := [("unicode/utf8.acceptRanges", laid_unicode_utf8_acceptRanges), ("io.EOF", laid_io_EOF), ("unicode/utf8.first", laid_unicode_utf8_first)], narrowed := true }
def FnReadValueUptoSaid : Prop := fnReadValueUptoRow.holds Tryz.pinned (OpenSpec.upto fnReadValueSpec)

end Rows
end Go.Proofs.YtmdpodeegdjkeaaGreatDoor
