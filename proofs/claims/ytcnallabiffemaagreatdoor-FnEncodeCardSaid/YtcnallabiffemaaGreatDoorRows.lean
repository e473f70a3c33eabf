/-
  NARROWER THAN 'FOR EVERY INPUT', by the rows' own cells (each row's printed sentence says how): FnEncode: laid · FnSymbol: laid · FnHighLevel: laid · FnPlace: laid · FnCheck: laid.
  DERIVED. THE GIVEN ROWS OF THIS SEAT. 5 by the template 'for every input the law returns true; each argument reads behind the call as it read before'; 0 by the template 'total and deterministic' (their statements: YtcnallabiffemaaGreatDoorTotals.lean).
  GIVEN WITH THE SEED: the statements are not yours to turn. If you find one false, say at which input.
  Laid BY PROGRAM, IN A SANDBOX (cutbox-rows.mjs): the forced cells as the released guide's own fill.sh prints them over the translation fe5d00e5ff48beca… (all of the seat's roots in one cut). By AI agents, Wed Nov 11 2026. No macro, syntax, notation, axiom, sorry.
-/
import Derived.Test.YtcnallabiffemaaGreatDoorChecked
import GoSem.PinnedTables
import GoSem.Claim
import GoSem.ClaimJoined
import GoSem.ClaimMapViews
import Derived.JoinedTies
import Derived.KernelRfl
namespace Go.Proofs.YtcnallabiffemaaGreatDoor
/- THE CELL 'sum', in the pinned program and in every row, IS THE sha256 OF THE DUMP (.gsa) THAT YtcnallabiffemaaGreatDoorProg.lean LOADS. Nothing in Lean hashes anything: it is a label: what it is worth is what the hold of that sum in a sandbox is worth. -/
noncomputable def Tryz.pinned : Pinned := { name := "ytcnallabiffemaagreatdoor", sum := "fe5d00e5ff48becae62c1ee6405ecefa4cce77a6248f30ad75edbd989b4ec522", checked := Tryz.checked }
namespace Rows
def none {H : Type} : Left H := { results := [], args := [] }

/- WHAT THE LISTED PACKAGE-LEVEL VARIABLES READ AS WHEN THE CALL BEGINS. Each datum BY PROGRAM (the guide's laid-datum.mjs) off the statement by which the dump's own 'gosem.cut.vars' lays the variable. In a bare row this is a premise. The card (YtcnallabiffemaaGreatDoorCards.lean) ties it to the program's text. -/
def laid_unicode_utf8_acceptRanges {H : Type} : DataW H := .agg [.agg [.lit (.int .u8 128), .lit (.int .u8 191)], .agg [.lit (.int .u8 160), .lit (.int .u8 191)], .agg [.lit (.int .u8 128), .lit (.int .u8 159)], .agg [.lit (.int .u8 144), .lit (.int .u8 191)], .agg [.lit (.int .u8 128), .lit (.int .u8 143)], .agg [.lit (.int .u8 0), .lit (.int .u8 0)], .agg [.lit (.int .u8 0), .lit (.int .u8 0)], .agg [.lit (.int .u8 0), .lit (.int .u8 0)], .agg [.lit (.int .u8 0), .lit (.int .u8 0)], .agg [.lit (.int .u8 0), .lit (.int .u8 0)], .agg [.lit (.int .u8 0), .lit (.int .u8 0)], .agg [.lit (.int .u8 0), .lit (.int .u8 0)], .agg [.lit (.int .u8 0), .lit (.int .u8 0)], .agg [.lit (.int .u8 0), .lit (.int .u8 0)], .agg [.lit (.int .u8 0), .lit (.int .u8 0)], .agg [.lit (.int .u8 0), .lit (.int .u8 0)]]
/-- One of Go's own tables, pinned by name: the form's constant. -/
def laid_unicode_utf8_first : DataW Unit := Go.Pinned.utf8First

/-- 'laws.FnEncode': WHATEVER THE INPUT: true; the input reads as it did. -/
def fnEncodeSpec : ChangeSpec := { name := "fnEncode", fn := fun _ => fun
  | [d1, d2] => { results := [.lit (.bool true)], args := [d1, d2] }
  | _ => none }
def fnEncodeRow : OpenClaim := { program := "ytcnallabiffemaagreatdoor", sum := "fe5d00e5ff48becae62c1ee6405ecefa4cce77a6248f30ad75edbd989b4ec522", func := "zxdatamatrix/laws.FnEncode", spec := "fnEncode", unfollowed := true, recurses := true, named := ["unicode/utf8.first", "unicode/utf8.acceptRanges"], apart := false, laid := [("unicode/utf8.acceptRanges", laid_unicode_utf8_acceptRanges), ("unicode/utf8.first", laid_unicode_utf8_first)] }
def FnEncodeSaid : Prop := fnEncodeRow.holds Tryz.pinned (OpenSpec.ofChange fnEncodeSpec)

/-- ITS FALSE NEIGHBOUR: 'it returns false'. Refute it at one input. -/
def fnEncodeWrong : ChangeSpec := { name := "fnEncode", fn := fun _ => fun
  | [d1, d2] => { results := [.lit (.bool false)], args := [d1, d2] }
  | _ => none }
def FnEncodeWrongFalsely : Prop := fnEncodeRow.holds Tryz.pinned (OpenSpec.ofChange fnEncodeWrong)

/-- 'laws.FnSymbol': WHATEVER THE INPUT: true; the input reads as it did. -/
def fnSymbolSpec : ChangeSpec := { name := "fnSymbol", fn := fun _ => fun
  | [d1, d2] => { results := [.lit (.bool true)], args := [d1, d2] }
  | _ => none }
def fnSymbolRow : OpenClaim := { program := "ytcnallabiffemaagreatdoor", sum := "fe5d00e5ff48becae62c1ee6405ecefa4cce77a6248f30ad75edbd989b4ec522", func := "zxdatamatrix/laws.FnSymbol", spec := "fnSymbol", unfollowed := true, recurses := true, named := ["unicode/utf8.first", "unicode/utf8.acceptRanges"], apart := false, laid := [("unicode/utf8.acceptRanges", laid_unicode_utf8_acceptRanges), ("unicode/utf8.first", laid_unicode_utf8_first)] }
def FnSymbolSaid : Prop := fnSymbolRow.holds Tryz.pinned (OpenSpec.ofChange fnSymbolSpec)

/-- ITS FALSE NEIGHBOUR: 'it returns false'. Refute it at one input. -/
def fnSymbolWrong : ChangeSpec := { name := "fnSymbol", fn := fun _ => fun
  | [d1, d2] => { results := [.lit (.bool false)], args := [d1, d2] }
  | _ => none }
def FnSymbolWrongFalsely : Prop := fnSymbolRow.holds Tryz.pinned (OpenSpec.ofChange fnSymbolWrong)

/-- 'laws.FnHighLevel': WHATEVER THE INPUT: true; the input reads as it did. -/
def fnHighLevelSpec : ChangeSpec := { name := "fnHighLevel", fn := fun _ => fun
  | [d1, d2] => { results := [.lit (.bool true)], args := [d1, d2] }
  | _ => none }
def fnHighLevelRow : OpenClaim := { program := "ytcnallabiffemaagreatdoor", sum := "fe5d00e5ff48becae62c1ee6405ecefa4cce77a6248f30ad75edbd989b4ec522", func := "zxdatamatrix/laws.FnHighLevel", spec := "fnHighLevel", unfollowed := true, recurses := true, named := ["unicode/utf8.first", "unicode/utf8.acceptRanges"], apart := false, laid := [("unicode/utf8.acceptRanges", laid_unicode_utf8_acceptRanges), ("unicode/utf8.first", laid_unicode_utf8_first)] }
def FnHighLevelSaid : Prop := fnHighLevelRow.holds Tryz.pinned (OpenSpec.ofChange fnHighLevelSpec)

/-- ITS FALSE NEIGHBOUR: 'it returns false'. Refute it at one input. -/
def fnHighLevelWrong : ChangeSpec := { name := "fnHighLevel", fn := fun _ => fun
  | [d1, d2] => { results := [.lit (.bool false)], args := [d1, d2] }
  | _ => none }
def FnHighLevelWrongFalsely : Prop := fnHighLevelRow.holds Tryz.pinned (OpenSpec.ofChange fnHighLevelWrong)

/-- 'laws.FnPlace': WHATEVER THE INPUT: true; the input reads as it did. -/
def fnPlaceSpec : ChangeSpec := { name := "fnPlace", fn := fun _ => fun
  | [d1, d2] => { results := [.lit (.bool true)], args := [d1, d2] }
  | _ => none }
def fnPlaceRow : OpenClaim := { program := "ytcnallabiffemaagreatdoor", sum := "fe5d00e5ff48becae62c1ee6405ecefa4cce77a6248f30ad75edbd989b4ec522", func := "zxdatamatrix/laws.FnPlace", spec := "fnPlace", unfollowed := true, recurses := true, named := ["unicode/utf8.first", "unicode/utf8.acceptRanges"], apart := false, laid := [("unicode/utf8.acceptRanges", laid_unicode_utf8_acceptRanges), ("unicode/utf8.first", laid_unicode_utf8_first)] }
def FnPlaceSaid : Prop := fnPlaceRow.holds Tryz.pinned (OpenSpec.ofChange fnPlaceSpec)

/-- ITS FALSE NEIGHBOUR: 'it returns false'. Refute it at one input. -/
def fnPlaceWrong : ChangeSpec := { name := "fnPlace", fn := fun _ => fun
  | [d1, d2] => { results := [.lit (.bool false)], args := [d1, d2] }
  | _ => none }
def FnPlaceWrongFalsely : Prop := fnPlaceRow.holds Tryz.pinned (OpenSpec.ofChange fnPlaceWrong)

/-- 'laws.FnCheck': WHATEVER THE INPUT: true; the input reads as it did. -/
def fnCheckSpec : ChangeSpec := { name := "fnCheck", fn := fun _ => fun
  | [d1, d2] => { results := [.lit (.bool true)], args := [d1, d2] }
  | _ => none }
def fnCheckRow : OpenClaim := { program := "ytcnallabiffemaagreatdoor", sum := "fe5d00e5ff48becae62c1ee6405ecefa4cce77a6248f30ad75edbd989b4ec522", func := "zxdatamatrix/laws.FnCheck", spec := "fnCheck", unfollowed := true, recurses := true, named := ["unicode/utf8.first", "unicode/utf8.acceptRanges"], apart := false, laid := [("unicode/utf8.acceptRanges", laid_unicode_utf8_acceptRanges), ("unicode/utf8.first", laid_unicode_utf8_first)] }
def FnCheckSaid : Prop := fnCheckRow.holds Tryz.pinned (OpenSpec.ofChange fnCheckSpec)

/-- ITS FALSE NEIGHBOUR: 'it returns false'. Refute it at one input. -/
def fnCheckWrong : ChangeSpec := { name := "fnCheck", fn := fun _ => fun
  | [d1, d2] => { results := [.lit (.bool false)], args := [d1, d2] }
  | _ => none }
def FnCheckWrongFalsely : Prop := fnCheckRow.holds Tryz.pinned (OpenSpec.ofChange fnCheckWrong)

/- THE SECOND FORM. 'bulk': how many values and letters a reading holds, each counted each time it is reached (what is shared counts as often as it is met; a slice's spare places count too). A statement '..UptoSaid' is the law's where the arguments, and the package variables that the reading takes, are together of bulk at most 1048576: NARROWER than '..Said'. Prove '..Said' where nothing that the law and all that it calls make is longer than what came in: it says more and counts as full. Else prove '..UptoSaid'. A law counts once. -/
mutual
def uptoBulk {H : Type} : DataW H → Nat
  | .lit (.string bytes) => bytes.length + 1
  | .lit _ => 1
  | .nil => 1
  | .ptr d => uptoBulk d + 1
  | .slice elems spare => uptoBulkAll elems + uptoBulkAll spare + 1
  | .agg parts => uptoBulkAll parts + 1
  | .iface _ d => uptoBulk d + 1
  | .map entries => uptoBulkEntries entries + 1
  | .held _ => 1
def uptoBulkAll {H : Type} : List (DataW H) → Nat
  | [] => 0
  | d :: r => uptoBulk d + uptoBulkAll r
def uptoBulkEntries {H : Type} : List (Lit × DataW H) → Nat
  | [] => 0
  | x :: r => uptoBulkEntry x + uptoBulkEntries r
def uptoBulkEntry {H : Type} : Lit × DataW H → Nat
  | (.string bytes, d) => bytes.length + uptoBulk d + 1
  | (_, d) => uptoBulk d + 1
 end
def uptoSmall : (H : Type) → List (DataW H) → Bool := fun _ ds => decide (uptoBulkAll ds ≤ 1048576)
def OpenSpec.upto (s : _root_.Go.ChangeSpec) : _root_.Go.OpenSpec := { _root_.Go.OpenSpec.ofChange s with cond := some uptoSmall }

/-- 'laws.FnEncode', WHERE WHAT IT READS IS OF BULK AT MOST 1048576: true; the input reads as it did. -/
def fnEncodeUptoRow : OpenClaim := { program := "ytcnallabiffemaagreatdoor", sum := "fe5d00e5ff48becae62c1ee6405ecefa4cce77a6248f30ad75edbd989b4ec522", func := "zxdatamatrix/laws.FnEncode", spec := "fnEncode", unfollowed := true, recurses := true, named := ["unicode/utf8.first", "unicode/utf8.acceptRanges"], apart := false, laid := [("unicode/utf8.acceptRanges", laid_unicode_utf8_acceptRanges), ("unicode/utf8.first", laid_unicode_utf8_first)], narrowed := true }
def FnEncodeUptoSaid : Prop := fnEncodeUptoRow.holds Tryz.pinned (OpenSpec.upto fnEncodeSpec)

/-- 'laws.FnSymbol', WHERE WHAT IT READS IS OF BULK AT MOST 1048576: true; the input reads as it did. -/
def fnSymbolUptoRow : OpenClaim := { program := "ytcnallabiffemaagreatdoor", sum := "fe5d00e5ff48becae62c1ee6405ecefa4cce77a6248f30ad75edbd989b4ec522", func := "zxdatamatrix/laws.FnSymbol", spec := "fnSymbol", unfollowed := true, recurses := true, named := ["unicode/utf8.first", "unicode/utf8.acceptRanges"], apart := false, laid := [("unicode/utf8.acceptRanges", laid_unicode_utf8_acceptRanges), ("unicode/utf8.first", laid_unicode_utf8_first)], narrowed := true }
def FnSymbolUptoSaid : Prop := fnSymbolUptoRow.holds Tryz.pinned (OpenSpec.upto fnSymbolSpec)

/-- 'laws.FnHighLevel', WHERE WHAT IT READS IS OF BULK AT MOST 1048576: true; the input reads as it did. -/
def fnHighLevelUptoRow : OpenClaim := { program := "ytcnallabiffemaagreatdoor", sum := "fe5d00e5ff48becae62c1ee6405ecefa4cce77a6248f30ad75edbd989b4ec522", func := "zxdatamatrix/laws.FnHighLevel", spec := "fnHighLevel", unfollowed := true, recurses := true, named := ["unicode/utf8.first", "unicode/utf8.acceptRanges"], apart := false, laid := [("unicode/utf8.acceptRanges", laid_unicode_utf8_acceptRanges), ("unicode/utf8.first", laid_unicode_utf8_first)], narrowed := true }
def FnHighLevelUptoSaid : Prop := fnHighLevelUptoRow.holds Tryz.pinned (OpenSpec.upto fnHighLevelSpec)

/-- 'laws.FnPlace', WHERE WHAT IT READS IS OF BULK AT MOST 1048576: true; the input reads as it did. -/
def fnPlaceUptoRow : OpenClaim := { program := "ytcnallabiffemaagreatdoor", sum := "fe5d00e5ff48becae62c1ee6405ecefa4cce77a6248f30ad75edbd989b4ec522", func := "zxdatamatrix/laws.FnPlace", spec := "fnPlace", unfollowed := true, recurses := true, named := ["unicode/utf8.first", "unicode/utf8.acceptRanges"], apart := false, laid := [("unicode/utf8.acceptRanges", laid_unicode_utf8_acceptRanges), ("unicode/utf8.first", laid_unicode_utf8_first)], narrowed := true }
def FnPlaceUptoSaid : Prop := fnPlaceUptoRow.holds Tryz.pinned (OpenSpec.upto fnPlaceSpec)

/-- 'laws.FnCheck', WHERE WHAT IT READS IS OF BULK AT MOST 1048576: true; the input reads as it did. -/
def fnCheckUptoRow : OpenClaim := { program := "ytcnallabiffemaagreatdoor", sum := "fe5d00e5ff48becae62c1ee6405ecefa4cce77a6248f30ad75edbd989b4ec522", func := "zxdatamatrix/laws.FnCheck", spec := "fnCheck", unfollowed := true, recurses := true, named := ["unicode/utf8.first", "unicode/utf8.acceptRanges"], apart := false, laid := [("unicode/utf8.acceptRanges", laid_unicode_utf8_acceptRanges), ("unicode/utf8.first", laid_unicode_utf8_first)], narrowed := true }
def FnCheckUptoSaid : Prop := fnCheckUptoRow.holds Tryz.pinned (OpenSpec.upto fnCheckSpec)

end Rows
end Go.Proofs.YtcnallabiffemaaGreatDoor
