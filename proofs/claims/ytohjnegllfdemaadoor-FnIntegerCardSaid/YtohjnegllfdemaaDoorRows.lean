/-
  NARROWER THAN 'FOR EVERY INPUT', by the rows' own cells (each row's printed sentence says how): FnDisplay: laid · FnParameters: laid · FnItem: laid · FnInnerList: laid · FnList: laid · FnListJoins: laid · FnDictionary: laid · FnHandedOut: laid · FnInteger: laid · FnDate: laid.
  DERIVED. THE GIVEN ROWS OF THIS SEAT. 10 by the template 'for every input the law returns true; each argument reads behind the call as it read before'; 0 by the template 'total and deterministic' (their statements: YtohjnegllfdemaaDoorTotals.lean).
  GIVEN WITH THE SEED: the statements are not yours to turn. If you find one false, say at which input.
  Laid BY PROGRAM, IN A SANDBOX (cutbox-rows.mjs): the forced cells as the released guide's own fill.sh prints them over the translation 34459e59ed1be32b… (all of the seat's roots in one cut). By AI agents, Wed Nov 11 2026. No macro, syntax, notation, axiom, sorry.
-/
import Derived.Test.YtohjnegllfdemaaDoorChecked
import GoSem.PinnedTables
import GoSem.Claim
import GoSem.ClaimJoined
import GoSem.ClaimMapViews
import Derived.JoinedTies
import Derived.KernelRfl
namespace Go.Proofs.YtohjnegllfdemaaDoor
/- THE CELL 'sum', in the pinned program and in every row, IS THE sha256 OF THE DUMP (.gsa) THAT YtohjnegllfdemaaDoorProg.lean LOADS. Nothing in Lean hashes anything: it is a label: what it is worth is what the hold of that sum in a sandbox is worth. -/
noncomputable def Tryd.pinned : Pinned := { name := "ytohjnegllfdemaadoor", sum := "34459e59ed1be32b2596c66796b870e1b9f1b215ba9bcbc7df13e53495e7c5f9", checked := Tryd.checked }
namespace Rows
def none {H : Type} : Left H := { results := [], args := [] }

/- WHAT THE LISTED PACKAGE-LEVEL VARIABLES READ AS WHEN THE CALL BEGINS. Each datum BY PROGRAM (the guide's laid-datum.mjs) off the statement by which the dump's own 'gosem.cut.vars' lays the variable. In a bare row this is a premise. The card (YtohjnegllfdemaaDoorCards.lean) ties it to the program's text. -/
def laid_unicode_utf8_acceptRanges {H : Type} : DataW H := .agg [.agg [.lit (.int .u8 128), .lit (.int .u8 191)], .agg [.lit (.int .u8 160), .lit (.int .u8 191)], .agg [.lit (.int .u8 128), .lit (.int .u8 159)], .agg [.lit (.int .u8 144), .lit (.int .u8 191)], .agg [.lit (.int .u8 128), .lit (.int .u8 143)], .agg [.lit (.int .u8 0), .lit (.int .u8 0)], .agg [.lit (.int .u8 0), .lit (.int .u8 0)], .agg [.lit (.int .u8 0), .lit (.int .u8 0)], .agg [.lit (.int .u8 0), .lit (.int .u8 0)], .agg [.lit (.int .u8 0), .lit (.int .u8 0)], .agg [.lit (.int .u8 0), .lit (.int .u8 0)], .agg [.lit (.int .u8 0), .lit (.int .u8 0)], .agg [.lit (.int .u8 0), .lit (.int .u8 0)], .agg [.lit (.int .u8 0), .lit (.int .u8 0)], .agg [.lit (.int .u8 0), .lit (.int .u8 0)], .agg [.lit (.int .u8 0), .lit (.int .u8 0)]]
/-- One of Go's own tables, pinned by name: the form's constant. -/
def laid_unicode_utf8_first : DataW Unit := Go.Pinned.utf8First
def laid_math_bits_deBruijn32tab {H : Type} : DataW H := .agg [.lit (.int .u8 0), .lit (.int .u8 1), .lit (.int .u8 28), .lit (.int .u8 2), .lit (.int .u8 29), .lit (.int .u8 14), .lit (.int .u8 24), .lit (.int .u8 3), .lit (.int .u8 30), .lit (.int .u8 22), .lit (.int .u8 20), .lit (.int .u8 15), .lit (.int .u8 25), .lit (.int .u8 17), .lit (.int .u8 4), .lit (.int .u8 8), .lit (.int .u8 31), .lit (.int .u8 27), .lit (.int .u8 13), .lit (.int .u8 23), .lit (.int .u8 21), .lit (.int .u8 19), .lit (.int .u8 16), .lit (.int .u8 7), .lit (.int .u8 26), .lit (.int .u8 12), .lit (.int .u8 18), .lit (.int .u8 6), .lit (.int .u8 11), .lit (.int .u8 5), .lit (.int .u8 10), .lit (.int .u8 9)]
def laid_math_bits_deBruijn64tab {H : Type} : DataW H := .agg [.lit (.int .u8 0), .lit (.int .u8 1), .lit (.int .u8 56), .lit (.int .u8 2), .lit (.int .u8 57), .lit (.int .u8 49), .lit (.int .u8 28), .lit (.int .u8 3), .lit (.int .u8 61), .lit (.int .u8 58), .lit (.int .u8 42), .lit (.int .u8 50), .lit (.int .u8 38), .lit (.int .u8 29), .lit (.int .u8 17), .lit (.int .u8 4), .lit (.int .u8 62), .lit (.int .u8 47), .lit (.int .u8 59), .lit (.int .u8 36), .lit (.int .u8 45), .lit (.int .u8 43), .lit (.int .u8 51), .lit (.int .u8 22), .lit (.int .u8 53), .lit (.int .u8 39), .lit (.int .u8 33), .lit (.int .u8 30), .lit (.int .u8 24), .lit (.int .u8 18), .lit (.int .u8 12), .lit (.int .u8 5), .lit (.int .u8 63), .lit (.int .u8 55), .lit (.int .u8 48), .lit (.int .u8 27), .lit (.int .u8 60), .lit (.int .u8 41), .lit (.int .u8 37), .lit (.int .u8 16), .lit (.int .u8 46), .lit (.int .u8 35), .lit (.int .u8 44), .lit (.int .u8 21), .lit (.int .u8 52), .lit (.int .u8 32), .lit (.int .u8 23), .lit (.int .u8 11), .lit (.int .u8 54), .lit (.int .u8 26), .lit (.int .u8 40), .lit (.int .u8 15), .lit (.int .u8 34), .lit (.int .u8 20), .lit (.int .u8 31), .lit (.int .u8 10), .lit (.int .u8 25), .lit (.int .u8 14), .lit (.int .u8 19), .lit (.int .u8 9), .lit (.int .u8 13), .lit (.int .u8 8), .lit (.int .u8 7), .lit (.int .u8 6)]
def laid_internal_strconv_uint64pow10 {H : Type} : DataW H := .agg [.lit (.int .u64 1), .lit (.int .u64 10), .lit (.int .u64 100), .lit (.int .u64 1000), .lit (.int .u64 10000), .lit (.int .u64 100000), .lit (.int .u64 1000000), .lit (.int .u64 10000000), .lit (.int .u64 100000000), .lit (.int .u64 1000000000), .lit (.int .u64 10000000000), .lit (.int .u64 100000000000), .lit (.int .u64 1000000000000), .lit (.int .u64 10000000000000), .lit (.int .u64 100000000000000), .lit (.int .u64 1000000000000000), .lit (.int .u64 10000000000000000), .lit (.int .u64 100000000000000000), .lit (.int .u64 1000000000000000000), .lit (.int .u64 10000000000000000000)]
def laid_strconv_ErrRange {H : Type} : DataW H := .iface "*errors.errorString" (.ptr (.agg [.lit (.string [118, 97, 108, 117, 101, 32, 111, 117, 116, 32, 111, 102, 32, 114, 97, 110, 103, 101])]))
def laid_strconv_ErrSyntax {H : Type} : DataW H := .iface "*errors.errorString" (.ptr (.agg [.lit (.string [105, 110, 118, 97, 108, 105, 100, 32, 115, 121, 110, 116, 97, 120])]))

/-- 'laws.FnDisplay': WHATEVER THE INPUT: true; the input reads as it did. -/
def fnDisplaySpec : ChangeSpec := { name := "fnDisplay", fn := fun _ => fun
  | [d] => { results := [.lit (.bool true)], args := [d] }
  | _ => none }
def fnDisplayRow : OpenClaim := { program := "ytohjnegllfdemaadoor", sum := "34459e59ed1be32b2596c66796b870e1b9f1b215ba9bcbc7df13e53495e7c5f9", func := "httpfields/laws.FnDisplay", spec := "fnDisplay", inPlace := ["internal/abi.NoEscape"], unfollowed := true, recurses := true, named := ["unicode/utf8.first", "unicode/utf8.acceptRanges"], apart := false, laid := [("unicode/utf8.acceptRanges", laid_unicode_utf8_acceptRanges), ("unicode/utf8.first", laid_unicode_utf8_first)] }
def FnDisplaySaid : Prop := fnDisplayRow.holds Tryd.pinned (OpenSpec.ofChange fnDisplaySpec)

/-- ITS FALSE NEIGHBOUR: 'it returns false'. Refute it at one input. -/
def fnDisplayWrong : ChangeSpec := { name := "fnDisplay", fn := fun _ => fun
  | [d] => { results := [.lit (.bool false)], args := [d] }
  | _ => none }
def FnDisplayWrongFalsely : Prop := fnDisplayRow.holds Tryd.pinned (OpenSpec.ofChange fnDisplayWrong)

/-- 'laws.FnParameters': WHATEVER THE INPUT: true; the input reads as it did. -/
def fnParametersSpec : ChangeSpec := { name := "fnParameters", fn := fun _ => fun
  | [d] => { results := [.lit (.bool true)], args := [d] }
  | _ => none }
def fnParametersRow : OpenClaim := { program := "ytohjnegllfdemaadoor", sum := "34459e59ed1be32b2596c66796b870e1b9f1b215ba9bcbc7df13e53495e7c5f9", func := "httpfields/laws.FnParameters", spec := "fnParameters", unfollowed := true, recurses := true, named := ["unicode/utf8.first", "unicode/utf8.acceptRanges"], apart := false, laid := [("unicode/utf8.acceptRanges", laid_unicode_utf8_acceptRanges), ("unicode/utf8.first", laid_unicode_utf8_first)] }
def FnParametersSaid : Prop := fnParametersRow.holds Tryd.pinned (OpenSpec.ofChange fnParametersSpec)

/-- ITS FALSE NEIGHBOUR: 'it returns false'. Refute it at one input. -/
def fnParametersWrong : ChangeSpec := { name := "fnParameters", fn := fun _ => fun
  | [d] => { results := [.lit (.bool false)], args := [d] }
  | _ => none }
def FnParametersWrongFalsely : Prop := fnParametersRow.holds Tryd.pinned (OpenSpec.ofChange fnParametersWrong)

/-- 'laws.FnItem': WHATEVER THE INPUT: true; the input reads as it did. -/
def fnItemSpec : ChangeSpec := { name := "fnItem", fn := fun _ => fun
  | [d] => { results := [.lit (.bool true)], args := [d] }
  | _ => none }
def fnItemRow : OpenClaim := { program := "ytohjnegllfdemaadoor", sum := "34459e59ed1be32b2596c66796b870e1b9f1b215ba9bcbc7df13e53495e7c5f9", func := "httpfields/laws.FnItem", spec := "fnItem", unfollowed := true, recurses := true, named := ["unicode/utf8.first", "unicode/utf8.acceptRanges"], apart := false, laid := [("unicode/utf8.acceptRanges", laid_unicode_utf8_acceptRanges), ("unicode/utf8.first", laid_unicode_utf8_first)] }
def FnItemSaid : Prop := fnItemRow.holds Tryd.pinned (OpenSpec.ofChange fnItemSpec)

/-- ITS FALSE NEIGHBOUR: 'it returns false'. Refute it at one input. -/
def fnItemWrong : ChangeSpec := { name := "fnItem", fn := fun _ => fun
  | [d] => { results := [.lit (.bool false)], args := [d] }
  | _ => none }
def FnItemWrongFalsely : Prop := fnItemRow.holds Tryd.pinned (OpenSpec.ofChange fnItemWrong)

/-- 'laws.FnInnerList': WHATEVER THE INPUT: true; the input reads as it did. -/
def fnInnerListSpec : ChangeSpec := { name := "fnInnerList", fn := fun _ => fun
  | [d] => { results := [.lit (.bool true)], args := [d] }
  | _ => none }
def fnInnerListRow : OpenClaim := { program := "ytohjnegllfdemaadoor", sum := "34459e59ed1be32b2596c66796b870e1b9f1b215ba9bcbc7df13e53495e7c5f9", func := "httpfields/laws.FnInnerList", spec := "fnInnerList", unfollowed := true, recurses := true, named := ["unicode/utf8.first", "unicode/utf8.acceptRanges"], apart := false, laid := [("unicode/utf8.acceptRanges", laid_unicode_utf8_acceptRanges), ("unicode/utf8.first", laid_unicode_utf8_first)] }
def FnInnerListSaid : Prop := fnInnerListRow.holds Tryd.pinned (OpenSpec.ofChange fnInnerListSpec)

/-- ITS FALSE NEIGHBOUR: 'it returns false'. Refute it at one input. -/
def fnInnerListWrong : ChangeSpec := { name := "fnInnerList", fn := fun _ => fun
  | [d] => { results := [.lit (.bool false)], args := [d] }
  | _ => none }
def FnInnerListWrongFalsely : Prop := fnInnerListRow.holds Tryd.pinned (OpenSpec.ofChange fnInnerListWrong)

/-- 'laws.FnList': WHATEVER THE INPUT: true; the input reads as it did. -/
def fnListSpec : ChangeSpec := { name := "fnList", fn := fun _ => fun
  | [d] => { results := [.lit (.bool true)], args := [d] }
  | _ => none }
def fnListRow : OpenClaim := { program := "ytohjnegllfdemaadoor", sum := "34459e59ed1be32b2596c66796b870e1b9f1b215ba9bcbc7df13e53495e7c5f9", func := "httpfields/laws.FnList", spec := "fnList", unfollowed := true, recurses := true, named := ["unicode/utf8.first", "unicode/utf8.acceptRanges"], apart := false, laid := [("unicode/utf8.acceptRanges", laid_unicode_utf8_acceptRanges), ("unicode/utf8.first", laid_unicode_utf8_first)] }
def FnListSaid : Prop := fnListRow.holds Tryd.pinned (OpenSpec.ofChange fnListSpec)

/-- ITS FALSE NEIGHBOUR: 'it returns false'. Refute it at one input. -/
def fnListWrong : ChangeSpec := { name := "fnList", fn := fun _ => fun
  | [d] => { results := [.lit (.bool false)], args := [d] }
  | _ => none }
def FnListWrongFalsely : Prop := fnListRow.holds Tryd.pinned (OpenSpec.ofChange fnListWrong)

/-- 'laws.FnListJoins': WHATEVER THE INPUT: true; the input reads as it did. -/
def fnListJoinsSpec : ChangeSpec := { name := "fnListJoins", fn := fun _ => fun
  | [d1, d2] => { results := [.lit (.bool true)], args := [d1, d2] }
  | _ => none }
def fnListJoinsRow : OpenClaim := { program := "ytohjnegllfdemaadoor", sum := "34459e59ed1be32b2596c66796b870e1b9f1b215ba9bcbc7df13e53495e7c5f9", func := "httpfields/laws.FnListJoins", spec := "fnListJoins", unfollowed := true, recurses := true, named := ["unicode/utf8.first", "unicode/utf8.acceptRanges"], apart := false, laid := [("unicode/utf8.acceptRanges", laid_unicode_utf8_acceptRanges), ("unicode/utf8.first", laid_unicode_utf8_first)] }
def FnListJoinsSaid : Prop := fnListJoinsRow.holds Tryd.pinned (OpenSpec.ofChange fnListJoinsSpec)

/-- ITS FALSE NEIGHBOUR: 'it returns false'. Refute it at one input. -/
def fnListJoinsWrong : ChangeSpec := { name := "fnListJoins", fn := fun _ => fun
  | [d1, d2] => { results := [.lit (.bool false)], args := [d1, d2] }
  | _ => none }
def FnListJoinsWrongFalsely : Prop := fnListJoinsRow.holds Tryd.pinned (OpenSpec.ofChange fnListJoinsWrong)

/-- 'laws.FnDictionary': WHATEVER THE INPUT: true; the input reads as it did. -/
def fnDictionarySpec : ChangeSpec := { name := "fnDictionary", fn := fun _ => fun
  | [d] => { results := [.lit (.bool true)], args := [d] }
  | _ => none }
def fnDictionaryRow : OpenClaim := { program := "ytohjnegllfdemaadoor", sum := "34459e59ed1be32b2596c66796b870e1b9f1b215ba9bcbc7df13e53495e7c5f9", func := "httpfields/laws.FnDictionary", spec := "fnDictionary", unfollowed := true, recurses := true, named := ["unicode/utf8.first", "unicode/utf8.acceptRanges"], apart := false, laid := [("unicode/utf8.acceptRanges", laid_unicode_utf8_acceptRanges), ("unicode/utf8.first", laid_unicode_utf8_first)] }
def FnDictionarySaid : Prop := fnDictionaryRow.holds Tryd.pinned (OpenSpec.ofChange fnDictionarySpec)

/-- ITS FALSE NEIGHBOUR: 'it returns false'. Refute it at one input. -/
def fnDictionaryWrong : ChangeSpec := { name := "fnDictionary", fn := fun _ => fun
  | [d] => { results := [.lit (.bool false)], args := [d] }
  | _ => none }
def FnDictionaryWrongFalsely : Prop := fnDictionaryRow.holds Tryd.pinned (OpenSpec.ofChange fnDictionaryWrong)

/-- 'laws.FnHandedOut': WHATEVER THE INPUT: true; the input reads as it did. -/
def fnHandedOutSpec : ChangeSpec := { name := "fnHandedOut", fn := fun _ => fun
  | [d] => { results := [.lit (.bool true)], args := [d] }
  | _ => none }
def fnHandedOutRow : OpenClaim := { program := "ytohjnegllfdemaadoor", sum := "34459e59ed1be32b2596c66796b870e1b9f1b215ba9bcbc7df13e53495e7c5f9", func := "httpfields/laws.FnHandedOut", spec := "fnHandedOut", unfollowed := true, recurses := true, named := ["unicode/utf8.first", "unicode/utf8.acceptRanges"], apart := false, laid := [("unicode/utf8.acceptRanges", laid_unicode_utf8_acceptRanges), ("unicode/utf8.first", laid_unicode_utf8_first)] }
def FnHandedOutSaid : Prop := fnHandedOutRow.holds Tryd.pinned (OpenSpec.ofChange fnHandedOutSpec)

/-- ITS FALSE NEIGHBOUR: 'it returns false'. Refute it at one input. -/
def fnHandedOutWrong : ChangeSpec := { name := "fnHandedOut", fn := fun _ => fun
  | [d] => { results := [.lit (.bool false)], args := [d] }
  | _ => none }
def FnHandedOutWrongFalsely : Prop := fnHandedOutRow.holds Tryd.pinned (OpenSpec.ofChange fnHandedOutWrong)

/-- 'laws.FnInteger': WHATEVER THE INPUT: true; the input reads as it did. -/
def fnIntegerSpec : ChangeSpec := { name := "fnInteger", fn := fun _ => fun
  | [d] => { results := [.lit (.bool true)], args := [d] }
  | _ => none }
def fnIntegerRow : OpenClaim := { program := "ytohjnegllfdemaadoor", sum := "34459e59ed1be32b2596c66796b870e1b9f1b215ba9bcbc7df13e53495e7c5f9", func := "httpfields/laws.FnInteger", spec := "fnInteger", named := ["strconv.ErrSyntax", "strconv.ErrRange", "internal/strconv.uint64pow10", "math/bits.deBruijn32tab", "math/bits.deBruijn64tab"], apart := false, laid := [("math/bits.deBruijn32tab", laid_math_bits_deBruijn32tab), ("math/bits.deBruijn64tab", laid_math_bits_deBruijn64tab), ("internal/strconv.uint64pow10", laid_internal_strconv_uint64pow10), ("strconv.ErrRange", laid_strconv_ErrRange), ("strconv.ErrSyntax", laid_strconv_ErrSyntax)] }
def FnIntegerSaid : Prop := fnIntegerRow.holds Tryd.pinned (OpenSpec.ofChange fnIntegerSpec)

/-- ITS FALSE NEIGHBOUR: 'it returns false'. Refute it at one input. -/
def fnIntegerWrong : ChangeSpec := { name := "fnInteger", fn := fun _ => fun
  | [d] => { results := [.lit (.bool false)], args := [d] }
  | _ => none }
def FnIntegerWrongFalsely : Prop := fnIntegerRow.holds Tryd.pinned (OpenSpec.ofChange fnIntegerWrong)

/-- 'laws.FnDate': WHATEVER THE INPUT: true; the input reads as it did. -/
def fnDateSpec : ChangeSpec := { name := "fnDate", fn := fun _ => fun
  | [d] => { results := [.lit (.bool true)], args := [d] }
  | _ => none }
def fnDateRow : OpenClaim := { program := "ytohjnegllfdemaadoor", sum := "34459e59ed1be32b2596c66796b870e1b9f1b215ba9bcbc7df13e53495e7c5f9", func := "httpfields/laws.FnDate", spec := "fnDate", named := ["strconv.ErrSyntax", "strconv.ErrRange", "internal/strconv.uint64pow10", "math/bits.deBruijn32tab", "math/bits.deBruijn64tab"], apart := false, laid := [("math/bits.deBruijn32tab", laid_math_bits_deBruijn32tab), ("math/bits.deBruijn64tab", laid_math_bits_deBruijn64tab), ("internal/strconv.uint64pow10", laid_internal_strconv_uint64pow10), ("strconv.ErrRange", laid_strconv_ErrRange), ("strconv.ErrSyntax", laid_strconv_ErrSyntax)] }
def FnDateSaid : Prop := fnDateRow.holds Tryd.pinned (OpenSpec.ofChange fnDateSpec)

/-- ITS FALSE NEIGHBOUR: 'it returns false'. Refute it at one input. -/
def fnDateWrong : ChangeSpec := { name := "fnDate", fn := fun _ => fun
  | [d] => { results := [.lit (.bool false)], args := [d] }
  | _ => none }
def FnDateWrongFalsely : Prop := fnDateRow.holds Tryd.pinned (OpenSpec.ofChange fnDateWrong)

/- THE SECOND FORM. 'bulk': how many values and letters a reading holds, each counted each time it is reached (what is shared counts as often as it is met; a slice's spare places count too). A statement '..UptoSaid' is the law's where the arguments, and the package variables that the reading takes, are together of bulk at most 1048576: NARROWER than '..Said'. Prove '..Said' where nothing that the law and all that it calls make is longer than what came in: it says more and counts as full. Else prove '..UptoSaid'. A law counts once. -/
mutual
def uptoBulk {H : Type} : DataW H → Nat
  | .lit (.string bytes) => bytes.length + 1
  | .lit _ => 1
  | .nil => 1
  | .ptr d => uptoBulk d + 1
  | .slice elems spare => uptoBulkAll elems + uptoBulkAll spare + 1
  | .agg parts => uptoBulkAll parts + 1
  | .iface _ d => uptoBulk d + 1
  | .map entries => uptoBulkEntries entries + 1
  | .held _ => 1
def uptoBulkAll {H : Type} : List (DataW H) → Nat
  | [] => 0
  | d :: r => uptoBulk d + uptoBulkAll r
def uptoBulkEntries {H : Type} : List (Lit × DataW H) → Nat
  | [] => 0
  | x :: r => uptoBulkEntry x + uptoBulkEntries r
def uptoBulkEntry {H : Type} : Lit × DataW H → Nat
  | (.string bytes, d) => bytes.length + uptoBulk d + 1
  | (_, d) => uptoBulk d + 1
 end
def uptoSmall : (H : Type) → List (DataW H) → Bool := fun _ ds => decide (uptoBulkAll ds ≤ 1048576)
def OpenSpec.upto (s : _root_.Go.ChangeSpec) : _root_.Go.OpenSpec := { _root_.Go.OpenSpec.ofChange s with cond := some uptoSmall }

/-- 'laws.FnDisplay', WHERE WHAT IT READS IS OF BULK AT MOST 1048576: true; the input reads as it did. -/
def fnDisplayUptoRow : OpenClaim := { program := "ytohjnegllfdemaadoor", sum := "34459e59ed1be32b2596c66796b870e1b9f1b215ba9bcbc7df13e53495e7c5f9", func := "httpfields/laws.FnDisplay", spec := "fnDisplay", inPlace := ["internal/abi.NoEscape"], unfollowed := true, recurses := true, named := ["unicode/utf8.first", "unicode/utf8.acceptRanges"], apart := false, laid := [("unicode/utf8.acceptRanges", laid_unicode_utf8_acceptRanges), ("unicode/utf8.first", laid_unicode_utf8_first)], narrowed := true }
def FnDisplayUptoSaid : Prop := fnDisplayUptoRow.holds Tryd.pinned (OpenSpec.upto fnDisplaySpec)

/-- 'laws.FnParameters', WHERE WHAT IT READS IS OF BULK AT MOST 1048576: true; the input reads as it did. -/
def fnParametersUptoRow : OpenClaim := { program := "ytohjnegllfdemaadoor", sum := "34459e59ed1be32b2596c66796b870e1b9f1b215ba9bcbc7df13e53495e7c5f9", func := "httpfields/laws.FnParameters", spec := "fnParameters", unfollowed := true, recurses := true, named := ["unicode/utf8.first", "unicode/utf8.acceptRanges"], apart := false, laid := [("unicode/utf8.acceptRanges", laid_unicode_utf8_acceptRanges), ("unicode/utf8.first", laid_unicode_utf8_first)], narrowed := true }
def FnParametersUptoSaid : Prop := fnParametersUptoRow.holds Tryd.pinned (OpenSpec.upto fnParametersSpec)

/-- 'laws.FnItem', WHERE WHAT IT READS IS OF BULK AT MOST 1048576: true; the input reads as it did. -/
def fnItemUptoRow : OpenClaim := { program := "ytohjnegllfdemaadoor", sum := "34459e59ed1be32b2596c66796b870e1b9f1b215ba9bcbc7df13e53495e7c5f9", func := "httpfields/laws.FnItem", spec := "fnItem", unfollowed := true, recurses := true, named := ["unicode/utf8.first", "unicode/utf8.acceptRanges"], apart := false, laid := [("unicode/utf8.acceptRanges", laid_unicode_utf8_acceptRanges), ("unicode/utf8.first", laid_unicode_utf8_first)], narrowed := true }
def FnItemUptoSaid : Prop := fnItemUptoRow.holds Tryd.pinned (OpenSpec.upto fnItemSpec)

/-- 'laws.FnInnerList', WHERE WHAT IT READS IS OF BULK AT MOST 1048576: true; the input reads as it did. -/
def fnInnerListUptoRow : OpenClaim := { program := "ytohjnegllfdemaadoor", sum := "34459e59ed1be32b2596c66796b870e1b9f1b215ba9bcbc7df13e53495e7c5f9", func := "httpfields/laws.FnInnerList", spec := "fnInnerList", unfollowed := true, recurses := true, named := ["unicode/utf8.first", "unicode/utf8.acceptRanges"], apart := false, laid := [("unicode/utf8.acceptRanges", laid_unicode_utf8_acceptRanges), ("unicode/utf8.first", laid_unicode_utf8_first)], narrowed := true }
def FnInnerListUptoSaid : Prop := fnInnerListUptoRow.holds Tryd.pinned (OpenSpec.upto fnInnerListSpec)

/-- 'laws.FnList', WHERE WHAT IT READS IS OF BULK AT MOST 1048576: true; the input reads as it did. -/
def fnListUptoRow : OpenClaim := { program := "ytohjnegllfdemaadoor", sum := "34459e59ed1be32b2596c66796b870e1b9f1b215ba9bcbc7df13e53495e7c5f9", func := "httpfields/laws.FnList", spec := "fnList", unfollowed := true, recurses := true, named := ["unicode/utf8.first", "unicode/utf8.acceptRanges"], apart := false, laid := [("unicode/utf8.acceptRanges", laid_unicode_utf8_acceptRanges), ("unicode/utf8.first", laid_unicode_utf8_first)], narrowed := true }
def FnListUptoSaid : Prop := fnListUptoRow.holds Tryd.pinned (OpenSpec.upto fnListSpec)

/-- 'laws.FnListJoins', WHERE WHAT IT READS IS OF BULK AT MOST 1048576: true; the input reads as it did. -/
def fnListJoinsUptoRow : OpenClaim := { program := "ytohjnegllfdemaadoor", sum := "34459e59ed1be32b2596c66796b870e1b9f1b215ba9bcbc7df13e53495e7c5f9", func := "httpfields/laws.FnListJoins", spec := "fnListJoins", unfollowed := true, recurses := true, named := ["unicode/utf8.first", "unicode/utf8.acceptRanges"], apart := false, laid := [("unicode/utf8.acceptRanges", laid_unicode_utf8_acceptRanges), ("unicode/utf8.first", laid_unicode_utf8_first)], narrowed := true }
def FnListJoinsUptoSaid : Prop := fnListJoinsUptoRow.holds Tryd.pinned (OpenSpec.upto fnListJoinsSpec)

/-- 'laws.FnDictionary', WHERE WHAT IT READS IS OF BULK AT MOST 1048576: true; the input reads as it did. -/
def fnDictionaryUptoRow : OpenClaim := { program := "ytohjnegllfdemaadoor", sum := "34459e59ed1be32b2596c66796b870e1b9f1b215ba9bcbc7df13e53495e7c5f9", func := "httpfields/laws.FnDictionary", spec := "fnDictionary", unfollowed := true, recurses := true, named := ["unicode/utf8.first", "unicode/utf8.acceptRanges"], apart := false, laid := [("unicode/utf8.acceptRanges", laid_unicode_utf8_acceptRanges), ("unicode/utf8.first", laid_unicode_utf8_first)], narrowed := true }
def FnDictionaryUptoSaid : Prop := fnDictionaryUptoRow.holds Tryd.pinned (OpenSpec.upto fnDictionarySpec)

/-- 'laws.FnHandedOut', WHERE WHAT IT READS IS OF BULK AT MOST 1048576: true; the input reads as it did. -/
def fnHandedOutUptoRow : OpenClaim := { program := "ytohjnegllfdemaadoor", sum := "34459e59ed1be32b2596c66796b870e1b9f1b215ba9bcbc7df13e53495e7c5f9", func := "httpfields/laws.FnHandedOut", spec := "fnHandedOut", unfollowed := true, recurses := true, named := ["unicode/utf8.first", "unicode/utf8.acceptRanges"], apart := false, laid := [("unicode/utf8.acceptRanges", laid_unicode_utf8_acceptRanges), ("unicode/utf8.first", laid_unicode_utf8_first)], narrowed := true }
def FnHandedOutUptoSaid : Prop := fnHandedOutUptoRow.holds Tryd.pinned (OpenSpec.upto fnHandedOutSpec)

/-- 'laws.FnInteger', WHERE WHAT IT READS IS OF BULK AT MOST 1048576: true; the input reads as it did. -/
def fnIntegerUptoRow : OpenClaim := { program := "ytohjnegllfdemaadoor", sum := "34459e59ed1be32b2596c66796b870e1b9f1b215ba9bcbc7df13e53495e7c5f9", func := "httpfields/laws.FnInteger", spec := "fnInteger", named := ["strconv.ErrSyntax", "strconv.ErrRange", "internal/strconv.uint64pow10", "math/bits.deBruijn32tab", "math/bits.deBruijn64tab"], apart := false, laid := [("math/bits.deBruijn32tab", laid_math_bits_deBruijn32tab), ("math/bits.deBruijn64tab", laid_math_bits_deBruijn64tab), ("internal/strconv.uint64pow10", laid_internal_strconv_uint64pow10), ("strconv.ErrRange", laid_strconv_ErrRange), ("strconv.ErrSyntax", laid_strconv_ErrSyntax)], narrowed := true }
def FnIntegerUptoSaid : Prop := fnIntegerUptoRow.holds Tryd.pinned (OpenSpec.upto fnIntegerSpec)

/-- 'laws.FnDate', WHERE WHAT IT READS IS OF BULK AT MOST 1048576: true; the input reads as it did. -/
def fnDateUptoRow : OpenClaim := { program := "ytohjnegllfdemaadoor", sum := "34459e59ed1be32b2596c66796b870e1b9f1b215ba9bcbc7df13e53495e7c5f9", func := "httpfields/laws.FnDate", spec := "fnDate", named := ["strconv.ErrSyntax", "strconv.ErrRange", "internal/strconv.uint64pow10", "math/bits.deBruijn32tab", "math/bits.deBruijn64tab"], apart := false, laid := [("math/bits.deBruijn32tab", laid_math_bits_deBruijn32tab), ("math/bits.deBruijn64tab", laid_math_bits_deBruijn64tab), ("internal/strconv.uint64pow10", laid_internal_strconv_uint64pow10), ("strconv.ErrRange", laid_strconv_ErrRange), ("strconv.ErrSyntax", laid_strconv_ErrSyntax)], narrowed := true }
def FnDateUptoSaid : Prop := fnDateUptoRow.holds Tryd.pinned (OpenSpec.upto fnDateSpec)

end Rows
end Go.Proofs.YtohjnegllfdemaaDoor
