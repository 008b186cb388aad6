/-
  NARROWER THAN 'FOR EVERY INPUT', by the rows' own cells (each row's printed sentence says how): FnMatcher: laid · FnLabelsAbout: laid · FnLabelsText: laid · FnLabelsTwice: laid · FnRecordAny: laid · FnRecordBack: laid · FnRecordBehind: laid · FnRecordCut: laid · FnRecordOthers: laid · FnRecordType: laid · FnRecordLabels: laid · FnRecordMetrics: laid.
  DERIVED. THE GIVEN ROWS OF THIS SEAT. 12 by the template 'for every input the law returns true; each argument reads behind the call as it read before'; 0 by the template 'total and deterministic' (their statements: YtbkookiigkckdaaGreatDoorTotals.lean).
  GIVEN WITH THE SEED: the statements are not yours to turn. If you find one false, say at which input.
  Laid BY PROGRAM, IN A SANDBOX (cutbox-rows.mjs): the forced cells as the released guide's own fill.sh prints them over the translation 2cd254cbd550a5ba… (all of the seat's roots in one cut). By AI agents, Wed Nov 11 2026. No macro, syntax, notation, axiom, sorry.
-/
import Derived.Test.YtbkookiigkckdaaGreatDoorChecked
import GoSem.PinnedTables
import GoSem.Claim
import GoSem.ClaimJoined
import GoSem.ClaimMapViews
import Derived.JoinedTies
import Derived.KernelRfl
namespace Go.Proofs.YtbkookiigkckdaaGreatDoor
/- THE CELL 'sum', in the pinned program and in every row, IS THE sha256 OF THE DUMP (.gsa) THAT YtbkookiigkckdaaGreatDoorProg.lean LOADS. Nothing in Lean hashes anything: it is a label: what it is worth is what the hold of that sum in a sandbox is worth. -/
noncomputable def Tryz.pinned : Pinned := { name := "ytbkookiigkckdaagreatdoor", sum := "2cd254cbd550a5ba8f2073678597733b1aa458de26a9e412a6d4ff85bb475a63", checked := Tryz.checked }
namespace Rows
def none {H : Type} : Left H := { results := [], args := [] }

/- WHAT THE LISTED PACKAGE-LEVEL VARIABLES READ AS WHEN THE CALL BEGINS. Each datum BY PROGRAM (the guide's laid-datum.mjs) off the statement by which the dump's own 'gosem.cut.vars' lays the variable. In a bare row this is a premise. The card (YtbkookiigkckdaaGreatDoorCards.lean) ties it to the program's text. -/
def laid_unicode_utf8_acceptRanges {H : Type} : DataW H := .agg [.agg [.lit (.int .u8 128), .lit (.int .u8 191)], .agg [.lit (.int .u8 160), .lit (.int .u8 191)], .agg [.lit (.int .u8 128), .lit (.int .u8 159)], .agg [.lit (.int .u8 144), .lit (.int .u8 191)], .agg [.lit (.int .u8 128), .lit (.int .u8 143)], .agg [.lit (.int .u8 0), .lit (.int .u8 0)], .agg [.lit (.int .u8 0), .lit (.int .u8 0)], .agg [.lit (.int .u8 0), .lit (.int .u8 0)], .agg [.lit (.int .u8 0), .lit (.int .u8 0)], .agg [.lit (.int .u8 0), .lit (.int .u8 0)], .agg [.lit (.int .u8 0), .lit (.int .u8 0)], .agg [.lit (.int .u8 0), .lit (.int .u8 0)], .agg [.lit (.int .u8 0), .lit (.int .u8 0)], .agg [.lit (.int .u8 0), .lit (.int .u8 0)], .agg [.lit (.int .u8 0), .lit (.int .u8 0)], .agg [.lit (.int .u8 0), .lit (.int .u8 0)]]
def laid_bytes_ErrTooLarge {H : Type} : DataW H := .iface "*errors.errorString" (.ptr (.agg [.lit (.string [98, 121, 116, 101, 115, 46, 66, 117, 102, 102, 101, 114, 58, 32, 116, 111, 111, 32, 108, 97, 114, 103, 101])]))
def laid_pub_quillon_pub_prometheus_model_labels_matchTypeToStr {H : Type} : DataW H := .agg [.lit (.string [61]), .lit (.string [33, 61]), .lit (.string [61, 126]), .lit (.string [33, 126])]
/-- One of Go's own tables, pinned by name: the form's constant. -/
def laid_strconv_isGraphic : DataW Unit := Go.Pinned.isGraphic
/-- One of Go's own tables, pinned by name: the form's constant. -/
def laid_strconv_isNotPrint16 : DataW Unit := Go.Pinned.isNotPrint16
/-- One of Go's own tables, pinned by name: the form's constant. -/
def laid_strconv_isNotPrint32 : DataW Unit := Go.Pinned.isNotPrint32
/-- One of Go's own tables, pinned by name: the form's constant. -/
def laid_strconv_isPrint16 : DataW Unit := Go.Pinned.isPrint16
/-- One of Go's own tables, pinned by name: the form's constant. -/
def laid_strconv_isPrint32 : DataW Unit := Go.Pinned.isPrint32
/-- One of Go's own tables, pinned by name: the form's constant. -/
def laid_unicode_utf8_first : DataW Unit := Go.Pinned.utf8First
def laid_pub_quillon_impl_errStop {H : Type} : DataW H := .iface "*errors.errorString" (.ptr (.agg [.lit (.string [115, 116, 111, 112])]))
def laid_pub_quillon_pub_prometheus_tsdb_encoding_ErrInvalidSize {H : Type} : DataW H := .iface "*errors.errorString" (.ptr (.agg [.lit (.string [105, 110, 118, 97, 108, 105, 100, 32, 115, 105, 122, 101])]))

/-- 'laws.FnMatcher': WHATEVER THE INPUT: true; the input reads as it did. -/
def fnMatcherSpec : ChangeSpec := { name := "fnMatcher", fn := fun _ => fun
  | [d1, d2] => { results := [.lit (.bool true)], args := [d1, d2] }
  | _ => none }
def fnMatcherRow : OpenClaim := { program := "ytbkookiigkckdaagreatdoor", sum := "2cd254cbd550a5ba8f2073678597733b1aa458de26a9e412a6d4ff85bb475a63", func := "pub-quillon/laws.FnMatcher", spec := "fnMatcher", inPlace := ["internal/bytealg.abigen_runtime_cmpstring"], unfollowed := true, recurses := true, named := ["unicode/utf8.first", "unicode/utf8.acceptRanges", "strconv.isPrint16", "strconv.isNotPrint16", "strconv.isPrint32", "strconv.isNotPrint32", "strconv.isGraphic", "bytes.ErrTooLarge", "pub-quillon/pub/prometheus/model/labels.matchTypeToStr"], apart := false, laid := [("unicode/utf8.acceptRanges", laid_unicode_utf8_acceptRanges), ("bytes.ErrTooLarge", laid_bytes_ErrTooLarge), ("pub-quillon/pub/prometheus/model/labels.matchTypeToStr", laid_pub_quillon_pub_prometheus_model_labels_matchTypeToStr), ("strconv.isGraphic", laid_strconv_isGraphic), ("strconv.isNotPrint16", laid_strconv_isNotPrint16), ("strconv.isNotPrint32", laid_strconv_isNotPrint32), ("strconv.isPrint16", laid_strconv_isPrint16), ("strconv.isPrint32", laid_strconv_isPrint32), ("unicode/utf8.first", laid_unicode_utf8_first)] }
def FnMatcherSaid : Prop := fnMatcherRow.holds Tryz.pinned (OpenSpec.ofChange fnMatcherSpec)

/-- ITS FALSE NEIGHBOUR: 'it returns false'. Refute it at one input. -/
def fnMatcherWrong : ChangeSpec := { name := "fnMatcher", fn := fun _ => fun
  | [d1, d2] => { results := [.lit (.bool false)], args := [d1, d2] }
  | _ => none }
def FnMatcherWrongFalsely : Prop := fnMatcherRow.holds Tryz.pinned (OpenSpec.ofChange fnMatcherWrong)

/-- 'laws.FnLabelsAbout': WHATEVER THE INPUT: true; the input reads as it did. -/
def fnLabelsAboutSpec : ChangeSpec := { name := "fnLabelsAbout", fn := fun _ => fun
  | [d1, d2] => { results := [.lit (.bool true)], args := [d1, d2] }
  | _ => none }
def fnLabelsAboutRow : OpenClaim := { program := "ytbkookiigkckdaagreatdoor", sum := "2cd254cbd550a5ba8f2073678597733b1aa458de26a9e412a6d4ff85bb475a63", func := "pub-quillon/laws.FnLabelsAbout", spec := "fnLabelsAbout", inPlace := ["internal/bytealg.abigen_runtime_cmpstring"], unfollowed := true, recurses := true, named := ["pub-quillon/impl.errStop", "bytes.ErrTooLarge", "unicode/utf8.first", "unicode/utf8.acceptRanges", "strconv.isPrint16", "strconv.isNotPrint16", "strconv.isPrint32", "strconv.isNotPrint32", "strconv.isGraphic"], apart := false, laid := [("unicode/utf8.acceptRanges", laid_unicode_utf8_acceptRanges), ("bytes.ErrTooLarge", laid_bytes_ErrTooLarge), ("pub-quillon/impl.errStop", laid_pub_quillon_impl_errStop), ("strconv.isGraphic", laid_strconv_isGraphic), ("strconv.isNotPrint16", laid_strconv_isNotPrint16), ("strconv.isNotPrint32", laid_strconv_isNotPrint32), ("strconv.isPrint16", laid_strconv_isPrint16), ("strconv.isPrint32", laid_strconv_isPrint32), ("unicode/utf8.first", laid_unicode_utf8_first)] }
def FnLabelsAboutSaid : Prop := fnLabelsAboutRow.holds Tryz.pinned (OpenSpec.ofChange fnLabelsAboutSpec)

/-- ITS FALSE NEIGHBOUR: 'it returns false'. Refute it at one input. -/
def fnLabelsAboutWrong : ChangeSpec := { name := "fnLabelsAbout", fn := fun _ => fun
  | [d1, d2] => { results := [.lit (.bool false)], args := [d1, d2] }
  | _ => none }
def FnLabelsAboutWrongFalsely : Prop := fnLabelsAboutRow.holds Tryz.pinned (OpenSpec.ofChange fnLabelsAboutWrong)

/-- 'laws.FnLabelsText': WHATEVER THE INPUT: true; the input reads as it did. -/
def fnLabelsTextSpec : ChangeSpec := { name := "fnLabelsText", fn := fun _ => fun
  | [d] => { results := [.lit (.bool true)], args := [d] }
  | _ => none }
def fnLabelsTextRow : OpenClaim := { program := "ytbkookiigkckdaagreatdoor", sum := "2cd254cbd550a5ba8f2073678597733b1aa458de26a9e412a6d4ff85bb475a63", func := "pub-quillon/laws.FnLabelsText", spec := "fnLabelsText", inPlace := ["internal/bytealg.abigen_runtime_cmpstring"], unfollowed := true, recurses := true, named := ["pub-quillon/impl.errStop", "bytes.ErrTooLarge", "unicode/utf8.first", "unicode/utf8.acceptRanges", "strconv.isPrint16", "strconv.isNotPrint16", "strconv.isPrint32", "strconv.isNotPrint32", "strconv.isGraphic"], apart := false, laid := [("unicode/utf8.acceptRanges", laid_unicode_utf8_acceptRanges), ("bytes.ErrTooLarge", laid_bytes_ErrTooLarge), ("pub-quillon/impl.errStop", laid_pub_quillon_impl_errStop), ("strconv.isGraphic", laid_strconv_isGraphic), ("strconv.isNotPrint16", laid_strconv_isNotPrint16), ("strconv.isNotPrint32", laid_strconv_isNotPrint32), ("strconv.isPrint16", laid_strconv_isPrint16), ("strconv.isPrint32", laid_strconv_isPrint32), ("unicode/utf8.first", laid_unicode_utf8_first)] }
def FnLabelsTextSaid : Prop := fnLabelsTextRow.holds Tryz.pinned (OpenSpec.ofChange fnLabelsTextSpec)

/-- ITS FALSE NEIGHBOUR: 'it returns false'. Refute it at one input. -/
def fnLabelsTextWrong : ChangeSpec := { name := "fnLabelsText", fn := fun _ => fun
  | [d] => { results := [.lit (.bool false)], args := [d] }
  | _ => none }
def FnLabelsTextWrongFalsely : Prop := fnLabelsTextRow.holds Tryz.pinned (OpenSpec.ofChange fnLabelsTextWrong)

/-- 'laws.FnLabelsTwice': WHATEVER THE INPUT: true; the input reads as it did. -/
def fnLabelsTwiceSpec : ChangeSpec := { name := "fnLabelsTwice", fn := fun _ => fun
  | [d] => { results := [.lit (.bool true)], args := [d] }
  | _ => none }
def fnLabelsTwiceRow : OpenClaim := { program := "ytbkookiigkckdaagreatdoor", sum := "2cd254cbd550a5ba8f2073678597733b1aa458de26a9e412a6d4ff85bb475a63", func := "pub-quillon/laws.FnLabelsTwice", spec := "fnLabelsTwice", inPlace := ["internal/bytealg.abigen_runtime_cmpstring"], unfollowed := true, recurses := true, named := ["pub-quillon/impl.errStop", "bytes.ErrTooLarge", "unicode/utf8.first", "unicode/utf8.acceptRanges", "strconv.isPrint16", "strconv.isNotPrint16", "strconv.isPrint32", "strconv.isNotPrint32", "strconv.isGraphic"], apart := false, laid := [("unicode/utf8.acceptRanges", laid_unicode_utf8_acceptRanges), ("bytes.ErrTooLarge", laid_bytes_ErrTooLarge), ("pub-quillon/impl.errStop", laid_pub_quillon_impl_errStop), ("strconv.isGraphic", laid_strconv_isGraphic), ("strconv.isNotPrint16", laid_strconv_isNotPrint16), ("strconv.isNotPrint32", laid_strconv_isNotPrint32), ("strconv.isPrint16", laid_strconv_isPrint16), ("strconv.isPrint32", laid_strconv_isPrint32), ("unicode/utf8.first", laid_unicode_utf8_first)] }
def FnLabelsTwiceSaid : Prop := fnLabelsTwiceRow.holds Tryz.pinned (OpenSpec.ofChange fnLabelsTwiceSpec)

/-- ITS FALSE NEIGHBOUR: 'it returns false'. Refute it at one input. -/
def fnLabelsTwiceWrong : ChangeSpec := { name := "fnLabelsTwice", fn := fun _ => fun
  | [d] => { results := [.lit (.bool false)], args := [d] }
  | _ => none }
def FnLabelsTwiceWrongFalsely : Prop := fnLabelsTwiceRow.holds Tryz.pinned (OpenSpec.ofChange fnLabelsTwiceWrong)

/-- 'laws.FnRecordAny': WHATEVER THE INPUT: true; the input reads as it did. -/
def fnRecordAnySpec : ChangeSpec := { name := "fnRecordAny", fn := fun _ => fun
  | [d1, d2] => { results := [.lit (.bool true)], args := [d1, d2] }
  | _ => none }
def fnRecordAnyRow : OpenClaim := { program := "ytbkookiigkckdaagreatdoor", sum := "2cd254cbd550a5ba8f2073678597733b1aa458de26a9e412a6d4ff85bb475a63", func := "pub-quillon/laws.FnRecordAny", spec := "fnRecordAny", inPlace := ["internal/bytealg.abigen_runtime_cmpstring", "math.Float64frombits", "math.Float64bits"], unfollowed := true, recurses := true, named := ["encoding/binary.BigEndian", "pub-quillon/pub/prometheus/tsdb/encoding.ErrInvalidSize"], apart := false, laid := [("pub-quillon/pub/prometheus/tsdb/encoding.ErrInvalidSize", laid_pub_quillon_pub_prometheus_tsdb_encoding_ErrInvalidSize)] }
def FnRecordAnySaid : Prop := fnRecordAnyRow.holds Tryz.pinned (OpenSpec.ofChange fnRecordAnySpec)

/-- ITS FALSE NEIGHBOUR: 'it returns false'. Refute it at one input. -/
def fnRecordAnyWrong : ChangeSpec := { name := "fnRecordAny", fn := fun _ => fun
  | [d1, d2] => { results := [.lit (.bool false)], args := [d1, d2] }
  | _ => none }
def FnRecordAnyWrongFalsely : Prop := fnRecordAnyRow.holds Tryz.pinned (OpenSpec.ofChange fnRecordAnyWrong)

/-- 'laws.FnRecordBack': WHATEVER THE INPUT: true; the input reads as it did. -/
def fnRecordBackSpec : ChangeSpec := { name := "fnRecordBack", fn := fun _ => fun
  | [d1, d2] => { results := [.lit (.bool true)], args := [d1, d2] }
  | _ => none }
def fnRecordBackRow : OpenClaim := { program := "ytbkookiigkckdaagreatdoor", sum := "2cd254cbd550a5ba8f2073678597733b1aa458de26a9e412a6d4ff85bb475a63", func := "pub-quillon/laws.FnRecordBack", spec := "fnRecordBack", inPlace := ["internal/bytealg.abigen_runtime_cmpstring", "math.Float64frombits", "math.Float64bits"], unfollowed := true, recurses := true, named := ["encoding/binary.BigEndian", "pub-quillon/pub/prometheus/tsdb/encoding.ErrInvalidSize"], apart := false, laid := [("pub-quillon/pub/prometheus/tsdb/encoding.ErrInvalidSize", laid_pub_quillon_pub_prometheus_tsdb_encoding_ErrInvalidSize)] }
def FnRecordBackSaid : Prop := fnRecordBackRow.holds Tryz.pinned (OpenSpec.ofChange fnRecordBackSpec)

/-- ITS FALSE NEIGHBOUR: 'it returns false'. Refute it at one input. -/
def fnRecordBackWrong : ChangeSpec := { name := "fnRecordBack", fn := fun _ => fun
  | [d1, d2] => { results := [.lit (.bool false)], args := [d1, d2] }
  | _ => none }
def FnRecordBackWrongFalsely : Prop := fnRecordBackRow.holds Tryz.pinned (OpenSpec.ofChange fnRecordBackWrong)

/-- 'laws.FnRecordBehind': WHATEVER THE INPUT: true; the input reads as it did. -/
def fnRecordBehindSpec : ChangeSpec := { name := "fnRecordBehind", fn := fun _ => fun
  | [d1, d2, d3, d4] => { results := [.lit (.bool true)], args := [d1, d2, d3, d4] }
  | _ => none }
def fnRecordBehindRow : OpenClaim := { program := "ytbkookiigkckdaagreatdoor", sum := "2cd254cbd550a5ba8f2073678597733b1aa458de26a9e412a6d4ff85bb475a63", func := "pub-quillon/laws.FnRecordBehind", spec := "fnRecordBehind", inPlace := ["internal/bytealg.abigen_runtime_cmpstring", "math.Float64frombits", "math.Float64bits"], unfollowed := true, recurses := true, named := ["encoding/binary.BigEndian", "pub-quillon/pub/prometheus/tsdb/encoding.ErrInvalidSize"], apart := false, laid := [("pub-quillon/pub/prometheus/tsdb/encoding.ErrInvalidSize", laid_pub_quillon_pub_prometheus_tsdb_encoding_ErrInvalidSize)] }
def FnRecordBehindSaid : Prop := fnRecordBehindRow.holds Tryz.pinned (OpenSpec.ofChange fnRecordBehindSpec)

/-- ITS FALSE NEIGHBOUR: 'it returns false'. Refute it at one input. -/
def fnRecordBehindWrong : ChangeSpec := { name := "fnRecordBehind", fn := fun _ => fun
  | [d1, d2, d3, d4] => { results := [.lit (.bool false)], args := [d1, d2, d3, d4] }
  | _ => none }
def FnRecordBehindWrongFalsely : Prop := fnRecordBehindRow.holds Tryz.pinned (OpenSpec.ofChange fnRecordBehindWrong)

/-- 'laws.FnRecordCut': WHATEVER THE INPUT: true; the input reads as it did. -/
def fnRecordCutSpec : ChangeSpec := { name := "fnRecordCut", fn := fun _ => fun
  | [d1, d2, d3] => { results := [.lit (.bool true)], args := [d1, d2, d3] }
  | _ => none }
def fnRecordCutRow : OpenClaim := { program := "ytbkookiigkckdaagreatdoor", sum := "2cd254cbd550a5ba8f2073678597733b1aa458de26a9e412a6d4ff85bb475a63", func := "pub-quillon/laws.FnRecordCut", spec := "fnRecordCut", inPlace := ["internal/bytealg.abigen_runtime_cmpstring", "math.Float64frombits", "math.Float64bits"], unfollowed := true, recurses := true, named := ["encoding/binary.BigEndian", "pub-quillon/pub/prometheus/tsdb/encoding.ErrInvalidSize"], apart := false, laid := [("pub-quillon/pub/prometheus/tsdb/encoding.ErrInvalidSize", laid_pub_quillon_pub_prometheus_tsdb_encoding_ErrInvalidSize)] }
def FnRecordCutSaid : Prop := fnRecordCutRow.holds Tryz.pinned (OpenSpec.ofChange fnRecordCutSpec)

/-- ITS FALSE NEIGHBOUR: 'it returns false'. Refute it at one input. -/
def fnRecordCutWrong : ChangeSpec := { name := "fnRecordCut", fn := fun _ => fun
  | [d1, d2, d3] => { results := [.lit (.bool false)], args := [d1, d2, d3] }
  | _ => none }
def FnRecordCutWrongFalsely : Prop := fnRecordCutRow.holds Tryz.pinned (OpenSpec.ofChange fnRecordCutWrong)

/-- 'laws.FnRecordOthers': WHATEVER THE INPUT: true; the input reads as it did. -/
def fnRecordOthersSpec : ChangeSpec := { name := "fnRecordOthers", fn := fun _ => fun
  | [d1, d2, d3] => { results := [.lit (.bool true)], args := [d1, d2, d3] }
  | _ => none }
def fnRecordOthersRow : OpenClaim := { program := "ytbkookiigkckdaagreatdoor", sum := "2cd254cbd550a5ba8f2073678597733b1aa458de26a9e412a6d4ff85bb475a63", func := "pub-quillon/laws.FnRecordOthers", spec := "fnRecordOthers", inPlace := ["internal/bytealg.abigen_runtime_cmpstring", "math.Float64frombits", "math.Float64bits"], unfollowed := true, recurses := true, named := ["encoding/binary.BigEndian", "pub-quillon/pub/prometheus/tsdb/encoding.ErrInvalidSize"], apart := false, laid := [("pub-quillon/pub/prometheus/tsdb/encoding.ErrInvalidSize", laid_pub_quillon_pub_prometheus_tsdb_encoding_ErrInvalidSize)] }
def FnRecordOthersSaid : Prop := fnRecordOthersRow.holds Tryz.pinned (OpenSpec.ofChange fnRecordOthersSpec)

/-- ITS FALSE NEIGHBOUR: 'it returns false'. Refute it at one input. -/
def fnRecordOthersWrong : ChangeSpec := { name := "fnRecordOthers", fn := fun _ => fun
  | [d1, d2, d3] => { results := [.lit (.bool false)], args := [d1, d2, d3] }
  | _ => none }
def FnRecordOthersWrongFalsely : Prop := fnRecordOthersRow.holds Tryz.pinned (OpenSpec.ofChange fnRecordOthersWrong)

/-- 'laws.FnRecordType': WHATEVER THE INPUT: true; the input reads as it did. -/
def fnRecordTypeSpec : ChangeSpec := { name := "fnRecordType", fn := fun _ => fun
  | [d1, d2, d3] => { results := [.lit (.bool true)], args := [d1, d2, d3] }
  | _ => none }
def fnRecordTypeRow : OpenClaim := { program := "ytbkookiigkckdaagreatdoor", sum := "2cd254cbd550a5ba8f2073678597733b1aa458de26a9e412a6d4ff85bb475a63", func := "pub-quillon/laws.FnRecordType", spec := "fnRecordType", inPlace := ["internal/bytealg.abigen_runtime_cmpstring", "math.Float64frombits", "math.Float64bits"], unfollowed := true, recurses := true, named := ["encoding/binary.BigEndian", "pub-quillon/pub/prometheus/tsdb/encoding.ErrInvalidSize"], apart := false, laid := [("pub-quillon/pub/prometheus/tsdb/encoding.ErrInvalidSize", laid_pub_quillon_pub_prometheus_tsdb_encoding_ErrInvalidSize)] }
def FnRecordTypeSaid : Prop := fnRecordTypeRow.holds Tryz.pinned (OpenSpec.ofChange fnRecordTypeSpec)

/-- ITS FALSE NEIGHBOUR: 'it returns false'. Refute it at one input. -/
def fnRecordTypeWrong : ChangeSpec := { name := "fnRecordType", fn := fun _ => fun
  | [d1, d2, d3] => { results := [.lit (.bool false)], args := [d1, d2, d3] }
  | _ => none }
def FnRecordTypeWrongFalsely : Prop := fnRecordTypeRow.holds Tryz.pinned (OpenSpec.ofChange fnRecordTypeWrong)

/-- 'laws.FnRecordLabels': WHATEVER THE INPUT: true; the input reads as it did. -/
def fnRecordLabelsSpec : ChangeSpec := { name := "fnRecordLabels", fn := fun _ => fun
  | [d1, d2] => { results := [.lit (.bool true)], args := [d1, d2] }
  | _ => none }
def fnRecordLabelsRow : OpenClaim := { program := "ytbkookiigkckdaagreatdoor", sum := "2cd254cbd550a5ba8f2073678597733b1aa458de26a9e412a6d4ff85bb475a63", func := "pub-quillon/laws.FnRecordLabels", spec := "fnRecordLabels", inPlace := ["internal/bytealg.abigen_runtime_cmpstring", "math.Float64frombits", "math.Float64bits"], unfollowed := true, recurses := true, named := ["encoding/binary.BigEndian", "pub-quillon/pub/prometheus/tsdb/encoding.ErrInvalidSize"], apart := false, laid := [("pub-quillon/pub/prometheus/tsdb/encoding.ErrInvalidSize", laid_pub_quillon_pub_prometheus_tsdb_encoding_ErrInvalidSize)] }
def FnRecordLabelsSaid : Prop := fnRecordLabelsRow.holds Tryz.pinned (OpenSpec.ofChange fnRecordLabelsSpec)

/-- ITS FALSE NEIGHBOUR: 'it returns false'. Refute it at one input. -/
def fnRecordLabelsWrong : ChangeSpec := { name := "fnRecordLabels", fn := fun _ => fun
  | [d1, d2] => { results := [.lit (.bool false)], args := [d1, d2] }
  | _ => none }
def FnRecordLabelsWrongFalsely : Prop := fnRecordLabelsRow.holds Tryz.pinned (OpenSpec.ofChange fnRecordLabelsWrong)

/-- 'laws.FnRecordMetrics': WHATEVER THE INPUT: true; the input reads as it did. -/
def fnRecordMetricsSpec : ChangeSpec := { name := "fnRecordMetrics", fn := fun _ => fun
  | [d] => { results := [.lit (.bool true)], args := [d] }
  | _ => none }
def fnRecordMetricsRow : OpenClaim := { program := "ytbkookiigkckdaagreatdoor", sum := "2cd254cbd550a5ba8f2073678597733b1aa458de26a9e412a6d4ff85bb475a63", func := "pub-quillon/laws.FnRecordMetrics", spec := "fnRecordMetrics", inPlace := ["internal/bytealg.abigen_runtime_cmpstring", "math.Float64frombits", "math.Float64bits"], unfollowed := true, recurses := true, named := ["encoding/binary.BigEndian", "pub-quillon/pub/prometheus/tsdb/encoding.ErrInvalidSize"], apart := false, laid := [("pub-quillon/pub/prometheus/tsdb/encoding.ErrInvalidSize", laid_pub_quillon_pub_prometheus_tsdb_encoding_ErrInvalidSize)] }
def FnRecordMetricsSaid : Prop := fnRecordMetricsRow.holds Tryz.pinned (OpenSpec.ofChange fnRecordMetricsSpec)

/-- ITS FALSE NEIGHBOUR: 'it returns false'. Refute it at one input. -/
def fnRecordMetricsWrong : ChangeSpec := { name := "fnRecordMetrics", fn := fun _ => fun
  | [d] => { results := [.lit (.bool false)], args := [d] }
  | _ => none }
def FnRecordMetricsWrongFalsely : Prop := fnRecordMetricsRow.holds Tryz.pinned (OpenSpec.ofChange fnRecordMetricsWrong)

/- THE SECOND FORM. 'bulk': how many values and letters a reading holds, each counted each time it is reached (what is shared counts as often as it is met; a slice's spare places count too). A statement '..UptoSaid' is the law's where the arguments, and the package variables that the reading takes, are together of bulk at most 1048576: NARROWER than '..Said'. Prove '..Said' where nothing that the law and all that it calls make is longer than what came in: it says more and counts as full. Else prove '..UptoSaid'. A law counts once. -/
mutual
def uptoBulk {H : Type} : DataW H → Nat
  | .lit (.string bytes) => bytes.length + 1
  | .lit _ => 1
  | .nil => 1
  | .ptr d => uptoBulk d + 1
  | .slice elems spare => uptoBulkAll elems + uptoBulkAll spare + 1
  | .agg parts => uptoBulkAll parts + 1
  | .iface _ d => uptoBulk d + 1
  | .map entries => uptoBulkEntries entries + 1
  | .held _ => 1
def uptoBulkAll {H : Type} : List (DataW H) → Nat
  | [] => 0
  | d :: r => uptoBulk d + uptoBulkAll r
def uptoBulkEntries {H : Type} : List (Lit × DataW H) → Nat
  | [] => 0
  | x :: r => uptoBulkEntry x + uptoBulkEntries r
def uptoBulkEntry {H : Type} : Lit × DataW H → Nat
  | (.string bytes, d) => bytes.length + uptoBulk d + 1
  | (_, d) => uptoBulk d + 1
 end
def uptoSmall : (H : Type) → List (DataW H) → Bool := fun _ ds => decide (uptoBulkAll ds ≤ 1048576)
def OpenSpec.upto (s : _root_.Go.ChangeSpec) : _root_.Go.OpenSpec := { _root_.Go.OpenSpec.ofChange s with cond := some uptoSmall }

/-- 'laws.FnMatcher', WHERE WHAT IT READS IS OF BULK AT MOST 1048576: true; the input reads as it did. -/
def fnMatcherUptoRow : OpenClaim := { program := "ytbkookiigkckdaagreatdoor", sum := "2cd254cbd550a5ba8f2073678597733b1aa458de26a9e412a6d4ff85bb475a63", func := "pub-quillon/laws.FnMatcher", spec := "fnMatcher", inPlace := ["internal/bytealg.abigen_runtime_cmpstring"], unfollowed := true, recurses := true, named := ["unicode/utf8.first", "unicode/utf8.acceptRanges", "strconv.isPrint16", "strconv.isNotPrint16", "strconv.isPrint32", "strconv.isNotPrint32", "strconv.isGraphic", "bytes.ErrTooLarge", "pub-quillon/pub/prometheus/model/labels.matchTypeToStr"], apart := false, laid := [("unicode/utf8.acceptRanges", laid_unicode_utf8_acceptRanges), ("bytes.ErrTooLarge", laid_bytes_ErrTooLarge), ("pub-quillon/pub/prometheus/model/labels.matchTypeToStr", laid_pub_quillon_pub_prometheus_model_labels_matchTypeToStr), ("strconv.isGraphic", laid_strconv_isGraphic), ("strconv.isNotPrint16", laid_strconv_isNotPrint16), ("strconv.isNotPrint32", laid_strconv_isNotPrint32), ("strconv.isPrint16", laid_strconv_isPrint16), ("strconv.isPrint32", laid_strconv_isPrint32), ("unicode/utf8.first", laid_unicode_utf8_first)], narrowed := true }
def FnMatcherUptoSaid : Prop := fnMatcherUptoRow.holds Tryz.pinned (OpenSpec.upto fnMatcherSpec)

/-- 'laws.FnLabelsAbout', WHERE WHAT IT READS IS OF BULK AT MOST 1048576: true; the input reads as it did. -/
def fnLabelsAboutUptoRow : OpenClaim := { program := "ytbkookiigkckdaagreatdoor", sum := "2cd254cbd550a5ba8f2073678597733b1aa458de26a9e412a6d4ff85bb475a63", func := "pub-quillon/laws.FnLabelsAbout", spec := "fnLabelsAbout", inPlace := ["internal/bytealg.abigen_runtime_cmpstring"], unfollowed := true, recurses := true, named := ["pub-quillon/impl.errStop", "bytes.ErrTooLarge", "unicode/utf8.first", "unicode/utf8.acceptRanges", "strconv.isPrint16", "strconv.isNotPrint16", "strconv.isPrint32", "strconv.isNotPrint32", "strconv.isGraphic"], apart := false, laid := [("unicode/utf8.acceptRanges", laid_unicode_utf8_acceptRanges), ("bytes.ErrTooLarge", laid_bytes_ErrTooLarge), ("pub-quillon/impl.errStop", laid_pub_quillon_impl_errStop), ("strconv.isGraphic", laid_strconv_isGraphic), ("strconv.isNotPrint16", laid_strconv_isNotPrint16), ("strconv.isNotPrint32", laid_strconv_isNotPrint32), ("strconv.isPrint16", laid_strconv_isPrint16), ("strconv.isPrint32", laid_strconv_isPrint32), ("unicode/utf8.first", laid_unicode_utf8_first)], narrowed := true }
def FnLabelsAboutUptoSaid : Prop := fnLabelsAboutUptoRow.holds Tryz.pinned (OpenSpec.upto fnLabelsAboutSpec)

/-- 'laws.FnLabelsText', WHERE WHAT IT READS IS OF BULK AT MOST 1048576: true; the input reads as it did. -/
def fnLabelsTextUptoRow : OpenClaim := { program := "ytbkookiigkckdaagreatdoor", sum := "2cd254cbd550a5ba8f2073678597733b1aa458de26a9e412a6d4ff85bb475a63", func := "pub-quillon/laws.FnLabelsText", spec := "fnLabelsText", inPlace := ["internal/bytealg.abigen_runtime_cmpstring"], unfollowed := true, recurses := true, named := ["pub-quillon/impl.errStop", "bytes.ErrTooLarge", "unicode/utf8.first", "unicode/utf8.acceptRanges", "strconv.isPrint16", "strconv.isNotPrint16", "strconv.isPrint32", "strconv.isNotPrint32", "strconv.isGraphic"], apart := false, laid := [("unicode/utf8.acceptRanges", laid_unicode_utf8_acceptRanges), ("bytes.ErrTooLarge", laid_bytes_ErrTooLarge), ("pub-quillon/impl.errStop", laid_pub_quillon_impl_errStop), ("strconv.isGraphic", laid_strconv_isGraphic), ("strconv.isNotPrint16", laid_strconv_isNotPrint16), ("strconv.isNotPrint32", laid_strconv_isNotPrint32), ("strconv.isPrint16", laid_strconv_isPrint16), ("strconv.isPrint32", laid_strconv_isPrint32), ("unicode/utf8.first", laid_unicode_utf8_first)], narrowed := true }
def FnLabelsTextUptoSaid : Prop := fnLabelsTextUptoRow.holds Tryz.pinned (OpenSpec.upto fnLabelsTextSpec)

/-- 'laws.FnLabelsTwice', WHERE WHAT IT READS IS OF BULK AT MOST 1048576: true; the input reads as it did. -/
def fnLabelsTwiceUptoRow : OpenClaim := { program := "ytbkookiigkckdaagreatdoor", sum := "2cd254cbd550a5ba8f2073678597733b1aa458de26a9e412a6d4ff85bb475a63", func := "pub-quillon/laws.FnLabelsTwice", spec := "fnLabelsTwice", inPlace := ["internal/bytealg.abigen_runtime_cmpstring"], unfollowed := true, recurses := true, named := ["pub-quillon/impl.errStop", "bytes.ErrTooLarge", "unicode/utf8.first", "unicode/utf8.acceptRanges", "strconv.isPrint16", "strconv.isNotPrint16", "strconv.isPrint32", "strconv.isNotPrint32", "strconv.isGraphic"], apart := false, laid := [("unicode/utf8.acceptRanges", laid_unicode_utf8_acceptRanges), ("bytes.ErrTooLarge", laid_bytes_ErrTooLarge), ("pub-quillon/impl.errStop", laid_pub_quillon_impl_errStop), ("strconv.isGraphic", laid_strconv_isGraphic), ("strconv.isNotPrint16", laid_strconv_isNotPrint16), ("strconv.isNotPrint32", laid_strconv_isNotPrint32), ("strconv.isPrint16", laid_strconv_isPrint16), ("strconv.isPrint32", laid_strconv_isPrint32), ("unicode/utf8.first", laid_unicode_utf8_first)], narrowed := true }
def FnLabelsTwiceUptoSaid : Prop := fnLabelsTwiceUptoRow.holds Tryz.pinned (OpenSpec.upto fnLabelsTwiceSpec)

/-- 'laws.FnRecordAny', WHERE WHAT IT READS IS OF BULK AT MOST 1048576: true; the input reads as it did. -/
def fnRecordAnyUptoRow : OpenClaim := { program := "ytbkookiigkckdaagreatdoor", sum := "2cd254cbd550a5ba8f2073678597733b1aa458de26a9e412a6d4ff85bb475a63", func := "pub-quillon/laws.FnRecordAny", spec := "fnRecordAny", inPlace := ["internal/bytealg.abigen_runtime_cmpstring", "math.Float64frombits", "math.Float64bits"], unfollowed := true, recurses := true, named := ["encoding/binary.BigEndian", "pub-quillon/pub/prometheus/tsdb/encoding.ErrInvalidSize"], apart := false, laid := [("pub-quillon/pub/prometheus/tsdb/encoding.ErrInvalidSize", laid_pub_quillon_pub_prometheus_tsdb_encoding_ErrInvalidSize)], narrowed := true }
def FnRecordAnyUptoSaid : Prop := fnRecordAnyUptoRow.holds Tryz.pinned (OpenSpec.upto fnRecordAnySpec)

/-- 'laws.FnRecordBack', WHERE WHAT IT READS IS OF BULK AT MOST 1048576: true; the input reads as it did. -/
def fnRecordBackUptoRow : OpenClaim := { program := "ytbkookiigkckdaagreatdoor", sum := "2cd254cbd550a5ba8f2073678597733b1aa458de26a9e412a6d4ff85bb475a63", func := "pub-quillon/laws.FnRecordBack", spec := "fnRecordBack", inPlace := ["internal/bytealg.abigen_runtime_cmpstring", "math.Float64frombits", "math.Float64bits"], unfollowed := true, recurses := true, named := ["encoding/binary.BigEndian", "pub-quillon/pub/prometheus/tsdb/encoding.ErrInvalidSize"], apart := false, laid := [("pub-quillon/pub/prometheus/tsdb/encoding.ErrInvalidSize", laid_pub_quillon_pub_prometheus_tsdb_encoding_ErrInvalidSize)], narrowed := true }
def FnRecordBackUptoSaid : Prop := fnRecordBackUptoRow.holds Tryz.pinned (OpenSpec.upto fnRecordBackSpec)

/-- 'laws.FnRecordBehind', WHERE WHAT IT READS IS OF BULK AT MOST 1048576: true; the input reads as it did. -/
def fnRecordBehindUptoRow : OpenClaim := { program := "ytbkookiigkckdaagreatdoor", sum := "2cd254cbd550a5ba8f2073678597733b1aa458de26a9e412a6d4ff85bb475a63", func := "pub-quillon/laws.FnRecordBehind", spec := "fnRecordBehind", inPlace := ["internal/bytealg.abigen_runtime_cmpstring", "math.Float64frombits", "math.Float64bits"], unfollowed := true, recurses := true, named := ["encoding/binary.BigEndian", "pub-quillon/pub/prometheus/tsdb/encoding.ErrInvalidSize"], apart := false, laid := [("pub-quillon/pub/prometheus/tsdb/encoding.ErrInvalidSize", laid_pub_quillon_pub_prometheus_tsdb_encoding_ErrInvalidSize)], narrowed := true }
def FnRecordBehindUptoSaid : Prop := fnRecordBehindUptoRow.holds Tryz.pinned (OpenSpec.upto fnRecordBehindSpec)

/-- 'laws.FnRecordCut', WHERE WHAT IT READS IS OF BULK AT MOST 1048576: true; the input reads as it did. -/
def fnRecordCutUptoRow : OpenClaim := { program := "ytbkookiigkckdaagreatdoor", sum := "2cd254cbd550a5ba8f2073678597733b1aa458de26a9e412a6d4ff85bb475a63", func := "pub-quillon/laws.FnRecordCut", spec := "fnRecordCut", inPlace := ["internal/bytealg.abigen_runtime_cmpstring", "math.Float64frombits", "math.Float64bits"], unfollowed := true, recurses := true, named := ["encoding/binary.BigEndian", "pub-quillon/pub/prometheus/tsdb/encoding.ErrInvalidSize"], apart := false, laid := [("pub-quillon/pub/prometheus/tsdb/encoding.ErrInvalidSize", laid_pub_quillon_pub_prometheus_tsdb_encoding_ErrInvalidSize)], narrowed := true }
def FnRecordCutUptoSaid : Prop := fnRecordCutUptoRow.holds Tryz.pinned (OpenSpec.upto fnRecordCutSpec)

/-- 'laws.FnRecordOthers', WHERE WHAT IT READS IS OF BULK AT MOST 1048576: true; the input reads as it did. -/
def fnRecordOthersUptoRow : OpenClaim := { program := "ytbkookiigkckdaagreatdoor", sum := "2cd254cbd550a5ba8f2073678597733b1aa458de26a9e412a6d4ff85bb475a63", func := "pub-quillon/laws.FnRecordOthers", spec := "fnRecordOthers", inPlace := ["internal/bytealg.abigen_runtime_cmpstring", "math.Float64frombits", "math.Float64bits"], unfollowed := true, recurses := true, named := ["encoding/binary.BigEndian", "pub-quillon/pub/prometheus/tsdb/encoding.ErrInvalidSize"], apart := false, laid := [("pub-quillon/pub/prometheus/tsdb/encoding.ErrInvalidSize", laid_pub_quillon_pub_prometheus_tsdb_encoding_ErrInvalidSize)], narrowed := true }
def FnRecordOthersUptoSaid : Prop := fnRecordOthersUptoRow.holds Tryz.pinned (OpenSpec.upto fnRecordOthersSpec)

/-- 'laws.FnRecordType', WHERE WHAT IT READS IS OF BULK AT MOST 1048576: true; the input reads as it did. -/
def fnRecordTypeUptoRow : OpenClaim := { program := "ytbkookiigkckdaagreatdoor", sum := "2cd254cbd550a5ba8f2073678597733b1aa458de26a9e412a6d4ff85bb475a63", func := "pub-quillon/laws.FnRecordType", spec := "fnRecordType", inPlace := ["internal/bytealg.abigen_runtime_cmpstring", "math.Float64frombits", "math.Float64bits"], unfollowed := true, recurses := true, named := ["encoding/binary.BigEndian", "pub-quillon/pub/prometheus/tsdb/encoding.ErrInvalidSize"], apart := false, laid := [("pub-quillon/pub/prometheus/tsdb/encoding.ErrInvalidSize", laid_pub_quillon_pub_prometheus_tsdb_encoding_ErrInvalidSize)], narrowed := true }
def FnRecordTypeUptoSaid : Prop := fnRecordTypeUptoRow.holds Tryz.pinned (OpenSpec.upto fnRecordTypeSpec)

/-- 'laws.FnRecordLabels', WHERE WHAT IT READS IS OF BULK AT MOST 1048576: true; the input reads as it did. -/
def fnRecordLabelsUptoRow : OpenClaim := { program := "ytbkookiigkckdaagreatdoor", sum := "2cd254cbd550a5ba8f2073678597733b1aa458de26a9e412a6d4ff85bb475a63", func := "pub-quillon/laws.FnRecordLabels", spec := "fnRecordLabels", inPlace := ["internal/bytealg.abigen_runtime_cmpstring", "math.Float64frombits", "math.Float64bits"], unfollowed := true, recurses := true, named := ["encoding/binary.BigEndian", "pub-quillon/pub/prometheus/tsdb/encoding.ErrInvalidSize"], apart := false, laid := [("pub-quillon/pub/prometheus/tsdb/encoding.ErrInvalidSize", laid_pub_quillon_pub_prometheus_tsdb_encoding_ErrInvalidSize)], narrowed := true }
def FnRecordLabelsUptoSaid : Prop := fnRecordLabelsUptoRow.holds Tryz.pinned (OpenSpec.upto fnRecordLabelsSpec)

/-- 'laws.FnRecordMetrics', WHERE WHAT IT READS IS OF BULK AT MOST 1048576: true; the input reads as it did. -/
def fnRecordMetricsUptoRow : OpenClaim := { program := "ytbkookiigkckdaagreatdoor", sum := "2cd254cbd550a5ba8f2073678597733b1aa458de26a9e412a6d4ff85bb475a63", func := "pub-quillon/laws.FnRecordMetrics", spec := "fnRecordMetrics", inPlace := ["internal/bytealg.abigen_runtime_cmpstring", "math.Float64frombits", "math.Float64bits"], unfollowed := true, recurses := true, named := ["encoding/binary.BigEndian", "pub-quillon/pub/prometheus/tsdb/encoding.ErrInvalidSize"], apart := false, laid := [("pub-quillon/pub/prometheus/tsdb/encoding.ErrInvalidSize", laid_pub_quillon_pub_prometheus_tsdb_encoding_ErrInvalidSize)], narrowed := true }
def FnRecordMetricsUptoSaid : Prop := fnRecordMetricsUptoRow.holds Tryz.pinned (OpenSpec.upto fnRecordMetricsSpec)

end Rows
end Go.Proofs.YtbkookiigkckdaaGreatDoor
