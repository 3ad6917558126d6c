/-
  NARROWER THAN 'FOR EVERY INPUT', by the rows' own cells (each row's printed sentence says how): FnHistInfinite: laid · FnHistLinear: laid · FnLinear: laid.
  DERIVED. THE GIVEN ROWS OF THIS SEAT. 3 by the template 'for every input the law returns true; each argument reads behind the call as it read before'; 0 by the template 'total and deterministic' (their statements: YthknahhbbhbgoaaGreatDoorTotals.lean).
  GIVEN WITH THE SEED: the statements are not yours to turn. If you find one false, say at which input.
  Laid BY PROGRAM, IN A SANDBOX (cutbox-rows.mjs): the forced cells as the released guide's own fill.sh prints them over the translation 17896ab21373b594… (all of the seat's roots in one cut). By AI agents, Wed Nov 11 2026. No macro, syntax, notation, axiom, sorry.
-/
import Derived.Test.YthknahhbbhbgoaaGreatDoorChecked
import GoSem.PinnedTables
import GoSem.Claim
import GoSem.ClaimJoined
import GoSem.ClaimMapViews
import Derived.JoinedTies
import Derived.KernelRfl
namespace Go.Proofs.YthknahhbbhbgoaaGreatDoor
/- THE CELL 'sum', in the pinned program and in every row, IS THE sha256 OF THE DUMP (.gsa) THAT YthknahhbbhbgoaaGreatDoorProg.lean LOADS. Nothing in Lean hashes anything: it is a label: what it is worth is what the hold of that sum in a sandbox is worth. -/
noncomputable def Tryz.pinned : Pinned := { name := "ythknahhbbhbgoaagreatdoor", sum := "17896ab21373b59400752f14da1520092077c52bc3747311b0c3de9352bb032b", checked := Tryz.checked }
namespace Rows
def none {H : Type} : Left H := { results := [], args := [] }

/- WHAT THE LISTED PACKAGE-LEVEL VARIABLES READ AS WHEN THE CALL BEGINS. Each datum BY PROGRAM (the guide's laid-datum.mjs) off the statement by which the dump's own 'gosem.cut.vars' lays the variable. In a bare row this is a premise. The card (YthknahhbbhbgoaaGreatDoorCards.lean) ties it to the program's text. -/
def laid_unicode_utf8_acceptRanges {H : Type} : DataW H := .agg [.agg [.lit (.int .u8 128), .lit (.int .u8 191)], .agg [.lit (.int .u8 160), .lit (.int .u8 191)], .agg [.lit (.int .u8 128), .lit (.int .u8 159)], .agg [.lit (.int .u8 144), .lit (.int .u8 191)], .agg [.lit (.int .u8 128), .lit (.int .u8 143)], .agg [.lit (.int .u8 0), .lit (.int .u8 0)], .agg [.lit (.int .u8 0), .lit (.int .u8 0)], .agg [.lit (.int .u8 0), .lit (.int .u8 0)], .agg [.lit (.int .u8 0), .lit (.int .u8 0)], .agg [.lit (.int .u8 0), .lit (.int .u8 0)], .agg [.lit (.int .u8 0), .lit (.int .u8 0)], .agg [.lit (.int .u8 0), .lit (.int .u8 0)], .agg [.lit (.int .u8 0), .lit (.int .u8 0)], .agg [.lit (.int .u8 0), .lit (.int .u8 0)], .agg [.lit (.int .u8 0), .lit (.int .u8 0)], .agg [.lit (.int .u8 0), .lit (.int .u8 0)]]
def laid_pub_dialplate_pub_clientgolang_prometheus_errBucketLabelNotAllowed {H : Type} : DataW H := .iface "*errors.errorString" (.ptr (.agg [.lit (.string [108, 101, 32, 105, 115, 32, 110, 111, 116, 32, 97, 108, 108, 111, 119, 101, 100, 32, 97, 115, 32, 108, 97, 98, 101, 108, 32, 110, 97, 109, 101, 32, 105, 110, 32, 104, 105, 115, 116, 111, 103, 114, 97, 109, 115])]))
def laid_pub_dialplate_pub_clientgolang_prometheus_errInconsistentCardinality {H : Type} : DataW H := .iface "*errors.errorString" (.ptr (.agg [.lit (.string [105, 110, 99, 111, 110, 115, 105, 115, 116, 101, 110, 116, 32, 108, 97, 98, 101, 108, 32, 99, 97, 114, 100, 105, 110, 97, 108, 105, 116, 121])]))
def laid_pub_dialplate_pub_clientgolang_prometheus_separatorByteSlice {H : Type} : DataW H := .slice [.lit (.int .u8 255)] []
def laid_pub_dialplate_pub_clientgolang_prometheus_V2 {H : Type} : DataW H := .agg []
/-- One of Go's own tables, pinned by name: the form's constant. -/
def laid_unicode_utf8_first : DataW Unit := Go.Pinned.utf8First

/-- 'laws.FnHistInfinite': WHATEVER THE INPUT: true; the input reads as it did. -/
def fnHistInfiniteSpec : ChangeSpec := { name := "fnHistInfinite", fn := fun _ => fun
  | [d1, d2] => { results := [.lit (.bool true)], args := [d1, d2] }
  | _ => none }
def fnHistInfiniteRow : OpenClaim := { program := "ythknahhbbhbgoaagreatdoor", sum := "17896ab21373b59400752f14da1520092077c52bc3747311b0c3de9352bb032b", func := "pub-dialplate/laws.FnHistInfinite", spec := "fnHistInfinite", inPlace := ["internal/abi.NoEscape", "internal/bytealg.MakeNoZero", "math.Float64bits", "math.Float64frombits", "math.archLog", "math.archFloor", "math.archTrunc", "sync/atomic.StoreUint64", "sync/atomic.StoreInt32", "internal/reflectlite.ValueOf", "internal/reflectlite.Swapper", "(internal/reflectlite.Value).Len"], unfollowed := true, recurses := true, named := ["pub-dialplate/pub/clientgolang/prometheus.V2", "pub-dialplate/pub/clientgolang/prometheus.separatorByteSlice", "unicode/utf8.first", "unicode/utf8.acceptRanges", "pub-dialplate/pub/clientgolang/prometheus.errInconsistentCardinality", "pub-dialplate/pub/clientgolang/prometheus.errBucketLabelNotAllowed"], apart := false, laid := [("unicode/utf8.acceptRanges", laid_unicode_utf8_acceptRanges), ("pub-dialplate/pub/clientgolang/prometheus.errBucketLabelNotAllowed", laid_pub_dialplate_pub_clientgolang_prometheus_errBucketLabelNotAllowed), ("pub-dialplate/pub/clientgolang/prometheus.errInconsistentCardinality", laid_pub_dialplate_pub_clientgolang_prometheus_errInconsistentCardinality), ("pub-dialplate/pub/clientgolang/prometheus.separatorByteSlice", laid_pub_dialplate_pub_clientgolang_prometheus_separatorByteSlice), ("pub-dialplate/pub/clientgolang/prometheus.V2", laid_pub_dialplate_pub_clientgolang_prometheus_V2), ("unicode/utf8.first", laid_unicode_utf8_first)] }
def FnHistInfiniteSaid : Prop := fnHistInfiniteRow.holds Tryz.pinned (OpenSpec.ofChange fnHistInfiniteSpec)

/-- ITS FALSE NEIGHBOUR: 'it returns false'. Refute it at one input. -/
def fnHistInfiniteWrong : ChangeSpec := { name := "fnHistInfinite", fn := fun _ => fun
  | [d1, d2] => { results := [.lit (.bool false)], args := [d1, d2] }
  | _ => none }
def FnHistInfiniteWrongFalsely : Prop := fnHistInfiniteRow.holds Tryz.pinned (OpenSpec.ofChange fnHistInfiniteWrong)

/-- 'laws.FnHistLinear': WHATEVER THE INPUT: true; the input reads as it did. -/
def fnHistLinearSpec : ChangeSpec := { name := "fnHistLinear", fn := fun _ => fun
  | [d1, d2] => { results := [.lit (.bool true)], args := [d1, d2] }
  | _ => none }
def fnHistLinearRow : OpenClaim := { program := "ythknahhbbhbgoaagreatdoor", sum := "17896ab21373b59400752f14da1520092077c52bc3747311b0c3de9352bb032b", func := "pub-dialplate/laws.FnHistLinear", spec := "fnHistLinear", inPlace := ["internal/abi.NoEscape", "internal/bytealg.MakeNoZero", "math.Float64bits", "math.Float64frombits", "math.archLog", "math.archFloor", "math.archTrunc", "sync/atomic.StoreUint64", "sync/atomic.StoreInt32", "internal/reflectlite.ValueOf", "internal/reflectlite.Swapper", "(internal/reflectlite.Value).Len"], unfollowed := true, recurses := true, named := ["pub-dialplate/pub/clientgolang/prometheus.V2", "pub-dialplate/pub/clientgolang/prometheus.separatorByteSlice", "unicode/utf8.first", "unicode/utf8.acceptRanges", "pub-dialplate/pub/clientgolang/prometheus.errInconsistentCardinality", "pub-dialplate/pub/clientgolang/prometheus.errBucketLabelNotAllowed"], apart := false, laid := [("unicode/utf8.acceptRanges", laid_unicode_utf8_acceptRanges), ("pub-dialplate/pub/clientgolang/prometheus.errBucketLabelNotAllowed", laid_pub_dialplate_pub_clientgolang_prometheus_errBucketLabelNotAllowed), ("pub-dialplate/pub/clientgolang/prometheus.errInconsistentCardinality", laid_pub_dialplate_pub_clientgolang_prometheus_errInconsistentCardinality), ("pub-dialplate/pub/clientgolang/prometheus.separatorByteSlice", laid_pub_dialplate_pub_clientgolang_prometheus_separatorByteSlice), ("pub-dialplate/pub/clientgolang/prometheus.V2", laid_pub_dialplate_pub_clientgolang_prometheus_V2), ("unicode/utf8.first", laid_unicode_utf8_first)] }
def FnHistLinearSaid : Prop := fnHistLinearRow.holds Tryz.pinned (OpenSpec.ofChange fnHistLinearSpec)

/-- ITS FALSE NEIGHBOUR: 'it returns false'. Refute it at one input. -/
def fnHistLinearWrong : ChangeSpec := { name := "fnHistLinear", fn := fun _ => fun
  | [d1, d2] => { results := [.lit (.bool false)], args := [d1, d2] }
  | _ => none }
def FnHistLinearWrongFalsely : Prop := fnHistLinearRow.holds Tryz.pinned (OpenSpec.ofChange fnHistLinearWrong)

/-- 'laws.FnLinear': WHATEVER THE INPUT: true; the input reads as it did. -/
def fnLinearSpec : ChangeSpec := { name := "fnLinear", fn := fun _ => fun
  | [d1, d2, d3] => { results := [.lit (.bool true)], args := [d1, d2, d3] }
  | _ => none }
def fnLinearRow : OpenClaim := { program := "ythknahhbbhbgoaagreatdoor", sum := "17896ab21373b59400752f14da1520092077c52bc3747311b0c3de9352bb032b", func := "pub-dialplate/laws.FnLinear", spec := "fnLinear", inPlace := ["internal/abi.NoEscape", "internal/bytealg.MakeNoZero", "math.Float64bits", "math.Float64frombits", "math.archLog", "math.archFloor", "math.archTrunc", "sync/atomic.StoreUint64", "sync/atomic.StoreInt32", "internal/reflectlite.ValueOf", "internal/reflectlite.Swapper", "(internal/reflectlite.Value).Len"], unfollowed := true, recurses := true, named := ["pub-dialplate/pub/clientgolang/prometheus.V2", "pub-dialplate/pub/clientgolang/prometheus.separatorByteSlice", "unicode/utf8.first", "unicode/utf8.acceptRanges", "pub-dialplate/pub/clientgolang/prometheus.errInconsistentCardinality", "pub-dialplate/pub/clientgolang/prometheus.errBucketLabelNotAllowed"], apart := false, laid := [("unicode/utf8.acceptRanges", laid_unicode_utf8_acceptRanges), ("pub-dialplate/pub/clientgolang/prometheus.errBucketLabelNotAllowed", laid_pub_dialplate_pub_clientgolang_prometheus_errBucketLabelNotAllowed), ("pub-dialplate/pub/clientgolang/prometheus.errInconsistentCardinality", laid_pub_dialplate_pub_clientgolang_prometheus_errInconsistentCardinality), ("pub-dialplate/pub/clientgolang/prometheus.separatorByteSlice", laid_pub_dialplate_pub_clientgolang_prometheus_separatorByteSlice), ("pub-dialplate/pub/clientgolang/prometheus.V2", laid_pub_dialplate_pub_clientgolang_prometheus_V2), ("unicode/utf8.first", laid_unicode_utf8_first)] }
def FnLinearSaid : Prop := fnLinearRow.holds Tryz.pinned (OpenSpec.ofChange fnLinearSpec)

/-- ITS FALSE NEIGHBOUR: 'it returns false'. Refute it at one input. -/
def fnLinearWrong : ChangeSpec := { name := "fnLinear", fn := fun _ => fun
  | [d1, d2, d3] => { results := [.lit (.bool false)], args := [d1, d2, d3] }
  | _ => none }
def FnLinearWrongFalsely : Prop := fnLinearRow.holds Tryz.pinned (OpenSpec.ofChange fnLinearWrong)

/- THE SECOND FORM. 'bulk': how many values and letters a reading holds, each counted each time it is reached (what is shared counts as often as it is met; a slice's spare places count too). A statement '..UptoSaid' is the law's where the arguments, and the package variables that the reading takes, are together of bulk at most 1048576: NARROWER than '..Said'. Prove '..Said' where nothing that the law and all that it calls make is longer than what came in: it says more and counts as full. Else prove '..UptoSaid'. A law counts once. -/
mutual
def uptoBulk {H : Type} : DataW H → Nat
  | .lit (.string bytes) => bytes.length + 1
  | .lit _ => 1
  | .nil => 1
  | .ptr d => uptoBulk d + 1
  | .slice elems spare => uptoBulkAll elems + uptoBulkAll spare + 1
  | .agg parts => uptoBulkAll parts + 1
  | .iface _ d => uptoBulk d + 1
  | .map entries => uptoBulkEntries entries + 1
  | .held _ => 1
def uptoBulkAll {H : Type} : List (DataW H) → Nat
  | [] => 0
  | d :: r => uptoBulk d + uptoBulkAll r
def uptoBulkEntries {H : Type} : List (Lit × DataW H) → Nat
  | [] => 0
  | x :: r => uptoBulkEntry x + uptoBulkEntries r
def uptoBulkEntry {H : Type} : Lit × DataW H → Nat
  | (.string bytes, d) => bytes.length + uptoBulk d + 1
  | (_, d) => uptoBulk d + 1
 end
def uptoSmall : (H : Type) → List (DataW H) → Bool := fun _ ds => decide (uptoBulkAll ds ≤ 1048576)
def OpenSpec.upto (s : _root_.Go.ChangeSpec) : _root_.Go.OpenSpec := { _root_.Go.OpenSpec.ofChange s with cond := some uptoSmall }

/-- 'laws.FnHistInfinite', WHERE WHAT IT READS IS OF BULK AT MOST 1048576: true; the input reads as it did. -/
def fnHistInfiniteUptoRow : OpenClaim := { program := "ythknahhbbhbgoaagreatdoor", sum := "17896ab21373b59400752f14da1520092077c52bc3747311b0c3de9352bb032b", func := "pub-dialplate/laws.FnHistInfinite", spec := "fnHistInfinite", inPlace := ["internal/abi.NoEscape", "internal/bytealg.MakeNoZero", "math.Float64bits", "math.Float64frombits", "math.archLog", "math.archFloor", "math.archTrunc", "sync/atomic.StoreUint64", "sync/atomic.StoreInt32", "internal/reflectlite.ValueOf", "internal/reflectlite.Swapper", "(internal/reflectlite.Value).Len"], unfollowed := true, recurses := true, named := ["pub-dialplate/pub/clientgolang/prometheus.V2", "pub-dialplate/pub/clientgolang/prometheus.separatorByteSlice", "unicode/utf8.first", "unicode/utf8.acceptRanges", "pub-dialplate/pub/clientgolang/prometheus.errInconsistentCardinality", "pub-dialplate/pub/clientgolang/prometheus.errBucketLabelNotAllowed"], apart := false, laid := [("unicode/utf8.acceptRanges", laid_unicode_utf8_acceptRanges), ("pub-dialplate/pub/clientgolang/prometheus.errBucketLabelNotAllowed", laid_pub_dialplate_pub_clientgolang_prometheus_errBucketLabelNotAllowed), ("pub-dialplate/pub/clientgolang/prometheus.errInconsistentCardinality", laid_pub_dialplate_pub_clientgolang_prometheus_errInconsistentCardinality), ("pub-dialplate/pub/clientgolang/prometheus.separatorByteSlice", laid_pub_dialplate_pub_clientgolang_prometheus_separatorByteSlice), ("pub-dialplate/pub/clientgolang/prometheus.V2", laid_pub_dialplate_pub_clientgolang_prometheus_V2), ("unicode/utf8.first", laid_unicode_utf8_first)], narrowed := true }
def FnHistInfiniteUptoSaid : Prop := fnHistInfiniteUptoRow.holds Tryz.pinned (OpenSpec.upto fnHistInfiniteSpec)

/-- 'laws.FnHistLinear', WHERE WHAT IT READS IS OF BULK AT MOST 1048576: true; the input reads as it did. -/
def fnHistLinearUptoRow : OpenClaim := { program := "ythknahhbbhbgoaagreatdoor", sum := "17896ab21373b59400752f14da1520092077c52bc3747311b0c3de9352bb032b", func := "pub-dialplate/laws.FnHistLinear", spec := "fnHistLinear", inPlace := ["internal/abi.NoEscape", "internal/bytealg.MakeNoZero", "math.Float64bits", "math.Float64frombits", "math.archLog", "math.archFloor", "math.archTrunc", "sync/atomic.StoreUint64", "sync/atomic.StoreInt32", "internal/reflectlite.ValueOf", "internal/reflectlite.Swapper", "(internal/reflectlite.Value).Len"], unfollowed := true, recurses := true, named := ["pub-dialplate/pub/clientgolang/prometheus.V2", "pub-dialplate/pub/clientgolang/prometheus.separatorByteSlice", "unicode/utf8.first", "unicode/utf8.acceptRanges", "pub-dialplate/pub/clientgolang/prometheus.errInconsistentCardinality", "pub-dialplate/pub/clientgolang/prometheus.errBucketLabelNotAllowed"], apart := false, laid := [("unicode/utf8.acceptRanges", laid_unicode_utf8_acceptRanges), ("pub-dialplate/pub/clientgolang/prometheus.errBucketLabelNotAllowed", laid_pub_dialplate_pub_clientgolang_prometheus_errBucketLabelNotAllowed), ("pub-dialplate/pub/clientgolang/prometheus.errInconsistentCardinality", laid_pub_dialplate_pub_clientgolang_prometheus_errInconsistentCardinality), ("pub-dialplate/pub/clientgolang/prometheus.separatorByteSlice", laid_pub_dialplate_pub_clientgolang_prometheus_separatorByteSlice), ("pub-dialplate/pub/clientgolang/prometheus.V2", laid_pub_dialplate_pub_clientgolang_prometheus_V2), ("unicode/utf8.first", laid_unicode_utf8_first)], narrowed := true }
def FnHistLinearUptoSaid : Prop := fnHistLinearUptoRow.holds Tryz.pinned (OpenSpec.upto fnHistLinearSpec)

/-- 'laws.FnLinear', WHERE WHAT IT READS IS OF BULK AT MOST 1048576: true; the input reads as it did. -/
def fnLinearUptoRow : OpenClaim := { program := "ythknahhbbhbgoaagreatdoor", sum := "17896ab21373b59400752f14da1520092077c52bc3747311b0c3de9352bb032b", func := "pub-dialplate/laws.FnLinear", spec := "fnLinear", inPlace := ["internal/abi.NoEscape", "internal/bytealg.MakeNoZero", "math.Float64bits", "math.Float64frombits", "math.archLog", "math.archFloor", "math.archTrunc", "sync/atomic.StoreUint64", "sync/atomic.StoreInt32", "internal/reflectlite.ValueOf", "internal/reflectlite.Swapper", "(internal/reflectlite.Value).Len"], unfollowed := true, recurses := true, named := ["pub-dialplate/pub/clientgolang/prometheus.V2", "pub-dialplate/pub/clientgolang/prometheus.separatorByteSlice", "unicode/utf8.first", "unicode/utf8.acceptRanges", "pub-dialplate/pub/clientgolang/prometheus.errInconsistentCardinality", "pub-dialplate/pub/clientgolang/prometheus.errBucketLabelNotAllowed"], apart := false, laid := [("unicode/utf8.acceptRanges", laid_unicode_utf8_acceptRanges), ("pub-dialplate/pub/clientgolang/prometheus.errBucketLabelNotAllowed", laid_pub_dialplate_pub_clientgolang_prometheus_errBucketLabelNotAllowed), ("pub-dialplate/pub/clientgolang/prometheus.errInconsistentCardinality", laid_pub_dialplate_pub_clientgolang_prometheus_errInconsistentCardinality), ("pub-dialplate/pub/clientgolang/prometheus.separatorByteSlice", laid_pub_dialplate_pub_clientgolang_prometheus_separatorByteSlice), ("pub-dialplate/pub/clientgolang/prometheus.V2", laid_pub_dialplate_pub_clientgolang_prometheus_V2), ("unicode/utf8.first", laid_unicode_utf8_first)], narrowed := true }
def FnLinearUptoSaid : Prop := fnLinearUptoRow.holds Tryz.pinned (OpenSpec.upto fnLinearSpec)

end Rows
end Go.Proofs.YthknahhbbhbgoaaGreatDoor
