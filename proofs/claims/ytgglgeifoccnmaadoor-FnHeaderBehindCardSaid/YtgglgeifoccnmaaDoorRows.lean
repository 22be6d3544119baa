/-
  NARROWER THAN 'FOR EVERY INPUT', by the rows' own cells (each row's printed sentence says how): FnSkipFrame: laid · FnSkipShort: laid · FnHeader: laid · FnHeaderBehind: laid · FnHeaderCut: laid.
  DERIVED. THE GIVEN ROWS OF THIS SEAT. 5 by the template 'for every input the law returns true; each argument reads behind the call as it read before'; 0 by the template 'total and deterministic' (their statements: YtgglgeifoccnmaaDoorTotals.lean).
  GIVEN WITH THE SEED: the statements are not yours to turn. If you find one false, say at which input.
  Laid BY PROGRAM, IN A SANDBOX (cutbox-rows.mjs): the forced cells as the released guide's own fill.sh prints them over the translation 4e8ef3b1e37ec815… (all of the seat's roots in one cut). By AI agents, Wed Nov 11 2026. No macro, syntax, notation, axiom, sorry.
-/
import Derived.Test.YtgglgeifoccnmaaDoorChecked
import GoSem.Claim
import GoSem.ClaimJoined
import GoSem.ClaimMapViews
import Derived.JoinedTies
import Derived.KernelRfl
namespace Go.Proofs.YtgglgeifoccnmaaDoor
/- THE CELL 'sum', in the pinned program and in every row, IS THE sha256 OF THE DUMP (.gsa) THAT YtgglgeifoccnmaaDoorProg.lean LOADS. Nothing in Lean hashes anything: it is a label: what it is worth is what the hold of that sum in a sandbox is worth. -/
noncomputable def Tryd.pinned : Pinned := { name := "ytgglgeifoccnmaadoor", sum := "4e8ef3b1e37ec815859d5cfbb8cc83543d82e8da5386238f209f183e71dfd431", checked := Tryd.checked }
namespace Rows
def none {H : Type} : Left H := { results := [], args := [] }

/- WHAT THE LISTED PACKAGE-LEVEL VARIABLES READ AS WHEN THE CALL BEGINS. Each datum BY PROGRAM (the guide's laid-datum.mjs) off the statement by which the dump's own 'gosem.cut.vars' lays the variable. In a bare row this is a premise. The card (YtgglgeifoccnmaaDoorCards.lean) ties it to the program's text. -/
def laid_io_ErrShortBuffer {H : Type} : DataW H := .iface "*errors.errorString" (.ptr (.agg [.lit (.string [115, 104, 111, 114, 116, 32, 98, 117, 102, 102, 101, 114])]))
def laid_io_EOF {H : Type} : DataW H := .iface "*errors.errorString" (.ptr (.agg [.lit (.string [69, 79, 70])]))
def laid_io_ErrUnexpectedEOF {H : Type} : DataW H := .iface "*errors.errorString" (.ptr (.agg [.lit (.string [117, 110, 101, 120, 112, 101, 99, 116, 101, 100, 32, 69, 79, 70])]))
def laid_loop_example_pub_g01462_pub_zstd_fuzzing {H : Type} : DataW H := .lit (.bool false)

/-- 'laws.FnSkipFrame': WHATEVER THE INPUT: true; the input reads as it did. -/
def fnSkipFrameSpec : ChangeSpec := { name := "fnSkipFrame", fn := fun _ => fun
  | [d1, d2, d3] => { results := [.lit (.bool true)], args := [d1, d2, d3] }
  | _ => none }
def fnSkipFrameRow : OpenClaim := { program := "ytgglgeifoccnmaadoor", sum := "4e8ef3b1e37ec815859d5cfbb8cc83543d82e8da5386238f209f183e71dfd431", func := "loop.example/pub-g01462/laws.FnSkipFrame", spec := "fnSkipFrame", unfollowed := true, recurses := true, named := ["io.ErrShortBuffer", "io.EOF", "io.ErrUnexpectedEOF"], apart := false, laid := [("io.ErrShortBuffer", laid_io_ErrShortBuffer), ("io.EOF", laid_io_EOF), ("io.ErrUnexpectedEOF", laid_io_ErrUnexpectedEOF)] }
def FnSkipFrameSaid : Prop := fnSkipFrameRow.holds Tryd.pinned (OpenSpec.ofChange fnSkipFrameSpec)

/-- ITS FALSE NEIGHBOUR: 'it returns false'. Refute it at one input. -/
def fnSkipFrameWrong : ChangeSpec := { name := "fnSkipFrame", fn := fun _ => fun
  | [d1, d2, d3] => { results := [.lit (.bool false)], args := [d1, d2, d3] }
  | _ => none }
def FnSkipFrameWrongFalsely : Prop := fnSkipFrameRow.holds Tryd.pinned (OpenSpec.ofChange fnSkipFrameWrong)

/-- 'laws.FnSkipShort': WHATEVER THE INPUT: true; the input reads as it did. -/
def fnSkipShortSpec : ChangeSpec := { name := "fnSkipShort", fn := fun _ => fun
  | [d1, d2] => { results := [.lit (.bool true)], args := [d1, d2] }
  | _ => none }
def fnSkipShortRow : OpenClaim := { program := "ytgglgeifoccnmaadoor", sum := "4e8ef3b1e37ec815859d5cfbb8cc83543d82e8da5386238f209f183e71dfd431", func := "loop.example/pub-g01462/laws.FnSkipShort", spec := "fnSkipShort", unfollowed := true, recurses := true, named := ["io.ErrShortBuffer", "io.EOF", "io.ErrUnexpectedEOF"], apart := false, laid := [("io.ErrShortBuffer", laid_io_ErrShortBuffer), ("io.EOF", laid_io_EOF), ("io.ErrUnexpectedEOF", laid_io_ErrUnexpectedEOF)] }
def FnSkipShortSaid : Prop := fnSkipShortRow.holds Tryd.pinned (OpenSpec.ofChange fnSkipShortSpec)

/-- ITS FALSE NEIGHBOUR: 'it returns false'. Refute it at one input. -/
def fnSkipShortWrong : ChangeSpec := { name := "fnSkipShort", fn := fun _ => fun
  | [d1, d2] => { results := [.lit (.bool false)], args := [d1, d2] }
  | _ => none }
def FnSkipShortWrongFalsely : Prop := fnSkipShortRow.holds Tryd.pinned (OpenSpec.ofChange fnSkipShortWrong)

/-- 'laws.FnHeader': WHATEVER THE INPUT: true; the input reads as it did. -/
def fnHeaderSpec : ChangeSpec := { name := "fnHeader", vars := ["loop.example/pub-g01462/pub/zstd.fuzzing"], fn := fun _ => fun
  | [d1, d2, d3, d4, d5, d6, d7, g1] => { results := [.lit (.bool true)], args := [d1, d2, d3, d4, d5, d6, d7], vars := [g1] }
  | _ => none }
def fnHeaderRow : OpenClaim := { program := "ytgglgeifoccnmaadoor", sum := "4e8ef3b1e37ec815859d5cfbb8cc83543d82e8da5386238f209f183e71dfd431", func := "loop.example/pub-g01462/laws.FnHeader", spec := "fnHeader", unfollowed := true, recurses := true, named := ["io.EOF", "io.ErrUnexpectedEOF", "loop.example/pub-g01462/pub/zstd.fuzzing", "io.ErrShortBuffer"], apart := false, laid := [("io.ErrShortBuffer", laid_io_ErrShortBuffer), ("io.EOF", laid_io_EOF), ("io.ErrUnexpectedEOF", laid_io_ErrUnexpectedEOF), ("loop.example/pub-g01462/pub/zstd.fuzzing", laid_loop_example_pub_g01462_pub_zstd_fuzzing)] }
def FnHeaderSaid : Prop := fnHeaderRow.holds Tryd.pinned (OpenSpec.ofChange fnHeaderSpec)

/-- ITS FALSE NEIGHBOUR: 'it returns false'. Refute it at one input. -/
def fnHeaderWrong : ChangeSpec := { name := "fnHeader", vars := ["loop.example/pub-g01462/pub/zstd.fuzzing"], fn := fun _ => fun
  | [d1, d2, d3, d4, d5, d6, d7, g1] => { results := [.lit (.bool false)], args := [d1, d2, d3, d4, d5, d6, d7], vars := [g1] }
  | _ => none }
def FnHeaderWrongFalsely : Prop := fnHeaderRow.holds Tryd.pinned (OpenSpec.ofChange fnHeaderWrong)

/-- 'laws.FnHeaderBehind': WHATEVER THE INPUT: true; the input reads as it did. -/
def fnHeaderBehindSpec : ChangeSpec := { name := "fnHeaderBehind", vars := ["loop.example/pub-g01462/pub/zstd.fuzzing"], fn := fun _ => fun
  | [d1, d2, d3, d4, d5, d6, d7, g1] => { results := [.lit (.bool true)], args := [d1, d2, d3, d4, d5, d6, d7], vars := [g1] }
  | _ => none }
def fnHeaderBehindRow : OpenClaim := { program := "ytgglgeifoccnmaadoor", sum := "4e8ef3b1e37ec815859d5cfbb8cc83543d82e8da5386238f209f183e71dfd431", func := "loop.example/pub-g01462/laws.FnHeaderBehind", spec := "fnHeaderBehind", unfollowed := true, recurses := true, named := ["io.EOF", "io.ErrUnexpectedEOF", "loop.example/pub-g01462/pub/zstd.fuzzing", "io.ErrShortBuffer"], apart := false, laid := [("io.ErrShortBuffer", laid_io_ErrShortBuffer), ("io.EOF", laid_io_EOF), ("io.ErrUnexpectedEOF", laid_io_ErrUnexpectedEOF), ("loop.example/pub-g01462/pub/zstd.fuzzing", laid_loop_example_pub_g01462_pub_zstd_fuzzing)] }
def FnHeaderBehindSaid : Prop := fnHeaderBehindRow.holds Tryd.pinned (OpenSpec.ofChange fnHeaderBehindSpec)

/-- ITS FALSE NEIGHBOUR: 'it returns false'. Refute it at one input. -/
def fnHeaderBehindWrong : ChangeSpec := { name := "fnHeaderBehind", vars := ["loop.example/pub-g01462/pub/zstd.fuzzing"], fn := fun _ => fun
  | [d1, d2, d3, d4, d5, d6, d7, g1] => { results := [.lit (.bool false)], args := [d1, d2, d3, d4, d5, d6, d7], vars := [g1] }
  | _ => none }
def FnHeaderBehindWrongFalsely : Prop := fnHeaderBehindRow.holds Tryd.pinned (OpenSpec.ofChange fnHeaderBehindWrong)

/-- 'laws.FnHeaderCut': WHATEVER THE INPUT: true; the input reads as it did. -/
def fnHeaderCutSpec : ChangeSpec := { name := "fnHeaderCut", vars := ["loop.example/pub-g01462/pub/zstd.fuzzing"], fn := fun _ => fun
  | [d1, d2, d3, d4, d5, d6, d7, g1] => { results := [.lit (.bool true)], args := [d1, d2, d3, d4, d5, d6, d7], vars := [g1] }
  | _ => none }
def fnHeaderCutRow : OpenClaim := { program := "ytgglgeifoccnmaadoor", sum := "4e8ef3b1e37ec815859d5cfbb8cc83543d82e8da5386238f209f183e71dfd431", func := "loop.example/pub-g01462/laws.FnHeaderCut", spec := "fnHeaderCut", unfollowed := true, recurses := true, named := ["io.EOF", "io.ErrUnexpectedEOF", "loop.example/pub-g01462/pub/zstd.fuzzing", "io.ErrShortBuffer"], apart := false, laid := [("io.ErrShortBuffer", laid_io_ErrShortBuffer), ("io.EOF", laid_io_EOF), ("io.ErrUnexpectedEOF", laid_io_ErrUnexpectedEOF), ("loop.example/pub-g01462/pub/zstd.fuzzing", laid_loop_example_pub_g01462_pub_zstd_fuzzing)] }
def FnHeaderCutSaid : Prop := fnHeaderCutRow.holds Tryd.pinned (OpenSpec.ofChange fnHeaderCutSpec)

/-- ITS FALSE NEIGHBOUR: 'it returns false'. Refute it at one input. -/
def fnHeaderCutWrong : ChangeSpec := { name := "fnHeaderCut", vars := ["loop.example/pub-g01462/pub/zstd.fuzzing"], fn := fun _ => fun
  | [d1, d2, d3, d4, d5, d6, d7, g1] => { results := [.lit (.bool false)], args := [d1, d2, d3, d4, d5, d6, d7], vars := [g1] }
  | _ => none }
def FnHeaderCutWrongFalsely : Prop := fnHeaderCutRow.holds Tryd.pinned (OpenSpec.ofChange fnHeaderCutWrong)

/- THE SECOND FORM. 'bulk': how many values and letters a reading holds, each counted each time it is reached (what is shared counts as often as it is met; a slice's spare places count too). A statement '..UptoSaid' is the law's where the arguments, and the package variables that the reading takes, are together of bulk at most 1048576: NARROWER than '..Said'. Prove '..Said' where nothing that the law and all that it calls make is longer than what came in: it says more and counts as full. Else prove '..UptoSaid'. A law counts once. -/
mutual
def uptoBulk {H : Type} : DataW H → Nat
  | .lit (.string bytes) => bytes.length + 1
  | .lit _ => 1
  | .nil => 1
  | .ptr d => uptoBulk d + 1
  | .slice elems spare => uptoBulkAll elems + uptoBulkAll spare + 1
  | .agg parts => uptoBulkAll parts + 1
  | .iface _ d => uptoBulk d + 1
  | .map entries => uptoBulkEntries entries + 1
  | .held _ => 1
def uptoBulkAll {H : Type} : List (DataW H) → Nat
  | [] => 0
  | d :: r => uptoBulk d + uptoBulkAll r
def uptoBulkEntries {H : Type} : List (Lit × DataW H) → Nat
  | [] => 0
  | x :: r => uptoBulkEntry x + uptoBulkEntries r
def uptoBulkEntry {H : Type} : Lit × DataW H → Nat
  | (.string bytes, d) => bytes.length + uptoBulk d + 1
  | (_, d) => uptoBulk d + 1
 end
def uptoSmall : (H : Type) → List (DataW H) → Bool := fun _ ds => decide (uptoBulkAll ds ≤ 1048576)
def OpenSpec.upto (s : _root_.Go.ChangeSpec) : _root_.Go.OpenSpec := { _root_.Go.OpenSpec.ofChange s with cond := some uptoSmall }

/-- 'laws.FnSkipFrame', WHERE WHAT IT READS IS OF BULK AT MOST 1048576: true; the input reads as it did. -/
def fnSkipFrameUptoRow : OpenClaim := { program := "ytgglgeifoccnmaadoor", sum := "4e8ef3b1e37ec815859d5cfbb8cc83543d82e8da5386238f209f183e71dfd431", func := "loop.example/pub-g01462/laws.FnSkipFrame", spec := "fnSkipFrame", unfollowed := true, recurses := true, named := ["io.ErrShortBuffer", "io.EOF", "io.ErrUnexpectedEOF"], apart := false, laid := [("io.ErrShortBuffer", laid_io_ErrShortBuffer), ("io.EOF", laid_io_EOF), ("io.ErrUnexpectedEOF", laid_io_ErrUnexpectedEOF)], narrowed := true }
def FnSkipFrameUptoSaid : Prop := fnSkipFrameUptoRow.holds Tryd.pinned (OpenSpec.upto fnSkipFrameSpec)

/-- 'laws.FnSkipShort', WHERE WHAT IT READS IS OF BULK AT MOST 1048576: true; the input reads as it did. -/
def fnSkipShortUptoRow : OpenClaim := { program := "ytgglgeifoccnmaadoor", sum := "4e8ef3b1e37ec815859d5cfbb8cc83543d82e8da5386238f209f183e71dfd431", func := "loop.example/pub-g01462/laws.FnSkipShort", spec := "fnSkipShort", unfollowed := true, recurses := true, named := ["io.ErrShortBuffer", "io.EOF", "io.ErrUnexpectedEOF"], apart := false, laid := [("io.ErrShortBuffer", laid_io_ErrShortBuffer), ("io.EOF", laid_io_EOF), ("io.ErrUnexpectedEOF", laid_io_ErrUnexpectedEOF)], narrowed := true }
def FnSkipShortUptoSaid : Prop := fnSkipShortUptoRow.holds Tryd.pinned (OpenSpec.upto fnSkipShortSpec)

/-- 'laws.FnHeader', WHERE WHAT IT READS IS OF BULK AT MOST 1048576: true; the input reads as it did. -/
def fnHeaderUptoRow : OpenClaim := { program := "ytgglgeifoccnmaadoor", sum := "4e8ef3b1e37ec815859d5cfbb8cc83543d82e8da5386238f209f183e71dfd431", func := "loop.example/pub-g01462/laws.FnHeader", spec := "fnHeader", unfollowed := true, recurses := true, named := ["io.EOF", "io.ErrUnexpectedEOF", "loop.example/pub-g01462/pub/zstd.fuzzing", "io.ErrShortBuffer"], apart := false, laid := [("io.ErrShortBuffer", laid_io_ErrShortBuffer), ("io.EOF", laid_io_EOF), ("io.ErrUnexpectedEOF", laid_io_ErrUnexpectedEOF), ("loop.example/pub-g01462/pub/zstd.fuzzing", laid_loop_example_pub_g01462_pub_zstd_fuzzing)], narrowed := true }
def FnHeaderUptoSaid : Prop := fnHeaderUptoRow.holds Tryd.pinned (OpenSpec.upto fnHeaderSpec)

/-- 'laws.FnHeaderBehind', WHERE WHAT IT READS IS OF BULK AT MOST 1048576: true; the input reads as it did. -/
def fnHeaderBehindUptoRow : OpenClaim := { program := "ytgglgeifoccnmaadoor", sum := "4e8ef3b1e37ec815859d5cfbb8cc83543d82e8da5386238f209f183e71dfd431", func := "loop.example/pub-g01462/laws.FnHeaderBehind", spec := "fnHeaderBehind", unfollowed := true, recurses := true, named := ["io.EOF", "io.ErrUnexpectedEOF", "loop.example/pub-g01462/pub/zstd.fuzzing", "io.ErrShortBuffer"], apart := false, laid := [("io.ErrShortBuffer", laid_io_ErrShortBuffer), ("io.EOF", laid_io_EOF), ("io.ErrUnexpectedEOF", laid_io_ErrUnexpectedEOF), ("loop.example/pub-g01462/pub/zstd.fuzzing", laid_loop_example_pub_g01462_pub_zstd_fuzzing)], narrowed := true }
def FnHeaderBehindUptoSaid : Prop := fnHeaderBehindUptoRow.holds Tryd.pinned (OpenSpec.upto fnHeaderBehindSpec)

/-- 'laws.FnHeaderCut', WHERE WHAT IT READS IS OF BULK AT MOST 1048576: true; the input reads as it did. -/
def fnHeaderCutUptoRow : OpenClaim := { program := "ytgglgeifoccnmaadoor", sum := "4e8ef3b1e37ec815859d5cfbb8cc83543d82e8da5386238f209f183e71dfd431", func := "loop.example/pub-g01462/laws.FnHeaderCut", spec := "fnHeaderCut", unfollowed := true, recurses := true, named := ["io.EOF", "io.ErrUnexpectedEOF", "loop.example/pub-g01462/pub/zstd.fuzzing", "io.ErrShortBuffer"], apart := false, laid := [("io.ErrShortBuffer", laid_io_ErrShortBuffer), ("io.EOF", laid_io_EOF), ("io.ErrUnexpectedEOF", laid_io_ErrUnexpectedEOF), ("loop.example/pub-g01462/pub/zstd.fuzzing", laid_loop_example_pub_g01462_pub_zstd_fuzzing)], narrowed := true }
def FnHeaderCutUptoSaid : Prop := fnHeaderCutUptoRow.holds Tryd.pinned (OpenSpec.upto fnHeaderCutSpec)

end Rows
end Go.Proofs.YtgglgeifoccnmaaDoor
