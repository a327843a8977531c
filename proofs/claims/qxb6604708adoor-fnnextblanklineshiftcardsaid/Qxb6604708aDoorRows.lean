/-
  NARROWER THAN 'FOR EVERY INPUT', by the rows' own cells (each row's printed sentence says how): FnNewReaderRoundTrip: laid · FnReadLineExact: laid · FnReadLineEndSticky: laid · FnNextExact: laid · FnNextBlankLineShift: laid.
  DERIVED. THE GIVEN ROWS OF THIS SEAT. 5 by the template 'for every input the law returns true; each argument reads behind the call as it read before'; 0 by the template 'total and deterministic' (their statements: Qxb6604708aDoorTotals.lean).
  GIVEN WITH THE SEED: the statements are not yours to turn. If you find one false, say at which input.
  Laid BY PROGRAM, IN A SANDBOX (cutbox-rows.mjs): the forced cells as the released guide's own fill.sh prints them over the translation af7fa197ac10f031… (all of the seat's roots in one cut). By AI agents, Wed Nov 11 2026. No macro, syntax, notation, axiom, sorry.
-/
import Derived.Test.Qxb6604708aDoorChecked
import GoSem.PinnedTables
import GoSem.Claim
import GoSem.ClaimJoined
import GoSem.ClaimMapViews
import Derived.JoinedTies
import Derived.KernelRfl
namespace Go.Proofs.Qxb6604708aDoor
/- THE CELL 'sum', in the pinned program and in every row, IS THE sha256 OF THE DUMP (.gsa) THAT Qxb6604708aDoorProg.lean LOADS. Nothing in Lean hashes anything: it is a label: what it is worth is what the hold of that sum in a sandbox is worth. -/
noncomputable def Tryd.pinned : Pinned := { name := "qxb6604708adoor", sum := "af7fa197ac10f031e6c7591e0d77cce55d26c21586284873fc0834292573e0f0", checked := Tryd.checked }
namespace Rows
def none {H : Type} : Left H := { results := [], args := [] }

/- WHAT THE LISTED PACKAGE-LEVEL VARIABLES READ AS WHEN THE CALL BEGINS. Each datum BY PROGRAM (the guide's laid-datum.mjs) off the statement by which the dump's own 'gosem.cut.vars' lays the variable. In a bare row this is a premise. The card (Qxb6604708aDoorCards.lean) ties it to the program's text. -/
def laid_io_EOF {H : Type} : DataW H := .iface "*errors.errorString" (.ptr (.agg [.lit (.string [69, 79, 70])]))
def laid_io_ErrNoProgress {H : Type} : DataW H := .iface "*errors.errorString" (.ptr (.agg [.lit (.string [109, 117, 108, 116, 105, 112, 108, 101, 32, 82, 101, 97, 100, 32, 99, 97, 108, 108, 115, 32, 114, 101, 116, 117, 114, 110, 32, 110, 111, 32, 100, 97, 116, 97, 32, 111, 114, 32, 101, 114, 114, 111, 114])]))
def laid_bufio_ErrBufferFull {H : Type} : DataW H := .iface "*errors.errorString" (.ptr (.agg [.lit (.string [98, 117, 102, 105, 111, 58, 32, 98, 117, 102, 102, 101, 114, 32, 102, 117, 108, 108])]))
def laid_bufio_errNegativeRead {H : Type} : DataW H := .iface "*errors.errorString" (.ptr (.agg [.lit (.string [98, 117, 102, 105, 111, 58, 32, 114, 101, 97, 100, 101, 114, 32, 114, 101, 116, 117, 114, 110, 101, 100, 32, 110, 101, 103, 97, 116, 105, 118, 101, 32, 99, 111, 117, 110, 116, 32, 102, 114, 111, 109, 32, 82, 101, 97, 100])]))
def laid_unicode_utf8_acceptRanges {H : Type} : DataW H := .agg [.agg [.lit (.int .u8 128), .lit (.int .u8 191)], .agg [.lit (.int .u8 160), .lit (.int .u8 191)], .agg [.lit (.int .u8 128), .lit (.int .u8 159)], .agg [.lit (.int .u8 144), .lit (.int .u8 191)], .agg [.lit (.int .u8 128), .lit (.int .u8 143)], .agg [.lit (.int .u8 0), .lit (.int .u8 0)], .agg [.lit (.int .u8 0), .lit (.int .u8 0)], .agg [.lit (.int .u8 0), .lit (.int .u8 0)], .agg [.lit (.int .u8 0), .lit (.int .u8 0)], .agg [.lit (.int .u8 0), .lit (.int .u8 0)], .agg [.lit (.int .u8 0), .lit (.int .u8 0)], .agg [.lit (.int .u8 0), .lit (.int .u8 0)], .agg [.lit (.int .u8 0), .lit (.int .u8 0)], .agg [.lit (.int .u8 0), .lit (.int .u8 0)], .agg [.lit (.int .u8 0), .lit (.int .u8 0)], .agg [.lit (.int .u8 0), .lit (.int .u8 0)]]
/-- One of Go's own tables, pinned by name: the form's constant. -/
def laid_unicode_utf8_first : DataW Unit := Go.Pinned.utf8First

/-- 'zzlaws_internal_jsonl_b1.FnNewReaderRoundTrip': WHATEVER THE INPUT: true; the input reads as it did. -/
def fnNewReaderRoundTripSpec : ChangeSpec := { name := "fnNewReaderRoundTrip", fn := fun _ => fun
  | [d1, d2] => { results := [.lit (.bool true)], args := [d1, d2] }
  | _ => none }
def fnNewReaderRoundTripRow : OpenClaim := { program := "qxb6604708adoor", sum := "af7fa197ac10f031e6c7591e0d77cce55d26c21586284873fc0834292573e0f0", func := "example.com/rubric/rubric/zzlaws_internal_jsonl_b1.FnNewReaderRoundTrip", spec := "fnNewReaderRoundTrip", inPlace := ["internal/bytealg.IndexByte"], unfollowed := true, recurses := true, named := ["bufio.ErrBufferFull", "io.EOF", "bufio.errNegativeRead", "io.ErrNoProgress"], apart := false, laid := [("io.EOF", laid_io_EOF), ("io.ErrNoProgress", laid_io_ErrNoProgress), ("bufio.ErrBufferFull", laid_bufio_ErrBufferFull), ("bufio.errNegativeRead", laid_bufio_errNegativeRead)] }
def FnNewReaderRoundTripSaid : Prop := fnNewReaderRoundTripRow.holds Tryd.pinned (OpenSpec.ofChange fnNewReaderRoundTripSpec)

/-- ITS FALSE NEIGHBOUR: 'it returns false'. Refute it at one input. -/
def fnNewReaderRoundTripWrong : ChangeSpec := { name := "fnNewReaderRoundTrip", fn := fun _ => fun
  | [d1, d2] => { results := [.lit (.bool false)], args := [d1, d2] }
  | _ => none }
def FnNewReaderRoundTripWrongFalsely : Prop := fnNewReaderRoundTripRow.holds Tryd.pinned (OpenSpec.ofChange fnNewReaderRoundTripWrong)

/-- 'zzlaws_internal_jsonl_b1.FnReadLineExact': WHATEVER THE INPUT: true; the input reads as it did. -/
def fnReadLineExactSpec : ChangeSpec := { name := "fnReadLineExact", fn := fun _ => fun
  | [d1, d2] => { results := [.lit (.bool true)], args := [d1, d2] }
  | _ => none }
def fnReadLineExactRow : OpenClaim := { program := "qxb6604708adoor", sum := "af7fa197ac10f031e6c7591e0d77cce55d26c21586284873fc0834292573e0f0", func := "example.com/rubric/rubric/zzlaws_internal_jsonl_b1.FnReadLineExact", spec := "fnReadLineExact", inPlace := ["internal/bytealg.IndexByte"], unfollowed := true, recurses := true, named := ["bufio.ErrBufferFull", "io.EOF", "bufio.errNegativeRead", "io.ErrNoProgress"], apart := false, laid := [("io.EOF", laid_io_EOF), ("io.ErrNoProgress", laid_io_ErrNoProgress), ("bufio.ErrBufferFull", laid_bufio_ErrBufferFull), ("bufio.errNegativeRead", laid_bufio_errNegativeRead)] }
def FnReadLineExactSaid : Prop := fnReadLineExactRow.holds Tryd.pinned (OpenSpec.ofChange fnReadLineExactSpec)

/-- ITS FALSE NEIGHBOUR: 'it returns false'. Refute it at one input. -/
def fnReadLineExactWrong : ChangeSpec := { name := "fnReadLineExact", fn := fun _ => fun
  | [d1, d2] => { results := [.lit (.bool false)], args := [d1, d2] }
  | _ => none }
def FnReadLineExactWrongFalsely : Prop := fnReadLineExactRow.holds Tryd.pinned (OpenSpec.ofChange fnReadLineExactWrong)

/-- 'zzlaws_internal_jsonl_b1.FnReadLineEndSticky': WHATEVER THE INPUT: true; the input reads as it did. -/
def fnReadLineEndStickySpec : ChangeSpec := { name := "fnReadLineEndSticky", fn := fun _ => fun
  | [d1, d2] => { results := [.lit (.bool true)], args := [d1, d2] }
  | _ => none }
def fnReadLineEndStickyRow : OpenClaim := { program := "qxb6604708adoor", sum := "af7fa197ac10f031e6c7591e0d77cce55d26c21586284873fc0834292573e0f0", func := "example.com/rubric/rubric/zzlaws_internal_jsonl_b1.FnReadLineEndSticky", spec := "fnReadLineEndSticky", inPlace := ["internal/bytealg.IndexByte"], unfollowed := true, recurses := true, named := ["bufio.ErrBufferFull", "io.EOF", "bufio.errNegativeRead", "io.ErrNoProgress"], apart := false, laid := [("io.EOF", laid_io_EOF), ("io.ErrNoProgress", laid_io_ErrNoProgress), ("bufio.ErrBufferFull", laid_bufio_ErrBufferFull), ("bufio.errNegativeRead", laid_bufio_errNegativeRead)] }
def FnReadLineEndStickySaid : Prop := fnReadLineEndStickyRow.holds Tryd.pinned (OpenSpec.ofChange fnReadLineEndStickySpec)

/-- ITS FALSE NEIGHBOUR: 'it returns false'. Refute it at one input. -/
def fnReadLineEndStickyWrong : ChangeSpec := { name := "fnReadLineEndSticky", fn := fun _ => fun
  | [d1, d2] => { results := [.lit (.bool false)], args := [d1, d2] }
  | _ => none }
def FnReadLineEndStickyWrongFalsely : Prop := fnReadLineEndStickyRow.holds Tryd.pinned (OpenSpec.ofChange fnReadLineEndStickyWrong)

/-- 'zzlaws_internal_jsonl_b1.FnNextExact': WHATEVER THE INPUT: true; the input reads as it did. -/
def fnNextExactSpec : ChangeSpec := { name := "fnNextExact", fn := fun _ => fun
  | [d1, d2] => { results := [.lit (.bool true)], args := [d1, d2] }
  | _ => none }
def fnNextExactRow : OpenClaim := { program := "qxb6604708adoor", sum := "af7fa197ac10f031e6c7591e0d77cce55d26c21586284873fc0834292573e0f0", func := "example.com/rubric/rubric/zzlaws_internal_jsonl_b1.FnNextExact", spec := "fnNextExact", inPlace := ["internal/bytealg.IndexByte"], unfollowed := true, recurses := true, named := ["bufio.ErrBufferFull", "io.EOF", "bufio.errNegativeRead", "io.ErrNoProgress", "unicode/utf8.first", "unicode/utf8.acceptRanges"], apart := false, laid := [("unicode/utf8.acceptRanges", laid_unicode_utf8_acceptRanges), ("io.EOF", laid_io_EOF), ("io.ErrNoProgress", laid_io_ErrNoProgress), ("bufio.ErrBufferFull", laid_bufio_ErrBufferFull), ("bufio.errNegativeRead", laid_bufio_errNegativeRead), ("unicode/utf8.first", laid_unicode_utf8_first)] }
def FnNextExactSaid : Prop := fnNextExactRow.holds Tryd.pinned (OpenSpec.ofChange fnNextExactSpec)

/-- ITS FALSE NEIGHBOUR: 'it returns false'. Refute it at one input. -/
def fnNextExactWrong : ChangeSpec := { name := "fnNextExact", fn := fun _ => fun
  | [d1, d2] => { results := [.lit (.bool false)], args := [d1, d2] }
  | _ => none }
def FnNextExactWrongFalsely : Prop := fnNextExactRow.holds Tryd.pinned (OpenSpec.ofChange fnNextExactWrong)

/-- 'zzlaws_internal_jsonl_b1.FnNextBlankLineShift': WHATEVER THE INPUT: true; the input reads as it did. -/
def fnNextBlankLineShiftSpec : ChangeSpec := { name := "fnNextBlankLineShift", fn := fun _ => fun
  | [d1, d2] => { results := [.lit (.bool true)], args := [d1, d2] }
  | _ => none }
def fnNextBlankLineShiftRow : OpenClaim := { program := "qxb6604708adoor", sum := "af7fa197ac10f031e6c7591e0d77cce55d26c21586284873fc0834292573e0f0", func := "example.com/rubric/rubric/zzlaws_internal_jsonl_b1.FnNextBlankLineShift", spec := "fnNextBlankLineShift", inPlace := ["internal/bytealg.IndexByte"], unfollowed := true, recurses := true, named := ["bufio.ErrBufferFull", "io.EOF", "bufio.errNegativeRead", "io.ErrNoProgress", "unicode/utf8.first", "unicode/utf8.acceptRanges"], apart := false, laid := [("unicode/utf8.acceptRanges", laid_unicode_utf8_acceptRanges), ("io.EOF", laid_io_EOF), ("io.ErrNoProgress", laid_io_ErrNoProgress), ("bufio.ErrBufferFull", laid_bufio_ErrBufferFull), ("bufio.errNegativeRead", laid_bufio_errNegativeRead), ("unicode/utf8.first", laid_unicode_utf8_first)] }
def FnNextBlankLineShiftSaid : Prop := fnNextBlankLineShiftRow.holds Tryd.pinned (OpenSpec.ofChange fnNextBlankLineShiftSpec)

/-- ITS FALSE NEIGHBOUR: 'it returns false'. Refute it at one input. -/
def fnNextBlankLineShiftWrong : ChangeSpec := { name := "fnNextBlankLineShift", fn := fun _ => fun
  | [d1, d2] => { results := [.lit (.bool false)], args := [d1, d2] }
  | _ => none }
def FnNextBlankLineShiftWrongFalsely : Prop := fnNextBlankLineShiftRow.holds Tryd.pinned (OpenSpec.ofChange fnNextBlankLineShiftWrong)

end Rows
end Go.Proofs.Qxb6604708aDoor
