/-
  NARROWER THAN 'FOR EVERY INPUT', by the rows' own cells (each row's printed sentence says how): FnQuantization: laid · FnEmitRead: laid · FnBadTables: laid · FnBits: laid · FnNumbers: laid.
  DERIVED. THE GIVEN ROWS OF THIS SEAT. 5 by the template 'for every input the law returns true; each argument reads behind the call as it read before'; 0 by the template 'total and deterministic' (their statements: YtkkplbfbhmlnoaaDoorTotals.lean).
  GIVEN WITH THE SEED: the statements are not yours to turn. If you find one false, say at which input.
  Laid BY PROGRAM, IN A SANDBOX (cutbox-rows.mjs): the forced cells as the released guide's own fill.sh prints them over the translation 99764e6e58c4831d… (all of the seat's roots in one cut). By AI agents, Wed Nov 11 2026. No macro, syntax, notation, axiom, sorry.
-/
import Derived.Test.YtkkplbfbhmlnoaaDoorChecked
import GoSem.Claim
import GoSem.ClaimJoined
import GoSem.ClaimMapViews
import Derived.JoinedTies
import Derived.KernelRfl
namespace Go.Proofs.YtkkplbfbhmlnoaaDoor
/- THE CELL 'sum', in the pinned program and in every row, IS THE sha256 OF THE DUMP (.gsa) THAT YtkkplbfbhmlnoaaDoorProg.lean LOADS. Nothing in Lean hashes anything: it is a label: what it is worth is what the hold of that sum in a sandbox is worth. -/
noncomputable def Tryd.pinned : Pinned := { name := "ytkkplbfbhmlnoaadoor", sum := "99764e6e58c4831d7107cdda0d7be6b362d2070210e5d635b01d8a29f5c75358", checked := Tryd.checked }
namespace Rows
def none {H : Type} : Left H := { results := [], args := [] }

/- WHAT THE LISTED PACKAGE-LEVEL VARIABLES READ AS WHEN THE CALL BEGINS. Each datum BY PROGRAM (the guide's laid-datum.mjs) off the statement by which the dump's own 'gosem.cut.vars' lays the variable. In a bare row this is a premise. The card (YtkkplbfbhmlnoaaDoorCards.lean) ties it to the program's text. -/
def laid_errors_errorType {H : Type} : DataW H := .iface "internal/reflectlite.rtype" (.agg [.ptr (.lit (.string [101, 114, 114, 111, 114]))])
def laid_io_EOF {H : Type} : DataW H := .iface "*errors.errorString" (.ptr (.agg [.lit (.string [69, 79, 70])]))
def laid_io_ErrUnexpectedEOF {H : Type} : DataW H := .iface "*errors.errorString" (.ptr (.agg [.lit (.string [117, 110, 101, 120, 112, 101, 99, 116, 101, 100, 32, 69, 79, 70])]))

/-- 'laws.FnQuantization': WHATEVER THE INPUT: true; the input reads as it did. -/
def fnQuantizationSpec : ChangeSpec := { name := "fnQuantization", fn := fun _ => fun
  | [d] => { results := [.lit (.bool true)], args := [d] }
  | _ => none }
def fnQuantizationRow : OpenClaim := { program := "ytkkplbfbhmlnoaadoor", sum := "99764e6e58c4831d7107cdda0d7be6b362d2070210e5d635b01d8a29f5c75358", func := "jpegcodec/laws.FnQuantization", spec := "fnQuantization", inPlace := ["internal/reflectlite.TypeOf", "internal/reflectlite.ValueOf", "(internal/reflectlite.Value).Type", "(internal/reflectlite.Value).IsNil", "(internal/reflectlite.Value).Elem", "(internal/reflectlite.Value).Set"], unfollowed := true, recurses := true, named := ["io.EOF", "io.ErrUnexpectedEOF", "errors.errorType"], apart := false, laid := [("errors.errorType", laid_errors_errorType), ("io.EOF", laid_io_EOF), ("io.ErrUnexpectedEOF", laid_io_ErrUnexpectedEOF)] }
def FnQuantizationSaid : Prop := fnQuantizationRow.holds Tryd.pinned (OpenSpec.ofChange fnQuantizationSpec)

/-- ITS FALSE NEIGHBOUR: 'it returns false'. Refute it at one input. -/
def fnQuantizationWrong : ChangeSpec := { name := "fnQuantization", fn := fun _ => fun
  | [d] => { results := [.lit (.bool false)], args := [d] }
  | _ => none }
def FnQuantizationWrongFalsely : Prop := fnQuantizationRow.holds Tryd.pinned (OpenSpec.ofChange fnQuantizationWrong)

/-- 'laws.FnEmitRead': WHATEVER THE INPUT: true; the input reads as it did. -/
def fnEmitReadSpec : ChangeSpec := { name := "fnEmitRead", fn := fun _ => fun
  | [d1, d2] => { results := [.lit (.bool true)], args := [d1, d2] }
  | _ => none }
def fnEmitReadRow : OpenClaim := { program := "ytkkplbfbhmlnoaadoor", sum := "99764e6e58c4831d7107cdda0d7be6b362d2070210e5d635b01d8a29f5c75358", func := "jpegcodec/laws.FnEmitRead", spec := "fnEmitRead", inPlace := ["internal/reflectlite.TypeOf", "internal/reflectlite.ValueOf", "(internal/reflectlite.Value).Type", "(internal/reflectlite.Value).IsNil", "(internal/reflectlite.Value).Elem", "(internal/reflectlite.Value).Set"], unfollowed := true, recurses := true, named := ["io.ErrUnexpectedEOF", "io.EOF", "errors.errorType"], apart := false, laid := [("errors.errorType", laid_errors_errorType), ("io.EOF", laid_io_EOF), ("io.ErrUnexpectedEOF", laid_io_ErrUnexpectedEOF)] }
def FnEmitReadSaid : Prop := fnEmitReadRow.holds Tryd.pinned (OpenSpec.ofChange fnEmitReadSpec)

/-- ITS FALSE NEIGHBOUR: 'it returns false'. Refute it at one input. -/
def fnEmitReadWrong : ChangeSpec := { name := "fnEmitRead", fn := fun _ => fun
  | [d1, d2] => { results := [.lit (.bool false)], args := [d1, d2] }
  | _ => none }
def FnEmitReadWrongFalsely : Prop := fnEmitReadRow.holds Tryd.pinned (OpenSpec.ofChange fnEmitReadWrong)

/-- 'laws.FnBadTables': WHATEVER THE INPUT: true; the input reads as it did. -/
def fnBadTablesSpec : ChangeSpec := { name := "fnBadTables", fn := fun _ => fun
  | [d1, d2, d3, d4] => { results := [.lit (.bool true)], args := [d1, d2, d3, d4] }
  | _ => none }
def fnBadTablesRow : OpenClaim := { program := "ytkkplbfbhmlnoaadoor", sum := "99764e6e58c4831d7107cdda0d7be6b362d2070210e5d635b01d8a29f5c75358", func := "jpegcodec/laws.FnBadTables", spec := "fnBadTables", inPlace := ["internal/reflectlite.TypeOf", "internal/reflectlite.ValueOf", "(internal/reflectlite.Value).Type", "(internal/reflectlite.Value).IsNil", "(internal/reflectlite.Value).Elem", "(internal/reflectlite.Value).Set"], unfollowed := true, recurses := true, named := ["io.EOF", "io.ErrUnexpectedEOF", "errors.errorType"], apart := false, laid := [("errors.errorType", laid_errors_errorType), ("io.EOF", laid_io_EOF), ("io.ErrUnexpectedEOF", laid_io_ErrUnexpectedEOF)] }
def FnBadTablesSaid : Prop := fnBadTablesRow.holds Tryd.pinned (OpenSpec.ofChange fnBadTablesSpec)

/-- ITS FALSE NEIGHBOUR: 'it returns false'. Refute it at one input. -/
def fnBadTablesWrong : ChangeSpec := { name := "fnBadTables", fn := fun _ => fun
  | [d1, d2, d3, d4] => { results := [.lit (.bool false)], args := [d1, d2, d3, d4] }
  | _ => none }
def FnBadTablesWrongFalsely : Prop := fnBadTablesRow.holds Tryd.pinned (OpenSpec.ofChange fnBadTablesWrong)

/-- 'laws.FnBits': WHATEVER THE INPUT: true; the input reads as it did. -/
def fnBitsSpec : ChangeSpec := { name := "fnBits", fn := fun _ => fun
  | [d1, d2] => { results := [.lit (.bool true)], args := [d1, d2] }
  | _ => none }
def fnBitsRow : OpenClaim := { program := "ytkkplbfbhmlnoaadoor", sum := "99764e6e58c4831d7107cdda0d7be6b362d2070210e5d635b01d8a29f5c75358", func := "jpegcodec/laws.FnBits", spec := "fnBits", inPlace := ["internal/reflectlite.TypeOf", "internal/reflectlite.ValueOf", "(internal/reflectlite.Value).Type", "(internal/reflectlite.Value).IsNil", "(internal/reflectlite.Value).Elem", "(internal/reflectlite.Value).Set"], unfollowed := true, recurses := true, named := ["io.ErrUnexpectedEOF", "io.EOF", "errors.errorType"], apart := false, laid := [("errors.errorType", laid_errors_errorType), ("io.EOF", laid_io_EOF), ("io.ErrUnexpectedEOF", laid_io_ErrUnexpectedEOF)] }
def FnBitsSaid : Prop := fnBitsRow.holds Tryd.pinned (OpenSpec.ofChange fnBitsSpec)

/-- ITS FALSE NEIGHBOUR: 'it returns false'. Refute it at one input. -/
def fnBitsWrong : ChangeSpec := { name := "fnBits", fn := fun _ => fun
  | [d1, d2] => { results := [.lit (.bool false)], args := [d1, d2] }
  | _ => none }
def FnBitsWrongFalsely : Prop := fnBitsRow.holds Tryd.pinned (OpenSpec.ofChange fnBitsWrong)

/-- 'laws.FnNumbers': WHATEVER THE INPUT: true; the input reads as it did. -/
def fnNumbersSpec : ChangeSpec := { name := "fnNumbers", fn := fun _ => fun
  | [d1, d2] => { results := [.lit (.bool true)], args := [d1, d2] }
  | _ => none }
def fnNumbersRow : OpenClaim := { program := "ytkkplbfbhmlnoaadoor", sum := "99764e6e58c4831d7107cdda0d7be6b362d2070210e5d635b01d8a29f5c75358", func := "jpegcodec/laws.FnNumbers", spec := "fnNumbers", inPlace := ["internal/reflectlite.TypeOf", "internal/reflectlite.ValueOf", "(internal/reflectlite.Value).Type", "(internal/reflectlite.Value).IsNil", "(internal/reflectlite.Value).Elem", "(internal/reflectlite.Value).Set"], unfollowed := true, recurses := true, named := ["io.ErrUnexpectedEOF", "io.EOF", "errors.errorType"], apart := false, laid := [("errors.errorType", laid_errors_errorType), ("io.EOF", laid_io_EOF), ("io.ErrUnexpectedEOF", laid_io_ErrUnexpectedEOF)] }
def FnNumbersSaid : Prop := fnNumbersRow.holds Tryd.pinned (OpenSpec.ofChange fnNumbersSpec)

/-- ITS FALSE NEIGHBOUR: 'it returns false'. Refute it at one input. -/
def fnNumbersWrong : ChangeSpec := { name := "fnNumbers", fn := fun _ => fun
  | [d1, d2] => { results := [.lit (.bool false)], args := [d1, d2] }
  | _ => none }
def FnNumbersWrongFalsely : Prop := fnNumbersRow.holds Tryd.pinned (OpenSpec.ofChange fnNumbersWrong)

/- THE SECOND FORM. 'bulk': how many values and letters a reading holds, each counted each time it is reached (what is shared counts as often as it is met; a slice's spare places count too). A statement '..UptoSaid' is the law's where the arguments, and the package variables that the reading takes, are together of bulk at most 1048576: NARROWER than '..Said'. Prove '..Said' where nothing that the law and all that it calls make is longer than what came in: it says more and counts as full. Else prove '..UptoSaid'. A law counts once. -/
mutual
def uptoBulk {H : Type} : DataW H → Nat
  | .lit (.string bytes) => bytes.length + 1
  | .lit _ => 1
  | .nil => 1
  | .ptr d => uptoBulk d + 1
  | .slice elems spare => uptoBulkAll elems + uptoBulkAll spare + 1
  | .agg parts => uptoBulkAll parts + 1
  | .iface _ d => uptoBulk d + 1
  | .map entries => uptoBulkEntries entries + 1
  | .held _ => 1
def uptoBulkAll {H : Type} : List (DataW H) → Nat
  | [] => 0
  | d :: r => uptoBulk d + uptoBulkAll r
def uptoBulkEntries {H : Type} : List (Lit × DataW H) → Nat
  | [] => 0
  | x :: r => uptoBulkEntry x + uptoBulkEntries r
def uptoBulkEntry {H : Type} : Lit × DataW H → Nat
  | (.string bytes, d) => bytes.length + uptoBulk d + 1
  | (_, d) => uptoBulk d + 1
 end
def uptoSmall : (H : Type) → List (DataW H) → Bool := fun _ ds => decide (uptoBulkAll ds ≤ 1048576)
def OpenSpec.upto (s : _root_.Go.ChangeSpec) : _root_.Go.OpenSpec := { _root_.Go.OpenSpec.ofChange s with cond := some uptoSmall }

/-- 'laws.FnQuantization', WHERE WHAT IT READS IS OF BULK AT MOST 1048576: true; the input reads as it did. -/
def fnQuantizationUptoRow : OpenClaim := { program := "ytkkplbfbhmlnoaadoor", sum := "99764e6e58c4831d7107cdda0d7be6b362d2070210e5d635b01d8a29f5c75358", func := "jpegcodec/laws.FnQuantization", spec := "fnQuantization", inPlace := ["internal/reflectlite.TypeOf", "internal/reflectlite.ValueOf", "(internal/reflectlite.Value).Type", "(internal/reflectlite.Value).IsNil", "(internal/reflectlite.Value).Elem", "(internal/reflectlite.Value).Set"], unfollowed := true, recurses := true, named := ["io.EOF", "io.ErrUnexpectedEOF", "errors.errorType"], apart := false, laid := [("errors.errorType", laid_errors_errorType), ("io.EOF", laid_io_EOF), ("io.ErrUnexpectedEOF", laid_io_ErrUnexpectedEOF)], narrowed := true }
def FnQuantizationUptoSaid : Prop := fnQuantizationUptoRow.holds Tryd.pinned (OpenSpec.upto fnQuantizationSpec)

/-- 'laws.FnEmitRead', WHERE WHAT IT READS IS OF BULK AT MOST 1048576: true; the input reads as it did. -/
def fnEmitReadUptoRow : OpenClaim := { program := "ytkkplbfbhmlnoaadoor", sum := "99764e6e58c4831d7107cdda0d7be6b362d2070210e5d635b01d8a29f5c75358", func := "jpegcodec/laws.FnEmitRead", spec := "fnEmitRead", inPlace := ["internal/reflectlite.TypeOf", "internal/reflectlite.ValueOf", "(internal/reflectlite.Value).Type", "(internal/reflectlite.Value).IsNil", "(internal/reflectlite.Value).Elem", "(internal/reflectlite.Value).Set"], unfollowed := true, recurses := true, named := ["io.ErrUnexpectedEOF", "io.EOF", "errors.errorType"], apart := false, laid := [("errors.errorType", laid_errors_errorType), ("io.EOF", laid_io_EOF), ("io.ErrUnexpectedEOF", laid_io_ErrUnexpectedEOF)], narrowed := true }
def FnEmitReadUptoSaid : Prop := fnEmitReadUptoRow.holds Tryd.pinned (OpenSpec.upto fnEmitReadSpec)

/-- 'laws.FnBadTables', WHERE WHAT IT READS IS OF BULK AT MOST 1048576: true; the input reads as it did. -/
def fnBadTablesUptoRow : OpenClaim := { program := "ytkkplbfbhmlnoaadoor", sum := "99764e6e58c4831d7107cdda0d7be6b362d2070210e5d635b01d8a29f5c75358", func := "jpegcodec/laws.FnBadTables", spec := "fnBadTables", inPlace := ["internal/reflectlite.TypeOf", "internal/reflectlite.ValueOf", "(internal/reflectlite.Value).Type", "(internal/reflectlite.Value).IsNil", "(internal/reflectlite.Value).Elem", "(internal/reflectlite.Value).Set"], unfollowed := true, recurses := true, named := ["io.EOF", "io.ErrUnexpectedEOF", "errors.errorType"], apart := false, laid := [("errors.errorType", laid_errors_errorType), ("io.EOF", laid_io_EOF), ("io.ErrUnexpectedEOF", laid_io_ErrUnexpectedEOF)], narrowed := true }
def FnBadTablesUptoSaid : Prop := fnBadTablesUptoRow.holds Tryd.pinned (OpenSpec.upto fnBadTablesSpec)

/-- 'laws.FnBits', WHERE WHAT IT READS IS OF BULK AT MOST 1048576: true; the input reads as it did. -/
def fnBitsUptoRow : OpenClaim := { program := "ytkkplbfbhmlnoaadoor", sum := "99764e6e58c4831d7107cdda0d7be6b362d2070210e5d635b01d8a29f5c75358", func := "jpegcodec/laws.FnBits", spec := "fnBits", inPlace := ["internal/reflectlite.TypeOf", "internal/reflectlite.ValueOf", "(internal/reflectlite.Value).Type", "(internal/reflectlite.Value).IsNil", "(internal/reflectlite.Value).Elem", "(internal/reflectlite.Value).Set"], unfollowed := true, recurses := true, named := ["io.ErrUnexpectedEOF", "io.EOF", "errors.errorType"], apart := false, laid := [("errors.errorType", laid_errors_errorType), ("io.EOF", laid_io_EOF), ("io.ErrUnexpectedEOF", laid_io_ErrUnexpectedEOF)], narrowed := true }
def FnBitsUptoSaid : Prop := fnBitsUptoRow.holds Tryd.pinned (OpenSpec.upto fnBitsSpec)

/-- 'laws.FnNumbers', WHERE WHAT IT READS IS OF BULK AT MOST 1048576: true; the input reads as it did. -/
def fnNumbersUptoRow : OpenClaim := { program := "ytkkplbfbhmlnoaadoor", sum := "99764e6e58c4831d7107cdda0d7be6b362d2070210e5d635b01d8a29f5c75358", func := "jpegcodec/laws.FnNumbers", spec := "fnNumbers", inPlace := ["internal/reflectlite.TypeOf", "internal/reflectlite.ValueOf", "(internal/reflectlite.Value).Type", "(internal/reflectlite.Value).IsNil", "(internal/reflectlite.Value).Elem", "(internal/reflectlite.Value).Set"], unfollowed := true, recurses := true, named := ["io.ErrUnexpectedEOF", "io.EOF", "errors.errorType"], apart := false, laid := [("errors.errorType", laid_errors_errorType), ("io.EOF", laid_io_EOF), ("io.ErrUnexpectedEOF", laid_io_ErrUnexpectedEOF)], narrowed := true }
def FnNumbersUptoSaid : Prop := fnNumbersUptoRow.holds Tryd.pinned (OpenSpec.upto fnNumbersSpec)

end Rows
end Go.Proofs.YtkkplbfbhmlnoaaDoor
