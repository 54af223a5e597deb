/-
  NARROWER THAN 'FOR EVERY INPUT', by the rows' own cells (each row's printed sentence says how): FnOneByOne: laid · FnOthersStay: laid · FnSeekSame: laid.
  DERIVED. THE GIVEN ROWS OF THIS SEAT. 3 by the template 'for every input the law returns true; each argument reads behind the call as it read before'; 0 by the template 'total and deterministic' (their statements: YtlabcknoooaefaaGreatDoorTotals.lean).
  GIVEN WITH THE SEED: the statements are not yours to turn. If you find one false, say at which input.
  Laid BY PROGRAM, IN A SANDBOX (cutbox-rows.mjs): the forced cells as the released guide's own fill.sh prints them over the translation ab9b58a49a355aca… (all of the seat's roots in one cut). By AI agents, Wed Nov 11 2026. No macro, syntax, notation, axiom, sorry.
-/
import Derived.Test.YtlabcknoooaefaaGreatDoorChecked
import GoSem.Claim
import GoSem.ClaimJoined
import GoSem.ClaimMapViews
import Derived.JoinedTies
import Derived.KernelRfl
namespace Go.Proofs.YtlabcknoooaefaaGreatDoor
/- THE CELL 'sum', in the pinned program and in every row, IS THE sha256 OF THE DUMP (.gsa) THAT YtlabcknoooaefaaGreatDoorProg.lean LOADS. Nothing in Lean hashes anything: it is a label: what it is worth is what the hold of that sum in a sandbox is worth. -/
noncomputable def Tryz.pinned : Pinned := { name := "ytlabcknoooaefaagreatdoor", sum := "ab9b58a49a355acac14667efe8a568aaa3933729e7a2ddac22c22954bd78341c", checked := Tryz.checked }
namespace Rows
def none {H : Type} : Left H := { results := [], args := [] }

/- WHAT THE LISTED PACKAGE-LEVEL VARIABLES READ AS WHEN THE CALL BEGINS. Each datum BY PROGRAM (the guide's laid-datum.mjs) off the statement by which the dump's own 'gosem.cut.vars' lays the variable. In a bare row this is a premise. The card (YtlabcknoooaefaaGreatDoorCards.lean) ties it to the program's text. -/
def laid_io_ErrShortWrite {H : Type} : DataW H := .iface "*errors.errorString" (.ptr (.agg [.lit (.string [115, 104, 111, 114, 116, 32, 119, 114, 105, 116, 101])]))
def laid_io_errInvalidWrite {H : Type} : DataW H := .iface "*errors.errorString" (.ptr (.agg [.lit (.string [105, 110, 118, 97, 108, 105, 100, 32, 119, 114, 105, 116, 101, 32, 114, 101, 115, 117, 108, 116])]))
def laid_io_EOF {H : Type} : DataW H := .iface "*errors.errorString" (.ptr (.agg [.lit (.string [69, 79, 70])]))
def laid_loop_example_pub_g03441_pub_flac_frame_nChannels {H : Type} : DataW H := .agg [.lit (.int .i64 1), .lit (.int .i64 2), .lit (.int .i64 3), .lit (.int .i64 4), .lit (.int .i64 5), .lit (.int .i64 6), .lit (.int .i64 7), .lit (.int .i64 8), .lit (.int .i64 2), .lit (.int .i64 2), .lit (.int .i64 2)]

/-- 'laws.FnOneByOne': WHATEVER THE INPUT: true; the input reads as it did. -/
def fnOneByOneSpec : ChangeSpec := { name := "fnOneByOne", vars := ["loop.example/pub-g03441/pub/flac/frame.nChannels"], fn := fun _ => fun
  | [d1, d2, d3, d4, d5, g1] => { results := [.lit (.bool true)], args := [d1, d2, d3, d4, d5], vars := [g1] }
  | _ => none }
def fnOneByOneRow : OpenClaim := { program := "ytlabcknoooaefaagreatdoor", sum := "ab9b58a49a355acac14667efe8a568aaa3933729e7a2ddac22c22954bd78341c", func := "loop.example/pub-g03441/laws.FnOneByOne", spec := "fnOneByOne", inPlace := ["math.Float64bits", "math.Float64frombits", "math.archLog"], unfollowed := true, recurses := true, named := ["io.EOF", "io.errInvalidWrite", "io.ErrShortWrite", "loop.example/pub-g03441/pub/flac/frame.nChannels"], apart := false, laid := [("io.ErrShortWrite", laid_io_ErrShortWrite), ("io.errInvalidWrite", laid_io_errInvalidWrite), ("io.EOF", laid_io_EOF), ("loop.example/pub-g03441/pub/flac/frame.nChannels", laid_loop_example_pub_g03441_pub_flac_frame_nChannels)] }
def FnOneByOneSaid : Prop := fnOneByOneRow.holds Tryz.pinned (OpenSpec.ofChange fnOneByOneSpec)

/-- ITS FALSE NEIGHBOUR: 'it returns false'. Refute it at one input. -/
def fnOneByOneWrong : ChangeSpec := { name := "fnOneByOne", vars := ["loop.example/pub-g03441/pub/flac/frame.nChannels"], fn := fun _ => fun
  | [d1, d2, d3, d4, d5, g1] => { results := [.lit (.bool false)], args := [d1, d2, d3, d4, d5], vars := [g1] }
  | _ => none }
def FnOneByOneWrongFalsely : Prop := fnOneByOneRow.holds Tryz.pinned (OpenSpec.ofChange fnOneByOneWrong)

/-- 'laws.FnOthersStay': WHATEVER THE INPUT: true; the input reads as it did. -/
def fnOthersStaySpec : ChangeSpec := { name := "fnOthersStay", vars := ["loop.example/pub-g03441/pub/flac/frame.nChannels"], fn := fun _ => fun
  | [d1, d2, d3, d4, g1] => { results := [.lit (.bool true)], args := [d1, d2, d3, d4], vars := [g1] }
  | _ => none }
def fnOthersStayRow : OpenClaim := { program := "ytlabcknoooaefaagreatdoor", sum := "ab9b58a49a355acac14667efe8a568aaa3933729e7a2ddac22c22954bd78341c", func := "loop.example/pub-g03441/laws.FnOthersStay", spec := "fnOthersStay", inPlace := ["math.Float64bits", "math.Float64frombits", "math.archLog"], unfollowed := true, recurses := true, named := ["io.EOF", "io.errInvalidWrite", "io.ErrShortWrite", "loop.example/pub-g03441/pub/flac/frame.nChannels"], apart := false, laid := [("io.ErrShortWrite", laid_io_ErrShortWrite), ("io.errInvalidWrite", laid_io_errInvalidWrite), ("io.EOF", laid_io_EOF), ("loop.example/pub-g03441/pub/flac/frame.nChannels", laid_loop_example_pub_g03441_pub_flac_frame_nChannels)] }
def FnOthersStaySaid : Prop := fnOthersStayRow.holds Tryz.pinned (OpenSpec.ofChange fnOthersStaySpec)

/-- ITS FALSE NEIGHBOUR: 'it returns false'. Refute it at one input. -/
def fnOthersStayWrong : ChangeSpec := { name := "fnOthersStay", vars := ["loop.example/pub-g03441/pub/flac/frame.nChannels"], fn := fun _ => fun
  | [d1, d2, d3, d4, g1] => { results := [.lit (.bool false)], args := [d1, d2, d3, d4], vars := [g1] }
  | _ => none }
def FnOthersStayWrongFalsely : Prop := fnOthersStayRow.holds Tryz.pinned (OpenSpec.ofChange fnOthersStayWrong)

/-- 'laws.FnSeekSame': WHATEVER THE INPUT: true; the input reads as it did. -/
def fnSeekSameSpec : ChangeSpec := { name := "fnSeekSame", vars := ["loop.example/pub-g03441/pub/flac/frame.nChannels"], fn := fun _ => fun
  | [d1, d2, d3, d4, g1] => { results := [.lit (.bool true)], args := [d1, d2, d3, d4], vars := [g1] }
  | _ => none }
def fnSeekSameRow : OpenClaim := { program := "ytlabcknoooaefaagreatdoor", sum := "ab9b58a49a355acac14667efe8a568aaa3933729e7a2ddac22c22954bd78341c", func := "loop.example/pub-g03441/laws.FnSeekSame", spec := "fnSeekSame", inPlace := ["math.Float64bits", "math.Float64frombits", "math.archLog"], unfollowed := true, recurses := true, named := ["io.EOF", "io.errInvalidWrite", "io.ErrShortWrite", "loop.example/pub-g03441/pub/flac/frame.nChannels"], apart := false, laid := [("io.ErrShortWrite", laid_io_ErrShortWrite), ("io.errInvalidWrite", laid_io_errInvalidWrite), ("io.EOF", laid_io_EOF), ("loop.example/pub-g03441/pub/flac/frame.nChannels", laid_loop_example_pub_g03441_pub_flac_frame_nChannels)] }
def FnSeekSameSaid : Prop := fnSeekSameRow.holds Tryz.pinned (OpenSpec.ofChange fnSeekSameSpec)

/-- ITS FALSE NEIGHBOUR: 'it returns false'. Refute it at one input. -/
def fnSeekSameWrong : ChangeSpec := { name := "fnSeekSame", vars := ["loop.example/pub-g03441/pub/flac/frame.nChannels"], fn := fun _ => fun
  | [d1, d2, d3, d4, g1] => { results := [.lit (.bool false)], args := [d1, d2, d3, d4], vars := [g1] }
  | _ => none }
def FnSeekSameWrongFalsely : Prop := fnSeekSameRow.holds Tryz.pinned (OpenSpec.ofChange fnSeekSameWrong)

/- THE SECOND FORM. 'bulk': how many values and letters a reading holds, each counted each time it is reached (what is shared counts as often as it is met; a slice's spare places count too). A statement '..UptoSaid' is the law's where the arguments, and the package variables that the reading takes, are together of bulk at most 1048576: NARROWER than '..Said'. Prove '..Said' where nothing that the law and all that it calls make is longer than what came in: it says more and counts as full. Else prove '..UptoSaid'. A law counts once. -/
mutual
def uptoBulk {H : Type} : DataW H → Nat
  | .lit (.string bytes) => bytes.length + 1
  | .lit _ => 1
  | .nil => 1
  | .ptr d => uptoBulk d + 1
  | .slice elems spare => uptoBulkAll elems + uptoBulkAll spare + 1
  | .agg parts => uptoBulkAll parts + 1
  | .iface _ d => uptoBulk d + 1
  | .map entries => uptoBulkEntries entries + 1
  | .held _ => 1
def uptoBulkAll {H : Type} : List (DataW H) → Nat
  | [] => 0
  | d :: r => uptoBulk d + uptoBulkAll r
def uptoBulkEntries {H : Type} : List (Lit × DataW H) → Nat
  | [] => 0
  | x :: r => uptoBulkEntry x + uptoBulkEntries r
def uptoBulkEntry {H : Type} : Lit × DataW H → Nat
  | (.string bytes, d) => bytes.length + uptoBulk d + 1
  | (_, d) => uptoBulk d + 1
 end
def uptoSmall : (H : Type) → List (DataW H) → Bool := fun _ ds => decide (uptoBulkAll ds ≤ 1048576)
def OpenSpec.upto (s : _root_.Go.ChangeSpec) : _root_.Go.OpenSpec := { _root_.Go.OpenSpec.ofChange s with cond := some uptoSmall }

/-- 'laws.FnOneByOne', WHERE WHAT IT READS IS OF BULK AT MOST 1048576: true; the input reads as it did. -/
def fnOneByOneUptoRow : OpenClaim := { program := "ytlabcknoooaefaagreatdoor", sum := "ab9b58a49a355acac14667efe8a568aaa3933729e7a2ddac22c22954bd78341c", func := "loop.example/pub-g03441/laws.FnOneByOne", spec := "fnOneByOne", inPlace := ["math.Float64bits", "math.Float64frombits", "math.archLog"], unfollowed := true, recurses := true, named := ["io.EOF", "io.errInvalidWrite", "io.ErrShortWrite", "loop.example/pub-g03441/pub/flac/frame.nChannels"], apart := false, laid := [("io.ErrShortWrite", laid_io_ErrShortWrite), ("io.errInvalidWrite", laid_io_errInvalidWrite), ("io.EOF", laid_io_EOF), ("loop.example/pub-g03441/pub/flac/frame.nChannels", laid_loop_example_pub_g03441_pub_flac_frame_nChannels)], narrowed := true }
def FnOneByOneUptoSaid : Prop := fnOneByOneUptoRow.holds Tryz.pinned (OpenSpec.upto fnOneByOneSpec)

/-- 'laws.FnOthersStay', WHERE WHAT IT READS IS OF BULK AT MOST 1048576: true; the input reads as it did. -/
def fnOthersStayUptoRow : OpenClaim := { program := "ytlabcknoooaefaagreatdoor", sum := "ab9b58a49a355acac14667efe8a568aaa3933729e7a2ddac22c22954bd78341c", func := "loop.example/pub-g03441/laws.FnOthersStay", spec := "fnOthersStay", inPlace := ["math.Float64bits", "math.Float64frombits", "math.archLog"], unfollowed := true, recurses := true, named := ["io.EOF", "io.errInvalidWrite", "io.ErrShortWrite", "loop.example/pub-g03441/pub/flac/frame.nChannels"], apart := false, laid := [("io.ErrShortWrite", laid_io_ErrShortWrite), ("io.errInvalidWrite", laid_io_errInvalidWrite), ("io.EOF", laid_io_EOF), ("loop.example/pub-g03441/pub/flac/frame.nChannels", laid_loop_example_pub_g03441_pub_flac_frame_nChannels)], narrowed := true }
def FnOthersStayUptoSaid : Prop := fnOthersStayUptoRow.holds Tryz.pinned (OpenSpec.upto fnOthersStaySpec)

/-- 'laws.FnSeekSame', WHERE WHAT IT READS IS OF BULK AT MOST 1048576: true; the input reads as it did. -/
def fnSeekSameUptoRow : OpenClaim := { program := "ytlabcknoooaefaagreatdoor", sum := "ab9b58a49a355acac14667efe8a568aaa3933729e7a2ddac22c22954bd78341c", func := "loop.example/pub-g03441/laws.FnSeekSame", spec := "fnSeekSame", inPlace := ["math.Float64bits", "math.Float64frombits", "math.archLog"], unfollowed := true, recurses := true, named := ["io.EOF", "io.errInvalidWrite", "io.ErrShortWrite", "loop.example/pub-g03441/pub/flac/frame.nChannels"], apart := false, laid := [("io.ErrShortWrite", laid_io_ErrShortWrite), ("io.errInvalidWrite", laid_io_errInvalidWrite), ("io.EOF", laid_io_EOF), ("loop.example/pub-g03441/pub/flac/frame.nChannels", laid_loop_example_pub_g03441_pub_flac_frame_nChannels)], narrowed := true }
def FnSeekSameUptoSaid : Prop := fnSeekSameUptoRow.holds Tryz.pinned (OpenSpec.upto fnSeekSameSpec)

end Rows
end Go.Proofs.YtlabcknoooaefaaGreatDoor
