/-
  NARROWER THAN 'FOR EVERY INPUT', by the rows' own cells (each row's printed sentence says how): FnFixTrunc: ifaces, laid · FnFintRounds: laid · FnFixPad: ifaces, laid · FnFixTrim: ifaces, laid.
  DERIVED. THE GIVEN ROWS OF THIS SEAT. 4 by the template 'for every input the law returns true; each argument reads behind the call as it read before'; 0 by the template 'total and deterministic' (their statements: YtnjbfebeigginaaDoorTotals.lean).
  GIVEN WITH THE SEED: the statements are not yours to turn. If you find one false, say at which input.
  Laid BY PROGRAM, IN A SANDBOX (cutbox-rows.mjs): the forced cells as the released guide's own fill.sh prints them over the translation fb9734d3de2f88e3… (all of the seat's roots in one cut). By AI agents, Wed Nov 11 2026. No macro, syntax, notation, axiom, sorry.
-/
import Derived.Test.YtnjbfebeigginaaDoorChecked
import GoSem.Claim
import GoSem.ClaimJoined
import GoSem.ClaimMapViews
import Derived.JoinedTies
import Derived.KernelRfl
namespace Go.Proofs.YtnjbfebeigginaaDoor
/- THE CELL 'sum', in the pinned program and in every row, IS THE sha256 OF THE DUMP (.gsa) THAT YtnjbfebeigginaaDoorProg.lean LOADS. Nothing in Lean hashes anything: it is a label: what it is worth is what the hold of that sum in a sandbox is worth. -/
noncomputable def Tryd.pinned : Pinned := { name := "ytnjbfebeigginaadoor", sum := "fb9734d3de2f88e3449486fc189f0713b460c04d4050b968a7ae35540524b8ca", checked := Tryd.checked }
namespace Rows
def none {H : Type} : Left H := { results := [], args := [] }

/- WHAT THE LISTED PACKAGE-LEVEL VARIABLES READ AS WHEN THE CALL BEGINS. Each datum BY PROGRAM (the guide's laid-datum.mjs) off the statement by which the dump's own 'gosem.cut.vars' lays the variable. In a bare row this is a premise. The card (YtnjbfebeigginaaDoorCards.lean) ties it to the program's text. -/
def laid_given_example_pub_alexandrine_pub_govalues_errDecimalOverflow {H : Type} : DataW H := .iface "*errors.errorString" (.ptr (.agg [.lit (.string [100, 101, 99, 105, 109, 97, 108, 32, 111, 118, 101, 114, 102, 108, 111, 119])]))
def laid_given_example_pub_alexandrine_pub_govalues_errScaleRange {H : Type} : DataW H := .iface "*errors.errorString" (.ptr (.agg [.lit (.string [115, 99, 97, 108, 101, 32, 111, 117, 116, 32, 111, 102, 32, 114, 97, 110, 103, 101])]))
def laid_given_example_pub_alexandrine_pub_govalues_pow10 {H : Type} : DataW H := .agg [.lit (.int .u64 1), .lit (.int .u64 10), .lit (.int .u64 100), .lit (.int .u64 1000), .lit (.int .u64 10000), .lit (.int .u64 100000), .lit (.int .u64 1000000), .lit (.int .u64 10000000), .lit (.int .u64 100000000), .lit (.int .u64 1000000000), .lit (.int .u64 10000000000), .lit (.int .u64 100000000000), .lit (.int .u64 1000000000000), .lit (.int .u64 10000000000000), .lit (.int .u64 100000000000000), .lit (.int .u64 1000000000000000), .lit (.int .u64 10000000000000000), .lit (.int .u64 100000000000000000), .lit (.int .u64 1000000000000000000), .lit (.int .u64 10000000000000000000)]

/-- 'laws.FnFixTrunc': WHATEVER THE INPUT: true; the input reads as it did. -/
def fnFixTruncSpec : ChangeSpec := { name := "fnFixTrunc", vars := ["given.example/pub-alexandrine/pub/govalues.errScaleRange", "given.example/pub-alexandrine/pub/govalues.errDecimalOverflow", "given.example/pub-alexandrine/pub/govalues.pow10"], fn := fun _ => fun
  | [d1, d2, g1, g2, g3] => { results := [.lit (.bool true)], args := [d1, d2], vars := [g1, g2, g3] }
  | _ => none }
def fnFixTruncRow : OpenClaim := { program := "ytnjbfebeigginaadoor", sum := "fb9734d3de2f88e3449486fc189f0713b460c04d4050b968a7ae35540524b8ca", func := "given.example/pub-alexandrine/laws.FnFixTrunc", spec := "fnFixTrunc", unfollowed := true, recurses := true, named := ["given.example/pub-alexandrine/pub/govalues.errScaleRange", "given.example/pub-alexandrine/pub/govalues.errDecimalOverflow", "given.example/pub-alexandrine/pub/govalues.pow10"], ifaces := true, apart := false, laid := [("given.example/pub-alexandrine/pub/govalues.errDecimalOverflow", laid_given_example_pub_alexandrine_pub_govalues_errDecimalOverflow), ("given.example/pub-alexandrine/pub/govalues.errScaleRange", laid_given_example_pub_alexandrine_pub_govalues_errScaleRange), ("given.example/pub-alexandrine/pub/govalues.pow10", laid_given_example_pub_alexandrine_pub_govalues_pow10)] }
def FnFixTruncSaid : Prop := fnFixTruncRow.holds Tryd.pinned (OpenSpec.ofChange fnFixTruncSpec)

/-- ITS FALSE NEIGHBOUR: 'it returns false'. Refute it at one input. -/
def fnFixTruncWrong : ChangeSpec := { name := "fnFixTrunc", vars := ["given.example/pub-alexandrine/pub/govalues.errScaleRange", "given.example/pub-alexandrine/pub/govalues.errDecimalOverflow", "given.example/pub-alexandrine/pub/govalues.pow10"], fn := fun _ => fun
  | [d1, d2, g1, g2, g3] => { results := [.lit (.bool false)], args := [d1, d2], vars := [g1, g2, g3] }
  | _ => none }
def FnFixTruncWrongFalsely : Prop := fnFixTruncRow.holds Tryd.pinned (OpenSpec.ofChange fnFixTruncWrong)

/-- 'laws.FnFintRounds': WHATEVER THE INPUT: true; the input reads as it did. -/
def fnFintRoundsSpec : ChangeSpec := { name := "fnFintRounds", vars := ["given.example/pub-alexandrine/pub/govalues.pow10"], fn := fun _ => fun
  | [d1, d2, g1] => { results := [.lit (.bool true)], args := [d1, d2], vars := [g1] }
  | _ => none }
def fnFintRoundsRow : OpenClaim := { program := "ytnjbfebeigginaadoor", sum := "fb9734d3de2f88e3449486fc189f0713b460c04d4050b968a7ae35540524b8ca", func := "given.example/pub-alexandrine/laws.FnFintRounds", spec := "fnFintRounds", unfollowed := true, recurses := true, named := ["given.example/pub-alexandrine/pub/govalues.pow10"], apart := false, laid := [("given.example/pub-alexandrine/pub/govalues.pow10", laid_given_example_pub_alexandrine_pub_govalues_pow10)] }
def FnFintRoundsSaid : Prop := fnFintRoundsRow.holds Tryd.pinned (OpenSpec.ofChange fnFintRoundsSpec)

/-- ITS FALSE NEIGHBOUR: 'it returns false'. Refute it at one input. -/
def fnFintRoundsWrong : ChangeSpec := { name := "fnFintRounds", vars := ["given.example/pub-alexandrine/pub/govalues.pow10"], fn := fun _ => fun
  | [d1, d2, g1] => { results := [.lit (.bool false)], args := [d1, d2], vars := [g1] }
  | _ => none }
def FnFintRoundsWrongFalsely : Prop := fnFintRoundsRow.holds Tryd.pinned (OpenSpec.ofChange fnFintRoundsWrong)

/-- 'laws.FnFixPad': WHATEVER THE INPUT: true; the input reads as it did. -/
def fnFixPadSpec : ChangeSpec := { name := "fnFixPad", vars := ["given.example/pub-alexandrine/pub/govalues.errScaleRange", "given.example/pub-alexandrine/pub/govalues.errDecimalOverflow", "given.example/pub-alexandrine/pub/govalues.pow10"], fn := fun _ => fun
  | [d1, d2, g1, g2, g3] => { results := [.lit (.bool true)], args := [d1, d2], vars := [g1, g2, g3] }
  | _ => none }
def fnFixPadRow : OpenClaim := { program := "ytnjbfebeigginaadoor", sum := "fb9734d3de2f88e3449486fc189f0713b460c04d4050b968a7ae35540524b8ca", func := "given.example/pub-alexandrine/laws.FnFixPad", spec := "fnFixPad", unfollowed := true, recurses := true, named := ["given.example/pub-alexandrine/pub/govalues.errScaleRange", "given.example/pub-alexandrine/pub/govalues.errDecimalOverflow", "given.example/pub-alexandrine/pub/govalues.pow10"], ifaces := true, apart := false, laid := [("given.example/pub-alexandrine/pub/govalues.errDecimalOverflow", laid_given_example_pub_alexandrine_pub_govalues_errDecimalOverflow), ("given.example/pub-alexandrine/pub/govalues.errScaleRange", laid_given_example_pub_alexandrine_pub_govalues_errScaleRange), ("given.example/pub-alexandrine/pub/govalues.pow10", laid_given_example_pub_alexandrine_pub_govalues_pow10)] }
def FnFixPadSaid : Prop := fnFixPadRow.holds Tryd.pinned (OpenSpec.ofChange fnFixPadSpec)

/-- ITS FALSE NEIGHBOUR: 'it returns false'. Refute it at one input. -/
def fnFixPadWrong : ChangeSpec := { name := "fnFixPad", vars := ["given.example/pub-alexandrine/pub/govalues.errScaleRange", "given.example/pub-alexandrine/pub/govalues.errDecimalOverflow", "given.example/pub-alexandrine/pub/govalues.pow10"], fn := fun _ => fun
  | [d1, d2, g1, g2, g3] => { results := [.lit (.bool false)], args := [d1, d2], vars := [g1, g2, g3] }
  | _ => none }
def FnFixPadWrongFalsely : Prop := fnFixPadRow.holds Tryd.pinned (OpenSpec.ofChange fnFixPadWrong)

/-- 'laws.FnFixTrim': WHATEVER THE INPUT: true; the input reads as it did. -/
def fnFixTrimSpec : ChangeSpec := { name := "fnFixTrim", vars := ["given.example/pub-alexandrine/pub/govalues.errScaleRange", "given.example/pub-alexandrine/pub/govalues.errDecimalOverflow", "given.example/pub-alexandrine/pub/govalues.pow10"], fn := fun _ => fun
  | [d1, d2, g1, g2, g3] => { results := [.lit (.bool true)], args := [d1, d2], vars := [g1, g2, g3] }
  | _ => none }
def fnFixTrimRow : OpenClaim := { program := "ytnjbfebeigginaadoor", sum := "fb9734d3de2f88e3449486fc189f0713b460c04d4050b968a7ae35540524b8ca", func := "given.example/pub-alexandrine/laws.FnFixTrim", spec := "fnFixTrim", unfollowed := true, recurses := true, named := ["given.example/pub-alexandrine/pub/govalues.errScaleRange", "given.example/pub-alexandrine/pub/govalues.errDecimalOverflow", "given.example/pub-alexandrine/pub/govalues.pow10"], ifaces := true, apart := false, laid := [("given.example/pub-alexandrine/pub/govalues.errDecimalOverflow", laid_given_example_pub_alexandrine_pub_govalues_errDecimalOverflow), ("given.example/pub-alexandrine/pub/govalues.errScaleRange", laid_given_example_pub_alexandrine_pub_govalues_errScaleRange), ("given.example/pub-alexandrine/pub/govalues.pow10", laid_given_example_pub_alexandrine_pub_govalues_pow10)] }
def FnFixTrimSaid : Prop := fnFixTrimRow.holds Tryd.pinned (OpenSpec.ofChange fnFixTrimSpec)

/-- ITS FALSE NEIGHBOUR: 'it returns false'. Refute it at one input. -/
def fnFixTrimWrong : ChangeSpec := { name := "fnFixTrim", vars := ["given.example/pub-alexandrine/pub/govalues.errScaleRange", "given.example/pub-alexandrine/pub/govalues.errDecimalOverflow", "given.example/pub-alexandrine/pub/govalues.pow10"], fn := fun _ => fun
  | [d1, d2, g1, g2, g3] => { results := [.lit (.bool false)], args := [d1, d2], vars := [g1, g2, g3] }
  | _ => none }
def FnFixTrimWrongFalsely : Prop := fnFixTrimRow.holds Tryd.pinned (OpenSpec.ofChange fnFixTrimWrong)

/- THE SECOND FORM. 'bulk': how many values and letters a reading holds, each counted each time it is reached (what is shared counts as often as it is met; a slice's spare places count too). A statement '..UptoSaid' is the law's where the arguments, and the package variables that the reading takes, are together of bulk at most 1048576: NARROWER than '..Said'. Prove '..Said' where nothing that the law and all that it calls make is longer than what came in: it says more and counts as full. Else prove '..UptoSaid'. A law counts once. -/
mutual
def uptoBulk {H : Type} : DataW H → Nat
  | .lit (.string bytes) => bytes.length + 1
  | .lit _ => 1
  | .nil => 1
  | .ptr d => uptoBulk d + 1
  | .slice elems spare => uptoBulkAll elems + uptoBulkAll spare + 1
  | .agg parts => uptoBulkAll parts + 1
  | .iface _ d => uptoBulk d + 1
  | .map entries => uptoBulkEntries entries + 1
  | .held _ => 1
def uptoBulkAll {H : Type} : List (DataW H) → Nat
  | [] => 0
  | d :: r => uptoBulk d + uptoBulkAll r
def uptoBulkEntries {H : Type} : List (Lit × DataW H) → Nat
  | [] => 0
  | x :: r => uptoBulkEntry x + uptoBulkEntries r
def uptoBulkEntry {H : Type} : Lit × DataW H → Nat
  | (.string bytes, d) => bytes.length + uptoBulk d + 1
  | (_, d) => uptoBulk d + 1
 end
def uptoSmall : (H : Type) → List (DataW H) → Bool := fun _ ds => decide (uptoBulkAll ds ≤ 1048576)
def OpenSpec.upto (s : _root_.Go.ChangeSpec) : _root_.Go.OpenSpec := { _root_.Go.OpenSpec.ofChange s with cond := some uptoSmall }

/-- 'laws.FnFixTrunc', WHERE WHAT IT READS IS OF BULK AT MOST 1048576: true; the input reads as it did. -/
def fnFixTruncUptoRow : OpenClaim := { program := "ytnjbfebeigginaadoor", sum := "fb9734d3de2f88e3449486fc189f0713b460c04d4050b968a7ae35540524b8ca", func := "given.example/pub-alexandrine/laws.FnFixTrunc", spec := "fnFixTrunc", unfollowed := true, recurses := true, named := ["given.example/pub-alexandrine/pub/govalues.errScaleRange", "given.example/pub-alexandrine/pub/govalues.errDecimalOverflow", "given.example/pub-alexandrine/pub/govalues.pow10"], ifaces := true, apart := false, laid := [("given.example/pub-alexandrine/pub/govalues.errDecimalOverflow", laid_given_example_pub_alexandrine_pub_govalues_errDecimalOverflow), ("given.example/pub-alexandrine/pub/govalues.errScaleRange", laid_given_example_pub_alexandrine_pub_govalues_errScaleRange), ("given.example/pub-alexandrine/pub/govalues.pow10", laid_given_example_pub_alexandrine_pub_govalues_pow10)], narrowed := true }
def FnFixTruncUptoSaid : Prop := fnFixTruncUptoRow.holds Tryd.pinned (OpenSpec.upto fnFixTruncSpec)

/-- 'laws.FnFintRounds', WHERE WHAT IT READS IS OF BULK AT MOST 1048576: true; the input reads as it did. -/
def fnFintRoundsUptoRow : OpenClaim := { program := "ytnjbfebeigginaadoor", sum := "fb9734d3de2f88e3449486fc189f0713b460c04d4050b968a7ae35540524b8ca", func := "given.example/pub-alexandrine/laws.FnFintRounds", spec := "fnFintRounds", unfollowed := true, recurses := true, named := ["given.example/pub-alexandrine/pub/govalues.pow10"], apart := false, laid := [("given.example/pub-alexandrine/pub/govalues.pow10", laid_given_example_pub_alexandrine_pub_govalues_pow10)], narrowed := true }
def FnFintRoundsUptoSaid : Prop := fnFintRoundsUptoRow.holds Tryd.pinned (OpenSpec.upto fnFintRoundsSpec)

/-- 'laws.FnFixPad', WHERE WHAT IT READS IS OF BULK AT MOST 1048576: true; the input reads as it did. -/
def fnFixPadUptoRow : OpenClaim := { program := "ytnjbfebeigginaadoor", sum := "fb9734d3de2f88e3449486fc189f0713b460c04d4050b968a7ae35540524b8ca", func := "given.example/pub-alexandrine/laws.FnFixPad", spec := "fnFixPad", unfollowed := true, recurses := true, named := ["given.example/pub-alexandrine/pub/govalues.errScaleRange", "given.example/pub-alexandrine/pub/govalues.errDecimalOverflow", "given.example/pub-alexandrine/pub/govalues.pow10"], ifaces := true, apart := false, laid := [("given.example/pub-alexandrine/pub/govalues.errDecimalOverflow", laid_given_example_pub_alexandrine_pub_govalues_errDecimalOverflow), ("given.example/pub-alexandrine/pub/govalues.errScaleRange", laid_given_example_pub_alexandrine_pub_govalues_errScaleRange), ("given.example/pub-alexandrine/pub/govalues.pow10", laid_given_example_pub_alexandrine_pub_govalues_pow10)], narrowed := true }
def FnFixPadUptoSaid : Prop := fnFixPadUptoRow.holds Tryd.pinned (OpenSpec.upto fnFixPadSpec)

/-- 'laws.FnFixTrim', WHERE WHAT IT READS IS OF BULK AT MOST 1048576: true; the input reads as it did. -/
def fnFixTrimUptoRow : OpenClaim := { program := "ytnjbfebeigginaadoor", sum := "fb9734d3de2f88e3449486fc189f0713b460c04d4050b968a7ae35540524b8ca", func := "given.example/pub-alexandrine/laws.FnFixTrim", spec := "fnFixTrim", unfollowed := true, recurses := true, named := ["given.example/pub-alexandrine/pub/govalues.errScaleRange", "given.example/pub-alexandrine/pub/govalues.errDecimalOverflow", "given.example/pub-alexandrine/pub/govalues.pow10"], ifaces := true, apart := false, laid := [("given.example/pub-alexandrine/pub/govalues.errDecimalOverflow", laid_given_example_pub_alexandrine_pub_govalues_errDecimalOverflow), ("given.example/pub-alexandrine/pub/govalues.errScaleRange", laid_given_example_pub_alexandrine_pub_govalues_errScaleRange), ("given.example/pub-alexandrine/pub/govalues.pow10", laid_given_example_pub_alexandrine_pub_govalues_pow10)], narrowed := true }
def FnFixTrimUptoSaid : Prop := fnFixTrimUptoRow.holds Tryd.pinned (OpenSpec.upto fnFixTrimSpec)

end Rows
end Go.Proofs.YtnjbfebeigginaaDoor
