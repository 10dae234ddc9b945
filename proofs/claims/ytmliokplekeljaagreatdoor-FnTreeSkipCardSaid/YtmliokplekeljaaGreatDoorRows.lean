/-
  NARROWER THAN 'FOR EVERY INPUT', by the rows' own cells (each row's printed sentence says how): FnTreeAgain: ifaces, laid · FnTreeAny: ifaces, laid · FnTreeSkip: ifaces, laid.
  DERIVED. THE GIVEN ROWS OF THIS SEAT. 3 by the template 'for every input the law returns true; each argument reads behind the call as it read before'; 0 by the template 'total and deterministic' (their statements: YtmliokplekeljaaGreatDoorTotals.lean).
  GIVEN WITH THE SEED: the statements are not yours to turn. If you find one false, say at which input.
  Laid BY PROGRAM, IN A SANDBOX (cutbox-rows.mjs): the forced cells as the released guide's own fill.sh prints them over the translation 60beafbb09a3aff3… (all of the seat's roots in one cut). By AI agents, Wed Nov 11 2026. No macro, syntax, notation, axiom, sorry.
-/
import Derived.Test.YtmliokplekeljaaGreatDoorChecked
import GoSem.Claim
import GoSem.ClaimJoined
import GoSem.ClaimMapViews
import Derived.JoinedTies
import Derived.KernelRfl
namespace Go.Proofs.YtmliokplekeljaaGreatDoor
/- THE CELL 'sum', in the pinned program and in every row, IS THE sha256 OF THE DUMP (.gsa) THAT YtmliokplekeljaaGreatDoorProg.lean LOADS. Nothing in Lean hashes anything: it is a label: what it is worth is what the hold of that sum in a sandbox is worth. -/
noncomputable def Tryz.pinned : Pinned := { name := "ytmliokplekeljaagreatdoor", sum := "60beafbb09a3aff33ee101fc8b0bc309074fe48a6b5317075657c66380925739", checked := Tryz.checked }
namespace Rows
def none {H : Type} : Left H := { results := [], args := [] }

/- WHAT THE LISTED PACKAGE-LEVEL VARIABLES READ AS WHEN THE CALL BEGINS. Each datum BY PROGRAM (the guide's laid-datum.mjs) off the statement by which the dump's own 'gosem.cut.vars' lays the variable. In a bare row this is a premise. The card (YtmliokplekeljaaGreatDoorCards.lean) ties it to the program's text. -/
def laid_loop_example_pub_g03086_pub_msgp_ErrShortBytes {H : Type} : DataW H := .iface "loop.example/pub-g03086/pub/msgp.errShort" (.agg [])
def laid_loop_example_pub_g03086_pub_msgp_ErrRecursion {H : Type} : DataW H := .iface "loop.example/pub-g03086/pub/msgp.errRecursion" (.agg [])
def laid_loop_example_pub_g03086_pub_msgp_fatal {H : Type} : DataW H := .iface "loop.example/pub-g03086/pub/msgp.errFatal" (.agg [.lit (.string [])])

/-- 'laws.FnTreeAgain': WHATEVER THE INPUT: true; the input reads as it did. -/
def fnTreeAgainSpec : ChangeSpec := { name := "fnTreeAgain", vars := ["loop.example/pub-g03086/pub/msgp.ErrShortBytes", "loop.example/pub-g03086/pub/msgp.ErrRecursion"], fn := fun _ => fun
  | [d, g1, g2] => { results := [.lit (.bool true)], args := [d], vars := [g1, g2] }
  | _ => none }
def fnTreeAgainRow : OpenClaim := { program := "ytmliokplekeljaagreatdoor", sum := "60beafbb09a3aff33ee101fc8b0bc309074fe48a6b5317075657c66380925739", func := "loop.example/pub-g03086/laws.FnTreeAgain", spec := "fnTreeAgain", inPlace := ["internal/reflectlite.TypeOf", "math.Float32frombits", "math.Float64frombits", "math.Float64bits", "math.Float32bits"], unfollowed := true, recurses := true, named := ["loop.example/pub-g03086/pub/msgp.ErrShortBytes", "encoding/binary.BigEndian", "loop.example/pub-g03086/pub/msgp.ErrRecursion"], ifaces := true, apart := false, laid := [("loop.example/pub-g03086/pub/msgp.ErrShortBytes", laid_loop_example_pub_g03086_pub_msgp_ErrShortBytes), ("loop.example/pub-g03086/pub/msgp.ErrRecursion", laid_loop_example_pub_g03086_pub_msgp_ErrRecursion)] }
def FnTreeAgainSaid : Prop := fnTreeAgainRow.holds Tryz.pinned (OpenSpec.ofChange fnTreeAgainSpec)

/-- ITS FALSE NEIGHBOUR: 'it returns false'. Refute it at one input. -/
def fnTreeAgainWrong : ChangeSpec := { name := "fnTreeAgain", vars := ["loop.example/pub-g03086/pub/msgp.ErrShortBytes", "loop.example/pub-g03086/pub/msgp.ErrRecursion"], fn := fun _ => fun
  | [d, g1, g2] => { results := [.lit (.bool false)], args := [d], vars := [g1, g2] }
  | _ => none }
def FnTreeAgainWrongFalsely : Prop := fnTreeAgainRow.holds Tryz.pinned (OpenSpec.ofChange fnTreeAgainWrong)

/-- 'laws.FnTreeAny': WHATEVER THE INPUT: true; the input reads as it did. -/
def fnTreeAnySpec : ChangeSpec := { name := "fnTreeAny", vars := ["loop.example/pub-g03086/pub/msgp.ErrShortBytes", "loop.example/pub-g03086/pub/msgp.ErrRecursion"], fn := fun _ => fun
  | [d, g1, g2] => { results := [.lit (.bool true)], args := [d], vars := [g1, g2] }
  | _ => none }
def fnTreeAnyRow : OpenClaim := { program := "ytmliokplekeljaagreatdoor", sum := "60beafbb09a3aff33ee101fc8b0bc309074fe48a6b5317075657c66380925739", func := "loop.example/pub-g03086/laws.FnTreeAny", spec := "fnTreeAny", inPlace := ["internal/reflectlite.TypeOf", "math.Float32frombits", "math.Float64frombits", "math.Float64bits", "math.Float32bits"], unfollowed := true, recurses := true, named := ["loop.example/pub-g03086/pub/msgp.ErrShortBytes", "encoding/binary.BigEndian", "loop.example/pub-g03086/pub/msgp.ErrRecursion"], ifaces := true, apart := false, laid := [("loop.example/pub-g03086/pub/msgp.ErrShortBytes", laid_loop_example_pub_g03086_pub_msgp_ErrShortBytes), ("loop.example/pub-g03086/pub/msgp.ErrRecursion", laid_loop_example_pub_g03086_pub_msgp_ErrRecursion)] }
def FnTreeAnySaid : Prop := fnTreeAnyRow.holds Tryz.pinned (OpenSpec.ofChange fnTreeAnySpec)

/-- ITS FALSE NEIGHBOUR: 'it returns false'. Refute it at one input. -/
def fnTreeAnyWrong : ChangeSpec := { name := "fnTreeAny", vars := ["loop.example/pub-g03086/pub/msgp.ErrShortBytes", "loop.example/pub-g03086/pub/msgp.ErrRecursion"], fn := fun _ => fun
  | [d, g1, g2] => { results := [.lit (.bool false)], args := [d], vars := [g1, g2] }
  | _ => none }
def FnTreeAnyWrongFalsely : Prop := fnTreeAnyRow.holds Tryz.pinned (OpenSpec.ofChange fnTreeAnyWrong)

/-- 'laws.FnTreeSkip': WHATEVER THE INPUT: true; the input reads as it did. -/
def fnTreeSkipSpec : ChangeSpec := { name := "fnTreeSkip", vars := ["loop.example/pub-g03086/pub/msgp.ErrRecursion", "loop.example/pub-g03086/pub/msgp.ErrShortBytes", "loop.example/pub-g03086/pub/msgp.fatal"], fn := fun _ => fun
  | [d, g1, g2, g3] => { results := [.lit (.bool true)], args := [d], vars := [g1, g2, g3] }
  | _ => none }
def fnTreeSkipRow : OpenClaim := { program := "ytmliokplekeljaagreatdoor", sum := "60beafbb09a3aff33ee101fc8b0bc309074fe48a6b5317075657c66380925739", func := "loop.example/pub-g03086/laws.FnTreeSkip", spec := "fnTreeSkip", inPlace := ["internal/reflectlite.TypeOf", "math.Float32frombits", "math.Float64frombits", "math.Float64bits", "math.Float32bits"], unfollowed := true, recurses := true, named := ["loop.example/pub-g03086/pub/msgp.ErrRecursion", "loop.example/pub-g03086/pub/msgp.ErrShortBytes", "encoding/binary.BigEndian", "loop.example/pub-g03086/pub/msgp.fatal"], ifaces := true, apart := false, laid := [("loop.example/pub-g03086/pub/msgp.ErrShortBytes", laid_loop_example_pub_g03086_pub_msgp_ErrShortBytes), ("loop.example/pub-g03086/pub/msgp.ErrRecursion", laid_loop_example_pub_g03086_pub_msgp_ErrRecursion), ("loop.example/pub-g03086/pub/msgp.fatal", laid_loop_example_pub_g03086_pub_msgp_fatal)] }
def FnTreeSkipSaid : Prop := fnTreeSkipRow.holds Tryz.pinned (OpenSpec.ofChange fnTreeSkipSpec)

/-- ITS FALSE NEIGHBOUR: 'it returns false'. Refute it at one input. -/
def fnTreeSkipWrong : ChangeSpec := { name := "fnTreeSkip", vars := ["loop.example/pub-g03086/pub/msgp.ErrRecursion", "loop.example/pub-g03086/pub/msgp.ErrShortBytes", "loop.example/pub-g03086/pub/msgp.fatal"], fn := fun _ => fun
  | [d, g1, g2, g3] => { results := [.lit (.bool false)], args := [d], vars := [g1, g2, g3] }
  | _ => none }
def FnTreeSkipWrongFalsely : Prop := fnTreeSkipRow.holds Tryz.pinned (OpenSpec.ofChange fnTreeSkipWrong)

/- THE SECOND FORM. 'bulk': how many values and letters a reading holds, each counted each time it is reached (what is shared counts as often as it is met; a slice's spare places count too). A statement '..UptoSaid' is the law's where the arguments, and the package variables that the reading takes, are together of bulk at most 1048576: NARROWER than '..Said'. Prove '..Said' where nothing that the law and all that it calls make is longer than what came in: it says more and counts as full. Else prove '..UptoSaid'. A law counts once. -/
mutual
def uptoBulk {H : Type} : DataW H → Nat
  | .lit (.string bytes) => bytes.length + 1
  | .lit _ => 1
  | .nil => 1
  | .ptr d => uptoBulk d + 1
  | .slice elems spare => uptoBulkAll elems + uptoBulkAll spare + 1
  | .agg parts => uptoBulkAll parts + 1
  | .iface _ d => uptoBulk d + 1
  | .map entries => uptoBulkEntries entries + 1
  | .held _ => 1
def uptoBulkAll {H : Type} : List (DataW H) → Nat
  | [] => 0
  | d :: r => uptoBulk d + uptoBulkAll r
def uptoBulkEntries {H : Type} : List (Lit × DataW H) → Nat
  | [] => 0
  | x :: r => uptoBulkEntry x + uptoBulkEntries r
def uptoBulkEntry {H : Type} : Lit × DataW H → Nat
  | (.string bytes, d) => bytes.length + uptoBulk d + 1
  | (_, d) => uptoBulk d + 1
 end
def uptoSmall : (H : Type) → List (DataW H) → Bool := fun _ ds => decide (uptoBulkAll ds ≤ 1048576)
def OpenSpec.upto (s : _root_.Go.ChangeSpec) : _root_.Go.OpenSpec := { _root_.Go.OpenSpec.ofChange s with cond := some uptoSmall }

/-- 'laws.FnTreeAgain', WHERE WHAT IT READS IS OF BULK AT MOST 1048576: true; the input reads as it did. -/
def fnTreeAgainUptoRow : OpenClaim := { program := "ytmliokplekeljaagreatdoor", sum := "60beafbb09a3aff33ee101fc8b0bc309074fe48a6b5317075657c66380925739", func := "loop.example/pub-g03086/laws.FnTreeAgain", spec := "fnTreeAgain", inPlace := ["internal/reflectlite.TypeOf", "math.Float32frombits", "math.Float64frombits", "math.Float64bits", "math.Float32bits"], unfollowed := true, recurses := true, named := ["loop.example/pub-g03086/pub/msgp.ErrShortBytes", "encoding/binary.BigEndian", "loop.example/pub-g03086/pub/msgp.ErrRecursion"], ifaces := true, apart := false, laid := [("loop.example/pub-g03086/pub/msgp.ErrShortBytes", laid_loop_example_pub_g03086_pub_msgp_ErrShortBytes), ("loop.example/pub-g03086/pub/msgp.ErrRecursion", laid_loop_example_pub_g03086_pub_msgp_ErrRecursion)], narrowed := true }
def FnTreeAgainUptoSaid : Prop := fnTreeAgainUptoRow.holds Tryz.pinned (OpenSpec.upto fnTreeAgainSpec)

/-- 'laws.FnTreeAny', WHERE WHAT IT READS IS OF BULK AT MOST 1048576: true; the input reads as it did. -/
def fnTreeAnyUptoRow : OpenClaim := { program := "ytmliokplekeljaagreatdoor", sum := "60beafbb09a3aff33ee101fc8b0bc309074fe48a6b5317075657c66380925739", func := "loop.example/pub-g03086/laws.FnTreeAny", spec := "fnTreeAny", inPlace := ["internal/reflectlite.TypeOf", "math.Float32frombits", "math.Float64frombits", "math.Float64bits", "math.Float32bits"], unfollowed := true, recurses := true, named := ["loop.example/pub-g03086/pub/msgp.ErrShortBytes", "encoding/binary.BigEndian", "loop.example/pub-g03086/pub/msgp.ErrRecursion"], ifaces := true, apart := false, laid := [("loop.example/pub-g03086/pub/msgp.ErrShortBytes", laid_loop_example_pub_g03086_pub_msgp_ErrShortBytes), ("loop.example/pub-g03086/pub/msgp.ErrRecursion", laid_loop_example_pub_g03086_pub_msgp_ErrRecursion)], narrowed := true }
def FnTreeAnyUptoSaid : Prop := fnTreeAnyUptoRow.holds Tryz.pinned (OpenSpec.upto fnTreeAnySpec)

/-- 'laws.FnTreeSkip', WHERE WHAT IT READS IS OF BULK AT MOST 1048576: true; the input reads as it did. -/
def fnTreeSkipUptoRow : OpenClaim := { program := "ytmliokplekeljaagreatdoor", sum := "60beafbb09a3aff33ee101fc8b0bc309074fe48a6b5317075657c66380925739", func := "loop.example/pub-g03086/laws.FnTreeSkip", spec := "fnTreeSkip", inPlace := ["internal/reflectlite.TypeOf", "math.Float32frombits", "math.Float64frombits", "math.Float64bits", "math.Float32bits"], unfollowed := true, recurses := true, named := ["loop.example/pub-g03086/pub/msgp.ErrRecursion", "loop.example/pub-g03086/pub/msgp.ErrShortBytes", "encoding/binary.BigEndian", "loop.example/pub-g03086/pub/msgp.fatal"], ifaces := true, apart := false, laid := [("loop.example/pub-g03086/pub/msgp.ErrShortBytes", laid_loop_example_pub_g03086_pub_msgp_ErrShortBytes), ("loop.example/pub-g03086/pub/msgp.ErrRecursion", laid_loop_example_pub_g03086_pub_msgp_ErrRecursion), ("loop.example/pub-g03086/pub/msgp.fatal", laid_loop_example_pub_g03086_pub_msgp_fatal)], narrowed := true }
def FnTreeSkipUptoSaid : Prop := fnTreeSkipUptoRow.holds Tryz.pinned (OpenSpec.upto fnTreeSkipSpec)

end Rows
end Go.Proofs.YtmliokplekeljaaGreatDoor
