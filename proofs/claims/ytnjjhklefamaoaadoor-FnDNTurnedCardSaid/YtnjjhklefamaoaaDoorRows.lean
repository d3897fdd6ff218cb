/-
  NARROWER THAN 'FOR EVERY INPUT', by the rows' own cells (each row's printed sentence says how): FnDNParse: laid · FnDNAncestor: laid · FnDNTurned: laid.
  DERIVED. THE GIVEN ROWS OF THIS SEAT. 3 by the template 'for every input the law returns true; each argument reads behind the call as it read before'; 0 by the template 'total and deterministic' (their statements: YtnjjhklefamaoaaDoorTotals.lean).
  GIVEN WITH THE SEED: the statements are not yours to turn. If you find one false, say at which input.
  Laid BY PROGRAM, IN A SANDBOX (cutbox-rows.mjs): the forced cells as the released guide's own fill.sh prints them over the translation aae192ea322b8fa7… (all of the seat's roots in one cut). By AI agents, Wed Nov 11 2026. No macro, syntax, notation, axiom, sorry.
-/
import Derived.Test.YtnjjhklefamaoaaDoorChecked
import GoSem.Claim
import GoSem.ClaimJoined
import GoSem.ClaimMapViews
import Derived.JoinedTies
import Derived.KernelRfl
namespace Go.Proofs.YtnjjhklefamaoaaDoor
/- THE CELL 'sum', in the pinned program and in every row, IS THE sha256 OF THE DUMP (.gsa) THAT YtnjjhklefamaoaaDoorProg.lean LOADS. Nothing in Lean hashes anything: it is a label: what it is worth is what the hold of that sum in a sandbox is worth. -/
noncomputable def Tryd.pinned : Pinned := { name := "ytnjjhklefamaoaadoor", sum := "aae192ea322b8fa773fef78336a22b84678af0b869014a851be358e52a1f87f4", checked := Tryd.checked }
namespace Rows
def none {H : Type} : Left H := { results := [], args := [] }

/- WHAT THE LISTED PACKAGE-LEVEL VARIABLES READ AS WHEN THE CALL BEGINS. Each datum BY PROGRAM (the guide's laid-datum.mjs) off the statement by which the dump's own 'gosem.cut.vars' lays the variable. In a bare row this is a premise. The card (YtnjjhklefamaoaaDoorCards.lean) ties it to the program's text. -/
def laid_bytes_ErrTooLarge {H : Type} : DataW H := .iface "*errors.errorString" (.ptr (.agg [.lit (.string [98, 121, 116, 101, 115, 46, 66, 117, 102, 102, 101, 114, 58, 32, 116, 111, 111, 32, 108, 97, 114, 103, 101])]))

/-- 'laws.FnDNParse': WHATEVER THE INPUT: true; the input reads as it did. -/
def fnDNParseSpec : ChangeSpec := { name := "fnDNParse", fn := fun _ => fun
  | [d] => { results := [.lit (.bool true)], args := [d] }
  | _ => none }
def fnDNParseRow : OpenClaim := { program := "ytnjjhklefamaoaadoor", sum := "aae192ea322b8fa773fef78336a22b84678af0b869014a851be358e52a1f87f4", func := "pub-streamkeep/laws.FnDNParse", spec := "fnDNParse", unfollowed := true, recurses := true, named := ["bytes.ErrTooLarge"], apart := false, laid := [("bytes.ErrTooLarge", laid_bytes_ErrTooLarge)] }
def FnDNParseSaid : Prop := fnDNParseRow.holds Tryd.pinned (OpenSpec.ofChange fnDNParseSpec)

/-- ITS FALSE NEIGHBOUR: 'it returns false'. Refute it at one input. -/
def fnDNParseWrong : ChangeSpec := { name := "fnDNParse", fn := fun _ => fun
  | [d] => { results := [.lit (.bool false)], args := [d] }
  | _ => none }
def FnDNParseWrongFalsely : Prop := fnDNParseRow.holds Tryd.pinned (OpenSpec.ofChange fnDNParseWrong)

/-- 'laws.FnDNAncestor': WHATEVER THE INPUT: true; the input reads as it did. -/
def fnDNAncestorSpec : ChangeSpec := { name := "fnDNAncestor", fn := fun _ => fun
  | [d1, d2, d3] => { results := [.lit (.bool true)], args := [d1, d2, d3] }
  | _ => none }
def fnDNAncestorRow : OpenClaim := { program := "ytnjjhklefamaoaadoor", sum := "aae192ea322b8fa773fef78336a22b84678af0b869014a851be358e52a1f87f4", func := "pub-streamkeep/laws.FnDNAncestor", spec := "fnDNAncestor", unfollowed := true, recurses := true, named := ["bytes.ErrTooLarge"], apart := false, laid := [("bytes.ErrTooLarge", laid_bytes_ErrTooLarge)] }
def FnDNAncestorSaid : Prop := fnDNAncestorRow.holds Tryd.pinned (OpenSpec.ofChange fnDNAncestorSpec)

/-- ITS FALSE NEIGHBOUR: 'it returns false'. Refute it at one input. -/
def fnDNAncestorWrong : ChangeSpec := { name := "fnDNAncestor", fn := fun _ => fun
  | [d1, d2, d3] => { results := [.lit (.bool false)], args := [d1, d2, d3] }
  | _ => none }
def FnDNAncestorWrongFalsely : Prop := fnDNAncestorRow.holds Tryd.pinned (OpenSpec.ofChange fnDNAncestorWrong)

/-- 'laws.FnDNTurned': WHATEVER THE INPUT: true; the input reads as it did. -/
def fnDNTurnedSpec : ChangeSpec := { name := "fnDNTurned", fn := fun _ => fun
  | [d1, d2] => { results := [.lit (.bool true)], args := [d1, d2] }
  | _ => none }
def fnDNTurnedRow : OpenClaim := { program := "ytnjjhklefamaoaadoor", sum := "aae192ea322b8fa773fef78336a22b84678af0b869014a851be358e52a1f87f4", func := "pub-streamkeep/laws.FnDNTurned", spec := "fnDNTurned", unfollowed := true, recurses := true, named := ["bytes.ErrTooLarge"], apart := false, laid := [("bytes.ErrTooLarge", laid_bytes_ErrTooLarge)] }
def FnDNTurnedSaid : Prop := fnDNTurnedRow.holds Tryd.pinned (OpenSpec.ofChange fnDNTurnedSpec)

/-- ITS FALSE NEIGHBOUR: 'it returns false'. Refute it at one input. -/
def fnDNTurnedWrong : ChangeSpec := { name := "fnDNTurned", fn := fun _ => fun
  | [d1, d2] => { results := [.lit (.bool false)], args := [d1, d2] }
  | _ => none }
def FnDNTurnedWrongFalsely : Prop := fnDNTurnedRow.holds Tryd.pinned (OpenSpec.ofChange fnDNTurnedWrong)

/- THE SECOND FORM. 'bulk': how many values and letters a reading holds, each counted each time it is reached (what is shared counts as often as it is met; a slice's spare places count too). A statement '..UptoSaid' is the law's where the arguments, and the package variables that the reading takes, are together of bulk at most 1048576: NARROWER than '..Said'. Prove '..Said' where nothing that the law and all that it calls make is longer than what came in: it says more and counts as full. Else prove '..UptoSaid'. A law counts once. -/
mutual
def uptoBulk {H : Type} : DataW H → Nat
  | .lit (.string bytes) => bytes.length + 1
  | .lit _ => 1
  | .nil => 1
  | .ptr d => uptoBulk d + 1
  | .slice elems spare => uptoBulkAll elems + uptoBulkAll spare + 1
  | .agg parts => uptoBulkAll parts + 1
  | .iface _ d => uptoBulk d + 1
  | .map entries => uptoBulkEntries entries + 1
  | .held _ => 1
def uptoBulkAll {H : Type} : List (DataW H) → Nat
  | [] => 0
  | d :: r => uptoBulk d + uptoBulkAll r
def uptoBulkEntries {H : Type} : List (Lit × DataW H) → Nat
  | [] => 0
  | x :: r => uptoBulkEntry x + uptoBulkEntries r
def uptoBulkEntry {H : Type} : Lit × DataW H → Nat
  | (.string bytes, d) => bytes.length + uptoBulk d + 1
  | (_, d) => uptoBulk d + 1
 end
def uptoSmall : (H : Type) → List (DataW H) → Bool := fun _ ds => decide (uptoBulkAll ds ≤ 1048576)
def OpenSpec.upto (s : _root_.Go.ChangeSpec) : _root_.Go.OpenSpec := { _root_.Go.OpenSpec.ofChange s with cond := some uptoSmall }

/-- 'laws.FnDNParse', WHERE WHAT IT READS IS OF BULK AT MOST 1048576: true; the input reads as it did. -/
def fnDNParseUptoRow : OpenClaim := { program := "ytnjjhklefamaoaadoor", sum := "aae192ea322b8fa773fef78336a22b84678af0b869014a851be358e52a1f87f4", func := "pub-streamkeep/laws.FnDNParse", spec := "fnDNParse", unfollowed := true, recurses := true, named := ["bytes.ErrTooLarge"], apart := false, laid := [("bytes.ErrTooLarge", laid_bytes_ErrTooLarge)], narrowed := true }
def FnDNParseUptoSaid : Prop := fnDNParseUptoRow.holds Tryd.pinned (OpenSpec.upto fnDNParseSpec)

/-- 'laws.FnDNAncestor', WHERE WHAT IT READS IS OF BULK AT MOST 1048576: true; the input reads as it did. -/
def fnDNAncestorUptoRow : OpenClaim := { program := "ytnjjhklefamaoaadoor", sum := "aae192ea322b8fa773fef78336a22b84678af0b869014a851be358e52a1f87f4", func := "pub-streamkeep/laws.FnDNAncestor", spec := "fnDNAncestor", unfollowed := true, recurses := true, named := ["bytes.ErrTooLarge"], apart := false, laid := [("bytes.ErrTooLarge", laid_bytes_ErrTooLarge)], narrowed := true }
def FnDNAncestorUptoSaid : Prop := fnDNAncestorUptoRow.holds Tryd.pinned (OpenSpec.upto fnDNAncestorSpec)

/-- 'laws.FnDNTurned', WHERE WHAT IT READS IS OF BULK AT MOST 1048576: true; the input reads as it did. -/
def fnDNTurnedUptoRow : OpenClaim := { program := "ytnjjhklefamaoaadoor", sum := "aae192ea322b8fa773fef78336a22b84678af0b869014a851be358e52a1f87f4", func := "pub-streamkeep/laws.FnDNTurned", spec := "fnDNTurned", unfollowed := true, recurses := true, named := ["bytes.ErrTooLarge"], apart := false, laid := [("bytes.ErrTooLarge", laid_bytes_ErrTooLarge)], narrowed := true }
def FnDNTurnedUptoSaid : Prop := fnDNTurnedUptoRow.holds Tryd.pinned (OpenSpec.upto fnDNTurnedSpec)

end Rows
end Go.Proofs.YtnjjhklefamaoaaDoor
