/-
  NARROWER THAN 'FOR EVERY INPUT', by the rows' own cells (each row's printed sentence says how): FnMemFile: laid · FnInner: laid.
  DERIVED. THE GIVEN ROWS OF THIS SEAT. 2 by the template 'for every input the law returns true; each argument reads behind the call as it read before'; 0 by the template 'total and deterministic' (their statements: YtkkliejgmgmebaaDoorTotals.lean).
  GIVEN WITH THE SEED: the statements are not yours to turn. If you find one false, say at which input.
  Laid BY PROGRAM, IN A SANDBOX (cutbox-rows.mjs): the forced cells as the released guide's own fill.sh prints them over the translation b71d83d2a83bb94d… (all of the seat's roots in one cut). By AI agents, Wed Nov 11 2026. No macro, syntax, notation, axiom, sorry.
-/
import Derived.Test.YtkkliejgmgmebaaDoorChecked
import GoSem.Claim
import GoSem.ClaimJoined
import GoSem.ClaimMapViews
import Derived.JoinedTies
import Derived.KernelRfl
namespace Go.Proofs.YtkkliejgmgmebaaDoor
/- THE CELL 'sum', in the pinned program and in every row, IS THE sha256 OF THE DUMP (.gsa) THAT YtkkliejgmgmebaaDoorProg.lean LOADS. Nothing in Lean hashes anything: it is a label: what it is worth is what the hold of that sum in a sandbox is worth. -/
noncomputable def Tryd.pinned : Pinned := { name := "ytkkliejgmgmebaadoor", sum := "b71d83d2a83bb94d1e4934193ec3f49ff7d2e97a1a1516c1725eb9bac7bad2b4", checked := Tryd.checked }
namespace Rows
def none {H : Type} : Left H := { results := [], args := [] }

/- WHAT THE LISTED PACKAGE-LEVEL VARIABLES READ AS WHEN THE CALL BEGINS. Each datum BY PROGRAM (the guide's laid-datum.mjs) off the statement by which the dump's own 'gosem.cut.vars' lays the variable. In a bare row this is a premise. The card (YtkkliejgmgmebaaDoorCards.lean) ties it to the program's text. -/
def laid_io_EOF {H : Type} : DataW H := .iface "*errors.errorString" (.ptr (.agg [.lit (.string [69, 79, 70])]))
def laid_lldbengine_pub_lldb_errZZ {H : Type} : DataW H := .iface "*errors.errorString" (.ptr (.agg [.lit (.string [110, 111, 32, 119, 114, 105, 116, 101, 32, 97, 110, 121, 32, 109, 111, 114, 101])]))

/-- 'laws.FnMemFile': WHATEVER THE INPUT: true; the input reads as it did. -/
def fnMemFileSpec : ChangeSpec := { name := "fnMemFile", fn := fun _ => fun
  | [d1, d2] => { results := [.lit (.bool true)], args := [d1, d2] }
  | _ => none }
def fnMemFileRow : OpenClaim := { program := "ytkkliejgmgmebaadoor", sum := "b71d83d2a83bb94d1e4934193ec3f49ff7d2e97a1a1516c1725eb9bac7bad2b4", func := "lldbengine/laws.FnMemFile", spec := "fnMemFile", unfollowed := true, recurses := true, named := ["io.EOF", "lldbengine/pub/lldb.errZZ"], apart := false, laid := [("io.EOF", laid_io_EOF), ("lldbengine/pub/lldb.errZZ", laid_lldbengine_pub_lldb_errZZ)] }
def FnMemFileSaid : Prop := fnMemFileRow.holds Tryd.pinned (OpenSpec.ofChange fnMemFileSpec)

/-- ITS FALSE NEIGHBOUR: 'it returns false'. Refute it at one input. -/
def fnMemFileWrong : ChangeSpec := { name := "fnMemFile", fn := fun _ => fun
  | [d1, d2] => { results := [.lit (.bool false)], args := [d1, d2] }
  | _ => none }
def FnMemFileWrongFalsely : Prop := fnMemFileRow.holds Tryd.pinned (OpenSpec.ofChange fnMemFileWrong)

/-- 'laws.FnInner': WHATEVER THE INPUT: true; the input reads as it did. -/
def fnInnerSpec : ChangeSpec := { name := "fnInner", fn := fun _ => fun
  | [d1, d2, d3] => { results := [.lit (.bool true)], args := [d1, d2, d3] }
  | _ => none }
def fnInnerRow : OpenClaim := { program := "ytkkliejgmgmebaadoor", sum := "b71d83d2a83bb94d1e4934193ec3f49ff7d2e97a1a1516c1725eb9bac7bad2b4", func := "lldbengine/laws.FnInner", spec := "fnInner", unfollowed := true, recurses := true, named := ["io.EOF", "lldbengine/pub/lldb.errZZ"], apart := false, laid := [("io.EOF", laid_io_EOF), ("lldbengine/pub/lldb.errZZ", laid_lldbengine_pub_lldb_errZZ)] }
def FnInnerSaid : Prop := fnInnerRow.holds Tryd.pinned (OpenSpec.ofChange fnInnerSpec)

/-- ITS FALSE NEIGHBOUR: 'it returns false'. Refute it at one input. -/
def fnInnerWrong : ChangeSpec := { name := "fnInner", fn := fun _ => fun
  | [d1, d2, d3] => { results := [.lit (.bool false)], args := [d1, d2, d3] }
  | _ => none }
def FnInnerWrongFalsely : Prop := fnInnerRow.holds Tryd.pinned (OpenSpec.ofChange fnInnerWrong)

/- THE SECOND FORM. 'bulk': how many values and letters a reading holds, each counted each time it is reached (what is shared counts as often as it is met; a slice's spare places count too). A statement '..UptoSaid' is the law's where the arguments, and the package variables that the reading takes, are together of bulk at most 1048576: NARROWER than '..Said'. Prove '..Said' where nothing that the law and all that it calls make is longer than what came in: it says more and counts as full. Else prove '..UptoSaid'. A law counts once. -/
mutual
def uptoBulk {H : Type} : DataW H → Nat
  | .lit (.string bytes) => bytes.length + 1
  | .lit _ => 1
  | .nil => 1
  | .ptr d => uptoBulk d + 1
  | .slice elems spare => uptoBulkAll elems + uptoBulkAll spare + 1
  | .agg parts => uptoBulkAll parts + 1
  | .iface _ d => uptoBulk d + 1
  | .map entries => uptoBulkEntries entries + 1
  | .held _ => 1
def uptoBulkAll {H : Type} : List (DataW H) → Nat
  | [] => 0
  | d :: r => uptoBulk d + uptoBulkAll r
def uptoBulkEntries {H : Type} : List (Lit × DataW H) → Nat
  | [] => 0
  | x :: r => uptoBulkEntry x + uptoBulkEntries r
def uptoBulkEntry {H : Type} : Lit × DataW H → Nat
  | (.string bytes, d) => bytes.length + uptoBulk d + 1
  | (_, d) => uptoBulk d + 1
 end
def uptoSmall : (H : Type) → List (DataW H) → Bool := fun _ ds => decide (uptoBulkAll ds ≤ 1048576)
def OpenSpec.upto (s : _root_.Go.ChangeSpec) : _root_.Go.OpenSpec := { _root_.Go.OpenSpec.ofChange s with cond := some uptoSmall }

/-- 'laws.FnMemFile', WHERE WHAT IT READS IS OF BULK AT MOST 1048576: true; the input reads as it did. -/
def fnMemFileUptoRow : OpenClaim := { program := "ytkkliejgmgmebaadoor", sum := "b71d83d2a83bb94d1e4934193ec3f49ff7d2e97a1a1516c1725eb9bac7bad2b4", func := "lldbengine/laws.FnMemFile", spec := "fnMemFile", unfollowed := true, recurses := true, named := ["io.EOF", "lldbengine/pub/lldb.errZZ"], apart := false, laid := [("io.EOF", laid_io_EOF), ("lldbengine/pub/lldb.errZZ", laid_lldbengine_pub_lldb_errZZ)], narrowed := true }
def FnMemFileUptoSaid : Prop := fnMemFileUptoRow.holds Tryd.pinned (OpenSpec.upto fnMemFileSpec)

/-- 'laws.FnInner', WHERE WHAT IT READS IS OF BULK AT MOST 1048576: true; the input reads as it did. -/
def fnInnerUptoRow : OpenClaim := { program := "ytkkliejgmgmebaadoor", sum := "b71d83d2a83bb94d1e4934193ec3f49ff7d2e97a1a1516c1725eb9bac7bad2b4", func := "lldbengine/laws.FnInner", spec := "fnInner", unfollowed := true, recurses := true, named := ["io.EOF", "lldbengine/pub/lldb.errZZ"], apart := false, laid := [("io.EOF", laid_io_EOF), ("lldbengine/pub/lldb.errZZ", laid_lldbengine_pub_lldb_errZZ)], narrowed := true }
def FnInnerUptoSaid : Prop := fnInnerUptoRow.holds Tryd.pinned (OpenSpec.upto fnInnerSpec)

end Rows
end Go.Proofs.YtkkliejgmgmebaaDoor
