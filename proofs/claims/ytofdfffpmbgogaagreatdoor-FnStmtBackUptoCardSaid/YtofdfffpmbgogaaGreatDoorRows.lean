/-
  NARROWER THAN 'FOR EVERY INPUT', by the rows' own cells (each row's printed sentence says how): FnStmtBack: loops, laid · FnBindToExpr: loops, laid.
  DERIVED. THE GIVEN ROWS OF THIS SEAT. 2 by the template 'for every input the law returns true; each argument reads behind the call as it read before'; 0 by the template 'total and deterministic' (their statements: YtofdfffpmbgogaaGreatDoorTotals.lean).
  GIVEN WITH THE SEED: the statements are not yours to turn. If you find one false, say at which input.
  Laid BY PROGRAM, IN A SANDBOX (cutbox-rows.mjs): the forced cells as the released guide's own fill.sh prints them over the translation a4af391a9046352e… (all of the seat's roots in one cut). By AI agents, Wed Nov 11 2026. No macro, syntax, notation, axiom, sorry.
-/
import Derived.Test.YtofdfffpmbgogaaGreatDoorChecked
import GoSem.Claim
import GoSem.ClaimJoined
import GoSem.ClaimMapViews
import Derived.JoinedTies
import Derived.KernelRfl
namespace Go.Proofs.YtofdfffpmbgogaaGreatDoor
/- THE CELL 'sum', in the pinned program and in every row, IS THE sha256 OF THE DUMP (.gsa) THAT YtofdfffpmbgogaaGreatDoorProg.lean LOADS. Nothing in Lean hashes anything: it is a label: what it is worth is what the hold of that sum in a sandbox is worth. -/
noncomputable def Tryz.pinned : Pinned := { name := "ytofdfffpmbgogaagreatdoor", sum := "a4af391a9046352ea14df03d413accdbb8a5024cabb5d4b811b225e9bf380dbf", checked := Tryz.checked }
namespace Rows
def none {H : Type} : Left H := { results := [], args := [] }

/- WHAT THE LISTED PACKAGE-LEVEL VARIABLES READ AS WHEN THE CALL BEGINS. Each datum BY PROGRAM (the guide's laid-datum.mjs) off the statement by which the dump's own 'gosem.cut.vars' lays the variable. In a bare row this is a premise. The card (YtofdfffpmbgogaaGreatDoorCards.lean) ties it to the program's text. -/
def laid_given_example_pub_frisket_pub_esbuild_inner_ast_InvalidRef {H : Type} : DataW H := .agg [.lit (.int .u32 4294967295), .lit (.int .u32 4294967295)]

/-- 'laws.FnStmtBack': WHATEVER THE INPUT: true; the input reads as it did. -/
def fnStmtBackSpec : ChangeSpec := { name := "fnStmtBack", vars := ["given.example/pub-frisket/pub/esbuild/inner/ast.InvalidRef"], fn := fun _ => fun
  | [d, g1] => { results := [.lit (.bool true)], args := [d], vars := [g1] }
  | _ => none }
def fnStmtBackRow : OpenClaim := { program := "ytofdfffpmbgogaagreatdoor", sum := "a4af391a9046352ea14df03d413accdbb8a5024cabb5d4b811b225e9bf380dbf", func := "given.example/pub-frisket/laws.FnStmtBack", spec := "fnStmtBack", inPlace := ["math.Float64bits", "math.Float64frombits"], recurses := true, named := ["given.example/pub-frisket/pub/esbuild/inner/ast.InvalidRef"], loops := true, apart := false, laid := [("given.example/pub-frisket/pub/esbuild/inner/ast.InvalidRef", laid_given_example_pub_frisket_pub_esbuild_inner_ast_InvalidRef)] }
def FnStmtBackSaid : Prop := fnStmtBackRow.holds Tryz.pinned (OpenSpec.ofChange fnStmtBackSpec)

/-- ITS FALSE NEIGHBOUR: 'it returns false'. Refute it at one input. -/
def fnStmtBackWrong : ChangeSpec := { name := "fnStmtBack", vars := ["given.example/pub-frisket/pub/esbuild/inner/ast.InvalidRef"], fn := fun _ => fun
  | [d, g1] => { results := [.lit (.bool false)], args := [d], vars := [g1] }
  | _ => none }
def FnStmtBackWrongFalsely : Prop := fnStmtBackRow.holds Tryz.pinned (OpenSpec.ofChange fnStmtBackWrong)

/-- 'laws.FnBindToExpr': WHATEVER THE INPUT: true; the input reads as it did. -/
def fnBindToExprSpec : ChangeSpec := { name := "fnBindToExpr", vars := ["given.example/pub-frisket/pub/esbuild/inner/ast.InvalidRef"], fn := fun _ => fun
  | [d, g1] => { results := [.lit (.bool true)], args := [d], vars := [g1] }
  | _ => none }
def fnBindToExprRow : OpenClaim := { program := "ytofdfffpmbgogaagreatdoor", sum := "a4af391a9046352ea14df03d413accdbb8a5024cabb5d4b811b225e9bf380dbf", func := "given.example/pub-frisket/laws.FnBindToExpr", spec := "fnBindToExpr", inPlace := ["math.Float64bits", "math.Float64frombits"], unfollowed := true, recurses := true, named := ["given.example/pub-frisket/pub/esbuild/inner/ast.InvalidRef"], loops := true, apart := false, laid := [("given.example/pub-frisket/pub/esbuild/inner/ast.InvalidRef", laid_given_example_pub_frisket_pub_esbuild_inner_ast_InvalidRef)] }
def FnBindToExprSaid : Prop := fnBindToExprRow.holds Tryz.pinned (OpenSpec.ofChange fnBindToExprSpec)

/-- ITS FALSE NEIGHBOUR: 'it returns false'. Refute it at one input. -/
def fnBindToExprWrong : ChangeSpec := { name := "fnBindToExpr", vars := ["given.example/pub-frisket/pub/esbuild/inner/ast.InvalidRef"], fn := fun _ => fun
  | [d, g1] => { results := [.lit (.bool false)], args := [d], vars := [g1] }
  | _ => none }
def FnBindToExprWrongFalsely : Prop := fnBindToExprRow.holds Tryz.pinned (OpenSpec.ofChange fnBindToExprWrong)

/- THE SECOND FORM. 'bulk': how many values and letters a reading holds, each counted each time it is reached (what is shared counts as often as it is met; a slice's spare places count too). A statement '..UptoSaid' is the law's where the arguments, and the package variables that the reading takes, are together of bulk at most 1048576: NARROWER than '..Said'. Prove '..Said' where nothing that the law and all that it calls make is longer than what came in: it says more and counts as full. Else prove '..UptoSaid'. A law counts once. -/
mutual
def uptoBulk {H : Type} : DataW H → Nat
  | .lit (.string bytes) => bytes.length + 1
  | .lit _ => 1
  | .nil => 1
  | .ptr d => uptoBulk d + 1
  | .slice elems spare => uptoBulkAll elems + uptoBulkAll spare + 1
  | .agg parts => uptoBulkAll parts + 1
  | .iface _ d => uptoBulk d + 1
  | .map entries => uptoBulkEntries entries + 1
  | .held _ => 1
def uptoBulkAll {H : Type} : List (DataW H) → Nat
  | [] => 0
  | d :: r => uptoBulk d + uptoBulkAll r
def uptoBulkEntries {H : Type} : List (Lit × DataW H) → Nat
  | [] => 0
  | x :: r => uptoBulkEntry x + uptoBulkEntries r
def uptoBulkEntry {H : Type} : Lit × DataW H → Nat
  | (.string bytes, d) => bytes.length + uptoBulk d + 1
  | (_, d) => uptoBulk d + 1
 end
def uptoSmall : (H : Type) → List (DataW H) → Bool := fun _ ds => decide (uptoBulkAll ds ≤ 1048576)
def OpenSpec.upto (s : _root_.Go.ChangeSpec) : _root_.Go.OpenSpec := { _root_.Go.OpenSpec.ofChange s with cond := some uptoSmall }

/-- 'laws.FnStmtBack', WHERE WHAT IT READS IS OF BULK AT MOST 1048576: true; the input reads as it did. -/
def fnStmtBackUptoRow : OpenClaim := { program := "ytofdfffpmbgogaagreatdoor", sum := "a4af391a9046352ea14df03d413accdbb8a5024cabb5d4b811b225e9bf380dbf", func := "given.example/pub-frisket/laws.FnStmtBack", spec := "fnStmtBack", inPlace := ["math.Float64bits", "math.Float64frombits"], recurses := true, named := ["given.example/pub-frisket/pub/esbuild/inner/ast.InvalidRef"], loops := true, apart := false, laid := [("given.example/pub-frisket/pub/esbuild/inner/ast.InvalidRef", laid_given_example_pub_frisket_pub_esbuild_inner_ast_InvalidRef)], narrowed := true }
def FnStmtBackUptoSaid : Prop := fnStmtBackUptoRow.holds Tryz.pinned (OpenSpec.upto fnStmtBackSpec)

/-- 'laws.FnBindToExpr', WHERE WHAT IT READS IS OF BULK AT MOST 1048576: true; the input reads as it did. -/
def fnBindToExprUptoRow : OpenClaim := { program := "ytofdfffpmbgogaagreatdoor", sum := "a4af391a9046352ea14df03d413accdbb8a5024cabb5d4b811b225e9bf380dbf", func := "given.example/pub-frisket/laws.FnBindToExpr", spec := "fnBindToExpr", inPlace := ["math.Float64bits", "math.Float64frombits"], unfollowed := true, recurses := true, named := ["given.example/pub-frisket/pub/esbuild/inner/ast.InvalidRef"], loops := true, apart := false, laid := [("given.example/pub-frisket/pub/esbuild/inner/ast.InvalidRef", laid_given_example_pub_frisket_pub_esbuild_inner_ast_InvalidRef)], narrowed := true }
def FnBindToExprUptoSaid : Prop := fnBindToExprUptoRow.holds Tryz.pinned (OpenSpec.upto fnBindToExprSpec)

end Rows
end Go.Proofs.YtofdfffpmbgogaaGreatDoor
