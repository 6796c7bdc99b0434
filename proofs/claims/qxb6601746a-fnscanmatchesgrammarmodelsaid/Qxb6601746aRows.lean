/-
  No cell of these rows narrows 'for every input' (looked for: loops, veiled, ifaces, maps, wideKeys, modest, calm, conditions, laid).
  DERIVED. THE GIVEN ROWS OF THIS SEAT. 2 by the template 'for every input the law returns true; each argument reads behind the call as it read before'; 0 by the template 'total and deterministic' (their statements: Qxb6601746aTotals.lean).
  GIVEN WITH THE SEED: the statements are not yours to turn. If you find one false, say at which input.
  Laid BY PROGRAM, IN A SANDBOX (cutbox-rows.mjs): the forced cells as the released guide's own fill.sh prints them over the translation 7c19b992f0777cb8… (all of the seat's roots in one cut). By AI agents, Wed Nov 11 2026. No macro, syntax, notation, axiom, sorry.
-/
import Derived.Test.Qxb6601746aChecked
import GoSem.Claim
import GoSem.ClaimJoined
import GoSem.ClaimMapViews
import Derived.JoinedTies
import Derived.KernelRfl
namespace Go.Proofs.Qxb6601746a
/- THE CELL 'sum', in the pinned program and in every row, IS THE sha256 OF THE DUMP (.gsa) THAT Qxb6601746aProg.lean LOADS. Nothing in Lean hashes anything: it is a label: what it is worth is what the hold of that sum in a sandbox is worth. -/
noncomputable def Try.pinned : Pinned := { name := "qxb6601746a", sum := "7c19b992f0777cb857e6de50122dd1dc124f242e883aac7388f29d5019c36fd0", checked := Try.checked }
namespace Rows
def none {H : Type} : Left H := { results := [], args := [] }

/-- 'zzlaws_pkg_figure_b1.FnScanMatchesGrammarModel': WHATEVER THE INPUT: true; the input reads as it did. -/
def fnScanMatchesGrammarModelSpec : ChangeSpec := { name := "fnScanMatchesGrammarModel", fn := fun _ => fun
  | [d] => { results := [.lit (.bool true)], args := [d] }
  | _ => none }
def fnScanMatchesGrammarModelRow : OpenClaim := { program := "qxb6601746a", sum := "7c19b992f0777cb857e6de50122dd1dc124f242e883aac7388f29d5019c36fd0", func := "example.com/tuoguan/tuoguan/zzlaws_pkg_figure_b1.FnScanMatchesGrammarModel", spec := "fnScanMatchesGrammarModel", apart := false }
def FnScanMatchesGrammarModelSaid : Prop := fnScanMatchesGrammarModelRow.holds Try.pinned (OpenSpec.ofChange fnScanMatchesGrammarModelSpec)

/-- ITS FALSE NEIGHBOUR: 'it returns false'. Refute it at one input. -/
def fnScanMatchesGrammarModelWrong : ChangeSpec := { name := "fnScanMatchesGrammarModel", fn := fun _ => fun
  | [d] => { results := [.lit (.bool false)], args := [d] }
  | _ => none }
def FnScanMatchesGrammarModelWrongFalsely : Prop := fnScanMatchesGrammarModelRow.holds Try.pinned (OpenSpec.ofChange fnScanMatchesGrammarModelWrong)

/-- 'zzlaws_pkg_figure_b1.FnScanSignMirrors': WHATEVER THE INPUT: true; the input reads as it did. -/
def fnScanSignMirrorsSpec : ChangeSpec := { name := "fnScanSignMirrors", fn := fun _ => fun
  | [d] => { results := [.lit (.bool true)], args := [d] }
  | _ => none }
def fnScanSignMirrorsRow : OpenClaim := { program := "qxb6601746a", sum := "7c19b992f0777cb857e6de50122dd1dc124f242e883aac7388f29d5019c36fd0", func := "example.com/tuoguan/tuoguan/zzlaws_pkg_figure_b1.FnScanSignMirrors", spec := "fnScanSignMirrors", apart := false }
def FnScanSignMirrorsSaid : Prop := fnScanSignMirrorsRow.holds Try.pinned (OpenSpec.ofChange fnScanSignMirrorsSpec)

/-- ITS FALSE NEIGHBOUR: 'it returns false'. Refute it at one input. -/
def fnScanSignMirrorsWrong : ChangeSpec := { name := "fnScanSignMirrors", fn := fun _ => fun
  | [d] => { results := [.lit (.bool false)], args := [d] }
  | _ => none }
def FnScanSignMirrorsWrongFalsely : Prop := fnScanSignMirrorsRow.holds Try.pinned (OpenSpec.ofChange fnScanSignMirrorsWrong)

end Rows
end Go.Proofs.Qxb6601746a
