/-
  No cell of these rows narrows 'for every input' (looked for: loops, veiled, ifaces, maps, wideKeys, modest, calm, conditions, laid).
  DERIVED. THE GIVEN ROWS OF THIS SEAT. 2 by the template 'for every input the law returns true; each argument reads behind the call as it read before'; 0 by the template 'total and deterministic' (their statements: YtnhccgbkalpcnaaTotals.lean).
  GIVEN WITH THE SEED: the statements are not yours to turn. If you find one false, say at which input.
  Laid BY PROGRAM, IN A SANDBOX (cutbox-rows.mjs): the forced cells as the released guide's own fill.sh prints them over the translation eb848b1f6db83643… (all of the seat's roots in one cut). By AI agents, Wed Nov 11 2026. No macro, syntax, notation, axiom, sorry.
-/
import Derived.Test.YtnhccgbkalpcnaaChecked
import GoSem.Claim
import GoSem.ClaimJoined
import GoSem.ClaimMapViews
import Derived.JoinedTies
import Derived.KernelRfl
namespace Go.Proofs.Ytnhccgbkalpcnaa
/- THE CELL 'sum', in the pinned program and in every row, IS THE sha256 OF THE DUMP (.gsa) THAT YtnhccgbkalpcnaaProg.lean LOADS. Nothing in Lean hashes anything: it is a label: what it is worth is what the hold of that sum in a sandbox is worth. -/
noncomputable def Try.pinned : Pinned := { name := "ytnhccgbkalpcnaa", sum := "eb848b1f6db836435f83726e286f6890bb3e1d521328d81657248468e36afc1f", checked := Try.checked }
namespace Rows
def none {H : Type} : Left H := { results := [], args := [] }

/-- 'laws.FnSmallWalkTemplates': WHATEVER THE INPUT: true; the input reads as it did. -/
def fnSmallWalkTemplatesSpec : ChangeSpec := { name := "fnSmallWalkTemplates", fn := fun _ => fun
  | [d1, d2, d3, d4] => { results := [.lit (.bool true)], args := [d1, d2, d3, d4] }
  | _ => none }
def fnSmallWalkTemplatesRow : OpenClaim := { program := "ytnhccgbkalpcnaa", sum := "eb848b1f6db836435f83726e286f6890bb3e1d521328d81657248468e36afc1f", func := "loop.example/pub-g01448/laws.FnSmallWalkTemplates", spec := "fnSmallWalkTemplates", unfollowed := true, recurses := true, apart := false }
def FnSmallWalkTemplatesSaid : Prop := fnSmallWalkTemplatesRow.holds Try.pinned (OpenSpec.ofChange fnSmallWalkTemplatesSpec)

/-- ITS FALSE NEIGHBOUR: 'it returns false'. Refute it at one input. -/
def fnSmallWalkTemplatesWrong : ChangeSpec := { name := "fnSmallWalkTemplates", fn := fun _ => fun
  | [d1, d2, d3, d4] => { results := [.lit (.bool false)], args := [d1, d2, d3, d4] }
  | _ => none }
def FnSmallWalkTemplatesWrongFalsely : Prop := fnSmallWalkTemplatesRow.holds Try.pinned (OpenSpec.ofChange fnSmallWalkTemplatesWrong)

/-- 'laws.FnSmallCopyScopes': WHATEVER THE INPUT: true; the input reads as it did. -/
def fnSmallCopyScopesSpec : ChangeSpec := { name := "fnSmallCopyScopes", fn := fun _ => fun
  | [d1, d2, d3, d4] => { results := [.lit (.bool true)], args := [d1, d2, d3, d4] }
  | _ => none }
def fnSmallCopyScopesRow : OpenClaim := { program := "ytnhccgbkalpcnaa", sum := "eb848b1f6db836435f83726e286f6890bb3e1d521328d81657248468e36afc1f", func := "loop.example/pub-g01448/laws.FnSmallCopyScopes", spec := "fnSmallCopyScopes", unfollowed := true, recurses := true, apart := false }
def FnSmallCopyScopesSaid : Prop := fnSmallCopyScopesRow.holds Try.pinned (OpenSpec.ofChange fnSmallCopyScopesSpec)

/-- ITS FALSE NEIGHBOUR: 'it returns false'. Refute it at one input. -/
def fnSmallCopyScopesWrong : ChangeSpec := { name := "fnSmallCopyScopes", fn := fun _ => fun
  | [d1, d2, d3, d4] => { results := [.lit (.bool false)], args := [d1, d2, d3, d4] }
  | _ => none }
def FnSmallCopyScopesWrongFalsely : Prop := fnSmallCopyScopesRow.holds Try.pinned (OpenSpec.ofChange fnSmallCopyScopesWrong)

/- THE SECOND FORM. 'bulk': how many values and letters a reading holds, each counted each time it is reached (what is shared counts as often as it is met; a slice's spare places count too). A statement '..UptoSaid' is the law's where the arguments, and the package variables that the reading takes, are together of bulk at most 1048576: NARROWER than '..Said'. Prove '..Said' where nothing that the law and all that it calls make is longer than what came in: it says more and counts as full. Else prove '..UptoSaid'. A law counts once. -/
mutual
def uptoBulk {H : Type} : DataW H → Nat
  | .lit (.string bytes) => bytes.length + 1
  | .lit _ => 1
  | .nil => 1
  | .ptr d => uptoBulk d + 1
  | .slice elems spare => uptoBulkAll elems + uptoBulkAll spare + 1
  | .agg parts => uptoBulkAll parts + 1
  | .iface _ d => uptoBulk d + 1
  | .map entries => uptoBulkEntries entries + 1
  | .held _ => 1
def uptoBulkAll {H : Type} : List (DataW H) → Nat
  | [] => 0
  | d :: r => uptoBulk d + uptoBulkAll r
def uptoBulkEntries {H : Type} : List (Lit × DataW H) → Nat
  | [] => 0
  | x :: r => uptoBulkEntry x + uptoBulkEntries r
def uptoBulkEntry {H : Type} : Lit × DataW H → Nat
  | (.string bytes, d) => bytes.length + uptoBulk d + 1
  | (_, d) => uptoBulk d + 1
 end
def uptoSmall : (H : Type) → List (DataW H) → Bool := fun _ ds => decide (uptoBulkAll ds ≤ 1048576)
def OpenSpec.upto (s : _root_.Go.ChangeSpec) : _root_.Go.OpenSpec := { _root_.Go.OpenSpec.ofChange s with cond := some uptoSmall }

/-- 'laws.FnSmallWalkTemplates', WHERE WHAT IT READS IS OF BULK AT MOST 1048576: true; the input reads as it did. -/
def fnSmallWalkTemplatesUptoRow : OpenClaim := { program := "ytnhccgbkalpcnaa", sum := "eb848b1f6db836435f83726e286f6890bb3e1d521328d81657248468e36afc1f", func := "loop.example/pub-g01448/laws.FnSmallWalkTemplates", spec := "fnSmallWalkTemplates", unfollowed := true, recurses := true, apart := false, narrowed := true }
def FnSmallWalkTemplatesUptoSaid : Prop := fnSmallWalkTemplatesUptoRow.holds Try.pinned (OpenSpec.upto fnSmallWalkTemplatesSpec)

/-- 'laws.FnSmallCopyScopes', WHERE WHAT IT READS IS OF BULK AT MOST 1048576: true; the input reads as it did. -/
def fnSmallCopyScopesUptoRow : OpenClaim := { program := "ytnhccgbkalpcnaa", sum := "eb848b1f6db836435f83726e286f6890bb3e1d521328d81657248468e36afc1f", func := "loop.example/pub-g01448/laws.FnSmallCopyScopes", spec := "fnSmallCopyScopes", unfollowed := true, recurses := true, apart := false, narrowed := true }
def FnSmallCopyScopesUptoSaid : Prop := fnSmallCopyScopesUptoRow.holds Try.pinned (OpenSpec.upto fnSmallCopyScopesSpec)

end Rows
end Go.Proofs.Ytnhccgbkalpcnaa
