/-
  No cell of these rows narrows 'for every input' (looked for: loops, veiled, ifaces, maps, wideKeys, modest, calm, conditions, laid).
  DERIVED. THE GIVEN ROWS OF THIS SEAT. 3 by the template 'for every input the law returns true; each argument reads behind the call as it read before'; 0 by the template 'total and deterministic' (their statements: YtcobcgkeojeagaaGreatTotals.lean).
  GIVEN WITH THE SEED: the statements are not yours to turn. If you find one false, say at which input.
  Laid BY PROGRAM, IN A SANDBOX (cutbox-rows.mjs): the forced cells as the released guide's own fill.sh prints them over the translation 003efd774514d195… (all of the seat's roots in one cut). By AI agents, Wed Nov 11 2026. No macro, syntax, notation, axiom, sorry.
-/
import Derived.Test.YtcobcgkeojeagaaGreatChecked
import GoSem.Claim
import GoSem.ClaimJoined
import GoSem.ClaimMapViews
import Derived.JoinedTies
import Derived.KernelRfl
namespace Go.Proofs.YtcobcgkeojeagaaGreat
/- THE CELL 'sum', in the pinned program and in every row, IS THE sha256 OF THE DUMP (.gsa) THAT YtcobcgkeojeagaaGreatProg.lean LOADS. Nothing in Lean hashes anything: it is a label: what it is worth is what the hold of that sum in a sandbox is worth. -/
noncomputable def Tryz.pinned : Pinned := { name := "ytcobcgkeojeagaagreat", sum := "003efd774514d1950b85d5b13ec3bdd18da2d2c382b2c341bc23aa9613f6b90f", checked := Tryz.checked }
namespace Rows
def none {H : Type} : Left H := { results := [], args := [] }

/-- 'laws.FnSmallFunction': WHATEVER THE INPUT: true; the input reads as it did. -/
def fnSmallFunctionSpec : ChangeSpec := { name := "fnSmallFunction", fn := fun _ => fun
  | [d1, d2] => { results := [.lit (.bool true)], args := [d1, d2] }
  | _ => none }
def fnSmallFunctionRow : OpenClaim := { program := "ytcobcgkeojeagaagreat", sum := "003efd774514d1950b85d5b13ec3bdd18da2d2c382b2c341bc23aa9613f6b90f", func := "loop.example/pub-g01448/laws.FnSmallFunction", spec := "fnSmallFunction", unfollowed := true, recurses := true, apart := false }
def FnSmallFunctionSaid : Prop := fnSmallFunctionRow.holds Tryz.pinned (OpenSpec.ofChange fnSmallFunctionSpec)

/-- ITS FALSE NEIGHBOUR: 'it returns false'. Refute it at one input. -/
def fnSmallFunctionWrong : ChangeSpec := { name := "fnSmallFunction", fn := fun _ => fun
  | [d1, d2] => { results := [.lit (.bool false)], args := [d1, d2] }
  | _ => none }
def FnSmallFunctionWrongFalsely : Prop := fnSmallFunctionRow.holds Tryz.pinned (OpenSpec.ofChange fnSmallFunctionWrong)

/-- 'laws.FnSmallFunctionType': WHATEVER THE INPUT: true; the input reads as it did. -/
def fnSmallFunctionTypeSpec : ChangeSpec := { name := "fnSmallFunctionType", fn := fun _ => fun
  | [d1, d2] => { results := [.lit (.bool true)], args := [d1, d2] }
  | _ => none }
def fnSmallFunctionTypeRow : OpenClaim := { program := "ytcobcgkeojeagaagreat", sum := "003efd774514d1950b85d5b13ec3bdd18da2d2c382b2c341bc23aa9613f6b90f", func := "loop.example/pub-g01448/laws.FnSmallFunctionType", spec := "fnSmallFunctionType", unfollowed := true, recurses := true, apart := false }
def FnSmallFunctionTypeSaid : Prop := fnSmallFunctionTypeRow.holds Tryz.pinned (OpenSpec.ofChange fnSmallFunctionTypeSpec)

/-- ITS FALSE NEIGHBOUR: 'it returns false'. Refute it at one input. -/
def fnSmallFunctionTypeWrong : ChangeSpec := { name := "fnSmallFunctionType", fn := fun _ => fun
  | [d1, d2] => { results := [.lit (.bool false)], args := [d1, d2] }
  | _ => none }
def FnSmallFunctionTypeWrongFalsely : Prop := fnSmallFunctionTypeRow.holds Tryz.pinned (OpenSpec.ofChange fnSmallFunctionTypeWrong)

/-- 'laws.FnSmallMember': WHATEVER THE INPUT: true; the input reads as it did. -/
def fnSmallMemberSpec : ChangeSpec := { name := "fnSmallMember", fn := fun _ => fun
  | [d1, d2, d3] => { results := [.lit (.bool true)], args := [d1, d2, d3] }
  | _ => none }
def fnSmallMemberRow : OpenClaim := { program := "ytcobcgkeojeagaagreat", sum := "003efd774514d1950b85d5b13ec3bdd18da2d2c382b2c341bc23aa9613f6b90f", func := "loop.example/pub-g01448/laws.FnSmallMember", spec := "fnSmallMember", unfollowed := true, recurses := true, apart := false }
def FnSmallMemberSaid : Prop := fnSmallMemberRow.holds Tryz.pinned (OpenSpec.ofChange fnSmallMemberSpec)

/-- ITS FALSE NEIGHBOUR: 'it returns false'. Refute it at one input. -/
def fnSmallMemberWrong : ChangeSpec := { name := "fnSmallMember", fn := fun _ => fun
  | [d1, d2, d3] => { results := [.lit (.bool false)], args := [d1, d2, d3] }
  | _ => none }
def FnSmallMemberWrongFalsely : Prop := fnSmallMemberRow.holds Tryz.pinned (OpenSpec.ofChange fnSmallMemberWrong)

/- THE SECOND FORM. 'bulk': how many values and letters a reading holds, each counted each time it is reached (what is shared counts as often as it is met; a slice's spare places count too). A statement '..UptoSaid' is the law's where the arguments, and the package variables that the reading takes, are together of bulk at most 1048576: NARROWER than '..Said'. Prove '..Said' where nothing that the law and all that it calls make is longer than what came in: it says more and counts as full. Else prove '..UptoSaid'. A law counts once. -/
mutual
def uptoBulk {H : Type} : DataW H → Nat
  | .lit (.string bytes) => bytes.length + 1
  | .lit _ => 1
  | .nil => 1
  | .ptr d => uptoBulk d + 1
  | .slice elems spare => uptoBulkAll elems + uptoBulkAll spare + 1
  | .agg parts => uptoBulkAll parts + 1
  | .iface _ d => uptoBulk d + 1
  | .map entries => uptoBulkEntries entries + 1
  | .held _ => 1
def uptoBulkAll {H : Type} : List (DataW H) → Nat
  | [] => 0
  | d :: r => uptoBulk d + uptoBulkAll r
def uptoBulkEntries {H : Type} : List (Lit × DataW H) → Nat
  | [] => 0
  | x :: r => uptoBulkEntry x + uptoBulkEntries r
def uptoBulkEntry {H : Type} : Lit × DataW H → Nat
  | (.string bytes, d) => bytes.length + uptoBulk d + 1
  | (_, d) => uptoBulk d + 1
 end
def uptoSmall : (H : Type) → List (DataW H) → Bool := fun _ ds => decide (uptoBulkAll ds ≤ 1048576)
def OpenSpec.upto (s : _root_.Go.ChangeSpec) : _root_.Go.OpenSpec := { _root_.Go.OpenSpec.ofChange s with cond := some uptoSmall }

/-- 'laws.FnSmallFunction', WHERE WHAT IT READS IS OF BULK AT MOST 1048576: true; the input reads as it did. -/
def fnSmallFunctionUptoRow : OpenClaim := { program := "ytcobcgkeojeagaagreat", sum := "003efd774514d1950b85d5b13ec3bdd18da2d2c382b2c341bc23aa9613f6b90f", func := "loop.example/pub-g01448/laws.FnSmallFunction", spec := "fnSmallFunction", unfollowed := true, recurses := true, apart := false, narrowed := true }
def FnSmallFunctionUptoSaid : Prop := fnSmallFunctionUptoRow.holds Tryz.pinned (OpenSpec.upto fnSmallFunctionSpec)

/-- 'laws.FnSmallFunctionType', WHERE WHAT IT READS IS OF BULK AT MOST 1048576: true; the input reads as it did. -/
def fnSmallFunctionTypeUptoRow : OpenClaim := { program := "ytcobcgkeojeagaagreat", sum := "003efd774514d1950b85d5b13ec3bdd18da2d2c382b2c341bc23aa9613f6b90f", func := "loop.example/pub-g01448/laws.FnSmallFunctionType", spec := "fnSmallFunctionType", unfollowed := true, recurses := true, apart := false, narrowed := true }
def FnSmallFunctionTypeUptoSaid : Prop := fnSmallFunctionTypeUptoRow.holds Tryz.pinned (OpenSpec.upto fnSmallFunctionTypeSpec)

/-- 'laws.FnSmallMember', WHERE WHAT IT READS IS OF BULK AT MOST 1048576: true; the input reads as it did. -/
def fnSmallMemberUptoRow : OpenClaim := { program := "ytcobcgkeojeagaagreat", sum := "003efd774514d1950b85d5b13ec3bdd18da2d2c382b2c341bc23aa9613f6b90f", func := "loop.example/pub-g01448/laws.FnSmallMember", spec := "fnSmallMember", unfollowed := true, recurses := true, apart := false, narrowed := true }
def FnSmallMemberUptoSaid : Prop := fnSmallMemberUptoRow.holds Tryz.pinned (OpenSpec.upto fnSmallMemberSpec)

end Rows
end Go.Proofs.YtcobcgkeojeagaaGreat
