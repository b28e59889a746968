/-
  No cell of these rows narrows 'for every input' (looked for: loops, veiled, ifaces, maps, wideKeys, modest, calm, conditions, laid).
  DERIVED. THE GIVEN ROWS OF THIS SEAT. 8 by the template 'for every input the law returns true; each argument reads behind the call as it read before'; 0 by the template 'total and deterministic' (their statements: YtcobcgkeojeagaaTotals.lean).
  GIVEN WITH THE SEED: the statements are not yours to turn. If you find one false, say at which input.
  Laid BY PROGRAM, IN A SANDBOX (cutbox-rows.mjs): the forced cells as the released guide's own fill.sh prints them over the translation daa96c5162423717… (all of the seat's roots in one cut). By AI agents, Wed Nov 11 2026. No macro, syntax, notation, axiom, sorry.
-/
import Derived.Test.YtcobcgkeojeagaaChecked
import GoSem.Claim
import GoSem.ClaimJoined
import GoSem.ClaimMapViews
import Derived.JoinedTies
import Derived.KernelRfl
namespace Go.Proofs.Ytcobcgkeojeagaa
/- THE CELL 'sum', in the pinned program and in every row, IS THE sha256 OF THE DUMP (.gsa) THAT YtcobcgkeojeagaaProg.lean LOADS. Nothing in Lean hashes anything: it is a label: what it is worth is what the hold of that sum in a sandbox is worth. -/
noncomputable def Try.pinned : Pinned := { name := "ytcobcgkeojeagaa", sum := "daa96c51624237176d80f61c20476246fb82c2b88dcc6ad017be05ab8926df92", checked := Try.checked }
namespace Rows
def none {H : Type} : Left H := { results := [], args := [] }

/-- 'laws.FnSmallUnnamed': WHATEVER THE INPUT: true; the input reads as it did. -/
def fnSmallUnnamedSpec : ChangeSpec := { name := "fnSmallUnnamed", fn := fun _ => fun
  | [d] => { results := [.lit (.bool true)], args := [d] }
  | _ => none }
def fnSmallUnnamedRow : OpenClaim := { program := "ytcobcgkeojeagaa", sum := "daa96c51624237176d80f61c20476246fb82c2b88dcc6ad017be05ab8926df92", func := "loop.example/pub-g01448/laws.FnSmallUnnamed", spec := "fnSmallUnnamed", unfollowed := true, recurses := true, apart := false }
def FnSmallUnnamedSaid : Prop := fnSmallUnnamedRow.holds Try.pinned (OpenSpec.ofChange fnSmallUnnamedSpec)

/-- ITS FALSE NEIGHBOUR: 'it returns false'. Refute it at one input. -/
def fnSmallUnnamedWrong : ChangeSpec := { name := "fnSmallUnnamed", fn := fun _ => fun
  | [d] => { results := [.lit (.bool false)], args := [d] }
  | _ => none }
def FnSmallUnnamedWrongFalsely : Prop := fnSmallUnnamedRow.holds Try.pinned (OpenSpec.ofChange fnSmallUnnamedWrong)

/-- 'laws.FnSmallSpecial': WHATEVER THE INPUT: true; the input reads as it did. -/
def fnSmallSpecialSpec : ChangeSpec := { name := "fnSmallSpecial", fn := fun _ => fun
  | [d1, d2, d3, d4] => { results := [.lit (.bool true)], args := [d1, d2, d3, d4] }
  | _ => none }
def fnSmallSpecialRow : OpenClaim := { program := "ytcobcgkeojeagaa", sum := "daa96c51624237176d80f61c20476246fb82c2b88dcc6ad017be05ab8926df92", func := "loop.example/pub-g01448/laws.FnSmallSpecial", spec := "fnSmallSpecial", unfollowed := true, recurses := true, apart := false }
def FnSmallSpecialSaid : Prop := fnSmallSpecialRow.holds Try.pinned (OpenSpec.ofChange fnSmallSpecialSpec)

/-- ITS FALSE NEIGHBOUR: 'it returns false'. Refute it at one input. -/
def fnSmallSpecialWrong : ChangeSpec := { name := "fnSmallSpecial", fn := fun _ => fun
  | [d1, d2, d3, d4] => { results := [.lit (.bool false)], args := [d1, d2, d3, d4] }
  | _ => none }
def FnSmallSpecialWrongFalsely : Prop := fnSmallSpecialRow.holds Try.pinned (OpenSpec.ofChange fnSmallSpecialWrong)

/-- 'laws.FnSmallTags': WHATEVER THE INPUT: true; the input reads as it did. -/
def fnSmallTagsSpec : ChangeSpec := { name := "fnSmallTags", fn := fun _ => fun
  | [d1, d2] => { results := [.lit (.bool true)], args := [d1, d2] }
  | _ => none }
def fnSmallTagsRow : OpenClaim := { program := "ytcobcgkeojeagaa", sum := "daa96c51624237176d80f61c20476246fb82c2b88dcc6ad017be05ab8926df92", func := "loop.example/pub-g01448/laws.FnSmallTags", spec := "fnSmallTags", unfollowed := true, recurses := true, apart := false }
def FnSmallTagsSaid : Prop := fnSmallTagsRow.holds Try.pinned (OpenSpec.ofChange fnSmallTagsSpec)

/-- ITS FALSE NEIGHBOUR: 'it returns false'. Refute it at one input. -/
def fnSmallTagsWrong : ChangeSpec := { name := "fnSmallTags", fn := fun _ => fun
  | [d1, d2] => { results := [.lit (.bool false)], args := [d1, d2] }
  | _ => none }
def FnSmallTagsWrongFalsely : Prop := fnSmallTagsRow.holds Try.pinned (OpenSpec.ofChange fnSmallTagsWrong)

/-- 'laws.FnSmallPack': WHATEVER THE INPUT: true; the input reads as it did. -/
def fnSmallPackSpec : ChangeSpec := { name := "fnSmallPack", fn := fun _ => fun
  | [d1, d2] => { results := [.lit (.bool true)], args := [d1, d2] }
  | _ => none }
def fnSmallPackRow : OpenClaim := { program := "ytcobcgkeojeagaa", sum := "daa96c51624237176d80f61c20476246fb82c2b88dcc6ad017be05ab8926df92", func := "loop.example/pub-g01448/laws.FnSmallPack", spec := "fnSmallPack", unfollowed := true, recurses := true, apart := false }
def FnSmallPackSaid : Prop := fnSmallPackRow.holds Try.pinned (OpenSpec.ofChange fnSmallPackSpec)

/-- ITS FALSE NEIGHBOUR: 'it returns false'. Refute it at one input. -/
def fnSmallPackWrong : ChangeSpec := { name := "fnSmallPack", fn := fun _ => fun
  | [d1, d2] => { results := [.lit (.bool false)], args := [d1, d2] }
  | _ => none }
def FnSmallPackWrongFalsely : Prop := fnSmallPackRow.holds Try.pinned (OpenSpec.ofChange fnSmallPackWrong)

/-- 'laws.FnSmallScopes': WHATEVER THE INPUT: true; the input reads as it did. -/
def fnSmallScopesSpec : ChangeSpec := { name := "fnSmallScopes", fn := fun _ => fun
  | [d1, d2] => { results := [.lit (.bool true)], args := [d1, d2] }
  | _ => none }
def fnSmallScopesRow : OpenClaim := { program := "ytcobcgkeojeagaa", sum := "daa96c51624237176d80f61c20476246fb82c2b88dcc6ad017be05ab8926df92", func := "loop.example/pub-g01448/laws.FnSmallScopes", spec := "fnSmallScopes", unfollowed := true, recurses := true, apart := false }
def FnSmallScopesSaid : Prop := fnSmallScopesRow.holds Try.pinned (OpenSpec.ofChange fnSmallScopesSpec)

/-- ITS FALSE NEIGHBOUR: 'it returns false'. Refute it at one input. -/
def fnSmallScopesWrong : ChangeSpec := { name := "fnSmallScopes", fn := fun _ => fun
  | [d1, d2] => { results := [.lit (.bool false)], args := [d1, d2] }
  | _ => none }
def FnSmallScopesWrongFalsely : Prop := fnSmallScopesRow.holds Try.pinned (OpenSpec.ofChange fnSmallScopesWrong)

/-- 'laws.FnSmallPointerQualifiers': WHATEVER THE INPUT: true; the input reads as it did. -/
def fnSmallPointerQualifiersSpec : ChangeSpec := { name := "fnSmallPointerQualifiers", fn := fun _ => fun
  | [d1, d2, d3] => { results := [.lit (.bool true)], args := [d1, d2, d3] }
  | _ => none }
def fnSmallPointerQualifiersRow : OpenClaim := { program := "ytcobcgkeojeagaa", sum := "daa96c51624237176d80f61c20476246fb82c2b88dcc6ad017be05ab8926df92", func := "loop.example/pub-g01448/laws.FnSmallPointerQualifiers", spec := "fnSmallPointerQualifiers", unfollowed := true, recurses := true, apart := false }
def FnSmallPointerQualifiersSaid : Prop := fnSmallPointerQualifiersRow.holds Try.pinned (OpenSpec.ofChange fnSmallPointerQualifiersSpec)

/-- ITS FALSE NEIGHBOUR: 'it returns false'. Refute it at one input. -/
def fnSmallPointerQualifiersWrong : ChangeSpec := { name := "fnSmallPointerQualifiers", fn := fun _ => fun
  | [d1, d2, d3] => { results := [.lit (.bool false)], args := [d1, d2, d3] }
  | _ => none }
def FnSmallPointerQualifiersWrongFalsely : Prop := fnSmallPointerQualifiersRow.holds Try.pinned (OpenSpec.ofChange fnSmallPointerQualifiersWrong)

/-- 'laws.FnSmallPointers': WHATEVER THE INPUT: true; the input reads as it did. -/
def fnSmallPointersSpec : ChangeSpec := { name := "fnSmallPointers", fn := fun _ => fun
  | [d1, d2, d3] => { results := [.lit (.bool true)], args := [d1, d2, d3] }
  | _ => none }
def fnSmallPointersRow : OpenClaim := { program := "ytcobcgkeojeagaa", sum := "daa96c51624237176d80f61c20476246fb82c2b88dcc6ad017be05ab8926df92", func := "loop.example/pub-g01448/laws.FnSmallPointers", spec := "fnSmallPointers", unfollowed := true, recurses := true, apart := false }
def FnSmallPointersSaid : Prop := fnSmallPointersRow.holds Try.pinned (OpenSpec.ofChange fnSmallPointersSpec)

/-- ITS FALSE NEIGHBOUR: 'it returns false'. Refute it at one input. -/
def fnSmallPointersWrong : ChangeSpec := { name := "fnSmallPointers", fn := fun _ => fun
  | [d1, d2, d3] => { results := [.lit (.bool false)], args := [d1, d2, d3] }
  | _ => none }
def FnSmallPointersWrongFalsely : Prop := fnSmallPointersRow.holds Try.pinned (OpenSpec.ofChange fnSmallPointersWrong)

/-- 'laws.FnSmallTemplatesJoin': WHATEVER THE INPUT: true; the input reads as it did. -/
def fnSmallTemplatesJoinSpec : ChangeSpec := { name := "fnSmallTemplatesJoin", fn := fun _ => fun
  | [d1, d2, d3, d4] => { results := [.lit (.bool true)], args := [d1, d2, d3, d4] }
  | _ => none }
def fnSmallTemplatesJoinRow : OpenClaim := { program := "ytcobcgkeojeagaa", sum := "daa96c51624237176d80f61c20476246fb82c2b88dcc6ad017be05ab8926df92", func := "loop.example/pub-g01448/laws.FnSmallTemplatesJoin", spec := "fnSmallTemplatesJoin", unfollowed := true, recurses := true, apart := false }
def FnSmallTemplatesJoinSaid : Prop := fnSmallTemplatesJoinRow.holds Try.pinned (OpenSpec.ofChange fnSmallTemplatesJoinSpec)

/-- ITS FALSE NEIGHBOUR: 'it returns false'. Refute it at one input. -/
def fnSmallTemplatesJoinWrong : ChangeSpec := { name := "fnSmallTemplatesJoin", fn := fun _ => fun
  | [d1, d2, d3, d4] => { results := [.lit (.bool false)], args := [d1, d2, d3, d4] }
  | _ => none }
def FnSmallTemplatesJoinWrongFalsely : Prop := fnSmallTemplatesJoinRow.holds Try.pinned (OpenSpec.ofChange fnSmallTemplatesJoinWrong)

/- THE SECOND FORM. 'bulk': how many values and letters a reading holds, each counted each time it is reached (what is shared counts as often as it is met; a slice's spare places count too). A statement '..UptoSaid' is the law's where the arguments, and the package variables that the reading takes, are together of bulk at most 1048576: NARROWER than '..Said'. Prove '..Said' where nothing that the law and all that it calls make is longer than what came in: it says more and counts as full. Else prove '..UptoSaid'. A law counts once. -/
mutual
def uptoBulk {H : Type} : DataW H → Nat
  | .lit (.string bytes) => bytes.length + 1
  | .lit _ => 1
  | .nil => 1
  | .ptr d => uptoBulk d + 1
  | .slice elems spare => uptoBulkAll elems + uptoBulkAll spare + 1
  | .agg parts => uptoBulkAll parts + 1
  | .iface _ d => uptoBulk d + 1
  | .map entries => uptoBulkEntries entries + 1
  | .held _ => 1
def uptoBulkAll {H : Type} : List (DataW H) → Nat
  | [] => 0
  | d :: r => uptoBulk d + uptoBulkAll r
def uptoBulkEntries {H : Type} : List (Lit × DataW H) → Nat
  | [] => 0
  | x :: r => uptoBulkEntry x + uptoBulkEntries r
def uptoBulkEntry {H : Type} : Lit × DataW H → Nat
  | (.string bytes, d) => bytes.length + uptoBulk d + 1
  | (_, d) => uptoBulk d + 1
 end
def uptoSmall : (H : Type) → List (DataW H) → Bool := fun _ ds => decide (uptoBulkAll ds ≤ 1048576)
def OpenSpec.upto (s : _root_.Go.ChangeSpec) : _root_.Go.OpenSpec := { _root_.Go.OpenSpec.ofChange s with cond := some uptoSmall }

/-- 'laws.FnSmallUnnamed', WHERE WHAT IT READS IS OF BULK AT MOST 1048576: true; the input reads as it did. -/
def fnSmallUnnamedUptoRow : OpenClaim := { program := "ytcobcgkeojeagaa", sum := "daa96c51624237176d80f61c20476246fb82c2b88dcc6ad017be05ab8926df92", func := "loop.example/pub-g01448/laws.FnSmallUnnamed", spec := "fnSmallUnnamed", unfollowed := true, recurses := true, apart := false, narrowed := true }
def FnSmallUnnamedUptoSaid : Prop := fnSmallUnnamedUptoRow.holds Try.pinned (OpenSpec.upto fnSmallUnnamedSpec)

/-- 'laws.FnSmallSpecial', WHERE WHAT IT READS IS OF BULK AT MOST 1048576: true; the input reads as it did. -/
def fnSmallSpecialUptoRow : OpenClaim := { program := "ytcobcgkeojeagaa", sum := "daa96c51624237176d80f61c20476246fb82c2b88dcc6ad017be05ab8926df92", func := "loop.example/pub-g01448/laws.FnSmallSpecial", spec := "fnSmallSpecial", unfollowed := true, recurses := true, apart := false, narrowed := true }
def FnSmallSpecialUptoSaid : Prop := fnSmallSpecialUptoRow.holds Try.pinned (OpenSpec.upto fnSmallSpecialSpec)

/-- 'laws.FnSmallTags', WHERE WHAT IT READS IS OF BULK AT MOST 1048576: true; the input reads as it did. -/
def fnSmallTagsUptoRow : OpenClaim := { program := "ytcobcgkeojeagaa", sum := "daa96c51624237176d80f61c20476246fb82c2b88dcc6ad017be05ab8926df92", func := "loop.example/pub-g01448/laws.FnSmallTags", spec := "fnSmallTags", unfollowed := true, recurses := true, apart := false, narrowed := true }
def FnSmallTagsUptoSaid : Prop := fnSmallTagsUptoRow.holds Try.pinned (OpenSpec.upto fnSmallTagsSpec)

/-- 'laws.FnSmallPack', WHERE WHAT IT READS IS OF BULK AT MOST 1048576: true; the input reads as it did. -/
def fnSmallPackUptoRow : OpenClaim := { program := "ytcobcgkeojeagaa", sum := "daa96c51624237176d80f61c20476246fb82c2b88dcc6ad017be05ab8926df92", func := "loop.example/pub-g01448/laws.FnSmallPack", spec := "fnSmallPack", unfollowed := true, recurses := true, apart := false, narrowed := true }
def FnSmallPackUptoSaid : Prop := fnSmallPackUptoRow.holds Try.pinned (OpenSpec.upto fnSmallPackSpec)

/-- 'laws.FnSmallScopes', WHERE WHAT IT READS IS OF BULK AT MOST 1048576: true; the input reads as it did. -/
def fnSmallScopesUptoRow : OpenClaim := { program := "ytcobcgkeojeagaa", sum := "daa96c51624237176d80f61c20476246fb82c2b88dcc6ad017be05ab8926df92", func := "loop.example/pub-g01448/laws.FnSmallScopes", spec := "fnSmallScopes", unfollowed := true, recurses := true, apart := false, narrowed := true }
def FnSmallScopesUptoSaid : Prop := fnSmallScopesUptoRow.holds Try.pinned (OpenSpec.upto fnSmallScopesSpec)

/-- 'laws.FnSmallPointerQualifiers', WHERE WHAT IT READS IS OF BULK AT MOST 1048576: true; the input reads as it did. -/
def fnSmallPointerQualifiersUptoRow : OpenClaim := { program := "ytcobcgkeojeagaa", sum := "daa96c51624237176d80f61c20476246fb82c2b88dcc6ad017be05ab8926df92", func := "loop.example/pub-g01448/laws.FnSmallPointerQualifiers", spec := "fnSmallPointerQualifiers", unfollowed := true, recurses := true, apart := false, narrowed := true }
def FnSmallPointerQualifiersUptoSaid : Prop := fnSmallPointerQualifiersUptoRow.holds Try.pinned (OpenSpec.upto fnSmallPointerQualifiersSpec)

/-- 'laws.FnSmallPointers', WHERE WHAT IT READS IS OF BULK AT MOST 1048576: true; the input reads as it did. -/
def fnSmallPointersUptoRow : OpenClaim := { program := "ytcobcgkeojeagaa", sum := "daa96c51624237176d80f61c20476246fb82c2b88dcc6ad017be05ab8926df92", func := "loop.example/pub-g01448/laws.FnSmallPointers", spec := "fnSmallPointers", unfollowed := true, recurses := true, apart := false, narrowed := true }
def FnSmallPointersUptoSaid : Prop := fnSmallPointersUptoRow.holds Try.pinned (OpenSpec.upto fnSmallPointersSpec)

/-- 'laws.FnSmallTemplatesJoin', WHERE WHAT IT READS IS OF BULK AT MOST 1048576: true; the input reads as it did. -/
def fnSmallTemplatesJoinUptoRow : OpenClaim := { program := "ytcobcgkeojeagaa", sum := "daa96c51624237176d80f61c20476246fb82c2b88dcc6ad017be05ab8926df92", func := "loop.example/pub-g01448/laws.FnSmallTemplatesJoin", spec := "fnSmallTemplatesJoin", unfollowed := true, recurses := true, apart := false, narrowed := true }
def FnSmallTemplatesJoinUptoSaid : Prop := fnSmallTemplatesJoinUptoRow.holds Try.pinned (OpenSpec.upto fnSmallTemplatesJoinSpec)

end Rows
end Go.Proofs.Ytcobcgkeojeagaa
