/-
  No cell of these rows narrows 'for every input' (looked for: loops, veiled, ifaces, maps, wideKeys, modest, calm, conditions, laid).
  DERIVED. THE GIVEN ROWS OF THIS SEAT. 3 by the template 'for every input the law returns true; each argument reads behind the call as it read before'; 0 by the template 'total and deterministic' (their statements: YtpdejkalcminbaaTotals.lean).
  GIVEN WITH THE SEED: the statements are not yours to turn. If you find one false, say at which input.
  Laid BY PROGRAM, IN A SANDBOX (cutbox-rows.mjs): the forced cells as the released guide's own fill.sh prints them over the translation ea01e3d51d5e177a… (all of the seat's roots in one cut). By AI agents, Wed Nov 11 2026. No macro, syntax, notation, axiom, sorry.
-/
import Derived.Test.YtpdejkalcminbaaChecked
import GoSem.Claim
import GoSem.ClaimJoined
import GoSem.ClaimMapViews
import Derived.JoinedTies
import Derived.KernelRfl
namespace Go.Proofs.Ytpdejkalcminbaa
/- THE CELL 'sum', in the pinned program and in every row, IS THE sha256 OF THE DUMP (.gsa) THAT YtpdejkalcminbaaProg.lean LOADS. Nothing in Lean hashes anything: it is a label: what it is worth is what the hold of that sum in a sandbox is worth. -/
noncomputable def Try.pinned : Pinned := { name := "ytpdejkalcminbaa", sum := "ea01e3d51d5e177a9c308a624c117b84664ca9631a067d57b729382fa0166ab0", checked := Try.checked }
namespace Rows
def none {H : Type} : Left H := { results := [], args := [] }

/-- 'laws.FnUsers': WHATEVER THE INPUT: true; the input reads as it did. -/
def fnUsersSpec : ChangeSpec := { name := "fnUsers", fn := fun _ => fun
  | [d1, d2, d3] => { results := [.lit (.bool true)], args := [d1, d2, d3] }
  | _ => none }
def fnUsersRow : OpenClaim := { program := "ytpdejkalcminbaa", sum := "ea01e3d51d5e177a9c308a624c117b84664ca9631a067d57b729382fa0166ab0", func := "loop.example/pub-g01513/laws.FnUsers", spec := "fnUsers", unfollowed := true, recurses := true, apart := false }
def FnUsersSaid : Prop := fnUsersRow.holds Try.pinned (OpenSpec.ofChange fnUsersSpec)

/-- ITS FALSE NEIGHBOUR: 'it returns false'. Refute it at one input. -/
def fnUsersWrong : ChangeSpec := { name := "fnUsers", fn := fun _ => fun
  | [d1, d2, d3] => { results := [.lit (.bool false)], args := [d1, d2, d3] }
  | _ => none }
def FnUsersWrongFalsely : Prop := fnUsersRow.holds Try.pinned (OpenSpec.ofChange fnUsersWrong)

/-- 'laws.FnRoles': WHATEVER THE INPUT: true; the input reads as it did. -/
def fnRolesSpec : ChangeSpec := { name := "fnRoles", fn := fun _ => fun
  | [d1, d2, d3] => { results := [.lit (.bool true)], args := [d1, d2, d3] }
  | _ => none }
def fnRolesRow : OpenClaim := { program := "ytpdejkalcminbaa", sum := "ea01e3d51d5e177a9c308a624c117b84664ca9631a067d57b729382fa0166ab0", func := "loop.example/pub-g01513/laws.FnRoles", spec := "fnRoles", unfollowed := true, recurses := true, apart := false }
def FnRolesSaid : Prop := fnRolesRow.holds Try.pinned (OpenSpec.ofChange fnRolesSpec)

/-- ITS FALSE NEIGHBOUR: 'it returns false'. Refute it at one input. -/
def fnRolesWrong : ChangeSpec := { name := "fnRoles", fn := fun _ => fun
  | [d1, d2, d3] => { results := [.lit (.bool false)], args := [d1, d2, d3] }
  | _ => none }
def FnRolesWrongFalsely : Prop := fnRolesRow.holds Try.pinned (OpenSpec.ofChange fnRolesWrong)

/-- 'laws.FnLinked': WHATEVER THE INPUT: true; the input reads as it did. -/
def fnLinkedSpec : ChangeSpec := { name := "fnLinked", fn := fun _ => fun
  | [d1, d2, d3, d4] => { results := [.lit (.bool true)], args := [d1, d2, d3, d4] }
  | _ => none }
def fnLinkedRow : OpenClaim := { program := "ytpdejkalcminbaa", sum := "ea01e3d51d5e177a9c308a624c117b84664ca9631a067d57b729382fa0166ab0", func := "loop.example/pub-g01513/laws.FnLinked", spec := "fnLinked", unfollowed := true, recurses := true, apart := false }
def FnLinkedSaid : Prop := fnLinkedRow.holds Try.pinned (OpenSpec.ofChange fnLinkedSpec)

/-- ITS FALSE NEIGHBOUR: 'it returns false'. Refute it at one input. -/
def fnLinkedWrong : ChangeSpec := { name := "fnLinked", fn := fun _ => fun
  | [d1, d2, d3, d4] => { results := [.lit (.bool false)], args := [d1, d2, d3, d4] }
  | _ => none }
def FnLinkedWrongFalsely : Prop := fnLinkedRow.holds Try.pinned (OpenSpec.ofChange fnLinkedWrong)

/- THE SECOND FORM. 'bulk': how many values and letters a reading holds, each counted each time it is reached (what is shared counts as often as it is met; a slice's spare places count too). A statement '..UptoSaid' is the law's where the arguments, and the package variables that the reading takes, are together of bulk at most 1048576: NARROWER than '..Said'. Prove '..Said' where nothing that the law and all that it calls make is longer than what came in: it says more and counts as full. Else prove '..UptoSaid'. A law counts once. -/
mutual
def uptoBulk {H : Type} : DataW H → Nat
  | .lit (.string bytes) => bytes.length + 1
  | .lit _ => 1
  | .nil => 1
  | .ptr d => uptoBulk d + 1
  | .slice elems spare => uptoBulkAll elems + uptoBulkAll spare + 1
  | .agg parts => uptoBulkAll parts + 1
  | .iface _ d => uptoBulk d + 1
  | .map entries => uptoBulkEntries entries + 1
  | .held _ => 1
def uptoBulkAll {H : Type} : List (DataW H) → Nat
  | [] => 0
  | d :: r => uptoBulk d + uptoBulkAll r
def uptoBulkEntries {H : Type} : List (Lit × DataW H) → Nat
  | [] => 0
  | x :: r => uptoBulkEntry x + uptoBulkEntries r
def uptoBulkEntry {H : Type} : Lit × DataW H → Nat
  | (.string bytes, d) => bytes.length + uptoBulk d + 1
  | (_, d) => uptoBulk d + 1
 end
def uptoSmall : (H : Type) → List (DataW H) → Bool := fun _ ds => decide (uptoBulkAll ds ≤ 1048576)
def OpenSpec.upto (s : _root_.Go.ChangeSpec) : _root_.Go.OpenSpec := { _root_.Go.OpenSpec.ofChange s with cond := some uptoSmall }

/-- 'laws.FnUsers', WHERE WHAT IT READS IS OF BULK AT MOST 1048576: true; the input reads as it did. -/
def fnUsersUptoRow : OpenClaim := { program := "ytpdejkalcminbaa", sum := "ea01e3d51d5e177a9c308a624c117b84664ca9631a067d57b729382fa0166ab0", func := "loop.example/pub-g01513/laws.FnUsers", spec := "fnUsers", unfollowed := true, recurses := true, apart := false, narrowed := true }
def FnUsersUptoSaid : Prop := fnUsersUptoRow.holds Try.pinned (OpenSpec.upto fnUsersSpec)

/-- 'laws.FnRoles', WHERE WHAT IT READS IS OF BULK AT MOST 1048576: true; the input reads as it did. -/
def fnRolesUptoRow : OpenClaim := { program := "ytpdejkalcminbaa", sum := "ea01e3d51d5e177a9c308a624c117b84664ca9631a067d57b729382fa0166ab0", func := "loop.example/pub-g01513/laws.FnRoles", spec := "fnRoles", unfollowed := true, recurses := true, apart := false, narrowed := true }
def FnRolesUptoSaid : Prop := fnRolesUptoRow.holds Try.pinned (OpenSpec.upto fnRolesSpec)

/-- 'laws.FnLinked', WHERE WHAT IT READS IS OF BULK AT MOST 1048576: true; the input reads as it did. -/
def fnLinkedUptoRow : OpenClaim := { program := "ytpdejkalcminbaa", sum := "ea01e3d51d5e177a9c308a624c117b84664ca9631a067d57b729382fa0166ab0", func := "loop.example/pub-g01513/laws.FnLinked", spec := "fnLinked", unfollowed := true, recurses := true, apart := false, narrowed := true }
def FnLinkedUptoSaid : Prop := fnLinkedUptoRow.holds Try.pinned (OpenSpec.upto fnLinkedSpec)

end Rows
end Go.Proofs.Ytpdejkalcminbaa
