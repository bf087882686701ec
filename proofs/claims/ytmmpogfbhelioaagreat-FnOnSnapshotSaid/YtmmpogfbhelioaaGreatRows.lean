/-
  No cell of these rows narrows 'for every input' (looked for: loops, veiled, ifaces, maps, wideKeys, modest, calm, conditions, laid).
  DERIVED. THE GIVEN ROWS OF THIS SEAT. 4 by the template 'for every input the law returns true; each argument reads behind the call as it read before'; 0 by the template 'total and deterministic' (their statements: YtmmpogfbhelioaaGreatTotals.lean).
  GIVEN WITH THE SEED: the statements are not yours to turn. If you find one false, say at which input.
  Laid BY PROGRAM, IN A SANDBOX (cutbox-rows.mjs): the forced cells as the released guide's own fill.sh prints them over the translation de1afc88c75337a8… (all of the seat's roots in one cut). By AI agents, Wed Nov 11 2026. No macro, syntax, notation, axiom, sorry.
-/
import Derived.Test.YtmmpogfbhelioaaGreatChecked
import GoSem.Claim
import GoSem.ClaimJoined
import GoSem.ClaimMapViews
import Derived.JoinedTies
import Derived.KernelRfl
namespace Go.Proofs.YtmmpogfbhelioaaGreat
/- THE CELL 'sum', in the pinned program and in every row, IS THE sha256 OF THE DUMP (.gsa) THAT YtmmpogfbhelioaaGreatProg.lean LOADS. Nothing in Lean hashes anything: it is a label: what it is worth is what the hold of that sum in a sandbox is worth. -/
noncomputable def Tryz.pinned : Pinned := { name := "ytmmpogfbhelioaagreat", sum := "de1afc88c75337a852af9f450f0193cd206515f26009cb35c5077a2efce3f9a4", checked := Tryz.checked }
namespace Rows
def none {H : Type} : Left H := { results := [], args := [] }

/-- 'laws.FnRestoreSnap': WHATEVER THE INPUT: true; the input reads as it did. -/
def fnRestoreSnapSpec : ChangeSpec := { name := "fnRestoreSnap", fn := fun _ => fun
  | [d1, d2] => { results := [.lit (.bool true)], args := [d1, d2] }
  | _ => none }
def fnRestoreSnapRow : OpenClaim := { program := "ytmmpogfbhelioaagreat", sum := "de1afc88c75337a852af9f450f0193cd206515f26009cb35c5077a2efce3f9a4", func := "pub-comitia/laws.FnRestoreSnap", spec := "fnRestoreSnap", unfollowed := true, recurses := true, named := ["encoding/binary.LittleEndian"], apart := false }
def FnRestoreSnapSaid : Prop := fnRestoreSnapRow.holds Tryz.pinned (OpenSpec.ofChange fnRestoreSnapSpec)

/-- ITS FALSE NEIGHBOUR: 'it returns false'. Refute it at one input. -/
def fnRestoreSnapWrong : ChangeSpec := { name := "fnRestoreSnap", fn := fun _ => fun
  | [d1, d2] => { results := [.lit (.bool false)], args := [d1, d2] }
  | _ => none }
def FnRestoreSnapWrongFalsely : Prop := fnRestoreSnapRow.holds Tryz.pinned (OpenSpec.ofChange fnRestoreSnapWrong)

/-- 'laws.FnBecomes': WHATEVER THE INPUT: true; the input reads as it did. -/
def fnBecomesSpec : ChangeSpec := { name := "fnBecomes", fn := fun _ => fun
  | [d1, d2, d3, d4] => { results := [.lit (.bool true)], args := [d1, d2, d3, d4] }
  | _ => none }
def fnBecomesRow : OpenClaim := { program := "ytmmpogfbhelioaagreat", sum := "de1afc88c75337a852af9f450f0193cd206515f26009cb35c5077a2efce3f9a4", func := "pub-comitia/laws.FnBecomes", spec := "fnBecomes", unfollowed := true, recurses := true, named := ["encoding/binary.LittleEndian"], apart := false }
def FnBecomesSaid : Prop := fnBecomesRow.holds Tryz.pinned (OpenSpec.ofChange fnBecomesSpec)

/-- ITS FALSE NEIGHBOUR: 'it returns false'. Refute it at one input. -/
def fnBecomesWrong : ChangeSpec := { name := "fnBecomes", fn := fun _ => fun
  | [d1, d2, d3, d4] => { results := [.lit (.bool false)], args := [d1, d2, d3, d4] }
  | _ => none }
def FnBecomesWrongFalsely : Prop := fnBecomesRow.holds Tryz.pinned (OpenSpec.ofChange fnBecomesWrong)

/-- 'laws.FnBecomesLeader': WHATEVER THE INPUT: true; the input reads as it did. -/
def fnBecomesLeaderSpec : ChangeSpec := { name := "fnBecomesLeader", fn := fun _ => fun
  | [d] => { results := [.lit (.bool true)], args := [d] }
  | _ => none }
def fnBecomesLeaderRow : OpenClaim := { program := "ytmmpogfbhelioaagreat", sum := "de1afc88c75337a852af9f450f0193cd206515f26009cb35c5077a2efce3f9a4", func := "pub-comitia/laws.FnBecomesLeader", spec := "fnBecomesLeader", unfollowed := true, recurses := true, named := ["encoding/binary.LittleEndian"], apart := false }
def FnBecomesLeaderSaid : Prop := fnBecomesLeaderRow.holds Tryz.pinned (OpenSpec.ofChange fnBecomesLeaderSpec)

/-- ITS FALSE NEIGHBOUR: 'it returns false'. Refute it at one input. -/
def fnBecomesLeaderWrong : ChangeSpec := { name := "fnBecomesLeader", fn := fun _ => fun
  | [d] => { results := [.lit (.bool false)], args := [d] }
  | _ => none }
def FnBecomesLeaderWrongFalsely : Prop := fnBecomesLeaderRow.holds Tryz.pinned (OpenSpec.ofChange fnBecomesLeaderWrong)

/-- 'laws.FnOnSnapshot': WHATEVER THE INPUT: true; the input reads as it did. -/
def fnOnSnapshotSpec : ChangeSpec := { name := "fnOnSnapshot", fn := fun _ => fun
  | [d1, d2, d3] => { results := [.lit (.bool true)], args := [d1, d2, d3] }
  | _ => none }
def fnOnSnapshotRow : OpenClaim := { program := "ytmmpogfbhelioaagreat", sum := "de1afc88c75337a852af9f450f0193cd206515f26009cb35c5077a2efce3f9a4", func := "pub-comitia/laws.FnOnSnapshot", spec := "fnOnSnapshot", unfollowed := true, recurses := true, named := ["encoding/binary.LittleEndian"], apart := false }
def FnOnSnapshotSaid : Prop := fnOnSnapshotRow.holds Tryz.pinned (OpenSpec.ofChange fnOnSnapshotSpec)

/-- ITS FALSE NEIGHBOUR: 'it returns false'. Refute it at one input. -/
def fnOnSnapshotWrong : ChangeSpec := { name := "fnOnSnapshot", fn := fun _ => fun
  | [d1, d2, d3] => { results := [.lit (.bool false)], args := [d1, d2, d3] }
  | _ => none }
def FnOnSnapshotWrongFalsely : Prop := fnOnSnapshotRow.holds Tryz.pinned (OpenSpec.ofChange fnOnSnapshotWrong)

/- THE SECOND FORM. 'bulk': how many values and letters a reading holds, each counted each time it is reached (what is shared counts as often as it is met; a slice's spare places count too). A statement '..UptoSaid' is the law's where the arguments, and the package variables that the reading takes, are together of bulk at most 1048576: NARROWER than '..Said'. Prove '..Said' where nothing that the law and all that it calls make is longer than what came in: it says more and counts as full. Else prove '..UptoSaid'. A law counts once. -/
mutual
def uptoBulk {H : Type} : DataW H → Nat
  | .lit (.string bytes) => bytes.length + 1
  | .lit _ => 1
  | .nil => 1
  | .ptr d => uptoBulk d + 1
  | .slice elems spare => uptoBulkAll elems + uptoBulkAll spare + 1
  | .agg parts => uptoBulkAll parts + 1
  | .iface _ d => uptoBulk d + 1
  | .map entries => uptoBulkEntries entries + 1
  | .held _ => 1
def uptoBulkAll {H : Type} : List (DataW H) → Nat
  | [] => 0
  | d :: r => uptoBulk d + uptoBulkAll r
def uptoBulkEntries {H : Type} : List (Lit × DataW H) → Nat
  | [] => 0
  | x :: r => uptoBulkEntry x + uptoBulkEntries r
def uptoBulkEntry {H : Type} : Lit × DataW H → Nat
  | (.string bytes, d) => bytes.length + uptoBulk d + 1
  | (_, d) => uptoBulk d + 1
 end
def uptoSmall : (H : Type) → List (DataW H) → Bool := fun _ ds => decide (uptoBulkAll ds ≤ 1048576)
def OpenSpec.upto (s : _root_.Go.ChangeSpec) : _root_.Go.OpenSpec := { _root_.Go.OpenSpec.ofChange s with cond := some uptoSmall }

/-- 'laws.FnRestoreSnap', WHERE WHAT IT READS IS OF BULK AT MOST 1048576: true; the input reads as it did. -/
def fnRestoreSnapUptoRow : OpenClaim := { program := "ytmmpogfbhelioaagreat", sum := "de1afc88c75337a852af9f450f0193cd206515f26009cb35c5077a2efce3f9a4", func := "pub-comitia/laws.FnRestoreSnap", spec := "fnRestoreSnap", unfollowed := true, recurses := true, named := ["encoding/binary.LittleEndian"], apart := false, narrowed := true }
def FnRestoreSnapUptoSaid : Prop := fnRestoreSnapUptoRow.holds Tryz.pinned (OpenSpec.upto fnRestoreSnapSpec)

/-- 'laws.FnBecomes', WHERE WHAT IT READS IS OF BULK AT MOST 1048576: true; the input reads as it did. -/
def fnBecomesUptoRow : OpenClaim := { program := "ytmmpogfbhelioaagreat", sum := "de1afc88c75337a852af9f450f0193cd206515f26009cb35c5077a2efce3f9a4", func := "pub-comitia/laws.FnBecomes", spec := "fnBecomes", unfollowed := true, recurses := true, named := ["encoding/binary.LittleEndian"], apart := false, narrowed := true }
def FnBecomesUptoSaid : Prop := fnBecomesUptoRow.holds Tryz.pinned (OpenSpec.upto fnBecomesSpec)

/-- 'laws.FnBecomesLeader', WHERE WHAT IT READS IS OF BULK AT MOST 1048576: true; the input reads as it did. -/
def fnBecomesLeaderUptoRow : OpenClaim := { program := "ytmmpogfbhelioaagreat", sum := "de1afc88c75337a852af9f450f0193cd206515f26009cb35c5077a2efce3f9a4", func := "pub-comitia/laws.FnBecomesLeader", spec := "fnBecomesLeader", unfollowed := true, recurses := true, named := ["encoding/binary.LittleEndian"], apart := false, narrowed := true }
def FnBecomesLeaderUptoSaid : Prop := fnBecomesLeaderUptoRow.holds Tryz.pinned (OpenSpec.upto fnBecomesLeaderSpec)

/-- 'laws.FnOnSnapshot', WHERE WHAT IT READS IS OF BULK AT MOST 1048576: true; the input reads as it did. -/
def fnOnSnapshotUptoRow : OpenClaim := { program := "ytmmpogfbhelioaagreat", sum := "de1afc88c75337a852af9f450f0193cd206515f26009cb35c5077a2efce3f9a4", func := "pub-comitia/laws.FnOnSnapshot", spec := "fnOnSnapshot", unfollowed := true, recurses := true, named := ["encoding/binary.LittleEndian"], apart := false, narrowed := true }
def FnOnSnapshotUptoSaid : Prop := fnOnSnapshotUptoRow.holds Tryz.pinned (OpenSpec.upto fnOnSnapshotSpec)

end Rows
end Go.Proofs.YtmmpogfbhelioaaGreat
