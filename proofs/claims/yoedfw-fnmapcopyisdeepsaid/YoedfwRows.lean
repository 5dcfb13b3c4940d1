/-
  No cell of these rows narrows 'for every input' (looked for: loops, veiled, ifaces, maps, wideKeys, modest, calm, conditions, laid).
  DERIVED. THE GIVEN ROWS OF THIS SEAT. 6 by the template 'for every input the law returns true; each argument reads behind the call as it read before'; 0 by the template 'total and deterministic' (their statements: YoedfwTotals.lean).
  GIVEN WITH THE SEED: the statements are not yours to turn. If you find one false, say at which input.
  Laid BY PROGRAM, IN A SANDBOX (cutbox-rows.mjs): the forced cells as the released guide's own fill.sh prints them over the translation 7f138dc9ac49a8dc… (all of the seat's roots in one cut). By AI agents, Wed Nov 11 2026. No macro, syntax, notation, axiom, sorry.
-/
import Derived.Test.YoedfwChecked
import GoSem.Claim
import GoSem.ClaimJoined
import GoSem.ClaimMapViews
import Derived.JoinedTies
import Derived.KernelRfl
namespace Go.Proofs.Yoedfw
/- THE CELL 'sum', in the pinned program and in every row, IS THE sha256 OF THE DUMP (.gsa) THAT YoedfwProg.lean LOADS. Nothing in Lean hashes anything: it is a label: what it is worth is what the hold of that sum in a sandbox is worth. -/
noncomputable def Edfg.pinned : Pinned := { name := "yoedfw", sum := "7f138dc9ac49a8dc7570cd3d70215fd9bcd93b84fbe48b5a47a200f89c61b0a9", checked := Edfg.checked }
namespace Rows
def none {H : Type} : Left H := { results := [], args := [] }

/-- 'zzlaws_root_b3.FnMapCopyEqualsOriginalExactly': WHATEVER THE INPUT: true; the input reads as it did. -/
def fnMapCopyEqualsOriginalExactlySpec : ChangeSpec := { name := "fnMapCopyEqualsOriginalExactly", fn := fun _ => fun
  | [d1, d2, d3] => { results := [.lit (.bool true)], args := [d1, d2, d3] }
  | _ => none }
def fnMapCopyEqualsOriginalExactlyRow : OpenClaim := { program := "yoedfw", sum := "7f138dc9ac49a8dc7570cd3d70215fd9bcd93b84fbe48b5a47a200f89c61b0a9", func := "github.com/d5/tengo/v2/zzlaws_root_b3.FnMapCopyEqualsOriginalExactly", spec := "fnMapCopyEqualsOriginalExactly", unfollowed := true, recurses := true, apart := false }
def FnMapCopyEqualsOriginalExactlySaid : Prop := fnMapCopyEqualsOriginalExactlyRow.holds Edfg.pinned (OpenSpec.ofChange fnMapCopyEqualsOriginalExactlySpec)

/-- ITS FALSE NEIGHBOUR: 'it returns false'. Refute it at one input. -/
def fnMapCopyEqualsOriginalExactlyWrong : ChangeSpec := { name := "fnMapCopyEqualsOriginalExactly", fn := fun _ => fun
  | [d1, d2, d3] => { results := [.lit (.bool false)], args := [d1, d2, d3] }
  | _ => none }
def FnMapCopyEqualsOriginalExactlyWrongFalsely : Prop := fnMapCopyEqualsOriginalExactlyRow.holds Edfg.pinned (OpenSpec.ofChange fnMapCopyEqualsOriginalExactlyWrong)

/-- 'zzlaws_root_b3.FnMapTypeNameIsMapForAnyContents': WHATEVER THE INPUT: true; the input reads as it did. -/
def fnMapTypeNameIsMapForAnyContentsSpec : ChangeSpec := { name := "fnMapTypeNameIsMapForAnyContents", fn := fun _ => fun
  | [d1, d2, d3] => { results := [.lit (.bool true)], args := [d1, d2, d3] }
  | _ => none }
def fnMapTypeNameIsMapForAnyContentsRow : OpenClaim := { program := "yoedfw", sum := "7f138dc9ac49a8dc7570cd3d70215fd9bcd93b84fbe48b5a47a200f89c61b0a9", func := "github.com/d5/tengo/v2/zzlaws_root_b3.FnMapTypeNameIsMapForAnyContents", spec := "fnMapTypeNameIsMapForAnyContents", unfollowed := true, recurses := true, apart := false }
def FnMapTypeNameIsMapForAnyContentsSaid : Prop := fnMapTypeNameIsMapForAnyContentsRow.holds Edfg.pinned (OpenSpec.ofChange fnMapTypeNameIsMapForAnyContentsSpec)

/-- ITS FALSE NEIGHBOUR: 'it returns false'. Refute it at one input. -/
def fnMapTypeNameIsMapForAnyContentsWrong : ChangeSpec := { name := "fnMapTypeNameIsMapForAnyContents", fn := fun _ => fun
  | [d1, d2, d3] => { results := [.lit (.bool false)], args := [d1, d2, d3] }
  | _ => none }
def FnMapTypeNameIsMapForAnyContentsWrongFalsely : Prop := fnMapTypeNameIsMapForAnyContentsRow.holds Edfg.pinned (OpenSpec.ofChange fnMapTypeNameIsMapForAnyContentsWrong)

/-- 'zzlaws_root_b3.FnImmutableMapCopyIsAMapEqualToMap': WHATEVER THE INPUT: true; the input reads as it did. -/
def fnImmutableMapCopyIsAMapEqualToMapSpec : ChangeSpec := { name := "fnImmutableMapCopyIsAMapEqualToMap", fn := fun _ => fun
  | [d1, d2] => { results := [.lit (.bool true)], args := [d1, d2] }
  | _ => none }
def fnImmutableMapCopyIsAMapEqualToMapRow : OpenClaim := { program := "yoedfw", sum := "7f138dc9ac49a8dc7570cd3d70215fd9bcd93b84fbe48b5a47a200f89c61b0a9", func := "github.com/d5/tengo/v2/zzlaws_root_b3.FnImmutableMapCopyIsAMapEqualToMap", spec := "fnImmutableMapCopyIsAMapEqualToMap", unfollowed := true, recurses := true, apart := false }
def FnImmutableMapCopyIsAMapEqualToMapSaid : Prop := fnImmutableMapCopyIsAMapEqualToMapRow.holds Edfg.pinned (OpenSpec.ofChange fnImmutableMapCopyIsAMapEqualToMapSpec)

/-- ITS FALSE NEIGHBOUR: 'it returns false'. Refute it at one input. -/
def fnImmutableMapCopyIsAMapEqualToMapWrong : ChangeSpec := { name := "fnImmutableMapCopyIsAMapEqualToMap", fn := fun _ => fun
  | [d1, d2] => { results := [.lit (.bool false)], args := [d1, d2] }
  | _ => none }
def FnImmutableMapCopyIsAMapEqualToMapWrongFalsely : Prop := fnImmutableMapCopyIsAMapEqualToMapRow.holds Edfg.pinned (OpenSpec.ofChange fnImmutableMapCopyIsAMapEqualToMapWrong)

/-- 'zzlaws_root_b3.FnMapCopyIsDeep': WHATEVER THE INPUT: true; the input reads as it did. -/
def fnMapCopyIsDeepSpec : ChangeSpec := { name := "fnMapCopyIsDeep", fn := fun _ => fun
  | [d1, d2, d3] => { results := [.lit (.bool true)], args := [d1, d2, d3] }
  | _ => none }
def fnMapCopyIsDeepRow : OpenClaim := { program := "yoedfw", sum := "7f138dc9ac49a8dc7570cd3d70215fd9bcd93b84fbe48b5a47a200f89c61b0a9", func := "github.com/d5/tengo/v2/zzlaws_root_b3.FnMapCopyIsDeep", spec := "fnMapCopyIsDeep", unfollowed := true, recurses := true, apart := false }
def FnMapCopyIsDeepSaid : Prop := fnMapCopyIsDeepRow.holds Edfg.pinned (OpenSpec.ofChange fnMapCopyIsDeepSpec)

/-- ITS FALSE NEIGHBOUR: 'it returns false'. Refute it at one input. -/
def fnMapCopyIsDeepWrong : ChangeSpec := { name := "fnMapCopyIsDeep", fn := fun _ => fun
  | [d1, d2, d3] => { results := [.lit (.bool false)], args := [d1, d2, d3] }
  | _ => none }
def FnMapCopyIsDeepWrongFalsely : Prop := fnMapCopyIsDeepRow.holds Edfg.pinned (OpenSpec.ofChange fnMapCopyIsDeepWrong)

/-- 'zzlaws_root_b3.FnMapIsFalsyExactlyWhenEmpty': WHATEVER THE INPUT: true; the input reads as it did. -/
def fnMapIsFalsyExactlyWhenEmptySpec : ChangeSpec := { name := "fnMapIsFalsyExactlyWhenEmpty", fn := fun _ => fun
  | [d1, d2, d3] => { results := [.lit (.bool true)], args := [d1, d2, d3] }
  | _ => none }
def fnMapIsFalsyExactlyWhenEmptyRow : OpenClaim := { program := "yoedfw", sum := "7f138dc9ac49a8dc7570cd3d70215fd9bcd93b84fbe48b5a47a200f89c61b0a9", func := "github.com/d5/tengo/v2/zzlaws_root_b3.FnMapIsFalsyExactlyWhenEmpty", spec := "fnMapIsFalsyExactlyWhenEmpty", apart := false }
def FnMapIsFalsyExactlyWhenEmptySaid : Prop := fnMapIsFalsyExactlyWhenEmptyRow.holds Edfg.pinned (OpenSpec.ofChange fnMapIsFalsyExactlyWhenEmptySpec)

/-- ITS FALSE NEIGHBOUR: 'it returns false'. Refute it at one input. -/
def fnMapIsFalsyExactlyWhenEmptyWrong : ChangeSpec := { name := "fnMapIsFalsyExactlyWhenEmpty", fn := fun _ => fun
  | [d1, d2, d3] => { results := [.lit (.bool false)], args := [d1, d2, d3] }
  | _ => none }
def FnMapIsFalsyExactlyWhenEmptyWrongFalsely : Prop := fnMapIsFalsyExactlyWhenEmptyRow.holds Edfg.pinned (OpenSpec.ofChange fnMapIsFalsyExactlyWhenEmptyWrong)

/-- 'zzlaws_root_b3.FnMapIsFalsyTracksInsertsAndDeletes': WHATEVER THE INPUT: true; the input reads as it did. -/
def fnMapIsFalsyTracksInsertsAndDeletesSpec : ChangeSpec := { name := "fnMapIsFalsyTracksInsertsAndDeletes", fn := fun _ => fun
  | [d1, d2] => { results := [.lit (.bool true)], args := [d1, d2] }
  | _ => none }
def fnMapIsFalsyTracksInsertsAndDeletesRow : OpenClaim := { program := "yoedfw", sum := "7f138dc9ac49a8dc7570cd3d70215fd9bcd93b84fbe48b5a47a200f89c61b0a9", func := "github.com/d5/tengo/v2/zzlaws_root_b3.FnMapIsFalsyTracksInsertsAndDeletes", spec := "fnMapIsFalsyTracksInsertsAndDeletes", unfollowed := true, recurses := true, apart := false }
def FnMapIsFalsyTracksInsertsAndDeletesSaid : Prop := fnMapIsFalsyTracksInsertsAndDeletesRow.holds Edfg.pinned (OpenSpec.ofChange fnMapIsFalsyTracksInsertsAndDeletesSpec)

/-- ITS FALSE NEIGHBOUR: 'it returns false'. Refute it at one input. -/
def fnMapIsFalsyTracksInsertsAndDeletesWrong : ChangeSpec := { name := "fnMapIsFalsyTracksInsertsAndDeletes", fn := fun _ => fun
  | [d1, d2] => { results := [.lit (.bool false)], args := [d1, d2] }
  | _ => none }
def FnMapIsFalsyTracksInsertsAndDeletesWrongFalsely : Prop := fnMapIsFalsyTracksInsertsAndDeletesRow.holds Edfg.pinned (OpenSpec.ofChange fnMapIsFalsyTracksInsertsAndDeletesWrong)

end Rows
end Go.Proofs.Yoedfw
