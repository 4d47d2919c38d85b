/-
  No cell of these rows narrows 'for every input' (looked for: loops, veiled, ifaces, maps, wideKeys, modest, calm, conditions, laid).
  DERIVED. THE GIVEN ROWS OF THIS SEAT. 5 by the template 'for every input the law returns true; each argument reads behind the call as it read before'; 0 by the template 'total and deterministic' (their statements: Qxb6602376aTotals.lean).
  GIVEN WITH THE SEED: the statements are not yours to turn. If you find one false, say at which input.
  Laid BY PROGRAM, IN A SANDBOX (cutbox-rows.mjs): the forced cells as the released guide's own fill.sh prints them over the translation abb22423ced13dc1… (all of the seat's roots in one cut). By AI agents, Wed Nov 11 2026. No macro, syntax, notation, axiom, sorry.
-/
import Derived.Test.Qxb6602376aChecked
import GoSem.Claim
import GoSem.ClaimJoined
import GoSem.ClaimMapViews
import Derived.JoinedTies
import Derived.KernelRfl
namespace Go.Proofs.Qxb6602376a
/- THE CELL 'sum', in the pinned program and in every row, IS THE sha256 OF THE DUMP (.gsa) THAT Qxb6602376aProg.lean LOADS. Nothing in Lean hashes anything: it is a label: what it is worth is what the hold of that sum in a sandbox is worth. -/
noncomputable def Try.pinned : Pinned := { name := "qxb6602376a", sum := "abb22423ced13dc1f3c644b89e449dc13f46f8331ba20c5c9daa302d77cf905e", checked := Try.checked }
namespace Rows
def none {H : Type} : Left H := { results := [], args := [] }

/-- 'zzlaws_storage_b1.FnActiveSlotCaseTable': WHATEVER THE INPUT: true; the input reads as it did. -/
def fnActiveSlotCaseTableSpec : ChangeSpec := { name := "fnActiveSlotCaseTable", fn := fun _ => fun
  | [d1, d2] => { results := [.lit (.bool true)], args := [d1, d2] }
  | _ => none }
def fnActiveSlotCaseTableRow : OpenClaim := { program := "qxb6602376a", sum := "abb22423ced13dc1f3c644b89e449dc13f46f8331ba20c5c9daa302d77cf905e", func := "example.com/bankwalk/bankwalk/zzlaws_storage_b1.FnActiveSlotCaseTable", spec := "fnActiveSlotCaseTable", unfollowed := true, recurses := true, apart := false }
def FnActiveSlotCaseTableSaid : Prop := fnActiveSlotCaseTableRow.holds Try.pinned (OpenSpec.ofChange fnActiveSlotCaseTableSpec)

/-- ITS FALSE NEIGHBOUR: 'it returns false'. Refute it at one input. -/
def fnActiveSlotCaseTableWrong : ChangeSpec := { name := "fnActiveSlotCaseTable", fn := fun _ => fun
  | [d1, d2] => { results := [.lit (.bool false)], args := [d1, d2] }
  | _ => none }
def FnActiveSlotCaseTableWrongFalsely : Prop := fnActiveSlotCaseTableRow.holds Try.pinned (OpenSpec.ofChange fnActiveSlotCaseTableWrong)

/-- 'zzlaws_storage_b1.FnActiveSlotSwapPicksSameSlot': WHATEVER THE INPUT: true; the input reads as it did. -/
def fnActiveSlotSwapPicksSameSlotSpec : ChangeSpec := { name := "fnActiveSlotSwapPicksSameSlot", fn := fun _ => fun
  | [d1, d2] => { results := [.lit (.bool true)], args := [d1, d2] }
  | _ => none }
def fnActiveSlotSwapPicksSameSlotRow : OpenClaim := { program := "qxb6602376a", sum := "abb22423ced13dc1f3c644b89e449dc13f46f8331ba20c5c9daa302d77cf905e", func := "example.com/bankwalk/bankwalk/zzlaws_storage_b1.FnActiveSlotSwapPicksSameSlot", spec := "fnActiveSlotSwapPicksSameSlot", unfollowed := true, recurses := true, apart := false }
def FnActiveSlotSwapPicksSameSlotSaid : Prop := fnActiveSlotSwapPicksSameSlotRow.holds Try.pinned (OpenSpec.ofChange fnActiveSlotSwapPicksSameSlotSpec)

/-- ITS FALSE NEIGHBOUR: 'it returns false'. Refute it at one input. -/
def fnActiveSlotSwapPicksSameSlotWrong : ChangeSpec := { name := "fnActiveSlotSwapPicksSameSlot", fn := fun _ => fun
  | [d1, d2] => { results := [.lit (.bool false)], args := [d1, d2] }
  | _ => none }
def FnActiveSlotSwapPicksSameSlotWrongFalsely : Prop := fnActiveSlotSwapPicksSameSlotRow.holds Try.pinned (OpenSpec.ofChange fnActiveSlotSwapPicksSameSlotWrong)

/-- 'zzlaws_storage_b1.FnSlotToReadSpec': WHATEVER THE INPUT: true; the input reads as it did. -/
def fnSlotToReadSpecSpec : ChangeSpec := { name := "fnSlotToReadSpec", fn := fun _ => fun
  | [d1, d2] => { results := [.lit (.bool true)], args := [d1, d2] }
  | _ => none }
def fnSlotToReadSpecRow : OpenClaim := { program := "qxb6602376a", sum := "abb22423ced13dc1f3c644b89e449dc13f46f8331ba20c5c9daa302d77cf905e", func := "example.com/bankwalk/bankwalk/zzlaws_storage_b1.FnSlotToReadSpec", spec := "fnSlotToReadSpec", unfollowed := true, recurses := true, apart := false }
def FnSlotToReadSpecSaid : Prop := fnSlotToReadSpecRow.holds Try.pinned (OpenSpec.ofChange fnSlotToReadSpecSpec)

/-- ITS FALSE NEIGHBOUR: 'it returns false'. Refute it at one input. -/
def fnSlotToReadSpecWrong : ChangeSpec := { name := "fnSlotToReadSpec", fn := fun _ => fun
  | [d1, d2] => { results := [.lit (.bool false)], args := [d1, d2] }
  | _ => none }
def FnSlotToReadSpecWrongFalsely : Prop := fnSlotToReadSpecRow.holds Try.pinned (OpenSpec.ofChange fnSlotToReadSpecWrong)

/-- 'zzlaws_storage_b1.FnSlotToReadSoundAndFromACopy': WHATEVER THE INPUT: true; the input reads as it did. -/
def fnSlotToReadSoundAndFromACopySpec : ChangeSpec := { name := "fnSlotToReadSoundAndFromACopy", fn := fun _ => fun
  | [d1, d2] => { results := [.lit (.bool true)], args := [d1, d2] }
  | _ => none }
def fnSlotToReadSoundAndFromACopyRow : OpenClaim := { program := "qxb6602376a", sum := "abb22423ced13dc1f3c644b89e449dc13f46f8331ba20c5c9daa302d77cf905e", func := "example.com/bankwalk/bankwalk/zzlaws_storage_b1.FnSlotToReadSoundAndFromACopy", spec := "fnSlotToReadSoundAndFromACopy", unfollowed := true, recurses := true, apart := false }
def FnSlotToReadSoundAndFromACopySaid : Prop := fnSlotToReadSoundAndFromACopyRow.holds Try.pinned (OpenSpec.ofChange fnSlotToReadSoundAndFromACopySpec)

/-- ITS FALSE NEIGHBOUR: 'it returns false'. Refute it at one input. -/
def fnSlotToReadSoundAndFromACopyWrong : ChangeSpec := { name := "fnSlotToReadSoundAndFromACopy", fn := fun _ => fun
  | [d1, d2] => { results := [.lit (.bool false)], args := [d1, d2] }
  | _ => none }
def FnSlotToReadSoundAndFromACopyWrongFalsely : Prop := fnSlotToReadSoundAndFromACopyRow.holds Try.pinned (OpenSpec.ofChange fnSlotToReadSoundAndFromACopyWrong)

/-- 'zzlaws_storage_b1.FnSlotToReadIdempotent': WHATEVER THE INPUT: true; the input reads as it did. -/
def fnSlotToReadIdempotentSpec : ChangeSpec := { name := "fnSlotToReadIdempotent", fn := fun _ => fun
  | [d1, d2] => { results := [.lit (.bool true)], args := [d1, d2] }
  | _ => none }
def fnSlotToReadIdempotentRow : OpenClaim := { program := "qxb6602376a", sum := "abb22423ced13dc1f3c644b89e449dc13f46f8331ba20c5c9daa302d77cf905e", func := "example.com/bankwalk/bankwalk/zzlaws_storage_b1.FnSlotToReadIdempotent", spec := "fnSlotToReadIdempotent", unfollowed := true, recurses := true, apart := false }
def FnSlotToReadIdempotentSaid : Prop := fnSlotToReadIdempotentRow.holds Try.pinned (OpenSpec.ofChange fnSlotToReadIdempotentSpec)

/-- ITS FALSE NEIGHBOUR: 'it returns false'. Refute it at one input. -/
def fnSlotToReadIdempotentWrong : ChangeSpec := { name := "fnSlotToReadIdempotent", fn := fun _ => fun
  | [d1, d2] => { results := [.lit (.bool false)], args := [d1, d2] }
  | _ => none }
def FnSlotToReadIdempotentWrongFalsely : Prop := fnSlotToReadIdempotentRow.holds Try.pinned (OpenSpec.ofChange fnSlotToReadIdempotentWrong)

end Rows
end Go.Proofs.Qxb6602376a
