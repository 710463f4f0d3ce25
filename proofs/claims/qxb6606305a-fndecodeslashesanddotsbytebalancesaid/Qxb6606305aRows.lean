/-
  No cell of these rows narrows 'for every input' (looked for: loops, veiled, ifaces, maps, wideKeys, modest, calm, conditions, laid).
  DERIVED. THE GIVEN ROWS OF THIS SEAT. 3 by the template 'for every input the law returns true; each argument reads behind the call as it read before'; 0 by the template 'total and deterministic' (their statements: Qxb6606305aTotals.lean).
  GIVEN WITH THE SEED: the statements are not yours to turn. If you find one false, say at which input.
  Laid BY PROGRAM, IN A SANDBOX (cutbox-rows.mjs): the forced cells as the released guide's own fill.sh prints them over the translation 62dd4cd67a697cc2… (all of the seat's roots in one cut). By AI agents, Wed Nov 11 2026. No macro, syntax, notation, axiom, sorry.
-/
import Derived.Test.Qxb6606305aChecked
import GoSem.Claim
import GoSem.ClaimJoined
import GoSem.ClaimMapViews
import Derived.JoinedTies
import Derived.KernelRfl
namespace Go.Proofs.Qxb6606305a
/- THE CELL 'sum', in the pinned program and in every row, IS THE sha256 OF THE DUMP (.gsa) THAT Qxb6606305aProg.lean LOADS. Nothing in Lean hashes anything: it is a label: what it is worth is what the hold of that sum in a sandbox is worth. -/
noncomputable def Try.pinned : Pinned := { name := "qxb6606305a", sum := "62dd4cd67a697cc2c6354d2ba6a079a898f43740529b0896ba2aab3a95cb5a9f", checked := Try.checked }
namespace Rows
def none {H : Type} : Left H := { results := [], args := [] }

/-- 'zzlaws_root_b1.FnDecodeSlashesAndDotsMatchesModel': WHATEVER THE INPUT: true; the input reads as it did. -/
def fnDecodeSlashesAndDotsMatchesModelSpec : ChangeSpec := { name := "fnDecodeSlashesAndDotsMatchesModel", fn := fun _ => fun
  | [d] => { results := [.lit (.bool true)], args := [d] }
  | _ => none }
def fnDecodeSlashesAndDotsMatchesModelRow : OpenClaim := { program := "qxb6606305a", sum := "62dd4cd67a697cc2c6354d2ba6a079a898f43740529b0896ba2aab3a95cb5a9f", func := "example.com/civil-throttle/civil-throttle/zzlaws_root_b1.FnDecodeSlashesAndDotsMatchesModel", spec := "fnDecodeSlashesAndDotsMatchesModel", inPlace := ["internal/bytealg.IndexByteString", "internal/bytealg.IndexString", "internal/abi.NoEscape", "internal/bytealg.MakeNoZero"], named := ["internal/bytealg.MaxLen"], apart := false }
def FnDecodeSlashesAndDotsMatchesModelSaid : Prop := fnDecodeSlashesAndDotsMatchesModelRow.holds Try.pinned (OpenSpec.ofChange fnDecodeSlashesAndDotsMatchesModelSpec)

/-- ITS FALSE NEIGHBOUR: 'it returns false'. Refute it at one input. -/
def fnDecodeSlashesAndDotsMatchesModelWrong : ChangeSpec := { name := "fnDecodeSlashesAndDotsMatchesModel", fn := fun _ => fun
  | [d] => { results := [.lit (.bool false)], args := [d] }
  | _ => none }
def FnDecodeSlashesAndDotsMatchesModelWrongFalsely : Prop := fnDecodeSlashesAndDotsMatchesModelRow.holds Try.pinned (OpenSpec.ofChange fnDecodeSlashesAndDotsMatchesModelWrong)

/-- 'zzlaws_root_b1.FnDecodeSlashesAndDotsIdempotent': WHATEVER THE INPUT: true; the input reads as it did. -/
def fnDecodeSlashesAndDotsIdempotentSpec : ChangeSpec := { name := "fnDecodeSlashesAndDotsIdempotent", fn := fun _ => fun
  | [d] => { results := [.lit (.bool true)], args := [d] }
  | _ => none }
def fnDecodeSlashesAndDotsIdempotentRow : OpenClaim := { program := "qxb6606305a", sum := "62dd4cd67a697cc2c6354d2ba6a079a898f43740529b0896ba2aab3a95cb5a9f", func := "example.com/civil-throttle/civil-throttle/zzlaws_root_b1.FnDecodeSlashesAndDotsIdempotent", spec := "fnDecodeSlashesAndDotsIdempotent", inPlace := ["internal/bytealg.IndexByteString", "internal/bytealg.IndexString", "internal/abi.NoEscape", "internal/bytealg.MakeNoZero"], named := ["internal/bytealg.MaxLen"], apart := false }
def FnDecodeSlashesAndDotsIdempotentSaid : Prop := fnDecodeSlashesAndDotsIdempotentRow.holds Try.pinned (OpenSpec.ofChange fnDecodeSlashesAndDotsIdempotentSpec)

/-- ITS FALSE NEIGHBOUR: 'it returns false'. Refute it at one input. -/
def fnDecodeSlashesAndDotsIdempotentWrong : ChangeSpec := { name := "fnDecodeSlashesAndDotsIdempotent", fn := fun _ => fun
  | [d] => { results := [.lit (.bool false)], args := [d] }
  | _ => none }
def FnDecodeSlashesAndDotsIdempotentWrongFalsely : Prop := fnDecodeSlashesAndDotsIdempotentRow.holds Try.pinned (OpenSpec.ofChange fnDecodeSlashesAndDotsIdempotentWrong)

/-- 'zzlaws_root_b1.FnDecodeSlashesAndDotsByteBalance': WHATEVER THE INPUT: true; the input reads as it did. -/
def fnDecodeSlashesAndDotsByteBalanceSpec : ChangeSpec := { name := "fnDecodeSlashesAndDotsByteBalance", fn := fun _ => fun
  | [d] => { results := [.lit (.bool true)], args := [d] }
  | _ => none }
def fnDecodeSlashesAndDotsByteBalanceRow : OpenClaim := { program := "qxb6606305a", sum := "62dd4cd67a697cc2c6354d2ba6a079a898f43740529b0896ba2aab3a95cb5a9f", func := "example.com/civil-throttle/civil-throttle/zzlaws_root_b1.FnDecodeSlashesAndDotsByteBalance", spec := "fnDecodeSlashesAndDotsByteBalance", inPlace := ["internal/bytealg.IndexByteString", "internal/bytealg.IndexString", "internal/abi.NoEscape", "internal/bytealg.MakeNoZero"], named := ["internal/bytealg.MaxLen"], apart := false }
def FnDecodeSlashesAndDotsByteBalanceSaid : Prop := fnDecodeSlashesAndDotsByteBalanceRow.holds Try.pinned (OpenSpec.ofChange fnDecodeSlashesAndDotsByteBalanceSpec)

/-- ITS FALSE NEIGHBOUR: 'it returns false'. Refute it at one input. -/
def fnDecodeSlashesAndDotsByteBalanceWrong : ChangeSpec := { name := "fnDecodeSlashesAndDotsByteBalance", fn := fun _ => fun
  | [d] => { results := [.lit (.bool false)], args := [d] }
  | _ => none }
def FnDecodeSlashesAndDotsByteBalanceWrongFalsely : Prop := fnDecodeSlashesAndDotsByteBalanceRow.holds Try.pinned (OpenSpec.ofChange fnDecodeSlashesAndDotsByteBalanceWrong)

end Rows
end Go.Proofs.Qxb6606305a
