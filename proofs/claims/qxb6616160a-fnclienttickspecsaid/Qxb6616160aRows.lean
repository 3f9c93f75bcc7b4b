/-
  No cell of these rows narrows 'for every input' (looked for: loops, veiled, ifaces, maps, wideKeys, modest, calm, conditions, laid).
  DERIVED. THE GIVEN ROWS OF THIS SEAT. 3 by the template 'for every input the law returns true; each argument reads behind the call as it read before'; 0 by the template 'total and deterministic' (their statements: Qxb6616160aTotals.lean).
  GIVEN WITH THE SEED: the statements are not yours to turn. If you find one false, say at which input.
  Laid BY PROGRAM, IN A SANDBOX (cutbox-rows.mjs): the forced cells as the released guide's own fill.sh prints them over the translation b7e91bb0139b49b8… (all of the seat's roots in one cut). By AI agents, Wed Nov 11 2026. No macro, syntax, notation, axiom, sorry.
-/
import Derived.Test.Qxb6616160aChecked
import GoSem.Claim
import GoSem.ClaimJoined
import GoSem.ClaimMapViews
import Derived.JoinedTies
import Derived.KernelRfl
namespace Go.Proofs.Qxb6616160a
/- THE CELL 'sum', in the pinned program and in every row, IS THE sha256 OF THE DUMP (.gsa) THAT Qxb6616160aProg.lean LOADS. Nothing in Lean hashes anything: it is a label: what it is worth is what the hold of that sum in a sandbox is worth. -/
noncomputable def Try.pinned : Pinned := { name := "qxb6616160a", sum := "b7e91bb0139b49b880269d616ef86d2d842c670c4810322ad9309472f7614906", checked := Try.checked }
namespace Rows
def none {H : Type} : Left H := { results := [], args := [] }

/-- 'zzlaws_pkg_kv_b1.FnRoomSpareRenewed': WHATEVER THE INPUT: true; the input reads as it did. -/
def fnRoomSpareRenewedSpec : ChangeSpec := { name := "fnRoomSpareRenewed", fn := fun _ => fun
  | [d1, d2] => { results := [.lit (.bool true)], args := [d1, d2] }
  | _ => none }
def fnRoomSpareRenewedRow : OpenClaim := { program := "qxb6616160a", sum := "b7e91bb0139b49b880269d616ef86d2d842c670c4810322ad9309472f7614906", func := "example.com/keelhold/keelhold/zzlaws_pkg_kv_b1.FnRoomSpareRenewed", spec := "fnRoomSpareRenewed", apart := false }
def FnRoomSpareRenewedSaid : Prop := fnRoomSpareRenewedRow.holds Try.pinned (OpenSpec.ofChange fnRoomSpareRenewedSpec)

/-- ITS FALSE NEIGHBOUR: 'it returns false'. Refute it at one input. -/
def fnRoomSpareRenewedWrong : ChangeSpec := { name := "fnRoomSpareRenewed", fn := fun _ => fun
  | [d1, d2] => { results := [.lit (.bool false)], args := [d1, d2] }
  | _ => none }
def FnRoomSpareRenewedWrongFalsely : Prop := fnRoomSpareRenewedRow.holds Try.pinned (OpenSpec.ofChange fnRoomSpareRenewedWrong)

/-- 'zzlaws_pkg_kv_b1.FnClientTickSpec': WHATEVER THE INPUT: true; the input reads as it did. -/
def fnClientTickSpecSpec : ChangeSpec := { name := "fnClientTickSpec", fn := fun _ => fun
  | [d1, d2, d3, d4] => { results := [.lit (.bool true)], args := [d1, d2, d3, d4] }
  | _ => none }
def fnClientTickSpecRow : OpenClaim := { program := "qxb6616160a", sum := "b7e91bb0139b49b880269d616ef86d2d842c670c4810322ad9309472f7614906", func := "example.com/keelhold/keelhold/zzlaws_pkg_kv_b1.FnClientTickSpec", spec := "fnClientTickSpec", unfollowed := true, recurses := true, apart := false }
def FnClientTickSpecSaid : Prop := fnClientTickSpecRow.holds Try.pinned (OpenSpec.ofChange fnClientTickSpecSpec)

/-- ITS FALSE NEIGHBOUR: 'it returns false'. Refute it at one input. -/
def fnClientTickSpecWrong : ChangeSpec := { name := "fnClientTickSpec", fn := fun _ => fun
  | [d1, d2, d3, d4] => { results := [.lit (.bool false)], args := [d1, d2, d3, d4] }
  | _ => none }
def FnClientTickSpecWrongFalsely : Prop := fnClientTickSpecRow.holds Try.pinned (OpenSpec.ofChange fnClientTickSpecWrong)

/-- 'zzlaws_pkg_kv_b1.FnClientTickTwiceAsOnce': WHATEVER THE INPUT: true; the input reads as it did. -/
def fnClientTickTwiceAsOnceSpec : ChangeSpec := { name := "fnClientTickTwiceAsOnce", fn := fun _ => fun
  | [d1, d2, d3, d4, d5] => { results := [.lit (.bool true)], args := [d1, d2, d3, d4, d5] }
  | _ => none }
def fnClientTickTwiceAsOnceRow : OpenClaim := { program := "qxb6616160a", sum := "b7e91bb0139b49b880269d616ef86d2d842c670c4810322ad9309472f7614906", func := "example.com/keelhold/keelhold/zzlaws_pkg_kv_b1.FnClientTickTwiceAsOnce", spec := "fnClientTickTwiceAsOnce", unfollowed := true, recurses := true, apart := false }
def FnClientTickTwiceAsOnceSaid : Prop := fnClientTickTwiceAsOnceRow.holds Try.pinned (OpenSpec.ofChange fnClientTickTwiceAsOnceSpec)

/-- ITS FALSE NEIGHBOUR: 'it returns false'. Refute it at one input. -/
def fnClientTickTwiceAsOnceWrong : ChangeSpec := { name := "fnClientTickTwiceAsOnce", fn := fun _ => fun
  | [d1, d2, d3, d4, d5] => { results := [.lit (.bool false)], args := [d1, d2, d3, d4, d5] }
  | _ => none }
def FnClientTickTwiceAsOnceWrongFalsely : Prop := fnClientTickTwiceAsOnceRow.holds Try.pinned (OpenSpec.ofChange fnClientTickTwiceAsOnceWrong)

end Rows
end Go.Proofs.Qxb6616160a
