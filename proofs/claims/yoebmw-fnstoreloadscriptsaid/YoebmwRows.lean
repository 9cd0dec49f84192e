/-
  No cell of these rows narrows 'for every input' (looked for: loops, veiled, ifaces, maps, wideKeys, modest, calm, conditions, laid).
  DERIVED. THE GIVEN ROWS OF THIS SEAT. 2 by the template 'for every input the law returns true; each argument reads behind the call as it read before'; 0 by the template 'total and deterministic' (their statements: YoebmwTotals.lean).
  GIVEN WITH THE SEED: the statements are not yours to turn. If you find one false, say at which input.
  Laid BY PROGRAM, IN A SANDBOX (cutbox-rows.mjs): the forced cells as the released guide's own fill.sh prints them over the translation 0632b28edbde41d4… (all of the seat's roots in one cut). By AI agents, Wed Nov 11 2026. No macro, syntax, notation, axiom, sorry.
-/
import Derived.Test.YoebmwChecked
import GoSem.Claim
import GoSem.ClaimJoined
import GoSem.ClaimMapViews
import Derived.JoinedTies
import Derived.KernelRfl
namespace Go.Proofs.Yoebmw
/- THE CELL 'sum', in the pinned program and in every row, IS THE sha256 OF THE DUMP (.gsa) THAT YoebmwProg.lean LOADS. Nothing in Lean hashes anything: it is a label: what it is worth is what the hold of that sum in a sandbox is worth. -/
noncomputable def Ebmg.pinned : Pinned := { name := "yoebmw", sum := "0632b28edbde41d4702fa77245547bbf1c999c6105e9f46297223a2ccf2e9e1d", checked := Ebmg.checked }
namespace Rows
def none {H : Type} : Left H := { results := [], args := [] }

/-- 'zzlaws_root_b1.FnStoreLoadScript': WHATEVER THE INPUT: true; the input reads as it did. -/
def fnStoreLoadScriptSpec : ChangeSpec := { name := "fnStoreLoadScript", fn := fun _ => fun
  | [d1, d2, d3, d4, d5, d6] => { results := [.lit (.bool true)], args := [d1, d2, d3, d4, d5, d6] }
  | _ => none }
def fnStoreLoadScriptRow : OpenClaim := { program := "yoebmw", sum := "0632b28edbde41d4702fa77245547bbf1c999c6105e9f46297223a2ccf2e9e1d", func := "github.com/d5/tengo/v2/zzlaws_root_b1.FnStoreLoadScript", spec := "fnStoreLoadScript", recurses := true, apart := false }
def FnStoreLoadScriptSaid : Prop := fnStoreLoadScriptRow.holds Ebmg.pinned (OpenSpec.ofChange fnStoreLoadScriptSpec)

/-- ITS FALSE NEIGHBOUR: 'it returns false'. Refute it at one input. -/
def fnStoreLoadScriptWrong : ChangeSpec := { name := "fnStoreLoadScript", fn := fun _ => fun
  | [d1, d2, d3, d4, d5, d6] => { results := [.lit (.bool false)], args := [d1, d2, d3, d4, d5, d6] }
  | _ => none }
def FnStoreLoadScriptWrongFalsely : Prop := fnStoreLoadScriptRow.holds Ebmg.pinned (OpenSpec.ofChange fnStoreLoadScriptWrong)

/-- 'zzlaws_root_b1.FnStoreOnlyTouchesItsKey': WHATEVER THE INPUT: true; the input reads as it did. -/
def fnStoreOnlyTouchesItsKeySpec : ChangeSpec := { name := "fnStoreOnlyTouchesItsKey", fn := fun _ => fun
  | [d1, d2, d3, d4, d5, d6, d7] => { results := [.lit (.bool true)], args := [d1, d2, d3, d4, d5, d6, d7] }
  | _ => none }
def fnStoreOnlyTouchesItsKeyRow : OpenClaim := { program := "yoebmw", sum := "0632b28edbde41d4702fa77245547bbf1c999c6105e9f46297223a2ccf2e9e1d", func := "github.com/d5/tengo/v2/zzlaws_root_b1.FnStoreOnlyTouchesItsKey", spec := "fnStoreOnlyTouchesItsKey", recurses := true, apart := false }
def FnStoreOnlyTouchesItsKeySaid : Prop := fnStoreOnlyTouchesItsKeyRow.holds Ebmg.pinned (OpenSpec.ofChange fnStoreOnlyTouchesItsKeySpec)

/-- ITS FALSE NEIGHBOUR: 'it returns false'. Refute it at one input. -/
def fnStoreOnlyTouchesItsKeyWrong : ChangeSpec := { name := "fnStoreOnlyTouchesItsKey", fn := fun _ => fun
  | [d1, d2, d3, d4, d5, d6, d7] => { results := [.lit (.bool false)], args := [d1, d2, d3, d4, d5, d6, d7] }
  | _ => none }
def FnStoreOnlyTouchesItsKeyWrongFalsely : Prop := fnStoreOnlyTouchesItsKeyRow.holds Ebmg.pinned (OpenSpec.ofChange fnStoreOnlyTouchesItsKeyWrong)

end Rows
end Go.Proofs.Yoebmw
