/-
  OWN TEXT, after the guide's shell (proof-skeleton.mjs): the statement 'Rows.FnStoreOnlyTouchesItsKeySaid' out of the walk 'only_walk' (YoebmwOnly.lean). The world behind the call is told by 'Below'; 'post' is given limb by limb.
-/
import Derived.Test.YoebmwOnly
import Derived.WalkKit
import Derived.ProofKit
import Derived.OpenShut
import Derived.ShutString
import Derived.ChangeOld
import Derived.Below
namespace Go.Proofs.Yoebmw
open Go.ChangeShapes Go.WideShapes Go.ChangeAt Go.RowKit
open Go.ChangeMaps (open_string shut_string)
set_option linter.unusedVariables false

theorem only_own : ownKnob Ebmg.prog.godebug = none := by kernel_rfl

set_option maxRecDepth 100000 in
theorem only_lifted (os : Os) (started : os.Started) (H : Type) (enc : TypeId × Value → H) :
    ReturnsInHanded {} Ebmg.checked os 4 .any (Rows.fnStoreOnlyTouchesItsKeySpec.pre6 enc Ebmg.prog Ebmg.f4 Rows.fnStoreOnlyTouchesItsKeyRow.domain false) (Rows.fnStoreOnlyTouchesItsKeySpec.post enc Ebmg.prog Ebmg.f4 false true false false) := by
  refine returnsInHanded_of_change (C := Ebmg.checked) only_own started (by kernel_rfl) Ebmg.func4
    (ChangeSpec.witness6 (enc := enc) (C := Ebmg.checked) false ⟨#[], #[.int .i64 0, .int .i64 0, .string ByteArray.empty, .int .i64 0, .string ByteArray.empty, .int .i64 0, .string ByteArray.empty], []⟩ 8 (by kernel_rfl) (by kernel_rfl) (by kernel_rfl) (by kernel_rfl)) ?_
  intro W base args ds gs before hval0 hW hcnd _
  have hval : ∀ (j : Nat) t v, Ebmg.f4.params[j]? = some t → args[j]? = some v → Value.okWide Ebmg.prog W .any base t v := hval0
  have hW' := hW
  obtain ⟨p, q, hA0, hV, rfl, hfz, hnd⟩ := hW
  have hA : DataW.TrodAll enc Ebmg.prog W 0 (fun _ => true) true Ebmg.f4.params.toList args.toList ds p := hA0
  rw [Ebmg.params4] at hA hval
  obtain ⟨v0, vs0, d0, ds0, p0, q0, hargs, rfl, rfl, h0, r0⟩ := trodAll_cons hA
  obtain ⟨v1, vs1, d1, ds1, p1, q1, rfl, rfl, rfl, h1, r1⟩ := trodAll_cons r0
  obtain ⟨v2, vs2, d2, ds2, p2, q2, rfl, rfl, rfl, h2, r2⟩ := trodAll_cons r1
  obtain ⟨v3, vs3, d3, ds3, p3, q3, rfl, rfl, rfl, h3, r3⟩ := trodAll_cons r2
  obtain ⟨v4, vs4, d4, ds4, p4, q4, rfl, rfl, rfl, h4, r4⟩ := trodAll_cons r3
  obtain ⟨v5, vs5, d5, ds5, p5, q5, rfl, rfl, rfl, h5, r5⟩ := trodAll_cons r4
  obtain ⟨v6, vs6, d6, ds6, p6, q6, rfl, rfl, rfl, h6, r6⟩ := trodAll_cons r5
  obtain ⟨rfl, rfl, rfl⟩ := trodAll_nil r6
  obtain rfl : args = #[v0, v1, v2, v3, v4, v5, v6] := by cases args; simp_all
  obtain ⟨rfl, rfl⟩ := trodVars_none hV
  obtain ⟨a0, rfl, rfl, rfl, w0⟩ := open_int Ebmg.underlying3 (hval 0 3 v0 rfl rfl) h0
  obtain ⟨a1, rfl, rfl, rfl, w1⟩ := open_int Ebmg.underlying3 (hval 1 3 v1 rfl rfl) h1
  obtain ⟨a2, rfl, rfl, rfl, w2⟩ := open_string Ebmg.underlying9 (hval 2 9 v2 rfl rfl) h2
  obtain ⟨a3, rfl, rfl, rfl, w3⟩ := open_int Ebmg.underlying3 (hval 3 3 v3 rfl rfl) h3
  obtain ⟨a4, rfl, rfl, rfl, w4⟩ := open_string Ebmg.underlying9 (hval 4 9 v4 rfl rfl) h4
  obtain ⟨a5, rfl, rfl, rfl, w5⟩ := open_int Ebmg.underlying3 (hval 5 3 v5 rfl rfl) h5
  obtain ⟨a6, rfl, rfl, rfl, w6⟩ := open_string Ebmg.underlying9 (hval 6 9 v6 rfl rfl) h6
  clear hA0 hval0
  refine (only_walk a0 a1 a2 a3 a4 a5 a6 W w2 w4 w6).mono fun e W' ⟨he, bel⟩ => ?_
  subst he
  exact ⟨_, rfl, _, _, _, [], _, [], hW', trodAll_mk1 (shut_bool Ebmg.underlying4 _), (trodAll_cons_mk (shut_int Ebmg.underlying3 w0) (trodAll_cons_mk (shut_int Ebmg.underlying3 w1) (trodAll_cons_mk (shut_string Ebmg.underlying9 w2) (trodAll_cons_mk (shut_int Ebmg.underlying3 w3) (trodAll_cons_mk (shut_string Ebmg.underlying9 w4) (trodAll_cons_mk (shut_int Ebmg.underlying3 w5) (trodAll_cons_mk (shut_string Ebmg.underlying9 w6) trodAll_mk0))))))), rfl, bel.frame _, fun h => by cases h⟩

theorem only_over : Rows.fnStoreOnlyTouchesItsKeyRow.holds Ebmg.pinned (OpenSpec.ofChange Rows.fnStoreOnlyTouchesItsKeySpec) :=
  OpenClaim.holds_of_wide 4 Ebmg.f4 rfl rfl rfl rfl rfl rfl rfl ⟨rfl, rfl, rfl, rfl, rfl⟩ rfl rfl rfl rfl rfl (by kernel_rfl) Ebmg.func4 (by kernel_rfl)
    (of_decide_eq_true (by kernel_rfl)) (by unfold Func.isWrapper; first | (rw [if_pos (by decide +kernel)]; kernel_rfl) | (rw [if_neg (by decide +kernel)]; exact ⟨rfl, rfl⟩))
    (fun os started H enc _ => only_lifted os started H enc)

/-- THE STATEMENT. -/
theorem fnStoreOnlyTouchesItsKey_proved : Rows.FnStoreOnlyTouchesItsKeySaid :=
  only_over

end Go.Proofs.Yoebmw
