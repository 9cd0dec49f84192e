/-
  OWN TEXT, after the guide's shells (proof-skeleton.mjs): the statement 'Rows.FnStoreLoadScriptSaid' out of the walk 'script_walk' (YoebmwScriptOut.lean). The world behind the call is told by 'Below'; 'post' is given limb by limb.
-/
import Derived.Test.YoebmwScriptOut
import Derived.WalkKit
import Derived.ProofKit
import Derived.OpenShut
import Derived.ShutString
import Derived.SliceStrings
import Derived.ChangeOld
import Derived.Below
namespace Go.Proofs.Yoebmw
open Go.ChangeShapes Go.WideShapes Go.ChangeAt Go.RowKit
open Go.ChangeMaps (open_string shut_string)
set_option linter.unusedVariables false

theorem script_own : ownKnob Ebmg.prog.godebug = none := by kernel_rfl
theorem script_laidOut : laidOutB Ebmg.prog = true := by kernel_rfl
theorem script_size3 : (Ebmg.prog.info? 3).map (·.size) = some 1 := by kernel_rfl
theorem script_size9 : (Ebmg.prog.info? 9).map (·.size) = some 1 := by kernel_rfl

/-- A []int that came in. -/
theorem ints_in {H : Type} {enc : TypeId × Value → H} {W : World} {a : Option Addr} {len cap : Nat} {x : DataW H} {p : List MemPlace} (h : DataW.Trod enc Ebmg.prog W 0 (fun _ => true) true 22 (.slice a len cap) x p) :
    ∃ D : Nat → Int, Cells W 22 a len cap (fun i => .int .i64 (D i)) ∧ len ≤ maxLen := by
  obtain ⟨fuel, hf⟩ := h
  rcases open_ints Ebmg.underlying22 Ebmg.underlying3 (by kernel_rfl) hf with ⟨hcs, _⟩ | ⟨y, l, c, zs, hcs, _, hl, hm, hz, _, hcell, hwz⟩
  · simp [Value.cells] at hcs
    obtain ⟨rfl, rfl, rfl⟩ := hcs
    exact ⟨fun _ => 0, cells_nil _ _ _, Nat.zero_le _⟩
  · simp [Value.cells] at hcs
    obtain ⟨rfl, rfl, rfl⟩ := hcs
    have hz' : zs.length = cap := by simpa using hz
    exact ⟨fun i => zs.getD i 0, cells_of Ebmg.underlying22 script_size3 (fun i hi => hcell i (by omega)), Nat.le_trans hl hm⟩

/-- A []string that came in. -/
theorem strs_in {H : Type} {enc : TypeId × Value → H} {W : World} {a : Option Addr} {len cap : Nat} {x : DataW H} {p : List MemPlace} (h : DataW.Trod enc Ebmg.prog W 0 (fun _ => true) true 23 (.slice a len cap) x p) :
    ∃ S : Nat → ByteArray, Cells W 23 a len cap (fun i => .string (S i)) ∧ (∀ i, i < len → (S i).size ≤ maxLen) ∧ len ≤ maxLen := by
  obtain ⟨fuel, hf⟩ := h
  rcases open_strings Ebmg.underlying23 Ebmg.underlying9 (by kernel_rfl) hf with ⟨hcs, _⟩ | ⟨y, l, c, ss, hcs, _, hl, hm, hz, _, hcell, hws⟩
  · simp [Value.cells] at hcs
    obtain ⟨rfl, rfl, rfl⟩ := hcs
    exact ⟨fun _ => ByteArray.empty, cells_nil _ _ _, fun i hi => by omega, Nat.zero_le _⟩
  · simp [Value.cells] at hcs
    obtain ⟨rfl, rfl, rfl⟩ := hcs
    have hz' : ss.length = cap := by simpa using hz
    refine ⟨fun i => ss.getD i ByteArray.empty, cells_of Ebmg.underlying23 script_size9 (fun i hi => hcell i (by omega)), fun i hi => ?_, Nat.le_trans hl hm⟩
    have hi' : i < ss.length := by omega
    have e : ss.getD i ByteArray.empty = ss[i] := by simp [hi']
    show (ss.getD i ByteArray.empty).size ≤ maxLen
    rw [e]
    exact hws _ (List.getElem_mem hi')

set_option maxRecDepth 100000 in
theorem script_lifted (os : Os) (started : os.Started) (H : Type) (enc : TypeId × Value → H) :
    ReturnsInHanded {} Ebmg.checked os 3 .any (Rows.fnStoreLoadScriptSpec.pre6 enc Ebmg.prog Ebmg.f3 Rows.fnStoreLoadScriptRow.domain false) (Rows.fnStoreLoadScriptSpec.post enc Ebmg.prog Ebmg.f3 false true false false) := by
  refine returnsInHanded_of_change (C := Ebmg.checked) script_own started (by kernel_rfl) Ebmg.func3
    (ChangeSpec.witness6 (enc := enc) (C := Ebmg.checked) false ⟨#[], #[.int .i64 0, .slice none 0 0, .slice none 0 0, .slice none 0 0, .int .i64 0, .string ByteArray.empty], []⟩ 8 (by kernel_rfl) (by kernel_rfl) (by kernel_rfl) (by kernel_rfl)) ?_
  intro W base args ds gs before hval0 hW hcnd _
  have hval : ∀ (j : Nat) t v, Ebmg.f3.params[j]? = some t → args[j]? = some v → Value.okWide Ebmg.prog W .any base t v := hval0
  have hW' := hW
  obtain ⟨p, q, hA0, hV, rfl, hfz, hnd⟩ := hW
  have hA : DataW.TrodAll enc Ebmg.prog W 0 (fun _ => true) true Ebmg.f3.params.toList args.toList ds p := hA0
  rw [Ebmg.params3] at hA hval
  obtain ⟨v0, vs0, d0, ds0, p0, q0, hargs, rfl, rfl, h0, r0⟩ := trodAll_cons hA
  obtain ⟨v1, vs1, d1, ds1, p1, q1, rfl, rfl, rfl, h1, r1⟩ := trodAll_cons r0
  obtain ⟨v2, vs2, d2, ds2, p2, q2, rfl, rfl, rfl, h2, r2⟩ := trodAll_cons r1
  obtain ⟨v3, vs3, d3, ds3, p3, q3, rfl, rfl, rfl, h3, r3⟩ := trodAll_cons r2
  obtain ⟨v4, vs4, d4, ds4, p4, q4, rfl, rfl, rfl, h4, r4⟩ := trodAll_cons r3
  obtain ⟨v5, vs5, d5, ds5, p5, q5, rfl, rfl, rfl, h5, r5⟩ := trodAll_cons r4
  obtain ⟨rfl, rfl, rfl⟩ := trodAll_nil r5
  obtain rfl : args = #[v0, v1, v2, v3, v4, v5] := by cases args; simp_all
  obtain ⟨rfl, rfl⟩ := trodVars_none hV
  obtain ⟨a0, rfl, rfl, rfl, w0⟩ := open_int Ebmg.underlying3 (hval 0 3 v0 rfl rfl) h0
  obtain ⟨a1, len1, cap1, rfl⟩ := okWide_slice Ebmg.underlying22 (hval 1 22 v1 rfl rfl)
  have lt1 : ∀ x ∈ p1, x.block < W.heap.size := by obtain ⟨m, hm⟩ := h1; exact DataW.trod_lt m _ _ _ hm
  obtain ⟨D, c1, l1⟩ := ints_in h1
  obtain ⟨a2, len2, cap2, rfl⟩ := okWide_slice Ebmg.underlying23 (hval 2 23 v2 rfl rfl)
  have lt2 : ∀ x ∈ p2, x.block < W.heap.size := by obtain ⟨m, hm⟩ := h2; exact DataW.trod_lt m _ _ _ hm
  obtain ⟨S, c2, hS, l2⟩ := strs_in h2
  obtain ⟨a3, len3, cap3, rfl⟩ := okWide_slice Ebmg.underlying22 (hval 3 22 v3 rfl rfl)
  have lt3 : ∀ x ∈ p3, x.block < W.heap.size := by obtain ⟨m, hm⟩ := h3; exact DataW.trod_lt m _ _ _ hm
  obtain ⟨I, c3, l3⟩ := ints_in h3
  obtain ⟨a4, rfl, rfl, rfl, w4⟩ := open_int Ebmg.underlying3 (hval 4 3 v4 rfl rfl) h4
  obtain ⟨a5, rfl, rfl, rfl, w5⟩ := open_string Ebmg.underlying9 (hval 5 9 v5 rfl rfl) h5
  clear hA0 hval0
  refine (script_walk a0 a4 a1 a2 a3 len1 cap1 len2 cap2 len3 cap3 a5 D I S W c1 c2 c3 hS l1 l2 l3 w5).mono fun e W' ⟨he, bel⟩ => ?_
  subst he
  exact ⟨_, rfl, _, _, _, [], _, [], hW', trodAll_mk1 (shut_bool Ebmg.underlying4 _), (trodAll_cons_mk (shut_int Ebmg.underlying3 w0) (trodAll_cons_mk (Below.trod script_laidOut (by kernel_rfl) (of_decide_eq_true (by kernel_rfl)) h1 bel lt1) (trodAll_cons_mk (Below.trod script_laidOut (by kernel_rfl) (of_decide_eq_true (by kernel_rfl)) h2 bel lt2) (trodAll_cons_mk (Below.trod script_laidOut (by kernel_rfl) (of_decide_eq_true (by kernel_rfl)) h3 bel lt3) (trodAll_cons_mk (shut_int Ebmg.underlying3 w4) (trodAll_cons_mk (shut_string Ebmg.underlying9 w5) trodAll_mk0)))))), rfl, bel.frame _, fun h => by cases h⟩

theorem script_over : Rows.fnStoreLoadScriptRow.holds Ebmg.pinned (OpenSpec.ofChange Rows.fnStoreLoadScriptSpec) :=
  OpenClaim.holds_of_wide 3 Ebmg.f3 rfl rfl rfl rfl rfl rfl rfl ⟨rfl, rfl, rfl, rfl, rfl⟩ rfl rfl rfl rfl rfl (by kernel_rfl) Ebmg.func3 (by kernel_rfl)
    (of_decide_eq_true (by kernel_rfl)) (by unfold Func.isWrapper; first | (rw [if_pos (by decide +kernel)]; kernel_rfl) | (rw [if_neg (by decide +kernel)]; exact ⟨rfl, rfl⟩))
    (fun os started H enc _ => script_lifted os started H enc)

/-- THE STATEMENT. -/
theorem fnStoreLoadScript_proved : Rows.FnStoreLoadScriptSaid :=
  script_over

end Go.Proofs.Yoebmw
