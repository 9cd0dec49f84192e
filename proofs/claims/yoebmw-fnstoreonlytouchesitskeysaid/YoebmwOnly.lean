/-
  OWN TEXT. The walk of FnStoreOnlyTouchesItsKey (4): it returns true, and nothing that was there has turned.
-/
import Derived.Test.YoebmwBuilt
import Derived.LaidEqlPtr
namespace Go.Proofs.Yoebmw
open Go.RowKit Go.Maps

set_option maxHeartbeats 400000 in
theorem bytes_only (a0 : Int) (a1 : Int) (a2 : ByteArray) (a3 : Int) (a4 : ByteArray) (a5 : Int) (a6 : ByteArray) (w : World) (w2 : a2.size ≤ maxLen) (w4 : a4.size ≤ maxLen) (w6 : a6.size ≤ maxLen) :
    Calls Ebmg.prog 11 #[.int .i64 a0, .int .i64 a1, .string a2, .int .i64 a3, .string a4, .int .i64 a5, .string a6] w fun e w' => (∃ b, e = .returned (.bool b)) ∧ w = w' := by
  unfold maxLen at w2 w4 w6
  go_enter Ebmg.func11, Ebmg.ntmps11
  go_wp2
  all_goals (go_ret; exact ⟨⟨_, rfl⟩, rfl⟩)

def objA : Obj := .cells #[.slice none 0 0, .int .i64 1, .int .i64 0, .bool false, .map none, .slice none 0 0] 37
def objB : Obj := .cells #[.slice none 0 0, .int .i64 2, .int .i64 0, .bool false, .map none, .slice none 0 0] 37

theorem eql30 (a : Addr) (w : World) : (binOp .eql 30 (.pointer (some a)) (.pointer (some a))).run Ebmg.prog w = .ok (.bool true) w := by
  have h : (Ebmg.prog.info? 37).isSome = true := by kernel_rfl
  obtain ⟨j, hj⟩ := Option.isSome_iff_exists.1 h
  exact run_eql_ptr_same w a Ebmg.underlying30 hj

theorem bytes_ne {a b : ByteArray} (h : ¬ a = b) : (a.toList == b.toList) = false := by
  rw [beq_eq_false_iff_ne]
  intro e
  rw [ByteArray.toList_eq, ByteArray.toList_eq] at e
  exact h (WideShapes.bytes_inj e)

theorem info27 : (Ebmg.prog.info? 27).map (fun i => (i.zero, i.size, i.bytes)) = some (some (.pointer none), 1, 8) := by kernel_rfl

set_option maxRecDepth 100000 in
set_option maxHeartbeats 400000 in
theorem only_main (n : Nat) (a1 : Int) (a2 : ByteArray) (a3 : Int) (a4 : ByteArray) (a5 : Int) (a6 : ByteArray) (w : World) (hn : (n : Int) ≤ 4096) (w2 : (a2.size : Int) ≤ 65536) (w4 : (a4.size : Int) ≤ 65536) (w6 : (a6.size : Int) ≤ 65536) :
    Calls Ebmg.prog 4 #[.int .i64 n, .int .i64 a1, .string a2, .int .i64 a3, .string a4, .int .i64 a5, .string a6] w fun e w' => e = .returned (.bool true) ∧ Below w.heap.size w w' := by
  have hmk := run_make_row' (P := Ebmg.prog) 26 27 (.pointer none) 8 Ebmg.underlying26 info27 rfl .i64 .i64 (n + 1) (by omega) (by omega)
  have ec : ((n + 1 : Nat) : Int) = (n : Int) + 1 := by omega
  rw [ec] at hmk
  clear ec
  go_enter Ebmg.func4, Ebmg.ntmps4
  go_wp2_with fail
  refine (bytes_only _ _ _ _ _ _ _ _ (by unfold maxLen; omega) (by unfold maxLen; omega) (by unfold maxLen; omega)).mono ?_
  rintro e w' ⟨⟨b, rfl⟩, rfl⟩
  cases b
  · go_wp2_with fail
    go_ret
    exact ⟨rfl, Below.refl _ _⟩
  · go_wp2_with fail
    refine (node_new none _ _ (w.heap.size + 1) (by simp)).mono ?_
    rintro e w1 ⟨rfl, hnew⟩
    obtain ⟨B, hB⟩ : ∃ B, w.heap.size = B := ⟨_, rfl⟩
    rw [hB] at hnew
    have hr := World.rowIs_made w (.pointer none) (n + 1) 27
    rw [hB] at hr
    have hr1 := hr.of_block (hnew.old B (by omega))
    have c0 := hr1.cell (i := 0) (by omega)
    have f0 := hr1.frozen 0
    have hbu := built_start hB hnew
    rw [← hB] at c0 f0 hbu
    clear hr hr1 hnew hB B
    go_wp2_with fail
    go_loopw [16] (fun i wr => ∃ j : Nat, j ≤ n ∧ i = .int .i64 ((j : Int) + 1) ∧ Built w wr w.heap.size n (j + 1)) (fun i _ => n + 1 - (intOf i).toNat)
    case atStart => exact ⟨0, Nat.zero_le _, rfl, hbu⟩
    case round =>
      clear hbu c0 f0 hmk
      obtain ⟨j, hj, rfl, hb⟩ := hrel
      by_cases hlt : j < n
      · have hlt' : (j : Int) + 1 ≤ (n : Int) := by omega
        have cj := hb.row.cell (i := j) (by omega)
        rw [if_pos (by omega)] at cj
        have hz := hb.size
        go_wp2_with fail
        refine (node_new _ _ _ _ hz).mono ?_
        rintro e w1 ⟨rfl, hnew⟩
        have c1 := (hb.row.of_block (hnew.old w.heap.size (by omega))).cell (i := j + 1) (by omega)
        rw [if_neg (by omega)] at c1
        have f1 := (hb.row.of_block (hnew.old w.heap.size (by omega))).frozen (j + 1)
        have hb2 := built_step hb hnew
        clear hb hz cj hnew
        go_wp2_with fail
        go_roundw
        case rel => exact ⟨j + 1, by omega, by go_num, hb2⟩
        case measure => simp [intOf]; omega
      · obtain rfl : n = j := by omega
        clear hlt hj
        obtain ⟨V, hV⟩ : ∃ V, wr.heap.size = V := ⟨_, rfl⟩
        have hN := (hb.nodes.alloc objA).alloc objB
        have hR := (hb.row.alloc objA).alloc objB
        have hs1 : w.heap.size ≤ wr.heap.size := by have := hb.size; omega
        have hL := (hb.below.alloc hs1 objA).alloc (Nat.le_trans hs1 (by simp)) objB
        clear hb hs1
        go_wp2_with fail
        obtain ⟨w2, hw2⟩ : ∃ w2, (wr.alloc objA).alloc objB = w2 := ⟨_, rfl⟩
        rw [hw2] at hN hR hL
        have hw2' := hw2
        unfold objA objB at hw2'
        rw [hw2']
        clear hw2' hw2
        refine (norm_any _ _ (by omega) (by omega) _).mono ?_
        rintro e w' ⟨⟨r1, hr1, rfl⟩, rfl⟩
        have cr := hR.cell (i := r1) (by omega)
        rw [if_pos (by omega)] at cr
        go_wp2_with fail
        refine (store_door (w.heap.size + 1) 0 (n + 1) (by unfold maxLen; omega) a2 (by unfold maxLen; omega) V r1 (by omega) _ _ hN).mono ?_
        rintro e w3 ⟨rfl, hN3, hT3⟩
        have hR3 := hR.of_block (hT3.block _ (fun j hj => by omega))
        have hL3 := hL.trans (hT3.below (Nat.le_succ _))
        clear hR hL hN hT3 cr
        go_wp2_with fail
        refine (norm_any _ _ (by omega) (by omega) _).mono ?_
        rintro e w' ⟨⟨r2, hr2, rfl⟩, rfl⟩
        have cr := hR3.cell (i := r2) (by omega)
        rw [if_pos (by omega)] at cr
        go_wp2_with fail
        refine (store_door (w.heap.size + 1) (0 + 1) (n + 1) (by unfold maxLen; omega) a4 (by unfold maxLen; omega) (V + 1) r2 (by omega) _ _ hN3).mono ?_
        rintro e w4 ⟨rfl, hN4, hT4⟩
        have hR4 := hR3.of_block (hT4.block _ (fun j hj => by omega))
        have hL4 := hL3.trans (hT4.below (Nat.le_succ _))
        clear hR3 hL3 hN3 hT4 cr
        go_wp2_with fail
        refine (norm_any _ _ (by omega) (by omega) _).mono ?_
        rintro e w' ⟨⟨r3, hr3, rfl⟩, rfl⟩
        have cr := hR4.cell (i := r3) (by omega)
        rw [if_pos (by omega)] at cr
        go_wp2_with fail
        have hl := load_door (w.heap.size + 1) (0 + 1 + 1) (n + 1) a6 (by unfold maxLen; omega) r3 (by omega) _ _ hN4
        have hpe := eql30
        by_cases e1 : a6 = a4
        · have hf : upd (upd (fun _ => none) a2 V) a4 (V + 1) a6 = some (V + 1) := by unfold upd; rw [if_pos e1]
          rw [hf] at hl
          simp only [ptrTo, Option.isSome_some] at hl
          refine hl.mono ?_
          rintro e w5 ⟨rfl, rfl⟩
          clear hf hl
          go_wp2_with fail
          go_ret
          exact ⟨rfl, hL4⟩
        · have b1 := bytes_ne e1
          by_cases e2 : a6 = a2
          · have hf : upd (upd (fun _ => none) a2 V) a4 (V + 1) a6 = some V := by unfold upd; rw [if_neg e1, if_pos e2]
            rw [hf] at hl
            simp only [ptrTo, Option.isSome_some] at hl
            refine hl.mono ?_
            rintro e w5 ⟨rfl, rfl⟩
            clear hf hl
            subst e2
            go_wp2_with fail
            go_ret
            exact ⟨rfl, hL4⟩
          · have b2 := bytes_ne e2
            have hf : upd (upd (fun _ => none) a2 V) a4 (V + 1) a6 = none := by unfold upd; rw [if_neg e1, if_neg e2]
            rw [hf] at hl
            simp only [ptrTo, Option.isSome_none] at hl
            refine hl.mono ?_
            rintro e w5 ⟨rfl, rfl⟩
            clear hf hl
            go_wp2_with fail
            go_ret
            exact ⟨rfl, hL4⟩

/-- The ways on which the driver answers true at once. -/
def outside (n : Int) (a2 a4 a6 : ByteArray) : Prop := n < 0 ∨ 4096 < n ∨ (65536 : Int) < a2.size ∨ (65536 : Int) < a4.size ∨ (65536 : Int) < a6.size

set_option maxRecDepth 100000 in
set_option maxHeartbeats 400000 in
theorem only_out (n : Int) (a1 : Int) (a2 : ByteArray) (a3 : Int) (a4 : ByteArray) (a5 : Int) (a6 : ByteArray) (w : World) (w2 : a2.size ≤ maxLen) (w4 : a4.size ≤ maxLen) (w6 : a6.size ≤ maxLen) (ho : outside n a2 a4 a6) :
    Calls Ebmg.prog 4 #[.int .i64 n, .int .i64 a1, .string a2, .int .i64 a3, .string a4, .int .i64 a5, .string a6] w fun e w' => e = .returned (.bool true) ∧ w = w' := by
  have hb := bytes_only n a1 a2 a3 a4 a5 a6 w w2 w4 w6
  unfold maxLen at w2 w4 w6
  unfold outside at ho
  by_cases h0 : n < 0
  · clear ho
    go_enter Ebmg.func4, Ebmg.ntmps4
    go_wp2_with fail
    refine hb.mono ?_
    rintro e w' ⟨⟨b, rfl⟩, rfl⟩
    clear hb
    cases b <;> (go_wp2_with fail; go_ret; exact ⟨rfl, rfl⟩)
  by_cases h1 : 4096 < n
  · clear ho
    go_enter Ebmg.func4, Ebmg.ntmps4
    go_wp2_with fail
    refine hb.mono ?_
    rintro e w' ⟨⟨b, rfl⟩, rfl⟩
    clear hb
    cases b <;> (go_wp2_with fail; go_ret; exact ⟨rfl, rfl⟩)
  have h1' : n ≤ 4096 := by omega
  by_cases h2 : (65536 : Int) < a2.size
  · clear ho
    go_enter Ebmg.func4, Ebmg.ntmps4
    go_wp2_with fail
    refine hb.mono ?_
    rintro e w' ⟨⟨b, rfl⟩, rfl⟩
    clear hb
    cases b <;> (go_wp2_with fail; go_ret; exact ⟨rfl, rfl⟩)
  by_cases h3 : (65536 : Int) < a4.size
  · clear ho
    go_enter Ebmg.func4, Ebmg.ntmps4
    go_wp2_with fail
    refine hb.mono ?_
    rintro e w' ⟨⟨b, rfl⟩, rfl⟩
    clear hb
    cases b <;> (go_wp2_with fail; go_ret; exact ⟨rfl, rfl⟩)
  have h4 : (65536 : Int) < a6.size := by omega
  clear ho
  go_enter Ebmg.func4, Ebmg.ntmps4
  go_wp2_with fail
  refine hb.mono ?_
  rintro e w' ⟨⟨b, rfl⟩, rfl⟩
  clear hb
  cases b <;> (go_wp2_with fail; go_ret; exact ⟨rfl, rfl⟩)

/-- THE WALK, for every input. -/
theorem only_walk (n : Int) (a1 : Int) (a2 : ByteArray) (a3 : Int) (a4 : ByteArray) (a5 : Int) (a6 : ByteArray) (w : World) (w2 : a2.size ≤ maxLen) (w4 : a4.size ≤ maxLen) (w6 : a6.size ≤ maxLen) :
    Calls Ebmg.prog 4 #[.int .i64 n, .int .i64 a1, .string a2, .int .i64 a3, .string a4, .int .i64 a5, .string a6] w fun e w' => e = .returned (.bool true) ∧ Below w.heap.size w w' := by
  by_cases ho : outside n a2 a4 a6
  · refine (only_out n a1 a2 a3 a4 a5 a6 w w2 w4 w6 ho).mono ?_
    rintro e w' ⟨rfl, rfl⟩
    exact ⟨rfl, Below.refl _ _⟩
  · unfold outside at ho
    obtain ⟨k, rfl⟩ : ∃ k : Nat, n = k := ⟨n.toNat, by omega⟩
    exact only_main k a1 a2 a3 a4 a5 a6 w (by omega) (by omega) (by omega) (by omega)

end Go.Proofs.Yoebmw
