/-
  OWN TEXT. The walk of FnStoreLoadScript (3): it returns true, and nothing that was there has turned.
-/
import Derived.Test.YoebmwRun
import Derived.LaidEqlPtr
import Derived.StillTailTactics
namespace Go.Proofs.Yoebmw
open Go.RowKit Go.Maps

theorem s_eql30 (a : Addr) (w : World) : (binOp .eql 30 (.pointer (some a)) (.pointer (some a))).run Ebmg.prog w = .ok (.bool true) w := by
  have h : (Ebmg.prog.info? 37).isSome = true := by kernel_rfl
  obtain ⟨j, hj⟩ := Option.isSome_iff_exists.1 h
  exact run_eql_ptr_same w a Ebmg.underlying30 hj

theorem s_bytes_ne {a b : ByteArray} (h : ¬ a = b) : (a.toList == b.toList) = false := by
  rw [beq_eq_false_iff_ne]
  intro e
  rw [ByteArray.toList_eq, ByteArray.toList_eq] at e
  exact h (WideShapes.bytes_inj e)

theorem cell_lt {w : World} {a : Addr} {v : Value} (h : w.cell? a = some v) : a.block < w.heap.size := by
  unfold World.cell? at h
  split at h
  · rename_i e
    exact (Array.getElem?_eq_some_iff.1 e).1
  · cases h

theorem s_info27 : (Ebmg.prog.info? 27).map (fun i => (i.zero, i.size, i.bytes)) = some (some (.pointer none), 1, 8) := by kernel_rfl
theorem s_info30 : (Ebmg.prog.info? 30).map (fun i => (i.zero, i.size, i.bytes)) = some (some (.pointer none), 1, 8) := by kernel_rfl

set_option maxRecDepth 100000 in
set_option maxHeartbeats 400000 in
theorem script_main (n L : Nat) (d : Int) (a1 a2 a3 : Option Addr) (cap1 cap2 cap3 : Nat) (q : ByteArray) (D I : Nat → Int) (S : Nat → ByteArray) (w : World) (hn : (n : Int) ≤ 256) (hL : (L : Int) ≤ 4096) (hq : (q.size : Int) ≤ 65536)
    (h1 : Cells w 22 a1 L cap1 (fun i => .int .i64 (D i))) (h2 : Cells w 23 a2 L cap2 (fun i => .string (S i))) (h3 : Cells w 22 a3 L cap3 (fun i => .int .i64 (I i))) (hS : ∀ i, i < L → (S i).size ≤ maxLen) :
    Calls Ebmg.prog 3 #[.int .i64 n, .slice a1 L cap1, .slice a2 L cap2, .slice a3 L cap3, .int .i64 d, .string q] w fun e w' => e = .returned (.bool true) ∧ Below w.heap.size w w' := by
  have hmk := run_make_row' (P := Ebmg.prog) 26 27 (.pointer none) 8 Ebmg.underlying26 s_info27 rfl .i64 .i64 (n + 1) (by omega) (by omega)
  have ec : ((n + 1 : Nat) : Int) = (n : Int) + 1 := by omega
  rw [ec] at hmk
  clear ec
  have hmv := run_make_row' (P := Ebmg.prog) 29 30 (.pointer none) 8 Ebmg.underlying29 s_info30 rfl .i64 .i64 L (by omega) (by omega)
  go_enter Ebmg.func3, Ebmg.ntmps3
  go_wp2_with fail
  refine (bytes_script _ _ _ _ _ _ _ _ _ _ _ _ S _ h2 hS (by unfold maxLen; omega) (by unfold maxLen; omega) (by unfold maxLen; omega) (by unfold maxLen; omega)).mono ?_
  rintro e w' ⟨⟨b, rfl, hSb⟩, rfl⟩
  cases b
  · clear h1 h2 h3 hS hSb
    go_wp2_with fail
    go_ret
    exact ⟨rfl, Below.refl _ _⟩
  · have hSs : Hid (∀ i, i < L → (S i).size ≤ 1048576) := hSb rfl
    have hst := fun w0 (e : w0 = w) => strs_any a2 L cap2 S w0 (by rw [e]; exact h2) hSs.out (by omega)
    clear hSb hS
    go_wp2_with fail
    refine (hst w rfl).mono ?_
    rintro e w' ⟨⟨t, ht0, ht1, rfl⟩, rfl⟩
    clear hst
    by_cases hov : (1048576 : Int) < 8 * (L : Int) + 8 * (L : Int) + t + (q.size : Int)
    · clear h1 h2 h3
      go_wp2_with fail
      go_ret
      exact ⟨rfl, Below.refl _ _⟩
    · go_wp2_with fail
      refine (node_new none _ _ (w.heap.size + 1) (by simp)).mono ?_
      rintro e w1 ⟨rfl, hnew⟩
      obtain ⟨B, hB⟩ : ∃ B, w.heap.size = B := ⟨_, rfl⟩
      rw [hB] at hnew
      have hr := World.rowIs_made w (.pointer none) (n + 1) 27
      rw [hB] at hr
      have hr1 := hr.of_block (hnew.old B (by omega))
      have c0 := hr1.cell (i := 0) (by omega)
      have f0 := hr1.frozen 0
      have hbu := built_start hB hnew
      clear hr hr1 hnew
      go_wp2_with fail
      go_loopw [14] (fun i wr => ∃ j : Nat, j ≤ n ∧ i = .int .i64 ((j : Int) + 1) ∧ Built w wr B n (j + 1)) (fun i _ => n + 1 - (intOf i).toNat)
      case atStart => exact ⟨0, Nat.zero_le _, rfl, hbu⟩
      case round =>
        clear hbu c0 f0 hmk
        obtain ⟨j, hj, rfl, hb⟩ := hrel
        by_cases hlt : j < n
        · have hlt' : (j : Int) + 1 ≤ (n : Int) := by omega
          have cj := hb.row.cell (i := j) (by omega)
          rw [if_pos (by omega)] at cj
          have hz := hb.size
          clear h1 h2 h3
          go_wp2_with fail
          refine (node_new _ _ _ _ hz).mono ?_
          rintro e w1 ⟨rfl, hnew⟩
          have c1 := (hb.row.of_block (hnew.old B (by omega))).cell (i := j + 1) (by omega)
          rw [if_neg (by omega)] at c1
          have f1 := (hb.row.of_block (hnew.old B (by omega))).frozen (j + 1)
          have hb2 := built_step hb hnew
          clear hb hz cj hnew
          go_wp2_with fail
          go_roundw
          case rel => exact ⟨j + 1, by omega, by go_num, hb2⟩
          case measure => simp [intOf]; omega
        · obtain rfl : n = j := by omega
          clear hlt hj
          obtain ⟨V, hV⟩ : ∃ V, V = B + 1 + 2 * (n + 1) := ⟨_, rfl⟩
          have hz : wr.heap.size = V := by rw [hV]; exact hb.size
          have hrun := run_start (L := L) (S := S) hb
          rw [← hV] at hrun
          clear hb hV
          go_wp2_with fail
          go_loopw [16] (fun i wr => ∃ k : Nat, k ≤ L ∧ i = .int .i64 k ∧ Run w wr B V n L k k S) (fun i _ => L - (intOf i).toNat)
          case atStart => exact ⟨0, Nat.zero_le _, rfl, hrun⟩
          case round =>
            clear hz hrun hmv
            obtain ⟨k, hk, rfl, hb⟩ := hrel
            by_cases hlt : k < L
            · have hlt' : (k : Int) < (L : Int) := by omega
              obtain ⟨b1, o1, g1⟩ := h1
              obtain ⟨b2, o2, g2⟩ := h2
              obtain ⟨b3, o3, g3⟩ := h3
              obtain ⟨i1, c1⟩ := g1 k hlt
              obtain ⟨i2, c2⟩ := g2 k hlt
              obtain ⟨i3, c3⟩ := g3 k hlt
              have hs := hSs.out k hlt
              clear g1 g2 g3 hSs
              have k1 : b1 < B := by rw [← hB]; exact cell_lt c1
              have k2 : b2 < B := by rw [← hB]; exact cell_lt c2
              have k3 : b3 < B := by rw [← hB]; exact cell_lt c3
              have d3 := (hb.below.cell (p := ⟨b3, o3 + k, none⟩) k3).trans c3
              have hz := hb.size
              have cV : ∀ o, (wr.alloc o).cell? ⟨V, k, none⟩ = some (.pointer none) := fun o => by
                rw [(hb.rowV.alloc o).cell (i := k) hlt, if_neg (by omega)]
              have fV : ∀ o, (wr.alloc o).frozen? ⟨V, k, none⟩ = false := fun o => (hb.rowV.alloc o).frozen k
              clear c3 k3
              go_wp2_with fail
              have hb2 := (run_box hb (.cells #[.slice none 0 0, .int .i64 (I k), .int .i64 0, .bool false, .map none, .slice none 0 0] 37)).drew
              obtain ⟨w2, hw2⟩ : ∃ w2, (wr.alloc (.cells #[.slice none 0 0, .int .i64 (I k), .int .i64 0, .bool false, .map none, .slice none 0 0] 37)).setCell ⟨V, k, none⟩ (.pointer (some ⟨V + 1 + k, 0, none⟩)) = w2 := ⟨_, rfl⟩
              rw [hw2] at hb2 ⊢
              clear hw2 cV fV d3 hz hb i3
              have d1 := (hb2.below.cell (p := ⟨b1, o1 + k, none⟩) k1).trans c1
              have d2 := (hb2.below.cell (p := ⟨b2, o2 + k, none⟩) k2).trans c2
              have hnm : Hid (∀ w, Calls Ebmg.prog 9 #[.int .i64 (D k), .int .i64 ((n : Int) + 1)] w fun e w' => e = .returned (.int .i64 (nrm (D k) ((n : Int) + 1))) ∧ w = w') := norm_eq (D k) ((n : Int) + 1) (by omega) (by omega)
              have hr := nrm_lt (D k) ((n : Int) + 1) (by omega)
              obtain ⟨r, er⟩ : ∃ r, nrm (D k) ((n : Int) + 1) = r := ⟨_, rfl⟩
              rw [er] at hnm hr
              clear er c1 c2
              have dN := hb2.rowN.cell (i := r) (by omega)
              have hr0 : (0 : Int) ≤ (r : Int) := by omega
              have hN2 := hb2.nodes
              simp only [World.cell?_drew] at d1 d2 dN
              have hwr : IntKind.i64.wrap ((n : Int) + 1) = (n : Int) + 1 := by rw [IntKind.wrap_i64]; omega
              refine wp_region_still_tail 15 (by kernel_rfl) (by kernel_rfl) ?_
              simp only [List.take_succ_cons, List.take_zero, List.drop_succ_cons, List.drop_zero]
              still_step
              still_step
              still_step
              still_step
              still_step
              still_step
              still_step
              still_call ((hnm.out _).mono (fun e w' h => ⟨h.1, h.2.symm⟩))
              still_step
              still_step
              still_step
              still_step
              still_step
              still_step
              still_step
              refine wpStill_nil ?_
              go_wp2_with fail
              refine (store_door (B + 1) k (n + 1) (by unfold maxLen; omega) (S k) (by unfold maxLen; omega) (V + 1 + k) r (by omega) _ _ hN2).mono ?_
              rintro e w3 ⟨rfl, hN3, hT3⟩
              have hb3 := run_store hb2 hN3 hT3
              clear hb2 hN2 hN3 hT3 d1 d2 dN hnm hwr i1 i2
              go_wp2_with fail
              go_roundw
              case rel => exact ⟨k + 1, by omega, by go_num, hb3⟩
              case measure => simp [intOf]; omega
            · obtain rfl : k = L := by omega
              have hnm := norm_eq d ((n : Int) + 1) (by omega) (by omega) wr
              have hr := nrm_lt d ((n : Int) + 1) (by omega)
              obtain ⟨r, er⟩ : ∃ r, nrm d ((n : Int) + 1) = r := ⟨_, rfl⟩
              rw [er] at hnm hr
              clear er hlt
              have dN := hb.rowN.cell (i := r) (by omega)
              have hl := load_door (B + 1) k (n + 1) q (by unfold maxLen; omega) r (by omega) _ _ hb.nodes
              obtain ⟨b2, o2, g2⟩ := h2
              clear h1 h3 hSs
              go_wp2_with fail
              refine hnm.mono ?_
              rintro e w' ⟨rfl, rfl⟩
              clear hnm
              go_wp2_with fail
              have hbel := hb.below
              rcases content_last S V q k with ⟨hl1, hc⟩ | ⟨j, hj, hl1, hc⟩
              · rw [hc] at hl
                simp only [ptrTo, Option.isSome_none] at hl
                have hlast : Hid (lastIdx S q k = -1) := hl1
                have cV : True := trivial
                clear hl1 hc hb dN
                refine hl.mono ?_
                rintro e w' ⟨rfl, rfl⟩
                clear hl
                go_wp2_with fail
                go_loop [20, 21] (fun t i => ∃ m : Nat, m ≤ k ∧ i = .int .i64 m ∧ t = .int .i64 (lastIdx S q m)) (fun _ i => k - (intOf i).toNat)
                case atStart => exact ⟨0, Nat.zero_le _, rfl, rfl⟩
                case round =>
                  obtain ⟨m, hm, rfl, rfl⟩ := hrel
                  by_cases hlt : m < k
                  · have hlt' : (m : Int) < (k : Int) := by omega
                    obtain ⟨i2, c2⟩ := g2 m hlt
                    have k2 : b2 < B := by rw [← hB]; exact cell_lt c2
                    have d2 := (hbel.cell (p := ⟨b2, o2 + m, none⟩) k2).trans c2
                    clear g2 c2 cV
                    by_cases e : S m = q
                    · have hb : ((S m).toList == q.toList) = true := by rw [e]; exact beq_self_eq_true _
                      have hx : Hid (lastIdx S q (m + 1) = (m : Int)) := by show lastIdx S q (m + 1) = (m : Int); rw [lastIdx, if_pos e]
                      clear e
                      go_wp2_with fail
                      go_round
                      case rel => exact ⟨m + 1, by omega, by go_num, by rw [hx.out]⟩
                      case measure => simp [intOf]; omega
                    · have hb := s_bytes_ne e
                      have hx : Hid (lastIdx S q (m + 1) = lastIdx S q m) := by show lastIdx S q (m + 1) = lastIdx S q m; rw [lastIdx, if_neg e]
                      clear e
                      go_wp2_with fail
                      go_round
                      case rel => exact ⟨m + 1, by omega, by go_num, by rw [hx.out]⟩
                      case measure => simp [intOf]; omega
                  · obtain rfl : m = k := by omega
                    have hq1 := hlast.out
                    clear g2 hlt hm hlast
                    go_wp2_with fail
                    go_ret
                    exact ⟨rfl, hbel⟩
              · rw [hc] at hl
                simp only [ptrTo, Option.isSome_some] at hl
                have hlast : Hid (lastIdx S q k = (j : Int)) := hl1
                have cV := hb.rowV.cell (i := j) hj
                rw [if_pos hj] at cV
                have hpe := s_eql30
                have hj' : (j : Int) < (k : Int) := by omega
                clear hl1 hc hb dN
                refine hl.mono ?_
                rintro e w' ⟨rfl, rfl⟩
                clear hl
                go_wp2_with fail
                go_loop [20, 21] (fun t i => ∃ m : Nat, m ≤ k ∧ i = .int .i64 m ∧ t = .int .i64 (lastIdx S q m)) (fun _ i => k - (intOf i).toNat)
                case atStart => exact ⟨0, Nat.zero_le _, rfl, rfl⟩
                case round =>
                  obtain ⟨m, hm, rfl, rfl⟩ := hrel
                  by_cases hlt : m < k
                  · have hlt' : (m : Int) < (k : Int) := by omega
                    obtain ⟨i2, c2⟩ := g2 m hlt
                    have k2 : b2 < B := by rw [← hB]; exact cell_lt c2
                    have d2 := (hbel.cell (p := ⟨b2, o2 + m, none⟩) k2).trans c2
                    clear g2 c2 cV
                    by_cases e : S m = q
                    · have hb : ((S m).toList == q.toList) = true := by rw [e]; exact beq_self_eq_true _
                      have hx : Hid (lastIdx S q (m + 1) = (m : Int)) := by show lastIdx S q (m + 1) = (m : Int); rw [lastIdx, if_pos e]
                      clear e
                      go_wp2_with fail
                      go_round
                      case rel => exact ⟨m + 1, by omega, by go_num, by rw [hx.out]⟩
                      case measure => simp [intOf]; omega
                    · have hb := s_bytes_ne e
                      have hx : Hid (lastIdx S q (m + 1) = lastIdx S q m) := by show lastIdx S q (m + 1) = lastIdx S q m; rw [lastIdx, if_neg e]
                      clear e
                      go_wp2_with fail
                      go_round
                      case rel => exact ⟨m + 1, by omega, by go_num, by rw [hx.out]⟩
                      case measure => simp [intOf]; omega
                  · obtain rfl : m = k := by omega
                    have hq1 := hlast.out
                    clear g2 hlt hm hlast
                    go_wp2_with fail
                    go_ret
                    exact ⟨rfl, hbel⟩

end Go.Proofs.Yoebmw
