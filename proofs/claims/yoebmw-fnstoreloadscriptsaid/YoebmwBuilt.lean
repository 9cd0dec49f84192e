/-
  OWN TEXT. The chain of compilers while it is built: the slice's block B (a row of pointers), then two blocks a compiler (its map, its struct). What each step of the building loop leaves.
-/
import Derived.Test.YoebmwNode
import Derived.Deep.OwnRows
namespace Go.Proofs.Yoebmw
open Go.RowKit Go.Maps

/-- w' is w with a new compiler behind it: block H its map (empty), block H + 1 its struct. -/
structure NewNode (w w' : World) (H : Nat) (par : Option Addr) (s : ByteArray) : Prop where
  os : w'.os = w.os
  tape : w'.tape = w.tape
  output : w'.output = w.output
  was : w.heap.size = H
  size : w'.heap.size = H + 2
  old : ∀ k, k < H → w'.heap[k]? = w.heap[k]?
  map : mapAt w' H 0 (fun _ => none)
  node : w'.heap[H + 1]? = some (nodeObj par s H)

theorem node_new (par : Option Addr) (s : ByteArray) (w : World) (H : Nat) (hH : w.heap.size = H) :
    Calls Ebmg.prog 7 #[.pointer par, .string s, .pointer none] w fun e w' => e = .returned (.pointer (some ⟨H + 1, 0, none⟩)) ∧ NewNode w w' H par s := by
  subst hH
  refine (node_any par s w).mono ?_
  rintro e w' ⟨rfl, rfl⟩
  refine ⟨rfl, rfl, rfl, rfl, rfl, ?_, ?_, ?_, ?_⟩
  · show ((w.heap.push _).push _).size = _
    simp
  · intro k hk
    show ((w.heap.push _).push _)[k]? = _
    simp only [Array.getElem?_push, Array.size_push]
    rw [if_neg (by omega), if_neg (by omega)]
  · refine (mapAt_made w).kept ?_
    show ((w.heap.push _).push _)[w.heap.size]? = (w.heap.push _)[w.heap.size]?
    simp only [Array.getElem?_push, Array.size_push]
    rw [if_neg (by omega)]
  · show ((w.heap.push _).push _)[w.heap.size + 1]? = _
    simp only [Array.getElem?_push, Array.size_push]
    rw [if_pos trivial]

/-- k of n + 1 compilers are built: the slice's row lies in block B. -/
structure Built (w0 w : World) (B n k : Nat) : Prop where
  row : w.rowIs B 27 (n + 1) (fun j => if j < k then .pointer (some ⟨B + 1 + 2 * j + 1, 0, none⟩) else .pointer none)
  size : w.heap.size = B + 1 + 2 * k
  nodes : Nodes w (B + 1) k 0 (fun _ => none)
  below : Below B w0 w

theorem rowIs_kept {w w' : World} {b : Nat} {t : TypeId} {n : Nat} {f : Nat → Value} (h : w.rowIs b t n f) (e : w'.heap[b]? = w.heap[b]?) : w'.rowIs b t n f := h.of_block e

/-- The slice is made, the root is new, it is stored. -/
theorem built_start {w w1 : World} {B n : Nat} (hB : w.heap.size = B) (h : NewNode (w.alloc (.cells (madeCells #[.pointer none] (n + 1)) 27)) w1 (B + 1) none { data := #[] }) :
    Built w (w1.setCell ⟨B, 0, none⟩ (.pointer (some ⟨B + 1 + 1, 0, none⟩))) B n 1 := by
  have hr := World.rowIs_made w (.pointer none) (n + 1) 27
  rw [hB] at hr
  have hr1 := (hr.of_block (h.old B (by omega))).set 0 (.pointer (some ⟨B + 1 + 1, 0, none⟩))
  have hk : ∀ k, k ≠ B → (w1.setCell ⟨B, 0, none⟩ (.pointer (some ⟨B + 1 + 1, 0, none⟩))).heap[k]? = w1.heap[k]? := fun k hk => Below.heap_setCell _ _ _ _ hk
  refine ⟨hr1.congr fun j hj => ?_, ?_, ⟨fun i hi => ?_, fun i hi => ?_, ?_⟩, ?_⟩
  · by_cases e : j = 0
    · subst e; simp
    · rw [if_neg e, if_neg (by omega)]
  · show (w1.heap.modify _ _).size = _
    rw [Array.size_modify, h.size]
  · obtain rfl : i = 0 := by omega
    rw [hk _ (by omega)]
    exact h.node
  · obtain rfl : i = 0 := by omega
    exact ⟨_, h.map.kept (hk _ (by omega))⟩
  · exact h.map.kept (hk _ (by omega))
  · have b0 : Below B w (w.alloc (.cells (madeCells #[.pointer none] (n + 1)) 27)) := (Below.refl B w).alloc (by omega) _
    have b1 : Below B (w.alloc (.cells (madeCells #[.pointer none] (n + 1)) 27)) w1 := ⟨h.os, h.tape, h.output, by rw [h.was, h.size]; omega, fun k hk => h.old k (by omega)⟩
    exact (b0.trans b1).setCell (Nat.le_refl _) _

/-- One compiler more. -/
theorem built_step {w0 w w1 : World} {B n j : Nat} (hb : Built w0 w B n (j + 1)) (h : NewNode w w1 (B + 1 + 2 * (j + 1)) (some ⟨B + 1 + 2 * j + 1, 0, none⟩) { data := #[] }) :
    Built w0 (w1.setCell ⟨B, j + 1, none⟩ (.pointer (some ⟨B + 1 + 2 * (j + 1) + 1, 0, none⟩))) B n (j + 1 + 1) := by
  have hr1 := (hb.row.of_block (h.old B (by omega))).set (j + 1) (.pointer (some ⟨B + 1 + 2 * (j + 1) + 1, 0, none⟩))
  have hk : ∀ k, k ≠ B → (w1.setCell ⟨B, j + 1, none⟩ (.pointer (some ⟨B + 1 + 2 * (j + 1) + 1, 0, none⟩))).heap[k]? = w1.heap[k]? := fun k hk => Below.heap_setCell _ _ _ _ hk
  refine ⟨hr1.congr fun i hi => ?_, ?_, ⟨fun i hi => ?_, fun i hi => ?_, ?_⟩, ?_⟩
  · by_cases e : i = j + 1
    · subst e; simp
    · rw [if_neg e]
      by_cases e2 : i < j + 1
      · rw [if_pos e2, if_pos (by omega)]
      · rw [if_neg e2, if_neg (by omega)]
  · show (w1.heap.modify _ _).size = _
    rw [Array.size_modify, h.size]
    omega
  · rw [hk _ (by omega)]
    by_cases e : i = j + 1
    · subst e; exact h.node
    · rw [h.old _ (by omega)]
      exact hb.nodes.node i (by omega)
  · by_cases e : i = j + 1
    · subst e; exact ⟨_, h.map.kept (hk _ (by omega))⟩
    · obtain ⟨g, hg⟩ := hb.nodes.maps i (by omega)
      exact ⟨g, hg.kept ((hk _ (by omega)).trans (h.old _ (by omega)))⟩
  · exact hb.nodes.root.kept ((hk _ (by omega)).trans (h.old _ (by omega)))
  · have b1 : Below B w w1 := ⟨h.os, h.tape, h.output, by rw [h.was, h.size]; omega, fun k hk => h.old k (by omega)⟩
    exact (hb.below.trans b1).setCell (Nat.le_refl _) _

/-- Whatever lies below block K is as it was, or is one of the compilers' maps; the streams are as they were. -/
theorem Turn.below {w w' : World} {N c B : Nat} (h : Turn w w' N c) (hB : B ≤ N) : Below B w w' :=
  ⟨h.os, h.tape, h.output, by rw [h.size]; exact Nat.le_refl _, fun k hk => h.block k (fun j hj => by omega)⟩

end Go.Proofs.Yoebmw
