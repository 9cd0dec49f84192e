/-
  OWN TEXT. The script of stores: what the root's map holds behind k stores ('content'), which store was the last under a key ('lastIdx'), and the state of memory while the loop of stores runs ('Run').
-/
import Derived.Test.YoebmwSizes
namespace Go.Proofs.Yoebmw
open Go.RowKit Go.Maps

def content (S : Nat → ByteArray) (V : Nat) : Nat → ByteArray → Option Nat
  | 0 => fun _ => none
  | k + 1 => upd (content S V k) (S k) (V + 1 + k)

def lastIdx (S : Nat → ByteArray) (q : ByteArray) : Nat → Int
  | 0 => -1
  | k + 1 => if S k = q then k else lastIdx S q k

theorem content_last (S : Nat → ByteArray) (V : Nat) (q : ByteArray) (k : Nat) :
    (lastIdx S q k = -1 ∧ content S V k q = none) ∨ ∃ j : Nat, j < k ∧ lastIdx S q k = j ∧ content S V k q = some (V + 1 + j) := by
  induction k with
  | zero => exact Or.inl ⟨rfl, rfl⟩
  | succ k ih =>
    unfold lastIdx content upd
    by_cases e : S k = q
    · rw [if_pos e, if_pos e.symm]
      exact Or.inr ⟨k, by omega, rfl, rfl⟩
    · rw [if_neg e, if_neg (fun h => e h.symm)]
      rcases ih with h | ⟨j, hj, h⟩
      · exact Or.inl h
      · exact Or.inr ⟨j, by omega, h⟩

theorem lastIdx_bounds (S : Nat → ByteArray) (q : ByteArray) (k : Nat) : -1 ≤ lastIdx S q k ∧ lastIdx S q k < k := by
  induction k with
  | zero => exact ⟨by simp [lastIdx], by simp [lastIdx]⟩
  | succ k ih =>
    unfold lastIdx
    by_cases e : S k = q
    · rw [if_pos e]; omega
    · rw [if_neg e]; omega

/-- k values are made and lie in the row V; m of them are stored. -/
structure Run (w0 w : World) (B V n L k m : Nat) (S : Nat → ByteArray) : Prop where
  hV : V = B + 1 + 2 * (n + 1)
  rowN : w.rowIs B 27 (n + 1) (fun j => .pointer (some ⟨B + 1 + 2 * j + 1, 0, none⟩))
  rowV : w.rowIs V 30 L (fun j => if j < k then .pointer (some ⟨V + 1 + j, 0, none⟩) else .pointer none)
  size : w.heap.size = V + 1 + k
  nodes : Nodes w (B + 1) (n + 1) m (content S V m)
  below : Below B w0 w

theorem run_start {w0 w : World} {B n L : Nat} {S : Nat → ByteArray} (h : Built w0 w B n (n + 1)) :
    Run w0 (w.alloc (.cells (madeCells #[.pointer none] L) 30)) B (B + 1 + 2 * (n + 1)) n L 0 0 S := by
  have hr := World.rowIs_made w (.pointer none) L 30
  rw [h.size] at hr
  refine ⟨rfl, (h.row.congr fun j hj => by rw [if_pos hj]).alloc _, hr.congr fun j hj => by rw [if_neg (by omega)], ?_, h.nodes.alloc _, h.below.alloc (by rw [h.size]; omega) _⟩
  show (w.heap.push _).size = _
  rw [Array.size_push, h.size]

theorem run_box {w0 w : World} {B V n L k : Nat} {S : Nat → ByteArray} (h : Run w0 w B V n L k k S) (o : Obj) :
    Run w0 ((w.alloc o).setCell ⟨V, k, none⟩ (.pointer (some ⟨V + 1 + k, 0, none⟩))) B V n L (k + 1) k S := by
  have hV := h.hV
  have hk : ∀ i, i ≠ V → ((w.alloc o).setCell ⟨V, k, none⟩ (.pointer (some ⟨V + 1 + k, 0, none⟩))).heap[i]? = (w.alloc o).heap[i]? := fun i hi => Below.heap_setCell _ _ _ _ hi
  have hN := h.nodes.alloc o
  refine ⟨hV, (h.rowN.alloc o).of_block (hk _ (by omega)), ((h.rowV.alloc o).set k (.pointer (some ⟨V + 1 + k, 0, none⟩))).congr fun j hj => ?_, ?_, ⟨fun i hi => ?_, fun i hi => ?_, ?_⟩, (h.below.alloc (by rw [h.size]; omega) o).setCell (by show B ≤ V; omega) _⟩
  · by_cases e : j = k
    · subst e; simp
    · rw [if_neg e]
      by_cases e2 : j < k
      · rw [if_pos e2, if_pos (by omega)]
      · rw [if_neg e2, if_neg (by omega)]
  · show ((w.heap.push _).modify _ _).size = _
    rw [Array.size_modify, Array.size_push, h.size]
    rfl
  · rw [hk _ (by omega)]; exact hN.node i hi
  · obtain ⟨g, hg⟩ := hN.maps i hi
    exact ⟨g, hg.kept (hk _ (by omega))⟩
  · exact hN.root.kept (hk _ (by omega))

theorem run_store {w0 w w' : World} {B V n L k : Nat} {S : Nat → ByteArray} (h : Run w0 w B V n L (k + 1) k S) (hN : Nodes w' (B + 1) (n + 1) (k + 1) (upd (content S V k) (S k) (V + 1 + k))) (hT : Turn w w' (B + 1) (n + 1)) :
    Run w0 w' B V n L (k + 1) (k + 1) S := by
  have hV := h.hV
  exact ⟨hV, h.rowN.of_block (hT.block _ (fun j hj => by omega)), h.rowV.of_block (hT.block _ (fun j hj => by omega)), hT.size.trans h.size, hN, h.below.trans (hT.below (Nat.le_succ _))⟩

theorem Nodes.drew {w : World} {N c n : Nat} {f : ByteArray → Option Nat} (h : Nodes w N c n f) : Nodes w.drew N c n f :=
  ⟨h.node, h.maps, h.root⟩

theorem Run.drew {w0 w : World} {B V n L k m : Nat} {S : Nat → ByteArray} (h : Run w0 w B V n L k m S) : Run w0 w.drew B V n L k m S :=
  ⟨h.hV, h.rowN, h.rowV, h.size, h.nodes.drew, h.below.drew⟩

/-- What zzNorm reckons. -/
def nrm (d m : Int) : Nat := (if d.tmod m < 0 then d.tmod m + m else d.tmod m).toNat

theorem nrm_lt (d m : Int) (h0 : 0 < m) : (nrm d m : Int) < m := by
  have b1 : d.tmod m < m := Int.tmod_lt_of_pos d h0
  unfold nrm
  by_cases h : d.tmod m < 0
  · rw [if_pos h]; omega
  · rw [if_neg h]; omega

set_option maxHeartbeats 400000 in
theorem norm_eq (d m : Int) (h0 : 0 < m) (hm : m ≤ 10000) (w : World) :
    Calls Ebmg.prog 9 #[.int .i64 d, .int .i64 m] w fun e w' => e = .returned (.int .i64 (nrm d m)) ∧ w = w' := by
  have b1 : d.tmod m < m := Int.tmod_lt_of_pos d h0
  have b2 : -m < d.tmod m := by
    have := Int.tmod_lt_of_pos (-d) h0
    rw [Int.neg_tmod] at this
    omega
  by_cases hneg : d.tmod m < 0
  · have e : nrm d m = (d.tmod m + m).toNat := by unfold nrm; rw [if_pos hneg]
    rw [e, Int.toNat_of_nonneg (by omega)]
    clear e
    go_enter Ebmg.func9, Ebmg.ntmps9
    go_wp2
    go_ret
    exact ⟨rfl, rfl⟩
  · have e : nrm d m = (d.tmod m).toNat := by unfold nrm; rw [if_neg hneg]
    rw [e, Int.toNat_of_nonneg (by omega)]
    clear e
    go_enter Ebmg.func9, Ebmg.ntmps9
    go_wp2
    go_ret
    exact ⟨rfl, rfl⟩

end Go.Proofs.Yoebmw
