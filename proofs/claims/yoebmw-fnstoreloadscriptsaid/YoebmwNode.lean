/-
  OWN TEXT. The callees' contracts: ZZnode (7), zzNorm (9), storeCompiledModule (12), loadCompiledModule (13), their doors (8, 10).
  'Nodes w N c n f': from block N on lie c compilers, each a map's block and behind it a struct's block; compiler i's parent is compiler i - 1; every map has at most n entries; the root's map holds f.
-/
import Derived.Test.YoebmwMaps
import Derived.WalkSpells
import Derived.WalkLawsBesides
namespace Go.Proofs.Yoebmw
open Go.RowKit Go.Maps

/-- What a compiler's struct holds. -/
def nodeObj (par : Option Addr) (s : ByteArray) (m : Nat) : Obj :=
  .cells #[.pointer none, .pointer par, .string s, .string { data := #[] }, .slice none 0 0, .slice none 0 0, .pointer none, .slice none 0 0, .int .i64 0, .nilIface, .map (some m), .bool false, .slice none 0 0, .int .i64 0, .nilIface, .int .i64 0] 54

set_option maxHeartbeats 400000 in
theorem node_any (par : Option Addr) (s : ByteArray) (w : World) :
    Calls Ebmg.prog 7 #[.pointer par, .string s, .pointer none] w fun e w' => e = .returned (.pointer (some ⟨w.heap.size + 1, 0, none⟩)) ∧ w' = (w.alloc (.map #[] 0)).alloc (nodeObj par s w.heap.size) := by
  have hmm := @run_makeMap Ebmg.prog
  go_enter Ebmg.func7, Ebmg.ntmps7
  go_wp2
  go_ret
  exact ⟨rfl, rfl⟩

set_option maxHeartbeats 400000 in
theorem norm_any (d m : Int) (h0 : 0 < m) (hm : m ≤ 10000) (w : World) :
    Calls Ebmg.prog 9 #[.int .i64 d, .int .i64 m] w fun e w' => (∃ r : Nat, (r : Int) < m ∧ e = .returned (.int .i64 r)) ∧ w = w' := by
  have b1 : d.tmod m < m := by exact Int.tmod_lt_of_pos d h0
  have b2 : -m < d.tmod m := by
    have := Int.tmod_lt_of_pos (-d) h0
    rw [Int.neg_tmod] at this
    omega
  by_cases hneg : d.tmod m < 0
  · go_enter Ebmg.func9, Ebmg.ntmps9
    go_wp2
    go_ret
    refine ⟨⟨(d.tmod m + m).toNat, by omega, ?_⟩, rfl⟩
    rw [Int.toNat_of_nonneg (by omega)]
    rfl
  · go_enter Ebmg.func9, Ebmg.ntmps9
    go_wp2
    go_ret
    refine ⟨⟨(d.tmod m).toNat, by omega, ?_⟩, rfl⟩
    rw [Int.toNat_of_nonneg (by omega)]
    rfl

/-- The parent's pointer. -/
def parOf (N : Nat) : Nat → Option Addr
  | 0 => none
  | i + 1 => some ⟨N + 2 * i + 1, 0, none⟩

structure Nodes (w : World) (N c n : Nat) (f : ByteArray → Option Nat) : Prop where
  node : ∀ i, i < c → w.heap[N + 2 * i + 1]? = some (nodeObj (parOf N i) { data := #[] } (N + 2 * i))
  maps : ∀ i, i < c → ∃ g, mapAt w (N + 2 * i) n g
  root : mapAt w N n f

/-- w' is w but for the maps of c compilers from block N on. -/
structure Turn (w w' : World) (N c : Nat) : Prop where
  os : w'.os = w.os
  tape : w'.tape = w.tape
  output : w'.output = w.output
  size : w'.heap.size = w.heap.size
  block : ∀ k, (∀ j, j < c → k ≠ N + 2 * j) → w'.heap[k]? = w.heap[k]?

theorem Turn.trans {a b c : World} {N k : Nat} (h : Turn a b N k) (h' : Turn b c N k) : Turn a c N k :=
  ⟨h'.os.trans h.os, h'.tape.trans h.tape, h'.output.trans h.output, h'.size.trans h.size, fun i hi => (h'.block i hi).trans (h.block i hi)⟩

theorem Turn.mono {a b : World} {N k k' : Nat} (h : Turn a b N k) (hk : k ≤ k') : Turn a b N k' :=
  ⟨h.os, h.tape, h.output, h.size, fun i hi => h.block i (fun j hj => hi j (by omega))⟩

theorem turn_of_grown {w w' : World} {N i c : Nat} (hi : i < c) (hg : w.grownBy w' (some (N + 2 * i))) (hs : w'.heap.size = w.heap.size) : Turn w w' N c := by
  refine ⟨hg.os, hg.tape, hg.output, hs, fun k hk => ?_⟩
  by_cases hlt : k < w.heap.size
  · exact hg.block k hlt (fun e => hk i hi (by injection e))
  · rw [Array.getElem?_eq_none (by omega), Array.getElem?_eq_none (by omega)]

theorem Nodes.cell1 {w : World} {N c n : Nat} {f : ByteArray → Option Nat} (h : Nodes w N c n f) {i : Nat} (hi : i < c) : w.cell? ⟨N + 2 * i + 1, 1, none⟩ = some (.pointer (parOf N i)) := by
  simp [World.cell?, h.node i hi, nodeObj]

theorem Nodes.cell10 {w : World} {N c n : Nat} {f : ByteArray → Option Nat} (h : Nodes w N c n f) {i : Nat} (hi : i < c) : w.cell? ⟨N + 2 * i + 1, 10, none⟩ = some (.map (some (N + 2 * i))) := by
  simp [World.cell?, h.node i hi, nodeObj]

theorem Nodes.fewer {w : World} {N c c' n : Nat} {f : ByteArray → Option Nat} (h : Nodes w N c n f) (hc : c' ≤ c) : Nodes w N c' n f :=
  ⟨fun i hi => h.node i (by omega), fun i hi => h.maps i (by omega), h.root⟩

set_option maxHeartbeats 400000 in
theorem store_any (N n : Nat) (hn : n < maxLen) (s : ByteArray) (hs : s.size ≤ maxLen) (v : Nat) : ∀ (i : Nat) (w : World) (f : ByteArray → Option Nat), Nodes w N (i + 1) n f →
    Calls Ebmg.prog 12 #[.pointer (some ⟨N + 2 * i + 1, 0, none⟩), .string s, .pointer (some ⟨v, 0, none⟩)] w fun e w' => e = .returned (.tuple #[]) ∧ Nodes w' N (i + 1) (n + 1) (upd f s v) ∧ Turn w w' N (i + 1) := by
  intro i
  induction i with
  | zero =>
    intro w f h
    have c1 := h.cell1 (i := 0) (by omega)
    have c10 := h.cell10 (i := 0) (by omega)
    obtain ⟨w1, hrun, hm1, hg, hz⟩ := h.root.store hn s hs v
    have hT : Turn w w1 N (0 + 1) := turn_of_grown (i := 0) (by omega) hg hz
    have hN : Nodes w1 N (0 + 1) (n + 1) (upd f s v) := by
      refine ⟨fun i hi => ?_, fun i hi => ?_, hm1⟩
      · rw [hT.block _ (fun j hj => by omega)]; exact h.node i hi
      · obtain rfl : i = 0 := by omega
        exact ⟨_, hm1⟩
    simp only [parOf, Nat.mul_zero, Nat.add_zero] at c1 c10
    clear hm1 hg hz h
    go_enter Ebmg.func12, Ebmg.ntmps12
    go_wp2_with fail
    go_end0
    exact ⟨rfl, hN, hT⟩
  | succ i ih =>
    intro w f h
    have c1 := h.cell1 (i := i + 1) (by omega)
    simp only [parOf] at c1
    go_enter Ebmg.func12, Ebmg.ntmps12
    go_wp2_with fail
    refine (ih w f (h.fewer (by omega))).mono ?_
    rintro e w1 ⟨rfl, hN1, hT1⟩
    have e1 : w1.heap[N + 2 * (i + 1) + 1]? = w.heap[N + 2 * (i + 1) + 1]? := hT1.block _ (fun j hj => by omega)
    have c10 : w1.cell? ⟨N + 2 * (i + 1) + 1, 10, none⟩ = some (.map (some (N + 2 * (i + 1)))) := by
      rw [World.cell?_of_block (w := w) e1]; exact h.cell10 (by omega)
    have e2 : w1.heap[N + 2 * (i + 1)]? = w.heap[N + 2 * (i + 1)]? := hT1.block _ (fun j hj => by omega)
    obtain ⟨g, hg0⟩ := h.maps (i + 1) (by omega)
    obtain ⟨w2, hrun, hm2, hg2, hz2⟩ := (hg0.kept e2).store hn s hs v
    have hT2 : Turn w1 w2 N (i + 1 + 1) := turn_of_grown (i := i + 1) (by omega) hg2 hz2
    have hT : Turn w w2 N (i + 1 + 1) := (hT1.mono (by omega)).trans hT2
    have hk : ∀ j, j < i + 1 → w2.heap[N + 2 * j]? = w1.heap[N + 2 * j]? := fun j hj => by
      by_cases hlt : N + 2 * j < w1.heap.size
      · exact hg2.block _ hlt (fun e => by injection e; omega)
      · rw [Array.getElem?_eq_none (by omega), Array.getElem?_eq_none (by omega)]
    have hN : Nodes w2 N (i + 1 + 1) (n + 1) (upd f s v) := by
      refine ⟨fun j hj => ?_, fun j hj => ?_, hN1.root.kept (hk 0 (by omega))⟩
      · rw [hT.block _ (fun j hj => by omega)]; exact h.node j hj
      · by_cases hj' : j = i + 1
        · subst hj'; exact ⟨_, hm2⟩
        · obtain ⟨g', hg'⟩ := hN1.maps j (by omega)
          exact ⟨g', hg'.kept (hk j (by omega))⟩
    clear hm2 hg2 hz2 hT2 hk hN1 hT1 h e1 e2 hg0 c1
    go_wp2_with fail
    go_end0
    exact ⟨rfl, hN, hT⟩

set_option maxHeartbeats 400000 in
theorem load_any (N n : Nat) (s : ByteArray) (hs : s.size ≤ maxLen) : ∀ (i : Nat) (w : World) (f : ByteArray → Option Nat), Nodes w N (i + 1) n f →
    Calls Ebmg.prog 13 #[.pointer (some ⟨N + 2 * i + 1, 0, none⟩), .string s] w fun e w' => e = .returned (.tuple #[ptrTo (f s), .bool (f s).isSome]) ∧ w' = w := by
  intro i
  induction i with
  | zero =>
    intro w f h
    have c1 := h.cell1 (i := 0) (by omega)
    have c10 := h.cell10 (i := 0) (by omega)
    have hrun := h.root.look s hs
    simp only [parOf, Nat.mul_zero, Nat.add_zero] at c1 c10
    clear h
    go_enter Ebmg.func13, Ebmg.ntmps13
    go_wp2_with fail
    go_ret2
    exact ⟨rfl, rfl⟩
  | succ i ih =>
    intro w f h
    have c1 := h.cell1 (i := i + 1) (by omega)
    simp only [parOf] at c1
    go_enter Ebmg.func13, Ebmg.ntmps13
    go_wp2_with fail
    refine (ih w f (h.fewer (by omega))).mono ?_
    rintro e w1 ⟨rfl, rfl⟩
    go_wp2_with fail
    go_ret2
    exact ⟨rfl, rfl⟩

theorem Nodes.turned {w w' : World} {N c k n : Nat} {f g : ByteArray → Option Nat} (h : Nodes w N c n f) (h' : Nodes w' N k (n + 1) g) (hT : Turn w w' N k) : Nodes w' N c (n + 1) g := by
  refine ⟨fun i hi => ?_, fun i hi => ?_, h'.root⟩
  · rw [hT.block _ (fun j hj => by omega)]; exact h.node i hi
  · by_cases hik : i < k
    · exact h'.maps i hik
    · obtain ⟨g0, hg0⟩ := h.maps i hi
      exact ⟨g0, (hg0.mono (Nat.le_succ n)).kept (hT.block _ (fun j hj => by omega))⟩

set_option maxHeartbeats 400000 in
theorem store_door (N n c : Nat) (hn : n < maxLen) (s : ByteArray) (hs : s.size ≤ maxLen) (v i : Nat) (hi : i < c) (w : World) (f : ByteArray → Option Nat) (h : Nodes w N c n f) :
    Calls Ebmg.prog 8 #[.pointer (some ⟨N + 2 * i + 1, 0, none⟩), .string s, .pointer (some ⟨v, 0, none⟩)] w fun e w' => e = .returned (.tuple #[]) ∧ Nodes w' N c (n + 1) (upd f s v) ∧ Turn w w' N c := by
  go_enter Ebmg.func8, Ebmg.ntmps8
  go_wp2_with fail
  refine (store_any N n hn s hs v i w f (h.fewer (by omega))).mono ?_
  rintro e w1 ⟨rfl, hN1, hT1⟩
  have hN : Nodes w1 N c (n + 1) (upd f s v) := h.turned hN1 hT1
  have hT : Turn w w1 N c := hT1.mono (by omega)
  clear hN1 hT1 h
  go_wp2_with fail
  go_end0
  exact ⟨rfl, hN, hT⟩

set_option maxHeartbeats 400000 in
theorem load_door (N n c : Nat) (s : ByteArray) (hs : s.size ≤ maxLen) (i : Nat) (hi : i < c) (w : World) (f : ByteArray → Option Nat) (h : Nodes w N c n f) :
    Calls Ebmg.prog 10 #[.pointer (some ⟨N + 2 * i + 1, 0, none⟩), .string s] w fun e w' => e = .returned (.tuple #[ptrTo (f s), .bool (f s).isSome]) ∧ w = w' := by
  go_enter Ebmg.func10, Ebmg.ntmps10
  go_wp2_with fail
  refine (load_any N n s hs i w f (h.fewer (by omega))).mono ?_
  rintro e w1 ⟨rfl, rfl⟩
  go_wp2_with fail
  go_ret2
  exact ⟨rfl, rfl⟩

theorem Nodes.alloc {w : World} {N c n : Nat} {f : ByteArray → Option Nat} (h : Nodes w N c n f) (o : Obj) : Nodes (w.alloc o) N c n f := by
  refine ⟨fun i hi => ?_, fun i hi => ?_, h.root.kept (Below.heap_alloc _ _ _ h.root.lt)⟩
  · have e := h.node i hi
    rw [Below.heap_alloc _ _ _ (Array.getElem?_eq_some_iff.1 e).1]
    exact e
  · obtain ⟨g, hg⟩ := h.maps i hi
    exact ⟨g, hg.kept (Below.heap_alloc _ _ _ hg.lt)⟩

end Go.Proofs.Yoebmw
