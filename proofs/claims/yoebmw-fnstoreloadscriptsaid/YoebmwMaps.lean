/-
  OWN TEXT. The compilers' module caches: map[string]*CompiledFunction, in blocks that the call makes.
  'ptrElem' reads an element (a pointer to a block's head, or nil) as a closed datum; 'mapAt' says: block b is a map of at most n entries whose content is the plain function f (a key leads to a block's number, or to nothing).
-/
import Derived.Test.YoebmwRows
import Derived.Maps.OwnSet
import Derived.WalkKit
namespace Go.Proofs.Yoebmw
open Go.RowKit Go.Maps

theorem law9 : Keyed Ebmg.prog 9 := string_keyed Ebmg.underlying9
theorem zero30 (w : World) : (zeroValue 30).run Ebmg.prog w = .ok (.pointer none) w := by kernel_rfl

/-- How an element reads: nil, or a pointer to the head of a block. -/
def ptrElem (v : Value) : Option (DataW Unit × List MemPlace) :=
  match v with
  | .pointer none => some (.nil, [])
  | .pointer (some a) => if a = ⟨a.block, 0, none⟩ then some (.lit (.int .u64 a.block), []) else none
  | _ => none

/-- The pointer to the head of a block, or nil. -/
def ptrTo (o : Option Nat) : Value :=
  match o with
  | none => .pointer none
  | some b => .pointer (some ⟨b, 0, none⟩)

def ptrDat (o : Option Nat) : DataW Unit :=
  match o with
  | none => .nil
  | some b => .lit (.int .u64 b)

theorem ptrElem_mk (o : Option Nat) : ptrElem (ptrTo o) = some (ptrDat o, []) := by
  cases o <;> simp [ptrElem, ptrTo, ptrDat]

theorem ptrElem_inv {v : Value} {o : Option Nat} {ps : List MemPlace} (h : ptrElem v = some (ptrDat o, ps)) : v = ptrTo o := by
  unfold ptrElem at h
  split at h
  · cases o with
    | none => rfl
    | some b => simp [ptrDat] at h
  · rename_i a
    split at h
    · rename_i ha
      cases o with
      | none => simp [ptrDat] at h
      | some b =>
        simp only [ptrDat, Option.some.injEq, Prod.mk.injEq, DataW.lit.injEq, Lit.int.injEq] at h
        have : a.block = b := by omega
        rw [ha, this]; rfl
    · cases h
  · cases h

/-- The key as it is read. -/
def keyLit (s : ByteArray) : Lit := .string s.data.toList

theorem keyLit_inj {s t : ByteArray} (h : keyLit s = keyLit t) : s = t := by
  unfold keyLit at h
  injection h with h
  cases s; cases t
  simp only [ByteArray.mk.injEq]
  exact Array.ext' h

/-- BLOCK b OF w IS A MAP OF AT MOST n ENTRIES; what stands at a key s is f s. -/
def mapAt (w : World) (b n : Nat) (f : ByteArray → Option Nat) : Prop :=
  ∃ D : DataW Unit, w.ownsMap Ebmg.prog 9 ptrElem b n D ∧ ∀ s : ByteArray, Maps.has D (keyLit s) = (f s).isSome ∧ D.atKey (keyLit s) .nil = ptrDat (f s)

def upd (f : ByteArray → Option Nat) (s : ByteArray) (v : Nat) : ByteArray → Option Nat := fun t => if t = s then some v else f t

theorem mapAt_made (w : World) : mapAt (w.alloc (.map #[] 0)) w.heap.size 0 (fun _ => Option.none) :=
  ⟨_, World.ownsMap_made _ _ _ _, fun _ => ⟨rfl, rfl⟩⟩

theorem mapAt.mono {w : World} {b n n' : Nat} {f : ByteArray → Option Nat} (h : mapAt w b n f) (hn : n ≤ n') : mapAt w b n' f := by
  obtain ⟨D, h1, h2⟩ := h
  exact ⟨D, h1.mono hn, h2⟩

theorem mapAt.lt {w : World} {b n : Nat} {f : ByteArray → Option Nat} (h : mapAt w b n f) : b < w.heap.size := by
  obtain ⟨D, h1, h2⟩ := h
  exact h1.lt

theorem mapAt.kept {w w' : World} {b n : Nat} {f : ByteArray → Option Nat} (h : mapAt w b n f) (e : w'.heap[b]? = w.heap[b]?) : mapAt w' b n f := by
  obtain ⟨D, ⟨es, clock, hb, r⟩, h2⟩ := h
  exact ⟨D, ⟨es, clock, e.trans hb, r⟩, h2⟩

theorem mapAt_put {w' : World} {b n : Nat} {f : ByteArray → Option Nat} {D : DataW Unit} (hD : IsMap D) (h2 : ∀ s : ByteArray, Maps.has D (keyLit s) = (f s).isSome ∧ D.atKey (keyLit s) .nil = ptrDat (f s))
    (s : ByteArray) (v : Nat) (h : w'.ownsMap Ebmg.prog 9 ptrElem b n (D.put (keyLit s) (ptrDat (some v)))) : mapAt w' b n (upd f s v) := by
  refine ⟨_, h, fun t => ?_⟩
  unfold upd
  by_cases e : t = s
  · subst e
    rw [if_pos rfl]
    exact ⟨Maps.has_put_same hD (show WideAt.IsKeyLit (keyLit t) from trivial) _, Maps.atKey_put_same hD (show WideAt.IsKeyLit (keyLit t) from trivial) _ _⟩
  · rw [if_neg e]
    have hne : keyLit t ≠ keyLit s := fun h => e (keyLit_inj h)
    rw [Maps.has_put_other hne, Maps.atKey_put_other hne]
    exact h2 t

/-- What 'v, ok := m[k]' gives. -/
def found (o : Option Nat) : Value := .tuple #[ptrTo o, .bool o.isSome]

theorem mapAt.look {w : World} {b n : Nat} {f : ByteArray → Option Nat} (h : mapAt w b n f) (s : ByteArray) (hs : s.size ≤ maxLen) :
    (Instr.lookup 44 (.map (some b)) (.string s) true).run Ebmg.prog w = .ok (.tuple #[ptrTo (f s), .bool (f s).isSome]) w := by
  obtain ⟨D, h1, h2⟩ := h
  obtain ⟨v, ps, hrun, hv⟩ := h1.look_ok law9 Ebmg.underlying44 (zero30 w) (ptrElem_mk Option.none) (WideMaps.keyOf_string_mk Ebmg.underlying9 hs)
  obtain ⟨e1, e2⟩ := h2 s
  have e3 : D.atKey (Lit.string s.data.toList) (ptrDat Option.none) = ptrDat (f s) := e2
  rw [e3] at hv
  rw [hrun, ptrElem_inv hv]
  have e4 : Maps.has D (Lit.string s.data.toList) = (f s).isSome := e1
  rw [e4]

theorem mapAt.store {w : World} {b n : Nat} {f : ByteArray → Option Nat} (h : mapAt w b n f) (hn : n < maxLen) (s : ByteArray) (hs : s.size ≤ maxLen) (v : Nat) :
    ∃ w', (Instr.mapUpdate 44 (.map (some b)) (.string s) (.pointer (some ⟨v, 0, Option.none⟩))).run Ebmg.prog w = .ok () w' ∧ mapAt w' b (n + 1) (upd f s v) ∧ w.grownBy w' (some b) ∧ w'.heap.size = w.heap.size := by
  obtain ⟨D, h1, h2⟩ := h
  obtain ⟨w', hrun, hown, hturn⟩ := h1.store law9 Ebmg.underlying44 hn (WideMaps.keyOf_string_mk Ebmg.underlying9 hs) (ptrElem_mk (some v))
  refine ⟨w', hrun, mapAt_put h1.isMap h2 s v hown, hturn.grown, ?_⟩
  obtain ⟨es, clock, es', clock', hb, rfl⟩ := hturn
  simp [ChangeMaps.setBlock]

end Go.Proofs.Yoebmw
