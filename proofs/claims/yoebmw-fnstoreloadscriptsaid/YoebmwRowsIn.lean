/-
  OWN TEXT. Slices that came in, told so that one walk serves nil, empty and longer ones: 'Cells w t a len cap V': the address of element k is known for every k below the length, and the cell there holds V k.
-/
import Derived.Test.YoebmwBuilt
namespace Go.Proofs.Yoebmw
open Go.RowKit Go.Maps

def Cells (w : World) (t : TypeId) (a : Option Addr) (len cap : Nat) (V : Nat → Value) : Prop :=
  ∃ b off, ∀ k, k < len → (∀ w', (Instr.indexAt t (.slice a len cap) (.int .i64 k)).run Ebmg.prog w' = .ok (.pointer (some ⟨b, off + k, none⟩)) w') ∧ w.cell? ⟨b, off + k, none⟩ = some (V k)

theorem cells_of {w : World} {t e : TypeId} {x : Addr} {len cap : Nat} {V : Nat → Value} (ht : Ebmg.prog.underlying t = some (.slice e)) (hs : (Ebmg.prog.info? e).map (·.size) = some 1)
    (h : ∀ i, i < len → w.cell? (x.add i) = some (V i)) : Cells w t (some x) len cap V := by
  by_cases h0 : 0 < len
  · obtain ⟨b, off, spot⟩ := x
    have hspot : spot = none := by simpa [Addr.add] using World.cell?_spot (h 0 h0)
    subst hspot
    refine ⟨b, off, fun k hk => ⟨fun w' => ?_, ?_⟩⟩
    · obtain ⟨i, hi, hsz⟩ := Option.map_eq_some_iff.1 hs
      simp [Instr.indexAt, asIntOf, run_underlying ht, sizeOf, typeInfo, hi, hsz, hk, Result.andThen, WideShapes.add_plain]
    · have := h k hk
      rw [WideShapes.add_plain] at this
      exact this
  · exact ⟨0, 0, fun k hk => by omega⟩

theorem cells_nil (w : World) (t : TypeId) (V : Nat → Value) : Cells w t none 0 0 V := ⟨0, 0, fun k hk => by omega⟩

end Go.Proofs.Yoebmw
