/-
  OWN TEXT. FnStoreLoadScript (3) where a bound of the driver is passed: it returns true at once; then the walk for every input.
-/
import Derived.Test.YoebmwScript
namespace Go.Proofs.Yoebmw
open Go.RowKit Go.Maps

/-- The ways on which the driver answers true at once. -/
def scriptOutside (n : Int) (len1 len2 len3 : Nat) (q : ByteArray) : Prop := n < 0 ∨ 256 < n ∨ (4096 : Int) < len1 ∨ ¬ len2 = len1 ∨ ¬ len3 = len1 ∨ (65536 : Int) < q.size

set_option maxRecDepth 100000 in
set_option maxHeartbeats 400000 in
theorem script_out (n d : Int) (a1 a2 a3 : Option Addr) (len1 cap1 len2 cap2 len3 cap3 : Nat) (q : ByteArray) (S : Nat → ByteArray) (w : World) (h2 : Cells w 23 a2 len2 cap2 (fun i => .string (S i))) (hS : ∀ i, i < len2 → (S i).size ≤ maxLen)
    (l1 : len1 ≤ maxLen) (l2 : len2 ≤ maxLen) (l3 : len3 ≤ maxLen) (lq : q.size ≤ maxLen) (ho : scriptOutside n len1 len2 len3 q) :
    Calls Ebmg.prog 3 #[.int .i64 n, .slice a1 len1 cap1, .slice a2 len2 cap2, .slice a3 len3 cap3, .int .i64 d, .string q] w fun e w' => e = .returned (.bool true) ∧ w = w' := by
  have hb := bytes_script n d a1 a2 a3 len1 cap1 len2 cap2 len3 cap3 q S w h2 hS l1 l2 l3 lq
  unfold maxLen at l1 l2 l3 lq
  unfold scriptOutside at ho
  clear h2 hS
  by_cases h0 : n < 0
  · clear ho
    go_enter Ebmg.func3, Ebmg.ntmps3
    go_wp2_with fail
    refine hb.mono ?_
    rintro e w' ⟨⟨b, rfl, _⟩, rfl⟩
    clear hb
    cases b <;> (go_wp2_with fail; go_ret; exact ⟨rfl, rfl⟩)
  by_cases h1 : 256 < n
  · clear ho
    go_enter Ebmg.func3, Ebmg.ntmps3
    go_wp2_with fail
    refine hb.mono ?_
    rintro e w' ⟨⟨b, rfl, _⟩, rfl⟩
    clear hb
    cases b <;> (go_wp2_with fail; go_ret; exact ⟨rfl, rfl⟩)
  have h1' : n ≤ 256 := by omega
  by_cases h3 : (4096 : Int) < len1
  · clear ho
    go_enter Ebmg.func3, Ebmg.ntmps3
    go_wp2_with fail
    refine hb.mono ?_
    rintro e w' ⟨⟨b, rfl, _⟩, rfl⟩
    clear hb
    cases b <;> (go_wp2_with fail; go_ret; exact ⟨rfl, rfl⟩)
  have h3' : (len1 : Int) ≤ 4096 := by omega
  by_cases h4 : len2 = len1
  · subst h4
    by_cases h5 : len3 = len2
    · subst h5
      have h6 : (65536 : Int) < q.size := by omega
      clear ho
      go_enter Ebmg.func3, Ebmg.ntmps3
      go_wp2_with fail
      refine hb.mono ?_
      rintro e w' ⟨⟨b, rfl, _⟩, rfl⟩
      clear hb
      cases b <;> (go_wp2_with fail; go_ret; exact ⟨rfl, rfl⟩)
    · have h5' : ((len3 : Int) != (len2 : Int)) = true := by simp; omega
      clear ho h5
      go_enter Ebmg.func3, Ebmg.ntmps3
      go_wp2_with fail
      refine hb.mono ?_
      rintro e w' ⟨⟨b, rfl, _⟩, rfl⟩
      clear hb
      cases b <;> (go_wp2_with fail; go_ret; exact ⟨rfl, rfl⟩)
  · have h4' : ((len2 : Int) != (len1 : Int)) = true := by simp; omega
    clear ho h4
    go_enter Ebmg.func3, Ebmg.ntmps3
    go_wp2_with fail
    refine hb.mono ?_
    rintro e w' ⟨⟨b, rfl, _⟩, rfl⟩
    clear hb
    cases b <;> (go_wp2_with fail; go_ret; exact ⟨rfl, rfl⟩)

/-- THE WALK, for every input. -/
theorem script_walk (n d : Int) (a1 a2 a3 : Option Addr) (len1 cap1 len2 cap2 len3 cap3 : Nat) (q : ByteArray) (D I : Nat → Int) (S : Nat → ByteArray) (w : World)
    (h1 : Cells w 22 a1 len1 cap1 (fun i => .int .i64 (D i))) (h2 : Cells w 23 a2 len2 cap2 (fun i => .string (S i))) (h3 : Cells w 22 a3 len3 cap3 (fun i => .int .i64 (I i))) (hS : ∀ i, i < len2 → (S i).size ≤ maxLen)
    (l1 : len1 ≤ maxLen) (l2 : len2 ≤ maxLen) (l3 : len3 ≤ maxLen) (lq : q.size ≤ maxLen) :
    Calls Ebmg.prog 3 #[.int .i64 n, .slice a1 len1 cap1, .slice a2 len2 cap2, .slice a3 len3 cap3, .int .i64 d, .string q] w fun e w' => e = .returned (.bool true) ∧ Below w.heap.size w w' := by
  by_cases ho : scriptOutside n len1 len2 len3 q
  · refine (script_out n d a1 a2 a3 len1 cap1 len2 cap2 len3 cap3 q S w h2 hS l1 l2 l3 lq ho).mono ?_
    rintro e w' ⟨rfl, rfl⟩
    exact ⟨rfl, Below.refl _ _⟩
  · unfold scriptOutside at ho
    obtain ⟨k, rfl⟩ : ∃ k : Nat, n = k := ⟨n.toNat, by omega⟩
    obtain rfl : len2 = len1 := by omega
    obtain rfl : len3 = len2 := by omega
    exact script_main k len3 d a1 a2 a3 cap1 cap2 cap3 q D I S w (by omega) (by omega) (by omega) h1 h2 h3 hS

end Go.Proofs.Yoebmw
