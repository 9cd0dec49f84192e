/-
  OWN TEXT. The contracts of the two that reckon lengths: zzStrsBytes (6), zzBytes_FnStoreLoadScript (5).
-/
import Derived.Test.YoebmwRowsIn
namespace Go.Proofs.Yoebmw
open Go.RowKit Go.Maps

set_option maxHeartbeats 400000 in
theorem strs_any (a : Option Addr) (len cap : Nat) (S : Nat → ByteArray) (w : World) (hc : Cells w 23 a len cap (fun i => .string (S i))) (hS : ∀ i, i < len → (S i).size ≤ 1048576) (hlen : len ≤ 1048576) :
    Calls Ebmg.prog 6 #[.slice a len cap] w fun e w' => (∃ t : Int, 0 ≤ t ∧ t ≤ 3000000 ∧ e = .returned (.int .i64 t)) ∧ w = w' := by
  obtain ⟨b, off, hc⟩ := hc
  go_enter Ebmg.func6, Ebmg.ntmps6
  go_wp2
  go_loop [3, 4] (fun t i => ∃ k : Nat, k ≤ len ∧ i = .int .i64 k ∧ ∃ z : Int, 0 ≤ z ∧ z ≤ 1048576 ∧ t = .int .i64 z) (fun _ i => len - (intOf i).toNat)
  case atStart => exact ⟨0, Nat.zero_le _, rfl, 0, by omega, by omega, rfl⟩
  case round =>
    obtain ⟨k, hk, rfl, z, hz0, hz1, rfl⟩ := hrel
    by_cases hlt : k < len
    · obtain ⟨hi, hcell⟩ := hc k hlt
      have hsz := hS k hlt
      clear hc hS
      by_cases hov : (1048576 : Int) < z + (16 + ((S k).size : Int))
      · go_wp2
        go_ret
        exact ⟨⟨_, by omega, by omega, rfl⟩, rfl⟩
      · go_wp2
        go_round
        case rel => exact ⟨k + 1, by omega, by go_num, _, by omega, by omega, rfl⟩
        case measure => simp [intOf]; omega
    · clear hc hS
      go_wp2
      go_ret
      exact ⟨⟨z, by omega, by omega, rfl⟩, rfl⟩

/-- What zzBytes answers: a bool; where it is true, no key is longer than its bound. -/
def BytesEnd (len : Nat) (S : Nat → ByteArray) (e : Ending) : Prop := ∃ b, e = .returned (.bool b) ∧ (b = true → ∀ i, i < len → (S i).size ≤ 1048576)

theorem bytesEnd_no (len : Nat) (S : Nat → ByteArray) : BytesEnd len S (.returned (.bool false)) := ⟨false, rfl, fun h => by cases h⟩
theorem bytesEnd_any {len : Nat} {S : Nat → ByteArray} (b : Bool) (h : ∀ i, i < len → (S i).size ≤ 1048576) : BytesEnd len S (.returned (.bool b)) := ⟨b, rfl, fun _ => h⟩

set_option maxHeartbeats 1000000 in
theorem bytes_script (n d : Int) (a1 a2 a3 : Option Addr) (len1 cap1 len2 cap2 len3 cap3 : Nat) (q : ByteArray) (S : Nat → ByteArray) (w : World) (hc : Cells w 23 a2 len2 cap2 (fun i => .string (S i))) (hS : ∀ i, i < len2 → (S i).size ≤ maxLen)
    (l1 : len1 ≤ maxLen) (l2 : len2 ≤ maxLen) (l3 : len3 ≤ maxLen) (lq : q.size ≤ maxLen) :
    Calls Ebmg.prog 5 #[.int .i64 n, .slice a1 len1 cap1, .slice a2 len2 cap2, .slice a3 len3 cap3, .int .i64 d, .string q] w fun e w' => BytesEnd len2 S e ∧ w = w' := by
  obtain ⟨b, off, hc⟩ := hc
  unfold maxLen at l1 l2 l3 lq hS
  by_cases hA : (1048576 : Int) < len1
  · clear hc hS
    go_enter Ebmg.func5, Ebmg.ntmps5
    go_wp2
    go_ret
    exact ⟨bytesEnd_no _ _, rfl⟩
  by_cases hB : (1048576 : Int) < len2
  · clear hc hS
    go_enter Ebmg.func5, Ebmg.ntmps5
    go_wp2
    go_ret
    exact ⟨bytesEnd_no _ _, rfl⟩
  by_cases hC : (1048576 : Int) < (len1 : Int) + len2
  · clear hc hS
    go_enter Ebmg.func5, Ebmg.ntmps5
    go_wp2
    go_ret
    exact ⟨bytesEnd_no _ _, rfl⟩
  go_enter Ebmg.func5, Ebmg.ntmps5
  go_wp2
  go_loop [13, 14] (fun t i => ∃ k : Nat, k ≤ len2 ∧ i = .int .i64 k ∧ ∃ z : Int, 0 ≤ z ∧ z ≤ 1048576 ∧ t = .int .i64 z ∧ Hid (∀ j, j < k → (S j).size ≤ 1048576)) (fun _ i => len2 - (intOf i).toNat)
  case atStart => exact ⟨0, Nat.zero_le _, rfl, _, by omega, by omega, rfl, fun j hj => by omega⟩
  case round =>
    obtain ⟨k, hk, rfl, z, hz0, hz1, rfl, hall⟩ := hrel
    by_cases hlt : k < len2
    · obtain ⟨hi, hcell⟩ := hc k hlt
      have hsz := hS k hlt
      clear hc hS
      by_cases hov : (1048576 : Int) < ((S k).size : Int)
      · go_wp2
        go_ret
        exact ⟨bytesEnd_no _ _, rfl⟩
      by_cases hov2 : (1048576 : Int) < z + ((S k).size : Int)
      · go_wp2
        go_ret
        exact ⟨bytesEnd_no _ _, rfl⟩
      · have hnew : Hid (∀ j, j < k + 1 → (S j).size ≤ 1048576) := fun j hj => by
          by_cases e : j = k
          · subst e; omega
          · exact hall.out j (by omega)
        clear hall
        go_wp2
        go_round
        case rel => exact ⟨k + 1, by omega, by go_num, _, by omega, by omega, rfl, hnew⟩
        case measure => simp [intOf]; omega
    · obtain rfl : k = len2 := by omega
      clear hc hS
      go_wp2
      all_goals (go_ret; exact ⟨bytesEnd_any _ hall.out, rfl⟩)

end Go.Proofs.Yoebmw
