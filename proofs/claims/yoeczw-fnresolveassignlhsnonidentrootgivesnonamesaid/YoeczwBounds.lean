/-
  Seat oecz: the two bounds laid by program (functions 5, 8) and 'chainSize' (6): each returns, and turns nothing.
-/
import Derived.Test.YoeczwChainWalk
namespace Go.Proofs.Yoeczw
open Go.RowKit

def IsBool (r : Ending) : Prop := ∃ b, r = .returned (.bool b)
def IsInt (r : Ending) : Prop := ∃ n, r = .returned (.int .i64 n)
theorem IsBool.mk (b : Bool) : IsBool (.returned (.bool b)) := ⟨b, rfl⟩
theorem IsInt.mk (n : Int) : IsInt (.returned (.int .i64 n)) := ⟨n, rfl⟩

set_option maxHeartbeats 1000000 in
theorem bytes5 (name : ByteArray) (sa ka : Option Addr) (m sc n kc : Nat) (ks : Nat → ByteArray) (w : World) (hnm : name.size ≤ maxLen) (hm : m ≤ maxLen) (hn : n ≤ maxLen)
    (hk : Lies w ka n fun i => .string (ks i)) (hs : ∀ i, i < n → (ks i).size ≤ maxLen) :
    Calls Eczg.prog 5 #[.string name, .slice sa m sc, .slice ka n kc] w fun r w' => IsBool r ∧ w' = w := by
  unfold maxLen at hnm hm hn hs
  go_enter Eczg.func5, Eczg.ntmps5
  go_wp2_with fail
  iterate 5 (rotate_left; rotate_right; (go_ret; exact ⟨IsBool.mk _, rfl⟩))
  go_loop [7, 8] (fun z i => ∃ (k : Nat) (q : Int), k ≤ n ∧ i = .int .i64 k ∧ z = .int .i64 q ∧ 0 ≤ q ∧ q ≤ 1048576) (fun _ i => n - (intOf i).toNat)
  case atStart => exact ⟨0, _, Nat.zero_le _, rfl, rfl, by omega, by omega⟩
  case round =>
    obtain ⟨k, q, hkn, rfl, rfl, hq0, hq1⟩ := hrel
    by_cases hlt : k < n
    · obtain ⟨kb, ko, rfl, hck⟩ := hk k hlt
      have hck' : w.cell? ⟨kb, ko + k, none⟩ = some (.string (ks k)) := hck
      have hsk := hs k hlt
      clear hck
      go_wp2_with fail
      · go_ret
        exact ⟨IsBool.mk _, rfl⟩
      · go_ret
        exact ⟨IsBool.mk _, rfl⟩
      · go_round
        case rel => exact ⟨k + 1, _, by omega, by go_num, rfl, by omega, by omega⟩
        case measure => simp [intOf]; omega
    · go_wp2_with fail
      go_ret
      exact ⟨IsBool.mk _, rfl⟩

set_option maxHeartbeats 1000000 in
theorem bytes8 (name : ByteArray) (sa ka : Option Addr) (m sc n kc : Nat) (ks : Nat → ByteArray) (w : World) (hnm : name.size ≤ maxLen) (hm : m ≤ maxLen) (hn : n ≤ maxLen)
    (hk : Lies w ka n fun i => .string (ks i)) (hs : ∀ i, i < n → (ks i).size ≤ maxLen) :
    Calls Eczg.prog 8 #[.string name, .slice sa m sc, .slice ka n kc] w fun r w' => IsBool r ∧ w' = w := by
  unfold maxLen at hnm hm hn hs
  go_enter Eczg.func8, Eczg.ntmps8
  go_wp2_with fail
  iterate 5 (rotate_left; rotate_right; (go_ret; exact ⟨IsBool.mk _, rfl⟩))
  go_loop [7, 8] (fun z i => ∃ (k : Nat) (q : Int), k ≤ n ∧ i = .int .i64 k ∧ z = .int .i64 q ∧ 0 ≤ q ∧ q ≤ 1048576) (fun _ i => n - (intOf i).toNat)
  case atStart => exact ⟨0, _, Nat.zero_le _, rfl, rfl, by omega, by omega⟩
  case round =>
    obtain ⟨k, q, hkn, rfl, rfl, hq0, hq1⟩ := hrel
    by_cases hlt : k < n
    · obtain ⟨kb, ko, rfl, hck⟩ := hk k hlt
      have hck' : w.cell? ⟨kb, ko + k, none⟩ = some (.string (ks k)) := hck
      have hsk := hs k hlt
      clear hck
      go_wp2_with fail
      · go_ret
        exact ⟨IsBool.mk _, rfl⟩
      · go_ret
        exact ⟨IsBool.mk _, rfl⟩
      · go_round
        case rel => exact ⟨k + 1, _, by omega, by go_num, rfl, by omega, by omega⟩
        case measure => simp [intOf]; omega
    · go_wp2_with fail
      go_ret
      exact ⟨IsBool.mk _, rfl⟩

set_option maxHeartbeats 1000000 in
theorem size6 (name : ByteArray) (sa ka : Option Addr) (m sc n kc : Nat) (ks : Nat → ByteArray) (w : World) (hn : n ≤ 65536)
    (hk : Lies w ka n fun i => .string (ks i)) :
    Calls Eczg.prog 6 #[.string name, .slice sa m sc, .slice ka n kc] w fun r w' => IsInt r ∧ w' = w := by
  go_enter Eczg.func6, Eczg.ntmps6
  go_wp2_with fail
  go_loop [7, 8] (fun z i => ∃ (k : Nat) (q : Int), k ≤ n ∧ i = .int .i64 k ∧ z = .int .i64 q) (fun _ i => n - (intOf i).toNat)
  case atStart => exact ⟨0, _, Nat.zero_le _, rfl, rfl⟩
  case round =>
    obtain ⟨k, q, hkn, rfl, rfl⟩ := hrel
    by_cases hlt : k < n
    · obtain ⟨kb, ko, rfl, hck⟩ := hk k hlt
      have hck' : w.cell? ⟨kb, ko + k, none⟩ = some (.string (ks k)) := hck
      clear hck
      go_wp2_with fail
      go_round
      case rel => exact ⟨k + 1, _, by omega, by go_num, rfl⟩
      case measure => simp [intOf]; omega
    · go_wp2_with fail
      go_ret
      exact ⟨IsInt.mk _, rfl⟩
#print axioms size6
end Go.Proofs.Yoeczw
