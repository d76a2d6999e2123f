/-
  Seat oeczD: 'sameBytes' (function 9) and the two bounds laid by program (5, 10).
-/
import Derived.Test.YoeczwDoorBase
namespace Go.Proofs.YoeczwDoor
open Go.RowKit

def IsBool (r : Ending) : Prop := ∃ b, r = .returned (.bool b)
theorem IsBool.mk (b : Bool) : IsBool (.returned (.bool b)) := ⟨b, rfl⟩

set_option maxHeartbeats 1000000 in
/-- Two slices that hold the same bytes. -/
theorem same_any (F : Nat → Int) (aa ba : Option Addr) (n ac bc : Nat) (w : World) (hn : n ≤ 1099511627776) (ha : Lies w aa n fun j => .int .u8 (F j)) (hb : Lies w ba n fun j => .int .u8 (F j)) :
    Calls Eczg.prog 9 #[.slice aa n ac, .slice ba n bc] w fun e w' => e = .returned (.bool true) ∧ Below w.heap.size w w' := by
  go_enter Eczg.func9, Eczg.ntmps9
  go_wp2_with fail
  go_loopw [5] (fun i wr => ∃ k, k ≤ n ∧ i = .int .i64 (k : Nat) ∧ Below w.heap.size w wr) (fun i _ => n - (intOf i).toNat)
  case atStart => exact ⟨0, Nat.zero_le _, rfl, Below.refl _ _⟩
  case round =>
    obtain ⟨k, hk, rfl, hbr⟩ := hrel
    by_cases hlt : k < n
    · obtain ⟨b1, o1, rfl, c1⟩ := ha k hlt
      obtain ⟨b2, o2, rfl, c2⟩ := hb k hlt
      have d1 : wr.cell? ⟨b1, o1 + k, none⟩ = some (.int .u8 (F k)) := cell_later hbr c1
      have d2 : wr.cell? ⟨b2, o2 + k, none⟩ = some (.int .u8 (F k)) := cell_later hbr c2
      have hki : (k : Int) < (n : Int) := by omega
      clear c1 c2
      go_wp2_with fail
      go_quiet (fail)
      go_wp2_with fail
      go_roundw
      case rel => exact ⟨k + 1, by omega, by go_num, below_drewN hbr _⟩
      case measure => simp [intOf]; omega
    · go_wp2_with fail
      go_ret
      exact ⟨rfl, hbr⟩

theorem bytes5 (aa ba : Option Addr) (n m ac bc : Nat) (w : World) (hn : n ≤ maxLen) (hm : m ≤ maxLen) :
    Calls Eczg.prog 5 #[.slice aa n ac, .slice ba m bc] w fun r w' => IsBool r ∧ w' = w := by
  unfold maxLen at hn hm
  go_enter Eczg.func5, Eczg.ntmps5
  go_wp2_with fail
  all_goals (go_ret; exact ⟨IsBool.mk _, rfl⟩)

theorem bytes10 (aa ba : Option Addr) (n m ac bc : Nat) (k : Int) (w : World) (hn : n ≤ maxLen) (hm : m ≤ maxLen) :
    Calls Eczg.prog 10 #[.slice aa n ac, .slice ba m bc, .int .i64 k] w fun r w' => IsBool r ∧ w' = w := by
  unfold maxLen at hn hm
  go_enter Eczg.func10, Eczg.ntmps10
  go_wp2_with fail
  all_goals (go_ret; exact ⟨IsBool.mk _, rfl⟩)
#print axioms same_any
#print axioms bytes10
end Go.Proofs.YoeczwDoor
