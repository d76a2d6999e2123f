/-
  Seat oeczD: 'ZZiterateAll' (7), 'ZZiterateFirst' (11) by their contracts.
-/
import Derived.Test.YoeczwDoorIter
import Derived.Test.YoeczwDoorSmall
namespace Go.Proofs.YoeczwDoor
open Go.RowKit

theorem var_new {D : Nat} {w : World} {b : Nat} {e t : TypeId} (h : w.heap[b]? = some (.cells #[.slice none 0 0] t (0, 0))) (hD : b < D) : Var D w b e (.slice none 0 0) [] :=
  ⟨by simp [World.cell?, h], by simp [World.frozen?, h], World.ownsRow_nil _ _ _ _, hD⟩

theorem start_all (w : World) : S w.heap.size (((w.alloc (.cells #[.slice none 0 0] 24)).alloc (.cells #[.slice none 0 0] 22)).alloc (.cells #[.slice none 0 0] 27)) (.slice none 0 0) (.slice none 0 0) (.slice none 0 0) [] [] [] [] [] := by
  refine ⟨var_new (t := 24) ?_ (by omega), var_new (t := 22) ?_ (by omega), var_new (t := 27) ?_ (by omega), ⟨rfl, fun j hj => absurd hj (by simp)⟩, by simp⟩
  · rw [Below.heap_alloc _ _ _ (by simp; omega), Below.heap_alloc _ _ _ (by simp), heap_alloc_new]
  · rw [Below.heap_alloc _ _ _ (by simp)]
    have h := heap_alloc_new (w.alloc (.cells #[.slice none 0 0] 24)) (.cells #[.slice none 0 0] 22)
    simpa using h
  · have h := heap_alloc_new ((w.alloc (.cells #[.slice none 0 0] 24)).alloc (.cells #[.slice none 0 0] 22)) (.cells #[.slice none 0 0] 27)
    simpa using h

theorem start_first (w : World) (k : Int) : S1 w.heap.size ((w.alloc (.cells #[.int .i64 k] 3)).alloc (.cells #[.slice none 0 0] 24)) (.slice none 0 0) [] k := by
  refine ⟨var_new (t := 24) ?_ (by omega), by simp, by simp⟩
  have h := heap_alloc_new (w.alloc (.cells #[.int .i64 k] 3)) (.cells #[.slice none 0 0] 24)
  simpa using h

set_option maxHeartbeats 1000000 in
theorem all_any (cs : List Nat) (bs : List Int) (hL : Laid cs bs) (hcs : cs.length ≤ 65536) (ba : Option Addr) (bc : Nat) (w : World) (hT : Tab w) (hC : Lies w ba bs.length fun j => .int .u8 (bAt bs j)) (hbc : bs.length ≤ bc) (hbm : bc ≤ maxLen) :
    Calls Eczg.prog 7 #[.slice ba bs.length bc] w fun e w' =>
      ∃ v0 v1 v2 vs, e = .returned (.tuple #[v0, v1, v2]) ∧ S w.heap.size w' v0 v1 v2 (stK cs cs.length) (cK cs cs.length) vs vs (rK cs bs cs.length) ∧ Below w.heap.size w w' := by
  have hb0 : Below w.heap.size w (((w.alloc (.cells #[.slice none 0 0] 24)).alloc (.cells #[.slice none 0 0] 22)).alloc (.cells #[.slice none 0 0] 27)) := (((Below.refl _ _).alloc (Nat.le_refl _) _).alloc (by simp) _).alloc (by simp; omega) _
  have hS0 := start_all w
  go_enter Eczg.func7, Eczg.ntmps7
  go_wp2_with fail
  refine (iter13 cs bs hL hcs ba bc w _ hT hC hbc hbm hb0 _ _ _ hS0).mono ?_
  rintro e w1 ⟨rfl, ⟨v0, v1, v2, vs, hS⟩, hb⟩
  have c0 := hS.p.cell
  have c1 := hS.o.cell
  have c2 : w1.cell? ⟨w.heap.size + 1 + 1, 0, none⟩ = some v2 := hS.r.cell
  clear hb0 hS0
  go_wp2_with fail
  go_quiet (fail)
  go_wp2_with fail
  go_ret3
  exact ⟨v0, v1, v2, vs, rfl, hS.below (below_drewN (Below.refl _ _) _), below_drewN hb _⟩

set_option maxHeartbeats 1000000 in
theorem first_any (cs : List Nat) (bs : List Int) (hL : Laid cs bs) (hcs : cs.length ≤ 65536) (ba : Option Addr) (bc : Nat) (w : World) (hT : Tab w) (hC : Lies w ba bs.length fun j => .int .u8 (bAt bs j)) (hbc : bs.length ≤ bc) (hbm : bc ≤ maxLen)
    (k : Nat) (hk1 : 1 ≤ k) (hk2 : k ≤ 65536) :
    Calls Eczg.prog 11 #[.slice ba bs.length bc, .int .i64 k] w fun e w' =>
      ∃ v0, e = .returned v0 ∧ S1 w.heap.size w' v0 (stK cs (min k cs.length)) k ∧ Below w.heap.size w w' := by
  have hb0 : Below w.heap.size w ((w.alloc (.cells #[.int .i64 k] 3)).alloc (.cells #[.slice none 0 0] 24)) := ((Below.refl _ _).alloc (Nat.le_refl _) _).alloc (by simp) _
  have hS0 := start_first w k
  go_enter Eczg.func11, Eczg.ntmps11
  go_wp2_with fail
  refine (iter14 cs bs hL hcs ba bc w _ hT hC hbc hbm hb0 k hk1 hk2 _ hS0).mono ?_
  rintro e w1 ⟨rfl, ⟨v0, hS⟩, hb⟩
  have c0 := hS.p.cell
  clear hb0 hS0
  go_wp2_with fail
  go_ret
  exact ⟨v0, rfl, hS, hb⟩
#print axioms all_any
#print axioms first_any
end Go.Proofs.YoeczwDoor
