/-
  Seat oeczD: the law 'FnIterateInstructionsStopsWhenAsked' (function 4), walked.
-/
import Derived.Test.YoeczwDoorWalks
namespace Go.Proofs.YoeczwDoor
open Go.RowKit

theorem own_range {w : World} {D : Nat} {e : TypeId} {v : Value} {f : Nat → Value} {q : Nat} (h : w.ownsRow D e 1 v ((List.range q).map f).length ((List.range q).map f)) :
    ∃ ao cap, v = .slice ao q cap ∧ Lies w ao q f := by
  obtain ⟨ao, cap, hv, hc⟩ := own_lies h
  simp only [List.length_map, List.length_range] at hv hc
  refine ⟨ao, cap, hv, fun i hi => ?_⟩
  obtain ⟨g, h1, h2⟩ := hc i hi
  refine ⟨g, 0, h1, ?_⟩
  rw [Nat.zero_add, h2, List.getElem?_map, List.getElem?_range hi]
  rfl

theorem lay_code {N n i : Nat} {w wr : World} {cs : List Nat} {bs : List Int} {ba : Option Addr} {bc : Nat} (h : LayAt N n i w wr cs bs ba bc) :
    (Lies wr ba bs.length fun j => .int .u8 (bAt bs j)) ∧ bs.length ≤ bc ∧ bc ≤ maxLen := by
  have hb := h.b
  refine ⟨?_, ?_⟩
  · obtain ⟨ao, cap, hv, hc⟩ := own_lies hb
    simp only [Value.slice.injEq, true_and] at hv
    obtain ⟨rfl, rfl⟩ := hv
    intro j hj
    obtain ⟨g, h1, h2⟩ := hc j hj
    refine ⟨g, 0, h1, ?_⟩
    rw [Nat.zero_add, h2, u8s, List.getElem?_map, List.getElem?_eq_getElem hj]
    simp [bAt, List.getD_eq_getElem?_getD, hj]
  · rcases hb.2 with ⟨h1, h2⟩ | ⟨g, cap, cur, h1, _, _, h2, h3, _⟩
    · simp only [Value.slice.injEq] at h1
      obtain ⟨_, _, rfl⟩ := h1
      exact ⟨by omega, Nat.zero_le _⟩
    · simp only [Value.slice.injEq, true_and] at h1
      obtain ⟨_, rfl⟩ := h1
      exact ⟨h2, h3⟩

set_option maxHeartbeats 1000000 in
theorem law4_big (oa fa : Option Addr) (n oc m fc : Nat) (k : Int) (w : World) (hn : n ≤ maxLen) (hm : m ≤ maxLen) (hbig : 65536 < n ∨ 65536 < m ∨ k < 1 ∨ 65536 < k) :
    Calls Eczg.prog 4 #[.slice oa n oc, .slice fa m fc, .int .i64 k] w fun r w' => r = .returned (.bool true) ∧ Below w.heap.size w w' := by
  have hc : 65536 < n ∨ n ≤ 65536 ∧ 65536 < m ∨ n ≤ 65536 ∧ m ≤ 65536 ∧ k < 1 ∨ n ≤ 65536 ∧ m ≤ 65536 ∧ 1 ≤ k ∧ 65536 < k := by omega
  clear hbig
  have HN : Hid (n ≤ maxLen) := hn
  have HM : Hid (m ≤ maxLen) := hm
  unfold maxLen at hn hm
  rcases hc with h1 | ⟨h1, h2⟩ | ⟨h1, h2, h3⟩ | ⟨h1, h2, h3, h4⟩
  all_goals
    go_enter Eczg.func4, Eczg.ntmps4
    go_wp2_with fail
    refine (bytes10 _ _ n m oc fc k _ HN.out HM.out).mono ?_
    rintro e w1 ⟨⟨b, rfl⟩, hw⟩
    obtain rfl : w = w1 := hw.symm
    clear hw
    cases b
    all_goals
      go_wp2_with fail
      go_ret
      exact ⟨rfl, Below.refl _ _⟩

set_option maxHeartbeats 2000000 in
theorem law4_main (O G : Nat → Int) (oa fa : Option Addr) (n oc m fc k : Nat) (w : World) (hn : n ≤ 65536) (hm : m ≤ 65536) (hk1 : 1 ≤ k) (hk2 : k ≤ 65536) (hO : ∀ j, 0 ≤ O j ∧ O j ≤ 255) (hG : ∀ j, 0 ≤ G j ∧ G j ≤ 255)
    (hT : Tab w) (ho : Lies w oa n fun j => .int .u8 (O j)) (hfl : Lies w fa m fun j => .int .u8 (G j)) :
    Calls Eczg.prog 4 #[.slice oa n oc, .slice fa m fc, .int .i64 k] w fun r w' => r = .returned (.bool true) ∧ Below w.heap.size w w' := by
  go_enter Eczg.func4, Eczg.ntmps4
  go_wp2_with fail
  refine (bytes10 _ _ n m oc fc k _ (by unfold maxLen; omega) (by unfold maxLen; omega)).mono ?_
  rintro e w1 ⟨⟨b, rfl⟩, hw⟩
  obtain rfl : w = w1 := hw.symm
  clear hw
  cases b
  · go_wp2_with fail
    go_ret
    exact ⟨rfl, Below.refl _ _⟩
  go_wp2_with fail
  refine (lay_any O G oa fa n oc m fc w hn hm hO hG hT ho hfl).mono ?_
  rintro e w1 ⟨cs, bs, ba, bc, rfl, hLA⟩
  obtain ⟨hC, hbc, hbm⟩ := lay_code hLA
  have hL := hLA.laid
  have hcs := hLA.len
  have hb1 := hLA.below
  have hT1 := hT.carry hb1
  have hcs2 : cs.length ≤ 65536 := by omega
  have HC : Hid (cs.length = n) := hcs
  clear hLA hcs ho hfl
  go_wp2_with fail
  refine (all_any cs bs hL hcs2 ba bc w1 hT1 hC hbc hbm).mono ?_
  rintro e w2 ⟨v0, v1, v2, vs, rfl, hS, hb2⟩
  rw [HC.out] at hS
  obtain ⟨a0, c0, rfl, hA⟩ := own_range (f := fun i => .int .i64 (st cs i : Nat)) hS.p.own
  have hT2 := hT1.carry hb2
  have hC2 := hC.carry hb2
  have hbb2 : Below w.heap.size w w2 := hb1.trans (hb2.mono hb1.size)
  clear hS hb1 hb2 hT hT1 hC
  go_wp2_with fail
  refine (first_any cs bs hL hcs2 ba bc w2 hT2 hC2 hbc hbm k hk1 hk2).mono ?_
  rintro e w3 ⟨u0, rfl, hS, hb3⟩
  rw [HC.out] at hS
  obtain ⟨P, HP⟩ : ∃ P, Hid (P = min k n) := ⟨_, rfl⟩
  rw [← HP.out] at hS
  obtain ⟨a1, c1, rfl, hA1⟩ := own_range (f := fun i => .int .i64 (st cs i : Nat)) hS.p.own
  have hA3 := hA.carry hb3
  have hbb3 : Below w.heap.size w w3 := hbb2.trans (hb3.mono hbb2.size)
  clear hS hA hb3 hbb2 hT2 hC2 hL
  have hPn : P ≤ n := by have := HP.out; omega
  have hcase : (n < k ∧ P = n) ∨ (k ≤ n ∧ P = k) := by have := HP.out; omega
  clear HP HC hcs2 hbc hbm
  rcases hcase with ⟨hnk, rfl⟩ | ⟨hnk, rfl⟩
  all_goals
    go_wp2_with fail
    go_loopw [15] (fun i wr => ∃ q, q ≤ P ∧ i = .int .i64 (q : Nat) ∧ Below w3.heap.size w3 wr) (fun i _ => P - (intOf i).toNat)
    case atStart => exact ⟨0, Nat.zero_le _, rfl, Below.refl _ _⟩
    case round =>
      obtain ⟨q, hq, rfl, hbr⟩ := hrel
      by_cases hlt : q < P
      · obtain ⟨b1, o1, rfl, d1⟩ := hA1 q hlt
        obtain ⟨b2, o2, rfl, d2⟩ := hA3 q (by omega)
        have e1 : wr.cell? ⟨b1, o1 + q, none⟩ = some (.int .i64 (st cs q : Nat)) := cell_later hbr d1
        have e2 : wr.cell? ⟨b2, o2 + q, none⟩ = some (.int .i64 (st cs q : Nat)) := cell_later hbr d2
        have hqi : (q : Int) < (P : Int) := by omega
        try have hqn : (q : Int) < (n : Int) := by omega
        clear d1 d2
        go_wp2_with fail
        go_quiet (fail)
        go_wp2_with fail
        go_roundw
        case rel => exact ⟨q + 1, by omega, by go_num, below_drewN hbr _⟩
        case measure => simp [intOf]; omega
      · go_wp2_with fail
        go_ret
        exact ⟨rfl, hbb3.trans (hbr.mono hbb3.size)⟩
#print axioms law4_main
end Go.Proofs.YoeczwDoor
