/-
  Seat oeczD: 'iterateInstructions' (function 12) under each of the two closures.
-/
import Derived.Test.YoeczwDoorRead
import Derived.Test.YoeczwDoorCalls
namespace Go.Proofs.YoeczwDoor
open Go.RowKit

/-- Instruction q's payload; its operands' cells. -/
def pay (cs : List Nat) (bs : List Int) (q j : Nat) : Int := bAt bs (st cs q + 1 + j)
def opsV (cs : List Nat) (bs : List Int) (q : Nat) : List Value := decs (wids (cAt cs q)) (pay cs bs q) (wids (cAt cs q)).length
/-- What has been gathered behind q instructions. -/
def stK (cs : List Nat) (q : Nat) : List Value := (List.range q).map fun i => .int .i64 (st cs i : Nat)
def cK (cs : List Nat) (q : Nat) : List Value := (List.range q).map fun i => .int .u8 (cAt cs i : Nat)
def rK (cs : List Nat) (bs : List Int) (q : Nat) : List (List Value) := (List.range q).map fun i => opsV cs bs i
theorem stK_succ (cs : List Nat) (q : Nat) : stK cs (q + 1) = stK cs q ++ [.int .i64 (st cs q : Nat)] := by simp [stK, List.range_succ]
theorem cK_succ (cs : List Nat) (q : Nat) : cK cs (q + 1) = cK cs q ++ [.int .u8 (cAt cs q : Nat)] := by simp [cK, List.range_succ]
theorem rK_succ (cs : List Nat) (bs : List Int) (q : Nat) : rK cs bs (q + 1) = rK cs bs q ++ [opsV cs bs q] := by simp [rK, List.range_succ]
theorem stK_length (cs : List Nat) (q : Nat) : (stK cs q).length = q := by simp [stK]
theorem cK_length (cs : List Nat) (q : Nat) : (cK cs q).length = q := by simp [cK]
theorem rK_length (cs : List Nat) (bs : List Int) (q : Nat) : (rK cs bs q).length = q := by simp [rK]
theorem opsV_length (cs : List Nat) (bs : List Int) (q : Nat) : (opsV cs bs q).length = (wids (cAt cs q)).length := by simp [opsV, decs_length]

theorem sep_of {w wr : World} {D : Nat} {e1 e2 : TypeId} {s1 s2 : Nat} {v v0 : Value} {n1 n2 : Nat} {x1 x2 : List Value} (h : w.ownsRow wr.heap.size e1 s1 v n1 x1) (h0 : wr.ownsRow D e2 s2 v0 n2 x2) :
    v.ownBlock = none ∨ v.ownBlock ≠ v0.ownBlock := by
  cases hv : v.ownBlock with
  | none => exact .inl rfl
  | some g =>
    right
    intro e
    have h1 := (h.lt g hv).1
    have h2 := (h0.lt g e.symm).2
    omega

set_option maxHeartbeats 2000000 in
set_option maxRecDepth 100000 in
/-- 'iterateInstructions' over a run of instructions, the closure that gathers all. -/
theorem iter13 (cs : List Nat) (bs : List Int) (hL : Laid cs bs) (hcs : cs.length ≤ 65536) (ba : Option Addr) (bc : Nat) (w0 w : World) (hT : Tab w0) (hC : Lies w0 ba bs.length fun j => .int .u8 (bAt bs j)) (hbc : bs.length ≤ bc) (hbm : bc ≤ maxLen)
    (hb : Below w0.heap.size w0 w) (v0 v1 v2 : Value) (hS : S w0.heap.size w v0 v1 v2 [] [] [] [] []) :
    Calls Eczg.prog 12 #[.slice ba bs.length bc, .func (.func 13) #[] #[.pointer (some ⟨w0.heap.size, 0, none⟩), .pointer (some ⟨w0.heap.size + 1, 0, none⟩), .pointer (some ⟨w0.heap.size + 2, 0, none⟩)]] w fun e w' =>
      e = .returned (.tuple #[]) ∧ (∃ v0 v1 v2 vs, S w0.heap.size w' v0 v1 v2 (stK cs cs.length) (cK cs cs.length) vs vs (rK cs bs cs.length)) ∧ Below w0.heap.size w0 w' := by
  unfold maxLen at hbm
  have hbl : bs.length = tot cs := hL.len
  have htl := (tot_le cs bs hL cs.length (Nat.le_refl _)).2
  rw [st_all] at htl
  have HBL : Hid (bs.length = tot cs) := hbl
  have hbb : bs.length ≤ 327680 := by omega
  clear hbl
  go_enter Eczg.func12, Eczg.ntmps12
  go_wp2_with fail
  go_loopw [4] (fun i wr => ∃ q v0 v1 v2 vs, q ≤ cs.length ∧ i = .int .i64 (st cs q : Nat) ∧ S w0.heap.size wr v0 v1 v2 (stK cs q) (cK cs q) vs vs (rK cs bs q) ∧ Below w0.heap.size w0 wr) (fun i _ => bs.length - (intOf i).toNat)
  case atStart => exact ⟨0, v0, v1, v2, [], Nat.zero_le _, by rw [st_zero]; rfl, hS, hb⟩
  case round =>
    clear hS hb
    obtain ⟨q, v0, v1, v2, vs, hq, rfl, hS, hb⟩ := hrel
    by_cases hlt : q < cs.length
    · have hst := st_lt cs bs hL q hlt
      have hsb : st cs q < bs.length := by rw [HBL.out]; exact hst.1
      have hsb2 : st cs (q + 1) ≤ bs.length := by rw [HBL.out]; exact hst.2
      clear hst
      have HN : Hid (st cs (q + 1) = st cs q + isz (cAt cs q)) := st_succ cs q hlt
      have hc := hL.small q hlt
      obtain ⟨ta, tc, ht1, ht2⟩ := hT.carry hb (cAt cs q) hc
      have hCr := hC.carry hb
      obtain ⟨bb, bo, rfl, cb0⟩ := hCr (st cs q) hsb
      have cb : wr.cell? ⟨bb, bo + st cs q, none⟩ = some (.int .u8 (cAt cs q : Nat)) := by rw [← hL.code q hlt]; exact cb0
      clear cb0
      have hgood := wids_good _ hc
      have hpf : ∀ j, 0 ≤ pay cs bs q j ∧ pay cs bs q j ≤ 255 := fun j => hL.byte _
      have hsum : 1 + (wids (cAt cs q)).sum + st cs q ≤ bs.length := by have := HN.out; unfold isz at this; omega
      have hbB : Below w0.heap.size w0 wr := hb
      have hpo : ∀ j, j < (wids (cAt cs q)).sum → wr.cell? ⟨bb, bo + (st cs q + 1) + j, none⟩ = some (.int .u8 (pay cs bs q j)) := by
        intro j hj
        obtain ⟨b2, o2, he2, ci1⟩ := hCr (st cs q + 1 + j) (by omega)
        obtain ⟨rfl, rfl⟩ : bb = b2 ∧ bo = o2 := by simpa using he2
        rw [show bo + (st cs q + 1) + j = bo + (st cs q + 1 + j) from by omega]
        exact ci1
      have HPO : Hid (∀ j, j < (wids (cAt cs q)).sum → wr.cell? ⟨bb, bo + (st cs q + 1) + j, none⟩ = some (.int .u8 (pay cs bs q j))) := hpo
      clear hpo hCr
      rcases Classical.em (bc = st cs q + 1) with rfl | hcap
      all_goals
        go_wp2_with fail
        refine (read_any (wids (cAt cs q)) (pay cs bs q) ta _ tc _ _ wr hgood hpf ht2 ?_ ?_ ?_).mono ?_
        · first | exact fun j hj => absurd hj (by omega) | exact fun j hj => ⟨bb, _, rfl, HPO.out j hj⟩
        · omega
        · unfold maxLen; omega
        rintro e w1 ⟨v, rfl, hown, hb1⟩
        obtain ⟨oa, ocap, rfl, _⟩ := own_lies hown
        have hS1 := hS.below hb1
        have cb1 := cell_later hb1 cb
        have hvl : vs.length = q := by rw [hS.held.1, rK_length]
        have hov : w1.ownsRow (w0.heap.size + 3) 3 1 (.slice oa (wids (cAt cs q)).length ocap) (opsV cs bs q).length (opsV cs bs q) := by rw [opsV_length]; exact own_base hown hS.size
        have hsep : (Value.slice oa (wids (cAt cs q)).length ocap).ownBlock = none ∨ (Value.slice oa (wids (cAt cs q)).length ocap).ownBlock ≠ v0.ownBlock := sep_of hown hS.p.own
        have HVL : Hid (vs.length = q) := hvl
        have hbw : Below w0.heap.size w0 w1 := hb.trans (hb1.mono hb.size)
        clear hvl hown hb1 hS
        go_wp2_with fail
        refine (cb13 w0.heap.size v0 v1 v2 oa _ ocap (stK cs q) (cK cs q) vs (rK cs bs q) (opsV cs bs q) _ _ w1 hS1 hov hsep (by rw [stK_length]; omega) (by rw [cK_length]; omega) (by rw [HVL.out]; omega)).mono ?_
        rintro e w2 ⟨rfl, ⟨v0', v1', v2', hS2⟩, hb2⟩
        have hbw2 : Below w0.heap.size w0 w2 := hbw.trans hb2
        clear hb2 hbw hov hsep hS1 cb1 hgood hpf
        go_wp2_with fail
        go_roundw
        case rel => exact ⟨q + 1, v0', v1', v2', _, by omega, by rw [HN.out]; unfold isz; go_num, by rw [stK_succ, cK_succ, rK_succ]; exact hS2, hbw2⟩
        case measure => simp [intOf]; omega
    · have hqq : q = cs.length := by omega
      subst hqq
      have hsl : st cs cs.length = bs.length := by rw [st_all, HBL.out]
      have hnl : ¬ st cs cs.length < bs.length := by omega
      clear hsl
      go_wp2_with fail
      go_end0
      exact ⟨rfl, ⟨v0, v1, v2, vs, hS⟩, hb⟩
set_option maxHeartbeats 2000000 in
set_option maxRecDepth 100000 in
/-- 'iterateInstructions' over a run of instructions, the closure that stops at its k-th call. -/
theorem iter14 (cs : List Nat) (bs : List Int) (hL : Laid cs bs) (hcs : cs.length ≤ 65536) (ba : Option Addr) (bc : Nat) (w0 w : World) (hT : Tab w0) (hC : Lies w0 ba bs.length fun j => .int .u8 (bAt bs j)) (hbc : bs.length ≤ bc) (hbm : bc ≤ maxLen)
    (hb : Below w0.heap.size w0 w) (k : Nat) (hk1 : 1 ≤ k) (hk2 : k ≤ 65536) (v0 : Value) (hS : S1 w0.heap.size w v0 [] k) :
    Calls Eczg.prog 12 #[.slice ba bs.length bc, .func (.func 14) #[] #[.pointer (some ⟨w0.heap.size + 1, 0, none⟩), .pointer (some ⟨w0.heap.size, 0, none⟩)]] w fun e w' =>
      e = .returned (.tuple #[]) ∧ (∃ v0, S1 w0.heap.size w' v0 (stK cs (min k cs.length)) k) ∧ Below w0.heap.size w0 w' := by
  unfold maxLen at hbm
  have hbl : bs.length = tot cs := hL.len
  have htl := (tot_le cs bs hL cs.length (Nat.le_refl _)).2
  rw [st_all] at htl
  have HBL : Hid (bs.length = tot cs) := hbl
  have hbb : bs.length ≤ 327680 := by omega
  clear hbl
  go_enter Eczg.func12, Eczg.ntmps12
  go_wp2_with fail
  go_loopw [4] (fun i wr => ∃ q v0, q ≤ cs.length ∧ q < k ∧ i = .int .i64 (st cs q : Nat) ∧ S1 w0.heap.size wr v0 (stK cs q) k ∧ Below w0.heap.size w0 wr) (fun i _ => bs.length - (intOf i).toNat)
  case atStart => exact ⟨0, v0, Nat.zero_le _, by omega, by rw [st_zero]; rfl, hS, hb⟩
  case round =>
    clear hS hb
    obtain ⟨q, v0, hq, hqk, rfl, hS, hb⟩ := hrel
    by_cases hlt : q < cs.length
    · have hst := st_lt cs bs hL q hlt
      have hsb : st cs q < bs.length := by rw [HBL.out]; exact hst.1
      have hsb2 : st cs (q + 1) ≤ bs.length := by rw [HBL.out]; exact hst.2
      clear hst
      have HN : Hid (st cs (q + 1) = st cs q + isz (cAt cs q)) := st_succ cs q hlt
      have hc := hL.small q hlt
      obtain ⟨ta, tc, ht1, ht2⟩ := hT.carry hb (cAt cs q) hc
      have hCr := hC.carry hb
      obtain ⟨bb, bo, rfl, cb0⟩ := hCr (st cs q) hsb
      have cb : wr.cell? ⟨bb, bo + st cs q, none⟩ = some (.int .u8 (cAt cs q : Nat)) := by rw [← hL.code q hlt]; exact cb0
      clear cb0
      have hgood := wids_good _ hc
      have hpf : ∀ j, 0 ≤ pay cs bs q j ∧ pay cs bs q j ≤ 255 := fun j => hL.byte _
      have hsum : 1 + (wids (cAt cs q)).sum + st cs q ≤ bs.length := by have := HN.out; unfold isz at this; omega
      have hbB : Below w0.heap.size w0 wr := hb
      have hpo : ∀ j, j < (wids (cAt cs q)).sum → wr.cell? ⟨bb, bo + (st cs q + 1) + j, none⟩ = some (.int .u8 (pay cs bs q j)) := by
        intro j hj
        obtain ⟨b2, o2, he2, ci1⟩ := hCr (st cs q + 1 + j) (by omega)
        obtain ⟨rfl, rfl⟩ : bb = b2 ∧ bo = o2 := by simpa using he2
        rw [show bo + (st cs q + 1) + j = bo + (st cs q + 1 + j) from by omega]
        exact ci1
      have HPO : Hid (∀ j, j < (wids (cAt cs q)).sum → wr.cell? ⟨bb, bo + (st cs q + 1) + j, none⟩ = some (.int .u8 (pay cs bs q j))) := hpo
      clear hpo hCr
      rcases Classical.em (bc = st cs q + 1) with rfl | hcap
      all_goals
        go_wp2_with fail
        refine (read_any (wids (cAt cs q)) (pay cs bs q) ta _ tc _ _ wr hgood hpf ht2 ?_ ?_ ?_).mono ?_
        · first | exact fun j hj => absurd hj (by omega) | exact fun j hj => ⟨bb, _, rfl, HPO.out j hj⟩
        · omega
        · unfold maxLen; omega
        rintro e w1 ⟨v, rfl, hown, hb1⟩
        obtain ⟨oa, ocap, rfl, _⟩ := own_lies hown
        have hS1 := hS.below hb1
        have cb1 := cell_later hb1 cb
        have hbw : Below w0.heap.size w0 w1 := hb.trans (hb1.mono hb.size)
        clear hown hb1 hS
        go_wp2_with fail
        refine (cb14 w0.heap.size v0 _ (stK cs q) _ _ k w1 hS1 (by rw [stK_length]; omega)).mono ?_
        rintro e w2 ⟨rfl, ⟨v0', hS2⟩, hb2⟩
        rw [stK_length]
        have hbw2 : Below w0.heap.size w0 w2 := hbw.trans hb2
        clear hb2 hbw hS1 cb1 hgood hpf
        by_cases hmore : q + 1 < k
        · have hmi : decide ((q : Int) + 1 < (k : Int)) = true := decide_eq_true (by omega)
          rw [hmi]
          go_wp2_with fail
          go_roundw
          case rel => exact ⟨q + 1, v0', by omega, hmore, by rw [HN.out]; unfold isz; go_num, by rw [stK_succ]; exact hS2, hbw2⟩
          case measure => simp [intOf]; omega
        · have hmi : decide ((q : Int) + 1 < (k : Int)) = false := decide_eq_false (by omega)
          rw [hmi]
          have HK : Hid (min k cs.length = q + 1) := by show _ = _; omega
          go_wp2_with fail
          go_end0
          exact ⟨rfl, ⟨v0', by rw [HK.out, stK_succ]; exact hS2⟩, hbw2⟩
    · have hqq : q = cs.length := by omega
      subst hqq
      have hsl : st cs cs.length = bs.length := by rw [st_all, HBL.out]
      have hnl : ¬ st cs cs.length < bs.length := by omega
      clear hsl
      go_wp2_with fail
      go_end0
      exact ⟨rfl, ⟨v0, by rw [Nat.min_eq_right (by omega)]; exact hS⟩, hb⟩
#print axioms iter13
#print axioms iter14
end Go.Proofs.YoeczwDoor
