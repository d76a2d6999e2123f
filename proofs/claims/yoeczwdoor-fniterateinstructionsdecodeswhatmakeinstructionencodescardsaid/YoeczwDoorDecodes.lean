/-
  Seat oeczD: the law 'FnIterateInstructionsDecodesWhatMakeInstructionEncodes' (function 3), walked.
-/
import Derived.Test.YoeczwDoorStops
namespace Go.Proofs.YoeczwDoor
open Go.RowKit

set_option maxHeartbeats 1000000 in
theorem law3_big (oa fa : Option Addr) (n oc m fc : Nat) (w : World) (hn : n ≤ maxLen) (hm : m ≤ maxLen) (hbig : 65536 < n ∨ 65536 < m) :
    Calls Eczg.prog 3 #[.slice oa n oc, .slice fa m fc] w fun r w' => r = .returned (.bool true) ∧ Below w.heap.size w w' := by
  have hc : 65536 < n ∨ n ≤ 65536 ∧ 65536 < m := by omega
  clear hbig
  have HN : Hid (n ≤ maxLen) := hn
  have HM : Hid (m ≤ maxLen) := hm
  unfold maxLen at hn hm
  rcases hc with h1 | ⟨h1, h2⟩
  all_goals
    go_enter Eczg.func3, Eczg.ntmps3
    go_wp2_with fail
    refine (bytes5 _ _ n m oc fc _ HN.out HM.out).mono ?_
    rintro e w1 ⟨⟨b, rfl⟩, hw⟩
    obtain rfl : w = w1 := hw.symm
    clear hw
    cases b
    all_goals
      go_wp2_with fail
      go_ret
      exact ⟨rfl, Below.refl _ _⟩

theorem same_two (F : Nat → Int) (aa ba : Option Addr) (n n' ac bc : Nat) (w : World) (hnn : n' = n) (hn : n ≤ 1099511627776) (ha : Lies w aa n fun j => .int .u8 (F j)) (hb : Lies w ba n fun j => .int .u8 (F j)) :
    Calls Eczg.prog 9 #[.slice aa n ac, .slice ba n' bc] w fun e w' => e = .returned (.bool true) ∧ Below w.heap.size w w' := by
  subst hnn; exact same_any F aa ba n' ac bc w hn ha hb

/-- The starts and the opcodes that layCode gives back. -/
theorem lay_rows {N n : Nat} {w wr : World} {cs : List Nat} {bs : List Int} {ba : Option Addr} {bc : Nat} (h : LayAt N n n w wr cs bs ba bc) :
    (Lies wr (some ⟨N, 0, none⟩) n fun i => .int .i64 (st cs i : Nat)) ∧ Lies wr (some ⟨N + 1, 0, none⟩) n fun i => .int .u8 (cAt cs i : Nat) := by
  have hl := h.len
  refine ⟨fun i hi => ⟨N, 0, rfl, ?_⟩, fun i hi => ⟨N + 1, 0, rfl, ?_⟩⟩
  · rw [Nat.zero_add, h.starts.cellAt i (by omega), i64s, stL, List.getElem?_map, List.getElem?_map, List.getElem?_range (by omega)]
    rfl
  · rw [Nat.zero_add, h.codes.cellAt i (by omega), u8s, cL, List.getElem?_map, List.getElem?_map, List.getElem?_eq_getElem (by omega)]
    simp [cAt, List.getD_eq_getElem?_getD, List.getElem?_eq_getElem (show i < cs.length by omega)]

/-- The operands that ZZiterateAll gives back. -/
theorem held_at {B : Nat} {w : World} {v0 v1 v2 : Value} {lp lo vs : List Value} {cs : List Nat} {bs : List Int} {n : Nat} (h : S B w v0 v1 v2 lp lo vs vs (rK cs bs n)) :
    ∃ a2 c2, v2 = .slice a2 n c2 ∧ ∀ j, j < n → ∃ b o oa oc, a2 = some ⟨b, o, none⟩ ∧ w.cell? ⟨b, o + j, none⟩ = some (.slice oa (wids (cAt cs j)).length oc) ∧
      Lies w oa (wids (cAt cs j)).length fun k => .int .i64 (opAt (wids (cAt cs j)) (pay cs bs j) k) := by
  obtain ⟨a2, c2, hv, hc⟩ := own_lies h.r.own
  have hl : vs.length = n := by rw [h.held.1, rK_length]
  rw [hl] at hv hc
  refine ⟨a2, c2, hv, fun j hj => ?_⟩
  obtain ⟨g, h1, h2⟩ := hc j hj
  obtain ⟨v, os, h3, h4, h5, _⟩ := h.held.2 j (by rw [rK_length]; exact hj)
  have hos : os = opsV cs bs j := by
    rw [rK, List.getElem?_map, List.getElem?_range hj] at h4
    exact (Option.some.inj h4).symm
  subst hos
  obtain ⟨oa, oc, rfl, ho⟩ := own_range (f := fun k => .int .i64 (opAt (wids (cAt cs j)) (pay cs bs j) k)) h5
  exact ⟨g, 0, oa, oc, h1, by rw [Nat.zero_add, h2, h3], ho⟩

theorem Tab.drew {w : World} (h : Tab w) : Tab w.drew := h.carry ((Below.refl _ _).drew)
theorem Lies.drew {w : World} {sa : Option Addr} {n : Nat} {f : Nat → Value} (h : Lies w sa n f) : Lies w.drew sa n f := h.carry ((Below.refl _ _).drew)
theorem lies_own {w : World} {g n : Nat} {f : Nat → Value} (h : Lies w (some ⟨g, 0, none⟩) n f) (i : Nat) (hi : i < n) : w.cell? ⟨g, 0 + i, none⟩ = some (f i) := by
  obtain ⟨b, o, h1, h2⟩ := h i hi
  obtain ⟨rfl, rfl⟩ : g = b ∧ 0 = o := by simpa using h1
  exact h2

/-- A slice of a slice. -/
theorem cut_lies {w : World} {bb bo N : Nat} {f : Nat → Value} (h : Lies w (some ⟨bb, bo, none⟩) N f) (a n : Nat) (hn : a + n ≤ N) : Lies w (some ⟨bb, bo + a, none⟩) n fun j => f (a + j) := by
  intro j hj
  obtain ⟨b, o, h1, h2⟩ := h (a + j) (by omega)
  obtain ⟨rfl, rfl⟩ : bb = b ∧ bo = o := by simpa using h1
  exact ⟨bb, bo + a, rfl, by rw [Nat.add_assoc]; exact h2⟩

/-- The rebuilt instruction's bytes are the code's. -/
theorem row_lies {cs : List Nat} {bs : List Int} {q g : Nat} {w : World} (hL : Laid cs bs) (hq : q < cs.length) (h : w.rowIs g 5 (isz (cAt cs q)) (fun j => .int .u8 (if j = 0 then (cAt cs q : Int) else pay cs bs q (j - 1)))) :
    Lies w (some ⟨g, 0, none⟩) (isz (cAt cs q)) fun j => .int .u8 (bAt bs (st cs q + j)) := by
  intro j hj
  refine ⟨g, 0, rfl, ?_⟩
  rw [Nat.zero_add, h.cell hj]
  show some (Value.int .u8 (if j = 0 then (cAt cs q : Int) else pay cs bs q (j - 1))) = some (Value.int .u8 (bAt bs (st cs q + j)))
  by_cases h0 : j = 0
  · subst h0
    rw [if_pos rfl, Nat.add_zero, hL.code q hq]
  · rw [if_neg h0, pay, show st cs q + 1 + (j - 1) = st cs q + j from by omega]

set_option maxHeartbeats 4000000 in
set_option maxRecDepth 100000 in
theorem law3_main (O G : Nat → Int) (oa fa : Option Addr) (n oc m fc : Nat) (w : World) (hn : n ≤ 65536) (hm : m ≤ 65536) (hO : ∀ j, 0 ≤ O j ∧ O j ≤ 255) (hG : ∀ j, 0 ≤ G j ∧ G j ≤ 255)
    (hT : Tab w) (ho : Lies w oa n fun j => .int .u8 (O j)) (hfl : Lies w fa m fun j => .int .u8 (G j)) :
    Calls Eczg.prog 3 #[.slice oa n oc, .slice fa m fc] w fun r w' => r = .returned (.bool true) ∧ Below w.heap.size w w' := by
  go_enter Eczg.func3, Eczg.ntmps3
  go_wp2_with fail
  refine (bytes5 _ _ n m oc fc _ (by unfold maxLen; omega) (by unfold maxLen; omega)).mono ?_
  rintro e w1 ⟨⟨b, rfl⟩, hw⟩
  obtain rfl : w = w1 := hw.symm
  clear hw
  cases b
  · go_wp2_with fail
    go_ret
    exact ⟨rfl, Below.refl _ _⟩
  go_wp2_with fail
  refine (lay_any O G oa fa n oc m fc w hn hm hO hG hT ho hfl).mono ?_
  rintro e w1 ⟨cs, bs, ba, bc, rfl, hLA⟩
  obtain ⟨hC, hbc, hbm⟩ := lay_code hLA
  obtain ⟨hR1, hR2⟩ := lay_rows hLA
  have hL := hLA.laid
  have hb1 := hLA.below
  have hT1 := hT.carry hb1
  have HC : Hid (cs.length = n) := hLA.len
  have hcs2 : cs.length ≤ 65536 := by rw [HC.out]; exact hn
  clear hLA ho hfl
  go_wp2_with fail
  refine (all_any cs bs hL hcs2 ba bc w1 hT1 hC hbc hbm).mono ?_
  rintro e w2 ⟨v0, v1, v2, vs, rfl, hS, hb2⟩
  rw [HC.out] at hS
  obtain ⟨a2, c2, rfl, hA2⟩ := held_at hS
  obtain ⟨a0, c0, rfl, hA0⟩ := own_range (f := fun i => .int .i64 (st cs i : Nat)) hS.p.own
  obtain ⟨a1, c1, rfl, hA1⟩ := own_range (f := fun i => .int .u8 (cAt cs i : Nat)) hS.o.own
  have hT2 := hT1.carry hb2
  have hC2 := hC.carry hb2
  have hR12 := hR1.carry hb2
  have hR22 := hR2.carry hb2
  have hbb2 : Below w.heap.size w w2 := hb1.trans (hb2.mono hb1.size)
  have hbb : bs.length ≤ 327680 := by
    have h1 := (tot_le cs bs hL cs.length (Nat.le_refl _)).2
    rw [st_all, ← hL.len] at h1
    omega
  have HBL : Hid (bs.length = st cs n) := by show _ = _; rw [hL.len, ← st_all, HC.out]
  clear hS hb1 hb2 hT hT1 hC hR1 hR2 hcs2
  unfold maxLen at hbm
  go_wp2_with fail
  go_loopw [11] (fun i wr => ∃ q, q ≤ n ∧ i = .int .i64 (q : Nat) ∧ Below w2.heap.size w2 wr) (fun i _ => n - (intOf i).toNat)
  case atStart => exact ⟨0, Nat.zero_le _, rfl, Below.refl _ _⟩
  case round =>
    obtain ⟨q, hq, rfl, hbr⟩ := hrel
    by_cases hlt : q < n
    · obtain ⟨b0, o0, rfl, d0⟩ := hA0 q hlt
      obtain ⟨b1, o1, rfl, d1⟩ := hA1 q hlt
      obtain ⟨b2, o2, oa2, oc2, rfl, d2, hops⟩ := hA2 q hlt
      have e0 : wr.cell? ⟨b0, o0 + q, none⟩ = some (.int .i64 (st cs q : Nat)) := cell_later hbr d0
      have e1 : wr.cell? ⟨b1, o1 + q, none⟩ = some (.int .u8 (cAt cs q : Nat)) := cell_later hbr d1
      have e2 : wr.cell? ⟨b2, o2 + q, none⟩ = some (.slice oa2 (wids (cAt cs q)).length oc2) := cell_later hbr d2
      have e3 : wr.cell? ⟨w.heap.size, q, none⟩ = some (.int .i64 (st cs q : Nat)) := by simpa using lies_own (hR12.carry hbr) q hlt
      have e4 : wr.cell? ⟨w.heap.size + 1, q, none⟩ = some (.int .u8 (cAt cs q : Nat)) := by simpa using lies_own (hR22.carry hbr) q hlt
      have hqi : (q : Int) < (n : Int) := by omega
      have hql : q < cs.length := by rw [HC.out]; exact hlt
      have hcq := hL.small q hql
      have HN : Hid (st cs (q + 1) = st cs q + isz (cAt cs q)) := st_succ cs q hql
      have hsb : st cs (q + 1) ≤ bs.length := by rw [hL.len]; exact (st_lt cs bs hL q hql).2
      have hzz := isz_bd _ hcq
      clear d0 d1 d2 hA0 hA1 hA2
      have hsi : st cs q + isz (cAt cs q) ≤ bs.length := by rw [← HN.out]; exact hsb
      have hnb : ¬ bc = st cs q := by omega
      obtain ⟨bb, bo, rfl, _⟩ := hC2 (st cs q) (by omega)
      by_cases hq1 : q + 1 < n
      · have e5 : wr.cell? ⟨w.heap.size, q + 1, none⟩ = some (.int .i64 (st cs q + isz (cAt cs q) : Nat)) := by rw [← HN.out]; simpa using lies_own (hR12.carry hbr) (q + 1) hq1
        have hend : (st cs q : Int) + (isz (cAt cs q) : Int) ≤ (bc : Int) := by omega
        go_wp2_with fail
        go_quiet (fail)
        go_wp2_with fail
        obtain ⟨W3, hW3⟩ : ∃ W3, W3 = wr.drewN nq := ⟨_, rfl⟩
        rw [← hW3]
        have hbW : Below w2.heap.size w2 W3 := by rw [hW3]; exact below_drewN hbr _
        have f1 : W3.cell? ⟨b1, o1 + q, none⟩ = some (.int .u8 (cAt cs q : Nat)) := by rw [hW3]; exact e1
        have f2 : W3.cell? ⟨b2, o2 + q, none⟩ = some (.slice oa2 (wids (cAt cs q)).length oc2) := by rw [hW3]; exact e2
        have f3 : W3.drew.cell? ⟨w.heap.size, q, none⟩ = some (.int .i64 (st cs q : Nat)) := by rw [hW3]; exact e3
        have hT3 := (hT2.carry hbW).drew
        have hops3 := (hops.carry hbW).drew
        have hq0 : (0 : Int) ≤ (q : Int) := by omega
        have hbW2 : Below w2.heap.size w2 W3.drew := hbW.drew
        clear hW3 e0 e1 e2 e3 e4 e5 hbW
        have hpf : ∀ j, 0 ≤ pay cs bs q j ∧ pay cs bs q j ≤ 255 := fun j => hL.byte _
        go_region_held3 (fun w' => w'.cell? ⟨b1, o1 + q, none⟩ = some (.int .u8 (cAt cs q : Nat)) ∧ w'.cell? ⟨b2, o2 + q, none⟩ = some (.slice oa2 (wids (cAt cs q)).length oc2))
          (first
            | go_keep
            | (go_split_ands
               refine ⟨?_, ?_⟩ <;> (exact cell_later hb5 (by assumption))))
          ((go_at_call 8; refine (make_full (cAt cs q) (pay cs bs q) oa2 oc2 _ hcq hpf hT3 hops3).mono ?_; rintro e w5 ⟨g, rfl, hrow, hg, hb5⟩))
        have hbw5 : Below w2.heap.size w2 w5 := hbW2.trans (hb5.mono hbW2.size)
        have hC5 := hC2.carry hbw5
        have g3 := cell_later hb5 f3
        have ha := row_lies hL hql hrow
        clear f1 f2 f3 hT3 hops3 hb5 hrow hg hpf hbW2
        go_wp2_with fail
        refine (same_two (fun j => bAt bs (st cs q + j)) _ _ (isz (cAt cs q)) _ _ _ w5 ?_ ?_ ha ?_).mono ?_
        · omega
        · omega
        · exact cut_lies hC5 (st cs q) (isz (cAt cs q)) (by rw [← HN.out]; exact hsb)
        rintro e w6 ⟨rfl, hb6⟩
        have hbw6 : Below w2.heap.size w2 w6 := hbw5.trans (hb6.mono hbw5.size)
        clear hb6 hbw5 hC5 g3 ha
        go_wp2_with fail
        go_roundw
        case rel => exact ⟨q + 1, by omega, by go_num, hbw6⟩
        case measure => simp [intOf]; omega
      · have hnq : st cs n = st cs (q + 1) := by rw [show n = q + 1 from by omega]
        have hend : bs.length = st cs q + isz (cAt cs q) := by rw [HBL.out, hnq, HN.out]
        have HE : Hid (bs.length = st cs q + isz (cAt cs q)) := hend
        have hq2 : ¬ (q : Int) + 1 < (n : Int) := by omega
        clear hend hnq
        go_wp2_with fail
        go_quiet (fail)
        go_wp2_with fail
        obtain ⟨W3, hW3⟩ : ∃ W3, W3 = wr.drewN nq := ⟨_, rfl⟩
        rw [← hW3]
        have hbW : Below w2.heap.size w2 W3 := by rw [hW3]; exact below_drewN hbr _
        have f1 : W3.cell? ⟨b1, o1 + q, none⟩ = some (.int .u8 (cAt cs q : Nat)) := by rw [hW3]; exact e1
        have f2 : W3.cell? ⟨b2, o2 + q, none⟩ = some (.slice oa2 (wids (cAt cs q)).length oc2) := by rw [hW3]; exact e2
        have f3 : W3.drew.cell? ⟨w.heap.size, q, none⟩ = some (.int .i64 (st cs q : Nat)) := by rw [hW3]; exact e3
        have hT3 := (hT2.carry hbW).drew
        have hops3 := (hops.carry hbW).drew
        have hq0 : (0 : Int) ≤ (q : Int) := by omega
        have hbW2 : Below w2.heap.size w2 W3.drew := hbW.drew
        clear hW3 e0 e1 e2 e3 e4 hbW
        have hpf : ∀ j, 0 ≤ pay cs bs q j ∧ pay cs bs q j ≤ 255 := fun j => hL.byte _
        go_region_held3 (fun w' => w'.cell? ⟨b1, o1 + q, none⟩ = some (.int .u8 (cAt cs q : Nat)) ∧ w'.cell? ⟨b2, o2 + q, none⟩ = some (.slice oa2 (wids (cAt cs q)).length oc2))
          (first
            | go_keep
            | (go_split_ands
               refine ⟨?_, ?_⟩ <;> (exact cell_later hb5 (by assumption))))
          ((go_at_call 8; refine (make_full (cAt cs q) (pay cs bs q) oa2 oc2 _ hcq hpf hT3 hops3).mono ?_; rintro e w5 ⟨g, rfl, hrow, hg, hb5⟩))
        have hbw5 : Below w2.heap.size w2 w5 := hbW2.trans (hb5.mono hbW2.size)
        have hC5 := hC2.carry hbw5
        have g3 := cell_later hb5 f3
        have ha := row_lies hL hql hrow
        clear f1 f2 f3 hT3 hops3 hb5 hrow hg hpf hbW2
        go_wp2_with fail
        refine (same_two (fun j => bAt bs (st cs q + j)) _ _ (isz (cAt cs q)) _ _ _ w5 ?_ ?_ ha ?_).mono ?_
        · have := HE.out; omega
        · omega
        · exact cut_lies hC5 (st cs q) (isz (cAt cs q)) (by rw [← HN.out]; exact hsb)
        rintro e w6 ⟨rfl, hb6⟩
        have hbw6 : Below w2.heap.size w2 w6 := hbw5.trans (hb6.mono hbw5.size)
        clear hb6 hbw5 hC5 g3 ha
        go_wp2_with fail
        go_roundw
        case rel => exact ⟨q + 1, by omega, by go_num, hbw6⟩
        case measure => simp [intOf]; omega
    · go_wp2_with fail
      go_ret
      exact ⟨rfl, hbb2.trans (hbr.mono hbb2.size)⟩
#print axioms law3_main
end Go.Proofs.YoeczwDoor
