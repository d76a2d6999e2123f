/-
  Seat oeczD: 'MakeInstruction' (function 8) by its contract.
-/
import Derived.Test.YoeczwDoorBase
namespace Go.Proofs.YoeczwDoor
open Go.RowKit

/-- An instruction's byte j: the opcode, the first 'lim' bytes of the payload f, nought behind them. -/
def inst (c : Nat) (f : Nat → Int) (lim j : Nat) : Value := .int .u8 (if j = 0 then (c : Int) else if j ≤ lim then f (j - 1) else 0)

theorem inst_succ (c : Nat) (f : Nat → Int) (o j : Nat) : inst c f (o + 1) j = if j = 1 + o then .int .u8 (f o) else inst c f o j := by
  unfold inst
  by_cases h : j = 1 + o
  · subst h
    rw [if_neg (by omega), if_pos (by omega), if_pos rfl, show 1 + o - 1 = o from by omega]
  · rw [if_neg h]
    by_cases h0 : j = 0
    · rw [if_pos h0, if_pos h0]
    · rw [if_neg h0, if_neg h0]
      by_cases h1 : j ≤ o
      · rw [if_pos h1, if_pos (by omega)]
      · rw [if_neg h1, if_neg (by omega)]
theorem inst_one (c : Nat) (f : Nat → Int) (o j : Nat) : (if j = 1 + o then Value.int .u8 (f o) else inst c f o j) = inst c f (o + 1) j := (inst_succ c f o j).symm
theorem inst_two (c : Nat) (f : Nat → Int) (o j : Nat) (h : 0 ≤ f (o + 1) ∧ f (o + 1) ≤ 255) :
    (if j = 1 + o + 1 then Value.int .u8 (f (o + 1) % 256) else if j = 1 + o then Value.int .u8 ((f o * 256 + f (o + 1)) / 256) else inst c f o j) = inst c f (o + 2) j := by
  rw [inst_succ c f (o + 1), inst_succ c f o, show 1 + o + 1 = 1 + (o + 1) from by omega, show f (o + 1) % 256 = f (o + 1) from by omega, show (f o * 256 + f (o + 1)) / 256 = f o from by omega]

theorem inst_four (c : Nat) (f : Nat → Int) (o j : Nat) (h1 : 0 ≤ f (o + 1) ∧ f (o + 1) ≤ 255) (h2 : 0 ≤ f (o + 2) ∧ f (o + 2) ≤ 255) (h3 : 0 ≤ f (o + 3) ∧ f (o + 3) ≤ 255) :
    (if j = 1 + o + 3 then Value.int .u8 ((f o * 16777216 + f (o + 1) * 65536 + f (o + 2) * 256 + f (o + 3)) % 256)
      else if j = 1 + o + 2 then Value.int .u8 ((f o * 16777216 + f (o + 1) * 65536 + f (o + 2) * 256 + f (o + 3)) / 256 % 256)
      else if j = 1 + o + 1 then Value.int .u8 ((f o * 16777216 + f (o + 1) * 65536 + f (o + 2) * 256 + f (o + 3)) / 65536 % 256)
      else if j = 1 + o then Value.int .u8 ((f o * 16777216 + f (o + 1) * 65536 + f (o + 2) * 256 + f (o + 3)) / 16777216) else inst c f o j) = inst c f (o + 4) j := by
  rw [inst_succ c f (o + 3), inst_succ c f (o + 2), inst_succ c f (o + 1), inst_succ c f o, show 1 + o + 1 = 1 + (o + 1) from by omega, show 1 + o + 2 = 1 + (o + 2) from by omega, show 1 + o + 3 = 1 + (o + 3) from by omega,
    show (f o * 16777216 + f (o + 1) * 65536 + f (o + 2) * 256 + f (o + 3)) % 256 = f (o + 3) from by omega, show (f o * 16777216 + f (o + 1) * 65536 + f (o + 2) * 256 + f (o + 3)) / 256 % 256 = f (o + 2) from by omega,
    show (f o * 16777216 + f (o + 1) * 65536 + f (o + 2) * 256 + f (o + 3)) / 65536 % 256 = f (o + 1) from by omega, show (f o * 16777216 + f (o + 1) * 65536 + f (o + 2) * 256 + f (o + 3)) / 16777216 = f o from by omega]

theorem made_get (N j : Nat) (h : j < N) : (madeCells #[Value.int .u8 0] N)[j]? = some (.int .u8 0) := by simp [madeCells, h, Nat.mod_one]
theorem row_start (c : Nat) (f : Nat → Int) (N : Nat) (w : World) : (w.alloc (.cells ((madeCells #[Value.int .u8 0] N).setIfInBounds 0 (.int .u8 c)) 5)).rowIs w.heap.size 5 N (inst c f 0) := by
  have h := World.rowIs_alloc w ((madeCells #[Value.int .u8 0] N).setIfInBounds 0 (.int .u8 c)) 5 (inst c f 0) (fun i hi => by
    simp only [Array.size_setIfInBounds, size_madeCells] at hi
    rw [Array.getElem?_setIfInBounds, size_madeCells, made_get N i hi]
    by_cases h0 : i = 0
    · subst h0; simp [inst, hi]
    · rw [if_neg (fun e => h0 e.symm)]; simp [inst, h0])
  simpa [size_madeCells] using h

set_option maxHeartbeats 1000000 in
set_option maxRecDepth 100000 in
theorem make_any (c : Nat) (ws : List Nat) (f : Nat → Int) (ta oa : Option Addr) (tc m oc : Nat) (w : World) (hc : c < 42) (hw : Good ws) (hf : ∀ j, 0 ≤ f j ∧ f j ≤ 255) (hm : m ≤ ws.length)
    (hg : w.cell? ⟨0, c, none⟩ = some (.slice ta ws.length tc)) (ht : Lies w ta ws.length fun k => .int .i64 (wAt ws k)) (ho : Lies w oa m fun k => .int .i64 (opAt ws f k)) :
    Calls Eczg.prog 8 #[.int .u8 c, .slice oa m oc] w fun e w' =>
      ∃ g, e = .returned (.slice (some ⟨g, 0, none⟩) (1 + ws.sum) (1 + ws.sum)) ∧ w'.rowIs g 5 (1 + ws.sum) (inst c f (off ws m)) ∧ w.heap.size ≤ g ∧ Below w.heap.size w w' := by
  obtain ⟨hw1, hw2, hw3⟩ := hw
  go_enter Eczg.func8, Eczg.ntmps8
  go_wp2_with fail
  go_loop [6, 21] (fun t i => ∃ k, k ≤ ws.length ∧ i = .int .i64 (k : Nat) ∧ t = .int .i64 (1 + off ws k : Nat)) (fun _ i => ws.length - (intOf i).toNat)
  case atStart => exact ⟨0, Nat.zero_le _, rfl, by rw [off_zero]; rfl⟩
  case round =>
    obtain ⟨k, hk, rfl, rfl⟩ := hrel
    by_cases hlt : k < ws.length
    · obtain ⟨tb, to, rfl, ct0⟩ := ht k hlt
      have ct : w.cell? ⟨tb, to + k, none⟩ = some (.int .i64 (wAt ws k)) := ct0
      clear ct0
      have HO : Hid (off ws (k + 1) = off ws k + wAt ws k) := off_succ ws k hlt
      have hoe := off_mono ws k
      have hwk : wAt ws k ≤ 4 := by rcases hw3 k hlt with h | h | h <;> omega
      go_wp2_with fail
      go_round
      case rel => exact ⟨k + 1, by omega, by go_num, by rw [HO.out]; go_num⟩
      case measure => simp [intOf]; omega
    · have hkk : k = ws.length := by omega
      subst hkk
      obtain ⟨N, HN⟩ : ∃ N, Hid (N = 1 + ws.sum) := ⟨_, rfl⟩
      have hN : N ≤ 5 := by have := HN.out; omega
      have hN1 : 1 ≤ N := by have := HN.out; omega
      rw [off_all, ← HN.out]
      have hmk := run_make_row' (P := Eczg.prog) 22 5 (.int .u8 0) 1 Eczg.underlying22 Eczg.info5 rfl .i64 .i64 N (by omega) (by omega)
      have hm0 := made_get N 0 (by omega)
      go_wp2_with fail
      go_loopw [10, 36] (fun o i wr => ∃ q, q ≤ m ∧ i = .int .i64 (q : Nat) ∧ o = .int .i64 (1 + off ws q : Nat) ∧ wr.rowIs w.heap.size 5 N (inst c f (off ws q)) ∧ Below w.heap.size w wr) (fun _ i _ => m - (intOf i).toNat)
      case atStart => exact ⟨0, Nat.zero_le _, rfl, by rw [off_zero]; rfl, by rw [off_zero]; exact row_start c f N w, (Below.refl _ _).alloc (Nat.le_refl _) _⟩
      case round =>
        obtain ⟨q, hq, rfl, rfl, hrow, hb⟩ := hrel
        by_cases hlt : q < m
        · obtain ⟨tb, to, rfl, ct0⟩ := ht q (by omega)
          have ct : wr.cell? ⟨tb, to + q, none⟩ = some (.int .i64 (wAt ws q)) := cell_later hb ct0
          obtain ⟨ob, oo, rfl, co0⟩ := ho q hlt
          have co : wr.cell? ⟨ob, oo + q, none⟩ = some (.int .i64 (opAt ws f q)) := cell_later hb co0
          clear ct0 co0
          have HO : Hid (off ws (q + 1) = off ws q + wAt ws q) := off_succ ws q (by omega)
          have hoe : off ws q + wAt ws q < N := by have := off_mono ws (q + 1); have := HN.out; have := HO.out; omega
          have b0 := hf (off ws q)
          have b1 := hf (off ws q + 1)
          have b2 := hf (off ws q + 2)
          have b3 := hf (off ws q + 3)
          have hql : (q : Int) < (ws.length : Int) := by omega
          rcases hw3 q (by omega) with h | h | h
          · rw [h] at ct hoe
            rw [show opAt ws f q = f (off ws q) from by simp [opAt, dcd, h]] at co
            have d1 := hrow.cell (i := 1 + off ws q) (by omega)
            have d2 := hrow.frozen (1 + off ws q)
            have h1 := h
            clear h
            go_wp2_with fail
            go_roundw
            case rel => exact ⟨q + 1, by omega, by go_num, by rw [HO.out, h1]; go_num, (hrow.set _ _).congr (fun j _ => by rw [HO.out, h1]; exact inst_one c f _ j), hb.setCell (Nat.le_refl _) _⟩
            case measure => simp [intOf]; omega
          · rw [h] at ct hoe
            rw [show opAt ws f q = f (off ws q) * 256 + f (off ws q + 1) from by simp [opAt, dcd, h]] at co
            have d1 := hrow.cell (i := 1 + off ws q) (by omega)
            have d2 := hrow.frozen (1 + off ws q)
            have d3 := hrow.cell (i := 1 + off ws q + 1) (by omega)
            have d4 := hrow.frozen (1 + off ws q + 1)
            have h1 := h
            clear h
            go_wp2_with fail
            go_roundw
            case rel => exact ⟨q + 1, by omega, by go_num, by rw [HO.out, h1]; go_num, ((hrow.set _ _).set _ _).congr (fun j _ => by rw [HO.out, h1]; exact inst_two c f _ j (hf _)), (hb.setCell (Nat.le_refl _) _).setCell (Nat.le_refl _) _⟩
            case measure => simp [intOf]; omega
          · rw [h] at ct hoe
            rw [show opAt ws f q = f (off ws q) * 16777216 + f (off ws q + 1) * 65536 + f (off ws q + 2) * 256 + f (off ws q + 3) from by simp [opAt, dcd, h]] at co
            have d1 := hrow.cell (i := 1 + off ws q) (by omega)
            have d2 := hrow.frozen (1 + off ws q)
            have d3 := hrow.cell (i := 1 + off ws q + 1) (by omega)
            have d4 := hrow.frozen (1 + off ws q + 1)
            have d5 := hrow.cell (i := 1 + off ws q + 2) (by omega)
            have d6 := hrow.frozen (1 + off ws q + 2)
            have d7 := hrow.cell (i := 1 + off ws q + 3) (by omega)
            have d8 := hrow.frozen (1 + off ws q + 3)
            have h1 := h
            clear h
            go_wp2_with fail
            go_roundw
            case rel => exact ⟨q + 1, by omega, by go_num, by rw [HO.out, h1]; go_num, ((((hrow.set _ _).set _ _).set _ _).set _ _).congr (fun j _ => by rw [HO.out, h1]; exact inst_four c f _ j (hf _) (hf _) (hf _)), (((hb.setCell (Nat.le_refl _) _).setCell (Nat.le_refl _) _).setCell (Nat.le_refl _) _).setCell (Nat.le_refl _) _⟩
            case measure => simp [intOf]; omega
        · have hqm : q = m := by omega
          subst hqm
          go_wp2_with fail
          go_ret
          exact ⟨w.heap.size, by rw [← HN.out]; rfl, by rw [← HN.out]; exact hrow, Nat.le_refl _, hb⟩
#print axioms make_any

/-- 'MakeInstruction(op)' without operands: the opcode, and nought behind it. -/
theorem make_bare (c : Nat) (w : World) (hc : c < 42) (hT : Tab w) :
    Calls Eczg.prog 8 #[.int .u8 c, .slice none 0 0] w fun e w' =>
      ∃ g, e = .returned (.slice (some ⟨g, 0, none⟩) (isz c) (isz c)) ∧ w'.rowIs g 5 (isz c) (fun j => .int .u8 (if j = 0 then (c : Int) else 0)) ∧ w.heap.size ≤ g ∧ Below w.heap.size w w' := by
  obtain ⟨ta, tc, h1, h2⟩ := hT c hc
  refine (make_any c (wids c) (fun _ => 0) ta none tc 0 0 w hc (wids_good c hc) (fun _ => by omega) (Nat.zero_le _) h1 h2 (fun i hi => absurd hi (by omega))).mono ?_
  rintro e w' ⟨g, rfl, hrow, hg, hb⟩
  refine ⟨g, rfl, hrow.congr (fun j _ => ?_), hg, hb⟩
  rw [off_zero]
  unfold inst
  by_cases h0 : j = 0
  · rw [if_pos h0, if_pos h0]
  · rw [if_neg h0, if_neg h0, if_neg (by omega)]

/-- 'MakeInstruction(op, operands...)' with the operands decoded from the payload f: the opcode and the payload again. -/
theorem make_full (c : Nat) (f : Nat → Int) (oa : Option Addr) (oc : Nat) (w : World) (hc : c < 42) (hf : ∀ j, 0 ≤ f j ∧ f j ≤ 255) (hT : Tab w) (ho : Lies w oa (wids c).length fun k => .int .i64 (opAt (wids c) f k)) :
    Calls Eczg.prog 8 #[.int .u8 c, .slice oa (wids c).length oc] w fun e w' =>
      ∃ g, e = .returned (.slice (some ⟨g, 0, none⟩) (isz c) (isz c)) ∧ w'.rowIs g 5 (isz c) (fun j => .int .u8 (if j = 0 then (c : Int) else f (j - 1))) ∧ w.heap.size ≤ g ∧ Below w.heap.size w w' := by
  obtain ⟨ta, tc, h1, h2⟩ := hT c hc
  refine (make_any c (wids c) f ta oa tc (wids c).length oc w hc (wids_good c hc) hf (Nat.le_refl _) h1 h2 ho).mono ?_
  rintro e w' ⟨g, rfl, hrow, hg, hb⟩
  refine ⟨g, rfl, hrow.congr (fun j hj => ?_), hg, hb⟩
  rw [off_all]
  unfold inst
  by_cases h0 : j = 0
  · rw [if_pos h0, if_pos h0]
  · rw [if_neg h0, if_neg h0, if_pos (by omega)]
#print axioms make_full
end Go.Proofs.YoeczwDoor
