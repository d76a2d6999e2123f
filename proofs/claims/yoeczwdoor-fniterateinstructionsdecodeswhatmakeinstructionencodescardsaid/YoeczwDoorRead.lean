/-
  Seat oeczD: 'ReadOperands' (function 15) by its contract.
-/
import Derived.Test.YoeczwDoorBase
namespace Go.Proofs.YoeczwDoor
open Go.RowKit

def decs (ws : List Nat) (f : Nat → Int) (k : Nat) : List Value := (List.range k).map fun q => .int .i64 (opAt ws f q)
theorem decs_succ (ws : List Nat) (f : Nat → Int) (k : Nat) : decs ws f (k + 1) = decs ws f k ++ [.int .i64 (opAt ws f k)] := by simp [decs, List.range_succ]
theorem decs_length (ws : List Nat) (f : Nat → Int) (k : Nat) : (decs ws f k).length = k := by simp [decs]

set_option maxHeartbeats 4000000 in
/-- 'ReadOperands' over the widths ws and a slice that begins with the bytes f: the operands decoded, in a slice of the call's own (nil where there are none), and how many bytes were read. -/
theorem read_any (ws : List Nat) (f : Nat → Int) (ta ia : Option Addr) (tc n ic : Nat) (w : World) (hw : Good ws) (hf : ∀ j, 0 ≤ f j ∧ f j ≤ 255)
    (ht : Lies w ta ws.length fun k => .int .i64 (wAt ws k)) (hi : Lies w ia ws.sum fun j => .int .u8 (f j)) (hn : ws.sum ≤ n) (hnm : n ≤ maxLen) :
    Calls Eczg.prog 15 #[.slice ta ws.length tc, .slice ia n ic] w fun e w' =>
      ∃ v, e = .returned (.tuple #[v, .int .i64 (ws.sum : Nat)]) ∧ w'.ownsRow w.heap.size 3 1 v ws.length (decs ws f ws.length) ∧ Below w.heap.size w w' := by
  obtain ⟨i0, hi0, hz0, hz1, hz2⟩ := info_parts Eczg.info3
  obtain ⟨hw1, hw2, hw3⟩ := hw
  unfold maxLen at hnm
  go_enter Eczg.func15, Eczg.ntmps15
  go_wp2_with fail
  go_loopw [4, 5, 10] (fun v o i wr => ∃ k, k ≤ ws.length ∧ i = .int .i64 (k : Nat) ∧ o = .int .i64 (off ws k : Nat) ∧ wr.ownsRow w.heap.size 3 1 v k (decs ws f k) ∧ Below w.heap.size w wr) (fun _ _ i _ => ws.length - (intOf i).toNat)
  case atStart => exact ⟨0, Nat.zero_le _, rfl, by rw [off_zero]; rfl, World.ownsRow_nil _ _ _ _, Below.refl _ _⟩
  case round =>
    obtain ⟨k, hk, rfl, rfl, hown, hb⟩ := hrel
    by_cases hlt : k < ws.length
    · obtain ⟨tb, to, rfl, ct0⟩ := ht k hlt
      have ct : wr.cell? ⟨tb, to + k, none⟩ = some (.int .i64 (wAt ws k)) := cell_later hb ct0
      clear ct0
      have hos := off_succ ws k hlt
      have hoe := off_mono ws (k + 1)
      have HO : Hid (off ws (k + 1) = off ws k + wAt ws k) := hos
      have hsz := hb.size
      rcases hw3 k hlt with h | h | h
      · obtain ⟨ib, io, rfl, ci0⟩ := hi (off ws k) (by omega)
        have ci : wr.cell? ⟨ib, io + off ws k, none⟩ = some (.int .u8 (f (off ws k))) := cell_later hb ci0
        clear ci0
        rw [h] at ct
        have hb0 := hf (off ws k)
        have hon : off ws k < n := by omega
        clear hos
        have h1 := h
        clear h
        go_wp2_with (at_builtin; refine wpList_append_own _ rfl _ _ 24 rfl w.heap.size 3 i0 (.int .i64 0) 1 8 Eczg.underlying24 hi0 hz0 hz1 hz2 rfl (by decide) _ _ _ rfl (hown.alloc _) ⟨wr.heap.size, 0, none⟩ 1 1 [.int .i64 (f (off ws k))] rfl rfl ?c1 ?c2 ?c3 ?c4 ?c5 ?_)
        case c1 => exact cell_one_new _ _ _
        case c2 => intro u hu; simp at hu; subst hu; rfl
        case c3 => unfold maxLen; omega
        case c4 => omega
        case c5 => simp; omega
        intro v' w2 hown' hgrow _
        have hown2 : w2.ownsRow w.heap.size 3 1 v' (k + 1) (decs ws f (k + 1)) := by rw [decs_succ]; simpa [opAt, dcd, h1] using hown'
        have hb2 : Below w.heap.size w w2 := (hb.alloc hb.size _).grown hgrow (by simp; omega) (fun q hq => (hown.lt q hq).1)
        clear hown' hgrow hown
        go_wp2_with fail
        go_roundw
        case rel => exact ⟨k + 1, by omega, by go_num, by rw [HO.out, h1]; go_num, hown2, hb2⟩
        case measure => simp [intOf]; omega
      · obtain ⟨ib, io, rfl, ci0⟩ := hi (off ws k) (by omega)
        have ci : wr.cell? ⟨ib, io + off ws k, none⟩ = some (.int .u8 (f (off ws k))) := cell_later hb ci0
        have hib : ib < w.heap.size := World.block_lt_of_cell? _ _ ci0
        clear ci0
        have cj1 : wr.cell? ⟨ib, io + (off ws k + 1), none⟩ = some (.int .u8 (f (off ws k + 1))) := by
          obtain ⟨b2, o2, he2, ci1⟩ := hi (off ws k + 1) (by omega)
          obtain ⟨rfl, rfl⟩ : ib = b2 ∧ io = o2 := by simpa using he2
          exact cell_later hb ci1
        have hon1 : (off ws k : Int) + 1 < (n : Int) := by omega
        have hop1 : (0 : Int) ≤ (off ws k : Int) + 1 := by omega
        have hwr1 : IntKind.i64.wrap ((off ws k : Int) + 1) = (off ws k : Int) + 1 := wrap_small _ (by omega) (by omega)
        have htn1 : ((off ws k : Int) + 1).toNat = off ws k + 1 := by omega
        rw [h] at ct
        have hon : (off ws k : Int) < (n : Int) := by omega
        have hop : (0 : Int) ≤ (off ws k : Int) := by omega
        clear hos
        have h1 := h
        clear h
        go_wp2_with fail
        have hne : some ib ≠ u4.ownBlock := fun e => by have := (hown.lt ib e.symm).1; omega
        go_region_held3 (fun w' => w'.cell? ⟨ib, io + off ws k, none⟩ = some (.int .u8 (f (off ws k))) ∧ w'.cell? ⟨ib, io + (off ws k + 1), none⟩ = some (.int .u8 (f (off ws k + 1))))
          (first
            | go_keep
            | (go_split_ands
               refine ⟨?_, ?_⟩ <;> (rw [hgrow.cell_far _ (by simp; omega) hne]; assumption)))
          ((refine step_append_lies _ (by rfl) _ _ _ (by rfl) w.heap.size 3 i0 _ 1 8 Eczg.underlying24 hi0 hz0 hz1 hz2 rfl (by omega) u4 k (decs ws f k) (by rfl) ((hown.alloc _).drew)
              ⟨wr.heap.size, 0, none⟩ 1 1 [.int .i64 (bits BinOp.or IntKind.i64 (IntKind.i64.wrap (f (off ws k + 1))) (IntKind.i64.wrap (IntKind.i64.wrap (f (off ws k)) * 256)))] (by rfl) (by rfl) (World.news_of_block (cs := #[.int .i64 (bits BinOp.or IntKind.i64 (IntKind.i64.wrap (f (off ws k + 1))) (IntKind.i64.wrap (IntKind.i64.wrap (f (off ws k)) * 256)))]) (t := 3) (fr := (0, 0)) (heap_alloc_new wr _)) (by simp [Value.oneCell'])
              (by omega) (by unfold maxLen; omega) (by omega) (by simp; omega) (wr.heap.size + 1) (by simp) ?_; intro gg cap w2 hown' hgrow hat hlt'))
        have hown2 : w2.ownsRow w.heap.size 3 1 (.slice (some ⟨gg, 0, none⟩) (k + 1) cap) (k + 1) (decs ws f (k + 1)) := by
          have e : opAt ws f k = (bits BinOp.or IntKind.i64 (IntKind.i64.wrap (f (off ws k + 1))) (IntKind.i64.wrap (IntKind.i64.wrap (f (off ws k)) * 256))) := by rw [or2 _ _ (hf _) (hf _)]; simp [opAt, dcd, h1]
          rw [decs_succ, e]
          exact hown'
        have hb2 : Below w.heap.size w w2 := (hb.alloc hb.size _).drew.grown hgrow (by simp; omega) (fun q hq => (hown.lt q hq).1)
        clear hown' hgrow hown hat hlt' hne
        go_wp2_with fail
        go_roundw
        case rel => exact ⟨k + 1, by omega, by go_num, by rw [HO.out, h1]; go_num, hown2, hb2⟩
        case measure => simp [intOf]; omega
      · obtain ⟨ib, io, rfl, ci0⟩ := hi (off ws k) (by omega)
        have ci : wr.cell? ⟨ib, io + off ws k, none⟩ = some (.int .u8 (f (off ws k))) := cell_later hb ci0
        have hib : ib < w.heap.size := World.block_lt_of_cell? _ _ ci0
        clear ci0
        have cj1 : wr.cell? ⟨ib, io + (off ws k + 1), none⟩ = some (.int .u8 (f (off ws k + 1))) := by
          obtain ⟨b2, o2, he2, ci1⟩ := hi (off ws k + 1) (by omega)
          obtain ⟨rfl, rfl⟩ : ib = b2 ∧ io = o2 := by simpa using he2
          exact cell_later hb ci1
        have hon1 : (off ws k : Int) + 1 < (n : Int) := by omega
        have hop1 : (0 : Int) ≤ (off ws k : Int) + 1 := by omega
        have hwr1 : IntKind.i64.wrap ((off ws k : Int) + 1) = (off ws k : Int) + 1 := wrap_small _ (by omega) (by omega)
        have htn1 : ((off ws k : Int) + 1).toNat = off ws k + 1 := by omega
        have cj2 : wr.cell? ⟨ib, io + (off ws k + 2), none⟩ = some (.int .u8 (f (off ws k + 2))) := by
          obtain ⟨b2, o2, he2, ci1⟩ := hi (off ws k + 2) (by omega)
          obtain ⟨rfl, rfl⟩ : ib = b2 ∧ io = o2 := by simpa using he2
          exact cell_later hb ci1
        have hon2 : (off ws k : Int) + 2 < (n : Int) := by omega
        have hop2 : (0 : Int) ≤ (off ws k : Int) + 2 := by omega
        have hwr2 : IntKind.i64.wrap ((off ws k : Int) + 2) = (off ws k : Int) + 2 := wrap_small _ (by omega) (by omega)
        have htn2 : ((off ws k : Int) + 2).toNat = off ws k + 2 := by omega
        have cj3 : wr.cell? ⟨ib, io + (off ws k + 3), none⟩ = some (.int .u8 (f (off ws k + 3))) := by
          obtain ⟨b2, o2, he2, ci1⟩ := hi (off ws k + 3) (by omega)
          obtain ⟨rfl, rfl⟩ : ib = b2 ∧ io = o2 := by simpa using he2
          exact cell_later hb ci1
        have hon3 : (off ws k : Int) + 3 < (n : Int) := by omega
        have hop3 : (0 : Int) ≤ (off ws k : Int) + 3 := by omega
        have hwr3 : IntKind.i64.wrap ((off ws k : Int) + 3) = (off ws k : Int) + 3 := wrap_small _ (by omega) (by omega)
        have htn3 : ((off ws k : Int) + 3).toNat = off ws k + 3 := by omega
        rw [h] at ct
        have hon : (off ws k : Int) < (n : Int) := by omega
        have hop : (0 : Int) ≤ (off ws k : Int) := by omega
        clear hos
        have h1 := h
        clear h
        go_wp2_with fail
        have hne : some ib ≠ u4.ownBlock := fun e => by have := (hown.lt ib e.symm).1; omega
        go_region_held3 (fun w' => w'.cell? ⟨ib, io + off ws k, none⟩ = some (.int .u8 (f (off ws k))) ∧ w'.cell? ⟨ib, io + (off ws k + 1), none⟩ = some (.int .u8 (f (off ws k + 1))) ∧ w'.cell? ⟨ib, io + (off ws k + 2), none⟩ = some (.int .u8 (f (off ws k + 2))) ∧ w'.cell? ⟨ib, io + (off ws k + 3), none⟩ = some (.int .u8 (f (off ws k + 3))))
          (first
            | go_keep
            | (go_split_ands
               refine ⟨?_, ?_, ?_, ?_⟩ <;> (rw [hgrow.cell_far _ (by simp; omega) hne]; assumption)))
          ((refine step_append_lies _ (by rfl) _ _ _ (by rfl) w.heap.size 3 i0 _ 1 8 Eczg.underlying24 hi0 hz0 hz1 hz2 rfl (by omega) u4 k (decs ws f k) (by rfl) ((hown.alloc _).drew)
              ⟨wr.heap.size, 0, none⟩ 1 1 [.int .i64 (bits BinOp.or IntKind.i64 (bits BinOp.or IntKind.i64 (bits BinOp.or IntKind.i64 (IntKind.i64.wrap (f (off ws k + 3))) (IntKind.i64.wrap (IntKind.i64.wrap (f (off ws k + 2)) * 256))) (IntKind.i64.wrap (IntKind.i64.wrap (f (off ws k + 1)) * 65536))) (IntKind.i64.wrap (IntKind.i64.wrap (f (off ws k)) * 16777216)))] (by rfl) (by rfl) (World.news_of_block (cs := #[.int .i64 (bits BinOp.or IntKind.i64 (bits BinOp.or IntKind.i64 (bits BinOp.or IntKind.i64 (IntKind.i64.wrap (f (off ws k + 3))) (IntKind.i64.wrap (IntKind.i64.wrap (f (off ws k + 2)) * 256))) (IntKind.i64.wrap (IntKind.i64.wrap (f (off ws k + 1)) * 65536))) (IntKind.i64.wrap (IntKind.i64.wrap (f (off ws k)) * 16777216)))]) (t := 3) (fr := (0, 0)) (heap_alloc_new wr _)) (by simp [Value.oneCell'])
              (by omega) (by unfold maxLen; omega) (by omega) (by simp; omega) (wr.heap.size + 1) (by simp) ?_; intro gg cap w2 hown' hgrow hat hlt'))
        have hown2 : w2.ownsRow w.heap.size 3 1 (.slice (some ⟨gg, 0, none⟩) (k + 1) cap) (k + 1) (decs ws f (k + 1)) := by
          have e : opAt ws f k = (bits BinOp.or IntKind.i64 (bits BinOp.or IntKind.i64 (bits BinOp.or IntKind.i64 (IntKind.i64.wrap (f (off ws k + 3))) (IntKind.i64.wrap (IntKind.i64.wrap (f (off ws k + 2)) * 256))) (IntKind.i64.wrap (IntKind.i64.wrap (f (off ws k + 1)) * 65536))) (IntKind.i64.wrap (IntKind.i64.wrap (f (off ws k)) * 16777216))) := by rw [or4 _ _ _ _ (hf _) (hf _) (hf _) (hf _)]; simp [opAt, dcd, h1]
          rw [decs_succ, e]
          exact hown'
        have hb2 : Below w.heap.size w w2 := (hb.alloc hb.size _).drew.grown hgrow (by simp; omega) (fun q hq => (hown.lt q hq).1)
        clear hown' hgrow hown hat hlt' hne
        go_wp2_with fail
        go_roundw
        case rel => exact ⟨k + 1, by omega, by go_num, by rw [HO.out, h1]; go_num, hown2, hb2⟩
        case measure => simp [intOf]; omega
    · have hkk : k = ws.length := by omega
      subst hkk
      rw [off_all]
      go_wp2_with fail
      go_ret2
      exact ⟨_, rfl, hown, hb⟩
#print axioms read_any
end Go.Proofs.YoeczwDoor
