/-
  Seat oeczD: the closure of 'ZZiterateAll' (function 13) by its contract.
-/
import Derived.Test.YoeczwDoorLay
namespace Go.Proofs.YoeczwDoor
open Go.RowKit

/-! ### Captured variables: a cell that holds a slice of the call's own -/

/-- Two owned rows of different element types are not one row. -/
theorem own_ne {w : World} {b1 b2 : Nat} {e1 e2 : TypeId} {s1 s2 : Nat} {v1 v2 : Value} {n1 n2 : Nat} {x1 x2 : List Value} (h1 : w.ownsRow b1 e1 s1 v1 n1 x1) (h2 : w.ownsRow b2 e2 s2 v2 n2 x2) (hne : e1 ≠ e2) :
    v1.ownBlock = none ∨ v1.ownBlock ≠ v2.ownBlock := by
  rcases h1.2 with ⟨rfl, _⟩ | ⟨g1, c1, u1, rfl, _, hg1, _⟩
  · exact .inl rfl
  · right
    rcases h2.2 with ⟨rfl, _⟩ | ⟨g2, c2, u2, rfl, _, hg2, _⟩
    · simp [Value.ownBlock]
    · intro e
      simp only [Value.ownBlock, Option.some.injEq] at e
      subst e
      rw [hg1] at hg2
      simp at hg2
      exact hne hg2.2

theorem own_base {w : World} {b1 b2 : Nat} {e : TypeId} {s : Nat} {v : Value} {n : Nat} {xs : List Value} (h : w.ownsRow b1 e s v n xs) (hb : b2 ≤ b1) : w.ownsRow b2 e s v n xs := by
  obtain ⟨h1, h2⟩ := h
  refine ⟨h1, ?_⟩
  rcases h2 with h2 | ⟨g, cap, cur, hv, hg, r⟩
  · exact .inl h2
  · exact .inr ⟨g, cap, cur, hv, by omega, r⟩

/-- THE VARIABLE IN BLOCK b HOLDS v, a slice of the call's own (from block D on) with the elements l. -/
structure Var (D : Nat) (w : World) (b : Nat) (e : TypeId) (v : Value) (l : List Value) : Prop where
  cell : w.cell? ⟨b, 0, none⟩ = some v
  frozen : w.frozen? ⟨b, 0, none⟩ = false
  own : w.ownsRow D e 1 v l.length l
  lt : b < D

theorem Var.alloc {D : Nat} {w : World} {b : Nat} {e : TypeId} {v : Value} {l : List Value} (h : Var D w b e v l) (o : Obj) : Var D (w.alloc o) b e v l := by
  have hb : b < w.heap.size := World.block_lt_of_cell? _ _ h.cell
  exact ⟨(World.cell?_of_block (Below.heap_alloc w o b hb)).trans h.cell, (World.frozen?_of_block (Below.heap_alloc w o b hb)).trans h.frozen, h.own.alloc o, h.lt⟩

/-- Another row has grown. -/
theorem Var.grown {D : Nat} {w w' : World} {b : Nat} {e : TypeId} {v : Value} {l : List Value} (h : Var D w b e v l) {row : Option Nat} (hg : w.grownBy w' row) (hr : ∀ k, row = some k → D ≤ k) (hne : v.ownBlock = none ∨ v.ownBlock ≠ row) : Var D w' b e v l := by
  have hb : b < w.heap.size := World.block_lt_of_cell? _ _ h.cell
  have hn : some b ≠ row := fun e => by have := hr b e.symm; have := h.lt; omega
  exact ⟨(hg.cell_far _ hb hn).trans h.cell, (hg.frozen_far _ hb hn).trans h.frozen, h.own.kept hg hne, h.lt⟩

/-- Another variable is stored into. -/
theorem Var.other {D : Nat} {w : World} {b : Nat} {e : TypeId} {v : Value} {l : List Value} (h : Var D w b e v l) {b' : Nat} (hb : b' ≠ b) (hD : b' < D) (u : Value) : Var D (w.setCell ⟨b', 0, none⟩ u) b e v l := by
  have hk : (w.setCell ⟨b', 0, none⟩ u).heap[b]? = w.heap[b]? := Below.heap_setCell _ _ _ _ (fun e => hb e.symm)
  exact ⟨(World.cell?_of_block hk).trans h.cell, (World.frozen?_of_block hk).trans h.frozen, ownsRow_setCell_below h.own hD u, h.lt⟩

/-- 'x = append(x, v)' has been carried out. -/
theorem Var.push {D : Nat} {w w1 : World} {b : Nat} {e : TypeId} {v v' : Value} {l : List Value} {x : Value} (h : Var D w b e v l) (hg : w.grownBy w1 v.ownBlock) (ho : w1.ownsRow D e 1 v' (l.length + 1) (l ++ [x])) :
    Var D (w1.setCell ⟨b, 0, none⟩ v') b e v' (l ++ [x]) := by
  have hb : b < w.heap.size := World.block_lt_of_cell? _ _ h.cell
  have hn : some b ≠ v.ownBlock := fun e => by have := (h.own.lt b e.symm).1; have := h.lt; omega
  have hc := (hg.cell_far ⟨b, 0, none⟩ hb hn).trans h.cell
  have hf := (hg.frozen_far ⟨b, 0, none⟩ hb hn).trans h.frozen
  refine ⟨World.cell?_setCell_same' _ _ _ (by rw [hc]; rfl), by simpa using hf, ?_, h.lt⟩
  rw [List.length_append, List.length_singleton]
  exact ownsRow_setCell_below ho h.lt v'

theorem Var.below {D : Nat} {w w' : World} {b : Nat} {e : TypeId} {v : Value} {l : List Value} (h : Var D w b e v l) (hb : Below w.heap.size w w') : Var D w' b e v l :=
  ⟨cell_later hb h.cell, (hb.frozen (World.block_lt_of_cell? _ _ h.cell)).trans h.frozen, ownsRow_below h.own hb, h.lt⟩

/-! ### The closure of ZZiterateAll: three variables, in blocks B, B + 1, B + 2 -/

/-- The operands' slices: rs[j] is what vs[j] owns; none lies in the row that 'avoid' owns. -/
def Held (D : Nat) (w : World) (avoid : Value) (vs : List Value) (rs : List (List Value)) : Prop :=
  vs.length = rs.length ∧ ∀ j, j < rs.length → ∃ v os, vs[j]? = some v ∧ rs[j]? = some os ∧ w.ownsRow D 3 1 v os.length os ∧ (v.ownBlock = none ∨ v.ownBlock ≠ avoid.ownBlock)

theorem Held.of {D : Nat} {w w' : World} {a a' : Value} {vs : List Value} {rs : List (List Value)} (h : Held D w a vs rs)
    (hk : ∀ v os, w.ownsRow D 3 1 v os.length os → (v.ownBlock = none ∨ v.ownBlock ≠ a.ownBlock) → w'.ownsRow D 3 1 v os.length os ∧ (v.ownBlock = none ∨ v.ownBlock ≠ a'.ownBlock)) : Held D w' a' vs rs :=
  ⟨h.1, fun j hj => by
    obtain ⟨v, os, h1, h2, h3, h4⟩ := h.2 j hj
    exact ⟨v, os, h1, h2, hk v os h3 h4⟩⟩

theorem Held.snoc {D : Nat} {w : World} {a : Value} {vs : List Value} {rs : List (List Value)} (h : Held D w a vs rs) {v : Value} {os : List Value} (ho : w.ownsRow D 3 1 v os.length os) (hs : v.ownBlock = none ∨ v.ownBlock ≠ a.ownBlock) : Held D w a (vs ++ [v]) (rs ++ [os]) := by
  refine ⟨by rw [List.length_append, List.length_append, h.1]; rfl, fun j hj => ?_⟩
  by_cases hl : j < rs.length
  · obtain ⟨v', os', h1, h2, h3, h4⟩ := h.2 j hl
    exact ⟨v', os', by rw [List.getElem?_append_left (by rw [h.1]; exact hl)]; exact h1, by rw [List.getElem?_append_left hl]; exact h2, h3, h4⟩
  · have e : j = rs.length := by rw [List.length_append, List.length_singleton] at hj; omega
    subst e
    exact ⟨v, os, by rw [← h.1]; simp, by simp, ho, hs⟩

/-- THE STATE: the three variables and the operands' slices. -/
structure S (B : Nat) (w : World) (v0 v1 v2 : Value) (lp lo lr vs : List Value) (rs : List (List Value)) : Prop where
  p : Var (B + 3) w B 3 v0 lp
  o : Var (B + 3) w (B + 1) 5 v1 lo
  r : Var (B + 3) w (B + 2) 24 v2 lr
  held : Held (B + 3) w v0 vs rs
  size : B + 3 ≤ w.heap.size

section
variable {B : Nat} {w w1 : World} {v0 v1 v2 : Value} {lp lo lr vs : List Value} {rs : List (List Value)}

theorem S.below {w' : World} (h : S B w v0 v1 v2 lp lo lr vs rs) (hb : Below w.heap.size w w') : S B w' v0 v1 v2 lp lo lr vs rs :=
  ⟨h.p.below hb, h.o.below hb, h.r.below hb, h.held.of fun _ _ ho hs => ⟨ownsRow_below ho hb, hs⟩, by have := hb.size; have := h.size; omega⟩

theorem S.one (h : S B w v0 v1 v2 lp lo lr vs rs) (o : Obj) {g cap : Nat} {x : Value} (hg : (w.alloc o).grownBy w1 v0.ownBlock)
    (ho : w1.ownsRow (B + 3) 3 1 (.slice (some ⟨g, 0, none⟩) (lp.length + 1) cap) (lp.length + 1) (lp ++ [x])) (hat : v0.ownBlock = some g ∨ g = w.heap.size + 1) :
    S B (w1.setCell ⟨B, 0, none⟩ (.slice (some ⟨g, 0, none⟩) (lp.length + 1) cap)) (.slice (some ⟨g, 0, none⟩) (lp.length + 1) cap) v1 v2 (lp ++ [x]) lo lr vs rs := by
  have hr : ∀ k, v0.ownBlock = some k → B + 3 ≤ k := fun k hk => (h.p.own.lt k hk).1
  refine ⟨(h.p.alloc o).push hg ho, ((h.o.alloc o).grown hg hr (own_ne (h.o.alloc o).own (h.p.alloc o).own (by decide))).other (by omega) (by omega) _,
    ((h.r.alloc o).grown hg hr (own_ne (h.r.alloc o).own (h.p.alloc o).own (by decide))).other (by omega) (by omega) _, h.held.of fun v os hv hs => ⟨ownsRow_setCell_below ((hv.alloc o).kept hg hs) (show B < B + 3 by omega) _, ?_⟩, ?_⟩
  · rcases hs with hs | hs
    · exact .inl hs
    · right
      intro e
      rcases hat with hat | hat
      · exact hs (by rw [e, hat]; rfl)
      · have := (hv.lt g (by rw [e]; rfl)).2
        omega
  · have := h.size; have := hg.size; simp at this; simp; omega

theorem S.two (h : S B w v0 v1 v2 lp lo lr vs rs) (o : Obj) {v1' : Value} {x : Value} (hg : (w.alloc o).grownBy w1 v1.ownBlock)
    (ho : w1.ownsRow (B + 3) 5 1 v1' (lo.length + 1) (lo ++ [x])) :
    S B (w1.setCell ⟨B + 1, 0, none⟩ v1') v0 v1' v2 lp (lo ++ [x]) lr vs rs := by
  have hr : ∀ k, v1.ownBlock = some k → B + 3 ≤ k := fun k hk => (h.o.own.lt k hk).1
  refine ⟨((h.p.alloc o).grown hg hr (own_ne (h.p.alloc o).own (h.o.alloc o).own (by decide))).other (by omega) (by omega) _, (h.o.alloc o).push hg ho,
    ((h.r.alloc o).grown hg hr (own_ne (h.r.alloc o).own (h.o.alloc o).own (by decide))).other (by omega) (by omega) _, h.held.of fun v os hv hs => ⟨ownsRow_setCell_below ((hv.alloc o).kept hg (own_ne (hv.alloc o) (h.o.alloc o).own (by decide))) (show B + 1 < B + 3 by omega) _, hs⟩, ?_⟩
  have := h.size; have := hg.size; simp at this; simp; omega

theorem S.three (h : S B w v0 v1 v2 lp lo lr vs rs) (o : Obj) {v2' : Value} {x : Value} (hg : (w.alloc o).grownBy w1 v2.ownBlock)
    (ho : w1.ownsRow (B + 3) 24 1 v2' (lr.length + 1) (lr ++ [x])) :
    S B (w1.setCell ⟨B + 2, 0, none⟩ v2') v0 v1 v2' lp lo (lr ++ [x]) vs rs := by
  have hr : ∀ k, v2.ownBlock = some k → B + 3 ≤ k := fun k hk => (h.r.own.lt k hk).1
  refine ⟨((h.p.alloc o).grown hg hr (own_ne (h.p.alloc o).own (h.r.alloc o).own (by decide))).other (by omega) (by omega) _,
    ((h.o.alloc o).grown hg hr (own_ne (h.o.alloc o).own (h.r.alloc o).own (by decide))).other (by omega) (by omega) _, (h.r.alloc o).push hg ho, h.held.of fun v os hv hs => ⟨ownsRow_setCell_below ((hv.alloc o).kept hg (own_ne (hv.alloc o) (h.r.alloc o).own (by decide))) (show B + 2 < B + 3 by omega) _, hs⟩, ?_⟩
  have := h.size; have := hg.size; simp at this; simp; omega

/-- What the store behind an append wants. -/
theorem Var.ready {D b : Nat} {e : TypeId} {v : Value} {l : List Value} (h : Var D w b e v l) (hg : w.grownBy w1 v.ownBlock) : w1.cell? ⟨b, 0, none⟩ = some v ∧ w1.frozen? ⟨b, 0, none⟩ = false := by
  have hb : b < w.heap.size := World.block_lt_of_cell? _ _ h.cell
  have hn : some b ≠ v.ownBlock := fun e => by have := (h.own.lt b e.symm).1; have := h.lt; omega
  exact ⟨(hg.cell_far ⟨b, 0, none⟩ hb hn).trans h.cell, (hg.frozen_far ⟨b, 0, none⟩ hb hn).trans h.frozen⟩

theorem one_new (w : World) (n : Nat) (hn : w.heap.size = n) (x : Value) (t : TypeId) : ∀ j u, [x][j]? = some u → (w.alloc (.cells #[x] t)).cell? ((⟨n, 0, none⟩ : Addr).add j) = some u := by
  subst hn; exact cell_one_new _ _ _

/-- The frame of one 'x = append(x, ..)'. -/
theorem frame_push {b D : Nat} {e : TypeId} {v : Value} {l : List Value} (h : Var D w b e v l) (hB : B ≤ b) (hD : B ≤ w.heap.size) (hBD : B ≤ D) (o : Obj) (hg : (w.alloc o).grownBy w1 v.ownBlock) (u : Value) : Below B w (w1.setCell ⟨b, 0, none⟩ u) :=
  (((Below.refl B w).alloc hD o).grown hg (by simp; omega) (fun k hk => by have := (h.own.lt k hk).1; omega)).setCell hB u
end

set_option maxHeartbeats 2000000 in
/-- One call of the closure: the position, the opcode and the operands' slice go behind the three slices. -/
theorem cb13 (B : Nat) (v0 v1 v2 : Value) (oa : Option Addr) (on oc : Nat) (lp lo vs : List Value) (rs : List (List Value)) (os : List Value) (pos c : Int) (w : World) (h : S B w v0 v1 v2 lp lo vs vs rs)
    (hov : w.ownsRow (B + 3) 3 1 (.slice oa on oc) os.length os) (hsep : (Value.slice oa on oc).ownBlock = none ∨ (Value.slice oa on oc).ownBlock ≠ v0.ownBlock) (hp : lp.length ≤ 65536) (ho : lo.length ≤ 65536) (hr : vs.length ≤ 65536) :
    Calls Eczg.prog 13 #[.int .i64 pos, .int .u8 c, .slice oa on oc, .pointer (some ⟨B, 0, none⟩), .pointer (some ⟨B + 1, 0, none⟩), .pointer (some ⟨B + 2, 0, none⟩)] w fun e w' =>
      e = .returned (.bool true) ∧ (∃ v0' v1' v2', S B w' v0' v1' v2' (lp ++ [.int .i64 pos]) (lo ++ [.int .u8 c]) (vs ++ [.slice oa on oc]) (vs ++ [.slice oa on oc]) (rs ++ [os])) ∧ Below B w w' := by
  obtain ⟨i3, hi3, hz30, hz31, hz32⟩ := info_parts Eczg.info3
  obtain ⟨i5, hi5, hz50, hz51, hz52⟩ := info_parts Eczg.info5
  obtain ⟨i24, hi24, hz240, hz241, hz242⟩ := info_parts Eczg.info24
  have h1 : S B w v0 v1 v2 lp lo vs (vs ++ [.slice oa on oc]) (rs ++ [os]) := ⟨h.p, h.o, h.r, h.held.snoc hov hsep, h.size⟩
  have hc0 := h1.p.cell
  have hB0 := h1.size
  clear h hov hsep
  go_enter Eczg.func13, Eczg.ntmps13
  go_wp2_with (at_builtin; refine wpList_append_lies _ rfl (.tmp 10) (.tmp 12) 24 rfl (B + 3) 3 i3 (.int .i64 0) 1 8 Eczg.underlying24 hi3 hz30 hz31 hz32 rfl (by decide) _ lp.length lp rfl (h1.p.alloc _).own ⟨w.heap.size, 0, none⟩ 1 1 [.int .i64 pos] rfl rfl ?c1 ?c2 ?c3 ?c4 ?c5 ?c6 (w.heap.size + 1) ?c7 ?_)
  case c1 => exact cell_one_new _ _ _
  case c2 => intro u hu; simp at hu; subst hu; rfl
  case c3 => omega
  case c4 => unfold maxLen; omega
  case c5 => omega
  case c6 => simp; omega
  case c7 => simp
  intro g cap w1 hown hgrow hat _
  have s1 := h1.one _ hgrow hown hat
  have f1 := frame_push (B := B) h1.p (Nat.le_refl _) (by omega) (by omega) _ hgrow (.slice (some ⟨g, 0, none⟩) (lp.length + 1) cap)
  obtain ⟨rc, rf⟩ := (h1.p.alloc _).ready hgrow
  have hc1 : w1.cell? ⟨B + 1, 0, none⟩ = some v1 := by rw [← World.cell?_setCell_far w1 ⟨B, 0, none⟩ ⟨B + 1, 0, none⟩ (.slice (some ⟨g, 0, none⟩) (lp.length + 1) cap) (by simp)]; exact s1.o.cell
  have hsz1 : B + 3 ≤ w1.heap.size := by have := s1.size; simpa using this
  clear h1 hown hgrow hat hc0
  go_wp2_with (at_builtin; refine wpList_append_lies _ rfl (.tmp 14) (.tmp 16) 22 rfl (B + 3) 5 i5 (.int .u8 0) 1 1 Eczg.underlying22 hi5 hz50 hz51 hz52 rfl (by decide) _ lo.length lo rfl (s1.o.alloc _).own ⟨w1.heap.size, 0, none⟩ 1 1 [.int .u8 c] rfl rfl ?c1 ?c2 ?c3 ?c4 ?c5 ?c6 (w1.heap.size + 1) ?c7 ?_)
  case c1 => exact one_new _ _ (by simp) _ _
  case c2 => intro u hu; simp at hu; subst hu; rfl
  case c3 => omega
  case c4 => unfold maxLen; omega
  case c5 => omega
  case c6 => simp; omega
  case c7 => simp
  intro g2 cap2 w2 hown hgrow _ _
  have s2 := s1.two _ hgrow hown
  have f2 := frame_push (B := B) s1.o (by omega) (by have := s1.size; omega) (by omega) _ hgrow (.slice (some ⟨g2, 0, none⟩) (lo.length + 1) cap2)
  obtain ⟨rc2, rf2⟩ := (s1.o.alloc _).ready hgrow
  have hc2 : w2.cell? ⟨B + 2, 0, none⟩ = some v2 := by rw [← World.cell?_setCell_far w2 ⟨B + 1, 0, none⟩ ⟨B + 2, 0, none⟩ (.slice (some ⟨g2, 0, none⟩) (lo.length + 1) cap2) (by simp)]; exact s2.r.cell
  have hsz2 : B + 3 ≤ w2.heap.size := by have := s2.size; simpa using this
  have f12 := f1.trans f2
  clear s1 hown hgrow hc1 rc rf f1 f2 hsz1
  go_wp2_with (at_builtin; refine wpList_append_lies _ rfl (.tmp 18) (.tmp 20) 27 rfl (B + 3) 24 i24 (.slice none 0 0) 1 24 Eczg.underlying27 hi24 hz240 hz241 hz242 rfl (by decide) _ vs.length vs rfl (s2.r.alloc _).own ⟨w2.heap.size, 0, none⟩ 1 1 [.slice oa on oc] rfl rfl ?c1 ?c2 ?c3 ?c4 ?c5 ?c6 (w2.heap.size + 1) ?c7 ?_)
  case c1 => exact one_new _ _ (by simp) _ _
  case c2 => intro u hu; simp at hu; subst hu; rfl
  case c3 => omega
  case c4 => unfold maxLen; omega
  case c5 => omega
  case c6 => simp; omega
  case c7 => simp
  intro g3 cap3 w3 hown hgrow _ _
  have s3 := s2.three _ hgrow hown
  have f3 := frame_push (B := B) s2.r (by omega) (by have := s2.size; omega) (by omega) _ hgrow (.slice (some ⟨g3, 0, none⟩) (vs.length + 1) cap3)
  obtain ⟨rc3, rf3⟩ := (s2.r.alloc _).ready hgrow
  have f13 := f12.trans f3
  clear s2 hown hgrow hc2 rc2 rf2 f12 f3 hsz2
  go_wp2_with fail
  go_ret
  exact ⟨rfl, ⟨_, _, _, s3⟩, f13⟩
#print axioms cb13

/-! ### The closure of ZZiterateFirst: k in block B, the positions in block B + 1 -/

structure S1 (B : Nat) (w : World) (v0 : Value) (lp : List Value) (k : Int) : Prop where
  p : Var (B + 2) w (B + 1) 3 v0 lp
  k : w.cell? ⟨B, 0, none⟩ = some (.int .i64 k)
  size : B + 2 ≤ w.heap.size

theorem S1.below {B : Nat} {w w' : World} {v0 : Value} {lp : List Value} {k : Int} (h : S1 B w v0 lp k) (hb : Below w.heap.size w w') : S1 B w' v0 lp k :=
  ⟨h.p.below hb, cell_later hb h.k, by have := hb.size; have := h.size; omega⟩

theorem S1.one {B : Nat} {w w1 : World} {v0 : Value} {lp : List Value} {k : Int} (h : S1 B w v0 lp k) (o : Obj) {v0' : Value} {x : Value} (hg : (w.alloc o).grownBy w1 v0.ownBlock)
    (ho : w1.ownsRow (B + 2) 3 1 v0' (lp.length + 1) (lp ++ [x])) : w1.cell? ⟨B, 0, none⟩ = some (.int .i64 k) ∧ S1 B (w1.setCell ⟨B + 1, 0, none⟩ v0') v0' (lp ++ [x]) k := by
  have hs := h.size
  have hn : some B ≠ v0.ownBlock := fun e => by have := (h.p.own.lt B e.symm).1; omega
  have hk1 : (w.alloc o).cell? ⟨B, 0, none⟩ = some (.int .i64 k) := (World.cell?_of_block (Below.heap_alloc w o B (by omega))).trans h.k
  have hk : w1.cell? ⟨B, 0, none⟩ = some (.int .i64 k) := (hg.cell_far ⟨B, 0, none⟩ (by simp; omega) hn).trans hk1
  refine ⟨hk, (h.p.alloc o).push hg ho, ?_, ?_⟩
  · rw [World.cell?_setCell_far w1 ⟨B + 1, 0, none⟩ ⟨B, 0, none⟩ v0' (by simp)]; exact hk
  · have := hg.size; simp at this; simp; omega

set_option maxHeartbeats 2000000 in
/-- One call of the closure: the position goes behind the slice; does it want more? -/
theorem cb14 (B : Nat) (v0 : Value) (ov : Value) (lp : List Value) (pos c k : Int) (w : World) (h : S1 B w v0 lp k) (hp : lp.length ≤ 65536) :
    Calls Eczg.prog 14 #[.int .i64 pos, .int .u8 c, ov, .pointer (some ⟨B + 1, 0, none⟩), .pointer (some ⟨B, 0, none⟩)] w fun e w' =>
      e = .returned (.bool (decide ((lp.length : Int) + 1 < k))) ∧ (∃ v0', S1 B w' v0' (lp ++ [.int .i64 pos]) k) ∧ Below B w w' := by
  obtain ⟨i3, hi3, hz30, hz31, hz32⟩ := info_parts Eczg.info3
  have hc0 := h.p.cell
  have hB0 := h.size
  go_enter Eczg.func14, Eczg.ntmps14
  go_wp2_with (at_builtin; refine wpList_append_lies _ rfl (.tmp 9) (.tmp 11) 24 rfl (B + 2) 3 i3 (.int .i64 0) 1 8 Eczg.underlying24 hi3 hz30 hz31 hz32 rfl (by decide) _ lp.length lp rfl (h.p.alloc _).own ⟨w.heap.size, 0, none⟩ 1 1 [.int .i64 pos] rfl rfl ?c1 ?c2 ?c3 ?c4 ?c5 ?c6 (w.heap.size + 1) ?c7 ?_)
  case c1 => exact cell_one_new _ _ _
  case c2 => intro u hu; simp at hu; subst hu; rfl
  case c3 => omega
  case c4 => unfold maxLen; omega
  case c5 => omega
  case c6 => simp; omega
  case c7 => simp
  intro g cap w1 hown hgrow _ _
  obtain ⟨hk1, s1⟩ := h.one _ hgrow hown
  have f1 := frame_push (B := B) h.p (by omega) (by omega) (by omega) _ hgrow (.slice (some ⟨g, 0, none⟩) (lp.length + 1) cap)
  obtain ⟨rc, rf⟩ := (h.p.alloc _).ready hgrow
  clear h hown hgrow hc0
  go_wp2_with fail
  go_ret
  exact ⟨rfl, ⟨_, s1⟩, f1⟩
#print axioms cb14
end Go.Proofs.YoeczwDoor
