/-
  Seat oecz: the chain of expressions in memory, and 'resolveAssignLHS' (function 9) by its contract, by induction on the chain.
-/
import Derived.Test.YoeczwProg
import Derived.WalkKit
import Derived.WalkSpells
import Derived.KernelRfl
namespace Go.Proofs.Yoeczw
open Go.RowKit

/-! The type switch's questions, closed facts. Types: 29 Expr, 30 *Ident, 34 *StringLit, 37 *SelectorExpr, 40 *IndexExpr. -/
theorem as37_37 (v : Value) (w : World) : (Instr.typeAssert (.iface 37 v) 29 37 true).run Eczg.prog w = .ok (.tuple #[v, .bool true]) w := by kernel_rfl
theorem as40_37 (v : Value) (w : World) : (Instr.typeAssert (.iface 40 v) 29 37 true).run Eczg.prog w = .ok (.tuple #[.pointer none, .bool false]) w := by kernel_rfl
theorem as40_40 (v : Value) (w : World) : (Instr.typeAssert (.iface 40 v) 29 40 true).run Eczg.prog w = .ok (.tuple #[v, .bool true]) w := by kernel_rfl
theorem as30_37 (v : Value) (w : World) : (Instr.typeAssert (.iface 30 v) 29 37 true).run Eczg.prog w = .ok (.tuple #[.pointer none, .bool false]) w := by kernel_rfl
theorem as30_40 (v : Value) (w : World) : (Instr.typeAssert (.iface 30 v) 29 40 true).run Eczg.prog w = .ok (.tuple #[.pointer none, .bool false]) w := by kernel_rfl
theorem as30_30 (v : Value) (w : World) : (Instr.typeAssert (.iface 30 v) 29 30 true).run Eczg.prog w = .ok (.tuple #[v, .bool true]) w := by kernel_rfl
theorem as34_37 (v : Value) (w : World) : (Instr.typeAssert (.iface 34 v) 29 37 true).run Eczg.prog w = .ok (.tuple #[.pointer none, .bool false]) w := by kernel_rfl
theorem as34_40 (v : Value) (w : World) : (Instr.typeAssert (.iface 34 v) 29 40 true).run Eczg.prog w = .ok (.tuple #[.pointer none, .bool false]) w := by kernel_rfl
theorem as34_30 (v : Value) (w : World) : (Instr.typeAssert (.iface 34 v) 29 30 true).run Eczg.prog w = .ok (.tuple #[.pointer none, .bool false]) w := by kernel_rfl
theorem as34_34 (v : Value) (w : World) : (Instr.typeAssert (.iface 34 v) 29 34 false).run Eczg.prog w = .ok v w := by kernel_rfl
attribute [local go_sem] as37_37 as40_37 as40_40 as30_37 as30_40 as30_30 as34_37 as34_40 as34_30

/-- A selector: a '*StringLit' behind the interface type Expr. -/
abbrev sel (a : Nat) : Value := .iface 34 (.pointer (some ⟨a, 0, none⟩))

/-- THE CHAIN: the expression e wraps root by the links l, the outermost first; a link is (the block of its StringLit, the key that it holds). -/
def Chain (w : World) (root : Value) : List (Nat × ByteArray) → Value → Prop
  | [], e => e = root
  | (a, s) :: l, e => ∃ b x, (e = .iface 37 (.pointer (some ⟨b, 0, none⟩)) ∧ w.cell? ⟨b, 1, none⟩ = some (sel a) ∨ e = .iface 40 (.pointer (some ⟨b, 0, none⟩)) ∧ w.cell? ⟨b, 2, none⟩ = some (sel a)) ∧
      w.cell? ⟨b, 0, none⟩ = some x ∧ w.cell? ⟨a, 0, none⟩ = some (.string s) ∧ Chain w root l x

theorem Chain.carry {w w' : World} {root : Value} (hb : Below w.heap.size w w') : ∀ {l : List (Nat × ByteArray)} {e : Value}, Chain w root l e → Chain w' root l e
  | [], _, h => h
  | (a, s) :: l, e, h => by
    obtain ⟨b, x, h1, h2, h3, h4⟩ := h
    refine ⟨b, x, ?_, cell_later hb h2, cell_later hb h3, h4.carry hb⟩
    rcases h1 with ⟨h, k⟩ | ⟨h, k⟩
    · exact .inl ⟨h, cell_later hb k⟩
    · exact .inr ⟨h, cell_later hb k⟩

/-- What the root gives: an identifier its name; a string literal no name. -/
def RootOk (w : World) (root : Value) (nm : ByteArray) : Prop :=
  (∃ r, root = .iface 30 (.pointer (some ⟨r, 0, none⟩)) ∧ w.cell? ⟨r, 0, none⟩ = some (.string nm)) ∨ (∃ r, root = .iface 34 (.pointer (some ⟨r, 0, none⟩)) ∧ nm = ⟨#[]⟩)

theorem RootOk.carry {w w' : World} {root : Value} {nm : ByteArray} (hb : Below w.heap.size w w') (h : RootOk w root nm) : RootOk w' root nm := by
  rcases h with ⟨r, h, k⟩ | h
  · exact .inl ⟨r, h, cell_later hb k⟩
  · exact .inr h

theorem Eczg.info29 : (Eczg.prog.info? 29).map (fun i => (i.zero, i.size, i.bytes)) = some (some .nilIface, 1, 16) := by kernel_rfl

/-- The selectors in order, innermost first. -/
def sels (l : List (Nat × ByteArray)) : List Value := l.reverse.map fun p => sel p.1
theorem sels_length (l : List (Nat × ByteArray)) : (sels l).length = l.length := by simp [sels]
theorem sels_cons (a : Nat) (s : ByteArray) (l : List (Nat × ByteArray)) : sels ((a, s) :: l) = sels l ++ [sel a] := by simp [sels]

theorem resolve_ident (r : Nat) (nm : ByteArray) (w : World) (hc : w.cell? ⟨r, 0, none⟩ = some (.string nm)) :
    Calls Eczg.prog 9 #[.iface 30 (.pointer (some ⟨r, 0, none⟩))] w fun e w' => e = .returned (.tuple #[.string nm, .slice none 0 0]) ∧ w' = w := by
  go_enter Eczg.func9, Eczg.ntmps9
  go_wp2_with fail
  go_ret2
  exact ⟨rfl, rfl⟩

theorem resolve_lit (r : Nat) (w : World) :
    Calls Eczg.prog 9 #[.iface 34 (.pointer (some ⟨r, 0, none⟩))] w fun e w' => e = .returned (.tuple #[.string ⟨#[]⟩, .slice none 0 0]) ∧ w' = w := by
  go_enter Eczg.func9, Eczg.ntmps9
  go_wp2_with fail
  go_ret2
  exact ⟨rfl, rfl⟩

/-- One link more, of either kind: from the callee's contract at x to the caller's. -/
theorem resolve_sel (b a n : Nat) (x : Value) (nm : ByteArray) (xs : List Value) (w : World) (hn : n ≤ 65536) (c0 : w.cell? ⟨b, 0, none⟩ = some x) (c1 : w.cell? ⟨b, 1, none⟩ = some (sel a))
    (ih : Hid (Calls Eczg.prog 9 #[x] w fun r w' => ∃ v, r = .returned (.tuple #[.string nm, v]) ∧ w'.ownsRow w.heap.size 29 1 v n xs ∧ Below w.heap.size w w')) :
    Calls Eczg.prog 9 #[.iface 37 (.pointer (some ⟨b, 0, none⟩))] w fun r w' => ∃ v, r = .returned (.tuple #[.string nm, v]) ∧ w'.ownsRow w.heap.size 29 1 v (n + 1) (xs ++ [sel a]) ∧ Below w.heap.size w w' := by
  obtain ⟨i0, hi, hz0, hz1, hz2⟩ := info_parts Eczg.info29
  go_enter Eczg.func9, Eczg.ntmps9
  go_wp2_with fail
  refine ih.out.mono ?_
  rintro e w1 ⟨v, rfl, hown, hb⟩
  have c2 := cell_later hb c1
  have hsz := hb.size
  go_wp2_with (at_builtin; refine wpList_append_own _ rfl _ _ 43 rfl w.heap.size 29 i0 .nilIface 1 16 Eczg.underlying43 hi hz0 hz1 hz2 rfl (by decide) _ _ _ rfl (hown.alloc _) ⟨w1.heap.size, 0, none⟩ 1 1 [sel a] rfl rfl ?c1 ?c2 ?c3 ?c4 ?c5 ?_)
  case c1 => exact cell_one_new _ _ _
  case c2 => intro u hu; simp at hu; subst hu; rfl
  case c3 => unfold maxLen; omega
  case c4 => omega
  case c5 => simp; omega
  intro v' w2 hown' hgrow _
  go_wp2_with fail
  go_ret2
  exact ⟨v', rfl, hown', (hb.alloc hsz _).grown hgrow (by simp; omega) (fun k hk => (hown.lt k hk).1)⟩

theorem resolve_idx (b a n : Nat) (x : Value) (nm : ByteArray) (xs : List Value) (w : World) (hn : n ≤ 65536) (c0 : w.cell? ⟨b, 0, none⟩ = some x) (c1 : w.cell? ⟨b, 2, none⟩ = some (sel a))
    (ih : Hid (Calls Eczg.prog 9 #[x] w fun r w' => ∃ v, r = .returned (.tuple #[.string nm, v]) ∧ w'.ownsRow w.heap.size 29 1 v n xs ∧ Below w.heap.size w w')) :
    Calls Eczg.prog 9 #[.iface 40 (.pointer (some ⟨b, 0, none⟩))] w fun r w' => ∃ v, r = .returned (.tuple #[.string nm, v]) ∧ w'.ownsRow w.heap.size 29 1 v (n + 1) (xs ++ [sel a]) ∧ Below w.heap.size w w' := by
  obtain ⟨i0, hi, hz0, hz1, hz2⟩ := info_parts Eczg.info29
  go_enter Eczg.func9, Eczg.ntmps9
  go_wp2_with fail
  refine ih.out.mono ?_
  rintro e w1 ⟨v, rfl, hown, hb⟩
  have c2 := cell_later hb c1
  have hsz := hb.size
  go_wp2_with (at_builtin; refine wpList_append_own _ rfl _ _ 43 rfl w.heap.size 29 i0 .nilIface 1 16 Eczg.underlying43 hi hz0 hz1 hz2 rfl (by decide) _ _ _ rfl (hown.alloc _) ⟨w1.heap.size, 0, none⟩ 1 1 [sel a] rfl rfl ?c1 ?c2 ?c3 ?c4 ?c5 ?_)
  case c1 => exact cell_one_new _ _ _
  case c2 => intro u hu; simp at hu; subst hu; rfl
  case c3 => unfold maxLen; omega
  case c4 => omega
  case c5 => simp; omega
  intro v' w2 hown' hgrow _
  go_wp2_with fail
  go_ret2
  exact ⟨v', rfl, hown', (hb.alloc hsz _).grown hgrow (by simp; omega) (fun k hk => (hown.lt k hk).1)⟩

/-- 'resolveAssignLHS' ON A CHAIN: the root's name, and the selectors, innermost first, in a slice of the call's own; nothing old turns. -/
theorem resolve_any (root : Value) (nm : ByteArray) : ∀ (l : List (Nat × ByteArray)) (e : Value) (w : World), Chain w root l e → RootOk w root nm → l.length ≤ 65536 →
    Calls Eczg.prog 9 #[e] w fun r w' => ∃ v, r = .returned (.tuple #[.string nm, v]) ∧ w'.ownsRow w.heap.size 29 1 v l.length (sels l) ∧ Below w.heap.size w w'
  | [], e, w, h, hr, _ => by
    have he : e = root := h
    subst he
    rcases hr with ⟨r, rfl, hc⟩ | ⟨r, rfl, rfl⟩
    · refine (resolve_ident r nm w hc).mono ?_
      rintro e w1 ⟨rfl, rfl⟩
      exact ⟨_, rfl, World.ownsRow_nil _ _ _ _, Below.refl _ _⟩
    · refine (resolve_lit r w).mono ?_
      rintro e w1 ⟨rfl, rfl⟩
      exact ⟨_, rfl, World.ownsRow_nil _ _ _ _, Below.refl _ _⟩
  | (a, s) :: l, e, w, h, hr, hn => by
    obtain ⟨b, x, h1, h2, _, h4⟩ := h
    have hl : l.length ≤ 65536 := by simp at hn; omega
    have ih := resolve_any root nm l x w h4 hr hl
    rw [sels_cons]
    rcases h1 with ⟨rfl, k⟩ | ⟨rfl, k⟩
    · exact resolve_sel b a l.length x nm (sels l) w hl h2 k ih
    · exact resolve_idx b a l.length x nm (sels l) w hl h2 k ih
#print axioms resolve_any
end Go.Proofs.Yoeczw
