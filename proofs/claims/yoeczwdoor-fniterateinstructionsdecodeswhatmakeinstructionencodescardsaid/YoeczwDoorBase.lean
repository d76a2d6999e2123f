/-
  Seat oeczD: small laws over worlds, shared by the walks.
-/
import Derived.Test.YoeczwDoorProg
import Derived.Test.YoeczwDoorPlain
import Derived.WalkKit
import Derived.WalkSpells
import Derived.WalkSmall
import Derived.KernelRfl
import Derived.Deep.OwnRows
import Derived.Deep.AppendLies
import Derived.Deep.QuietTactic
import Derived.BigQuiet
import Derived.Deep.RegionHeld3
import Derived.Lib.EndianBits
namespace Go.Proofs.YoeczwDoor
open Go.RowKit

theorem Eczg.info3 : (Eczg.prog.info? 3).map (fun i => (i.zero, i.size, i.bytes)) = some (some (.int .i64 0), 1, 8) := by kernel_rfl
theorem Eczg.info5 : (Eczg.prog.info? 5).map (fun i => (i.zero, i.size, i.bytes)) = some (some (.int .u8 0), 1, 1) := by kernel_rfl
theorem Eczg.info24 : (Eczg.prog.info? 24).map (fun i => (i.zero, i.size, i.bytes)) = some (some (.slice none 0 0), 1, 24) := by kernel_rfl

/-- THE SLICE WHOSE ADDRESS IS sa HAS THE n CELLS f 0 .. f (n - 1) (where n is 0 nothing is said: nil, too). -/
def Lies (w : World) (sa : Option Addr) (n : Nat) (f : Nat → Value) : Prop := ∀ i, i < n → ∃ b o, sa = some ⟨b, o, none⟩ ∧ w.cell? ⟨b, o + i, none⟩ = some (f i)

theorem Lies.carry {w w' : World} (hb : Below w.heap.size w w') {sa : Option Addr} {n : Nat} {f : Nat → Value} (h : Lies w sa n f) : Lies w' sa n f := fun i hi => by
  obtain ⟨b, o, h1, h2⟩ := h i hi
  exact ⟨b, o, h1, cell_later hb h2⟩

/-- What is owned stays owned where nothing old turns. -/
theorem ownsRow_below {w w' : World} {base : Nat} {e : TypeId} {size : Nat} {v : Value} {n : Nat} {xs : List Value} (h : w.ownsRow base e size v n xs) (hb : Below w.heap.size w w') : w'.ownsRow base e size v n xs := by
  obtain ⟨h1, h2⟩ := h
  refine ⟨h1, ?_⟩
  rcases h2 with h2 | ⟨g, cap, cur, hv, hg, hh, r⟩
  · exact .inl h2
  · exact .inr ⟨g, cap, cur, hv, hg, by rw [hb.block g (Array.getElem?_eq_some_iff.1 hh).1]; exact hh, r⟩

/-- A call's own slice of one-cell elements: its value written out, its cells. -/
theorem own_lies {w : World} {base : Nat} {e : TypeId} {v : Value} {n : Nat} {xs : List Value} (h : w.ownsRow base e 1 v n xs) :
    ∃ ao cap, v = .slice ao n cap ∧ ∀ i, i < n → ∃ g, ao = some ⟨g, 0, none⟩ ∧ w.cell? ⟨g, i, none⟩ = xs[i]? := by
  rcases h.2 with ⟨rfl, rfl⟩ | ⟨g, cap, cur, rfl, _⟩
  · exact ⟨none, 0, rfl, fun i hi => absurd hi (by omega)⟩
  · exact ⟨some ⟨g, 0, none⟩, cap, rfl, fun i hi => ⟨g, rfl, h.cellAt i (by omega)⟩⟩

/-- THE TABLE IN MEMORY: cell c of the package-level variable (block 0) is a slice that holds opcode c's widths. -/
def Tab (w : World) : Prop := ∀ c, c < 42 → ∃ ta tc, w.cell? ⟨0, c, none⟩ = some (.slice ta (wids c).length tc) ∧ Lies w ta (wids c).length fun k => .int .i64 (wAt (wids c) k)

theorem Tab.carry {w w' : World} (hb : Below w.heap.size w w') (h : Tab w) : Tab w' := fun c hc => by
  obtain ⟨ta, tc, h1, h2⟩ := h c hc
  exact ⟨ta, tc, cell_later hb h1, h2.carry hb⟩

/-- 'make([]T, 0, n)', n a variable, T of one cell: an equation for every world. -/
theorem run_make_zero {P : Program} (t e : TypeId) (z : Value) (bytes : Nat) (ht : P.underlying t = some (.slice e)) (hinfo : (P.info? e).map (fun i => (i.zero, i.size, i.bytes)) = some (some z, 1, bytes)) (hz1 : z.cells = #[z])
    (n : Nat) (hbytes : bytes * n ≤ 281474976710656) (h63 : n ≤ 9223372036854775807) (w : World) :
    (Instr.makeSlice t (.int .i64 0) (.int .i64 (n : Int))).run P w = .ok (.slice (some ⟨w.heap.size, 0, none⟩) 0 n) (w.alloc (.cells (madeCells #[z] n) e)) := by
  obtain ⟨i, hi, hz, hs, hb⟩ := info_parts hinfo
  have hb' : (i.bytes : Int) * (n : Int) ≤ 281474976710656 := by
    have h : ((i.bytes * n : Nat) : Int) ≤ 281474976710656 := by rw [hb]; omega
    rwa [Int.natCast_mul] at h
  have hr := run_make (P := P) w t e i z ht hi hz .i64 .i64 0 n (by omega) (by omega) hb' (by omega)
  simpa only [Int.toNat_natCast, Int.toNat_zero, hs, Nat.mul_one, hz1] using hr

/-! ### The bits -/
theorem wrap_small (x : Int) (h0 : 0 ≤ x) (h1 : x ≤ 9223372036854775807) : IntKind.i64.wrap x = x := by rw [IntKind.wrap_i64]; omega
theorem or_low (i : Nat) (y x : Int) (hi : (2 : Int) ^ i ≤ 2 ^ 63) (hy0 : 0 ≤ y) (hy : y < 2 ^ i) (hx0 : 0 ≤ x) (hx : x % 2 ^ i = 0) (hx1 : x < 9223372036854775808) : bits .or .i64 y x = y + x :=
  bits_join_low .i64 63 (by decide) (fun n h0 h1 => wrap_small n h0 (by have : (2 : Int) ^ 63 = 9223372036854775808 := by decide
                                                                        omega)) i y x hy0 hy (by omega) hx0 hx (by have : (2 : Int) ^ 63 = 9223372036854775808 := by decide
                                                                                                                   omega)
theorem or2 (a b : Int) (ha : 0 ≤ a ∧ a ≤ 255) (hb : 0 ≤ b ∧ b ≤ 255) : bits BinOp.or IntKind.i64 (IntKind.i64.wrap b) (IntKind.i64.wrap (IntKind.i64.wrap a * 256)) = a * 256 + b := by
  rw [wrap_small b (by omega) (by omega), wrap_small a (by omega) (by omega), wrap_small (a * 256) (by omega) (by omega), or_low 8 b (a * 256) (by decide) (by omega) (by omega) (by omega) (by omega) (by omega)]
  omega
theorem or4 (a b c d : Int) (ha : 0 ≤ a ∧ a ≤ 255) (hb : 0 ≤ b ∧ b ≤ 255) (hc : 0 ≤ c ∧ c ≤ 255) (hd : 0 ≤ d ∧ d ≤ 255) :
    bits BinOp.or IntKind.i64 (bits BinOp.or IntKind.i64 (bits BinOp.or IntKind.i64 (IntKind.i64.wrap d) (IntKind.i64.wrap (IntKind.i64.wrap c * 256))) (IntKind.i64.wrap (IntKind.i64.wrap b * 65536))) (IntKind.i64.wrap (IntKind.i64.wrap a * 16777216)) = a * 16777216 + b * 65536 + c * 256 + d := by
  rw [or2 c d hc hd, wrap_small b (by omega) (by omega), wrap_small a (by omega) (by omega), wrap_small (b * 65536) (by omega) (by omega), wrap_small (a * 16777216) (by omega) (by omega),
    or_low 16 (c * 256 + d) (b * 65536) (by decide) (by omega) (by omega) (by omega) (by omega) (by omega), or_low 24 (c * 256 + d + b * 65536) (a * 16777216) (by decide) (by omega) (by omega) (by omega) (by omega) (by omega)]
  omega

end Go.Proofs.YoeczwDoor
