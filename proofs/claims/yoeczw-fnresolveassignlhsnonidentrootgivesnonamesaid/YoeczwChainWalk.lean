/-
  Seat oecz: 'ZZresolveChain' (function 7) by its contract.
-/
import Derived.Test.YoeczwResolve
import Derived.Deep.OwnRows
namespace Go.Proofs.Yoeczw
open Go.RowKit
attribute [local go_sem] as34_34

theorem Eczg.info9 : (Eczg.prog.info? 9).map (fun i => (i.zero, i.size, i.bytes)) = some (some (.string ⟨#[]⟩), 1, 16) := by kernel_rfl

/-- THE SLICE WHOSE ADDRESS IS sa HAS THE n CELLS f 0 .. f (n - 1) (where n is 0 nothing is said: nil, too). -/
def Lies (w : World) (sa : Option Addr) (n : Nat) (f : Nat → Value) : Prop := ∀ i, i < n → ∃ b o, sa = some ⟨b, o, none⟩ ∧ w.cell? ⟨b, o + i, none⟩ = some (f i)

theorem Lies.carry {w w' : World} (hb : Below w.heap.size w w') {sa : Option Addr} {n : Nat} {f : Nat → Value} (h : Lies w sa n f) : Lies w' sa n f := fun i hi => by
  obtain ⟨b, o, h1, h2⟩ := h i hi
  exact ⟨b, o, h1, cell_later hb h2⟩

theorem range_snoc (ks : Nat → ByteArray) (k : Nat) : (List.range (k + 1)).map ks = (List.range k).map ks ++ [ks k] := by simp [List.range_succ]

/-- WHAT HOLDS BEFORE ROUND k of the loop that wraps: the expression e is a chain of k links over the root, whose keys, innermost first, are the first k. -/
def Wrapped (w wr : World) (name : ByteArray) (ks : Nat → ByteArray) (k : Nat) (e : Value) : Prop :=
  ∃ l root, Chain wr root l e ∧ RootOk wr root name ∧ l.reverse.map (·.2) = (List.range k).map ks ∧ Below w.heap.size w wr

/-- The world behind a round that made a selector. -/
theorem Wrapped.sel {w wr : World} {name : ByteArray} {ks : Nat → ByteArray} {k : Nat} {e : Value} (h : Wrapped w wr name ks k e) :
    Wrapped w ((wr.alloc (.cells #[.string (ks k), .int .i64 0, .string ⟨#[]⟩] 36)).alloc (.cells #[e, Yoeczw.sel wr.heap.size] 39)) name ks (k + 1) (.iface 37 (.pointer (some ⟨wr.heap.size + 1, 0, none⟩))) := by
  obtain ⟨l, root, hch, hr, hl, hb⟩ := h
  have hbb : Below wr.heap.size wr ((wr.alloc (.cells #[.string (ks k), .int .i64 0, .string ⟨#[]⟩] 36)).alloc (.cells #[e, Yoeczw.sel wr.heap.size] 39)) := ((Below.refl _ _).alloc (Nat.le_refl _) _).alloc (by simp) _
  refine ⟨(wr.heap.size, ks k) :: l, root, ⟨wr.heap.size + 1, e, .inl ⟨rfl, ?_⟩, ?_, ?_, hch.carry hbb⟩, hr.carry hbb, ?_, hb.trans (hbb.mono hb.size)⟩
  · simp
  · simp
  · simp
  · rw [range_snoc, ← hl]; simp

theorem Wrapped.idx {w wr : World} {name : ByteArray} {ks : Nat → ByteArray} {k : Nat} {e : Value} (h : Wrapped w wr name ks k e) :
    Wrapped w ((wr.alloc (.cells #[.string (ks k), .int .i64 0, .string ⟨#[]⟩] 36)).alloc (.cells #[e, .int .i64 0, Yoeczw.sel wr.heap.size, .int .i64 0] 42)) name ks (k + 1) (.iface 40 (.pointer (some ⟨wr.heap.size + 1, 0, none⟩))) := by
  obtain ⟨l, root, hch, hr, hl, hb⟩ := h
  have hbb : Below wr.heap.size wr ((wr.alloc (.cells #[.string (ks k), .int .i64 0, .string ⟨#[]⟩] 36)).alloc (.cells #[e, .int .i64 0, Yoeczw.sel wr.heap.size, .int .i64 0] 42)) := ((Below.refl _ _).alloc (Nat.le_refl _) _).alloc (by simp) _
  refine ⟨(wr.heap.size, ks k) :: l, root, ⟨wr.heap.size + 1, e, .inr ⟨rfl, ?_⟩, ?_, ?_, hch.carry hbb⟩, hr.carry hbb, ?_, hb.trans (hbb.mono hb.size)⟩
  · simp
  · simp
  · simp
  · rw [range_snoc, ← hl]; simp

/-- The keys of a chain lie where its links say. -/
theorem Chain.keys {w : World} {root : Value} : ∀ {l : List (Nat × ByteArray)} {e : Value}, Chain w root l e → ∀ p ∈ l, w.cell? ⟨p.1, 0, none⟩ = some (.string p.2)
  | [], _, _ => by simp
  | (a, s) :: l, e, h => by
    obtain ⟨b, x, _, _, h3, h4⟩ := h
    intro p hp
    rcases List.mem_cons.1 hp with rfl | hp
    · exact h3
    · exact h4.keys p hp

theorem chain_sels {w : World} {root e : Value} {l : List (Nat × ByteArray)} {k : Nat} {ks : Nat → ByteArray} (h : Chain w root l e) (hl : l.reverse.map (·.2) = (List.range k).map ks) :
    ∀ i, i < k → ∃ a, (sels l)[i]? = some (sel a) ∧ w.cell? ⟨a, 0, none⟩ = some (.string (ks i)) := by
  intro i hi
  have hlen : l.reverse.length = k := by have := congrArg List.length hl; simpa using this
  have hi' : i < l.reverse.length := by omega
  refine ⟨(l.reverse[i]).1, ?_, ?_⟩
  · simp only [sels, List.getElem?_map, List.getElem?_eq_getElem hi', Option.map_some]
  · have h2 : (l.reverse[i]).2 = ks i := by
      have := congrArg (fun z : List ByteArray => z[i]?) hl
      simp only [List.getElem?_map, List.getElem?_eq_getElem hi', Option.map_some, List.getElem?_range hi, Option.some.injEq] at this
      exact this
    rw [← h2]
    exact h.keys _ (List.mem_reverse.1 (List.getElem_mem hi'))

/-- The row behind q rounds: the first q keys, the rest still empty. -/
def filled (ks : Nat → ByteArray) (q : Nat) (j : Nat) : Value := if j < q then .string (ks j) else .string ⟨#[]⟩
theorem filled_zero (ks : Nat → ByteArray) (j : Nat) : filled ks 0 j = .string ⟨#[]⟩ := by simp [filled]
theorem filled_step (ks : Nat → ByteArray) (q j : Nat) : (if j = q then Value.string (ks q) else filled ks q j) = filled ks (q + 1) j := by
  unfold filled
  by_cases h : j = q
  · subst h; simp
  · rw [if_neg h]
    by_cases h2 : j < q
    · rw [if_pos h2, if_pos (by omega)]
    · rw [if_neg h2, if_neg (by omega)]
theorem filled_all (ks : Nat → ByteArray) (k j : Nat) (h : j < k) : filled ks k j = .string (ks j) := by simp [filled, h]

/-- What a call's own slice of one-cell elements is: its value written out, its cells. -/
theorem own_lies {w : World} {base : Nat} {e : TypeId} {v : Value} {n : Nat} {xs : List Value} (h : w.ownsRow base e 1 v n xs) :
    ∃ ao cap, v = .slice ao n cap ∧ ∀ i, i < n → ∃ g, ao = some ⟨g, 0, none⟩ ∧ w.cell? ⟨g, i, none⟩ = xs[i]? := by
  rcases h.2 with ⟨rfl, rfl⟩ | ⟨g, cap, cur, rfl, _⟩
  · exact ⟨none, 0, rfl, fun i hi => absurd hi (by omega)⟩
  · exact ⟨some ⟨g, 0, none⟩, cap, rfl, fun i hi => ⟨g, rfl, h.cellAt i (by omega)⟩⟩

set_option maxHeartbeats 1000000 in
/-- 'ZZresolveChain', the root an identifier: its name; the keys in order, in a new row. -/
theorem chain_ident (name : ByteArray) (sa ka : Option Addr) (m sc n kc : Nat) (bs : Nat → Bool) (ks : Nat → ByteArray) (w : World) (hn : n ≤ 65536) 
    (hs : Lies w sa m fun i => .bool (bs i)) (hk : Lies w ka n fun i => .string (ks i)) :
    Calls Eczg.prog 7 #[.bool true, .string name, .slice sa m sc, .slice ka n kc] w fun r w' =>
      ∃ g, r = .returned (.tuple #[.string name, .slice (some ⟨g, 0, none⟩) n n]) ∧ w'.rowIs g 9 n (fun j => .string (ks j)) ∧ w.heap.size ≤ g ∧ Below w.heap.size w w' := by
  go_enter Eczg.func7, Eczg.ntmps7
  go_wp2_with fail
  go_loopw [10, 11] (fun e i wr => ∃ k t p, k ≤ n ∧ i = .int .i64 (k : Nat) ∧ e = .iface t p ∧ Wrapped w wr name ks k (.iface t p)) (fun _ i _ => n - (intOf i).toNat)
  case atStart => 
    exact ⟨0, _, _, Nat.zero_le _, rfl, rfl, [], _, rfl, .inl ⟨w.heap.size, rfl, by simp⟩, rfl, (Below.refl _ _).alloc (Nat.le_refl _) _⟩
  case round =>
    obtain ⟨k, t, p, hkn, rfl, rfl, hwr⟩ := hrel
    have hb : Below w.heap.size w wr := by obtain ⟨_, _, _, _, _, h⟩ := hwr; exact h
    by_cases hlt : k < n
    · obtain ⟨kb, ko, rfl, hck⟩ := hk k hlt
      have hck' : wr.cell? ⟨kb, ko + k, none⟩ = some (.string (ks k)) := cell_later hb hck
      clear hck
      by_cases hlm : k < m
      · obtain ⟨sb, so, rfl, hcs⟩ := hs k hlm
        have hcs' : wr.cell? ⟨sb, so + k, none⟩ = some (.bool (bs k)) := cell_later hb hcs
        have hsb : sb < wr.heap.size := World.block_lt_of_cell? _ _ hcs'
        clear hcs
        by_cases hbk : bs k = true
        · rw [hbk] at hcs'
          go_wp2_with fail
          go_roundw
          case rel => exact ⟨k + 1, _, _, by omega, by go_num, rfl, hwr.sel⟩
          case measure => simp [intOf]; omega
        · have hbk' : bs k = false := by simpa using hbk
          rw [hbk'] at hcs'
          clear hbk
          go_wp2_with fail
          go_roundw
          case rel => exact ⟨k + 1, _, _, by omega, by go_num, rfl, hwr.idx⟩
          case measure => simp [intOf]; omega
      · have hd : decide ((k : Int) < (m : Int)) = false := decide_eq_false (by omega)
        go_wp2_with fail
        go_roundw
        case rel => exact ⟨k + 1, _, _, by omega, by go_num, rfl, hwr.idx⟩
        case measure => simp [intOf]; omega
    · have hkk : k = n := by omega
      subst hkk
      obtain ⟨l, root, hch, hr, hl, _⟩ := hwr
      have hll : l.length = k := by have := congrArg List.length hl; simpa using this
      go_wp2_with fail
      refine (resolve_any root name l _ wr hch hr (by omega)).mono ?_
      rintro e w1 ⟨v, rfl, hown, hb1⟩
      rw [hll] at hown
      obtain ⟨ao, cap, rfl, hlies⟩ := own_lies hown
      have HK : Hid (∀ i, i < k → ∃ g a, ao = some ⟨g, 0, none⟩ ∧ w1.cell? ⟨g, i, none⟩ = some (sel a) ∧ w1.cell? ⟨a, 0, none⟩ = some (.string (ks i))) := by
        intro i hi
        obtain ⟨a, h1, h2⟩ := chain_sels hch hl i hi
        obtain ⟨g, h3, h4⟩ := hlies i hi
        exact ⟨g, a, h3, h4.trans h1, cell_later hb1 h2⟩
      have hb2 : Below w.heap.size w w1 := hb.trans (hb1.mono hb.size)
      have hmk := run_make_row' (P := Eczg.prog) 23 9 (.string ⟨#[]⟩) 16 Eczg.underlying23 Eczg.info9 rfl .i64 .i64 k (by omega) (by omega)
      clear hll hl hlies hown hch hr hb1 hb hk hs hlt hkn
      go_wp2_with fail
      go_loopw [16] (fun i wq => ∃ q, q ≤ k ∧ i = .int .i64 (q : Nat) ∧ wq.rowIs w1.heap.size 9 k (filled ks q) ∧ Below w1.heap.size w1 wq) (fun i _ => k - (intOf i).toNat)
      case atStart => exact ⟨0, Nat.zero_le _, rfl, (World.rowIs_made _ _ _ _).congr (fun i _ => (filled_zero ks i).symm), (Below.refl _ _).alloc (Nat.le_refl _) _⟩
      case round =>
        obtain ⟨q, hq, rfl, hrow, hbq⟩ := hrel
        by_cases hlt : q < k
        · obtain ⟨g, a, rfl, c1, c2⟩ := HK.out q hlt
          have d1 := cell_later hbq c1
          have d2 := cell_later hbq c2
          have d3 := hrow.cell hlt
          have d4 := hrow.frozen q
          clear c1 c2
          go_wp2_with fail
          go_roundw
          case rel => exact ⟨q + 1, by omega, by go_num, (hrow.set q _).congr (fun j _ => filled_step ks q j), hbq.setCell (Nat.le_refl _) _⟩
          case measure => simp [intOf]; omega
        · have hqk : q = k := by omega
          subst hqk
          go_wp2_with fail
          go_ret2
          exact ⟨w1.heap.size, rfl, hrow.congr (fun j hj => filled_all ks q j hj), hb2.size, hb2.trans (hbq.mono hb2.size)⟩
set_option maxHeartbeats 1000000 in
/-- 'ZZresolveChain', the root a string literal: no name; the keys in order, in a new row. -/
theorem chain_lit (name : ByteArray) (sa ka : Option Addr) (m sc n kc : Nat) (bs : Nat → Bool) (ks : Nat → ByteArray) (w : World) (hn : n ≤ 65536) 
    (hs : Lies w sa m fun i => .bool (bs i)) (hk : Lies w ka n fun i => .string (ks i)) :
    Calls Eczg.prog 7 #[.bool false, .string name, .slice sa m sc, .slice ka n kc] w fun r w' =>
      ∃ g, r = .returned (.tuple #[.string ⟨#[]⟩, .slice (some ⟨g, 0, none⟩) n n]) ∧ w'.rowIs g 9 n (fun j => .string (ks j)) ∧ w.heap.size ≤ g ∧ Below w.heap.size w w' := by
  go_enter Eczg.func7, Eczg.ntmps7
  go_wp2_with fail
  go_loopw [10, 11] (fun e i wr => ∃ k t p, k ≤ n ∧ i = .int .i64 (k : Nat) ∧ e = .iface t p ∧ Wrapped w wr ⟨#[]⟩ ks k (.iface t p)) (fun _ i _ => n - (intOf i).toNat)
  case atStart => 
    exact ⟨0, _, _, Nat.zero_le _, rfl, rfl, [], _, rfl, .inr ⟨w.heap.size, rfl, rfl⟩, rfl, (Below.refl _ _).alloc (Nat.le_refl _) _⟩
  case round =>
    obtain ⟨k, t, p, hkn, rfl, rfl, hwr⟩ := hrel
    have hb : Below w.heap.size w wr := by obtain ⟨_, _, _, _, _, h⟩ := hwr; exact h
    by_cases hlt : k < n
    · obtain ⟨kb, ko, rfl, hck⟩ := hk k hlt
      have hck' : wr.cell? ⟨kb, ko + k, none⟩ = some (.string (ks k)) := cell_later hb hck
      clear hck
      by_cases hlm : k < m
      · obtain ⟨sb, so, rfl, hcs⟩ := hs k hlm
        have hcs' : wr.cell? ⟨sb, so + k, none⟩ = some (.bool (bs k)) := cell_later hb hcs
        have hsb : sb < wr.heap.size := World.block_lt_of_cell? _ _ hcs'
        clear hcs
        by_cases hbk : bs k = true
        · rw [hbk] at hcs'
          go_wp2_with fail
          go_roundw
          case rel => exact ⟨k + 1, _, _, by omega, by go_num, rfl, hwr.sel⟩
          case measure => simp [intOf]; omega
        · have hbk' : bs k = false := by simpa using hbk
          rw [hbk'] at hcs'
          clear hbk
          go_wp2_with fail
          go_roundw
          case rel => exact ⟨k + 1, _, _, by omega, by go_num, rfl, hwr.idx⟩
          case measure => simp [intOf]; omega
      · have hd : decide ((k : Int) < (m : Int)) = false := decide_eq_false (by omega)
        go_wp2_with fail
        go_roundw
        case rel => exact ⟨k + 1, _, _, by omega, by go_num, rfl, hwr.idx⟩
        case measure => simp [intOf]; omega
    · have hkk : k = n := by omega
      subst hkk
      obtain ⟨l, root, hch, hr, hl, _⟩ := hwr
      have hll : l.length = k := by have := congrArg List.length hl; simpa using this
      go_wp2_with fail
      refine (resolve_any root ⟨#[]⟩ l _ wr hch hr (by omega)).mono ?_
      rintro e w1 ⟨v, rfl, hown, hb1⟩
      rw [hll] at hown
      obtain ⟨ao, cap, rfl, hlies⟩ := own_lies hown
      have HK : Hid (∀ i, i < k → ∃ g a, ao = some ⟨g, 0, none⟩ ∧ w1.cell? ⟨g, i, none⟩ = some (sel a) ∧ w1.cell? ⟨a, 0, none⟩ = some (.string (ks i))) := by
        intro i hi
        obtain ⟨a, h1, h2⟩ := chain_sels hch hl i hi
        obtain ⟨g, h3, h4⟩ := hlies i hi
        exact ⟨g, a, h3, h4.trans h1, cell_later hb1 h2⟩
      have hb2 : Below w.heap.size w w1 := hb.trans (hb1.mono hb.size)
      have hmk := run_make_row' (P := Eczg.prog) 23 9 (.string ⟨#[]⟩) 16 Eczg.underlying23 Eczg.info9 rfl .i64 .i64 k (by omega) (by omega)
      clear hll hl hlies hown hch hr hb1 hb hk hs hlt hkn
      go_wp2_with fail
      go_loopw [16] (fun i wq => ∃ q, q ≤ k ∧ i = .int .i64 (q : Nat) ∧ wq.rowIs w1.heap.size 9 k (filled ks q) ∧ Below w1.heap.size w1 wq) (fun i _ => k - (intOf i).toNat)
      case atStart => exact ⟨0, Nat.zero_le _, rfl, (World.rowIs_made _ _ _ _).congr (fun i _ => (filled_zero ks i).symm), (Below.refl _ _).alloc (Nat.le_refl _) _⟩
      case round =>
        obtain ⟨q, hq, rfl, hrow, hbq⟩ := hrel
        by_cases hlt : q < k
        · obtain ⟨g, a, rfl, c1, c2⟩ := HK.out q hlt
          have d1 := cell_later hbq c1
          have d2 := cell_later hbq c2
          have d3 := hrow.cell hlt
          have d4 := hrow.frozen q
          clear c1 c2
          go_wp2_with fail
          go_roundw
          case rel => exact ⟨q + 1, by omega, by go_num, (hrow.set q _).congr (fun j _ => filled_step ks q j), hbq.setCell (Nat.le_refl _) _⟩
          case measure => simp [intOf]; omega
        · have hqk : q = k := by omega
          subst hqk
          go_wp2_with fail
          go_ret2
          exact ⟨w1.heap.size, rfl, hrow.congr (fun j hj => filled_all ks q j hj), hb2.size, hb2.trans (hbq.mono hb2.size)⟩
#print axioms chain_ident
#print axioms chain_lit
end Go.Proofs.Yoeczw
