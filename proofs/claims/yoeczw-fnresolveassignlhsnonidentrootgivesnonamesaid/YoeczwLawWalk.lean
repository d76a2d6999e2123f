/-
  Seat oecz: the two laws' walks.
-/
import Derived.Test.YoeczwBounds
import Derived.Laws.CopyOwn
import Derived.WalkSmall
import Derived.Deep.QuietTactic
import Derived.BigQuiet
namespace Go.Proofs.Yoeczw
open Go.RowKit

theorem Eczg.info4 : (Eczg.prog.info? 4).map (fun i => (i.zero, i.size, i.bytes)) = some (some (.bool false), 1, 1) := by kernel_rfl
theorem Eczg.size4 : (Eczg.prog.info? 4).map (·.size) = some 1 := by kernel_rfl
theorem Eczg.size9 : (Eczg.prog.info? 9).map (·.size) = some 1 := by kernel_rfl
theorem neq22 (w : World) (a : Option Addr) (n c : Nat) : (binOp .neq 22 (.slice a n c) (.slice none 0 0)).run Eczg.prog w = .ok (.bool a.isSome) w := by
  rw [run_neq_slice_nil_any w 22 4 a n c 0 0 Eczg.underlying22]; simp
theorem neq23 (w : World) (a : Option Addr) (n c : Nat) : (binOp .neq 23 (.slice a n c) (.slice none 0 0)).run Eczg.prog w = .ok (.bool a.isSome) w := by
  rw [run_neq_slice_nil_any w 23 9 a n c 0 0 Eczg.underlying23]; simp
attribute [local go_sem] neq22 neq23

/-- A new row of n cells, then the cells copied over it: what lies there, and that nothing old turned. -/
def cellsOf (n : Nat) (f : Nat → Value) : List Value := (List.range n).map f
theorem cellsOf_length (n : Nat) (f : Nat → Value) : (cellsOf n f).length = n := by simp [cellsOf]
theorem cellsOf_get (n : Nat) (f : Nat → Value) (j : Nat) (v : Value) (h : (cellsOf n f)[j]? = some v) : j < n ∧ v = f j := by
  simp only [cellsOf, List.getElem?_map] at h
  by_cases hj : j < n
  · rw [List.getElem?_range hj] at h
    simp at h
    exact ⟨hj, h.symm⟩
  · rw [List.getElem?_eq_none (by simp; omega)] at h
    simp at h

theorem lies_copied {w : World} {g n : Nat} {t : TypeId} {f : Nat → Value} {cur : List Value} (hc : cur.length = n) (h : w.heap[g]? = some (.cells (splice cur 0 (cellsOf n f)).toArray t (0, 0))) : Lies w (some ⟨g, 0, none⟩) n f := by
  intro i hi
  refine ⟨g, 0, rfl, ?_⟩
  have e : splice cur 0 (cellsOf n f) = cellsOf n f := by
    simp only [splice, List.take_zero, List.nil_append, Nat.zero_add, cellsOf_length]
    rw [List.drop_eq_nil_of_le (by omega)]
    simp
  rw [e] at h
  rw [Nat.zero_add]
  simp [World.cell?, h, cellsOf, hi]

theorem copy_src {w W1 : World} {sa : Addr} {n : Nat} {f : Nat → Value} (hs : Lies w (some sa) n f) (hb : Below w.heap.size w W1) : ∀ j v, (cellsOf n f)[j]? = some v → W1.cell? (sa.add j) = some v := by
  intro j v hv
  obtain ⟨hj, rfl⟩ := cellsOf_get n f j v hv
  obtain ⟨b, o, h1, h2⟩ := hs j hj
  obtain rfl := Option.some.inj h1
  rw [Addr.add_lit]
  exact cell_later hb h2
theorem one_bools (m : Nat) (bs : Nat → Bool) : ∀ v ∈ cellsOf m (fun i => .bool (bs i)), v.oneCell' = true := by
  intro v hv
  obtain ⟨_, _, rfl⟩ := List.mem_map.1 hv
  rfl
theorem one_strs (m : Nat) (ks : Nat → ByteArray) : ∀ v ∈ cellsOf m (fun i => .string (ks i)), v.oneCell' = true := by
  intro v hv
  obtain ⟨_, _, rfl⟩ := List.mem_map.1 hv
  rfl
theorem heap_new (w : World) (z : Value) (n : Nat) (t : TypeId) : (w.alloc (.cells (madeCells #[z] n) t)).heap[w.heap.size]? = some (.cells (madeCells #[z] n).toList.toArray t (0, 0)) := by
  rw [Array.toArray_toList]; exact heap_alloc_new w _
theorem made_len (z : Value) (n : Nat) : (madeCells #[z] n).toList.length = n := by rw [Array.length_toList, size_madeCells]

set_option maxHeartbeats 1000000 in
/-- Too great an input: the law gives true at once. -/
theorem law3_big (name : ByteArray) (sa ka : Option Addr) (m sc n kc : Nat) (ks : Nat → ByteArray) (w : World) (hnm : name.size ≤ maxLen) (hm : m ≤ maxLen) (hn : n ≤ maxLen)
    (hk : Lies w ka n fun i => .string (ks i)) (hsz : ∀ i, i < n → (ks i).size ≤ maxLen) (hsm : 65536 < n ∨ 65536 < m ∨ 1048576 < name.size) :
    Calls Eczg.prog 3 #[.string name, .slice sa m sc, .slice ka n kc] w fun r w' => r = .returned (.bool true) ∧ Below w.heap.size w w' := by
  unfold maxLen at hnm hm hn
  have hc : 65536 < n ∨ n ≤ 65536 ∧ 65536 < m ∨ n ≤ 65536 ∧ m ≤ 65536 ∧ 1048576 < name.size := by omega
  clear hsm
  rcases hc with h1 | ⟨h1, h2⟩ | ⟨h1, h2, h3⟩
  all_goals
    go_enter Eczg.func3, Eczg.ntmps3
    go_wp2_with fail
    refine (bytes5 name _ _ m sc n kc ks _ hnm hm hn hk hsz).mono ?_
    rintro e w1 ⟨⟨b, rfl⟩, hw⟩
    obtain rfl : w = w1 := hw.symm
    clear hw
    cases b
    all_goals
      go_wp2_with fail
      go_ret
      exact ⟨rfl, Below.refl _ _⟩

set_option maxHeartbeats 1000000 in
/-- The law at an input that is not too great: isSel is not nil, keys are not nil. -/
theorem law3_ss (name : ByteArray) (sa : Addr) (ka : Addr) (m sc n kc : Nat) (bs : Nat → Bool) (ks : Nat → ByteArray) (w : World) (h1 : n ≤ 65536) (h2 : m ≤ 65536) (h3 : name.size ≤ 1048576)
    (hs : Lies w (some sa) m fun i => .bool (bs i)) (hk : Lies w (some ka) n fun i => .string (ks i)) (hsz : ∀ i, i < n → (ks i).size ≤ maxLen) :
    Calls Eczg.prog 3 #[.string name, .slice (some sa) m sc, .slice (some ka) n kc] w fun r w' => r = .returned (.bool true) ∧ Below w.heap.size w w' := by
  have hnm : name.size ≤ 9223372036854775807 := by omega
  have hm : m ≤ 9223372036854775807 := by omega
  have hn : n ≤ 9223372036854775807 := by omega
  go_enter Eczg.func3, Eczg.ntmps3
  go_wp2_with fail
  refine (bytes5 name _ _ m sc n kc ks _ hnm hm hn hk hsz).mono ?_
  rintro e w1 ⟨⟨b, rfl⟩, hw⟩
  obtain rfl : w = w1 := hw.symm
  clear hw
  cases b
  · go_wp2_with fail
    go_ret
    exact ⟨rfl, Below.refl _ _⟩
  go_wp2_with fail
  refine (size6 name _ _ m sc n kc ks _ h1 hk).mono ?_
  rintro e w1 ⟨⟨z, rfl⟩, hw⟩
  obtain rfl : w = w1 := hw.symm
  clear hw
  by_cases hz : 1048576 < z
  · go_wp2_with fail
    go_ret
    exact ⟨rfl, Below.refl _ _⟩
  have hmk1 := run_make_row' (P := Eczg.prog) 22 4 (.bool false) 1 Eczg.underlying22 Eczg.info4 rfl .i64 .i64 m (by omega) (by omega)
  have hbA : Below w.heap.size w (w.alloc (.cells (madeCells #[.bool false] m) 4)) := (Below.refl _ _).alloc (Nat.le_refl _) _
  go_wp2_with (refine wpList_copy_splice rfl (.tmp 40) (.tmp 41) 22 22 rfl 4 Eczg.underlying22 Eczg.size4 _ _ _ _ _ _ rfl rfl w.heap.size 0 (madeCells #[.bool false] m).toList 4 ?c1 (cellsOf m fun i => .bool (bs i)) ?c2 ?c3 ?c4 ?c5 w.heap.size w hbA (Nat.le_refl _) ?_)
  case c1 => exact heap_new _ _ _ _
  case c2 => simp [cellsOf_length]
  case c3 => exact fun _ => copy_src hs hbA
  case c4 => rw [made_len, cellsOf_length]; omega
  case c5 => exact one_bools m bs
  intro w2 H2 hb2
  have L2 : Lies w2 (some ⟨w.heap.size, 0, none⟩) m fun i => .bool (bs i) := lies_copied (made_len _ _) H2.out
  clear H2 hbA hmk1
  have hmk2 := run_make_row' (P := Eczg.prog) 23 9 (.string ⟨#[]⟩) 16 Eczg.underlying23 Eczg.info9 rfl .i64 .i64 n (by omega) (by omega)
  have hbA : Below w2.heap.size w2 (w2.alloc (.cells (madeCells #[.string ⟨#[]⟩] n) 9)) := (Below.refl _ _).alloc (Nat.le_refl _) _
  have hk2 : Lies w2 (some ka) n fun i => .string (ks i) := hk.carry hb2
  go_wp2_with (refine wpList_copy_splice rfl (.tmp 49) (.tmp 50) 23 23 rfl 9 Eczg.underlying23 Eczg.size9 _ _ _ _ _ _ rfl rfl w2.heap.size 0 (madeCells #[.string ⟨#[]⟩] n).toList 9 ?c1 (cellsOf n fun i => .string (ks i)) ?c2 ?c3 ?c4 ?c5 w2.heap.size w2 hbA (Nat.le_refl _) ?_)
  case c1 => exact heap_new _ _ _ _
  case c2 => simp [cellsOf_length]
  case c3 => exact fun _ => copy_src hk2 hbA
  case c4 => rw [made_len, cellsOf_length]; omega
  case c5 => exact one_strs n ks
  intro w3 H3 hb3
  have L3 : Lies w3 (some ⟨w2.heap.size, 0, none⟩) n fun i => .string (ks i) := lies_copied (made_len _ _) H3.out
  have L2 := L2.carry hb3
  have hb03 : Below w.heap.size w w3 := hb2.trans (hb3.mono hb2.size)
  clear H3 hbA hk2 hb3 hmk2 hb2
  clear hs hk hsz
  go_wp2_with fail
  refine (chain_ident name _ _ m m n n bs ks _ h1 L2 L3).mono ?_
  rintro e w4 ⟨g, rfl, hrow, hg, hb4⟩
  have hb04 : Below w.heap.size w w4 := hb03.trans (hb4.mono hb03.size)
  have L4 := L3.carry hb4
  clear hb4 hb03 L3 L2
  go_wp2_with fail
  go_loopw [11] (fun i wr => ∃ k, k ≤ n ∧ i = .int .i64 (k : Nat) ∧ Below w4.heap.size w4 wr) (fun i _ => n - (intOf i).toNat)
  case atStart => exact ⟨0, Nat.zero_le _, rfl, Below.refl _ _⟩
  case round =>
    obtain ⟨k, hkn, rfl, hbr⟩ := hrel
    by_cases hlt : k < n
    · obtain ⟨kb, ko, hka, c1⟩ := L4 k hlt
      obtain ⟨rfl, rfl⟩ : kb = w2.heap.size ∧ ko = 0 := by simpa using hka.symm
      have d1 : wr.cell? ⟨w2.heap.size, k, none⟩ = some (.string (ks k)) := by simpa using cell_later hbr c1
      have d2 : wr.cell? ⟨g, k, none⟩ = some (.string (ks k)) := cell_later hbr (hrow.cell hlt)
      have hki : (k : Int) < (n : Int) := by omega
      clear hka c1
      go_wp2_with fail
      go_quiet (fail)
      go_wp2_with fail
      go_roundw
      case rel => exact ⟨k + 1, by omega, by go_num, below_drewN hbr _⟩
      case measure => simp [intOf]; omega
    · go_wp2_with fail
      go_ret
      exact ⟨rfl, hb04.trans (hbr.mono hb04.size)⟩

set_option maxHeartbeats 1000000 in
/-- The law at an input that is not too great: isSel is not nil, keys are nil. -/
theorem law3_sn (name : ByteArray) (sa : Addr) (m sc n : Nat) (bs : Nat → Bool) (ks : Nat → ByteArray) (w : World) (h1 : n ≤ 65536) (h2 : m ≤ 65536) (h3 : name.size ≤ 1048576)
    (hs : Lies w (some sa) m fun i => .bool (bs i)) (hk : Lies w none n fun i => .string (ks i)) (hsz : ∀ i, i < n → (ks i).size ≤ maxLen) :
    Calls Eczg.prog 3 #[.string name, .slice (some sa) m sc, .slice none n 0] w fun r w' => r = .returned (.bool true) ∧ Below w.heap.size w w' := by
  have hnm : name.size ≤ 9223372036854775807 := by omega
  have hm : m ≤ 9223372036854775807 := by omega
  have hn : n ≤ 9223372036854775807 := by omega
  go_enter Eczg.func3, Eczg.ntmps3
  go_wp2_with fail
  refine (bytes5 name _ _ m sc n 0 ks _ hnm hm hn hk hsz).mono ?_
  rintro e w1 ⟨⟨b, rfl⟩, hw⟩
  obtain rfl : w = w1 := hw.symm
  clear hw
  cases b
  · go_wp2_with fail
    go_ret
    exact ⟨rfl, Below.refl _ _⟩
  go_wp2_with fail
  refine (size6 name _ _ m sc n 0 ks _ h1 hk).mono ?_
  rintro e w1 ⟨⟨z, rfl⟩, hw⟩
  obtain rfl : w = w1 := hw.symm
  clear hw
  by_cases hz : 1048576 < z
  · go_wp2_with fail
    go_ret
    exact ⟨rfl, Below.refl _ _⟩
  have hmk1 := run_make_row' (P := Eczg.prog) 22 4 (.bool false) 1 Eczg.underlying22 Eczg.info4 rfl .i64 .i64 m (by omega) (by omega)
  have hbA : Below w.heap.size w (w.alloc (.cells (madeCells #[.bool false] m) 4)) := (Below.refl _ _).alloc (Nat.le_refl _) _
  go_wp2_with (refine wpList_copy_splice rfl (.tmp 40) (.tmp 41) 22 22 rfl 4 Eczg.underlying22 Eczg.size4 _ _ _ _ _ _ rfl rfl w.heap.size 0 (madeCells #[.bool false] m).toList 4 ?c1 (cellsOf m fun i => .bool (bs i)) ?c2 ?c3 ?c4 ?c5 w.heap.size w hbA (Nat.le_refl _) ?_)
  case c1 => exact heap_new _ _ _ _
  case c2 => simp [cellsOf_length]
  case c3 => exact fun _ => copy_src hs hbA
  case c4 => rw [made_len, cellsOf_length]; omega
  case c5 => exact one_bools m bs
  intro w2 H2 hb2
  have L2 : Lies w2 (some ⟨w.heap.size, 0, none⟩) m fun i => .bool (bs i) := lies_copied (made_len _ _) H2.out
  clear H2 hbA hmk1
  have L3 : Lies w2 none n fun i => .string (ks i) := hk.carry hb2
  have hb03 : Below w.heap.size w w2 := hb2
  clear hb2
  clear hs hk hsz
  go_wp2_with fail
  refine (chain_ident name _ _ m m n 0 bs ks _ h1 L2 L3).mono ?_
  rintro e w4 ⟨g, rfl, hrow, hg, hb4⟩
  have hb04 : Below w.heap.size w w4 := hb03.trans (hb4.mono hb03.size)
  have L4 := L3.carry hb4
  clear hb4 hb03 L3 L2
  go_wp2_with fail
  go_loopw [11] (fun i wr => ∃ k, k ≤ n ∧ i = .int .i64 (k : Nat) ∧ Below w4.heap.size w4 wr) (fun i _ => n - (intOf i).toNat)
  case atStart => exact ⟨0, Nat.zero_le _, rfl, Below.refl _ _⟩
  case round =>
    obtain ⟨k, hkn, rfl, hbr⟩ := hrel
    by_cases hlt : k < n
    · obtain ⟨kb, ko, hka, c1⟩ := L4 k hlt
      exact absurd hka (by simp)
    · go_wp2_with fail
      go_ret
      exact ⟨rfl, hb04.trans (hbr.mono hb04.size)⟩

set_option maxHeartbeats 1000000 in
/-- The law at an input that is not too great: isSel is nil, keys are not nil. -/
theorem law3_ns (name : ByteArray) (ka : Addr) (m n kc : Nat) (bs : Nat → Bool) (ks : Nat → ByteArray) (w : World) (h1 : n ≤ 65536) (h2 : m ≤ 65536) (h3 : name.size ≤ 1048576)
    (hs : Lies w none m fun i => .bool (bs i)) (hk : Lies w (some ka) n fun i => .string (ks i)) (hsz : ∀ i, i < n → (ks i).size ≤ maxLen) :
    Calls Eczg.prog 3 #[.string name, .slice none m 0, .slice (some ka) n kc] w fun r w' => r = .returned (.bool true) ∧ Below w.heap.size w w' := by
  have hnm : name.size ≤ 9223372036854775807 := by omega
  have hm : m ≤ 9223372036854775807 := by omega
  have hn : n ≤ 9223372036854775807 := by omega
  go_enter Eczg.func3, Eczg.ntmps3
  go_wp2_with fail
  refine (bytes5 name _ _ m 0 n kc ks _ hnm hm hn hk hsz).mono ?_
  rintro e w1 ⟨⟨b, rfl⟩, hw⟩
  obtain rfl : w = w1 := hw.symm
  clear hw
  cases b
  · go_wp2_with fail
    go_ret
    exact ⟨rfl, Below.refl _ _⟩
  go_wp2_with fail
  refine (size6 name _ _ m 0 n kc ks _ h1 hk).mono ?_
  rintro e w1 ⟨⟨z, rfl⟩, hw⟩
  obtain rfl : w = w1 := hw.symm
  clear hw
  by_cases hz : 1048576 < z
  · go_wp2_with fail
    go_ret
    exact ⟨rfl, Below.refl _ _⟩
  obtain ⟨w2, hw2⟩ : ∃ w2, w2 = w := ⟨_, rfl⟩
  have hb2 : Below w.heap.size w w2 := by rw [hw2]; exact Below.refl _ _
  have L2 : Lies w2 none m fun i => .bool (bs i) := by rw [hw2]; exact hs
  rw [← hw2]
  clear hw2
  have hmk2 := run_make_row' (P := Eczg.prog) 23 9 (.string ⟨#[]⟩) 16 Eczg.underlying23 Eczg.info9 rfl .i64 .i64 n (by omega) (by omega)
  have hbA : Below w2.heap.size w2 (w2.alloc (.cells (madeCells #[.string ⟨#[]⟩] n) 9)) := (Below.refl _ _).alloc (Nat.le_refl _) _
  have hk2 : Lies w2 (some ka) n fun i => .string (ks i) := hk.carry hb2
  go_wp2_with (refine wpList_copy_splice rfl (.tmp 49) (.tmp 50) 23 23 rfl 9 Eczg.underlying23 Eczg.size9 _ _ _ _ _ _ rfl rfl w2.heap.size 0 (madeCells #[.string ⟨#[]⟩] n).toList 9 ?c1 (cellsOf n fun i => .string (ks i)) ?c2 ?c3 ?c4 ?c5 w2.heap.size w2 hbA (Nat.le_refl _) ?_)
  case c1 => exact heap_new _ _ _ _
  case c2 => simp [cellsOf_length]
  case c3 => exact fun _ => copy_src hk2 hbA
  case c4 => rw [made_len, cellsOf_length]; omega
  case c5 => exact one_strs n ks
  intro w3 H3 hb3
  have L3 : Lies w3 (some ⟨w2.heap.size, 0, none⟩) n fun i => .string (ks i) := lies_copied (made_len _ _) H3.out
  have L2 := L2.carry hb3
  have hb03 : Below w.heap.size w w3 := hb2.trans (hb3.mono hb2.size)
  clear H3 hbA hk2 hb3 hmk2 hb2
  clear hs hk hsz
  go_wp2_with fail
  refine (chain_ident name _ _ m 0 n n bs ks _ h1 L2 L3).mono ?_
  rintro e w4 ⟨g, rfl, hrow, hg, hb4⟩
  have hb04 : Below w.heap.size w w4 := hb03.trans (hb4.mono hb03.size)
  have L4 := L3.carry hb4
  clear hb4 hb03 L3 L2
  go_wp2_with fail
  go_loopw [11] (fun i wr => ∃ k, k ≤ n ∧ i = .int .i64 (k : Nat) ∧ Below w4.heap.size w4 wr) (fun i _ => n - (intOf i).toNat)
  case atStart => exact ⟨0, Nat.zero_le _, rfl, Below.refl _ _⟩
  case round =>
    obtain ⟨k, hkn, rfl, hbr⟩ := hrel
    by_cases hlt : k < n
    · obtain ⟨kb, ko, hka, c1⟩ := L4 k hlt
      obtain ⟨rfl, rfl⟩ : kb = w2.heap.size ∧ ko = 0 := by simpa using hka.symm
      have d1 : wr.cell? ⟨w2.heap.size, k, none⟩ = some (.string (ks k)) := by simpa using cell_later hbr c1
      have d2 : wr.cell? ⟨g, k, none⟩ = some (.string (ks k)) := cell_later hbr (hrow.cell hlt)
      have hki : (k : Int) < (n : Int) := by omega
      clear hka c1
      go_wp2_with fail
      go_quiet (fail)
      go_wp2_with fail
      go_roundw
      case rel => exact ⟨k + 1, by omega, by go_num, below_drewN hbr _⟩
      case measure => simp [intOf]; omega
    · go_wp2_with fail
      go_ret
      exact ⟨rfl, hb04.trans (hbr.mono hb04.size)⟩

set_option maxHeartbeats 1000000 in
/-- The law at an input that is not too great: isSel is nil, keys are nil. -/
theorem law3_nn (name : ByteArray) (m n : Nat) (bs : Nat → Bool) (ks : Nat → ByteArray) (w : World) (h1 : n ≤ 65536) (h2 : m ≤ 65536) (h3 : name.size ≤ 1048576)
    (hs : Lies w none m fun i => .bool (bs i)) (hk : Lies w none n fun i => .string (ks i)) (hsz : ∀ i, i < n → (ks i).size ≤ maxLen) :
    Calls Eczg.prog 3 #[.string name, .slice none m 0, .slice none n 0] w fun r w' => r = .returned (.bool true) ∧ Below w.heap.size w w' := by
  have hnm : name.size ≤ 9223372036854775807 := by omega
  have hm : m ≤ 9223372036854775807 := by omega
  have hn : n ≤ 9223372036854775807 := by omega
  go_enter Eczg.func3, Eczg.ntmps3
  go_wp2_with fail
  refine (bytes5 name _ _ m 0 n 0 ks _ hnm hm hn hk hsz).mono ?_
  rintro e w1 ⟨⟨b, rfl⟩, hw⟩
  obtain rfl : w = w1 := hw.symm
  clear hw
  cases b
  · go_wp2_with fail
    go_ret
    exact ⟨rfl, Below.refl _ _⟩
  go_wp2_with fail
  refine (size6 name _ _ m 0 n 0 ks _ h1 hk).mono ?_
  rintro e w1 ⟨⟨z, rfl⟩, hw⟩
  obtain rfl : w = w1 := hw.symm
  clear hw
  by_cases hz : 1048576 < z
  · go_wp2_with fail
    go_ret
    exact ⟨rfl, Below.refl _ _⟩
  obtain ⟨w2, hw2⟩ : ∃ w2, w2 = w := ⟨_, rfl⟩
  have hb2 : Below w.heap.size w w2 := by rw [hw2]; exact Below.refl _ _
  have L2 : Lies w2 none m fun i => .bool (bs i) := by rw [hw2]; exact hs
  rw [← hw2]
  clear hw2
  have L3 : Lies w2 none n fun i => .string (ks i) := hk.carry hb2
  have hb03 : Below w.heap.size w w2 := hb2
  clear hb2
  clear hs hk hsz
  go_wp2_with fail
  refine (chain_ident name _ _ m 0 n 0 bs ks _ h1 L2 L3).mono ?_
  rintro e w4 ⟨g, rfl, hrow, hg, hb4⟩
  have hb04 : Below w.heap.size w w4 := hb03.trans (hb4.mono hb03.size)
  have L4 := L3.carry hb4
  clear hb4 hb03 L3 L2
  go_wp2_with fail
  go_loopw [11] (fun i wr => ∃ k, k ≤ n ∧ i = .int .i64 (k : Nat) ∧ Below w4.heap.size w4 wr) (fun i _ => n - (intOf i).toNat)
  case atStart => exact ⟨0, Nat.zero_le _, rfl, Below.refl _ _⟩
  case round =>
    obtain ⟨k, hkn, rfl, hbr⟩ := hrel
    by_cases hlt : k < n
    · obtain ⟨kb, ko, hka, c1⟩ := L4 k hlt
      exact absurd hka (by simp)
    · go_wp2_with fail
      go_ret
      exact ⟨rfl, hb04.trans (hbr.mono hb04.size)⟩

set_option maxHeartbeats 1000000 in
/-- Too great an input: the law gives true at once. -/
theorem law4_big (name : ByteArray) (sa ka : Option Addr) (m sc n kc : Nat) (ks : Nat → ByteArray) (w : World) (hnm : name.size ≤ maxLen) (hm : m ≤ maxLen) (hn : n ≤ maxLen)
    (hk : Lies w ka n fun i => .string (ks i)) (hsz : ∀ i, i < n → (ks i).size ≤ maxLen) (hsm : 65536 < n ∨ 65536 < m ∨ 1048576 < name.size) :
    Calls Eczg.prog 4 #[.string name, .slice sa m sc, .slice ka n kc] w fun r w' => r = .returned (.bool true) ∧ Below w.heap.size w w' := by
  unfold maxLen at hnm hm hn
  have hc : 65536 < n ∨ n ≤ 65536 ∧ 65536 < m ∨ n ≤ 65536 ∧ m ≤ 65536 ∧ 1048576 < name.size := by omega
  clear hsm
  rcases hc with h1 | ⟨h1, h2⟩ | ⟨h1, h2, h3⟩
  all_goals
    go_enter Eczg.func4, Eczg.ntmps4
    go_wp2_with fail
    refine (bytes8 name _ _ m sc n kc ks _ hnm hm hn hk hsz).mono ?_
    rintro e w1 ⟨⟨b, rfl⟩, hw⟩
    obtain rfl : w = w1 := hw.symm
    clear hw
    cases b
    all_goals
      go_wp2_with fail
      go_ret
      exact ⟨rfl, Below.refl _ _⟩

set_option maxHeartbeats 1000000 in
/-- The law at an input that is not too great: isSel is not nil, keys are not nil. -/
theorem law4_ss (name : ByteArray) (sa : Addr) (ka : Addr) (m sc n kc : Nat) (bs : Nat → Bool) (ks : Nat → ByteArray) (w : World) (h1 : n ≤ 65536) (h2 : m ≤ 65536) (h3 : name.size ≤ 1048576)
    (hs : Lies w (some sa) m fun i => .bool (bs i)) (hk : Lies w (some ka) n fun i => .string (ks i)) (hsz : ∀ i, i < n → (ks i).size ≤ maxLen) :
    Calls Eczg.prog 4 #[.string name, .slice (some sa) m sc, .slice (some ka) n kc] w fun r w' => r = .returned (.bool true) ∧ Below w.heap.size w w' := by
  have hnm : name.size ≤ 9223372036854775807 := by omega
  have hm : m ≤ 9223372036854775807 := by omega
  have hn : n ≤ 9223372036854775807 := by omega
  go_enter Eczg.func4, Eczg.ntmps4
  go_wp2_with fail
  refine (bytes8 name _ _ m sc n kc ks _ hnm hm hn hk hsz).mono ?_
  rintro e w1 ⟨⟨b, rfl⟩, hw⟩
  obtain rfl : w = w1 := hw.symm
  clear hw
  cases b
  · go_wp2_with fail
    go_ret
    exact ⟨rfl, Below.refl _ _⟩
  go_wp2_with fail
  refine (size6 name _ _ m sc n kc ks _ h1 hk).mono ?_
  rintro e w1 ⟨⟨z, rfl⟩, hw⟩
  obtain rfl : w = w1 := hw.symm
  clear hw
  by_cases hz : 1048576 < z
  · go_wp2_with fail
    go_ret
    exact ⟨rfl, Below.refl _ _⟩
  have hmk1 := run_make_row' (P := Eczg.prog) 22 4 (.bool false) 1 Eczg.underlying22 Eczg.info4 rfl .i64 .i64 m (by omega) (by omega)
  have hbA : Below w.heap.size w (w.alloc (.cells (madeCells #[.bool false] m) 4)) := (Below.refl _ _).alloc (Nat.le_refl _) _
  go_wp2_with (refine wpList_copy_splice rfl (.tmp 40) (.tmp 41) 22 22 rfl 4 Eczg.underlying22 Eczg.size4 _ _ _ _ _ _ rfl rfl w.heap.size 0 (madeCells #[.bool false] m).toList 4 ?c1 (cellsOf m fun i => .bool (bs i)) ?c2 ?c3 ?c4 ?c5 w.heap.size w hbA (Nat.le_refl _) ?_)
  case c1 => exact heap_new _ _ _ _
  case c2 => simp [cellsOf_length]
  case c3 => exact fun _ => copy_src hs hbA
  case c4 => rw [made_len, cellsOf_length]; omega
  case c5 => exact one_bools m bs
  intro w2 H2 hb2
  have L2 : Lies w2 (some ⟨w.heap.size, 0, none⟩) m fun i => .bool (bs i) := lies_copied (made_len _ _) H2.out
  clear H2 hbA hmk1
  have hmk2 := run_make_row' (P := Eczg.prog) 23 9 (.string ⟨#[]⟩) 16 Eczg.underlying23 Eczg.info9 rfl .i64 .i64 n (by omega) (by omega)
  have hbA : Below w2.heap.size w2 (w2.alloc (.cells (madeCells #[.string ⟨#[]⟩] n) 9)) := (Below.refl _ _).alloc (Nat.le_refl _) _
  have hk2 : Lies w2 (some ka) n fun i => .string (ks i) := hk.carry hb2
  go_wp2_with (refine wpList_copy_splice rfl (.tmp 49) (.tmp 50) 23 23 rfl 9 Eczg.underlying23 Eczg.size9 _ _ _ _ _ _ rfl rfl w2.heap.size 0 (madeCells #[.string ⟨#[]⟩] n).toList 9 ?c1 (cellsOf n fun i => .string (ks i)) ?c2 ?c3 ?c4 ?c5 w2.heap.size w2 hbA (Nat.le_refl _) ?_)
  case c1 => exact heap_new _ _ _ _
  case c2 => simp [cellsOf_length]
  case c3 => exact fun _ => copy_src hk2 hbA
  case c4 => rw [made_len, cellsOf_length]; omega
  case c5 => exact one_strs n ks
  intro w3 H3 hb3
  have L3 : Lies w3 (some ⟨w2.heap.size, 0, none⟩) n fun i => .string (ks i) := lies_copied (made_len _ _) H3.out
  have L2 := L2.carry hb3
  have hb03 : Below w.heap.size w w3 := hb2.trans (hb3.mono hb2.size)
  clear H3 hbA hk2 hb3 hmk2 hb2
  clear hs hk hsz
  go_wp2_with fail
  refine (chain_lit name _ _ m m n n bs ks _ h1 L2 L3).mono ?_
  rintro e w4 ⟨g, rfl, hrow, hg, hb4⟩
  have hb04 : Below w.heap.size w w4 := hb03.trans (hb4.mono hb03.size)
  have L4 := L3.carry hb4
  clear hb4 hb03 L3 L2
  go_wp2_with fail
  go_loopw [11] (fun i wr => ∃ k, k ≤ n ∧ i = .int .i64 (k : Nat) ∧ Below w4.heap.size w4 wr) (fun i _ => n - (intOf i).toNat)
  case atStart => exact ⟨0, Nat.zero_le _, rfl, Below.refl _ _⟩
  case round =>
    obtain ⟨k, hkn, rfl, hbr⟩ := hrel
    by_cases hlt : k < n
    · obtain ⟨kb, ko, hka, c1⟩ := L4 k hlt
      obtain ⟨rfl, rfl⟩ : kb = w2.heap.size ∧ ko = 0 := by simpa using hka.symm
      have d1 : wr.cell? ⟨w2.heap.size, k, none⟩ = some (.string (ks k)) := by simpa using cell_later hbr c1
      have d2 : wr.cell? ⟨g, k, none⟩ = some (.string (ks k)) := cell_later hbr (hrow.cell hlt)
      have hki : (k : Int) < (n : Int) := by omega
      clear hka c1
      go_wp2_with fail
      go_quiet (fail)
      go_wp2_with fail
      go_roundw
      case rel => exact ⟨k + 1, by omega, by go_num, below_drewN hbr _⟩
      case measure => simp [intOf]; omega
    · go_wp2_with fail
      go_ret
      exact ⟨rfl, hb04.trans (hbr.mono hb04.size)⟩

set_option maxHeartbeats 1000000 in
/-- The law at an input that is not too great: isSel is not nil, keys are nil. -/
theorem law4_sn (name : ByteArray) (sa : Addr) (m sc n : Nat) (bs : Nat → Bool) (ks : Nat → ByteArray) (w : World) (h1 : n ≤ 65536) (h2 : m ≤ 65536) (h3 : name.size ≤ 1048576)
    (hs : Lies w (some sa) m fun i => .bool (bs i)) (hk : Lies w none n fun i => .string (ks i)) (hsz : ∀ i, i < n → (ks i).size ≤ maxLen) :
    Calls Eczg.prog 4 #[.string name, .slice (some sa) m sc, .slice none n 0] w fun r w' => r = .returned (.bool true) ∧ Below w.heap.size w w' := by
  have hnm : name.size ≤ 9223372036854775807 := by omega
  have hm : m ≤ 9223372036854775807 := by omega
  have hn : n ≤ 9223372036854775807 := by omega
  go_enter Eczg.func4, Eczg.ntmps4
  go_wp2_with fail
  refine (bytes8 name _ _ m sc n 0 ks _ hnm hm hn hk hsz).mono ?_
  rintro e w1 ⟨⟨b, rfl⟩, hw⟩
  obtain rfl : w = w1 := hw.symm
  clear hw
  cases b
  · go_wp2_with fail
    go_ret
    exact ⟨rfl, Below.refl _ _⟩
  go_wp2_with fail
  refine (size6 name _ _ m sc n 0 ks _ h1 hk).mono ?_
  rintro e w1 ⟨⟨z, rfl⟩, hw⟩
  obtain rfl : w = w1 := hw.symm
  clear hw
  by_cases hz : 1048576 < z
  · go_wp2_with fail
    go_ret
    exact ⟨rfl, Below.refl _ _⟩
  have hmk1 := run_make_row' (P := Eczg.prog) 22 4 (.bool false) 1 Eczg.underlying22 Eczg.info4 rfl .i64 .i64 m (by omega) (by omega)
  have hbA : Below w.heap.size w (w.alloc (.cells (madeCells #[.bool false] m) 4)) := (Below.refl _ _).alloc (Nat.le_refl _) _
  go_wp2_with (refine wpList_copy_splice rfl (.tmp 40) (.tmp 41) 22 22 rfl 4 Eczg.underlying22 Eczg.size4 _ _ _ _ _ _ rfl rfl w.heap.size 0 (madeCells #[.bool false] m).toList 4 ?c1 (cellsOf m fun i => .bool (bs i)) ?c2 ?c3 ?c4 ?c5 w.heap.size w hbA (Nat.le_refl _) ?_)
  case c1 => exact heap_new _ _ _ _
  case c2 => simp [cellsOf_length]
  case c3 => exact fun _ => copy_src hs hbA
  case c4 => rw [made_len, cellsOf_length]; omega
  case c5 => exact one_bools m bs
  intro w2 H2 hb2
  have L2 : Lies w2 (some ⟨w.heap.size, 0, none⟩) m fun i => .bool (bs i) := lies_copied (made_len _ _) H2.out
  clear H2 hbA hmk1
  have L3 : Lies w2 none n fun i => .string (ks i) := hk.carry hb2
  have hb03 : Below w.heap.size w w2 := hb2
  clear hb2
  clear hs hk hsz
  go_wp2_with fail
  refine (chain_lit name _ _ m m n 0 bs ks _ h1 L2 L3).mono ?_
  rintro e w4 ⟨g, rfl, hrow, hg, hb4⟩
  have hb04 : Below w.heap.size w w4 := hb03.trans (hb4.mono hb03.size)
  have L4 := L3.carry hb4
  clear hb4 hb03 L3 L2
  go_wp2_with fail
  go_loopw [11] (fun i wr => ∃ k, k ≤ n ∧ i = .int .i64 (k : Nat) ∧ Below w4.heap.size w4 wr) (fun i _ => n - (intOf i).toNat)
  case atStart => exact ⟨0, Nat.zero_le _, rfl, Below.refl _ _⟩
  case round =>
    obtain ⟨k, hkn, rfl, hbr⟩ := hrel
    by_cases hlt : k < n
    · obtain ⟨kb, ko, hka, c1⟩ := L4 k hlt
      exact absurd hka (by simp)
    · go_wp2_with fail
      go_ret
      exact ⟨rfl, hb04.trans (hbr.mono hb04.size)⟩

set_option maxHeartbeats 1000000 in
/-- The law at an input that is not too great: isSel is nil, keys are not nil. -/
theorem law4_ns (name : ByteArray) (ka : Addr) (m n kc : Nat) (bs : Nat → Bool) (ks : Nat → ByteArray) (w : World) (h1 : n ≤ 65536) (h2 : m ≤ 65536) (h3 : name.size ≤ 1048576)
    (hs : Lies w none m fun i => .bool (bs i)) (hk : Lies w (some ka) n fun i => .string (ks i)) (hsz : ∀ i, i < n → (ks i).size ≤ maxLen) :
    Calls Eczg.prog 4 #[.string name, .slice none m 0, .slice (some ka) n kc] w fun r w' => r = .returned (.bool true) ∧ Below w.heap.size w w' := by
  have hnm : name.size ≤ 9223372036854775807 := by omega
  have hm : m ≤ 9223372036854775807 := by omega
  have hn : n ≤ 9223372036854775807 := by omega
  go_enter Eczg.func4, Eczg.ntmps4
  go_wp2_with fail
  refine (bytes8 name _ _ m 0 n kc ks _ hnm hm hn hk hsz).mono ?_
  rintro e w1 ⟨⟨b, rfl⟩, hw⟩
  obtain rfl : w = w1 := hw.symm
  clear hw
  cases b
  · go_wp2_with fail
    go_ret
    exact ⟨rfl, Below.refl _ _⟩
  go_wp2_with fail
  refine (size6 name _ _ m 0 n kc ks _ h1 hk).mono ?_
  rintro e w1 ⟨⟨z, rfl⟩, hw⟩
  obtain rfl : w = w1 := hw.symm
  clear hw
  by_cases hz : 1048576 < z
  · go_wp2_with fail
    go_ret
    exact ⟨rfl, Below.refl _ _⟩
  obtain ⟨w2, hw2⟩ : ∃ w2, w2 = w := ⟨_, rfl⟩
  have hb2 : Below w.heap.size w w2 := by rw [hw2]; exact Below.refl _ _
  have L2 : Lies w2 none m fun i => .bool (bs i) := by rw [hw2]; exact hs
  rw [← hw2]
  clear hw2
  have hmk2 := run_make_row' (P := Eczg.prog) 23 9 (.string ⟨#[]⟩) 16 Eczg.underlying23 Eczg.info9 rfl .i64 .i64 n (by omega) (by omega)
  have hbA : Below w2.heap.size w2 (w2.alloc (.cells (madeCells #[.string ⟨#[]⟩] n) 9)) := (Below.refl _ _).alloc (Nat.le_refl _) _
  have hk2 : Lies w2 (some ka) n fun i => .string (ks i) := hk.carry hb2
  go_wp2_with (refine wpList_copy_splice rfl (.tmp 49) (.tmp 50) 23 23 rfl 9 Eczg.underlying23 Eczg.size9 _ _ _ _ _ _ rfl rfl w2.heap.size 0 (madeCells #[.string ⟨#[]⟩] n).toList 9 ?c1 (cellsOf n fun i => .string (ks i)) ?c2 ?c3 ?c4 ?c5 w2.heap.size w2 hbA (Nat.le_refl _) ?_)
  case c1 => exact heap_new _ _ _ _
  case c2 => simp [cellsOf_length]
  case c3 => exact fun _ => copy_src hk2 hbA
  case c4 => rw [made_len, cellsOf_length]; omega
  case c5 => exact one_strs n ks
  intro w3 H3 hb3
  have L3 : Lies w3 (some ⟨w2.heap.size, 0, none⟩) n fun i => .string (ks i) := lies_copied (made_len _ _) H3.out
  have L2 := L2.carry hb3
  have hb03 : Below w.heap.size w w3 := hb2.trans (hb3.mono hb2.size)
  clear H3 hbA hk2 hb3 hmk2 hb2
  clear hs hk hsz
  go_wp2_with fail
  refine (chain_lit name _ _ m 0 n n bs ks _ h1 L2 L3).mono ?_
  rintro e w4 ⟨g, rfl, hrow, hg, hb4⟩
  have hb04 : Below w.heap.size w w4 := hb03.trans (hb4.mono hb03.size)
  have L4 := L3.carry hb4
  clear hb4 hb03 L3 L2
  go_wp2_with fail
  go_loopw [11] (fun i wr => ∃ k, k ≤ n ∧ i = .int .i64 (k : Nat) ∧ Below w4.heap.size w4 wr) (fun i _ => n - (intOf i).toNat)
  case atStart => exact ⟨0, Nat.zero_le _, rfl, Below.refl _ _⟩
  case round =>
    obtain ⟨k, hkn, rfl, hbr⟩ := hrel
    by_cases hlt : k < n
    · obtain ⟨kb, ko, hka, c1⟩ := L4 k hlt
      obtain ⟨rfl, rfl⟩ : kb = w2.heap.size ∧ ko = 0 := by simpa using hka.symm
      have d1 : wr.cell? ⟨w2.heap.size, k, none⟩ = some (.string (ks k)) := by simpa using cell_later hbr c1
      have d2 : wr.cell? ⟨g, k, none⟩ = some (.string (ks k)) := cell_later hbr (hrow.cell hlt)
      have hki : (k : Int) < (n : Int) := by omega
      clear hka c1
      go_wp2_with fail
      go_quiet (fail)
      go_wp2_with fail
      go_roundw
      case rel => exact ⟨k + 1, by omega, by go_num, below_drewN hbr _⟩
      case measure => simp [intOf]; omega
    · go_wp2_with fail
      go_ret
      exact ⟨rfl, hb04.trans (hbr.mono hb04.size)⟩

set_option maxHeartbeats 1000000 in
/-- The law at an input that is not too great: isSel is nil, keys are nil. -/
theorem law4_nn (name : ByteArray) (m n : Nat) (bs : Nat → Bool) (ks : Nat → ByteArray) (w : World) (h1 : n ≤ 65536) (h2 : m ≤ 65536) (h3 : name.size ≤ 1048576)
    (hs : Lies w none m fun i => .bool (bs i)) (hk : Lies w none n fun i => .string (ks i)) (hsz : ∀ i, i < n → (ks i).size ≤ maxLen) :
    Calls Eczg.prog 4 #[.string name, .slice none m 0, .slice none n 0] w fun r w' => r = .returned (.bool true) ∧ Below w.heap.size w w' := by
  have hnm : name.size ≤ 9223372036854775807 := by omega
  have hm : m ≤ 9223372036854775807 := by omega
  have hn : n ≤ 9223372036854775807 := by omega
  go_enter Eczg.func4, Eczg.ntmps4
  go_wp2_with fail
  refine (bytes8 name _ _ m 0 n 0 ks _ hnm hm hn hk hsz).mono ?_
  rintro e w1 ⟨⟨b, rfl⟩, hw⟩
  obtain rfl : w = w1 := hw.symm
  clear hw
  cases b
  · go_wp2_with fail
    go_ret
    exact ⟨rfl, Below.refl _ _⟩
  go_wp2_with fail
  refine (size6 name _ _ m 0 n 0 ks _ h1 hk).mono ?_
  rintro e w1 ⟨⟨z, rfl⟩, hw⟩
  obtain rfl : w = w1 := hw.symm
  clear hw
  by_cases hz : 1048576 < z
  · go_wp2_with fail
    go_ret
    exact ⟨rfl, Below.refl _ _⟩
  obtain ⟨w2, hw2⟩ : ∃ w2, w2 = w := ⟨_, rfl⟩
  have hb2 : Below w.heap.size w w2 := by rw [hw2]; exact Below.refl _ _
  have L2 : Lies w2 none m fun i => .bool (bs i) := by rw [hw2]; exact hs
  rw [← hw2]
  clear hw2
  have L3 : Lies w2 none n fun i => .string (ks i) := hk.carry hb2
  have hb03 : Below w.heap.size w w2 := hb2
  clear hb2
  clear hs hk hsz
  go_wp2_with fail
  refine (chain_lit name _ _ m 0 n 0 bs ks _ h1 L2 L3).mono ?_
  rintro e w4 ⟨g, rfl, hrow, hg, hb4⟩
  have hb04 : Below w.heap.size w w4 := hb03.trans (hb4.mono hb03.size)
  have L4 := L3.carry hb4
  clear hb4 hb03 L3 L2
  go_wp2_with fail
  go_loopw [11] (fun i wr => ∃ k, k ≤ n ∧ i = .int .i64 (k : Nat) ∧ Below w4.heap.size w4 wr) (fun i _ => n - (intOf i).toNat)
  case atStart => exact ⟨0, Nat.zero_le _, rfl, Below.refl _ _⟩
  case round =>
    obtain ⟨k, hkn, rfl, hbr⟩ := hrel
    by_cases hlt : k < n
    · obtain ⟨kb, ko, hka, c1⟩ := L4 k hlt
      exact absurd hka (by simp)
    · go_wp2_with fail
      go_ret
      exact ⟨rfl, hb04.trans (hbr.mono hb04.size)⟩

#print axioms law3_ss
#print axioms law4_nn
end Go.Proofs.Yoeczw
