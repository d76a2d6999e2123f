/-
  Seat oeczD: plain mathematics of the instruction code: no Go in sight.
-/
namespace Go.Proofs.YoeczwDoor

/-- The widths of each opcode's operands. -/
def tabL : List (List Nat) := [[2], [], [], [], [], [], [], [], [], [4], [4], [4], [4], [], [2], [2], [], [], [], [], [1, 1], [1], [2], [2], [2, 1], [1], [1], [1], [1, 1], [1], [1], [1], [1], [1, 1], [1], [2, 1], [], [], [], [], [1], []]
def wids (c : Nat) : List Nat := tabL.getD c []
/-- Width k of a list of widths; where its operand begins. -/
def wAt (ws : List Nat) (k : Nat) : Nat := ws.getD k 0
def off (ws : List Nat) (k : Nat) : Nat := (ws.take k).sum
/-- An instruction's bytes, the opcode's with them. -/
def isz (c : Nat) : Nat := 1 + (wids c).sum
/-- A list of widths as the table has them. -/
def Good (ws : List Nat) : Prop := ws.length ≤ 2 ∧ ws.sum ≤ 4 ∧ ∀ k, k < ws.length → wAt ws k = 1 ∨ wAt ws k = 2 ∨ wAt ws k = 4

theorem good_of : ∀ c, c < 42 → (wids c).length ≤ 2 ∧ (wids c).sum ≤ 4 ∧ ∀ k, k < (wids c).length → wAt (wids c) k = 1 ∨ wAt (wids c) k = 2 ∨ wAt (wids c) k = 4 := by decide
theorem wids_good (c : Nat) (h : c < 42) : Good (wids c) := good_of c h

theorem off_zero (ws : List Nat) : off ws 0 = 0 := by simp [off]
theorem off_succ (ws : List Nat) (k : Nat) (h : k < ws.length) : off ws (k + 1) = off ws k + wAt ws k := by
  unfold off wAt
  rw [List.take_succ_eq_append_getElem h, List.sum_append, List.getD_eq_getElem?_getD, List.getElem?_eq_getElem h]
  simp
theorem off_all (ws : List Nat) : off ws ws.length = ws.sum := by simp [off]
theorem off_mono (ws : List Nat) (k : Nat) : off ws k ≤ ws.sum := by
  have h : ws.sum = (ws.take k).sum + (ws.drop k).sum := by rw [← List.sum_append, List.take_append_drop]
  unfold off
  omega

/-- An operand of width wd, decoded from the bytes f at o, the great end first. -/
def dcd (wd : Nat) (f : Nat → Int) (o : Nat) : Int :=
  if wd = 1 then f o else if wd = 2 then f o * 256 + f (o + 1) else f o * 16777216 + f (o + 1) * 65536 + f (o + 2) * 256 + f (o + 3)
/-- Operand k of an instruction whose payload is f. -/
def opAt (ws : List Nat) (f : Nat → Int) (k : Nat) : Int := dcd (wAt ws k) f (off ws k)

/-! ### A run of instructions -/

/-- Where instruction i begins; the length of all. -/
def st (cs : List Nat) (i : Nat) : Nat := ((cs.take i).map isz).sum
def tot (cs : List Nat) : Nat := (cs.map isz).sum
/-- Opcode i. -/
def cAt (cs : List Nat) (i : Nat) : Nat := cs.getD i 0
/-- Byte j. -/
def bAt (bs : List Int) (j : Nat) : Int := bs.getD j 0

/-- bs ARE THE BYTES OF INSTRUCTIONS WITH THE OPCODES cs, whatever their operands' bytes. -/
structure Laid (cs : List Nat) (bs : List Int) : Prop where
  len : bs.length = tot cs
  code : ∀ i, i < cs.length → bAt bs (st cs i) = (cAt cs i : Nat)
  small : ∀ i, i < cs.length → cAt cs i < 42
  byte : ∀ j, 0 ≤ bAt bs j ∧ bAt bs j ≤ 255

theorem st_all (cs : List Nat) : st cs cs.length = tot cs := by simp [st, tot]
theorem st_zero (cs : List Nat) : st cs 0 = 0 := by simp [st]
theorem st_succ (cs : List Nat) (i : Nat) (h : i < cs.length) : st cs (i + 1) = st cs i + isz (cAt cs i) := by
  unfold st cAt
  rw [List.take_succ_eq_append_getElem h, List.map_append, List.sum_append, List.getD_eq_getElem?_getD, List.getElem?_eq_getElem h]
  simp
theorem tot_split (cs : List Nat) (i : Nat) : tot cs = st cs i + ((cs.drop i).map isz).sum := by
  unfold st tot
  rw [← List.sum_append, ← List.map_append, List.take_append_drop]
theorem st_le (cs : List Nat) (i : Nat) : st cs i ≤ tot cs := by have := tot_split cs i; omega
theorem isz_bd (c : Nat) (h : c < 42) : 1 ≤ isz c ∧ isz c ≤ 5 := by have := (wids_good c h).2.1; unfold isz; omega
theorem tot_snoc (cs : List Nat) (c : Nat) : tot (cs ++ [c]) = tot cs + isz c := by simp [tot]
theorem st_snoc (cs : List Nat) (c i : Nat) (h : i ≤ cs.length) : st (cs ++ [c]) i = st cs i := by
  unfold st
  rw [List.take_append_of_le_length h]
theorem cAt_snoc (cs : List Nat) (c i : Nat) (h : i < cs.length) : cAt (cs ++ [c]) i = cAt cs i := by
  simp [cAt, List.getD_eq_getElem?_getD, List.getElem?_append_left h]
theorem cAt_last (cs : List Nat) (c : Nat) : cAt (cs ++ [c]) cs.length = c := by simp [cAt, List.getD_eq_getElem?_getD]
theorem bAt_left (bs p : List Int) (j : Nat) (h : j < bs.length) : bAt (bs ++ p) j = bAt bs j := by
  simp [bAt, List.getD_eq_getElem?_getD, List.getElem?_append_left h]
theorem bAt_right (bs p : List Int) (j : Nat) : bAt (bs ++ p) (bs.length + j) = bAt p j := by
  simp [bAt, List.getD_eq_getElem?_getD, List.getElem?_append_right]
theorem st_lt (cs : List Nat) (bs : List Int) (h : Laid cs bs) (i : Nat) (hi : i < cs.length) : st cs i < tot cs ∧ st cs (i + 1) ≤ tot cs := by
  have h1 := st_succ cs i hi
  have h2 := st_le cs (i + 1)
  have h3 := (isz_bd _ (h.small i hi)).1
  omega

theorem Laid.nil : Laid [] [] := ⟨rfl, fun i h => absurd h (by simp), fun i h => absurd h (by simp), fun j => by simp [bAt]⟩

theorem Laid.snoc {cs : List Nat} {bs : List Int} (h : Laid cs bs) (c : Nat) (p : List Int) (hc : c < 42) (hp : p.length = isz c) (h0 : bAt p 0 = (c : Nat)) (hb : ∀ j, 0 ≤ bAt p j ∧ bAt p j ≤ 255) : Laid (cs ++ [c]) (bs ++ p) := by
  refine ⟨?_, ?_, ?_, ?_⟩
  · rw [List.length_append, h.len, hp, tot_snoc]
  · intro i hi
    rw [List.length_append, List.length_singleton] at hi
    by_cases hl : i < cs.length
    · rw [st_snoc _ _ _ (by omega), cAt_snoc _ _ _ hl, bAt_left _ _ _ (by rw [h.len]; exact (st_lt cs bs h i hl).1), h.code i hl]
    · obtain rfl : i = cs.length := by omega
      rw [st_snoc _ _ _ (Nat.le_refl _), st_all, ← h.len, cAt_last, ← h0]
      exact bAt_right bs p 0
  · intro i hi
    rw [List.length_append, List.length_singleton] at hi
    by_cases hl : i < cs.length
    · rw [cAt_snoc _ _ _ hl]; exact h.small i hl
    · obtain rfl : i = cs.length := by omega
      rw [cAt_last]; exact hc
  · intro j
    by_cases hj : j < bs.length
    · rw [bAt_left _ _ _ hj]; exact h.byte j
    · have e : j = bs.length + (j - bs.length) := by omega
      rw [e, bAt_right]; exact hb _

theorem tot_le (cs : List Nat) (bs : List Int) (h : Laid cs bs) : ∀ i, i ≤ cs.length → i ≤ st cs i ∧ st cs i ≤ 5 * i := by
  intro i
  induction i with
  | zero => intro _; rw [st_zero]; omega
  | succ i ih =>
    intro hi
    have h1 := ih (by omega)
    have h2 := st_succ cs i (by omega)
    have h3 := isz_bd _ (h.small i (by omega))
    omega

end Go.Proofs.YoeczwDoor
