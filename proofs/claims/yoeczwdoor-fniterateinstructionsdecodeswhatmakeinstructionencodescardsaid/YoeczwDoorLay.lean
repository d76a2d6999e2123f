/-
  Seat oeczD: 'layCode' (function 6) by its contract: the bytes are those of instructions.
-/
import Derived.Test.YoeczwDoorMake
namespace Go.Proofs.YoeczwDoor
open Go.RowKit

def u8s (l : List Int) : List Value := l.map (Value.int .u8)
def i64s (l : List Int) : List Value := l.map (Value.int .i64)
/-- The starts, the opcodes, as integers. -/
def stL (cs : List Nat) : List Int := (List.range cs.length).map fun i => (st cs i : Int)
def cL (cs : List Nat) : List Int := cs.map fun (c : Nat) => (c : Int)
theorem stL_snoc (cs : List Nat) (c : Nat) : stL (cs ++ [c]) = stL cs ++ [(tot cs : Int)] := by
  unfold stL
  rw [List.length_append, List.length_singleton, List.range_succ, List.map_append]
  congr 1
  · exact List.map_congr_left fun i hi => by rw [st_snoc _ _ _ (by have := List.mem_range.1 hi; omega)]
  · simp [st_snoc, st_all]
theorem cL_snoc (cs : List Nat) (c : Nat) : cL (cs ++ [c]) = cL cs ++ [(c : Int)] := by simp [cL]
theorem stL_length (cs : List Nat) : (stL cs).length = cs.length := by simp [stL]
theorem cL_length (cs : List Nat) : (cL cs).length = cs.length := by simp [cL]

/-- WHAT HOLDS BEHIND i ROUNDS of layCode: N is the heap's size at its start. -/
structure LayAt (N n i : Nat) (w wr : World) (cs : List Nat) (bs : List Int) (ba : Option Addr) (bc : Nat) : Prop where
  len : cs.length = i
  laid : Laid cs bs
  b : wr.ownsRow (N + 2) 5 1 (.slice ba bs.length bc) bs.length (u8s bs)
  starts : wr.ownsRow N 3 1 (.slice (some ⟨N, 0, none⟩) i n) i (i64s (stL cs))
  codes : wr.ownsRow N 5 1 (.slice (some ⟨N + 1, 0, none⟩) i n) i (u8s (cL cs))
  below : Below N w wr

/-- AN INSTRUCTION IN A ROW OF ITS OWN: block g holds the opcode c and bytes p behind it; below w0's blocks nothing has turned. -/
def InstAt (g c : Nat) (w0 w : World) (p : Nat → Int) : Prop :=
  w.rowIs g 5 (isz c) (fun j => .int .u8 (p j)) ∧ p 0 = (c : Nat) ∧ (∀ j, 0 ≤ p j ∧ p j ≤ 255) ∧ Below w0.heap.size w0 w

theorem InstAt.set {g c : Nat} {w0 w : World} {p : Nat → Int} (h : InstAt g c w0 w p) (t : Nat) (x : Int) (ht : 1 ≤ t) (hx : 0 ≤ x ∧ x ≤ 255) (hg : w0.heap.size ≤ g) :
    InstAt g c w0 (w.setCell ⟨g, t, none⟩ (.int .u8 x)) (fun j => if j = t then x else p j) := by
  obtain ⟨h1, h2, h3, h4⟩ := h
  refine ⟨(h1.set t _).congr (fun j _ => ?_), ?_, fun j => ?_, h4.setCell hg _⟩
  · by_cases e : j = t <;> simp [e]
  · have e : ¬ 0 = t := by omega
    simp [e, h2]
  · by_cases e : j = t
    · simpa [e] using hx
    · simpa [e] using h3 j

/-- Behind the inner loop: the three slices, the instruction's row, what was there. -/
structure Mid (N n : Nat) (w wx : World) (g z : Nat) (p : Nat → Int) (bs : List Int) (ba : Option Addr) (bc qs : Nat) (ls : List Value) (qc : Nat) (lc : List Value) : Prop where
  b : wx.ownsRow (N + 2) 5 1 (.slice ba bs.length bc) bs.length (u8s bs)
  starts : wx.ownsRow N 3 1 (.slice (some ⟨N, 0, none⟩) qs n) qs ls
  codes : wx.ownsRow N 5 1 (.slice (some ⟨N + 1, 0, none⟩) qc n) qc lc
  inst : wx.rowIs g 5 z (fun j => .int .u8 (p j))
  ge : N + 2 ≤ g
  size : N + 2 ≤ wx.heap.size
  below : Below N w wx

theorem LayAt.size {N n i : Nat} {w wr : World} {cs : List Nat} {bs : List Int} {ba : Option Addr} {bc : Nat} (h : LayAt N n i w wr cs bs ba bc) : N + 2 ≤ wr.heap.size := by
  have := (h.codes.lt (N + 1) rfl).2
  omega

theorem Mid.start {N n q g c : Nat} {w w0 wi : World} {cs : List Nat} {bs : List Int} {ba : Option Addr} {bc : Nat} {p : Nat → Int} (h : LayAt N n q w w0 cs bs ba bc) (hI : InstAt g c w0 wi p) (hg : w0.heap.size ≤ g) :
    Mid N n w wi g (isz c) p bs ba bc q (i64s (stL cs)) q (u8s (cL cs)) := by
  have hs := h.size
  obtain ⟨h1, _, _, h4⟩ := hI
  exact ⟨ownsRow_below h.b h4, ownsRow_below h.starts h4, ownsRow_below h.codes h4, h1, by omega, by have := h4.size; omega, h.below.trans (h4.mono (by omega))⟩

section
variable {N n : Nat} {w wx : World} {g z : Nat} {p : Nat → Int} {bs : List Int} {ba : Option Addr} {bc qs : Nat} {ls : List Value} {qc : Nat} {lc : List Value}

theorem Mid.alloc (h : Mid N n w wx g z p bs ba bc qs ls qc lc) (o : Obj) : Mid N n w (wx.alloc o) g z p bs ba bc qs ls qc lc :=
  ⟨h.b.alloc o, h.starts.alloc o, h.codes.alloc o, h.inst.alloc o, h.ge, by have := h.size; simp; omega, h.below.alloc (by have := h.size; omega) o⟩

theorem far {base : Nat} {e : TypeId} {size : Nat} {v : Value} {m : Nat} {xs : List Value} {r : Nat} (h : wx.ownsRow base e size v m xs) (hr : r < base) : v.ownBlock = none ∨ v.ownBlock ≠ some r :=
  .inr fun e => by have := (h.lt r e).1; omega

theorem Mid.s (h : Mid N n w wx g z p bs ba bc qs ls qc lc) {w' : World} {qs' : Nat} {ls' : List Value} (hg : wx.grownBy w' (some N)) (ho : w'.ownsRow N 3 1 (.slice (some ⟨N, 0, none⟩) qs' n) qs' ls') : Mid N n w w' g z p bs ba bc qs' ls' qc lc :=
  ⟨h.b.kept hg (far h.b (by omega)), ho, h.codes.kept hg (.inr (by simp [Value.ownBlock])), h.inst.of_block (hg.block g h.inst.lt (by simp; have := h.ge; omega)), h.ge, by have := h.size; have := hg.size; omega,
    h.below.grown hg (by have := h.size; omega) (fun k hk => by cases hk; exact Nat.le_refl _)⟩

theorem Mid.c (h : Mid N n w wx g z p bs ba bc qs ls qc lc) {w' : World} {qc' : Nat} {lc' : List Value} (hg : wx.grownBy w' (some (N + 1))) (ho : w'.ownsRow N 5 1 (.slice (some ⟨N + 1, 0, none⟩) qc' n) qc' lc') : Mid N n w w' g z p bs ba bc qs ls qc' lc' :=
  ⟨h.b.kept hg (far h.b (by omega)), h.starts.kept hg (.inr (by simp [Value.ownBlock])), ho, h.inst.of_block (hg.block g h.inst.lt (by simp; have := h.ge; omega)), h.ge, by have := h.size; have := hg.size; omega,
    h.below.grown hg (by have := h.size; omega) (fun k hk => by cases hk; omega)⟩
end

/-- The instruction's bytes as a list. -/
def pl (z : Nat) (p : Nat → Int) : List Int := (List.range z).map p
theorem pl_length (z : Nat) (p : Nat → Int) : (pl z p).length = z := by simp [pl]
theorem pl_at (z : Nat) (p : Nat → Int) (j : Nat) (h : j < z) : bAt (pl z p) j = p j := by simp [bAt, pl, List.getD_eq_getElem?_getD, h]
theorem pl_byte (z : Nat) (p : Nat → Int) (hp : ∀ j, 0 ≤ p j ∧ p j ≤ 255) (j : Nat) : 0 ≤ bAt (pl z p) j ∧ bAt (pl z p) j ≤ 255 := by
  by_cases h : j < z
  · rw [pl_at z p j h]; exact hp j
  · have e : bAt (pl z p) j = 0 := by simp [bAt, pl, List.getD_eq_getElem?_getD, h]
    rw [e]; omega
theorem row_news {w : World} {g z : Nat} {p : Nat → Int} (h : w.rowIs g 5 z (fun j => .int .u8 (p j))) : ∀ j u, (u8s (pl z p))[j]? = some u → w.cell? ((⟨g, 0, none⟩ : Addr).add j) = some u := by
  intro j u hu
  simp only [u8s, pl, List.getElem?_map] at hu
  by_cases hj : j < z
  · rw [List.getElem?_range hj] at hu
    simp only [Option.map_some, Option.some.injEq] at hu
    subst hu
    rw [Addr.add_lit, Nat.zero_add]
    exact h.cell hj
  · rw [List.getElem?_eq_none (by simp; omega)] at hu
    simp at hu

theorem Mid.done {N n q g c : Nat} {w w0 wi wx w' : World} {cs : List Nat} {bs : List Int} {ba : Option Addr} {bc gg cap : Nat} {p : Nat → Int} (h0 : LayAt N n q w w0 cs bs ba bc) (hI : InstAt g c w0 wi p) (hc : c < 42)
    (h : Mid N n w wx g (isz c) p bs ba bc (q + 1) (i64s (stL cs) ++ [.int .i64 bs.length]) (q + 1) (u8s (cL cs) ++ [.int .u8 c]))
    (hg : wx.grownBy w' (Value.slice ba bs.length bc).ownBlock) (ho : w'.ownsRow (N + 2) 5 1 (.slice (some ⟨gg, 0, none⟩) (bs.length + isz c) cap) (bs.length + isz c) (u8s bs ++ u8s (pl (isz c) p))) :
    LayAt N n (q + 1) w w' (cs ++ [c]) (bs ++ pl (isz c) p) (some ⟨gg, 0, none⟩) cap := by
  have hl : (bs ++ pl (isz c) p).length = bs.length + isz c := by rw [List.length_append, pl_length]
  have hz := isz_bd c hc
  refine ⟨by rw [List.length_append, h0.len]; rfl, h0.laid.snoc c _ hc (pl_length _ _) (by rw [pl_at _ _ _ (by omega)]; exact hI.2.1) (pl_byte _ _ hI.2.2.1), ?_, ?_, ?_, ?_⟩
  · rw [hl]; unfold u8s at ho ⊢; rw [List.map_append]; exact ho
  · have e : i64s (stL (cs ++ [c])) = i64s (stL cs) ++ [.int .i64 bs.length] := by rw [stL_snoc, h0.laid.len]; simp [i64s]
    rw [e]
    exact h.starts.kept hg (.inr fun e => by have := (h.b.lt N (by rw [← e]; rfl)).1; omega)
  · have e : u8s (cL (cs ++ [c])) = u8s (cL cs) ++ [.int .u8 c] := by rw [cL_snoc]; simp [u8s]
    rw [e]
    exact h.codes.kept hg (.inr fun e => by have := (h.b.lt (N + 1) (by rw [← e]; rfl)).1; omega)
  · exact h.below.grown hg (by have := h.size; omega) (fun k hk => by have := (h.b.lt k hk).1; omega)

theorem lay_start (w : World) (n : Nat) (hn : n ≤ 65536) : LayAt w.heap.size n 0 w ((w.alloc (.cells (madeCells #[Value.int .i64 0] n) 3)).alloc (.cells (madeCells #[Value.int .u8 0] n) 5)) [] [] none 0 := by
  refine ⟨rfl, Laid.nil, World.ownsRow_nil _ _ _ _, ?_, ?_, ((Below.refl _ _).alloc (Nat.le_refl _) _).alloc (by simp) _⟩
  · exact (World.ownsRow_made w _ n (Nat.le_refl _) (by unfold maxLen; omega) (by simp [size_madeCells])).alloc _
  · have h := World.ownsRow_made (base := w.heap.size) (e := 5) (size := 1) (w.alloc (.cells (madeCells #[Value.int .i64 0] n) 3)) (madeCells #[Value.int .u8 0] n) n (by simp) (by unfold maxLen; omega) (by simp [size_madeCells])
    simpa [u8s, cL] using h

set_option maxHeartbeats 2000000 in
set_option maxRecDepth 100000 in
/-- 'layCode': there are opcodes cs, one for each entry of ops, and bytes bs that are instructions with those opcodes: the bytes, the starts and the opcodes come back in slices of the call's own. -/
theorem lay_any (O G : Nat → Int) (oa fa : Option Addr) (n oc m fc : Nat) (w : World) (hn : n ≤ 65536) (hm : m ≤ 65536) (hO : ∀ j, 0 ≤ O j ∧ O j ≤ 255) (hG : ∀ j, 0 ≤ G j ∧ G j ≤ 255)
    (hT : Tab w) (ho : Lies w oa n fun j => .int .u8 (O j)) (hfl : Lies w fa m fun j => .int .u8 (G j)) :
    Calls Eczg.prog 6 #[.slice oa n oc, .slice fa m fc] w fun e w' =>
      ∃ cs bs ba bc, e = .returned (.tuple #[.slice ba bs.length bc, .slice (some ⟨w.heap.size, 0, none⟩) n n, .slice (some ⟨w.heap.size + 1, 0, none⟩) n n]) ∧ LayAt w.heap.size n n w w' cs bs ba bc := by
  obtain ⟨i3, hi3, hz30, hz31, hz32⟩ := info_parts Eczg.info3
  obtain ⟨i5, hi5, hz50, hz51, hz52⟩ := info_parts Eczg.info5
  have hmk1 := run_make_zero (P := Eczg.prog) 24 3 (.int .i64 0) 8 Eczg.underlying24 Eczg.info3 rfl n (by omega) (by omega)
  have hmk2 := run_make_zero (P := Eczg.prog) 22 5 (.int .u8 0) 1 Eczg.underlying22 Eczg.info5 rfl n (by omega) (by omega)
  go_enter Eczg.func6, Eczg.ntmps6
  go_wp2_with fail
  clear hmk1 hmk2
  go_loopw [7, 8, 9, 10, 11] (fun vb vs vc k i wr => ∃ (q kk : Nat) (cs : List Nat) (bs : List Int) (ba : Option Addr) (bc : Nat), q ≤ n ∧ i = .int .i64 q ∧ k = .int .i64 kk ∧ kk ≤ 5 * q ∧ vb = .slice ba bs.length bc ∧
      vs = .slice (some ⟨w.heap.size, 0, none⟩) q n ∧ vc = .slice (some ⟨w.heap.size + 1, 0, none⟩) q n ∧ LayAt w.heap.size n q w wr cs bs ba bc) (fun _ _ _ _ i _ => n - (intOf i).toNat)
  case atStart => exact ⟨0, 0, [], [], none, 0, Nat.zero_le _, rfl, rfl, Nat.le_refl _, rfl, rfl, rfl, lay_start w n hn⟩
  case round =>
    obtain ⟨q, kk, cs, bs, ba, bc, hq, rfl, rfl, hkk, rfl, rfl, rfl, hL⟩ := hrel
    by_cases hlt : q < n
    · obtain ⟨ob, oo, rfl, co0⟩ := ho q hlt
      have hb : Below w.heap.size w wr := hL.below
      have co : wr.cell? ⟨ob, oo + q, none⟩ = some (.int .u8 (O q)) := cell_later hb co0
      clear co0
      have hOq := hO q
      obtain ⟨c, hc0⟩ : ∃ c : Nat, (c : Int) = O q % 42 := ⟨(O q % 42).toNat, by omega⟩
      have hmod : O q % 42 = (c : Int) := hc0.symm
      have hc : c < 42 := by omega
      clear hc0
      go_wp2_with fail
      refine (make_bare c wr hc (hT.carry hb)).mono ?_
      rintro e w1 ⟨g, rfl, hrow, hg, hb1⟩
      have hz := isz_bd c hc
      have hI : InstAt g c wr w1 (fun j => if j = 0 then (c : Int) else 0) := ⟨hrow, by simp, fun j => by by_cases e : j = 0 <;> simp [e]; omega, hb1⟩
      have hfl1 := hfl.carry hb
      clear hrow hb1
      obtain ⟨w0, hw0⟩ : ∃ w0, w0 = wr := ⟨_, rfl⟩
      subst hw0
      go_wp2_with fail
      go_loopw [10, 14] (fun k j wi => ∃ (t kj : Nat) (p : Nat → Int), 1 ≤ t ∧ t ≤ isz c ∧ j = .int .i64 t ∧ k = .int .i64 kj ∧ kj ≤ 5 * q + t ∧ InstAt g c w0 wi p) (fun _ j _ => isz c - (intOf j).toNat)
      case atStart => exact ⟨1, kk, _, Nat.le_refl _, hz.1, rfl, rfl, by omega, hI⟩
      case round =>
        obtain ⟨t, kj, p, ht1, htz, rfl, rfl, hkj, hIp⟩ := hrel
        clear hI
        by_cases hlz : t < isz c
        · by_cases hm0 : m = 0
          · have hd : decide ((0 : Int) < (m : Int)) = false := decide_eq_false (by omega)
            go_wp2_with fail
            go_roundw
            case rel => exact ⟨t + 1, kj, p, by omega, by omega, by go_num, rfl, by omega, hIp⟩
            case measure => simp [intOf]; omega
          · have hd1 : (0 : Int) < (m : Int) := by omega
            have hmm : kj % m < m := Nat.mod_lt _ (by omega)
            obtain ⟨fb, fo, rfl, cf0⟩ := hfl1 (kj % m) hmm
            have cf : wr.cell? ⟨fb, fo + kj % m, none⟩ = some (.int .u8 (G (kj % m))) := cell_later hIp.2.2.2 cf0
            have d1 := hIp.1.cell hlz
            have d2 := hIp.1.frozen t
            clear cf0
            go_wp2_with fail
            go_roundw
            case rel => exact ⟨t + 1, kj + 1, _, by omega, by omega, by go_num, by go_num, by omega, hIp.set t _ ht1 (hG _) hg⟩
            case measure => simp [intOf]; omega
        · have htt : t = isz c := by omega
          subst htt
          have hM := Mid.start hL hIp hg
          go_wp2_with (at_builtin; refine wpList_append_fits _ rfl (.tmp 55) (.tmp 58) 24 rfl w.heap.size 3 i3 1 Eczg.underlying24 hi3 hz31 w.heap.size q n (i64s (stL cs)) rfl (hM.alloc _).starts ⟨wr.heap.size, 0, none⟩ 1 1 [.int .i64 bs.length] rfl rfl ?c1 ?c2 ?c3 ?_)
          case c1 => exact cell_one_new _ _ _
          case c2 => intro u hu; simp at hu; subst hu; rfl
          case c3 => omega
          intro w2 hown2 hgrow2
          have hM2 := (hM.alloc _).s hgrow2 hown2
          clear hM hown2 hgrow2
          go_wp2_with (at_builtin; refine wpList_append_fits _ rfl (.tmp 60) (.tmp 62) 22 rfl w.heap.size 5 i5 1 Eczg.underlying22 hi5 hz51 (w.heap.size + 1) q n (u8s (cL cs)) rfl (hM2.alloc _).codes ⟨w2.heap.size, 0, none⟩ 1 1 [.int .u8 c] rfl rfl ?c1 ?c2 ?c3 ?_)
          case c1 => exact cell_one_new _ _ _
          case c2 => intro u hu; simp at hu; subst hu; rfl
          case c3 => omega
          intro w3 hown3 hgrow3
          have hM3 := (hM2.alloc _).c hgrow3 hown3
          clear hM2 hown3 hgrow3
          have hbl : bs.length ≤ 5 * q := by
            have e1 := hL.laid.len
            have e2 := (tot_le cs bs hL.laid cs.length (Nat.le_refl _)).2
            rw [st_all, hL.len] at e2
            omega
          go_wp2_with (at_builtin; refine wpList_append_lies _ rfl (.tmp 64) (.tmp 65) 22 rfl (w.heap.size + 2) 5 i5 (.int .u8 0) 1 1 Eczg.underlying22 hi5 hz50 hz51 hz52 rfl (by decide) _ bs.length (u8s bs) rfl hM3.b ⟨g, 0, none⟩ (isz c) (isz c) (u8s (pl (isz c) p)) rfl ?c1 (row_news hM3.inst) ?c2 ?c3 ?c4 ?c5 hM3.size w3.heap.size rfl ?_)
          case c1 => simp [u8s, pl_length]
          case c2 => intro u hu; obtain ⟨_, _, rfl⟩ := List.mem_map.1 hu; rfl
          case c3 => omega
          case c4 => unfold maxLen; omega
          case c5 => omega
          intro gg cap w4 hown4 hgrow4 _ _
          have hD := Mid.done hL hIp hc hM3 hgrow4 hown4
          clear hM3 hown4 hgrow4 hL hIp
          go_wp2_with fail
          go_roundw
          case rel => exact ⟨q + 1, kj, cs ++ [c], bs ++ pl (isz c) p, _, cap, by omega, by go_num, rfl, by omega, by rw [List.length_append, pl_length], rfl, rfl, hD⟩
          case measure => simp [intOf]; omega
    · have hqn : q = n := by omega
      subst hqn
      go_wp2_with fail
      go_ret3
      exact ⟨cs, bs, ba, bc, rfl, hL⟩
#print axioms lay_any
end Go.Proofs.YoeczwDoor
