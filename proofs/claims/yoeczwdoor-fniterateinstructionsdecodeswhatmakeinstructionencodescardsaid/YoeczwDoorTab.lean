/-
  Seat oeczD: from the row's listed variable to the table in memory.
-/
import Derived.Test.YoeczwDoorRows
import Derived.Test.YoeczwDoorBase
import Derived.ProofKit
import Derived.LaidMore
import Derived.OpenShut
import Derived.Stop.Joined
import Derived.ShutString
import Derived.ChangeOld
import Derived.ChangeVars
namespace Go.Proofs.YoeczwDoor
open Go.ChangeShapes Go.WideShapes Go.ChangeAt Go.RowKit

/-- The table's name, as the rows list it. -/
def tabName : String := Rows.fnIterateInstructionsStopsWhenAskedSpec.vars.headD ""
theorem gTab : Eczg.prog.globalNamed tabName = some 0 := by kernel_rfl
theorem tTab : (Eczg.prog.globals[0]?).map (·.type) = some 35 := by kernel_rfl

/-- What is listed. -/
def laid1 : List (String × DataW Unit) := [(tabName, Rows.laid_github_com_d5_tengo_v2_parser_OpcodeOperands)]

theorem laid_is : (Rows.laid_github_com_d5_tengo_v2_parser_OpcodeOperands : DataW Unit) = .agg (tabL.map fun ws => .slice (ws.map fun (k : Nat) => .lit (.int .i64 k)) []) := rfl

theorem tab_of_laid {W : World} (h : laidMetH Eczg.prog laid1 W) : Tab W := by
  rw [MakeChecks.laidMetH_plain _ _ _ (by kernel_rfl)] at h
  obtain ⟨ps, ⟨g0, t0, cs0, f0, p0, q0, hg0, ht0, hv0, hd0, _, _⟩, _, _⟩ := h
  obtain rfl := Option.some.inj (gTab.symm.trans hg0)
  obtain rfl := Option.some.inj (tTab.symm.trans ht0)
  obtain ⟨xs, m, rfl, hx, hlen, hn, hel⟩ := DataW.trod_array Eczg.underlying35 hd0
  have c24 : Eczg.prog.cellsOf 24 = 1 := by kernel_rfl
  have c3 : Eczg.prog.cellsOf 3 = 1 := by kernel_rfl
  rw [laid_is] at hx
  simp only [Prod.mk.injEq, DataW.agg.injEq] at hx
  intro c hc
  have h1 := hel c hc
  rw [c24, Nat.mul_one] at h1
  obtain ⟨x, hxc⟩ : ∃ x, xs[c]? = some x := ⟨xs[c]'(by omega), by simp [hn, hc]⟩
  rw [hxc] at h1
  have hxd : x.1 = .slice ((wids c).map fun (k : Nat) => .lit (.int .i64 k)) [] := by
    have e := congrArg (fun l => l[c]?) hx.1
    simp only [List.getElem?_map, hxc, Option.map_some] at e
    have hl : tabL.length = 42 := rfl
    rw [List.getElem?_eq_getElem (by omega), Option.map_some] at e
    have e2 := Option.some.inj e
    rw [← e2]
    simp [wids, List.getD_eq_getElem?_getD, List.getElem?_eq_getElem (show c < tabL.length by omega)]
  rcases open_ints Eczg.underlying24 Eczg.underlying3 c3 h1 with ⟨_, hx0⟩ | ⟨a, len, cap, zs, hcs, _, hl, hm, hz, hx1, hcell, _⟩
  · rw [hx0] at hxd; cases hxd
  · rw [hx1] at hxd
    simp only [DataW.slice.injEq, lits] at hxd
    have hlz : len ≤ zs.length := by rw [hz]; split <;> omega
    have hz2 : zs.take len = (wids c).map fun (k : Nat) => (k : Int) := by
      have e := hxd.1
      have inj : ∀ (l1 l2 : List Int), (l1.map fun n => (DataW.lit (.int .i64 n) : DataW Unit)) = l2.map (fun n => .lit (.int .i64 n)) → l1 = l2 := by
        intro l1 l2 e
        exact (List.map_inj_right (fun a b hab => by simpa using hab)).1 e
      refine inj _ _ ?_
      rw [List.map_map]
      exact e
    have hwl : len = (wids c).length := by have := congrArg List.length hz2; simpa [Nat.min_eq_left hlz] using this
    have hcc : W.cell? ⟨0, c, none⟩ = some (.slice (some a) len cap) := by
      rw [World.var?_cell hg0 hv0 c]
      have e := congrArg (fun l => l[0]?) hcs
      simpa using e
    subst hwl
    refine ⟨some a, cap, hcc, fun k hk => ?_⟩
    obtain ⟨b, o, spot⟩ := a
    have hspot : spot = none := by simpa [Addr.add] using World.cell?_spot (hcell 0 (by omega))
    subst hspot
    refine ⟨b, o, rfl, ?_⟩
    have e := hcell k (by omega)
    rw [Addr.add_lit] at e
    rw [e]
    have hk2 : zs.getD k 0 = (wAt (wids c) k : Nat) := by
      have e3 := congrArg (fun l => l[k]?) hz2
      simp only [List.getElem?_take, hk, if_true, List.getElem?_map] at e3
      simp only [List.getD_eq_getElem?_getD, e3, wAt]
      rw [List.getElem?_eq_getElem hk]
      rfl
    rw [hk2]
#print axioms tab_of_laid

theorem own : ownKnob Eczg.prog.godebug = none := by kernel_rfl
theorem laidOut : laidOutB Eczg.prog = true := by kernel_rfl

/-- What a slice of bytes that came in gives the walk. -/
theorem bytes_in {H : Type} {enc : TypeId × Value → H} {W : World} {a : Option Addr} {n c : Nat} {d : DataW H} {p : List MemPlace} (h : DataW.Trod enc Eczg.prog W 0 (fun _ => true) true 22 (.slice a n c) d p) :
    ∃ O : Nat → Int, n ≤ maxLen ∧ (∀ j, 0 ≤ O j ∧ O j ≤ 255) ∧ Lies W a n fun j => .int .u8 (O j) := by
  obtain ⟨fuel, hf⟩ := h
  rcases open_ints Eczg.underlying22 Eczg.underlying5 (by kernel_rfl) hf with ⟨hcs, _⟩ | ⟨x, l, c', zs, hcs, _, hl, hm, hz, _, hcell, hwz⟩
  · simp [Value.cells] at hcs
    obtain ⟨rfl, rfl, rfl⟩ := hcs
    exact ⟨fun _ => 0, Nat.zero_le _, fun _ => ⟨Int.le_refl _, by simp⟩, fun i hi => absurd hi (by omega)⟩
  · simp [Value.cells] at hcs
    obtain ⟨rfl, rfl, rfl⟩ := hcs
    simp only [if_true] at hz
    refine ⟨fun j => zs.getD j 0, by omega, fun j => ?_, fun i hi => ?_⟩
    · show 0 ≤ zs.getD j 0 ∧ zs.getD j 0 ≤ 255
      by_cases hj : j < zs.length
      · exact bounds_u8 (hwz (zs.getD j 0) (by rw [List.getD_eq_getElem?_getD, List.getElem?_eq_getElem hj]; exact List.getElem_mem hj))
      · have e : zs.getD j 0 = 0 := by rw [List.getD_eq_getElem?_getD, List.getElem?_eq_none (by omega)]; rfl
        rw [e]; omega
    · obtain ⟨b, off, spot⟩ := x
      have hspot : spot = none := by simpa [Addr.add] using World.cell?_spot (hcell 0 (by omega))
      subst hspot
      exact ⟨b, off, rfl, by rw [← Addr.add_lit]; exact hcell i (by omega)⟩

/-- The heap that the program's own initialiser leaves meets the condition. -/
theorem door_met (os : Os) (args : Array Value) : laidMetH Eczg.prog laid1 ((World.doorLaid Eczg.prog 56 os).forCall (fun _ _ => 0) ⟨#[], args, []⟩).memory :=
  laidMetH_of_parts3 (fuel := 8) (laidMet_of_run' 8 (by kernel_rfl) (by kernel_rfl)) (by kernel_rfl) (by kernel_rfl)

/-- The named variable reads behind the call as before it. -/
theorem vars_again {H : Type} {enc : TypeId × Value → H} {W W' : World} {cs : Array Value} {fuel : Nat} {d : DataW H} {p : List MemPlace} (hvar : W.var? Eczg.prog tabName = some cs)
    (hd : DataW.trod enc Eczg.prog W 0 (fun _ => true) true fuel 35 cs.toList = some (d, p)) (bel : Below W.heap.size W W') (h0 : 0 < W.heap.size) :
    DataW.TrodVars enc Eczg.prog W' (fun b => decide (b < W.heap.size)) [tabName] [d] (MemPlace.row ⟨0, 0, none⟩ cs.size ++ p) := by
  have lt : ∀ x ∈ p, x.block < W.heap.size := DataW.trod_lt fuel _ _ _ hd
  obtain ⟨f2, h2⟩ := Below.trod (v := .agg cs) laidOut (by kernel_rfl) (of_decide_eq_true (by kernel_rfl)) ⟨fuel, hd⟩ bel lt
  exact trodVars_mk1 gTab tTab (var?_below bel gTab h0 hvar) h2
end Go.Proofs.YoeczwDoor
