/-
  Seat oeczD: 'Rows.FnIterateInstructionsDecodesWhatMakeInstructionEncodesCardSaid': the row out of the walks, and the card.
-/
import Derived.Test.YoeczwDoorTab
import Derived.Test.YoeczwDoorTie
import Derived.Test.YoeczwDoorCards
import Derived.Test.YoeczwDoorDecodes
namespace Go.Proofs.YoeczwDoor.decodes
open Go.ChangeShapes Go.WideShapes Go.ChangeAt Go.RowKit

/-- The walk at every input that can be read. -/
theorem walk (O G : Nat → Int) (oa fa : Option Addr) (n oc m fc : Nat) (w : World) (hn : n ≤ maxLen) (hm : m ≤ maxLen) (hO : ∀ j, 0 ≤ O j ∧ O j ≤ 255) (hG : ∀ j, 0 ≤ G j ∧ G j ≤ 255)
    (hT : Tab w) (ho : Lies w oa n fun j => .int .u8 (O j)) (hfl : Lies w fa m fun j => .int .u8 (G j)) :
    Calls Eczg.prog 3 #[.slice oa n oc, .slice fa m fc] w fun r w' => r = .returned (.bool true) ∧ Below w.heap.size w w' := by
  by_cases hbig : 65536 < n ∨ 65536 < m
  · exact law3_big oa fa n oc m fc w hn hm hbig
  · exact law3_main O G oa fa n oc m fc w (by omega) (by omega) hO hG hT ho hfl

set_option maxRecDepth 100000 in
theorem lifted (os : Os) (started : os.Started) (H : Type) (enc : TypeId × Value → H) :
    ReturnsInHanded {} Eczg.checked os 3 .any (fun w args => (Rows.fnIterateInstructionsDecodesWhatMakeInstructionEncodesSpec.pre enc Eczg.prog Eczg.f3 [] false w args ∧ laidMetH Eczg.prog laid1 w) ∧ sizedMet enc Eczg.prog Eczg.f3 (OpenSpec.ofChange Rows.fnIterateInstructionsDecodesWhatMakeInstructionEncodesSpec) false w args)
      (Rows.fnIterateInstructionsDecodesWhatMakeInstructionEncodesSpec.post enc Eczg.prog Eczg.f3 false true false false) := by
  refine returnsInHanded_of_change_and (C := Eczg.checked) (X := fun w _ => laidMetH Eczg.prog laid1 w) (fun _ _ _ hh h => h.of_heap hh) own started (by kernel_rfl) Eczg.func3
    (ChangeSpec.witness_shaped (enc := enc) (C := Eczg.checked) (os := os) (X := fun w _ => laidMetH Eczg.prog laid1 w) false (World.doorLaid Eczg.prog 56 os) #[.slice none 0 0, .slice none 0 0] 8 rfl (World.shaped_of_RefB (by kernel_rfl) (by kernel_rfl)) (by kernel_rfl) (by kernel_rfl) (by kernel_rfl) (door_met os _)) ?_
  intro W base args ds gs before hval0 hW _ _ hLd _
  have hval : ∀ (j : Nat) t v, Eczg.f3.params[j]? = some t → args[j]? = some v → Value.okWide Eczg.prog W .any base t v := hval0
  have hW' := hW
  obtain ⟨p, q, hA0, hV0, rfl, hfz, hnd⟩ := hW
  have hA : DataW.TrodAll enc Eczg.prog W 0 (fun _ => true) true Eczg.f3.params.toList args.toList ds p := hA0
  have hV : DataW.TrodVars enc Eczg.prog W (fun _ => true) [tabName] gs q := hV0
  rw [Eczg.params3] at hA hval
  obtain ⟨v0, vs0, d0, ds0, p0, q0, hargs, rfl, rfl, h0, r0⟩ := trodAll_cons hA
  obtain ⟨v1, vs1, d1, ds1, p1, q1, rfl, rfl, rfl, h1, r1⟩ := trodAll_cons r0
  obtain ⟨rfl, rfl, rfl⟩ := trodAll_nil r1
  obtain rfl : args = #[v0, v1] := by cases args; simp_all
  obtain ⟨gg, tt, cs, fuel, dg, pg, rfl, hg, ht, hvar, hd, rfl⟩ := trodVars_one hV
  obtain rfl := Option.some.inj (gTab.symm.trans hg)
  obtain rfl := Option.some.inj (tTab.symm.trans ht)
  obtain ⟨oa, n, oc, rfl⟩ := okWide_slice Eczg.underlying22 (hval 0 22 v0 rfl rfl)
  obtain ⟨fa, m, fc, rfl⟩ := okWide_slice Eczg.underlying22 (hval 1 22 v1 rfl rfl)
  have lt0 : ∀ x ∈ p0, x.block < W.heap.size := by obtain ⟨j, hj⟩ := h0; exact DataW.trod_lt j _ _ _ hj
  have lt1 : ∀ x ∈ p1, x.block < W.heap.size := by obtain ⟨j, hj⟩ := h1; exact DataW.trod_lt j _ _ _ hj
  obtain ⟨O, hn, hO, ho⟩ := bytes_in h0
  obtain ⟨G, hm, hG, hfl⟩ := bytes_in h1
  have hT := tab_of_laid hLd
  have hpos : 0 < W.heap.size := by
    obtain ⟨ta, tc, hc, _⟩ := hT 0 (by omega)
    exact World.block_lt_of_cell? _ _ hc
  clear hA0 hval0 hV0
  refine (walk O G oa fa n oc m fc W hn hm hO hG hT ho hfl).mono fun e W' ⟨he, bel⟩ => ?_
  subst he
  exact ⟨_, rfl, _, _, _, [], _, MemPlace.row ⟨0, 0, none⟩ cs.size ++ pg, hW', trodAll_mk1 (shut_bool Eczg.underlying4 _),
    (trodAll_cons_mk (Below.trod laidOut (by kernel_rfl) (of_decide_eq_true (by kernel_rfl)) h0 bel lt0) (trodAll_cons_mk (Below.trod laidOut (by kernel_rfl) (of_decide_eq_true (by kernel_rfl)) h1 bel lt1) trodAll_mk0)), vars_again hvar hd bel hpos, bel.frame _, fun h => by cases h⟩

theorem said : Rows.FnIterateInstructionsDecodesWhatMakeInstructionEncodesSaid :=
  OpenClaim.holds_of_wide 3 Eczg.f3 rfl rfl rfl rfl rfl rfl rfl ⟨rfl, rfl, rfl, rfl, rfl⟩ rfl rfl rfl rfl rfl (by kernel_rfl) Eczg.func3 (by kernel_rfl)
    (of_decide_eq_true (by kernel_rfl)) (by unfold Func.isWrapper; first | (rw [if_pos (by decide +kernel)]; kernel_rfl) | (rw [if_neg (by decide +kernel)]; exact ⟨rfl, rfl⟩))
    (fun os started H enc _ => lifted os started H enc)

end Go.Proofs.YoeczwDoor.decodes
namespace Go.Proofs.YoeczwDoor
/-- THE CARD: the row, its listed variable tied to the program's text. -/
theorem decodes_card : Rows.FnIterateInstructionsDecodesWhatMakeInstructionEncodesCardSaid :=
  Claim7.holds_tied_plain_at .later [] [.widerDeep] true (true, "0d61b15fe8375b819e20b61958747cc6a200f391e81ef7b8aeb893cfd31f7f48") false
    decodes.said (fun _ h => by cases h) (by kernel_rfl) (fun _ h => by cases h) fnIterateInstructionsDecodesWhatMakeInstructionEncodes_row_tie rfl ⟨rfl, rfl⟩ (by kernel_rfl) rfl
    (fun f fn hf hfn => by
      obtain rfl : f = 3 := Option.some.inj ((show Eczg.prog.funcNamed Rows.fnIterateInstructionsDecodesWhatMakeInstructionEncodesRow.func = some 3 by kernel_rfl).symm.trans hf) |>.symm
      obtain rfl : fn = Eczg.f3 := (Option.some.inj (Eczg.func3.symm.trans hfn)).symm
      exact ⟨by kernel_rfl, fun j t ht => by
        rw [Eczg.params3] at ht
        have h3 : t = 22 ∨ t = 3 := by
          rcases j with _ | _ | j
          · exact .inl (by simpa using ht.symm)
          · exact .inl (by simpa using ht.symm)
          · simp at ht
        rcases h3 with rfl | rfl
        · exact (show Eczg.prog.wantsStandIn 22 = false by kernel_rfl)
        · exact (show Eczg.prog.wantsStandIn 3 = false by kernel_rfl)⟩)
    (by kernel_rfl)
#print axioms decodes_card
end Go.Proofs.YoeczwDoor
