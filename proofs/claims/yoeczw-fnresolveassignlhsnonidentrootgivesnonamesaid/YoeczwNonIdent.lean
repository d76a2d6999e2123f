/-
  Seat oecz: 'Rows.FnResolveAssignLHSNonIdentRootGivesNoNameSaid': the row out of the walks.
-/
import Derived.Test.YoeczwRows
import Derived.Test.YoeczwLawWalk
import Derived.ProofKit
import Derived.OpenShut
import Derived.ShutString
import Derived.ChangeOld
import Derived.Deep.Strs
import Derived.Deep.Grids
namespace Go.Proofs.Yoeczw.nonIdentRoot
open Go.ChangeShapes Go.WideShapes Go.ChangeAt Go.RowKit Go.Deep
open Go.ChangeMaps (open_string shut_string)

theorem own : ownKnob Eczg.prog.godebug = none := by kernel_rfl
theorem laidOut : laidOutB Eczg.prog = true := by kernel_rfl

theorem lies_of {w : World} {a : Addr} {n : Nat} {f : Nat → Value} (h : ∀ i, i < n → w.cell? (a.add i) = some (f i)) : Lies w (some a) n f := by
  intro i hi
  obtain ⟨b, off, spot⟩ := a
  have hspot : spot = none := by
    have := World.cell?_spot (h 0 (by omega))
    simpa [Addr.add] using this
  subst hspot
  exact ⟨b, off, rfl, by rw [← Addr.add_lit]; exact h i hi⟩

/-- The walk at every input that can be read. -/
theorem walk (name : ByteArray) (sa ka : Option Addr) (m sc n kc : Nat) (bs : Nat → Bool) (ks : Nat → ByteArray) (w : World) (hnm : name.size ≤ maxLen)
    (hsn : sa = none → m = 0 ∧ sc = 0) (hkn : ka = none → n = 0 ∧ kc = 0) (hm : m ≤ maxLen) (hn : n ≤ maxLen)
    (hs : Lies w sa m fun i => .bool (bs i)) (hk : Lies w ka n fun i => .string (ks i)) (hsz : ∀ i, i < n → (ks i).size ≤ maxLen) :
    Calls Eczg.prog 4 #[.string name, .slice sa m sc, .slice ka n kc] w fun r w' => r = .returned (.bool true) ∧ Below w.heap.size w w' := by
  by_cases hsm : 65536 < n ∨ 65536 < m ∨ 1048576 < name.size
  · exact law4_big name sa ka m sc n kc ks w hnm hm hn hk hsz hsm
  · have h1 : n ≤ 65536 := by omega
    have h2 : m ≤ 65536 := by omega
    have h3 : name.size ≤ 1048576 := by omega
    cases sa with
    | none =>
      obtain ⟨rfl, rfl⟩ := hsn rfl
      cases ka with
      | none =>
        obtain ⟨rfl, rfl⟩ := hkn rfl
        exact law4_nn name 0 0 bs ks w h1 h2 h3 hs hk hsz
      | some ka => exact law4_ns name ka 0 n kc bs ks w h1 h2 h3 hs hk hsz
    | some sa =>
      cases ka with
      | none =>
        obtain ⟨rfl, rfl⟩ := hkn rfl
        exact law4_sn name sa m sc 0 bs ks w h1 h2 h3 hs hk hsz
      | some ka => exact law4_ss name sa ka m sc n kc bs ks w h1 h2 h3 hs hk hsz

set_option maxRecDepth 100000 in
theorem lifted (os : Os) (started : os.Started) (H : Type) (enc : TypeId × Value → H) :
    ReturnsInHanded {} Eczg.checked os 4 .any (Rows.fnResolveAssignLHSNonIdentRootGivesNoNameSpec.pre6 enc Eczg.prog Eczg.f4 Rows.fnResolveAssignLHSNonIdentRootGivesNoNameRow.domain false) (Rows.fnResolveAssignLHSNonIdentRootGivesNoNameSpec.post enc Eczg.prog Eczg.f4 false true false false) := by
  refine returnsInHanded_of_change (C := Eczg.checked) own started (by kernel_rfl) Eczg.func4
    (ChangeSpec.witness6 (enc := enc) (C := Eczg.checked) false ⟨#[], #[.string ⟨#[]⟩, .slice none 0 0, .slice none 0 0], []⟩ 8 (by kernel_rfl) (by kernel_rfl) (by kernel_rfl) (by kernel_rfl)) ?_
  intro W base args ds gs before hval0 hW hcnd _
  have hval : ∀ (j : Nat) t v, Eczg.f4.params[j]? = some t → args[j]? = some v → Value.okWide Eczg.prog W .any base t v := hval0
  have hW' := hW
  obtain ⟨p, q, hA0, hV, rfl, hfz, hnd⟩ := hW
  have hA : DataW.TrodAll enc Eczg.prog W 0 (fun _ => true) true Eczg.f4.params.toList args.toList ds p := hA0
  rw [Eczg.params4] at hA hval
  obtain ⟨v0, vs0, d0, ds0, p0, q0, hargs, rfl, rfl, h0, r0⟩ := trodAll_cons hA
  obtain ⟨v1, vs1, d1, ds1, p1, q1, rfl, rfl, rfl, h1, r1⟩ := trodAll_cons r0
  obtain ⟨v2, vs2, d2, ds2, p2, q2, rfl, rfl, rfl, h2, r2⟩ := trodAll_cons r1
  obtain ⟨rfl, rfl, rfl⟩ := trodAll_nil r2
  obtain rfl : args = #[v0, v1, v2] := by cases args; simp_all
  obtain ⟨rfl, rfl⟩ := trodVars_none hV
  obtain ⟨name, rfl, rfl, rfl, hnm⟩ := open_string Eczg.underlying9 (hval 0 9 v0 rfl rfl) h0
  obtain ⟨sa, m, sc, rfl⟩ := okWide_slice Eczg.underlying22 (hval 1 22 v1 rfl rfl)
  obtain ⟨ka, n, kc, rfl⟩ := okWide_slice Eczg.underlying23 (hval 2 23 v2 rfl rfl)
  have k1 := h1
  have k2 := h2
  have lt1 : ∀ x ∈ p1, x.block < W.heap.size := by obtain ⟨j, hj⟩ := k1; exact DataW.trod_lt j _ _ _ hj
  have lt2 : ∀ x ∈ p2, x.block < W.heap.size := by obtain ⟨j, hj⟩ := k2; exact DataW.trod_lt j _ _ _ hj
  obtain ⟨bs, s1, s2, s3⟩ : ∃ bs : Nat → Bool, (sa = none → m = 0 ∧ sc = 0) ∧ m ≤ maxLen ∧ Lies W sa m fun i => .bool (bs i) := by
    obtain ⟨fuel, hf⟩ := h1
    rcases open_bools Eczg.underlying22 Eczg.underlying4 (by kernel_rfl) hf with ⟨hcs, _⟩ | ⟨x, l, c, B, hcs, _, hl, hmx, _, hcell⟩
    · simp [Value.cells] at hcs
      obtain ⟨rfl, rfl, rfl⟩ := hcs
      exact ⟨fun _ => false, fun _ => ⟨rfl, rfl⟩, Nat.zero_le _, fun i hi => absurd hi (by omega)⟩
    · simp [Value.cells] at hcs
      obtain ⟨rfl, rfl, rfl⟩ := hcs
      exact ⟨B, fun h => absurd h (by simp), by omega, lies_of fun i hi => hcell i (by omega)⟩
  obtain ⟨ks, t1, t2, t3, t4⟩ : ∃ ks : Nat → ByteArray, (ka = none → n = 0 ∧ kc = 0) ∧ n ≤ maxLen ∧ (Lies W ka n fun i => .string (ks i)) ∧ ∀ i, i < n → (ks i).size ≤ maxLen := by
    obtain ⟨fuel, hf⟩ := h2
    rcases open_strs Eczg.underlying23 Eczg.underlying9 (by kernel_rfl) hf with ⟨hcs, _⟩ | ⟨x, l, c, mm, Sx, hcs, _, hl, hmx, hmm, _, hcell⟩
    · simp [Value.cells] at hcs
      obtain ⟨rfl, rfl, rfl⟩ := hcs
      exact ⟨fun _ => ⟨#[]⟩, fun _ => ⟨rfl, rfl⟩, Nat.zero_le _, fun i hi => absurd hi (by omega), fun i hi => absurd hi (by omega)⟩
    · simp [Value.cells] at hcs
      obtain ⟨rfl, rfl, rfl⟩ := hcs
      simp only [if_true] at hmm
      exact ⟨Sx, fun h => absurd h (by simp), by omega, lies_of fun i hi => (hcell i (by omega)).1, fun i hi => (hcell i (by omega)).2⟩
  clear hA0 hval0
  refine (walk name sa ka m sc n kc bs ks W hnm s1 t1 s2 t2 s3 t3 t4).mono fun e W' ⟨he, bel⟩ => ?_
  subst he
  exact ⟨_, rfl, _, _, _, [], _, [], hW', trodAll_mk1 (shut_bool Eczg.underlying4 _),
    (trodAll_cons_mk (shut_string Eczg.underlying9 hnm) (trodAll_cons_mk (Below.trod laidOut (by kernel_rfl) (of_decide_eq_true (by kernel_rfl)) k1 bel lt1) (trodAll_cons_mk (Below.trod laidOut (by kernel_rfl) (of_decide_eq_true (by kernel_rfl)) k2 bel lt2) trodAll_mk0))), rfl, bel.frame _, fun h => by cases h⟩

theorem over : Rows.fnResolveAssignLHSNonIdentRootGivesNoNameRow.holds Eczg.pinned (OpenSpec.ofChange Rows.fnResolveAssignLHSNonIdentRootGivesNoNameSpec) :=
  OpenClaim.holds_of_wide 4 Eczg.f4 rfl rfl rfl rfl rfl rfl rfl ⟨rfl, rfl, rfl, rfl, rfl⟩ rfl rfl rfl rfl rfl (by kernel_rfl) Eczg.func4 (by kernel_rfl)
    (of_decide_eq_true (by kernel_rfl)) (by unfold Func.isWrapper; first | (rw [if_pos (by decide +kernel)]; kernel_rfl) | (rw [if_neg (by decide +kernel)]; exact ⟨rfl, rfl⟩))
    (fun os started H enc _ => lifted os started H enc)

end Go.Proofs.Yoeczw.nonIdentRoot
namespace Go.Proofs.Yoeczw
/-- THE STATEMENT. -/
theorem nonIdentRoot_holds : Rows.FnResolveAssignLHSNonIdentRootGivesNoNameSaid := nonIdentRoot.over
#print axioms nonIdentRoot_holds
end Go.Proofs.Yoeczw
