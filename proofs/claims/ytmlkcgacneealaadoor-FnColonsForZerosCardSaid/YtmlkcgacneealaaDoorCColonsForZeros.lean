/- For every sixteen bytes and every stretch FnColonsForZeros returns true. Conditions: as the row's cells say (the listed variables as laid). -/
import Derived.Test.YtmlkcgacneealaaDoorLawX
import Derived.Test.YtmlkcgacneealaaDoorLift3
import Derived.Test.YtmlkcgacneealaaDoorKColonsForZeros
import Derived.Test.YtmlkcgacneealaaDoorShared
import Derived.Test.YtmlkcgacneealaaDoorTie
import Derived.Test.YtmlkcgacneealaaDoorCards
set_option linter.unusedVariables false
set_option linter.unusedSimpArgs false
namespace Go.Proofs.YtmlkcgacneealaaDoor
open Go.ChangeShapes Go.WideShapes Go.ChangeAt Go.RowKit
set_option maxRecDepth 100000 in
theorem fnColonsForZeros_lifted (os : Os) (started : os.Started) (H : Type) (enc : TypeId × Value → H) :
    ReturnsInHanded {} Tryd.checked os 19 .any (fun w args => (Rows.fnColonsForZerosSpec.pre enc Tryd.prog Tryd.f19 [] false w args ∧ laidMetH Tryd.prog Rows.fnColonsForZerosRow.laid w) ∧ sizedMet enc Tryd.prog Tryd.f19 (OpenSpec.ofChange Rows.fnColonsForZerosSpec) false w args)
      (Rows.fnColonsForZerosSpec.post enc Tryd.prog Tryd.f19 false true false false) := by
  refine returnsInHanded_of_change_and (C := Tryd.checked) (X := fun w _ => laidMetH Tryd.prog Rows.fnColonsForZerosRow.laid w) (fun _ _ _ hh h => h.of_heap hh) own started (by kernel_rfl) Tryd.func19
    (ChangeSpec.witness_shaped (enc := enc) (C := Tryd.checked) (os := os) (X := fun w _ => laidMetH Tryd.prog Rows.fnColonsForZerosRow.laid w) false (World.laidAll Tryd.prog os Rows.fnColonsForZerosRow.laid) #[.agg #[.int .u8 0, .int .u8 0, .int .u8 0, .int .u8 0, .int .u8 0, .int .u8 0, .int .u8 0, .int .u8 0, .int .u8 0, .int .u8 0, .int .u8 0, .int .u8 0, .int .u8 0, .int .u8 0, .int .u8 0, .int .u8 0], .int .u8 0, .int .u8 0] 8 (World.laidAll_os _ _ _)
      (World.shaped_of_ZipB (by kernel_rfl) (by kernel_rfl)) (by kernel_rfl) (by kernel_rfl) (by kernel_rfl)
      (by rw [MakeChecks.laidMetH_plain _ _ _ (by kernel_rfl)]; exact laidMet_laidAll _ (by kernel_rfl) (by kernel_rfl))) ?_
  intro W base args ds gs before hval0 hW _ _ hL _
  have hval : ∀ (j : Nat) t v, Tryd.f19.params[j]? = some t → args[j]? = some v → Value.okWide Tryd.prog W .any base t v := hval0
  have hW' := hW
  obtain ⟨p, q, hA0, hV, rfl, _, _⟩ := hW
  have hA : DataW.TrodAll enc Tryd.prog W 0 (fun _ => true) true Tryd.f19.params.toList args.toList ds p := hA0
  rw [Tryd.params19] at hA hval
  obtain ⟨v0, v1, v2, d0, d1, d2, p0, p1, p2, rfl, rfl, rfl, h0, h1, h2⟩ := trodAll_three hA
  obtain ⟨rfl, rfl⟩ := trodVars_none hV
  obtain ⟨b4, o4, b6, o6, hG⟩ := gl_of_laid hL
  obtain ⟨b, hb0, rfl⟩ := open16 (hval 0 23 v0 rfl rfl) h0
  obtain ⟨m, rfl, rfl, rfl, hm⟩ := open_int Tryd.underlying5 (hval 1 5 v1 rfl rfl) h1
  obtain ⟨k, rfl, rfl, rfl, hk⟩ := open_int Tryd.underlying5 (hval 2 5 v2 rfl rfl) h2
  refine (law19 b hb0 m (by have := bounds_u8 hm; omega) k (by have := bounds_u8 hk; omega) W hG).mono fun e W' ⟨he, hb⟩ => ?_
  subst he
  refine ⟨_, rfl, law_close rfl rfl ?_ hW' rfl hb⟩
  intro t ht
  rw [Tryd.params19] at ht
  have hall : (([23, 5, 5] : List TypeId).all fun t => Tryd.prog.readableRec t && decide (t < Tryd.prog.types.size)) = true := by kernel_rfl
  have := List.all_eq_true.1 hall t ht
  simpa using this
theorem fnColonsForZeros_named : Tryd.pinned.checked.prog.funcNamed Rows.fnColonsForZerosRow.func = some 19 := by kernel_rfl
set_option maxRecDepth 100000 in
theorem fnColonsForZeros_holds : Rows.FnColonsForZerosSaid :=
  OpenClaim.holds_of_wide 19 Tryd.f19 rfl rfl rfl rfl rfl rfl rfl ⟨rfl, rfl, rfl, rfl, rfl⟩ rfl rfl rfl rfl rfl fnColonsForZeros_named Tryd.func19 fnColonsForZeros_facts
    (of_decide_eq_true (by kernel_rfl)) (by unfold Func.isWrapper; first | (rw [if_pos (by decide +kernel)]; kernel_rfl) | (rw [if_neg (by decide +kernel)]; exact ⟨rfl, rfl⟩))
    (fun os started H enc _ => fnColonsForZeros_lifted os started H enc)
theorem fnColonsForZeros_card : Rows.FnColonsForZerosCardSaid :=
  Claim7.holds_tied_plain_at .later [] [.called, .called, .zero] true (true, "570322591d50aed281b8eadefbfeb9a654fb497d93e3c22329b470258c53331a") false fnColonsForZeros_holds (fun _ h => by cases h) fnColonsForZeros_wfb (fun _ h => by cases h) fnColonsForZeros_row_tie rfl ⟨rfl, rfl⟩ prog_main rfl
    (fun f fn hf hfn => by
      obtain rfl : f = 19 := Option.some.inj (fnColonsForZeros_name.symm.trans hf) |>.symm
      obtain rfl : fn = Tryd.f19 := (Option.some.inj (Tryd.func19.symm.trans hfn)).symm
      exact ⟨prog_looks, fun j t ht => by
        rw [Tryd.params19] at ht
        have hm : t ∈ ([23, 5, 5] : List TypeId) := by simpa using Array.mem_of_getElem? ht
        have hall : (([23, 5, 5] : List TypeId).all fun u => !Tryd.prog.wantsStandIn u) = true := by kernel_rfl
        exact (show Tryd.prog.wantsStandIn t = false by simpa using List.all_eq_true.1 hall t hm)⟩)
    fnColonsForZeros_goes
#print axioms fnColonsForZeros_card
end Go.Proofs.YtmlkcgacneealaaDoor
