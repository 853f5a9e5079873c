/- For every text and every list of capitals of bulk at most 1048576, FnLetters returns true. Conditions: as the row's cells say (the listed variables as laid; the bulk of what it reads). -/
import Derived.Test.YtmlkcgacneealaaDoorZg
import Derived.Test.YtmlkcgacneealaaDoorLift3
import Derived.Test.YtmlkcgacneealaaDoorKLettersU
import Derived.Test.YtmlkcgacneealaaDoorShared
import Derived.Test.YtmlkcgacneealaaDoorTie
import Derived.Test.YtmlkcgacneealaaDoorCards
import Derived.JoinedCond
import Derived.Deep.Grids
set_option linter.unusedVariables false
set_option linter.unusedSimpArgs false
namespace Go.Proofs.YtmlkcgacneealaaDoor
open Go.ChangeShapes Go.WideShapes Go.ChangeAt Go.RowKit
theorem bulk_bools {H : Type} (B : Nat → Bool) : ∀ l : List Nat, Rows.uptoBulkAll (l.map fun i => (DataW.lit (.bool (B i)) : DataW H)) = l.length
  | [] => by rw [List.map_nil, Rows.uptoBulkAll]; rfl
  | i :: l => by
    rw [List.map_cons, Rows.uptoBulkAll, bulk_bools B l, List.length_cons]
    simp only [Rows.uptoBulk]; omega
/-- A string as a list of numbers. -/
def nb (z : ByteArray) : List Int := z.data.toList.map fun u => (u.toNat : Int)
theorem ba_nb (z : ByteArray) : ba (nb z) = z := by
  apply ByteArray.ext
  apply Array.toList_inj.1
  show ((nb z).map fun n => UInt8.ofNat n.toNat).toArray.toList = z.data.toList
  unfold nb
  simp [Function.comp_def]
theorem By_nb (z : ByteArray) : By (nb z) := fun x hx => by
  obtain ⟨u, _, rfl⟩ := List.mem_map.1 hx
  have := u.toNat_lt
  omega
theorem nb_len (z : ByteArray) : (nb z).length = z.data.toList.length := by unfold nb; rw [List.length_map]
set_option maxRecDepth 100000 in
theorem fnLettersU_lifted (os : Os) (started : os.Started) (H : Type) (enc : TypeId × Value → H) (F : Stop.Interp) :
    ReturnsInHanded {} Tryd.checked os 21 .any (Rows.fnLettersUptoRow.pre enc Tryd.prog Tryd.f21 (Rows.OpenSpec.upto Rows.fnLettersSpec)) (((Rows.OpenSpec.upto Rows.fnLettersSpec).at F).post enc Tryd.prog Tryd.f21 false true false false) := by
  refine returnsInHanded_of_calls own started (by kernel_rfl) ?_ ?_
  · obtain ⟨w, tape, i, h1, h2, h3, h4, h5, h6⟩ := ChangeSpec.witness_shaped (f := 21) (fn := Tryd.f21) (s := Rows.fnLettersSpec) (conds := []) (apart := false) (enc := enc) (C := Tryd.checked) (os := os) (X := fun w args => laidMetH Tryd.prog Rows.fnLettersUptoRow.laid w ∧ ∃ (ds gs : List (DataW H)) (before : List MemPlace), DataW.Whole enc Tryd.prog Tryd.f21.params.toList [] false w args.toList ds gs before ∧ Rows.uptoSmall H (ds ++ gs) = true) false (World.laidAll Tryd.prog os Rows.fnLettersUptoRow.laid) #[.string ⟨#[]⟩, .slice none 0 0] 8 (World.laidAll_os _ _ _)
      (World.shaped_of_ZipB (by kernel_rfl) (by kernel_rfl)) (by kernel_rfl) (by kernel_rfl) (by kernel_rfl)
      ⟨by rw [MakeChecks.laidMetH_plain _ _ _ (by kernel_rfl)]; exact laidMet_laidAll _ (by kernel_rfl) (by kernel_rfl),
        [.lit (.string []), .nil], [], [], DataW.Whole_of_whole (fuel := 8) (x := ([.lit (.string []), .nil], [], [])) (by kernel_rfl), by rfl⟩
    obtain ⟨⟨p1, p2, ds, gs, before, p3, p4⟩, p5⟩ := h5
    exact ⟨w, tape, i, h1, h2, h3, h4, ⟨⟨(OpenSpec.pre_some rfl _ _ _ _).2 ⟨ds, gs, before, p3, by rfl, p4⟩, p2⟩, p5⟩, h6⟩
  · intro w tape i _ _ _ hok hpre hholds
    obtain ⟨_, _, _, fn', hfn', _, _, _, _, hval0⟩ := hok
    have e : fn' = Tryd.f21 := Option.some.inj (hfn'.symm.trans Tryd.func21)
    subst e
    obtain ⟨⟨hp, hlaid⟩, _⟩ := hpre
    obtain ⟨ds, gs, before, hw, _, hkk⟩ := (OpenSpec.pre_some rfl _ _ _ _).1 hp
    have hW : DataW.Whole enc Tryd.prog Tryd.f21.params.toList Rows.fnLettersSpec.vars false (w.forCall tape i) i.args.toList ds gs before := DataW.Whole.of_heap (w' := w.forCall tape i) (by rfl) hw
    have hL : laidMetH Tryd.prog Rows.fnLettersUptoRow.laid (w.forCall tape i) := laidMetH.of_heap (by rfl) hlaid
    obtain ⟨args, hargs⟩ : ∃ args, args = i.args := ⟨_, rfl⟩
    rw [← hargs] at hW hval0 ⊢
    obtain ⟨W, hWd⟩ : ∃ W, W = w.forCall tape i := ⟨_, rfl⟩
    rw [← hWd] at hW hL hval0 ⊢
    have key : Calls Tryd.prog 21 args W fun e W' => ∃ v, e = .returned v ∧ Rows.fnLettersSpec.post enc Tryd.prog Tryd.f21 false true false false W args v W' := by
      have hval : ∀ (j : Nat) t v, Tryd.f21.params[j]? = some t → args[j]? = some v → Value.okWide Tryd.prog W .any w.heap.size t v := hval0
      have hW' := hW
      obtain ⟨p, q, hA0, hV, rfl, _, _⟩ := hW
      have hA : DataW.TrodAll enc Tryd.prog W 0 (fun _ => true) true Tryd.f21.params.toList args.toList ds p := hA0
      rw [Tryd.params21] at hA hval
      obtain ⟨v0, v1, d0, d1, p0, p1, rfl, rfl, rfl, h0, h1⟩ := trodAll_two hA
      obtain ⟨rfl, rfl⟩ := trodVars_none hV
      obtain ⟨b4, o4, b6, o6, hG⟩ := gl_of_laid hL
      obtain ⟨z, rfl⟩ := okWide_string Tryd.underlying9 (hval 0 9 v0 rfl rfl)
      obtain ⟨f0, h0'⟩ := h0
      obtain ⟨z', hz', hx0, _⟩ := DataW.trod_string Tryd.underlying9 h0'
      simp only [Value.cells] at hz'
      obtain rfl : z' = z := by simpa using hz'.symm
      simp only [Prod.mk.injEq] at hx0
      obtain ⟨a0, len, cap, rfl⟩ := okWide_slice Tryd.underlying66 (hval 1 66 v1 rfl rfl)
      obtain ⟨f1, h1'⟩ := h1
      have hsmall : Rows.uptoBulkAll ([d0, d1] : List (DataW H)) ≤ 1048576 := by
        have := of_decide_eq_true hkk
        simpa using this
      rw [hx0.1] at hsmall
      simp only [Rows.uptoBulkAll, Rows.uptoBulk] at hsmall
      have hs : (nb z').length ≤ 1048576 := by rw [nb_len]; omega
      have hcap : len ≤ 1048576 ∧ (0 < len → ∃ g o, a0 = some ⟨g, o, none⟩ ∧ g < W.heap.size ∧ ∃ B : Nat → Bool, ∀ i, i < len → W.cell? ⟨g, o + i, none⟩ = some (.bool (B i))) := by
        rcases Go.Deep.open_bools Tryd.underlying66 Tryd.underlying4 cells4 h1' with ⟨hcs, hx⟩ | ⟨a, len', cap', B, hcs, _, hl, hm, hx, hcell⟩
        · simp [Value.cells] at hcs
          obtain ⟨_, rfl, _⟩ := hcs
          exact ⟨by omega, fun h => by omega⟩
        · simp [Value.cells] at hcs
          obtain ⟨rfl, rfl, rfl⟩ := hcs
          simp only [Prod.mk.injEq] at hx
          rw [hx.1] at hsmall
          simp only [Go.Deep.boolRow, Rows.uptoBulk, bulk_bools, List.length_range] at hsmall
          refine ⟨by omega, fun hpos => ?_⟩
          have hc0 := hcell 0 (by omega)
          obtain ⟨g, o, rfl⟩ := spot_none (by simpa [Addr.add] using hc0 : W.cell? a = some (.bool (B 0)))
          refine ⟨g, o, rfl, World.block_lt_of_cell? W _ (by simpa [Addr.add] using hc0 : W.cell? ⟨g, o, none⟩ = some (.bool (B 0))), B, fun i hi => ?_⟩
          have := hcell i (by omega)
          rw [Addr.add_lit] at this
          exact this
      have hlaw := law21 (nb z') (By_nb z') hs a0 len cap hcap.1 W hG hcap.2
      rw [ba_nb] at hlaw
      refine hlaw.mono fun e W' ⟨he, hb⟩ => ?_
      subst he
      refine ⟨_, rfl, law_close rfl rfl ?_ hW' rfl hb⟩
      intro t ht
      rw [Tryd.params21] at ht
      have hall : (([9, 66] : List TypeId).all fun t => Tryd.prog.readableRec t && decide (t < Tryd.prog.types.size)) = true := by kernel_rfl
      have := List.all_eq_true.1 hall t ht
      simpa using this
    refine key.mono fun e W' ⟨v, he, hp⟩ => ?_
    subst he
    subst hWd
    subst hargs
    exact ChangeSpec.post_blind hp
theorem fnLettersU_named : Tryd.pinned.checked.prog.funcNamed Rows.fnLettersUptoRow.func = some 21 := by kernel_rfl
set_option maxRecDepth 100000 in
theorem fnLettersU_holds : Rows.FnLettersUptoSaid :=
  OpenClaim.holds_of_cond 21 Tryd.f21 rfl rfl rfl rfl rfl rfl rfl ⟨rfl, rfl, rfl, rfl, rfl⟩ rfl rfl rfl rfl rfl fnLettersU_named Tryd.func21 fnLettersU_facts
    (of_decide_eq_true (by kernel_rfl)) (by unfold Func.isWrapper; first | (rw [if_pos (by decide +kernel)]; kernel_rfl) | (rw [if_neg (by decide +kernel)]; exact ⟨rfl, rfl⟩))
    (fun os started H enc _ F => fnLettersU_lifted os started H enc F)
theorem fnLettersUpto_card : Rows.FnLettersUptoCardSaid :=
  Claim7.holds_tied_plain_at .later [] [.called, .called, .zero] true (true, "570322591d50aed281b8eadefbfeb9a654fb497d93e3c22329b470258c53331a") false fnLettersU_holds (fun _ h => by cases h) fnLettersU_wfb (fun _ h => by cases h) fnLettersUpto_row_tie rfl ⟨rfl, rfl⟩ prog_main rfl
    (fun f fn hf hfn => by
      obtain rfl : f = 21 := Option.some.inj (fnLettersU_name.symm.trans hf) |>.symm
      obtain rfl : fn = Tryd.f21 := (Option.some.inj (Tryd.func21.symm.trans hfn)).symm
      exact ⟨prog_looks, fun j t ht => by
        rw [Tryd.params21] at ht
        have hm : t ∈ ([9, 66] : List TypeId) := by simpa using Array.mem_of_getElem? ht
        have hall : (([9, 66] : List TypeId).all fun u => !Tryd.prog.wantsStandIn u) = true := by kernel_rfl
        exact (show Tryd.prog.wantsStandIn t = false by simpa using List.all_eq_true.1 hall t hm)⟩)
    fnLettersU_goes
#print axioms fnLettersUpto_card
end Go.Proofs.YtmlkcgacneealaaDoor
