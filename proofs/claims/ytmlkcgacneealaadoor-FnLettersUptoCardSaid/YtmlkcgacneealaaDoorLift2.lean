/- A law that returns true and turns nothing meets its row: the frame of every proof of this seat; arrays and addresses among the arguments opened. No conditions. -/
import Derived.Test.YtmlkcgacneealaaDoorLift
import Derived.Carry
set_option linter.unusedVariables false
set_option linter.unusedSimpArgs false
namespace Go.Proofs.YtmlkcgacneealaaDoor
open Go.ChangeShapes Go.WideShapes Go.ChangeAt Go.RowKit

theorem own : ownKnob Tryd.prog.godebug = none := by kernel_rfl
theorem laidOut : laidOutB Tryd.prog = true := by kernel_rfl

theorem trodAll_below {H : Type} {enc : TypeId × Value → H} {W W' : World} (hb : Below W.heap.size W W') : ∀ (ts : List TypeId) (vs : List Value) (ds : List (DataW H)) (ps : List MemPlace),
    (∀ t ∈ ts, Tryd.prog.readableRec t = true ∧ t < Tryd.prog.types.size) → DataW.TrodAll enc Tryd.prog W 0 (fun _ => true) true ts vs ds ps → (∀ x ∈ ps, x.block < W.heap.size) →
    DataW.TrodAll enc Tryd.prog W' 0 (fun b => decide (b < W.heap.size)) true ts vs ds ps
  | [], [], [], ps, _, h, _ => h
  | t :: ts, v :: vs, d :: ds, ps, hr, h, hlt => by
    obtain ⟨p, q, h1, h2, rfl⟩ := h
    exact ⟨p, q, Below.trod laidOut (hr t (by simp)).1 (hr t (by simp)).2 h1 hb (fun x hx => hlt x (by simp [hx])), trodAll_below hb ts vs ds q (fun t' ht' => hr t' (by simp [ht'])) h2 (fun x hx => hlt x (by simp [hx])), rfl⟩
  | [], [], _ :: _, _, _, h, _ => by cases h
  | [], _ :: _, _, _, _, h, _ => by cases h
  | _ :: _, [], _, _, _, h, _ => by cases h
  | _ :: _, _ :: _, [], _, _, h, _ => by cases h

theorem law_close {H : Type} {enc : TypeId × Value → H} {f : Func} {s : ChangeSpec} {W W' : World} {args : Array Value} {ds gs : List (DataW H)} {before : List MemPlace}
    (hv : s.vars = []) (hr : f.resultTypes = #[4]) (hread : ∀ t ∈ f.params.toList, Tryd.prog.readableRec t = true ∧ t < Tryd.prog.types.size)
    (hW : DataW.Whole enc Tryd.prog f.params.toList s.vars false W args.toList ds gs before) (hfn : s.fn H (ds ++ gs) = { results := [.lit (.bool true)], args := ds }) (hb : Below W.heap.size W W') :
    s.post enc Tryd.prog f false true false false W args (.bool true) W' := by
  have hlt : ∀ x ∈ before, x.block < W.heap.size := fun x hx => hW.lt x hx
  obtain ⟨p, q, hA, hV, rfl, hfz, hnd⟩ := hW
  rw [hv] at hV
  obtain ⟨rfl, rfl⟩ := trodVars_none hV
  refine ⟨ds, [], p ++ [], [], p, [], ⟨p, [], hA, by rw [hv]; exact hV, rfl, hfz, hnd⟩, ?_, ?_, ?_, hb.frame _, fun h => by cases h⟩
  · rw [hfn, hr]
    exact trodAll_mk1 (shut_bool Tryd.underlying4 _)
  · rw [hfn]
    exact trodAll_below hb _ _ _ _ hread hA (fun x hx => hlt x (by simpa using hx))
  · rw [hfn, hv]; rfl

/-- Bytes by value. -/
theorem bytes_of {H : Type} {enc : TypeId × Value → H} {w : World} {spare : Nat → Bool} {held : Bool} {fuel n : Nat} {t : TypeId} {cs : List Value} {x : DataW H × List MemPlace}
    (hu : Tryd.prog.underlying t = some (.array n 5)) (hC : Tryd.prog.cellsOf t = n) (h : DataW.trod enc Tryd.prog w 0 spare held fuel t cs = some x) :
    ∃ b : Nat → Int, Bt b ∧ cs = (List.range n).map (fun i => Value.int .u8 (b i)) ∧ ∀ i, n ≤ i → b i = 0 := by
  obtain ⟨xs, m, _, _, hl, hlen, hf⟩ := DataW.trod_array hu h
  rw [hC] at hl
  have hcell : ∀ i, i < n → ∃ z : Int, cs[i]? = some (.int .u8 z) ∧ 0 ≤ z ∧ z < 256 := fun i hi => by
    have h1 := hf i hi
    rw [cells5, Nat.mul_one] at h1
    have hi' : i < cs.length := by omega
    have hone : (cs.drop i).take 1 = [cs[i]] := by rw [List.drop_eq_getElem_cons hi']; rfl
    rw [hone] at h1
    have hx : xs[i]? = some (xs[i]'(by omega)) := List.getElem?_eq_getElem (by omega)
    rw [hx] at h1
    obtain ⟨z, hz, _, wf⟩ := DataW.trod_int Tryd.underlying5 h1
    simp only [List.cons.injEq, and_true] at hz
    refine ⟨z, by rw [List.getElem?_eq_getElem hi', hz], ?_⟩
    have := bounds_u8 wf
    omega
  refine ⟨fun i => if h : i < n then (hcell i h).choose else 0, fun i => ?_, ?_, fun i hi => by simp [Nat.not_lt.2 hi]⟩
  · by_cases h : i < n
    · simp only [h, dif_pos]
      have := (hcell i h).choose_spec
      exact this.2
    · simp [h]
  · apply List.ext_getElem?
    intro i
    by_cases h : i < n
    · rw [(hcell i h).choose_spec.1]
      simp [h]
    · rw [List.getElem?_eq_none (by omega), List.getElem?_eq_none (by simp; omega)]

theorem agg_of {P : Program} {w : World} {r : Reach} {base n : Nat} {t e : TypeId} {v : Value} (ht : P.underlying t = some (.array n e)) (h : Value.okWide P w r base t v) : ∃ cs, v = .agg cs := by
  simp only [Value.okWide, ht] at h
  obtain ⟨cs, h1, _⟩ := h
  exact ⟨cs, h1⟩
theorem cellsOf22 : Tryd.prog.cellsOf 22 = 4 := by kernel_rfl
theorem cellsOf23 : Tryd.prog.cellsOf 23 = 16 := by kernel_rfl
theorem cellsOf29 : Tryd.prog.cellsOf 29 = 18 := by kernel_rfl
theorem cellsOf3 : Tryd.prog.cellsOf 3 = 1 := by kernel_rfl

set_option maxRecDepth 100000 in
theorem open4 {H : Type} {enc : TypeId × Value → H} {w : World} {r : Reach} {base : Nat} {v : Value} {d : DataW H} {p : List MemPlace}
    (hv : Value.okWide Tryd.prog w r base 22 v) (h : DataW.Trod enc Tryd.prog w 0 (fun _ => true) true 22 v d p) : ∃ b : Nat → Int, Bt b ∧ v = .agg (arr4 b) := by
  obtain ⟨cs, rfl⟩ := agg_of Tryd.underlying22 hv
  obtain ⟨fuel, hf⟩ := h
  obtain ⟨b, hb, hc, _⟩ := bytes_of Tryd.underlying22 cellsOf22 hf
  refine ⟨b, hb, ?_⟩
  have : cs = (arr4 b) := by
    apply Array.ext'
    exact Eq.trans hc rfl
  rw [this]
set_option maxRecDepth 100000 in
theorem open16 {H : Type} {enc : TypeId × Value → H} {w : World} {r : Reach} {base : Nat} {v : Value} {d : DataW H} {p : List MemPlace}
    (hv : Value.okWide Tryd.prog w r base 23 v) (h : DataW.Trod enc Tryd.prog w 0 (fun _ => true) true 23 v d p) : ∃ b : Nat → Int, Bt b ∧ v = .agg (arr16 b) := by
  obtain ⟨cs, rfl⟩ := agg_of Tryd.underlying23 hv
  obtain ⟨fuel, hf⟩ := h
  obtain ⟨b, hb, hc, _⟩ := bytes_of Tryd.underlying23 cellsOf23 hf
  refine ⟨b, hb, ?_⟩
  have : cs = (arr16 b) := by
    apply Array.ext'
    exact Eq.trans hc rfl
  rw [this]
end Go.Proofs.YtmlkcgacneealaaDoor
