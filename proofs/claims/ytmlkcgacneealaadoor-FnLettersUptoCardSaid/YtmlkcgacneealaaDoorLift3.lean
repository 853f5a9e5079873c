/- Slices of bytes and addresses among the arguments opened to cells. No conditions. -/
import Derived.Test.YtmlkcgacneealaaDoorLift2
set_option linter.unusedVariables false
set_option linter.unusedSimpArgs false
namespace Go.Proofs.YtmlkcgacneealaaDoor
open Go.ChangeShapes Go.WideShapes Go.ChangeAt Go.RowKit

set_option maxRecDepth 100000 in
theorem openBytes {H : Type} {enc : TypeId × Value → H} {w : World} {r : Reach} {base : Nat} {v : Value} {d : DataW H} {p : List MemPlace}
    (hv : Value.okWide Tryd.prog w r base 28 v) (h : DataW.Trod enc Tryd.prog w 0 (fun _ => true) true 28 v d p) :
    ∃ a n c, v = .slice a n c ∧ (0 < n → ∃ g o, a = some ⟨g, o, none⟩ ∧ g < w.heap.size ∧ ∃ b : Nat → Int, Bt b ∧ ∀ i, i < n → w.cell? ⟨g, o + i, none⟩ = some (.int .u8 (b i))) := by
  obtain ⟨a0, len, cap, rfl⟩ := okWide_slice Tryd.underlying28 hv
  obtain ⟨fuel, hf⟩ := h
  refine ⟨a0, len, cap, rfl, fun hpos => ?_⟩
  rcases open_ints Tryd.underlying28 Tryd.underlying5 cells5 hf with ⟨hcs, hx⟩ | ⟨a, len', cap', zs, hcs, _, hl, hm, hz, hx, hcell, hwz⟩
  · simp [Value.cells] at hcs; omega
  · simp [Value.cells] at hcs
    obtain ⟨rfl, rfl, rfl⟩ := hcs
    simp only [if_true] at hz
    obtain ⟨g, o, rfl, hc⟩ := ints_at hcell (by omega)
    have h0 := hc 0 (by omega)
    refine ⟨g, o, rfl, World.block_lt_of_cell? w _ h0, fun i => zs.getD i 0, fun i => ?_, fun i hi => hc i (by omega)⟩
    show 0 ≤ zs.getD i 0 ∧ zs.getD i 0 < 256
    by_cases hi : i < zs.length
    · have := bounds_u8 (hwz (zs.getD i 0) (by simp [List.getD, hi]))
      omega
    · simp [List.getD, List.getElem?_eq_none (Nat.le_of_not_lt hi)]
theorem list_one' {α : Type} {l : List α} (h : l.length = 1) : ∃ a, l = [a] := list_one h
theorem list_three {α : Type} {l : List α} (h : l.length = 3) : ∃ a b c, l = [a, b, c] := by
  match l, h with
  | [a, b, c], _ => exact ⟨a, b, c, rfl⟩
theorem aggS_of {P : Program} {w : World} {r : Reach} {base : Nat} {t : TypeId} {fs : Array Field} {v : Value} (ht : P.underlying t = some (.struct fs)) (h : Value.okWide P w r base t v) : ∃ cs, v = .agg cs := by
  simp only [Value.okWide, ht] at h
  obtain ⟨cs, h1, _⟩ := h
  exact ⟨cs, h1⟩
set_option maxRecDepth 100000 in
theorem openAdr {H : Type} {enc : TypeId × Value → H} {w : World} {r : Reach} {base : Nat} {v : Value} {d : DataW H} {p : List MemPlace}
    (hv : Value.okWide Tryd.prog w r base 29 v) (h : DataW.Trod enc Tryd.prog w 0 (fun _ => true) true 29 v d p) :
    ∃ (n : Int) (b : Nat → Int) (z : ByteArray), Bt b ∧ v = .agg (adr n b z) ∧ (Lit.int .i64 n).wf = true ∧ z.size ≤ maxLen := by
  obtain ⟨cs, rfl⟩ := aggS_of Tryd.underlying29 hv
  obtain ⟨fuel, hf⟩ := h
  obtain ⟨xs, m, _, hx, hl, hlen, hfl⟩ := DataW.trod_struct Tryd.underlying29 hf
  rw [cellsOf29] at hl
  obtain ⟨x0, x1, x2, rfl⟩ := list_three (hlen.trans rfl)
  have g0 : DataW.trod enc Tryd.prog w 0 (fun _ => true) true m 3 ((cs.toList.drop 0).take (Tryd.prog.cellsOf 3)) = some x0 := hfl 0 _ rfl
  have g1 : DataW.trod enc Tryd.prog w 0 (fun _ => true) true m 23 ((cs.toList.drop 1).take (Tryd.prog.cellsOf 23)) = some x1 := hfl 1 _ rfl
  have g2 : DataW.trod enc Tryd.prog w 0 (fun _ => true) true m 9 ((cs.toList.drop 17).take (Tryd.prog.cellsOf 9)) = some x2 := hfl 2 _ rfl
  have hl' : cs.toList.length = 18 := hl
  rw [cellsOf3] at g0
  rw [cellsOf23] at g1
  rw [cells9] at g2
  obtain ⟨n, e0, _, wn⟩ := DataW.trod_int Tryd.underlying3 g0
  obtain ⟨b, hb, e1, _⟩ := bytes_of Tryd.underlying23 cellsOf23 g1
  obtain ⟨z, e2, _, wz⟩ := DataW.trod_string Tryd.underlying9 g2
  refine ⟨n, b, z, hb, ?_, wn, wz⟩
  have hs : cs.toList = (cs.toList.drop 0).take 1 ++ (cs.toList.drop 1).take 16 ++ (cs.toList.drop 17).take 1 := by
    generalize cs.toList = l at hl' ⊢
    match l, hl' with
    | [a0, a1, a2, a3, a4, a5, a6, a7, a8, a9, a10, a11, a12, a13, a14, a15, a16, a17], _ => rfl
  have : cs = adr n b z := by
    apply Array.ext'
    rw [hs, e0, e1, e2]
    rfl
  rw [this]
end Go.Proofs.YtmlkcgacneealaaDoor
