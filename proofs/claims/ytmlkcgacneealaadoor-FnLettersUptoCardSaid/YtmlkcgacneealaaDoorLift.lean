/- From the rows' condition on the listed variables to the facts that the walks take; arguments opened to cells. No conditions. -/
import Derived.Test.YtmlkcgacneealaaDoorAd
import Derived.Test.YtmlkcgacneealaaDoorRows
import Derived.ProofKit
import Derived.OpenShut
import Derived.Lay
import Derived.SevenTiedAt
import Derived.MakeChecks
set_option linter.unusedVariables false
set_option linter.unusedSimpArgs false
namespace Go.Proofs.YtmlkcgacneealaaDoor
open Go.ChangeShapes Go.WideShapes Go.ChangeAt Go.RowKit

theorem gz4 : Tryd.prog.globalNamed "net/netip.z4" = some 0 := by kernel_rfl
theorem gz6 : Tryd.prog.globalNamed "net/netip.z6noz" = some 1 := by kernel_rfl
theorem gz0 : Tryd.prog.globalNamed "net/netip.z0" = some 2 := by kernel_rfl
theorem gt4 : (Tryd.prog.globals[0]?).map (·.type) = some 76 := by kernel_rfl
theorem gt6 : (Tryd.prog.globals[1]?).map (·.type) = some 76 := by kernel_rfl
theorem gt0 : (Tryd.prog.globals[2]?).map (·.type) = some 76 := by kernel_rfl
theorem cells131 : Tryd.prog.cellsOf 131 = 2 := by kernel_rfl
theorem cells74 : Tryd.prog.cellsOf 74 = 1 := by kernel_rfl
theorem cells76 : Tryd.prog.cellsOf 76 = 1 := by kernel_rfl
theorem cells4 : Tryd.prog.cellsOf 4 = 1 := by kernel_rfl
theorem cells9 : Tryd.prog.cellsOf 9 = 1 := by kernel_rfl

theorem spot_none {w : World} {a : Addr} {v : Value} (h : w.cell? a = some v) : ∃ b o, a = ⟨b, o, none⟩ := by
  obtain ⟨b, o, sp⟩ := a
  unfold World.cell? at h
  cases sp with
  | none => exact ⟨b, o, rfl⟩
  | some s =>
    split at h
    · simp at h
    · cases h

theorem list_one {α : Type} {l : List α} (h : l.length = 1) : ∃ a, l = [a] := by
  match l, h with
  | [a], _ => exact ⟨a, rfl⟩
theorem list_two {α : Type} {l : List α} (h : l.length = 2) : ∃ a b, l = [a, b] := by
  match l, h with
  | [a, b], _ => exact ⟨a, b, rfl⟩
/-- A handle that reads as a detail. -/
theorem detail_of {H : Type} {enc : TypeId × Value → H} {w : World} {spare : Nat → Bool} {held : Bool} {fuel : Nat} {cs : List Value} {bo : Bool} {p : List MemPlace}
    (h : DataW.trod enc Tryd.prog w 0 spare held fuel 76 cs = some (.agg [.ptr (.agg [.lit (.bool bo), .lit (.string [])])], p)) :
    ∃ b o, cs = [.pointer (some ⟨b, o, none⟩)] ∧ w.cell? ⟨b, o, none⟩ = some (.bool bo) ∧ w.cell? ⟨b, o + 1, none⟩ = some (.string ⟨#[]⟩) ∧ MemPlace.cell b o ∈ p := by
  obtain ⟨xs, n, _, hx, hl, hlen, hf⟩ := DataW.trod_struct Tryd.underlying76 h
  rw [cells76] at hl
  obtain ⟨c0, rfl⟩ := list_one hl
  obtain ⟨x0, rfl⟩ := list_one (hlen.trans rfl)
  have h0 := hf 0 _ rfl
  simp [cells74] at h0
  simp only [Prod.mk.injEq, List.map_cons, List.map_nil, DataW.agg.injEq, List.cons.injEq, and_true, List.flatMap_cons, List.flatMap_nil, List.append_nil] at hx
  obtain ⟨hx1, rfl⟩ := hx
  rcases DataW.trod_pointer Tryd.underlying74 h0 with ⟨hc, hy⟩ | ⟨a, cs', y, m, _, hc, hy, hcells, hd⟩
  · have : x0 = (.nil, []) := by simpa using hy
    rw [this] at hx1
    cases hx1
  · have hy' : x0 = (.ptr y.1, MemPlace.row a (Tryd.prog.cellsOf 131) ++ y.2) := by simpa using hy
    rw [hy'] at hx1
    simp only [DataW.ptr.injEq] at hx1
    obtain ⟨_, hl2, hat⟩ := World.cells?_some hcells
    rw [cells131] at hl2 hat
    obtain ⟨ys, m', _, hyy, hl3, hlen3, hf3⟩ := DataW.trod_struct Tryd.underlying131 hd
    obtain ⟨d0, d1, rfl⟩ := list_two hl2
    obtain ⟨y0, y1, rfl⟩ := list_two (hlen3.trans rfl)
    have g0 := hf3 0 _ rfl
    have g1 := hf3 1 _ rfl
    simp [cells4] at g0
    simp [cells9] at g1
    obtain ⟨b0, e0, ey0⟩ := DataW.trod_bool Tryd.underlying4 g0
    obtain ⟨s1, e1, ey1, _⟩ := DataW.trod_string Tryd.underlying9 g1
    simp only [List.cons.injEq, and_true] at e0 e1
    subst e0 e1
    rw [hyy] at hx1
    rw [ey0, ey1] at hx1
    simp only [List.map_cons, List.map_nil, DataW.agg.injEq, List.cons.injEq, DataW.lit.injEq, Lit.bool.injEq, Lit.string.injEq, and_true] at hx1
    obtain ⟨hb, hs⟩ := hx1
    have c0' := hat 0 (by omega)
    have c1' := hat 1 (by omega)
    have ha0 : a.add 0 = a := by simp [Addr.add]
    rw [ha0] at c0'
    obtain ⟨b, o, rfl⟩ := spot_none (by simpa using c0')
    refine ⟨b, o, by simpa using hc, ?_, ?_, ?_⟩
    · rw [c0', ← hb]; rfl
    · have ha1 : (⟨b, o, none⟩ : Addr).add 1 = ⟨b, o + 1, none⟩ := by simp [Addr.add]
      rw [ha1] at c1'
      rw [c1']
      have : s1 = ⟨#[]⟩ := by
        obtain ⟨⟨l⟩⟩ := s1
        simp at hs
        rw [hs]
      rw [this]; rfl
    · rw [hy', cells131]
      simp [MemPlace.row]

theorem nil_of {H : Type} {enc : TypeId × Value → H} {w : World} {spare : Nat → Bool} {held : Bool} {fuel : Nat} {cs : List Value} {p : List MemPlace}
    (h : DataW.trod enc Tryd.prog w 0 spare held fuel 76 cs = some (.agg [.nil], p)) : cs = [.pointer none] := by
  obtain ⟨xs, n, _, hx, hl, hlen, hf⟩ := DataW.trod_struct Tryd.underlying76 h
  rw [cells76] at hl
  obtain ⟨c0, rfl⟩ := list_one hl
  obtain ⟨x0, rfl⟩ := list_one (hlen.trans rfl)
  have h0 := hf 0 _ rfl
  simp [cells74] at h0
  simp only [Prod.mk.injEq, List.map_cons, List.map_nil, DataW.agg.injEq, List.cons.injEq, and_true, List.flatMap_cons, List.flatMap_nil, List.append_nil] at hx
  rcases DataW.trod_pointer Tryd.underlying74 h0 with ⟨hc, hy⟩ | ⟨a, cs', y, m, _, hc, hy, hcells, hd⟩
  · exact hc
  · have hy' : x0 = (.ptr y.1, MemPlace.row a (Tryd.prog.cellsOf 131) ++ y.2) := by simpa using hy
    rw [hy'] at hx
    cases hx.1

def laid2 : List (String × DataW Unit) := [("net/netip.z4", Rows.laid_net_netip_z4), ("net/netip.z0", Rows.laid_net_netip_z0)]
def laid3 : List (String × DataW Unit) := [("net/netip.z4", Rows.laid_net_netip_z4), ("net/netip.z6noz", Rows.laid_net_netip_z6noz), ("net/netip.z0", Rows.laid_net_netip_z0)]

theorem laid2_plain : laidMetH Tryd.prog laid2 = laidMet Tryd.prog laid2 := by funext w; rw [MakeChecks.laidMetH_plain _ _ _ (by kernel_rfl)]
theorem laid3_plain : laidMetH Tryd.prog laid3 = laidMet Tryd.prog laid3 := by funext w; rw [MakeChecks.laidMetH_plain _ _ _ (by kernel_rfl)]

theorem g4_of_laid {w : World} (h : laidMetH Tryd.prog laid2 w) : ∃ b4 o4, G4 b4 o4 w := by
  rw [laid2_plain] at h
  obtain ⟨ps, ⟨g, t, cs, fuel, p, q, hg, ht, hv, hd, ⟨g', t', cs', fuel', p', q', hg', ht', hv', hd', _, _⟩, hps⟩, hnd, hrows⟩ := h
  obtain rfl := Option.some.inj (gz4.symm.trans hg)
  obtain rfl := Option.some.inj (gt4.symm.trans ht)
  obtain rfl := Option.some.inj (gz0.symm.trans hg')
  obtain rfl := Option.some.inj (gt0.symm.trans ht')
  obtain ⟨b, o, hc, c0, c1, hm⟩ := detail_of hd
  have hn := nil_of hd'
  have z4 := World.var?_cell hg hv 0
  have z0 := World.var?_cell hg' hv' 0
  have z4' : w.cell? ⟨0, 0, none⟩ = some (.pointer (some ⟨b, o, none⟩)) := by rw [z4, ← Array.getElem?_toList, hc]; rfl
  have z0' : w.cell? ⟨2, 0, none⟩ = some (.pointer none) := by rw [z0, ← Array.getElem?_toList, hn]; rfl
  have s2 := World.block_lt_of_cell? w _ z0'
  have l4 := World.block_lt_of_cell? w _ c0
  simp only [] at s2 l4
  exact ⟨b, o, z4', z0', by omega, by omega, by omega, l4, c0, c1⟩

theorem gl_of_laid {w : World} (h : laidMetH Tryd.prog laid3 w) : ∃ b4 o4 b6 o6, Gl b4 o4 b6 o6 w := by
  rw [laid3_plain] at h
  obtain ⟨ps, ⟨g, t, cs, fuel, p, q, hg, ht, hv, hd, ⟨g6, t6, cs6, fuel6, p6, q6, hg6, ht6, hv6, hd6, ⟨g', t', cs', fuel', p', q', hg', ht', hv', hd', _, hq'⟩, hq6⟩, hps⟩, hnd, hrows⟩ := h
  obtain rfl := Option.some.inj (gz4.symm.trans hg)
  obtain rfl := Option.some.inj (gt4.symm.trans ht)
  obtain rfl := Option.some.inj (gz6.symm.trans hg6)
  obtain rfl := Option.some.inj (gt6.symm.trans ht6)
  obtain rfl := Option.some.inj (gz0.symm.trans hg')
  obtain rfl := Option.some.inj (gt0.symm.trans ht')
  obtain ⟨b, o, hc, c0, c1, hm⟩ := detail_of hd
  obtain ⟨b', o', hc', c0', c1', hm'⟩ := detail_of hd6
  have hn := nil_of hd'
  have z4 := World.var?_cell hg hv 0
  have z6 := World.var?_cell hg6 hv6 0
  have z0 := World.var?_cell hg' hv' 0
  have z4' : w.cell? ⟨0, 0, none⟩ = some (.pointer (some ⟨b, o, none⟩)) := by rw [z4, ← Array.getElem?_toList, hc]; rfl
  have z6' : w.cell? ⟨1, 0, none⟩ = some (.pointer (some ⟨b', o', none⟩)) := by rw [z6, ← Array.getElem?_toList, hc']; rfl
  have z0' : w.cell? ⟨2, 0, none⟩ = some (.pointer none) := by rw [z0, ← Array.getElem?_toList, hn]; rfl
  have s2 := World.block_lt_of_cell? w _ z0'
  have l4 := World.block_lt_of_cell? w _ c0
  have l6 := World.block_lt_of_cell? w _ c0'
  simp only [] at s2 l4 l6
  have hin : MemPlace.cell b o ∈ MemPlace.row ⟨0, 0, none⟩ cs.size ++ p := List.mem_append_right _ hm
  have hin6 : MemPlace.cell b' o' ∈ q := by rw [hq6]; exact List.mem_append_left _ (List.mem_append_right _ hm')
  have hne : (⟨b, o, none⟩ : Addr) ≠ ⟨b', o', none⟩ := fun e => by
    cases e
    rw [hps] at hnd
    exact (List.nodup_append.1 hnd).2.2 _ hin _ hin6 rfl
  have r4 := (hrows b o (by rw [hps]; exact List.mem_append_left _ hin)).1
  have r6 := (hrows b' o' (by rw [hps]; exact List.mem_append_right _ hin6)).1
  exact ⟨b, o, b', o', ⟨z4', z0', by omega, by omega, by omega, l4, c0, c1⟩, z6', ⟨hne, r4, r6⟩, ⟨fun e => hne e.symm, r6, r4⟩, l6, c0', c1'⟩
end Go.Proofs.YtmlkcgacneealaaDoor
