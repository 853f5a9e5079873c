/- What every walk of this seat rests on: the three listed variables of package net/netip as facts on a world, equality of handles, eight bytes as a number. No conditions. -/
import Derived.Test.YtmlkcgacneealaaDoorProg
import Derived.WalkKit
import Derived.WalkSpells
import Derived.WalkLawsBesides
import Derived.Handy
import Derived.Lib.EndianBits
import Derived.Lib.Hide
import Derived.LaidEqlPtr
import Derived.Deep.QuietTactic
import Derived.BigQuiet
import Derived.StillTailTactics
import Derived.Deep.RegionHeld3
import Derived.Deep.DrawnRows
import Derived.Deep.DeepCutAuto
import Derived.Deep.OwnRows
import Derived.Deep.LoopGhost
import Derived.Laws.Tables
set_option linter.unusedVariables false
set_option linter.unusedSimpArgs false
namespace Go.Proofs.YtmlkcgacneealaaDoor
open Go.RowKit

theorem info131 : (Tryd.prog.info? 131).map (fun i => i.size) = some 2 := by kernel_rfl

/-- Two handles lie in whole blocks and are not one. -/
def Zh (p q : Addr) (w : World) : Prop := p ≠ q ∧ (∃ c t, w.heap[p.block]? = some (.cells c t (0, 0))) ∧ (∃ c t, w.heap[q.block]? = some (.cells c t (0, 0)))
theorem Zh.symm {p q : Addr} {w : World} (h : Zh p q w) : Zh q p w := ⟨fun e => h.1 e.symm, h.2.2, h.2.1⟩
theorem lt_of_some {w : World} {b : Nat} {o : Obj} (h : w.heap[b]? = some o) : b < w.heap.size := by
  rcases Nat.lt_or_ge b w.heap.size with hh | hh
  · exact hh
  · rw [Array.getElem?_eq_none hh] at h; cases h
theorem Zh.below {p q : Addr} {w w' : World} {B : Nat} (h : Zh p q w) (hb : Below B w w') (hB : w.heap.size ≤ B) : Zh p q w' := by
  obtain ⟨hne, ⟨c, t, h1⟩, ⟨c', t', h2⟩⟩ := h
  have l1 := lt_of_some h1
  have l2 := lt_of_some h2
  exact ⟨hne, ⟨c, t, by rw [hb.block _ (by omega)]; exact h1⟩, ⟨c', t', by rw [hb.block _ (by omega)]; exact h2⟩⟩
theorem Zh_alloc {p q : Addr} {w : World} (o : Obj) (h : Zh p q w) : Zh p q (w.alloc o) := h.below ((Below.refl _ w).alloc (Nat.le_refl _) o) (Nat.le_refl _)
theorem Zh_drew {p q : Addr} {w : World} (h : Zh p q w) : Zh p q w.drew := h
theorem Zh_drewN {p q : Addr} {w : World} (n : Nat) (h : Zh p q w) : Zh p q (w.drewN n) := h

theorem eqp_same (d : Nat) (a : Addr) (w : World) : (Op.equalIn (d + 1) 74 (.pointer (some a)) (.pointer (some a))).run Tryd.prog w = .ok true w := by
  obtain ⟨i, hi, hz⟩ := Option.map_eq_some_iff.1 info131
  simp [Op.equalIn, run_underlying Tryd.underlying74, sizeOf, typeInfo, hi, run_sameAddr_same]
theorem eqp_sn (d : Nat) (a : Addr) (w : World) : (Op.equalIn (d + 1) 74 (.pointer (some a)) (.pointer none)).run Tryd.prog w = .ok false w := by
  obtain ⟨i, hi, hz⟩ := Option.map_eq_some_iff.1 info131
  simp [Op.equalIn, run_underlying Tryd.underlying74, sizeOf, typeInfo, hi]
theorem eqp_ns (d : Nat) (a : Addr) (w : World) : (Op.equalIn (d + 1) 74 (.pointer none) (.pointer (some a))).run Tryd.prog w = .ok false w := by
  obtain ⟨i, hi, hz⟩ := Option.map_eq_some_iff.1 info131
  simp [Op.equalIn, run_underlying Tryd.underlying74, sizeOf, typeInfo, hi]
theorem eqp_nn (d : Nat) (w : World) : (Op.equalIn (d + 1) 74 (.pointer none) (.pointer none)).run Tryd.prog w = .ok true w := by
  obtain ⟨i, hi, hz⟩ := Option.map_eq_some_iff.1 info131
  simp [Op.equalIn, run_underlying Tryd.underlying74, sizeOf, typeInfo, hi]
theorem eqp_other (d : Nat) (a b : Addr) (w : World) (h : Zh a b w) : (Op.equalIn (d + 1) 74 (.pointer (some a)) (.pointer (some b))).run Tryd.prog w = .ok false w := by
  obtain ⟨i, hi, hz⟩ := Option.map_eq_some_iff.1 info131
  obtain ⟨hne, ⟨c, t, h1⟩, ⟨c', t', h2⟩⟩ := h
  simp [Op.equalIn, run_underlying Tryd.underlying74, sizeOf, typeInfo, hi, hz, run_sameAddr_other w hne h1 h2]
attribute [go_sem] eqp_same eqp_sn eqp_ns eqp_nn eqp_other Zh_alloc Zh_drew Zh_drewN

theorem field131 (x : Bool) (y : ByteArray) (w : World) : (Instr.field 131 (.agg #[.bool x, .string y]) 1).run Tryd.prog w = .ok (.string y) w := by kernel_rfl
attribute [go_sem] field131

/-- Two of the listed variables as they are laid: z4 points to its detail, z0 is nil. -/
structure G4 (b4 o4 : Nat) (w : World) : Prop where
  z4 : w.cell? ⟨0, 0, none⟩ = some (.pointer (some ⟨b4, o4, none⟩))
  z0 : w.cell? ⟨2, 0, none⟩ = some (.pointer none)
  s0 : 0 < w.heap.size
  s1 : 1 < w.heap.size
  s2 : 2 < w.heap.size
  l4 : b4 < w.heap.size
  c40 : w.cell? ⟨b4, o4, none⟩ = some (.bool false)
  c41 : w.cell? ⟨b4, o4 + 1, none⟩ = some (.string ⟨#[]⟩)
/-- All three: z6noz too. -/
structure Gl (b4 o4 b6 o6 : Nat) (w : World) : Prop where
  g4 : G4 b4 o4 w
  z6 : w.cell? ⟨1, 0, none⟩ = some (.pointer (some ⟨b6, o6, none⟩))
  zh : Zh ⟨b4, o4, none⟩ ⟨b6, o6, none⟩ w
  zh' : Zh ⟨b6, o6, none⟩ ⟨b4, o4, none⟩ w
  l6 : b6 < w.heap.size
  c60 : w.cell? ⟨b6, o6, none⟩ = some (.bool true)
  c61 : w.cell? ⟨b6, o6 + 1, none⟩ = some (.string ⟨#[]⟩)
theorem G4.below {b4 o4 B : Nat} {w w' : World} (h : G4 b4 o4 w) (hb : Below B w w') (hB : w.heap.size ≤ B) : G4 b4 o4 w' := by
  have hs := hb.size
  obtain ⟨z4, z0, s0, s1, s2, l4, c40, c41⟩ := h
  refine ⟨?_, ?_, by omega, by omega, by omega, by omega, ?_, ?_⟩
  · rw [hb.cell (p := ⟨0, 0, none⟩) (by show 0 < B; omega)]; exact z4
  · rw [hb.cell (p := ⟨2, 0, none⟩) (by show 2 < B; omega)]; exact z0
  · rw [hb.cell (p := ⟨b4, o4, none⟩) (by show b4 < B; omega)]; exact c40
  · rw [hb.cell (p := ⟨b4, o4 + 1, none⟩) (by show b4 < B; omega)]; exact c41
theorem Gl.below {b4 o4 b6 o6 B : Nat} {w w' : World} (h : Gl b4 o4 b6 o6 w) (hb : Below B w w') (hB : w.heap.size ≤ B) : Gl b4 o4 b6 o6 w' := by
  have hs := hb.size
  obtain ⟨g4, z6, zh, zh', l6, c60, c61⟩ := h
  have s1 := g4.s1
  refine ⟨g4.below hb hB, ?_, zh.below hb hB, zh'.below hb hB, by omega, ?_, ?_⟩
  · rw [hb.cell (p := ⟨1, 0, none⟩) (by show 1 < B; omega)]; exact z6
  · rw [hb.cell (p := ⟨b6, o6, none⟩) (by show b6 < B; omega)]; exact c60
  · rw [hb.cell (p := ⟨b6, o6 + 1, none⟩) (by show b6 < B; omega)]; exact c61
theorem Gl.drew {b4 o4 b6 o6 : Nat} {w : World} (h : Gl b4 o4 b6 o6 w) : Gl b4 o4 b6 o6 w.drew := h.below ((Below.refl _ w).drew) (Nat.le_refl _)
theorem G4.drew {b4 o4 : Nat} {w : World} (h : G4 b4 o4 w) : G4 b4 o4 w.drew := h.below ((Below.refl _ w).drew) (Nat.le_refl _)

/-- All cells and marks of old blocks read on as they did. -/
theorem bcell {W w1 : World} (hb : Below W.heap.size W w1) : (∀ b o, b < W.heap.size → w1.cell? ⟨b, o, none⟩ = W.cell? ⟨b, o, none⟩) ∧ (∀ b o, b < W.heap.size → w1.frozen? ⟨b, o, none⟩ = W.frozen? ⟨b, o, none⟩) :=
  ⟨fun b o h => hb.cell (p := ⟨b, o, none⟩) h, fun b o h => hb.frozen (p := ⟨b, o, none⟩) h⟩

theorem ret_int {k : IntKind} {a b : Int} (h : a = b) : Ending.returned (.int k a) = .returned (.int k b) := by rw [h]
theorem below_drewN {B : Nat} {a w : World} (h : Below B a w) (n : Nat) : Below B a (w.drewN n) := ⟨h.os, h.tape, h.output, h.size, h.block⟩
theorem blk_last (w : World) (o : Obj) (n : Nat) (h : n = w.heap.size) : (w.alloc o).heap[n]? = some o := by subst h; show (w.heap.push o)[w.heap.size]? = _; simp
theorem blk_old (w : World) (o : Obj) (n : Nat) (h : n < w.heap.size) : (w.alloc o).heap[n]? = w.heap[n]? := Below.heap_alloc w o n h
theorem cells_of {w : World} {g : Nat} {c : Array Value} {t : TypeId} (h : w.heap[g]? = some (.cells c t (0, 0))) (i : Nat) : w.cell? ⟨g, i, none⟩ = c[i]? := by
  unfold World.cell?; simp only [h]; rfl
theorem frozen_of {w : World} {g : Nat} {c : Array Value} {t : TypeId} (h : w.heap[g]? = some (.cells c t (0, 0))) (i : Nat) : w.frozen? ⟨g, i, none⟩ = false := by
  unfold World.frozen?; simp only [h]; simp
theorem below_via {w W w1 : World} (h : Below w.heap.size w W) (hb : Below W.heap.size W w1) : Below w.heap.size w w1 := h.trans (hb.mono h.size)
theorem below_setRow' {B g : Nat} {w0 w : World} (hb : Below B w0 w) (hBg : B ≤ g) (cs : Array Value) : Below B w0 (w.setRow g cs) :=
  hb.trans ⟨rfl, rfl, rfl, by simp [World.setRow], fun k hk => setRow_other w g k cs (by omega)⟩
theorem size_drew' (w : World) : w.drew.heap.size = w.heap.size := id rfl
theorem size_drewN' (w : World) (n : Nat) : (w.drewN n).heap.size = w.heap.size := id rfl
attribute [go_sem] size_drew' size_drewN'
/-- Eight bytes as a number, the greatest first; four likewise. -/
def be8 (a b c d e f g h : Int) : Int := a * 72057594037927936 + b * 281474976710656 + c * 1099511627776 + d * 4294967296 + e * 16777216 + f * 65536 + g * 256 + h
def be4 (a b c d : Int) : Int := a * 16777216 + b * 65536 + c * 256 + d
/-- The byte i of a number of eight bytes; of four. -/
def by8 (x : Int) : Nat → Int
  | 0 => x / 72057594037927936
  | 1 => x / 281474976710656 % 256
  | 2 => x / 1099511627776 % 256
  | 3 => x / 4294967296 % 256
  | 4 => x / 16777216 % 256
  | 5 => x / 65536 % 256
  | 6 => x / 256 % 256
  | _ => x % 256
theorem by8_0 {a b c d e f g h : Int} (ha : 0 ≤ a ∧ a < 256) (hb : 0 ≤ b ∧ b < 256) (hc : 0 ≤ c ∧ c < 256) (hd : 0 ≤ d ∧ d < 256) (he : 0 ≤ e ∧ e < 256) (hf : 0 ≤ f ∧ f < 256) (hg : 0 ≤ g ∧ g < 256) (hh : 0 ≤ h ∧ h < 256) : by8 (be8 a b c d e f g h) 0 = a := by simp only [by8]; unfold be8; omega
theorem by8_1 {a b c d e f g h : Int} (ha : 0 ≤ a ∧ a < 256) (hb : 0 ≤ b ∧ b < 256) (hc : 0 ≤ c ∧ c < 256) (hd : 0 ≤ d ∧ d < 256) (he : 0 ≤ e ∧ e < 256) (hf : 0 ≤ f ∧ f < 256) (hg : 0 ≤ g ∧ g < 256) (hh : 0 ≤ h ∧ h < 256) : by8 (be8 a b c d e f g h) 1 = b := by simp only [by8]; unfold be8; omega
theorem by8_2 {a b c d e f g h : Int} (ha : 0 ≤ a ∧ a < 256) (hb : 0 ≤ b ∧ b < 256) (hc : 0 ≤ c ∧ c < 256) (hd : 0 ≤ d ∧ d < 256) (he : 0 ≤ e ∧ e < 256) (hf : 0 ≤ f ∧ f < 256) (hg : 0 ≤ g ∧ g < 256) (hh : 0 ≤ h ∧ h < 256) : by8 (be8 a b c d e f g h) 2 = c := by simp only [by8]; unfold be8; omega
theorem by8_3 {a b c d e f g h : Int} (ha : 0 ≤ a ∧ a < 256) (hb : 0 ≤ b ∧ b < 256) (hc : 0 ≤ c ∧ c < 256) (hd : 0 ≤ d ∧ d < 256) (he : 0 ≤ e ∧ e < 256) (hf : 0 ≤ f ∧ f < 256) (hg : 0 ≤ g ∧ g < 256) (hh : 0 ≤ h ∧ h < 256) : by8 (be8 a b c d e f g h) 3 = d := by simp only [by8]; unfold be8; omega
theorem by8_4 {a b c d e f g h : Int} (ha : 0 ≤ a ∧ a < 256) (hb : 0 ≤ b ∧ b < 256) (hc : 0 ≤ c ∧ c < 256) (hd : 0 ≤ d ∧ d < 256) (he : 0 ≤ e ∧ e < 256) (hf : 0 ≤ f ∧ f < 256) (hg : 0 ≤ g ∧ g < 256) (hh : 0 ≤ h ∧ h < 256) : by8 (be8 a b c d e f g h) 4 = e := by simp only [by8]; unfold be8; omega
theorem by8_5 {a b c d e f g h : Int} (ha : 0 ≤ a ∧ a < 256) (hb : 0 ≤ b ∧ b < 256) (hc : 0 ≤ c ∧ c < 256) (hd : 0 ≤ d ∧ d < 256) (he : 0 ≤ e ∧ e < 256) (hf : 0 ≤ f ∧ f < 256) (hg : 0 ≤ g ∧ g < 256) (hh : 0 ≤ h ∧ h < 256) : by8 (be8 a b c d e f g h) 5 = f := by simp only [by8]; unfold be8; omega
theorem by8_6 {a b c d e f g h : Int} (ha : 0 ≤ a ∧ a < 256) (hb : 0 ≤ b ∧ b < 256) (hc : 0 ≤ c ∧ c < 256) (hd : 0 ≤ d ∧ d < 256) (he : 0 ≤ e ∧ e < 256) (hf : 0 ≤ f ∧ f < 256) (hg : 0 ≤ g ∧ g < 256) (hh : 0 ≤ h ∧ h < 256) : by8 (be8 a b c d e f g h) 6 = g := by simp only [by8]; unfold be8; omega
theorem by8_7 {a b c d e f g h : Int} (ha : 0 ≤ a ∧ a < 256) (hb : 0 ≤ b ∧ b < 256) (hc : 0 ≤ c ∧ c < 256) (hd : 0 ≤ d ∧ d < 256) (he : 0 ≤ e ∧ e < 256) (hf : 0 ≤ f ∧ f < 256) (hg : 0 ≤ g ∧ g < 256) (hh : 0 ≤ h ∧ h < 256) : by8 (be8 a b c d e f g h) 7 = h := by simp only [by8]; unfold be8; omega
theorem be8_lt {a b c d e f g h : Int} (ha : 0 ≤ a ∧ a < 256) (hb : 0 ≤ b ∧ b < 256) (hc : 0 ≤ c ∧ c < 256) (hd : 0 ≤ d ∧ d < 256) (he : 0 ≤ e ∧ e < 256) (hf : 0 ≤ f ∧ f < 256) (hg : 0 ≤ g ∧ g < 256) (hh : 0 ≤ h ∧ h < 256) : 0 ≤ be8 a b c d e f g h ∧ be8 a b c d e f g h < 18446744073709551616 := by unfold be8; omega
theorem be4_lt {a b c d : Int} (ha : 0 ≤ a ∧ a < 256) (hb : 0 ≤ b ∧ b < 256) (hc : 0 ≤ c ∧ c < 256) (hd : 0 ≤ d ∧ d < 256) : 0 ≤ be4 a b c d ∧ be4 a b c d < 4294967296 := by unfold be4; omega
theorem be8_by8 (x : Int) (h : 0 ≤ x ∧ x < 18446744073709551616) : be8 (by8 x 0) (by8 x 1) (by8 x 2) (by8 x 3) (by8 x 4) (by8 x 5) (by8 x 6) (by8 x 7) = x := by unfold be8; simp only [by8]; omega
theorem by8_lt (x : Int) (h : 0 ≤ x ∧ x < 18446744073709551616) (i : Nat) : 0 ≤ by8 x i ∧ by8 x i < 256 := by
  match i with
  | 0 => simp only [by8]; omega
  | 1 => simp only [by8]; omega
  | 2 => simp only [by8]; omega
  | 3 => simp only [by8]; omega
  | 4 => simp only [by8]; omega
  | 5 => simp only [by8]; omega
  | 6 => simp only [by8]; omega
  | n + 7 => simp only [by8]; omega
theorem u64_hi8 (x y : Int) (hx0 : 0 ≤ x) (hx : x % 256 = 0) (hx1 : x < 18446744073709551616) (hy0 : 0 ≤ y) (hy : y < 256) : bits .or .u64 x y = x + y := bits_join .u64 64 (by decide) wraps_u64 8 x y hx0 hx hx1 hy0 hy (by omega)
theorem u64_hi16 (x y : Int) (hx0 : 0 ≤ x) (hx : x % 65536 = 0) (hx1 : x < 18446744073709551616) (hy0 : 0 ≤ y) (hy : y < 65536) : bits .or .u64 x y = x + y := bits_join .u64 64 (by decide) wraps_u64 16 x y hx0 hx hx1 hy0 hy (by omega)
theorem u64_hi24 (x y : Int) (hx0 : 0 ≤ x) (hx : x % 16777216 = 0) (hx1 : x < 18446744073709551616) (hy0 : 0 ≤ y) (hy : y < 16777216) : bits .or .u64 x y = x + y := bits_join .u64 64 (by decide) wraps_u64 24 x y hx0 hx hx1 hy0 hy (by omega)
theorem u64_hi32 (x y : Int) (hx0 : 0 ≤ x) (hx : x % 4294967296 = 0) (hx1 : x < 18446744073709551616) (hy0 : 0 ≤ y) (hy : y < 4294967296) : bits .or .u64 x y = x + y := bits_join .u64 64 (by decide) wraps_u64 32 x y hx0 hx hx1 hy0 hy (by omega)
theorem cell_alloc2 (w : World) (o1 o2 : Obj) (n i : Nat) (hn : n < w.heap.size) : ((w.alloc o1).alloc o2).cell? ⟨n, i, none⟩ = w.cell? ⟨n, i, none⟩ := by
  rw [World.cell?_alloc_past (hn := by (try simp only [World.size_alloc]); omega)]; rw [World.cell?_alloc_past (hn := by (try simp only [World.size_alloc]); omega)]
theorem frozen_alloc2 (w : World) (o1 o2 : Obj) (n i : Nat) (hn : n < w.heap.size) : ((w.alloc o1).alloc o2).frozen? ⟨n, i, none⟩ = w.frozen? ⟨n, i, none⟩ := by
  rw [World.frozen?_alloc_past (hn := by (try simp only [World.size_alloc]); omega)]; rw [World.frozen?_alloc_past (hn := by (try simp only [World.size_alloc]); omega)]
theorem Zh_alloc2 {p q : Addr} {w : World} (o1 o2 : Obj) (h : Zh p q w) : Zh p q ((w.alloc o1).alloc o2) := Zh_alloc o2 (Zh_alloc o1 (h))
attribute [go_sem] cell_alloc2 frozen_alloc2 Zh_alloc2
theorem cell_alloc3 (w : World) (o1 o2 o3 : Obj) (n i : Nat) (hn : n < w.heap.size) : (((w.alloc o1).alloc o2).alloc o3).cell? ⟨n, i, none⟩ = w.cell? ⟨n, i, none⟩ := by
  rw [World.cell?_alloc_past (hn := by (try simp only [World.size_alloc]); omega)]; rw [World.cell?_alloc_past (hn := by (try simp only [World.size_alloc]); omega)]; rw [World.cell?_alloc_past (hn := by (try simp only [World.size_alloc]); omega)]
theorem frozen_alloc3 (w : World) (o1 o2 o3 : Obj) (n i : Nat) (hn : n < w.heap.size) : (((w.alloc o1).alloc o2).alloc o3).frozen? ⟨n, i, none⟩ = w.frozen? ⟨n, i, none⟩ := by
  rw [World.frozen?_alloc_past (hn := by (try simp only [World.size_alloc]); omega)]; rw [World.frozen?_alloc_past (hn := by (try simp only [World.size_alloc]); omega)]; rw [World.frozen?_alloc_past (hn := by (try simp only [World.size_alloc]); omega)]
theorem Zh_alloc3 {p q : Addr} {w : World} (o1 o2 o3 : Obj) (h : Zh p q w) : Zh p q (((w.alloc o1).alloc o2).alloc o3) := Zh_alloc o3 (Zh_alloc o2 (Zh_alloc o1 (h)))
attribute [go_sem] cell_alloc3 frozen_alloc3 Zh_alloc3
theorem cell_alloc4 (w : World) (o1 o2 o3 o4 : Obj) (n i : Nat) (hn : n < w.heap.size) : ((((w.alloc o1).alloc o2).alloc o3).alloc o4).cell? ⟨n, i, none⟩ = w.cell? ⟨n, i, none⟩ := by
  rw [World.cell?_alloc_past (hn := by (try simp only [World.size_alloc]); omega)]; rw [World.cell?_alloc_past (hn := by (try simp only [World.size_alloc]); omega)]; rw [World.cell?_alloc_past (hn := by (try simp only [World.size_alloc]); omega)]; rw [World.cell?_alloc_past (hn := by (try simp only [World.size_alloc]); omega)]
theorem frozen_alloc4 (w : World) (o1 o2 o3 o4 : Obj) (n i : Nat) (hn : n < w.heap.size) : ((((w.alloc o1).alloc o2).alloc o3).alloc o4).frozen? ⟨n, i, none⟩ = w.frozen? ⟨n, i, none⟩ := by
  rw [World.frozen?_alloc_past (hn := by (try simp only [World.size_alloc]); omega)]; rw [World.frozen?_alloc_past (hn := by (try simp only [World.size_alloc]); omega)]; rw [World.frozen?_alloc_past (hn := by (try simp only [World.size_alloc]); omega)]; rw [World.frozen?_alloc_past (hn := by (try simp only [World.size_alloc]); omega)]
theorem Zh_alloc4 {p q : Addr} {w : World} (o1 o2 o3 o4 : Obj) (h : Zh p q w) : Zh p q ((((w.alloc o1).alloc o2).alloc o3).alloc o4) := Zh_alloc o4 (Zh_alloc o3 (Zh_alloc o2 (Zh_alloc o1 (h))))
attribute [go_sem] cell_alloc4 frozen_alloc4 Zh_alloc4
theorem cell_alloc5 (w : World) (o1 o2 o3 o4 o5 : Obj) (n i : Nat) (hn : n < w.heap.size) : (((((w.alloc o1).alloc o2).alloc o3).alloc o4).alloc o5).cell? ⟨n, i, none⟩ = w.cell? ⟨n, i, none⟩ := by
  rw [World.cell?_alloc_past (hn := by (try simp only [World.size_alloc]); omega)]; rw [World.cell?_alloc_past (hn := by (try simp only [World.size_alloc]); omega)]; rw [World.cell?_alloc_past (hn := by (try simp only [World.size_alloc]); omega)]; rw [World.cell?_alloc_past (hn := by (try simp only [World.size_alloc]); omega)]; rw [World.cell?_alloc_past (hn := by (try simp only [World.size_alloc]); omega)]
theorem frozen_alloc5 (w : World) (o1 o2 o3 o4 o5 : Obj) (n i : Nat) (hn : n < w.heap.size) : (((((w.alloc o1).alloc o2).alloc o3).alloc o4).alloc o5).frozen? ⟨n, i, none⟩ = w.frozen? ⟨n, i, none⟩ := by
  rw [World.frozen?_alloc_past (hn := by (try simp only [World.size_alloc]); omega)]; rw [World.frozen?_alloc_past (hn := by (try simp only [World.size_alloc]); omega)]; rw [World.frozen?_alloc_past (hn := by (try simp only [World.size_alloc]); omega)]; rw [World.frozen?_alloc_past (hn := by (try simp only [World.size_alloc]); omega)]; rw [World.frozen?_alloc_past (hn := by (try simp only [World.size_alloc]); omega)]
theorem Zh_alloc5 {p q : Addr} {w : World} (o1 o2 o3 o4 o5 : Obj) (h : Zh p q w) : Zh p q (((((w.alloc o1).alloc o2).alloc o3).alloc o4).alloc o5) := Zh_alloc o5 (Zh_alloc o4 (Zh_alloc o3 (Zh_alloc o2 (Zh_alloc o1 (h)))))
attribute [go_sem] cell_alloc5 frozen_alloc5 Zh_alloc5
theorem cell_alloc6 (w : World) (o1 o2 o3 o4 o5 o6 : Obj) (n i : Nat) (hn : n < w.heap.size) : ((((((w.alloc o1).alloc o2).alloc o3).alloc o4).alloc o5).alloc o6).cell? ⟨n, i, none⟩ = w.cell? ⟨n, i, none⟩ := by
  rw [World.cell?_alloc_past (hn := by (try simp only [World.size_alloc]); omega)]; rw [World.cell?_alloc_past (hn := by (try simp only [World.size_alloc]); omega)]; rw [World.cell?_alloc_past (hn := by (try simp only [World.size_alloc]); omega)]; rw [World.cell?_alloc_past (hn := by (try simp only [World.size_alloc]); omega)]; rw [World.cell?_alloc_past (hn := by (try simp only [World.size_alloc]); omega)]; rw [World.cell?_alloc_past (hn := by (try simp only [World.size_alloc]); omega)]
theorem frozen_alloc6 (w : World) (o1 o2 o3 o4 o5 o6 : Obj) (n i : Nat) (hn : n < w.heap.size) : ((((((w.alloc o1).alloc o2).alloc o3).alloc o4).alloc o5).alloc o6).frozen? ⟨n, i, none⟩ = w.frozen? ⟨n, i, none⟩ := by
  rw [World.frozen?_alloc_past (hn := by (try simp only [World.size_alloc]); omega)]; rw [World.frozen?_alloc_past (hn := by (try simp only [World.size_alloc]); omega)]; rw [World.frozen?_alloc_past (hn := by (try simp only [World.size_alloc]); omega)]; rw [World.frozen?_alloc_past (hn := by (try simp only [World.size_alloc]); omega)]; rw [World.frozen?_alloc_past (hn := by (try simp only [World.size_alloc]); omega)]; rw [World.frozen?_alloc_past (hn := by (try simp only [World.size_alloc]); omega)]
theorem Zh_alloc6 {p q : Addr} {w : World} (o1 o2 o3 o4 o5 o6 : Obj) (h : Zh p q w) : Zh p q ((((((w.alloc o1).alloc o2).alloc o3).alloc o4).alloc o5).alloc o6) := Zh_alloc o6 (Zh_alloc o5 (Zh_alloc o4 (Zh_alloc o3 (Zh_alloc o2 (Zh_alloc o1 (h))))))
attribute [go_sem] cell_alloc6 frozen_alloc6 Zh_alloc6
theorem cell_alloc7 (w : World) (o1 o2 o3 o4 o5 o6 o7 : Obj) (n i : Nat) (hn : n < w.heap.size) : (((((((w.alloc o1).alloc o2).alloc o3).alloc o4).alloc o5).alloc o6).alloc o7).cell? ⟨n, i, none⟩ = w.cell? ⟨n, i, none⟩ := by
  rw [World.cell?_alloc_past (hn := by (try simp only [World.size_alloc]); omega)]; rw [World.cell?_alloc_past (hn := by (try simp only [World.size_alloc]); omega)]; rw [World.cell?_alloc_past (hn := by (try simp only [World.size_alloc]); omega)]; rw [World.cell?_alloc_past (hn := by (try simp only [World.size_alloc]); omega)]; rw [World.cell?_alloc_past (hn := by (try simp only [World.size_alloc]); omega)]; rw [World.cell?_alloc_past (hn := by (try simp only [World.size_alloc]); omega)]; rw [World.cell?_alloc_past (hn := by (try simp only [World.size_alloc]); omega)]
theorem frozen_alloc7 (w : World) (o1 o2 o3 o4 o5 o6 o7 : Obj) (n i : Nat) (hn : n < w.heap.size) : (((((((w.alloc o1).alloc o2).alloc o3).alloc o4).alloc o5).alloc o6).alloc o7).frozen? ⟨n, i, none⟩ = w.frozen? ⟨n, i, none⟩ := by
  rw [World.frozen?_alloc_past (hn := by (try simp only [World.size_alloc]); omega)]; rw [World.frozen?_alloc_past (hn := by (try simp only [World.size_alloc]); omega)]; rw [World.frozen?_alloc_past (hn := by (try simp only [World.size_alloc]); omega)]; rw [World.frozen?_alloc_past (hn := by (try simp only [World.size_alloc]); omega)]; rw [World.frozen?_alloc_past (hn := by (try simp only [World.size_alloc]); omega)]; rw [World.frozen?_alloc_past (hn := by (try simp only [World.size_alloc]); omega)]; rw [World.frozen?_alloc_past (hn := by (try simp only [World.size_alloc]); omega)]
theorem Zh_alloc7 {p q : Addr} {w : World} (o1 o2 o3 o4 o5 o6 o7 : Obj) (h : Zh p q w) : Zh p q (((((((w.alloc o1).alloc o2).alloc o3).alloc o4).alloc o5).alloc o6).alloc o7) := Zh_alloc o7 (Zh_alloc o6 (Zh_alloc o5 (Zh_alloc o4 (Zh_alloc o3 (Zh_alloc o2 (Zh_alloc o1 (h)))))))
attribute [go_sem] cell_alloc7 frozen_alloc7 Zh_alloc7
end Go.Proofs.YtmlkcgacneealaaDoor
