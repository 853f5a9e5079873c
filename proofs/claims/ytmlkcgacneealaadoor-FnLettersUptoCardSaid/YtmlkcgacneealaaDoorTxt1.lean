/- Text that is built in a row of bytes with room: append within the room; decimal and hexadecimal digits. Conditions: the row is there, with room. -/
import Derived.Test.YtmlkcgacneealaaDoorOwn
import Derived.Test.YtmlkcgacneealaaDoorKindsA
import Derived.ArgAppend
import Derived.OwnWalk
set_option linter.unusedVariables false
set_option linter.unusedSimpArgs false
namespace Go.Proofs.YtmlkcgacneealaaDoor
open Go.RowKit

/-- A row of bytes with room: the text, then the room. -/
def bufc (cap : Nat) (s : List Int) : Array Value := ((s.map (Value.int .u8)) ++ List.replicate (cap - s.length) (Value.int .u8 0)).toArray
theorem bufc_size (cap : Nat) (s : List Int) (h : s.length ≤ cap) : (bufc cap s).size = cap := by simp [bufc]; omega
theorem bufc_get (cap : Nat) (s : List Int) (i : Nat) (h : i < s.length) : (bufc cap s)[i]? = some (.int .u8 (s.getD i 0)) := by
  simp [bufc, List.getElem?_append, h]
theorem bufc_nil (cap : Nat) : bufc cap [] = Array.replicate cap (.int .u8 0) := by simp [bufc]
theorem bufc_room (cap : Nat) (s : List Int) (i : Nat) (h0 : s.length ≤ i) (h : i < cap) : (bufc cap s)[i]? = some (.int .u8 0) := by
  simp only [bufc, List.getElem?_toArray]
  rw [List.getElem?_append_right (by simpa using h0), List.getElem?_replicate, if_pos (by simp only [List.length_map]; omega)]
theorem bufc_set (cap : Nat) (s : List Int) (x : Int) (h : s.length < cap) : (bufc cap s).setIfInBounds s.length (.int .u8 x) = bufc cap (s ++ [x]) := by
  simp only [bufc, List.setIfInBounds_toArray]
  congr 1
  rw [List.set_append_right _ _ (by simp), List.map_append, List.length_append, List.append_assoc]
  congr 1
  simp only [List.length_map, Nat.sub_self, List.length_cons, List.length_nil, List.map_cons, List.map_nil]
  rw [show cap - s.length = (cap - (s.length + (0 + 1))) + 1 by omega, List.replicate_succ]
  rfl
theorem blk_setCells (g : Nat) (cap : Nat) : ∀ (news : List Int) (s : List Int) (w : World), blk? w g = some (bufc cap s) → s.length + news.length ≤ cap → blk? (w.setCells g s.length (news.map (Value.int .u8))) g = some (bufc cap (s ++ news))
  | [], s, w, h, _ => by simpa [World.setCells] using h
  | x :: r, s, w, h, hc => by
    simp only [List.map_cons, World.setCells]
    have h1 : blk? (w.setCell ⟨g, s.length, none⟩ (.int .u8 x)) g = some (bufc cap (s ++ [x])) := by
      rw [blk?_setSame, h, Option.map_some, bufc_set _ _ _ (by simp at hc; omega)]
    have := blk_setCells g cap r (s ++ [x]) _ h1 (by simp at hc ⊢; omega)
    simpa using this
theorem setCells_other (g : Nat) : ∀ (vs : List Value) (o : Nat) (w : World) (k : Nat), k ≠ g → (w.setCells g o vs).heap[k]? = w.heap[k]?
  | [], o, w, k, _ => rfl
  | v :: r, o, w, k, h => by
    simp only [World.setCells]
    rw [setCells_other g r (o + 1) _ k h, Below.heap_setCell _ _ _ _ h]
theorem setCells_size (g : Nat) : ∀ (vs : List Value) (o : Nat) (w : World), (w.setCells g o vs).heap.size = w.heap.size ∧ (w.setCells g o vs).os = w.os ∧ (w.setCells g o vs).tape = w.tape ∧ (w.setCells g o vs).output = w.output
  | [], o, w => ⟨rfl, rfl, rfl, rfl⟩
  | v :: r, o, w => by
    simp only [World.setCells]
    obtain ⟨h1, h2, h3, h4⟩ := setCells_size g r (o + 1) (w.setCell ⟨g, o, none⟩ v)
    exact ⟨h1.trans (by simp [World.setCell]), h2, h3, h4⟩
/-- Block g may have been written; all others that were there are as they were. -/
structure GX (g : Nat) (w w' : World) : Prop where
  os : w'.os = w.os
  tape : w'.tape = w.tape
  output : w'.output = w.output
  size : w.heap.size ≤ w'.heap.size
  block : ∀ k, k < w.heap.size → k ≠ g → w'.heap[k]? = w.heap[k]?
theorem GX.refl (g : Nat) (w : World) : GX g w w := ⟨rfl, rfl, rfl, Nat.le_refl _, fun _ _ _ => rfl⟩
theorem GX.trans {g : Nat} {a b c : World} (h : GX g a b) (k : GX g b c) : GX g a c :=
  ⟨k.os.trans h.os, k.tape.trans h.tape, k.output.trans h.output, Nat.le_trans h.size k.size, fun i hi hn => (k.block i (Nat.lt_of_lt_of_le hi h.size) hn).trans (h.block i hi hn)⟩
theorem GX.call {g : Nat} {a w w' : World} (h : GX g a w) (hb : Below w.heap.size w w') : GX g a w' :=
  h.trans ⟨hb.os, hb.tape, hb.output, hb.size, fun k hk _ => hb.block k hk⟩
theorem GX.alloc {g : Nat} {a w : World} (h : GX g a w) (o : Obj) : GX g a (w.alloc o) :=
  h.trans ⟨rfl, rfl, rfl, by simp, fun k hk _ => Below.heap_alloc _ _ _ hk⟩
theorem GX.drew {g : Nat} {a w : World} (h : GX g a w) : GX g a w.drew := h.trans ⟨rfl, rfl, rfl, Nat.le_refl _, fun _ _ _ => rfl⟩
theorem GX.drewN {g : Nat} {a w : World} (h : GX g a w) (n : Nat) : GX g a (w.drewN n) := by
  have hb : Below w.heap.size w (w.drewN n) := below_drewN (Below.refl _ _) n
  exact h.call hb
theorem GX.below {g B : Nat} {a w w' : World} (h : Below B a w) (hg : GX g w w') (hB : B ≤ w.heap.size) (hr : B ≤ g) : Below B a w' :=
  h.trans ⟨hg.os, hg.tape, hg.output, hg.size, fun k hk => hg.block k (by omega) (by omega)⟩
theorem blk?_gx {g : Nat} {w w' : World} (h : GX g w w') : ∀ k, k < w.heap.size → k ≠ g → blk? w' k = blk? w k := fun k hk hn => by unfold blk?; rw [h.block k hk hn]
theorem gx_setCells (g : Nat) (vs : List Value) (o : Nat) (w : World) : GX g w (w.setCells g o vs) := by
  obtain ⟨h1, h2, h3, h4⟩ := setCells_size g vs o w
  exact ⟨h2, h3, h4, by omega, fun k _ hn => setCells_other g vs o w k hn⟩
/-- append within the room, of a row of bytes that lies whole in a block. -/
theorem wpList_append_buf {ops : Array Oper} {rest : List Oper} {o : Oper} {a : Act} {Q : Exit → Act → World → Prop} (w : World)
    (hg : o.guard = none) (s x : Operand) (hop : o.op = Op.call { callee := Callee.builtin Builtin.append, args := #[s, x], argTypes := #[28, 28] })
    (g k cap : Nat) (t : List Int) (hs : a.eval s = .slice (some ⟨g, 0, none⟩) k cap) (gs m c : Nat) (news : List Int) (hx : a.eval x = .slice (some ⟨gs, 0, none⟩) m c)
    (hk : t.length = k) (hn : news.length = m) (hroom : k + m ≤ cap) (hblk : blk? w g = some (bufc cap t)) (hsrc : blk? w gs = some (news.map (Value.int .u8)).toArray)
    (hK : ∀ w', blk? w' g = some (bufc cap (t ++ news)) → GX g w w' → wpList Tryd.prog ops Q rest (a.put o.dst (.slice (some ⟨g, 0, none⟩) (k + m) cap)) w') :
    wpList Tryd.prog ops Q (o :: rest) a w := by
  obtain ⟨i0, hi, hz0, hz1, hz2⟩ := info_parts inf5
  refine wpList_plain hg fun K hK' => ?_
  have hrun := run_append_room_cells (P := Tryd.prog) w 28 o.type 5 i0 Tryd.underlying28 hi g 0 k cap ⟨gs, 0, none⟩ m c (news.map (Value.int .u8)) (by rw [hz1]; simp [hn])
    (fun j u hj => by
      rw [Addr.add_lit, Nat.zero_add, blk?_cell hsrc]
      simpa using hj)
    (fun u hu => by obtain ⟨v, _, rfl⟩ := List.mem_map.1 hu; rfl) hroom
    (fun j hj => by
      rw [hz1, Nat.mul_one, Nat.zero_add, blk?_cell hblk, bufc_room _ _ _ (by omega) (by simp at hj; omega)]; rfl)
    (fun j hj => blk?_frozen hblk _)
  unfold Oper.wp
  simp [execOp, hop, resolve, invoke, builtin, hs, hx, hrun, Result.andThen]
  refine hK' _ _ (hK _ ?_ (gx_setCells _ _ _ _))
  rw [hz1, Nat.mul_one, ← hk]
  exact blk_setCells g cap news t w hblk (by omega)

/-- The sign of a digit. -/
def dig (i : Int) : Int := if i < 10 then 48 + i else 87 + i
theorem dig_lt (i : Int) (h : 0 ≤ i ∧ i < 16) : 0 ≤ dig i ∧ dig i < 256 := by unfold dig; split <;> omega
theorem idx_u8_0 (w : World) : (Instr.index 9 (.string ⟨#[48, 49, 50, 51, 52, 53, 54, 55, 56, 57, 97, 98, 99, 100, 101, 102]⟩) (.int .u8 0)).run Tryd.prog w = .ok (.int .u8 (dig 0)) w := by kernel_rfl
theorem idx_u8_1 (w : World) : (Instr.index 9 (.string ⟨#[48, 49, 50, 51, 52, 53, 54, 55, 56, 57, 97, 98, 99, 100, 101, 102]⟩) (.int .u8 1)).run Tryd.prog w = .ok (.int .u8 (dig 1)) w := by kernel_rfl
theorem idx_u8_2 (w : World) : (Instr.index 9 (.string ⟨#[48, 49, 50, 51, 52, 53, 54, 55, 56, 57, 97, 98, 99, 100, 101, 102]⟩) (.int .u8 2)).run Tryd.prog w = .ok (.int .u8 (dig 2)) w := by kernel_rfl
theorem idx_u8_3 (w : World) : (Instr.index 9 (.string ⟨#[48, 49, 50, 51, 52, 53, 54, 55, 56, 57, 97, 98, 99, 100, 101, 102]⟩) (.int .u8 3)).run Tryd.prog w = .ok (.int .u8 (dig 3)) w := by kernel_rfl
theorem idx_u8_4 (w : World) : (Instr.index 9 (.string ⟨#[48, 49, 50, 51, 52, 53, 54, 55, 56, 57, 97, 98, 99, 100, 101, 102]⟩) (.int .u8 4)).run Tryd.prog w = .ok (.int .u8 (dig 4)) w := by kernel_rfl
theorem idx_u8_5 (w : World) : (Instr.index 9 (.string ⟨#[48, 49, 50, 51, 52, 53, 54, 55, 56, 57, 97, 98, 99, 100, 101, 102]⟩) (.int .u8 5)).run Tryd.prog w = .ok (.int .u8 (dig 5)) w := by kernel_rfl
theorem idx_u8_6 (w : World) : (Instr.index 9 (.string ⟨#[48, 49, 50, 51, 52, 53, 54, 55, 56, 57, 97, 98, 99, 100, 101, 102]⟩) (.int .u8 6)).run Tryd.prog w = .ok (.int .u8 (dig 6)) w := by kernel_rfl
theorem idx_u8_7 (w : World) : (Instr.index 9 (.string ⟨#[48, 49, 50, 51, 52, 53, 54, 55, 56, 57, 97, 98, 99, 100, 101, 102]⟩) (.int .u8 7)).run Tryd.prog w = .ok (.int .u8 (dig 7)) w := by kernel_rfl
theorem idx_u8_8 (w : World) : (Instr.index 9 (.string ⟨#[48, 49, 50, 51, 52, 53, 54, 55, 56, 57, 97, 98, 99, 100, 101, 102]⟩) (.int .u8 8)).run Tryd.prog w = .ok (.int .u8 (dig 8)) w := by kernel_rfl
theorem idx_u8_9 (w : World) : (Instr.index 9 (.string ⟨#[48, 49, 50, 51, 52, 53, 54, 55, 56, 57, 97, 98, 99, 100, 101, 102]⟩) (.int .u8 9)).run Tryd.prog w = .ok (.int .u8 (dig 9)) w := by kernel_rfl
theorem idx_u8_10 (w : World) : (Instr.index 9 (.string ⟨#[48, 49, 50, 51, 52, 53, 54, 55, 56, 57, 97, 98, 99, 100, 101, 102]⟩) (.int .u8 10)).run Tryd.prog w = .ok (.int .u8 (dig 10)) w := by kernel_rfl
theorem idx_u8_11 (w : World) : (Instr.index 9 (.string ⟨#[48, 49, 50, 51, 52, 53, 54, 55, 56, 57, 97, 98, 99, 100, 101, 102]⟩) (.int .u8 11)).run Tryd.prog w = .ok (.int .u8 (dig 11)) w := by kernel_rfl
theorem idx_u8_12 (w : World) : (Instr.index 9 (.string ⟨#[48, 49, 50, 51, 52, 53, 54, 55, 56, 57, 97, 98, 99, 100, 101, 102]⟩) (.int .u8 12)).run Tryd.prog w = .ok (.int .u8 (dig 12)) w := by kernel_rfl
theorem idx_u8_13 (w : World) : (Instr.index 9 (.string ⟨#[48, 49, 50, 51, 52, 53, 54, 55, 56, 57, 97, 98, 99, 100, 101, 102]⟩) (.int .u8 13)).run Tryd.prog w = .ok (.int .u8 (dig 13)) w := by kernel_rfl
theorem idx_u8_14 (w : World) : (Instr.index 9 (.string ⟨#[48, 49, 50, 51, 52, 53, 54, 55, 56, 57, 97, 98, 99, 100, 101, 102]⟩) (.int .u8 14)).run Tryd.prog w = .ok (.int .u8 (dig 14)) w := by kernel_rfl
theorem idx_u8_15 (w : World) : (Instr.index 9 (.string ⟨#[48, 49, 50, 51, 52, 53, 54, 55, 56, 57, 97, 98, 99, 100, 101, 102]⟩) (.int .u8 15)).run Tryd.prog w = .ok (.int .u8 (dig 15)) w := by kernel_rfl
theorem idxF_u8 (n : Nat) (h : n < 16) (w : World) : (Instr.index 9 (.string ⟨#[48, 49, 50, 51, 52, 53, 54, 55, 56, 57, 97, 98, 99, 100, 101, 102]⟩) (.int .u8 ((n : Nat) : Int))).run Tryd.prog w = .ok (.int .u8 (dig ((n : Nat) : Int))) w := by
  match n, h with
  | 0, _ => exact idx_u8_0 w
  | 1, _ => exact idx_u8_1 w
  | 2, _ => exact idx_u8_2 w
  | 3, _ => exact idx_u8_3 w
  | 4, _ => exact idx_u8_4 w
  | 5, _ => exact idx_u8_5 w
  | 6, _ => exact idx_u8_6 w
  | 7, _ => exact idx_u8_7 w
  | 8, _ => exact idx_u8_8 w
  | 9, _ => exact idx_u8_9 w
  | 10, _ => exact idx_u8_10 w
  | 11, _ => exact idx_u8_11 w
  | 12, _ => exact idx_u8_12 w
  | 13, _ => exact idx_u8_13 w
  | 14, _ => exact idx_u8_14 w
  | 15, _ => exact idx_u8_15 w
  | n + 16, h => omega
theorem idx_u8 (i : Int) (h : 0 ≤ i ∧ i < 16) (w : World) : (Instr.index 9 (.string ⟨#[48, 49, 50, 51, 52, 53, 54, 55, 56, 57, 97, 98, 99, 100, 101, 102]⟩) (.int .u8 i)).run Tryd.prog w = .ok (.int .u8 (dig i)) w := by
  obtain ⟨n, rfl⟩ := Int.eq_ofNat_of_zero_le h.1
  exact idxF_u8 n (by omega) w
theorem idx_u16_0 (w : World) : (Instr.index 9 (.string ⟨#[48, 49, 50, 51, 52, 53, 54, 55, 56, 57, 97, 98, 99, 100, 101, 102]⟩) (.int .u16 0)).run Tryd.prog w = .ok (.int .u8 (dig 0)) w := by kernel_rfl
theorem idx_u16_1 (w : World) : (Instr.index 9 (.string ⟨#[48, 49, 50, 51, 52, 53, 54, 55, 56, 57, 97, 98, 99, 100, 101, 102]⟩) (.int .u16 1)).run Tryd.prog w = .ok (.int .u8 (dig 1)) w := by kernel_rfl
theorem idx_u16_2 (w : World) : (Instr.index 9 (.string ⟨#[48, 49, 50, 51, 52, 53, 54, 55, 56, 57, 97, 98, 99, 100, 101, 102]⟩) (.int .u16 2)).run Tryd.prog w = .ok (.int .u8 (dig 2)) w := by kernel_rfl
theorem idx_u16_3 (w : World) : (Instr.index 9 (.string ⟨#[48, 49, 50, 51, 52, 53, 54, 55, 56, 57, 97, 98, 99, 100, 101, 102]⟩) (.int .u16 3)).run Tryd.prog w = .ok (.int .u8 (dig 3)) w := by kernel_rfl
theorem idx_u16_4 (w : World) : (Instr.index 9 (.string ⟨#[48, 49, 50, 51, 52, 53, 54, 55, 56, 57, 97, 98, 99, 100, 101, 102]⟩) (.int .u16 4)).run Tryd.prog w = .ok (.int .u8 (dig 4)) w := by kernel_rfl
theorem idx_u16_5 (w : World) : (Instr.index 9 (.string ⟨#[48, 49, 50, 51, 52, 53, 54, 55, 56, 57, 97, 98, 99, 100, 101, 102]⟩) (.int .u16 5)).run Tryd.prog w = .ok (.int .u8 (dig 5)) w := by kernel_rfl
theorem idx_u16_6 (w : World) : (Instr.index 9 (.string ⟨#[48, 49, 50, 51, 52, 53, 54, 55, 56, 57, 97, 98, 99, 100, 101, 102]⟩) (.int .u16 6)).run Tryd.prog w = .ok (.int .u8 (dig 6)) w := by kernel_rfl
theorem idx_u16_7 (w : World) : (Instr.index 9 (.string ⟨#[48, 49, 50, 51, 52, 53, 54, 55, 56, 57, 97, 98, 99, 100, 101, 102]⟩) (.int .u16 7)).run Tryd.prog w = .ok (.int .u8 (dig 7)) w := by kernel_rfl
theorem idx_u16_8 (w : World) : (Instr.index 9 (.string ⟨#[48, 49, 50, 51, 52, 53, 54, 55, 56, 57, 97, 98, 99, 100, 101, 102]⟩) (.int .u16 8)).run Tryd.prog w = .ok (.int .u8 (dig 8)) w := by kernel_rfl
theorem idx_u16_9 (w : World) : (Instr.index 9 (.string ⟨#[48, 49, 50, 51, 52, 53, 54, 55, 56, 57, 97, 98, 99, 100, 101, 102]⟩) (.int .u16 9)).run Tryd.prog w = .ok (.int .u8 (dig 9)) w := by kernel_rfl
theorem idx_u16_10 (w : World) : (Instr.index 9 (.string ⟨#[48, 49, 50, 51, 52, 53, 54, 55, 56, 57, 97, 98, 99, 100, 101, 102]⟩) (.int .u16 10)).run Tryd.prog w = .ok (.int .u8 (dig 10)) w := by kernel_rfl
theorem idx_u16_11 (w : World) : (Instr.index 9 (.string ⟨#[48, 49, 50, 51, 52, 53, 54, 55, 56, 57, 97, 98, 99, 100, 101, 102]⟩) (.int .u16 11)).run Tryd.prog w = .ok (.int .u8 (dig 11)) w := by kernel_rfl
theorem idx_u16_12 (w : World) : (Instr.index 9 (.string ⟨#[48, 49, 50, 51, 52, 53, 54, 55, 56, 57, 97, 98, 99, 100, 101, 102]⟩) (.int .u16 12)).run Tryd.prog w = .ok (.int .u8 (dig 12)) w := by kernel_rfl
theorem idx_u16_13 (w : World) : (Instr.index 9 (.string ⟨#[48, 49, 50, 51, 52, 53, 54, 55, 56, 57, 97, 98, 99, 100, 101, 102]⟩) (.int .u16 13)).run Tryd.prog w = .ok (.int .u8 (dig 13)) w := by kernel_rfl
theorem idx_u16_14 (w : World) : (Instr.index 9 (.string ⟨#[48, 49, 50, 51, 52, 53, 54, 55, 56, 57, 97, 98, 99, 100, 101, 102]⟩) (.int .u16 14)).run Tryd.prog w = .ok (.int .u8 (dig 14)) w := by kernel_rfl
theorem idx_u16_15 (w : World) : (Instr.index 9 (.string ⟨#[48, 49, 50, 51, 52, 53, 54, 55, 56, 57, 97, 98, 99, 100, 101, 102]⟩) (.int .u16 15)).run Tryd.prog w = .ok (.int .u8 (dig 15)) w := by kernel_rfl
theorem idxF_u16 (n : Nat) (h : n < 16) (w : World) : (Instr.index 9 (.string ⟨#[48, 49, 50, 51, 52, 53, 54, 55, 56, 57, 97, 98, 99, 100, 101, 102]⟩) (.int .u16 ((n : Nat) : Int))).run Tryd.prog w = .ok (.int .u8 (dig ((n : Nat) : Int))) w := by
  match n, h with
  | 0, _ => exact idx_u16_0 w
  | 1, _ => exact idx_u16_1 w
  | 2, _ => exact idx_u16_2 w
  | 3, _ => exact idx_u16_3 w
  | 4, _ => exact idx_u16_4 w
  | 5, _ => exact idx_u16_5 w
  | 6, _ => exact idx_u16_6 w
  | 7, _ => exact idx_u16_7 w
  | 8, _ => exact idx_u16_8 w
  | 9, _ => exact idx_u16_9 w
  | 10, _ => exact idx_u16_10 w
  | 11, _ => exact idx_u16_11 w
  | 12, _ => exact idx_u16_12 w
  | 13, _ => exact idx_u16_13 w
  | 14, _ => exact idx_u16_14 w
  | 15, _ => exact idx_u16_15 w
  | n + 16, h => omega
theorem idx_u16 (i : Int) (h : 0 ≤ i ∧ i < 16) (w : World) : (Instr.index 9 (.string ⟨#[48, 49, 50, 51, 52, 53, 54, 55, 56, 57, 97, 98, 99, 100, 101, 102]⟩) (.int .u16 i)).run Tryd.prog w = .ok (.int .u8 (dig i)) w := by
  obtain ⟨n, rfl⟩ := Int.eq_ofNat_of_zero_le h.1
  exact idxF_u16 n (by omega) w

/-- The decimal digits of a byte. -/
def dec (x : Int) : List Int := (if 100 ≤ x then [dig (x / 100)] else []) ++ (if 10 ≤ x then [dig (x / 10 % 10)] else []) ++ [dig (x % 10)]
/-- The hexadecimal digits of a group; the four of them. -/
def hexd (x : Int) : List Int := (if 4096 ≤ x then [dig (x / 4096)] else []) ++ (if 256 ≤ x then [dig (x / 256 % 16)] else []) ++ (if 16 ≤ x then [dig (x / 16 % 16)] else []) ++ [dig (x % 16)]
def padh (x : Int) : List Int := [dig (x / 4096), dig (x / 256 % 16), dig (x / 16 % 16), dig (x % 16)]
theorem and15_u16 (y : Int) (h : 0 ≤ y ∧ y < 65536) : bits .and .u16 y 15 = y % 16 := by
  obtain ⟨n, rfl⟩ := Int.eq_ofNat_of_zero_le h.1
  have e := (bits_nat .u16 16 (by decide) (fun n h0 h1 => by rw [IntKind.wrap_u16]; omega) n 15 (by omega) (by omega)).1
  have e2 : n &&& 15 = n % 16 := by
    have := Nat.and_two_pow_sub_one_eq_mod n 4
    rwa [show (2 : Nat) ^ 4 - 1 = 15 from rfl] at this
  rw [e2] at e
  have e3 : ((15 : Nat) : Int) = 15 := rfl
  rw [e3] at e
  rw [e]; omega
set_option maxHeartbeats 4000000 in
set_option maxRecDepth 100000 in
theorem appDec_a (g k cap : Nat) (s : List Int) (hs : s.length = k) (x : Int) (h0 : 0 ≤ x) (h1 : x < 10) (hc : k + 1 ≤ cap) (w : World) (hg : g < w.heap.size) (hb : blk? w g = some (bufc cap s)) :
    Calls Tryd.prog 169 #[.slice (some ⟨g, 0, none⟩) (k) cap, .int .u8 x] w fun e w' => e = .returned (.slice (some ⟨g, 0, none⟩) (k + 1) cap) ∧ blk? w' g = some (bufc cap (s ++ [dig (x % 10)])) ∧ GX g w w' := by
  have q1 := idx_u8 (x / 100) (by omega)
  have q2 := idx_u8 (x / 10 % 10) (by omega)
  have q3 := idx_u8 (x % 10) (by omega)
  go_enter Tryd.func169, Tryd.ntmps169
  go_wp2_with (first
    | (at_builtin; refine wpList_append_buf _ rfl (.tmp 22) (.tmp 26) rfl g (k) cap (s) rfl _ 1 1 [dig (x % 10)] rfl ?_ rfl ?_ ?_ ?_ ?_; (simp only [List.length_append, List.length_cons, List.length_nil, hs] <;> omega); omega; go_simp; go_simp; intro w1 hbuf hgr; have hk1 := blk?_gx hgr; have hX := GX.trans (g := g) (a := w) (by repeat' (first | (with_reducible exact GX.refl _ _) | (with_reducible assumption) | (with_reducible refine GX.alloc ?_ _) | (with_reducible refine GX.drew ?_) | (with_reducible refine GX.drewN ?_ _))) hgr; have hgl : g < w1.heap.size := (by have hS1 := hgr.size; simp at hS1; omega); clear hgr))
  go_ret
  exact ⟨by simp [Nat.add_assoc], by simpa using hbuf, (by repeat' (first | (with_reducible exact GX.refl _ _) | (with_reducible assumption) | (with_reducible refine GX.alloc ?_ _) | (with_reducible refine GX.drew ?_) | (with_reducible refine GX.drewN ?_ _)))⟩
set_option maxHeartbeats 4000000 in
set_option maxRecDepth 100000 in
theorem appDec_b (g k cap : Nat) (s : List Int) (hs : s.length = k) (x : Int) (h0 : 10 ≤ x) (h1 : x < 100) (hc : k + 2 ≤ cap) (w : World) (hg : g < w.heap.size) (hb : blk? w g = some (bufc cap s)) :
    Calls Tryd.prog 169 #[.slice (some ⟨g, 0, none⟩) (k) cap, .int .u8 x] w fun e w' => e = .returned (.slice (some ⟨g, 0, none⟩) (k + 2) cap) ∧ blk? w' g = some (bufc cap (s ++ [dig (x / 10 % 10), dig (x % 10)])) ∧ GX g w w' := by
  have q1 := idx_u8 (x / 100) (by omega)
  have q2 := idx_u8 (x / 10 % 10) (by omega)
  have q3 := idx_u8 (x % 10) (by omega)
  go_enter Tryd.func169, Tryd.ntmps169
  go_wp2_with (first
    | (at_builtin; refine wpList_append_buf _ rfl (.tmp 15) (.tmp 20) rfl g (k) cap (s) rfl _ 1 1 [dig (x / 10 % 10)] rfl ?_ rfl ?_ ?_ ?_ ?_; (simp only [List.length_append, List.length_cons, List.length_nil, hs] <;> omega); omega; go_simp; go_simp; intro w1 hbuf hgr; have hk1 := blk?_gx hgr; have hX := GX.trans (g := g) (a := w) (by repeat' (first | (with_reducible exact GX.refl _ _) | (with_reducible assumption) | (with_reducible refine GX.alloc ?_ _) | (with_reducible refine GX.drew ?_) | (with_reducible refine GX.drewN ?_ _))) hgr; have hgl : g < w1.heap.size := (by have hS1 := hgr.size; simp at hS1; omega); clear hgr)
    | (at_builtin; refine wpList_append_buf _ rfl (.tmp 22) (.tmp 26) rfl g (k + 1) cap (s ++ [dig (x / 10 % 10)]) rfl _ 1 1 [dig (x % 10)] rfl ?_ rfl ?_ ?_ ?_ ?_; (simp only [List.length_append, List.length_cons, List.length_nil, hs] <;> omega); omega; go_simp; go_simp; intro w1 hbuf hgr; have hk1 := blk?_gx hgr; have hX := GX.trans (g := g) (a := w) (by repeat' (first | (with_reducible exact GX.refl _ _) | (with_reducible assumption) | (with_reducible refine GX.alloc ?_ _) | (with_reducible refine GX.drew ?_) | (with_reducible refine GX.drewN ?_ _))) hgr; have hgl : g < w1.heap.size := (by have hS1 := hgr.size; simp at hS1; omega); clear hgr))
  go_ret
  exact ⟨by simp [Nat.add_assoc], by simpa using hbuf, (by repeat' (first | (with_reducible exact GX.refl _ _) | (with_reducible assumption) | (with_reducible refine GX.alloc ?_ _) | (with_reducible refine GX.drew ?_) | (with_reducible refine GX.drewN ?_ _)))⟩
set_option maxHeartbeats 4000000 in
set_option maxRecDepth 100000 in
theorem appDec_c (g k cap : Nat) (s : List Int) (hs : s.length = k) (x : Int) (h0 : 100 ≤ x) (h1 : x < 256) (hc : k + 3 ≤ cap) (w : World) (hg : g < w.heap.size) (hb : blk? w g = some (bufc cap s)) :
    Calls Tryd.prog 169 #[.slice (some ⟨g, 0, none⟩) (k) cap, .int .u8 x] w fun e w' => e = .returned (.slice (some ⟨g, 0, none⟩) (k + 3) cap) ∧ blk? w' g = some (bufc cap (s ++ [dig (x / 100), dig (x / 10 % 10), dig (x % 10)])) ∧ GX g w w' := by
  have q1 := idx_u8 (x / 100) (by omega)
  have q2 := idx_u8 (x / 10 % 10) (by omega)
  have q3 := idx_u8 (x % 10) (by omega)
  go_enter Tryd.func169, Tryd.ntmps169
  go_wp2_with (first
    | (at_builtin; refine wpList_append_buf _ rfl (.tmp 7) (.tmp 11) rfl g (k) cap (s) rfl _ 1 1 [dig (x / 100)] rfl ?_ rfl ?_ ?_ ?_ ?_; (simp only [List.length_append, List.length_cons, List.length_nil, hs] <;> omega); omega; go_simp; go_simp; intro w1 hbuf hgr; have hk1 := blk?_gx hgr; have hX := GX.trans (g := g) (a := w) (by repeat' (first | (with_reducible exact GX.refl _ _) | (with_reducible assumption) | (with_reducible refine GX.alloc ?_ _) | (with_reducible refine GX.drew ?_) | (with_reducible refine GX.drewN ?_ _))) hgr; have hgl : g < w1.heap.size := (by have hS1 := hgr.size; simp at hS1; omega); clear hgr)
    | (at_builtin; refine wpList_append_buf _ rfl (.tmp 15) (.tmp 20) rfl g (k + 1) cap (s ++ [dig (x / 100)]) rfl _ 1 1 [dig (x / 10 % 10)] rfl ?_ rfl ?_ ?_ ?_ ?_; (simp only [List.length_append, List.length_cons, List.length_nil, hs] <;> omega); omega; go_simp; go_simp; intro w1 hbuf hgr; have hk1 := blk?_gx hgr; have hX := GX.trans (g := g) (a := w) (by repeat' (first | (with_reducible exact GX.refl _ _) | (with_reducible assumption) | (with_reducible refine GX.alloc ?_ _) | (with_reducible refine GX.drew ?_) | (with_reducible refine GX.drewN ?_ _))) hgr; have hgl : g < w1.heap.size := (by have hS1 := hgr.size; simp at hS1; omega); clear hgr)
    | (at_builtin; refine wpList_append_buf _ rfl (.tmp 22) (.tmp 26) rfl g (k + 2) cap (s ++ [dig (x / 100)] ++ [dig (x / 10 % 10)]) rfl _ 1 1 [dig (x % 10)] rfl ?_ rfl ?_ ?_ ?_ ?_; (simp only [List.length_append, List.length_cons, List.length_nil, hs] <;> omega); omega; go_simp; go_simp; intro w1 hbuf hgr; have hk1 := blk?_gx hgr; have hX := GX.trans (g := g) (a := w) (by repeat' (first | (with_reducible exact GX.refl _ _) | (with_reducible assumption) | (with_reducible refine GX.alloc ?_ _) | (with_reducible refine GX.drew ?_) | (with_reducible refine GX.drewN ?_ _))) hgr; have hgl : g < w1.heap.size := (by have hS1 := hgr.size; simp at hS1; omega); clear hgr))
  go_ret
  exact ⟨by simp [Nat.add_assoc], by simpa using hbuf, (by repeat' (first | (with_reducible exact GX.refl _ _) | (with_reducible assumption) | (with_reducible refine GX.alloc ?_ _) | (with_reducible refine GX.drew ?_) | (with_reducible refine GX.drewN ?_ _)))⟩
set_option maxHeartbeats 4000000 in
set_option maxRecDepth 100000 in
theorem appHex_a (g k cap : Nat) (s : List Int) (hs : s.length = k) (x : Int) (h0 : 0 ≤ x) (h1 : x < 16) (hc : k + 1 ≤ cap) (w : World) (hg : g < w.heap.size) (hb : blk? w g = some (bufc cap s)) :
    Calls Tryd.prog 170 #[.slice (some ⟨g, 0, none⟩) (k) cap, .int .u16 x] w fun e w' => e = .returned (.slice (some ⟨g, 0, none⟩) (k + 1) cap) ∧ blk? w' g = some (bufc cap (s ++ [dig (x % 16)])) ∧ GX g w w' := by
  have q0 := idx_u16 (x / 4096) (by omega)
  have q1 := idx_u16 (x / 256 % 16) (by omega)
  have q2 := idx_u16 (x / 16 % 16) (by omega)
  have q3 := idx_u16 (x % 16) (by omega)
  have r0 := and15_u16 (x / 256) (by omega)
  have r1 := and15_u16 (x / 16) (by omega)
  have r2 := and15_u16 (x) (by omega)
  go_enter Tryd.func170, Tryd.ntmps170
  go_wp2_with (first
    | (at_builtin; refine wpList_append_buf _ rfl (.tmp 31) (.tmp 35) rfl g (k) cap (s) rfl _ 1 1 [dig (x % 16)] rfl ?_ rfl ?_ ?_ ?_ ?_; (simp only [List.length_append, List.length_cons, List.length_nil, hs] <;> omega); omega; go_simp; go_simp; intro w1 hbuf hgr; have hk1 := blk?_gx hgr; have hX := GX.trans (g := g) (a := w) (by repeat' (first | (with_reducible exact GX.refl _ _) | (with_reducible assumption) | (with_reducible refine GX.alloc ?_ _) | (with_reducible refine GX.drew ?_) | (with_reducible refine GX.drewN ?_ _))) hgr; have hgl : g < w1.heap.size := (by have hS1 := hgr.size; simp at hS1; omega); clear hgr))
  go_ret
  exact ⟨by simp [Nat.add_assoc], by simpa using hbuf, (by repeat' (first | (with_reducible exact GX.refl _ _) | (with_reducible assumption) | (with_reducible refine GX.alloc ?_ _) | (with_reducible refine GX.drew ?_) | (with_reducible refine GX.drewN ?_ _)))⟩
set_option maxHeartbeats 4000000 in
set_option maxRecDepth 100000 in
theorem appHex_b (g k cap : Nat) (s : List Int) (hs : s.length = k) (x : Int) (h0 : 16 ≤ x) (h1 : x < 256) (hc : k + 2 ≤ cap) (w : World) (hg : g < w.heap.size) (hb : blk? w g = some (bufc cap s)) :
    Calls Tryd.prog 170 #[.slice (some ⟨g, 0, none⟩) (k) cap, .int .u16 x] w fun e w' => e = .returned (.slice (some ⟨g, 0, none⟩) (k + 2) cap) ∧ blk? w' g = some (bufc cap (s ++ [dig (x / 16 % 16), dig (x % 16)])) ∧ GX g w w' := by
  have q0 := idx_u16 (x / 4096) (by omega)
  have q1 := idx_u16 (x / 256 % 16) (by omega)
  have q2 := idx_u16 (x / 16 % 16) (by omega)
  have q3 := idx_u16 (x % 16) (by omega)
  have r0 := and15_u16 (x / 256) (by omega)
  have r1 := and15_u16 (x / 16) (by omega)
  have r2 := and15_u16 (x) (by omega)
  go_enter Tryd.func170, Tryd.ntmps170
  go_wp2_with (first
    | (at_builtin; refine wpList_append_buf _ rfl (.tmp 24) (.tmp 29) rfl g (k) cap (s) rfl _ 1 1 [dig (x / 16 % 16)] rfl ?_ rfl ?_ ?_ ?_ ?_; (simp only [List.length_append, List.length_cons, List.length_nil, hs] <;> omega); omega; go_simp; go_simp; intro w1 hbuf hgr; have hk1 := blk?_gx hgr; have hX := GX.trans (g := g) (a := w) (by repeat' (first | (with_reducible exact GX.refl _ _) | (with_reducible assumption) | (with_reducible refine GX.alloc ?_ _) | (with_reducible refine GX.drew ?_) | (with_reducible refine GX.drewN ?_ _))) hgr; have hgl : g < w1.heap.size := (by have hS1 := hgr.size; simp at hS1; omega); clear hgr)
    | (at_builtin; refine wpList_append_buf _ rfl (.tmp 31) (.tmp 35) rfl g (k + 1) cap (s ++ [dig (x / 16 % 16)]) rfl _ 1 1 [dig (x % 16)] rfl ?_ rfl ?_ ?_ ?_ ?_; (simp only [List.length_append, List.length_cons, List.length_nil, hs] <;> omega); omega; go_simp; go_simp; intro w1 hbuf hgr; have hk1 := blk?_gx hgr; have hX := GX.trans (g := g) (a := w) (by repeat' (first | (with_reducible exact GX.refl _ _) | (with_reducible assumption) | (with_reducible refine GX.alloc ?_ _) | (with_reducible refine GX.drew ?_) | (with_reducible refine GX.drewN ?_ _))) hgr; have hgl : g < w1.heap.size := (by have hS1 := hgr.size; simp at hS1; omega); clear hgr))
  go_ret
  exact ⟨by simp [Nat.add_assoc], by simpa using hbuf, (by repeat' (first | (with_reducible exact GX.refl _ _) | (with_reducible assumption) | (with_reducible refine GX.alloc ?_ _) | (with_reducible refine GX.drew ?_) | (with_reducible refine GX.drewN ?_ _)))⟩
set_option maxHeartbeats 4000000 in
set_option maxRecDepth 100000 in
theorem appHex_c (g k cap : Nat) (s : List Int) (hs : s.length = k) (x : Int) (h0 : 256 ≤ x) (h1 : x < 4096) (hc : k + 3 ≤ cap) (w : World) (hg : g < w.heap.size) (hb : blk? w g = some (bufc cap s)) :
    Calls Tryd.prog 170 #[.slice (some ⟨g, 0, none⟩) (k) cap, .int .u16 x] w fun e w' => e = .returned (.slice (some ⟨g, 0, none⟩) (k + 3) cap) ∧ blk? w' g = some (bufc cap (s ++ [dig (x / 256 % 16), dig (x / 16 % 16), dig (x % 16)])) ∧ GX g w w' := by
  have q0 := idx_u16 (x / 4096) (by omega)
  have q1 := idx_u16 (x / 256 % 16) (by omega)
  have q2 := idx_u16 (x / 16 % 16) (by omega)
  have q3 := idx_u16 (x % 16) (by omega)
  have r0 := and15_u16 (x / 256) (by omega)
  have r1 := and15_u16 (x / 16) (by omega)
  have r2 := and15_u16 (x) (by omega)
  go_enter Tryd.func170, Tryd.ntmps170
  go_wp2_with (first
    | (at_builtin; refine wpList_append_buf _ rfl (.tmp 15) (.tmp 20) rfl g (k) cap (s) rfl _ 1 1 [dig (x / 256 % 16)] rfl ?_ rfl ?_ ?_ ?_ ?_; (simp only [List.length_append, List.length_cons, List.length_nil, hs] <;> omega); omega; go_simp; go_simp; intro w1 hbuf hgr; have hk1 := blk?_gx hgr; have hX := GX.trans (g := g) (a := w) (by repeat' (first | (with_reducible exact GX.refl _ _) | (with_reducible assumption) | (with_reducible refine GX.alloc ?_ _) | (with_reducible refine GX.drew ?_) | (with_reducible refine GX.drewN ?_ _))) hgr; have hgl : g < w1.heap.size := (by have hS1 := hgr.size; simp at hS1; omega); clear hgr)
    | (at_builtin; refine wpList_append_buf _ rfl (.tmp 24) (.tmp 29) rfl g (k + 1) cap (s ++ [dig (x / 256 % 16)]) rfl _ 1 1 [dig (x / 16 % 16)] rfl ?_ rfl ?_ ?_ ?_ ?_; (simp only [List.length_append, List.length_cons, List.length_nil, hs] <;> omega); omega; go_simp; go_simp; intro w1 hbuf hgr; have hk1 := blk?_gx hgr; have hX := GX.trans (g := g) (a := w) (by repeat' (first | (with_reducible exact GX.refl _ _) | (with_reducible assumption) | (with_reducible refine GX.alloc ?_ _) | (with_reducible refine GX.drew ?_) | (with_reducible refine GX.drewN ?_ _))) hgr; have hgl : g < w1.heap.size := (by have hS1 := hgr.size; simp at hS1; omega); clear hgr)
    | (at_builtin; refine wpList_append_buf _ rfl (.tmp 31) (.tmp 35) rfl g (k + 2) cap (s ++ [dig (x / 256 % 16)] ++ [dig (x / 16 % 16)]) rfl _ 1 1 [dig (x % 16)] rfl ?_ rfl ?_ ?_ ?_ ?_; (simp only [List.length_append, List.length_cons, List.length_nil, hs] <;> omega); omega; go_simp; go_simp; intro w1 hbuf hgr; have hk1 := blk?_gx hgr; have hX := GX.trans (g := g) (a := w) (by repeat' (first | (with_reducible exact GX.refl _ _) | (with_reducible assumption) | (with_reducible refine GX.alloc ?_ _) | (with_reducible refine GX.drew ?_) | (with_reducible refine GX.drewN ?_ _))) hgr; have hgl : g < w1.heap.size := (by have hS1 := hgr.size; simp at hS1; omega); clear hgr))
  go_ret
  exact ⟨by simp [Nat.add_assoc], by simpa using hbuf, (by repeat' (first | (with_reducible exact GX.refl _ _) | (with_reducible assumption) | (with_reducible refine GX.alloc ?_ _) | (with_reducible refine GX.drew ?_) | (with_reducible refine GX.drewN ?_ _)))⟩
set_option maxHeartbeats 4000000 in
set_option maxRecDepth 100000 in
theorem appHex_d (g k cap : Nat) (s : List Int) (hs : s.length = k) (x : Int) (h0 : 4096 ≤ x) (h1 : x < 65536) (hc : k + 4 ≤ cap) (w : World) (hg : g < w.heap.size) (hb : blk? w g = some (bufc cap s)) :
    Calls Tryd.prog 170 #[.slice (some ⟨g, 0, none⟩) (k) cap, .int .u16 x] w fun e w' => e = .returned (.slice (some ⟨g, 0, none⟩) (k + 4) cap) ∧ blk? w' g = some (bufc cap (s ++ [dig (x / 4096), dig (x / 256 % 16), dig (x / 16 % 16), dig (x % 16)])) ∧ GX g w w' := by
  have q0 := idx_u16 (x / 4096) (by omega)
  have q1 := idx_u16 (x / 256 % 16) (by omega)
  have q2 := idx_u16 (x / 16 % 16) (by omega)
  have q3 := idx_u16 (x % 16) (by omega)
  have r0 := and15_u16 (x / 256) (by omega)
  have r1 := and15_u16 (x / 16) (by omega)
  have r2 := and15_u16 (x) (by omega)
  go_enter Tryd.func170, Tryd.ntmps170
  go_wp2_with (first
    | (at_builtin; refine wpList_append_buf _ rfl (.tmp 7) (.tmp 11) rfl g (k) cap (s) rfl _ 1 1 [dig (x / 4096)] rfl ?_ rfl ?_ ?_ ?_ ?_; (simp only [List.length_append, List.length_cons, List.length_nil, hs] <;> omega); omega; go_simp; go_simp; intro w1 hbuf hgr; have hk1 := blk?_gx hgr; have hX := GX.trans (g := g) (a := w) (by repeat' (first | (with_reducible exact GX.refl _ _) | (with_reducible assumption) | (with_reducible refine GX.alloc ?_ _) | (with_reducible refine GX.drew ?_) | (with_reducible refine GX.drewN ?_ _))) hgr; have hgl : g < w1.heap.size := (by have hS1 := hgr.size; simp at hS1; omega); clear hgr)
    | (at_builtin; refine wpList_append_buf _ rfl (.tmp 15) (.tmp 20) rfl g (k + 1) cap (s ++ [dig (x / 4096)]) rfl _ 1 1 [dig (x / 256 % 16)] rfl ?_ rfl ?_ ?_ ?_ ?_; (simp only [List.length_append, List.length_cons, List.length_nil, hs] <;> omega); omega; go_simp; go_simp; intro w1 hbuf hgr; have hk1 := blk?_gx hgr; have hX := GX.trans (g := g) (a := w) (by repeat' (first | (with_reducible exact GX.refl _ _) | (with_reducible assumption) | (with_reducible refine GX.alloc ?_ _) | (with_reducible refine GX.drew ?_) | (with_reducible refine GX.drewN ?_ _))) hgr; have hgl : g < w1.heap.size := (by have hS1 := hgr.size; simp at hS1; omega); clear hgr)
    | (at_builtin; refine wpList_append_buf _ rfl (.tmp 24) (.tmp 29) rfl g (k + 2) cap (s ++ [dig (x / 4096)] ++ [dig (x / 256 % 16)]) rfl _ 1 1 [dig (x / 16 % 16)] rfl ?_ rfl ?_ ?_ ?_ ?_; (simp only [List.length_append, List.length_cons, List.length_nil, hs] <;> omega); omega; go_simp; go_simp; intro w1 hbuf hgr; have hk1 := blk?_gx hgr; have hX := GX.trans (g := g) (a := w) (by repeat' (first | (with_reducible exact GX.refl _ _) | (with_reducible assumption) | (with_reducible refine GX.alloc ?_ _) | (with_reducible refine GX.drew ?_) | (with_reducible refine GX.drewN ?_ _))) hgr; have hgl : g < w1.heap.size := (by have hS1 := hgr.size; simp at hS1; omega); clear hgr)
    | (at_builtin; refine wpList_append_buf _ rfl (.tmp 31) (.tmp 35) rfl g (k + 3) cap (s ++ [dig (x / 4096)] ++ [dig (x / 256 % 16)] ++ [dig (x / 16 % 16)]) rfl _ 1 1 [dig (x % 16)] rfl ?_ rfl ?_ ?_ ?_ ?_; (simp only [List.length_append, List.length_cons, List.length_nil, hs] <;> omega); omega; go_simp; go_simp; intro w1 hbuf hgr; have hk1 := blk?_gx hgr; have hX := GX.trans (g := g) (a := w) (by repeat' (first | (with_reducible exact GX.refl _ _) | (with_reducible assumption) | (with_reducible refine GX.alloc ?_ _) | (with_reducible refine GX.drew ?_) | (with_reducible refine GX.drewN ?_ _))) hgr; have hgl : g < w1.heap.size := (by have hS1 := hgr.size; simp at hS1; omega); clear hgr))
  go_ret
  exact ⟨by simp [Nat.add_assoc], by simpa using hbuf, (by repeat' (first | (with_reducible exact GX.refl _ _) | (with_reducible assumption) | (with_reducible refine GX.alloc ?_ _) | (with_reducible refine GX.drew ?_) | (with_reducible refine GX.drewN ?_ _)))⟩
end Go.Proofs.YtmlkcgacneealaaDoor
