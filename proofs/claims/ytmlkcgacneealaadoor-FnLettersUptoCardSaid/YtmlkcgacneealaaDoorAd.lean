/- An address as one block of eighteen cells, kept whole: its reading, its loads, stores and comparison as single steps of a walk. No conditions. -/
import Derived.Test.YtmlkcgacneealaaDoorBase
import Derived.Laws.Rows
import Derived.Laws.Tables
import Derived.Laws.StructEq
import Derived.ChangeKeysEq
import Derived.Deep.MidRow
set_option linter.unusedVariables false
set_option linter.unusedSimpArgs false
namespace Go.Proofs.YtmlkcgacneealaaDoor
open Go.RowKit

/-- The cells of an address: its length, sixteen bytes, its zone. -/
def adr (n : Int) (b : Nat → Int) (z : ByteArray) : Array Value := #[.int .i64 n, .int .u8 (b 0), .int .u8 (b 1), .int .u8 (b 2), .int .u8 (b 3), .int .u8 (b 4), .int .u8 (b 5), .int .u8 (b 6), .int .u8 (b 7), .int .u8 (b 8), .int .u8 (b 9), .int .u8 (b 10), .int .u8 (b 11), .int .u8 (b 12), .int .u8 (b 13), .int .u8 (b 14), .int .u8 (b 15), .string z]
/-- Sixteen bytes as cells; four. -/
def arr16 (b : Nat → Int) : Array Value := #[.int .u8 (b 0), .int .u8 (b 1), .int .u8 (b 2), .int .u8 (b 3), .int .u8 (b 4), .int .u8 (b 5), .int .u8 (b 6), .int .u8 (b 7), .int .u8 (b 8), .int .u8 (b 9), .int .u8 (b 10), .int .u8 (b 11), .int .u8 (b 12), .int .u8 (b 13), .int .u8 (b 14), .int .u8 (b 15)]
def arr4 (b : Nat → Int) : Array Value := #[.int .u8 (b 0), .int .u8 (b 1), .int .u8 (b 2), .int .u8 (b 3)]
/-- No bytes but zeros; one byte changed. -/
def zb : Nat → Int := fun _ => 0
def upd (b : Nat → Int) (k : Nat) (v : Int) : Nat → Int := fun i => if i = k then v else b i

theorem adr_size (n : Int) (b : Nat → Int) (z : ByteArray) : (adr n b z).size = 18 := id rfl
theorem arr16_size (b : Nat → Int) : (arr16 b).size = 16 := id rfl
theorem arr4_size (b : Nat → Int) : (arr4 b).size = 4 := id rfl
theorem adr_len (n : Int) (b : Nat → Int) (z : ByteArray) : (adr n b z)[0]? = some (.int .i64 n) := id rfl
theorem adr_zone (n : Int) (b : Nat → Int) (z : ByteArray) : (adr n b z)[17]? = some (.string z) := id rfl
theorem adr_byte (n : Int) (b : Nat → Int) (z : ByteArray) (k : Nat) (h : k < 16) : (adr n b z)[k + 1]? = some (.int .u8 (b k)) := by
  match k, h with
  | 0, _ => rfl
  | 1, _ => rfl
  | 2, _ => rfl
  | 3, _ => rfl
  | 4, _ => rfl
  | 5, _ => rfl
  | 6, _ => rfl
  | 7, _ => rfl
  | 8, _ => rfl
  | 9, _ => rfl
  | 10, _ => rfl
  | 11, _ => rfl
  | 12, _ => rfl
  | 13, _ => rfl
  | 14, _ => rfl
  | 15, _ => rfl
  | k + 16, h => omega
theorem adr_byte' (n : Int) (b : Nat → Int) (z : ByteArray) (k : Nat) (h : k < 16) : (adr n b z)[1 + k]? = some (.int .u8 (b k)) := by
  rw [Nat.add_comm]; exact adr_byte n b z k h
theorem adr_byte0 (n : Int) (b : Nat → Int) (z : ByteArray) : (adr n b z)[1]? = some (.int .u8 (b 0)) := id rfl
theorem adr_byte1 (n : Int) (b : Nat → Int) (z : ByteArray) : (adr n b z)[2]? = some (.int .u8 (b 1)) := id rfl
theorem adr_byte2 (n : Int) (b : Nat → Int) (z : ByteArray) : (adr n b z)[3]? = some (.int .u8 (b 2)) := id rfl
theorem adr_byte3 (n : Int) (b : Nat → Int) (z : ByteArray) : (adr n b z)[4]? = some (.int .u8 (b 3)) := id rfl
theorem adr_byte4 (n : Int) (b : Nat → Int) (z : ByteArray) : (adr n b z)[5]? = some (.int .u8 (b 4)) := id rfl
theorem adr_byte5 (n : Int) (b : Nat → Int) (z : ByteArray) : (adr n b z)[6]? = some (.int .u8 (b 5)) := id rfl
theorem adr_byte6 (n : Int) (b : Nat → Int) (z : ByteArray) : (adr n b z)[7]? = some (.int .u8 (b 6)) := id rfl
theorem adr_byte7 (n : Int) (b : Nat → Int) (z : ByteArray) : (adr n b z)[8]? = some (.int .u8 (b 7)) := id rfl
theorem adr_byte8 (n : Int) (b : Nat → Int) (z : ByteArray) : (adr n b z)[9]? = some (.int .u8 (b 8)) := id rfl
theorem adr_byte9 (n : Int) (b : Nat → Int) (z : ByteArray) : (adr n b z)[10]? = some (.int .u8 (b 9)) := id rfl
theorem adr_byte10 (n : Int) (b : Nat → Int) (z : ByteArray) : (adr n b z)[11]? = some (.int .u8 (b 10)) := id rfl
theorem adr_byte11 (n : Int) (b : Nat → Int) (z : ByteArray) : (adr n b z)[12]? = some (.int .u8 (b 11)) := id rfl
theorem adr_byte12 (n : Int) (b : Nat → Int) (z : ByteArray) : (adr n b z)[13]? = some (.int .u8 (b 12)) := id rfl
theorem adr_byte13 (n : Int) (b : Nat → Int) (z : ByteArray) : (adr n b z)[14]? = some (.int .u8 (b 13)) := id rfl
theorem adr_byte14 (n : Int) (b : Nat → Int) (z : ByteArray) : (adr n b z)[15]? = some (.int .u8 (b 14)) := id rfl
theorem adr_byte15 (n : Int) (b : Nat → Int) (z : ByteArray) : (adr n b z)[16]? = some (.int .u8 (b 15)) := id rfl
theorem arr16_byte (b : Nat → Int) (k : Nat) (h : k < 16) : (arr16 b)[k]? = some (.int .u8 (b k)) := by
  match k, h with
  | 0, _ => rfl
  | 1, _ => rfl
  | 2, _ => rfl
  | 3, _ => rfl
  | 4, _ => rfl
  | 5, _ => rfl
  | 6, _ => rfl
  | 7, _ => rfl
  | 8, _ => rfl
  | 9, _ => rfl
  | 10, _ => rfl
  | 11, _ => rfl
  | 12, _ => rfl
  | 13, _ => rfl
  | 14, _ => rfl
  | 15, _ => rfl
  | k + 16, h => omega
theorem arr4_byte (b : Nat → Int) (k : Nat) (h : k < 4) : (arr4 b)[k]? = some (.int .u8 (b k)) := by
  match k, h with
  | 0, _ => rfl
  | 1, _ => rfl
  | 2, _ => rfl
  | 3, _ => rfl
  | k + 4, h => omega
theorem arr16_byte0 (b : Nat → Int) : (arr16 b)[0]? = some (.int .u8 (b 0)) := id rfl
theorem arr16_byte1 (b : Nat → Int) : (arr16 b)[1]? = some (.int .u8 (b 1)) := id rfl
theorem arr16_byte2 (b : Nat → Int) : (arr16 b)[2]? = some (.int .u8 (b 2)) := id rfl
theorem arr16_byte3 (b : Nat → Int) : (arr16 b)[3]? = some (.int .u8 (b 3)) := id rfl
theorem arr16_byte4 (b : Nat → Int) : (arr16 b)[4]? = some (.int .u8 (b 4)) := id rfl
theorem arr16_byte5 (b : Nat → Int) : (arr16 b)[5]? = some (.int .u8 (b 5)) := id rfl
theorem arr16_byte6 (b : Nat → Int) : (arr16 b)[6]? = some (.int .u8 (b 6)) := id rfl
theorem arr16_byte7 (b : Nat → Int) : (arr16 b)[7]? = some (.int .u8 (b 7)) := id rfl
theorem arr16_byte8 (b : Nat → Int) : (arr16 b)[8]? = some (.int .u8 (b 8)) := id rfl
theorem arr16_byte9 (b : Nat → Int) : (arr16 b)[9]? = some (.int .u8 (b 9)) := id rfl
theorem arr16_byte10 (b : Nat → Int) : (arr16 b)[10]? = some (.int .u8 (b 10)) := id rfl
theorem arr16_byte11 (b : Nat → Int) : (arr16 b)[11]? = some (.int .u8 (b 11)) := id rfl
theorem arr16_byte12 (b : Nat → Int) : (arr16 b)[12]? = some (.int .u8 (b 12)) := id rfl
theorem arr16_byte13 (b : Nat → Int) : (arr16 b)[13]? = some (.int .u8 (b 13)) := id rfl
theorem arr16_byte14 (b : Nat → Int) : (arr16 b)[14]? = some (.int .u8 (b 14)) := id rfl
theorem arr16_byte15 (b : Nat → Int) : (arr16 b)[15]? = some (.int .u8 (b 15)) := id rfl
theorem arr4_byte0 (b : Nat → Int) : (arr4 b)[0]? = some (.int .u8 (b 0)) := id rfl
theorem arr4_byte1 (b : Nat → Int) : (arr4 b)[1]? = some (.int .u8 (b 1)) := id rfl
theorem arr4_byte2 (b : Nat → Int) : (arr4 b)[2]? = some (.int .u8 (b 2)) := id rfl
theorem arr4_byte3 (b : Nat → Int) : (arr4 b)[3]? = some (.int .u8 (b 3)) := id rfl
theorem arr16_at0 (b : Nat → Int) (h : 0 < (arr16 b).size) : (arr16 b)[0]'h = .int .u8 (b 0) := id rfl
attribute [go_sem 3000] arr16_at0
theorem arr16_at1 (b : Nat → Int) (h : 1 < (arr16 b).size) : (arr16 b)[1]'h = .int .u8 (b 1) := id rfl
attribute [go_sem 3000] arr16_at1
theorem arr16_at2 (b : Nat → Int) (h : 2 < (arr16 b).size) : (arr16 b)[2]'h = .int .u8 (b 2) := id rfl
attribute [go_sem 3000] arr16_at2
theorem arr16_at3 (b : Nat → Int) (h : 3 < (arr16 b).size) : (arr16 b)[3]'h = .int .u8 (b 3) := id rfl
attribute [go_sem 3000] arr16_at3
theorem arr16_at4 (b : Nat → Int) (h : 4 < (arr16 b).size) : (arr16 b)[4]'h = .int .u8 (b 4) := id rfl
attribute [go_sem 3000] arr16_at4
theorem arr16_at5 (b : Nat → Int) (h : 5 < (arr16 b).size) : (arr16 b)[5]'h = .int .u8 (b 5) := id rfl
attribute [go_sem 3000] arr16_at5
theorem arr16_at6 (b : Nat → Int) (h : 6 < (arr16 b).size) : (arr16 b)[6]'h = .int .u8 (b 6) := id rfl
attribute [go_sem 3000] arr16_at6
theorem arr16_at7 (b : Nat → Int) (h : 7 < (arr16 b).size) : (arr16 b)[7]'h = .int .u8 (b 7) := id rfl
attribute [go_sem 3000] arr16_at7
theorem arr16_at8 (b : Nat → Int) (h : 8 < (arr16 b).size) : (arr16 b)[8]'h = .int .u8 (b 8) := id rfl
attribute [go_sem 3000] arr16_at8
theorem arr16_at9 (b : Nat → Int) (h : 9 < (arr16 b).size) : (arr16 b)[9]'h = .int .u8 (b 9) := id rfl
attribute [go_sem 3000] arr16_at9
theorem arr16_at10 (b : Nat → Int) (h : 10 < (arr16 b).size) : (arr16 b)[10]'h = .int .u8 (b 10) := id rfl
attribute [go_sem 3000] arr16_at10
theorem arr16_at11 (b : Nat → Int) (h : 11 < (arr16 b).size) : (arr16 b)[11]'h = .int .u8 (b 11) := id rfl
attribute [go_sem 3000] arr16_at11
theorem arr16_at12 (b : Nat → Int) (h : 12 < (arr16 b).size) : (arr16 b)[12]'h = .int .u8 (b 12) := id rfl
attribute [go_sem 3000] arr16_at12
theorem arr16_at13 (b : Nat → Int) (h : 13 < (arr16 b).size) : (arr16 b)[13]'h = .int .u8 (b 13) := id rfl
attribute [go_sem 3000] arr16_at13
theorem arr16_at14 (b : Nat → Int) (h : 14 < (arr16 b).size) : (arr16 b)[14]'h = .int .u8 (b 14) := id rfl
attribute [go_sem 3000] arr16_at14
theorem arr16_at15 (b : Nat → Int) (h : 15 < (arr16 b).size) : (arr16 b)[15]'h = .int .u8 (b 15) := id rfl
attribute [go_sem 3000] arr16_at15
theorem arr4_at0 (b : Nat → Int) (h : 0 < (arr4 b).size) : (arr4 b)[0]'h = .int .u8 (b 0) := id rfl
attribute [go_sem 3000] arr4_at0
theorem arr4_at1 (b : Nat → Int) (h : 1 < (arr4 b).size) : (arr4 b)[1]'h = .int .u8 (b 1) := id rfl
attribute [go_sem 3000] arr4_at1
theorem arr4_at2 (b : Nat → Int) (h : 2 < (arr4 b).size) : (arr4 b)[2]'h = .int .u8 (b 2) := id rfl
attribute [go_sem 3000] arr4_at2
theorem arr4_at3 (b : Nat → Int) (h : 3 < (arr4 b).size) : (arr4 b)[3]'h = .int .u8 (b 3) := id rfl
attribute [go_sem 3000] arr4_at3
theorem adr_atL (n : Int) (b : Nat → Int) (z : ByteArray) (h : 0 < (adr n b z).size) : (adr n b z)[0]'h = .int .i64 n := id rfl
attribute [go_sem 3000] adr_atL
theorem adr_atZ (n : Int) (b : Nat → Int) (z : ByteArray) (h : 17 < (adr n b z).size) : (adr n b z)[17]'h = .string z := id rfl
attribute [go_sem 3000] adr_atZ
theorem adr_at0 (n : Int) (b : Nat → Int) (z : ByteArray) (h : 1 < (adr n b z).size) : (adr n b z)[1]'h = .int .u8 (b 0) := id rfl
attribute [go_sem 3000] adr_at0
theorem adr_at1 (n : Int) (b : Nat → Int) (z : ByteArray) (h : 2 < (adr n b z).size) : (adr n b z)[2]'h = .int .u8 (b 1) := id rfl
attribute [go_sem 3000] adr_at1
theorem adr_at2 (n : Int) (b : Nat → Int) (z : ByteArray) (h : 3 < (adr n b z).size) : (adr n b z)[3]'h = .int .u8 (b 2) := id rfl
attribute [go_sem 3000] adr_at2
theorem adr_at3 (n : Int) (b : Nat → Int) (z : ByteArray) (h : 4 < (adr n b z).size) : (adr n b z)[4]'h = .int .u8 (b 3) := id rfl
attribute [go_sem 3000] adr_at3
theorem adr_at4 (n : Int) (b : Nat → Int) (z : ByteArray) (h : 5 < (adr n b z).size) : (adr n b z)[5]'h = .int .u8 (b 4) := id rfl
attribute [go_sem 3000] adr_at4
theorem adr_at5 (n : Int) (b : Nat → Int) (z : ByteArray) (h : 6 < (adr n b z).size) : (adr n b z)[6]'h = .int .u8 (b 5) := id rfl
attribute [go_sem 3000] adr_at5
theorem adr_at6 (n : Int) (b : Nat → Int) (z : ByteArray) (h : 7 < (adr n b z).size) : (adr n b z)[7]'h = .int .u8 (b 6) := id rfl
attribute [go_sem 3000] adr_at6
theorem adr_at7 (n : Int) (b : Nat → Int) (z : ByteArray) (h : 8 < (adr n b z).size) : (adr n b z)[8]'h = .int .u8 (b 7) := id rfl
attribute [go_sem 3000] adr_at7
theorem adr_at8 (n : Int) (b : Nat → Int) (z : ByteArray) (h : 9 < (adr n b z).size) : (adr n b z)[9]'h = .int .u8 (b 8) := id rfl
attribute [go_sem 3000] adr_at8
theorem adr_at9 (n : Int) (b : Nat → Int) (z : ByteArray) (h : 10 < (adr n b z).size) : (adr n b z)[10]'h = .int .u8 (b 9) := id rfl
attribute [go_sem 3000] adr_at9
theorem adr_at10 (n : Int) (b : Nat → Int) (z : ByteArray) (h : 11 < (adr n b z).size) : (adr n b z)[11]'h = .int .u8 (b 10) := id rfl
attribute [go_sem 3000] adr_at10
theorem adr_at11 (n : Int) (b : Nat → Int) (z : ByteArray) (h : 12 < (adr n b z).size) : (adr n b z)[12]'h = .int .u8 (b 11) := id rfl
attribute [go_sem 3000] adr_at11
theorem adr_at12 (n : Int) (b : Nat → Int) (z : ByteArray) (h : 13 < (adr n b z).size) : (adr n b z)[13]'h = .int .u8 (b 12) := id rfl
attribute [go_sem 3000] adr_at12
theorem adr_at13 (n : Int) (b : Nat → Int) (z : ByteArray) (h : 14 < (adr n b z).size) : (adr n b z)[14]'h = .int .u8 (b 13) := id rfl
attribute [go_sem 3000] adr_at13
theorem adr_at14 (n : Int) (b : Nat → Int) (z : ByteArray) (h : 15 < (adr n b z).size) : (adr n b z)[15]'h = .int .u8 (b 14) := id rfl
attribute [go_sem 3000] adr_at14
theorem adr_at15 (n : Int) (b : Nat → Int) (z : ByteArray) (h : 16 < (adr n b z).size) : (adr n b z)[16]'h = .int .u8 (b 15) := id rfl
attribute [go_sem 3000] adr_at15
theorem arr16_get (b : Nat → Int) (k : Nat) (h : k < (arr16 b).size) : (arr16 b)[k]'h = .int .u8 (b k) := by
  have h' : k < 16 := h
  have e := arr16_byte b k h'
  rw [Array.getElem?_eq_getElem h] at e
  exact Option.some.inj e
theorem arr4_get (b : Nat → Int) (k : Nat) (h : k < (arr4 b).size) : (arr4 b)[k]'h = .int .u8 (b k) := by
  have h' : k < 4 := h
  have e := arr4_byte b k h'
  rw [Array.getElem?_eq_getElem h] at e
  exact Option.some.inj e
theorem adr_get (n : Int) (b : Nat → Int) (z : ByteArray) (k : Nat) (h : k + 1 < (adr n b z).size) (h' : k < 16) : (adr n b z)[k + 1]'h = .int .u8 (b k) := by
  have e := adr_byte n b z k h'
  rw [Array.getElem?_eq_getElem h] at e
  exact Option.some.inj e
theorem adr_get' (n : Int) (b : Nat → Int) (z : ByteArray) (k : Nat) (h : 1 + k < (adr n b z).size) (h' : k < 16) : (adr n b z)[1 + k]'h = .int .u8 (b k) := by
  have e := adr_byte' n b z k h'
  rw [Array.getElem?_eq_getElem h] at e
  exact Option.some.inj e
attribute [go_sem] arr16_get arr4_get adr_get adr_get'
theorem adr_ne (n : Int) (b : Nat → Int) (z : ByteArray) : (adr n b z = #[]) = False := by
  apply eq_false; intro h; have := congrArg Array.size h; simp [adr] at this
theorem arr16_ne (b : Nat → Int) : (arr16 b = #[]) = False := by
  apply eq_false; intro h; have := congrArg Array.size h; simp [arr16] at this
theorem arr4_ne (b : Nat → Int) : (arr4 b = #[]) = False := by
  apply eq_false; intro h; have := congrArg Array.size h; simp [arr4] at this
attribute [go_sem 3000] adr_ne arr16_ne arr4_ne
theorem adr_congr {n m : Int} {b c : Nat → Int} {z y : ByteArray} (h : n = m) (hb : ∀ k, k < 16 → b k = c k) (hz : z = y) : adr n b z = adr m c y := by
  subst h; subst hz; unfold adr
  rw [hb 0 (by omega), hb 1 (by omega), hb 2 (by omega), hb 3 (by omega), hb 4 (by omega), hb 5 (by omega), hb 6 (by omega), hb 7 (by omega), hb 8 (by omega), hb 9 (by omega), hb 10 (by omega), hb 11 (by omega), hb 12 (by omega), hb 13 (by omega), hb 14 (by omega), hb 15 (by omega)]
theorem arr16_congr {b c : Nat → Int} (hb : ∀ k, k < 16 → b k = c k) : arr16 b = arr16 c := by
  unfold arr16
  rw [hb 0 (by omega), hb 1 (by omega), hb 2 (by omega), hb 3 (by omega), hb 4 (by omega), hb 5 (by omega), hb 6 (by omega), hb 7 (by omega), hb 8 (by omega), hb 9 (by omega), hb 10 (by omega), hb 11 (by omega), hb 12 (by omega), hb 13 (by omega), hb 14 (by omega), hb 15 (by omega)]
theorem arr4_congr {b c : Nat → Int} (hb : ∀ k, k < 4 → b k = c k) : arr4 b = arr4 c := by
  unfold arr4
  rw [hb 0 (by omega), hb 1 (by omega), hb 2 (by omega), hb 3 (by omega)]
theorem adr_one (n : Int) (b : Nat → Int) (z : ByteArray) : (adr n b z).all (·.oneCell') = true := by simp [adr, Value.oneCell']
theorem arr16_one (b : Nat → Int) : (arr16 b).all (·.oneCell') = true := by simp [arr16, Value.oneCell']
theorem arr4_one (b : Nat → Int) : (arr4 b).all (·.oneCell') = true := by simp [arr4, Value.oneCell']
theorem adr_set (n : Int) (b : Nat → Int) (z : ByteArray) (k : Nat) (v : Int) (h : k < 16) : (adr n b z).setIfInBounds (k + 1) (.int .u8 v) = adr n (upd b k v) z := by
  match k, h with
  | 0, _ => rfl
  | 1, _ => rfl
  | 2, _ => rfl
  | 3, _ => rfl
  | 4, _ => rfl
  | 5, _ => rfl
  | 6, _ => rfl
  | 7, _ => rfl
  | 8, _ => rfl
  | 9, _ => rfl
  | 10, _ => rfl
  | 11, _ => rfl
  | 12, _ => rfl
  | 13, _ => rfl
  | 14, _ => rfl
  | 15, _ => rfl
  | k + 16, h => omega
theorem adr_set' (n : Int) (b : Nat → Int) (z : ByteArray) (k : Nat) (v : Int) (h : k < 16) : (adr n b z).setIfInBounds (1 + k) (.int .u8 v) = adr n (upd b k v) z := by
  rw [Nat.add_comm]; exact adr_set n b z k v h
theorem adr_setZone (n : Int) (b : Nat → Int) (z y : ByteArray) : (adr n b z).setIfInBounds 17 (.string y) = adr n b y := id rfl
theorem adr_setLen (n m : Int) (b : Nat → Int) (z : ByteArray) : (adr n b z).setIfInBounds 0 (.int .i64 m) = adr m b z := id rfl
attribute [go_sem 3000] adr_len adr_zone adr_byte adr_byte' arr16_byte arr4_byte
attribute [go_sem] adr_size adr_set adr_set' adr_setZone adr_setLen arr16_size arr4_size
attribute [go_sem 3000] adr_byte0 adr_byte1 adr_byte2 adr_byte3 adr_byte4 adr_byte5 adr_byte6 adr_byte7 adr_byte8 adr_byte9 adr_byte10 adr_byte11 adr_byte12 adr_byte13 adr_byte14 adr_byte15 arr16_byte0 arr16_byte1 arr16_byte2 arr16_byte3 arr16_byte4 arr16_byte5 arr16_byte6 arr16_byte7 arr16_byte8 arr16_byte9 arr16_byte10 arr16_byte11 arr16_byte12 arr16_byte13 arr16_byte14 arr16_byte15 arr4_byte0 arr4_byte1 arr4_byte2 arr4_byte3

/-! ### A block known whole -/
/-- The cells of block g, if it is a row that may be written. -/
def blk? (w : World) (g : Nat) : Option (Array Value) := match w.heap[g]? with
  | some (.cells c _ (0, 0)) => some c
  | _ => none
theorem blk?_of {w : World} {g : Nat} {c : Array Value} {t : TypeId} (h : w.heap[g]? = some (.cells c t (0, 0))) : blk? w g = some c := by unfold blk?; rw [h]; rfl
theorem of_blk? {w : World} {g : Nat} {c : Array Value} (h : blk? w g = some c) : ∃ t, w.heap[g]? = some (.cells c t (0, 0)) := by
  unfold blk? at h
  split at h
  · rename_i c' t' hh; cases h; exact ⟨t', hh⟩
  · cases h
theorem blk?_lt {w : World} {g : Nat} {c : Array Value} (h : blk? w g = some c) : g < w.heap.size := by
  obtain ⟨t, ht⟩ := of_blk? h; exact lt_of_some ht
theorem blk?_cell {w : World} {g : Nat} {c : Array Value} (h : blk? w g = some c) (i : Nat) : w.cell? ⟨g, i, none⟩ = c[i]? := by
  obtain ⟨t, ht⟩ := of_blk? h; exact cells_of ht i
theorem blk?_frozen {w : World} {g : Nat} {c : Array Value} (h : blk? w g = some c) (i : Nat) : w.frozen? ⟨g, i, none⟩ = false := by
  obtain ⟨t, ht⟩ := of_blk? h; exact frozen_of ht i
theorem blk?_new (w : World) (c : Array Value) (t : TypeId) (n : Nat) (h : n = w.heap.size) : blk? (w.alloc (.cells c t)) n = some c := blk?_of (blk_last w _ n h)
theorem blk?_old (w : World) (o : Obj) (n : Nat) (h : n < w.heap.size) : blk? (w.alloc o) n = blk? w n := by unfold blk?; rw [blk_old w o n h]
theorem blk?_drew (w : World) (n : Nat) : blk? w.drew n = blk? w n := id rfl
theorem blk?_drewN (w : World) (k n : Nat) : blk? (w.drewN k) n = blk? w n := id rfl
theorem blk?_below {B : Nat} {w w' : World} (hb : Below B w w') (k : Nat) (hk : k < B) : blk? w' k = blk? w k := by unfold blk?; rw [hb.block k hk]
theorem blk?_setOther (w : World) (a : Addr) (v : Value) (n : Nat) (h : n ≠ a.block) : blk? (w.setCell a v) n = blk? w n := by
  unfold blk?; rw [heap_setCell_other w a n v h]
theorem blk?_setRow {w : World} {g : Nat} {c : Array Value} (h : blk? w g = some c) (c' : Array Value) : blk? (w.setRow g c') g = some c' := by
  obtain ⟨t, ht⟩ := of_blk? h; exact blk?_of (setRow_heap w g c c' t (0, 0) ht)
theorem blk?_setRowOther (w : World) (g n : Nat) (c' : Array Value) (h : n ≠ g) : blk? (w.setRow g c') n = blk? w n := by
  unfold blk?; rw [setRow_other w g n c' h]
attribute [go_sem] blk?_new blk?_old blk?_drew blk?_drewN
theorem blk?_old2 (w : World) (o1 o2 : Obj) (n : Nat) (h : n < w.heap.size) : blk? ((w.alloc o1).alloc o2) n = blk? w n := by
  rw [blk?_old (h := by (try simp only [World.size_alloc]); omega)]; rw [blk?_old (h := by (try simp only [World.size_alloc]); omega)]
attribute [go_sem] blk?_old2
theorem blk?_old3 (w : World) (o1 o2 o3 : Obj) (n : Nat) (h : n < w.heap.size) : blk? (((w.alloc o1).alloc o2).alloc o3) n = blk? w n := by
  rw [blk?_old (h := by (try simp only [World.size_alloc]); omega)]; rw [blk?_old (h := by (try simp only [World.size_alloc]); omega)]; rw [blk?_old (h := by (try simp only [World.size_alloc]); omega)]
attribute [go_sem] blk?_old3
theorem blk?_old4 (w : World) (o1 o2 o3 o4 : Obj) (n : Nat) (h : n < w.heap.size) : blk? ((((w.alloc o1).alloc o2).alloc o3).alloc o4) n = blk? w n := by
  rw [blk?_old (h := by (try simp only [World.size_alloc]); omega)]; rw [blk?_old (h := by (try simp only [World.size_alloc]); omega)]; rw [blk?_old (h := by (try simp only [World.size_alloc]); omega)]; rw [blk?_old (h := by (try simp only [World.size_alloc]); omega)]
attribute [go_sem] blk?_old4
theorem blk?_old5 (w : World) (o1 o2 o3 o4 o5 : Obj) (n : Nat) (h : n < w.heap.size) : blk? (((((w.alloc o1).alloc o2).alloc o3).alloc o4).alloc o5) n = blk? w n := by
  rw [blk?_old (h := by (try simp only [World.size_alloc]); omega)]; rw [blk?_old (h := by (try simp only [World.size_alloc]); omega)]; rw [blk?_old (h := by (try simp only [World.size_alloc]); omega)]; rw [blk?_old (h := by (try simp only [World.size_alloc]); omega)]; rw [blk?_old (h := by (try simp only [World.size_alloc]); omega)]
attribute [go_sem] blk?_old5
theorem blk?_old6 (w : World) (o1 o2 o3 o4 o5 o6 : Obj) (n : Nat) (h : n < w.heap.size) : blk? ((((((w.alloc o1).alloc o2).alloc o3).alloc o4).alloc o5).alloc o6) n = blk? w n := by
  rw [blk?_old (h := by (try simp only [World.size_alloc]); omega)]; rw [blk?_old (h := by (try simp only [World.size_alloc]); omega)]; rw [blk?_old (h := by (try simp only [World.size_alloc]); omega)]; rw [blk?_old (h := by (try simp only [World.size_alloc]); omega)]; rw [blk?_old (h := by (try simp only [World.size_alloc]); omega)]; rw [blk?_old (h := by (try simp only [World.size_alloc]); omega)]
attribute [go_sem] blk?_old6
theorem blk?_old7 (w : World) (o1 o2 o3 o4 o5 o6 o7 : Obj) (n : Nat) (h : n < w.heap.size) : blk? (((((((w.alloc o1).alloc o2).alloc o3).alloc o4).alloc o5).alloc o6).alloc o7) n = blk? w n := by
  rw [blk?_old (h := by (try simp only [World.size_alloc]); omega)]; rw [blk?_old (h := by (try simp only [World.size_alloc]); omega)]; rw [blk?_old (h := by (try simp only [World.size_alloc]); omega)]; rw [blk?_old (h := by (try simp only [World.size_alloc]); omega)]; rw [blk?_old (h := by (try simp only [World.size_alloc]); omega)]; rw [blk?_old (h := by (try simp only [World.size_alloc]); omega)]; rw [blk?_old (h := by (try simp only [World.size_alloc]); omega)]
attribute [go_sem] blk?_old7

/-- What a whole load gives, once the block's cells are known. -/
def ldR (P : Program) (t : TypeId) (k : Nat) (w : World) (g : Nat) : Option (Array Value) → Result Value
  | some c => if c.size = k then .ok (.agg c) w else (loadVar t ⟨g, 0, none⟩).run P w
  | none => (loadVar t ⟨g, 0, none⟩).run P w
theorem ldR_some (P : Program) (t : TypeId) (k : Nat) (w : World) (g : Nat) (c : Array Value) (h : c.size = k) : ldR P t k w g (some c) = .ok (.agg c) w := by simp [ldR, h]
/-- What a whole store does, once the block's cells are known. -/
def stR (P : Program) (t : TypeId) (k : Nat) (w : World) (g : Nat) (c' : Array Value) : Option (Array Value) → Result Unit
  | some c => if c.size = k ∧ c'.size = k ∧ c'.all (·.oneCell') = true then .ok () (w.setRow g c') else (storeVar t ⟨g, 0, none⟩ (.agg c')).run P w
  | none => (storeVar t ⟨g, 0, none⟩ (.agg c')).run P w
/-- Each value is one cell. -/
def okc (c : Array Value) : Prop := c.all (·.oneCell') = true
theorem okc_adr (n : Int) (b : Nat → Int) (z : ByteArray) : okc (adr n b z) := adr_one n b z
theorem okc_arr16 (b : Nat → Int) : okc (arr16 b) := arr16_one b
theorem okc_arr4 (b : Nat → Int) : okc (arr4 b) := arr4_one b
attribute [go_sem] okc_adr okc_arr16 okc_arr4
theorem stR_some (P : Program) (t : TypeId) (k : Nat) (w : World) (g : Nat) (c c' : Array Value) (h : c.size = k) (h' : c'.size = k) (h1 : okc c') : stR P t k w g c' (some c) = .ok () (w.setRow g c') := by simp only [stR]; rw [if_pos ⟨h, h', h1⟩]
attribute [go_sem] ldR_some stR_some
/-- A whole load and a whole store, kept shut till the address is known. -/
def ldV (t : TypeId) (a : Addr) : Sem Value := loadVar t a
def stV (t : TypeId) (a : Addr) (v : Value) : Sem Unit := storeVar t a v
def ldA (P : Program) (t : TypeId) (w : World) (a : Addr) : Result Value := (loadVar t a).run P w
def stA (P : Program) (t : TypeId) (w : World) (a : Addr) (v : Value) : Result Unit := (storeVar t a v).run P w
theorem run_ldV (P : Program) (t : TypeId) (w : World) (a : Addr) : (ldV t a).run P w = ldA P t w a := id rfl
theorem run_stV (P : Program) (t : TypeId) (w : World) (a : Addr) (v : Value) : (stV t a v).run P w = stA P t w a v := id rfl
attribute [go_sem] run_ldV run_stV
theorem infoSize25 : (Tryd.prog.info? 25).map (·.size) = some 18 := by kernel_rfl
theorem loadVarW25 (a : Addr) : loadVar 25 a = ldV 25 a := id rfl
theorem storeVarW25 (a : Addr) (v : Value) : storeVar 25 a v = stV 25 a v := id rfl
theorem ldA25 (w : World) (g : Nat) : ldA Tryd.prog 25 w ⟨g, 0, none⟩ = ldR Tryd.prog 25 18 w g (blk? w g) := by
  unfold ldA
  cases hb : blk? w g with
  | none => rfl
  | some c =>
    simp only [ldR]
    split
    · rename_i hs
      obtain ⟨t, ht⟩ := of_blk? hb
      exact run_loadVar_row w g t 25 c (0, 0) _ ht Tryd.underlying25 rfl (by rw [hs]; exact infoSize25)
    · rfl
theorem stA25 (w : World) (g : Nat) (c' : Array Value) : stA Tryd.prog 25 w ⟨g, 0, none⟩ (.agg c') = stR Tryd.prog 25 18 w g c' (blk? w g) := by
  unfold stA
  cases hb : blk? w g with
  | none => rfl
  | some c =>
    simp only [stR]
    split
    · rename_i hs
      obtain ⟨t, ht⟩ := of_blk? hb
      exact run_storeVar_row w g t 25 c c' ht (by rw [hs.2.1]; exact infoSize25) (by rw [hs.1, hs.2.1]) hs.2.2
    · rfl
attribute [go_sem ↓] loadVarW25 storeVarW25
attribute [go_sem 3000] loadVarW25 storeVarW25
attribute [go_sem] ldA25 stA25
theorem infoSize29 : (Tryd.prog.info? 29).map (·.size) = some 18 := by kernel_rfl
theorem loadVarW29 (a : Addr) : loadVar 29 a = ldV 29 a := id rfl
theorem storeVarW29 (a : Addr) (v : Value) : storeVar 29 a v = stV 29 a v := id rfl
theorem ldA29 (w : World) (g : Nat) : ldA Tryd.prog 29 w ⟨g, 0, none⟩ = ldR Tryd.prog 29 18 w g (blk? w g) := by
  unfold ldA
  cases hb : blk? w g with
  | none => rfl
  | some c =>
    simp only [ldR]
    split
    · rename_i hs
      obtain ⟨t, ht⟩ := of_blk? hb
      exact run_loadVar_row w g t 29 c (0, 0) _ ht Tryd.underlying29 rfl (by rw [hs]; exact infoSize29)
    · rfl
theorem stA29 (w : World) (g : Nat) (c' : Array Value) : stA Tryd.prog 29 w ⟨g, 0, none⟩ (.agg c') = stR Tryd.prog 29 18 w g c' (blk? w g) := by
  unfold stA
  cases hb : blk? w g with
  | none => rfl
  | some c =>
    simp only [stR]
    split
    · rename_i hs
      obtain ⟨t, ht⟩ := of_blk? hb
      exact run_storeVar_row w g t 29 c c' ht (by rw [hs.2.1]; exact infoSize29) (by rw [hs.1, hs.2.1]) hs.2.2
    · rfl
attribute [go_sem ↓] loadVarW29 storeVarW29
attribute [go_sem 3000] loadVarW29 storeVarW29
attribute [go_sem] ldA29 stA29
theorem infoSize23 : (Tryd.prog.info? 23).map (·.size) = some 16 := by kernel_rfl
theorem loadVarW23 (a : Addr) : loadVar 23 a = ldV 23 a := id rfl
theorem storeVarW23 (a : Addr) (v : Value) : storeVar 23 a v = stV 23 a v := id rfl
theorem ldA23 (w : World) (g : Nat) : ldA Tryd.prog 23 w ⟨g, 0, none⟩ = ldR Tryd.prog 23 16 w g (blk? w g) := by
  unfold ldA
  cases hb : blk? w g with
  | none => rfl
  | some c =>
    simp only [ldR]
    split
    · rename_i hs
      obtain ⟨t, ht⟩ := of_blk? hb
      exact run_loadVar_row w g t 23 c (0, 0) _ ht Tryd.underlying23 rfl (by rw [hs]; exact infoSize23)
    · rfl
theorem stA23 (w : World) (g : Nat) (c' : Array Value) : stA Tryd.prog 23 w ⟨g, 0, none⟩ (.agg c') = stR Tryd.prog 23 16 w g c' (blk? w g) := by
  unfold stA
  cases hb : blk? w g with
  | none => rfl
  | some c =>
    simp only [stR]
    split
    · rename_i hs
      obtain ⟨t, ht⟩ := of_blk? hb
      exact run_storeVar_row w g t 23 c c' ht (by rw [hs.2.1]; exact infoSize23) (by rw [hs.1, hs.2.1]) hs.2.2
    · rfl
attribute [go_sem ↓] loadVarW23 storeVarW23
attribute [go_sem 3000] loadVarW23 storeVarW23
attribute [go_sem] ldA23 stA23
theorem infoSize22 : (Tryd.prog.info? 22).map (·.size) = some 4 := by kernel_rfl
theorem loadVarW22 (a : Addr) : loadVar 22 a = ldV 22 a := id rfl
theorem storeVarW22 (a : Addr) (v : Value) : storeVar 22 a v = stV 22 a v := id rfl
theorem ldA22 (w : World) (g : Nat) : ldA Tryd.prog 22 w ⟨g, 0, none⟩ = ldR Tryd.prog 22 4 w g (blk? w g) := by
  unfold ldA
  cases hb : blk? w g with
  | none => rfl
  | some c =>
    simp only [ldR]
    split
    · rename_i hs
      obtain ⟨t, ht⟩ := of_blk? hb
      exact run_loadVar_row w g t 22 c (0, 0) _ ht Tryd.underlying22 rfl (by rw [hs]; exact infoSize22)
    · rfl
theorem stA22 (w : World) (g : Nat) (c' : Array Value) : stA Tryd.prog 22 w ⟨g, 0, none⟩ (.agg c') = stR Tryd.prog 22 4 w g c' (blk? w g) := by
  unfold stA
  cases hb : blk? w g with
  | none => rfl
  | some c =>
    simp only [stR]
    split
    · rename_i hs
      obtain ⟨t, ht⟩ := of_blk? hb
      exact run_storeVar_row w g t 22 c c' ht (by rw [hs.2.1]; exact infoSize22) (by rw [hs.1, hs.2.1]) hs.2.2
    · rfl
attribute [go_sem ↓] loadVarW22 storeVarW22
attribute [go_sem 3000] loadVarW22 storeVarW22
attribute [go_sem] ldA22 stA22
/-- Part of a row, as a whole load from its middle gives it. -/
def ldM (P : Program) (t : TypeId) (o k : Nat) (w : World) (g : Nat) : Option (Array Value) → Result Value
  | some c => if o + k ≤ c.size then .ok (.agg (c.extract o (o + k))) w else ldA P t w ⟨g, o, none⟩
  | none => ldA P t w ⟨g, o, none⟩
theorem ldM_some (P : Program) (t : TypeId) (o k : Nat) (w : World) (g : Nat) (c : Array Value) (h : o + k ≤ c.size) : ldM P t o k w g (some c) = .ok (.agg (c.extract o (o + k))) w := by simp [ldM, h]
theorem adr_ext16 (n : Int) (b : Nat → Int) (z : ByteArray) : (adr n b z).extract 1 17 = arr16 b := by simp [adr, arr16]
theorem adr_ext4 (n : Int) (b : Nat → Int) (z : ByteArray) : (adr n b z).extract 1 5 = arr4 b := by simp [adr, arr4]
attribute [go_sem] ldM_some adr_ext16 adr_ext4
theorem ldM23 (w : World) (g : Nat) : ldA Tryd.prog 23 w ⟨g, 1, none⟩ = ldM Tryd.prog 23 1 16 w g (blk? w g) := by
  cases hb : blk? w g with
  | none => rfl
  | some c =>
    simp only [ldM]
    split
    · rename_i hs
      obtain ⟨t, ht⟩ := of_blk? hb
      have hr := World.rangeAt_of_block ht 1 16
      have h := run_loadVar_mid (P := Tryd.prog) w g 1 23 (c.extract 1 (1 + 16)).toList _ hr Tryd.underlying23 rfl (by rw [infoSize23]; simp; omega)
      rw [Array.toArray_toList] at h
      exact h
    · rfl
attribute [go_sem] ldM23
theorem ldM22 (w : World) (g : Nat) : ldA Tryd.prog 22 w ⟨g, 1, none⟩ = ldM Tryd.prog 22 1 4 w g (blk? w g) := by
  cases hb : blk? w g with
  | none => rfl
  | some c =>
    simp only [ldM]
    split
    · rename_i hs
      obtain ⟨t, ht⟩ := of_blk? hb
      have hr := World.rangeAt_of_block ht 1 4
      have h := run_loadVar_mid (P := Tryd.prog) w g 1 22 (c.extract 1 (1 + 4)).toList _ hr Tryd.underlying22 rfl (by rw [infoSize22]; simp; omega)
      rw [Array.toArray_toList] at h
      exact h
    · rfl
attribute [go_sem] ldM22

theorem setRow_new (w : World) (c c' : Array Value) (t : TypeId) (n : Nat) (h : n = w.heap.size) : (w.alloc (.cells c t)).setRow n c' = w.alloc (.cells c' t) := by
  subst h
  simp only [World.setRow, World.alloc]
  congr 1
  apply Array.ext_getElem?
  intro i
  rw [Array.getElem?_modify]
  by_cases h : w.heap.size = i
  · subst h; simp
  · have h' : ¬ i = w.heap.size := fun e => h e.symm
    simp [h, h', Array.getElem?_push]
theorem setRow_old (w : World) (o : Obj) (c' : Array Value) (n : Nat) (h : n < w.heap.size) : (w.alloc o).setRow n c' = (w.setRow n c').alloc o := by
  simp only [World.setRow, World.alloc]
  congr 1
  apply Array.ext_getElem?
  intro i
  rw [Array.getElem?_modify]
  by_cases hi : n = i
  · subst hi
    rw [if_pos rfl]
    simp [Array.getElem?_push, Array.getElem?_modify, Nat.ne_of_lt h]
  · rw [if_neg hi]
    simp [Array.getElem?_push, Array.getElem?_modify, hi]
theorem setRow_drew (w : World) (c' : Array Value) (n : Nat) : w.drew.setRow n c' = (w.setRow n c').drew := id rfl
theorem size_setRow' (w : World) (g : Nat) (c : Array Value) : (w.setRow g c).heap.size = w.heap.size := by simp [World.setRow]
attribute [go_sem] setRow_new setRow_old setRow_drew size_setRow'
theorem zero25 (w : World) : (zeroValue 25).run Tryd.prog w = .ok (.agg (adr 0 zb ⟨#[]⟩)) w := Tryd.zeroValue25 w
attribute [go_sem ↓] zero25
attribute [go_sem 3000] zero25
theorem build25_n (w : World) (n : Int) : (Instr.build 25 #[(0, .int .i64 n)]).run Tryd.prog w = .ok (.agg (adr n zb ⟨#[]⟩)) w := by kernel_rfl
theorem build25_nz (w : World) (n : Int) (z : ByteArray) : (Instr.build 25 #[(0, .int .i64 n), (2, .string z)]).run Tryd.prog w = .ok (.agg (adr n zb z)) w := by kernel_rfl
theorem build25_none (w : World) : (Instr.build 25 #[]).run Tryd.prog w = .ok (.agg (adr 0 zb ⟨#[]⟩)) w := by kernel_rfl
theorem build25_nb (w : World) (n : Int) (b : Nat → Int) : (Instr.build 25 #[(0, .int .i64 n), (1, .agg (arr16 b))]).run Tryd.prog w = .ok (.agg (adr n b ⟨#[]⟩)) w := by kernel_rfl
attribute [go_sem ↓] build25_n build25_nz build25_none build25_nb
attribute [go_sem 3000] build25_n build25_nz build25_none build25_nb
theorem zero29 (w : World) : (zeroValue 29).run Tryd.prog w = .ok (.agg (adr 0 zb ⟨#[]⟩)) w := Tryd.zeroValue29 w
attribute [go_sem ↓] zero29
attribute [go_sem 3000] zero29
theorem build29_n (w : World) (n : Int) : (Instr.build 29 #[(0, .int .i64 n)]).run Tryd.prog w = .ok (.agg (adr n zb ⟨#[]⟩)) w := by kernel_rfl
theorem build29_nz (w : World) (n : Int) (z : ByteArray) : (Instr.build 29 #[(0, .int .i64 n), (2, .string z)]).run Tryd.prog w = .ok (.agg (adr n zb z)) w := by kernel_rfl
theorem build29_none (w : World) : (Instr.build 29 #[]).run Tryd.prog w = .ok (.agg (adr 0 zb ⟨#[]⟩)) w := by kernel_rfl
theorem build29_nb (w : World) (n : Int) (b : Nat → Int) : (Instr.build 29 #[(0, .int .i64 n), (1, .agg (arr16 b))]).run Tryd.prog w = .ok (.agg (adr n b ⟨#[]⟩)) w := by kernel_rfl
attribute [go_sem ↓] build29_n build29_nz build29_none build29_nb
attribute [go_sem 3000] build29_n build29_nz build29_none build29_nb
theorem zero23 (w : World) : (zeroValue 23).run Tryd.prog w = .ok (.agg (arr16 zb)) w := Tryd.zeroValue23 w
theorem zero22 (w : World) : (zeroValue 22).run Tryd.prog w = .ok (.agg (arr4 zb)) w := Tryd.zeroValue22 w
attribute [go_sem ↓] zero23 zero22
attribute [go_sem 3000] zero23 zero22

theorem part5_16 (b : Nat → Int) (k : Nat) (h : k < 16) (w : World) : (part 5 (arr16 b) (k * 1)).run Tryd.prog w = .ok (.int .u8 (b k)) w := by
  rw [Nat.mul_one]; simp [part, Tryd.isAgg5, arr16_byte b k h]
theorem part5_4 (b : Nat → Int) (k : Nat) (h : k < 4) (w : World) : (part 5 (arr4 b) (k * 1)).run Tryd.prog w = .ok (.int .u8 (b k)) w := by
  rw [Nat.mul_one]; simp [part, Tryd.isAgg5, arr4_byte b k h]
theorem eqInt5 (d : Nat) (x y : Int) (w : World) : (Op.equalIn (d + 1) 5 (.int .u8 x) (.int .u8 y)).run Tryd.prog w = .ok (x == y) w := by
  simp [Op.equalIn, run_underlying Tryd.underlying5]
theorem eqItems16 (d : Nat) (b b' : Nat → Int) (w : World) : ∀ is : List Nat, (∀ i ∈ is, i < 16) → (Op.eqItems (d + 1) 5 1 (arr16 b) (arr16 b') is).run Tryd.prog w = .ok (is.all fun i => b i == b' i) w
  | [], _ => by simp [Op.eqItems]
  | i :: is, h => by
    have h1 : i < 16 := h i (by simp)
    simp only [Op.eqItems, Sem.run_bind, part5_16 b i h1 w, part5_16 b' i h1 w, Result.andThen_ok, eqInt5, List.all_cons]
    cases hc : (b i == b' i)
    · simp
    · simpa using eqItems16 d b b' w is (fun j hj => h j (by simp [hj]))
theorem eqItems4 (d : Nat) (b b' : Nat → Int) (w : World) : ∀ is : List Nat, (∀ i ∈ is, i < 4) → (Op.eqItems (d + 1) 5 1 (arr4 b) (arr4 b') is).run Tryd.prog w = .ok (is.all fun i => b i == b' i) w
  | [], _ => by simp [Op.eqItems]
  | i :: is, h => by
    have h1 : i < 4 := h i (by simp)
    simp only [Op.eqItems, Sem.run_bind, part5_4 b i h1 w, part5_4 b' i h1 w, Result.andThen_ok, eqInt5, List.all_cons]
    cases hc : (b i == b' i)
    · simp
    · simpa using eqItems4 d b b' w is (fun j hj => h j (by simp [hj]))
/-- The first k bytes are the same. -/
def eqB (k : Nat) (b b' : Nat → Int) : Bool := (List.range k).all fun i => b i == b' i
theorem eqB_iff (k : Nat) (b b' : Nat → Int) : eqB k b b' = true ↔ ∀ i, i < k → b i = b' i := by simp [eqB]
theorem eqB_false (k : Nat) (b b' : Nat → Int) : eqB k b b' = false ↔ ∃ i, i < k ∧ b i ≠ b' i := by simp [eqB]
theorem info5' : (Tryd.prog.info? 5).isSome = true := by kernel_rfl
theorem cells5 : Tryd.prog.cellsOf 5 = 1 := by kernel_rfl
theorem eqArr23 (d : Nat) (b b' : Nat → Int) (w : World) : (Op.equalIn (d + 2) 23 (.agg (arr16 b)) (.agg (arr16 b'))).run Tryd.prog w = .ok (eqB 16 b b') w := by
  obtain ⟨i, hi⟩ := Option.isSome_iff_exists.1 info5'
  rw [run_equalIn_array w (d + 1) _ _ Tryd.underlying23 hi, cells5]
  exact eqItems16 d b b' w _ (by simp)
theorem eqArr22 (d : Nat) (b b' : Nat → Int) (w : World) : (Op.equalIn (d + 2) 22 (.agg (arr4 b)) (.agg (arr4 b'))).run Tryd.prog w = .ok (eqB 4 b b') w := by
  obtain ⟨i, hi⟩ := Option.isSome_iff_exists.1 info5'
  rw [run_equalIn_array w (d + 1) _ _ Tryd.underlying22 hi, cells5]
  exact eqItems4 d b b' w _ (by simp)
theorem eql23 (b b' : Nat → Int) (w : World) : (binOp .eql 23 (.agg (arr16 b)) (.agg (arr16 b'))).run Tryd.prog w = .ok (.bool (eqB 16 b b')) w := by
  simp only [binOp]; simp [Op.equal, Op.maxDepth, eqArr23 9998]
theorem eql22 (b b' : Nat → Int) (w : World) : (binOp .eql 22 (.agg (arr4 b)) (.agg (arr4 b'))).run Tryd.prog w = .ok (.bool (eqB 4 b b')) w := by
  simp only [binOp]; simp [Op.equal, Op.maxDepth, eqArr22 9998]

/-- Two addresses are compared cell by cell. -/
def adrEq (n : Int) (b : Nat → Int) (z : ByteArray) (n' : Int) (b' : Nat → Int) (z' : ByteArray) : Bool := (n == n') && eqB 16 b b' && (z.toList == z'.toList)
theorem toList_inj {z z' : ByteArray} (h : z.toList = z'.toList) : z = z' := by
  rw [ByteArray.toList_eq, ByteArray.toList_eq] at h
  obtain ⟨⟨x⟩⟩ := z
  obtain ⟨⟨y⟩⟩ := z'
  simp at h
  rw [h]
theorem adrEq_iff (n : Int) (b : Nat → Int) (z : ByteArray) (n' : Int) (b' : Nat → Int) (z' : ByteArray) : adrEq n b z n' b' z' = true ↔ n = n' ∧ (∀ i, i < 16 → b i = b' i) ∧ z = z' := by
  unfold adrEq
  rw [Bool.and_eq_true, Bool.and_eq_true, eqB_iff, beq_iff_eq, beq_iff_eq, and_assoc]
  exact ⟨fun ⟨h1, h2, h3⟩ => ⟨h1, h2, toList_inj h3⟩, fun ⟨h1, h2, h3⟩ => ⟨h1, h2, by rw [h3]⟩⟩
theorem eqlT25 (n : Int) (b : Nat → Int) (z : ByteArray) (n' : Int) (b' : Nat → Int) (z' : ByteArray) (w : World) :
    (binOp .eql 25 (.agg (adr n b z)) (.agg (adr n' b' z'))).run Tryd.prog w = .ok (.bool (adrEq n b z n' b' z')) w := by
  have e := eqArr23 9997 b b' w
  unfold adrEq
  unfold adr
  unfold arr16 at e
  simp only [binOp, Op.equal, Op.maxDepth]
  simp [go_sem, e]
  by_cases h1 : n = n' <;> cases h2 : eqB 16 b b' <;> by_cases h3 : z.toList = z'.toList <;> simp [h1, h2, h3]
theorem neqT25 (n : Int) (b : Nat → Int) (z : ByteArray) (n' : Int) (b' : Nat → Int) (z' : ByteArray) (w : World) :
    (binOp .neq 25 (.agg (adr n b z)) (.agg (adr n' b' z'))).run Tryd.prog w = .ok (.bool (!adrEq n b z n' b' z')) w := by
  have e := eqArr23 9997 b b' w
  unfold adrEq
  unfold adr
  unfold arr16 at e
  simp only [binOp, Op.equal, Op.maxDepth]
  simp [go_sem, e]
  by_cases h1 : n = n' <;> cases h2 : eqB 16 b b' <;> by_cases h3 : z.toList = z'.toList <;> simp [h1, h2, h3]
theorem eqlT29 (n : Int) (b : Nat → Int) (z : ByteArray) (n' : Int) (b' : Nat → Int) (z' : ByteArray) (w : World) :
    (binOp .eql 29 (.agg (adr n b z)) (.agg (adr n' b' z'))).run Tryd.prog w = .ok (.bool (adrEq n b z n' b' z')) w := by
  have e := eqArr23 9997 b b' w
  unfold adrEq
  unfold adr
  unfold arr16 at e
  simp only [binOp, Op.equal, Op.maxDepth]
  simp [go_sem, e]
  by_cases h1 : n = n' <;> cases h2 : eqB 16 b b' <;> by_cases h3 : z.toList = z'.toList <;> simp [h1, h2, h3]
theorem neqT29 (n : Int) (b : Nat → Int) (z : ByteArray) (n' : Int) (b' : Nat → Int) (z' : ByteArray) (w : World) :
    (binOp .neq 29 (.agg (adr n b z)) (.agg (adr n' b' z'))).run Tryd.prog w = .ok (.bool (!adrEq n b z n' b' z')) w := by
  have e := eqArr23 9997 b b' w
  unfold adrEq
  unfold adr
  unfold arr16 at e
  simp only [binOp, Op.equal, Op.maxDepth]
  simp [go_sem, e]
  by_cases h1 : n = n' <;> cases h2 : eqB 16 b b' <;> by_cases h3 : z.toList = z'.toList <;> simp [h1, h2, h3]

theorem setRow_setRow (w : World) (g : Nat) (c c' : Array Value) : (w.setRow g c).setRow g c' = w.setRow g c' := by
  simp only [World.setRow]
  congr 1
  apply Array.ext_getElem?
  intro i
  simp only [Array.getElem?_modify]
  by_cases h : g = i
  · subst h
    simp only [if_true, Option.map_map]
    congr 1
    funext o
    cases o <;> rfl
  · simp [h]
theorem setCell_setRow {w : World} {g : Nat} {c : Array Value} (h : blk? w g = some c) (i : Nat) (v : Value) : w.setCell ⟨g, i, none⟩ v = w.setRow g (c.setIfInBounds i v) := by
  obtain ⟨t, ht⟩ := of_blk? h
  simp only [World.setRow, World.setCell]
  congr 1
  apply Array.ext_getElem?
  intro j
  simp only [Array.getElem?_modify]
  by_cases hj : g = j
  · subst hj
    simp [ht]
  · simp [hj]
theorem arr4_set (b : Nat → Int) (k : Nat) (v : Int) (h : k < 4) : (arr4 b).setIfInBounds k (.int .u8 v) = arr4 (upd b k v) := by
  match k, h with
  | 0, _ => rfl
  | 1, _ => rfl
  | 2, _ => rfl
  | 3, _ => rfl
  | k + 4, h => omega
theorem arr16_set (b : Nat → Int) (k : Nat) (v : Int) (h : k < 16) : (arr16 b).setIfInBounds k (.int .u8 v) = arr16 (upd b k v) := by
  match k, h with
  | 0, _ => rfl
  | 1, _ => rfl
  | 2, _ => rfl
  | 3, _ => rfl
  | 4, _ => rfl
  | 5, _ => rfl
  | 6, _ => rfl
  | 7, _ => rfl
  | 8, _ => rfl
  | 9, _ => rfl
  | 10, _ => rfl
  | 11, _ => rfl
  | 12, _ => rfl
  | 13, _ => rfl
  | 14, _ => rfl
  | 15, _ => rfl
  | k + 16, h => omega
attribute [go_sem] arr4_set arr16_set
/-- Every byte is one. -/
def Bt (b : Nat → Int) : Prop := ∀ i, 0 ≤ b i ∧ b i < 256
theorem Bt_zb : Bt zb := fun _ => ⟨by unfold zb; omega, by unfold zb; omega⟩
/-- Eight bytes from k on as a number; four. -/
def be8f (b : Nat → Int) (k : Nat) : Int := be8 (b k) (b (k + 1)) (b (k + 2)) (b (k + 3)) (b (k + 4)) (b (k + 5)) (b (k + 6)) (b (k + 7))
def be4f (b : Nat → Int) (k : Nat) : Int := be4 (b k) (b (k + 1)) (b (k + 2)) (b (k + 3))
theorem be8f_lt {b : Nat → Int} (h : Bt b) (k : Nat) : 0 ≤ be8f b k ∧ be8f b k < 18446744073709551616 := be8_lt (h _) (h _) (h _) (h _) (h _) (h _) (h _) (h _)
theorem be4f_lt {b : Nat → Int} (h : Bt b) (k : Nat) : 0 ≤ be4f b k ∧ be4f b k < 4294967296 := be4_lt (h _) (h _) (h _) (h _)
theorem by8_be8f {b : Nat → Int} (h : Bt b) (k i : Nat) (hi : i < 8) : by8 (be8f b k) i = b (k + i) := by
  match i, hi with
  | 0, _ => exact by8_0 (h _) (h _) (h _) (h _) (h _) (h _) (h _) (h _)
  | 1, _ => exact by8_1 (h _) (h _) (h _) (h _) (h _) (h _) (h _) (h _)
  | 2, _ => exact by8_2 (h _) (h _) (h _) (h _) (h _) (h _) (h _) (h _)
  | 3, _ => exact by8_3 (h _) (h _) (h _) (h _) (h _) (h _) (h _) (h _)
  | 4, _ => exact by8_4 (h _) (h _) (h _) (h _) (h _) (h _) (h _) (h _)
  | 5, _ => exact by8_5 (h _) (h _) (h _) (h _) (h _) (h _) (h _) (h _)
  | 6, _ => exact by8_6 (h _) (h _) (h _) (h _) (h _) (h _) (h _) (h _)
  | 7, _ => exact by8_7 (h _) (h _) (h _) (h _) (h _) (h _) (h _) (h _)
  | i + 8, hi => omega
/-- The bytes of the number of an IPv4 address (its last four); those of the two numbers of an IPv6 address. -/
def b4of (lo : Int) : Nat → Int := fun i => if i < 4 then by8 lo (4 + i) else 0
def b16of (hi lo : Int) : Nat → Int := fun i => if i < 8 then by8 hi i else if i < 16 then by8 lo (i - 8) else 0
/-- Eight bytes of x from o on. -/
def put8 (b : Nat → Int) (o : Nat) (x : Int) : Nat → Int := fun i => if o ≤ i ∧ i < o + 8 then by8 x (i - o) else b i
/-- What a load of k cells gives, once the block's cells are known. -/
def lcR (P : Program) (k : Nat) (w : World) (g : Nat) : Option (Array Value) → Result (Array Value)
  | some c => if c.size = k then .ok c w else (loadCellsFrom ⟨g, 0, none⟩ 0 k #[]).run P w
  | none => (loadCellsFrom ⟨g, 0, none⟩ 0 k #[]).run P w
theorem lcR_some (P : Program) (k : Nat) (w : World) (g : Nat) (c : Array Value) (h : c.size = k) : lcR P k w g (some c) = .ok c w := by simp [lcR, h]
attribute [go_sem] lcR_some
theorem storeCells_adr (n : Int) (b : Nat → Int) (z : ByteArray) (w : World) (g : Nat) : (storeCells ⟨g, 0, none⟩ (adr n b z).toList 0).run Tryd.prog w = stR Tryd.prog 29 18 w g (adr n b z) (blk? w g) := by
  have h := stA29 w g (adr n b z)
  unfold stA at h
  unfold storeVar at h
  simp only [Sem.run_bind, Tryd.sizeOf29, Result.andThen_ok, Value.cells, adr_size, ne_eq, not_true_eq_false, if_false] at h
  simpa using h
theorem loadCells_adr (w : World) (g : Nat) : (loadCellsFrom ⟨g, 0, none⟩ 0 18 #[]).run Tryd.prog w = lcR Tryd.prog 18 w g (blk? w g) := by
  cases hb : blk? w g with
  | none => rfl
  | some c =>
    simp only [lcR]
    split
    · rename_i hs
      have h := run_loadCells_list (P := Tryd.prog) w ⟨g, 0, none⟩ c.toList (fun j v hv => by
        have hadd : (⟨g, 0, none⟩ : Addr).add j = ⟨g, j, none⟩ := by unfold Addr.add; split <;> simp_all
        rw [hadd, blk?_cell hb]
        simpa using hv)
      simpa [loadCells, hs] using h
    · rfl
attribute [go_sem 3000] storeCells_adr loadCells_adr
theorem storeCells_arr16 (b : Nat → Int) (w : World) (g : Nat) : (storeCells ⟨g, 0, none⟩ (arr16 b).toList 0).run Tryd.prog w = stR Tryd.prog 23 16 w g (arr16 b) (blk? w g) := by
  have h := stA23 w g (arr16 b)
  unfold stA at h
  unfold storeVar at h
  simp only [Sem.run_bind, Tryd.sizeOf23, Result.andThen_ok, Value.cells, arr16_size, ne_eq, not_true_eq_false, if_false] at h
  simpa using h
theorem loadCells_arr16 (w : World) (g : Nat) : (loadCellsFrom ⟨g, 0, none⟩ 0 16 #[]).run Tryd.prog w = lcR Tryd.prog 16 w g (blk? w g) := by
  cases hb : blk? w g with
  | none => rfl
  | some c =>
    simp only [lcR]
    split
    · rename_i hs
      have h := run_loadCells_list (P := Tryd.prog) w ⟨g, 0, none⟩ c.toList (fun j v hv => by
        have hadd : (⟨g, 0, none⟩ : Addr).add j = ⟨g, j, none⟩ := by unfold Addr.add; split <;> simp_all
        rw [hadd, blk?_cell hb]
        simpa using hv)
      simpa [loadCells, hs] using h
    · rfl
attribute [go_sem 3000] storeCells_arr16 loadCells_arr16
theorem storeCells_arr4 (b : Nat → Int) (w : World) (g : Nat) : (storeCells ⟨g, 0, none⟩ (arr4 b).toList 0).run Tryd.prog w = stR Tryd.prog 22 4 w g (arr4 b) (blk? w g) := by
  have h := stA22 w g (arr4 b)
  unfold stA at h
  unfold storeVar at h
  simp only [Sem.run_bind, Tryd.sizeOf22, Result.andThen_ok, Value.cells, arr4_size, ne_eq, not_true_eq_false, if_false] at h
  simpa using h
theorem loadCells_arr4 (w : World) (g : Nat) : (loadCellsFrom ⟨g, 0, none⟩ 0 4 #[]).run Tryd.prog w = lcR Tryd.prog 4 w g (blk? w g) := by
  cases hb : blk? w g with
  | none => rfl
  | some c =>
    simp only [lcR]
    split
    · rename_i hs
      have h := run_loadCells_list (P := Tryd.prog) w ⟨g, 0, none⟩ c.toList (fun j v hv => by
        have hadd : (⟨g, 0, none⟩ : Addr).add j = ⟨g, j, none⟩ := by unfold Addr.add; split <;> simp_all
        rw [hadd, blk?_cell hb]
        simpa using hv)
      simpa [loadCells, hs] using h
    · rfl
attribute [go_sem 3000] storeCells_arr4 loadCells_arr4
theorem infoSize78 : (Tryd.prog.info? 78).map (·.size) = some 3 := by kernel_rfl
theorem res22 {fn : Func} {p : Tmp} (h : fn.results = #[.cell p 22]) (tmps : Array Value) (w : World) (g : Nat) (c : Array Value) (hp : tmps.getD p undef = .pointer (some ⟨g, 0, none⟩)) (hb : blk? w g = some c) (hs : c.size = 4) :
    (results fn tmps).run Tryd.prog w = .ok (.agg c) w := by
  obtain ⟨t, ht⟩ := of_blk? hb
  exact results_cell_row h tmps w g t c (0, 0) _ hp ht Tryd.underlying22 rfl (by rw [hs]; exact infoSize22)
theorem res22t {fn : Func} {p q : Tmp} (h : fn.results = #[.cell p 22, .tmp q]) (tmps : Array Value) (w : World) (g : Nat) (c : Array Value) (hp : tmps.getD p undef = .pointer (some ⟨g, 0, none⟩)) (hb : blk? w g = some c) (hs : c.size = 4) :
    (results fn tmps).run Tryd.prog w = .ok (.tuple #[.agg c, tmps.getD q undef]) w := by
  obtain ⟨t, ht⟩ := of_blk? hb
  have hp' : tmps[p]?.getD undef = .pointer (some ⟨g, 0, none⟩) := by simpa using hp
  simp [results, h, hp', asAddr, run_loadVar_row w g t 22 c (0, 0) _ ht Tryd.underlying22 rfl (by rw [hs]; exact infoSize22)]
theorem res23 {fn : Func} {p : Tmp} (h : fn.results = #[.cell p 23]) (tmps : Array Value) (w : World) (g : Nat) (c : Array Value) (hp : tmps.getD p undef = .pointer (some ⟨g, 0, none⟩)) (hb : blk? w g = some c) (hs : c.size = 16) :
    (results fn tmps).run Tryd.prog w = .ok (.agg c) w := by
  obtain ⟨t, ht⟩ := of_blk? hb
  exact results_cell_row h tmps w g t c (0, 0) _ hp ht Tryd.underlying23 rfl (by rw [hs]; exact infoSize23)
theorem res23t {fn : Func} {p q : Tmp} (h : fn.results = #[.cell p 23, .tmp q]) (tmps : Array Value) (w : World) (g : Nat) (c : Array Value) (hp : tmps.getD p undef = .pointer (some ⟨g, 0, none⟩)) (hb : blk? w g = some c) (hs : c.size = 16) :
    (results fn tmps).run Tryd.prog w = .ok (.tuple #[.agg c, tmps.getD q undef]) w := by
  obtain ⟨t, ht⟩ := of_blk? hb
  have hp' : tmps[p]?.getD undef = .pointer (some ⟨g, 0, none⟩) := by simpa using hp
  simp [results, h, hp', asAddr, run_loadVar_row w g t 23 c (0, 0) _ ht Tryd.underlying23 rfl (by rw [hs]; exact infoSize23)]
theorem res25 {fn : Func} {p : Tmp} (h : fn.results = #[.cell p 25]) (tmps : Array Value) (w : World) (g : Nat) (c : Array Value) (hp : tmps.getD p undef = .pointer (some ⟨g, 0, none⟩)) (hb : blk? w g = some c) (hs : c.size = 18) :
    (results fn tmps).run Tryd.prog w = .ok (.agg c) w := by
  obtain ⟨t, ht⟩ := of_blk? hb
  exact results_cell_row h tmps w g t c (0, 0) _ hp ht Tryd.underlying25 rfl (by rw [hs]; exact infoSize25)
theorem res25t {fn : Func} {p q : Tmp} (h : fn.results = #[.cell p 25, .tmp q]) (tmps : Array Value) (w : World) (g : Nat) (c : Array Value) (hp : tmps.getD p undef = .pointer (some ⟨g, 0, none⟩)) (hb : blk? w g = some c) (hs : c.size = 18) :
    (results fn tmps).run Tryd.prog w = .ok (.tuple #[.agg c, tmps.getD q undef]) w := by
  obtain ⟨t, ht⟩ := of_blk? hb
  have hp' : tmps[p]?.getD undef = .pointer (some ⟨g, 0, none⟩) := by simpa using hp
  simp [results, h, hp', asAddr, run_loadVar_row w g t 25 c (0, 0) _ ht Tryd.underlying25 rfl (by rw [hs]; exact infoSize25)]
theorem res29 {fn : Func} {p : Tmp} (h : fn.results = #[.cell p 29]) (tmps : Array Value) (w : World) (g : Nat) (c : Array Value) (hp : tmps.getD p undef = .pointer (some ⟨g, 0, none⟩)) (hb : blk? w g = some c) (hs : c.size = 18) :
    (results fn tmps).run Tryd.prog w = .ok (.agg c) w := by
  obtain ⟨t, ht⟩ := of_blk? hb
  exact results_cell_row h tmps w g t c (0, 0) _ hp ht Tryd.underlying29 rfl (by rw [hs]; exact infoSize29)
theorem res29t {fn : Func} {p q : Tmp} (h : fn.results = #[.cell p 29, .tmp q]) (tmps : Array Value) (w : World) (g : Nat) (c : Array Value) (hp : tmps.getD p undef = .pointer (some ⟨g, 0, none⟩)) (hb : blk? w g = some c) (hs : c.size = 18) :
    (results fn tmps).run Tryd.prog w = .ok (.tuple #[.agg c, tmps.getD q undef]) w := by
  obtain ⟨t, ht⟩ := of_blk? hb
  have hp' : tmps[p]?.getD undef = .pointer (some ⟨g, 0, none⟩) := by simpa using hp
  simp [results, h, hp', asAddr, run_loadVar_row w g t 29 c (0, 0) _ ht Tryd.underlying29 rfl (by rw [hs]; exact infoSize29)]
theorem res78 {fn : Func} {p : Tmp} (h : fn.results = #[.cell p 78]) (tmps : Array Value) (w : World) (g : Nat) (c : Array Value) (hp : tmps.getD p undef = .pointer (some ⟨g, 0, none⟩)) (hb : blk? w g = some c) (hs : c.size = 3) :
    (results fn tmps).run Tryd.prog w = .ok (.agg c) w := by
  obtain ⟨t, ht⟩ := of_blk? hb
  exact results_cell_row h tmps w g t c (0, 0) _ hp ht Tryd.underlying78 rfl (by rw [hs]; exact infoSize78)
theorem res78t {fn : Func} {p q : Tmp} (h : fn.results = #[.cell p 78, .tmp q]) (tmps : Array Value) (w : World) (g : Nat) (c : Array Value) (hp : tmps.getD p undef = .pointer (some ⟨g, 0, none⟩)) (hb : blk? w g = some c) (hs : c.size = 3) :
    (results fn tmps).run Tryd.prog w = .ok (.tuple #[.agg c, tmps.getD q undef]) w := by
  obtain ⟨t, ht⟩ := of_blk? hb
  have hp' : tmps[p]?.getD undef = .pointer (some ⟨g, 0, none⟩) := by simpa using hp
  simp [results, h, hp', asAddr, run_loadVar_row w g t 78 c (0, 0) _ ht Tryd.underlying78 rfl (by rw [hs]; exact infoSize78)]
attribute [go_sem ↓] eqlT25 eqlT29 neqT25 neqT29 eql23 eql22
attribute [go_sem 3000] eqlT25 eqlT29 neqT25 neqT29 eql23 eql22
theorem cell_setRow_lt (w : World) (g n i : Nat) (c : Array Value) (h : n < g) : (w.setRow g c).cell? ⟨n, i, none⟩ = w.cell? ⟨n, i, none⟩ := by
  unfold World.cell?; simp only []; rw [setRow_other w g n c (by omega)]
theorem frozen_setRow (w : World) (g : Nat) (a : Addr) (c : Array Value) : (w.setRow g c).frozen? a = w.frozen? a := by
  unfold World.frozen?
  by_cases h : a.block = g
  · rw [h]
    simp only [World.setRow, Array.getElem?_modify, if_true]
    cases w.heap[g]? with
    | none => rfl
    | some o => cases o <;> rfl
  · rw [setRow_other w g a.block c h]
theorem blk_setRow_lt (w : World) (g n : Nat) (c : Array Value) (h : n < g) : blk? (w.setRow g c) n = blk? w n := blk?_setRowOther w g n c (by omega)
theorem blk_setRow_gt (w : World) (g n : Nat) (c : Array Value) (h : g < n) : blk? (w.setRow g c) n = blk? w n := blk?_setRowOther w g n c (by omega)
theorem blk_setRow_same (w : World) (g : Nat) (c : Array Value) : blk? (w.setRow g c) g = (blk? w g).map fun _ => c := by
  cases hb : blk? w g with
  | none =>
    unfold blk? at hb ⊢
    simp only [World.setRow, Array.getElem?_modify, if_true]
    cases hw : w.heap[g]? with
    | none => rfl
    | some o =>
      rw [hw] at hb
      cases o with
      | cells c' t fr =>
        simp only [Option.map_some] at hb ⊢
        split at hb
        · cases hb
        · rename_i h1
          split
          · rename_i h2
            cases h2
            exact absurd rfl (h1 _ _)
          · rfl
      | _ => rfl
  | some c' => rw [blk?_setRow hb]; rfl
attribute [go_sem] cell_setRow_lt frozen_setRow blk_setRow_lt blk_setRow_gt blk_setRow_same
theorem wrap64_0 : IntKind.i64.wrap 0 = 0 := by decide
theorem wrap64_4 : IntKind.i64.wrap 4 = 4 := by decide
theorem wrap64_16 : IntKind.i64.wrap 16 = 16 := by decide
attribute [go_sem] wrap64_0 wrap64_4 wrap64_16
end Go.Proofs.YtmlkcgacneealaaDoor
