/- What the small methods of netip.Addr return for each of the three families (zero, IPv4, IPv6 without a zone). Conditions: the listed variables are as laid. -/
import Derived.Test.YtmlkcgacneealaaDoorBase
set_option linter.unusedVariables false
set_option linter.unusedSimpArgs false
namespace Go.Proofs.YtmlkcgacneealaaDoor
open Go.RowKit
set_option maxHeartbeats 4000000 in
set_option maxRecDepth 100000 in
theorem bitLen_0 (hi lo : Int) {b4 o4 : Nat} (w : World) (hg : G4 b4 o4 w) :
    Calls Tryd.prog 128 #[.agg #[.int .u64 hi, .int .u64 lo, .pointer none]] w fun e w' => e = .returned (.int .i64 0) ∧ Below w.heap.size w w' := by
  obtain ⟨z4, z0, s0, s1, s2, l4, c40, c41⟩ := hg
  go_enter Tryd.func128, Tryd.ntmps128
  go_wp2
  go_returns
  exact ⟨rfl, by go_grown⟩
set_option maxHeartbeats 4000000 in
set_option maxRecDepth 100000 in
theorem is4_0 (hi lo : Int) {b4 o4 : Nat} (w : World) (hg : G4 b4 o4 w) :
    Calls Tryd.prog 134 #[.agg #[.int .u64 hi, .int .u64 lo, .pointer none]] w fun e w' => e = .returned (.bool false) ∧ Below w.heap.size w w' := by
  obtain ⟨z4, z0, s0, s1, s2, l4, c40, c41⟩ := hg
  go_enter Tryd.func134, Tryd.ntmps134
  go_wp2
  go_returns
  exact ⟨rfl, by go_grown⟩
set_option maxHeartbeats 4000000 in
set_option maxRecDepth 100000 in
theorem is6_0 (hi lo : Int) {b4 o4 : Nat} (w : World) (hg : G4 b4 o4 w) :
    Calls Tryd.prog 139 #[.agg #[.int .u64 hi, .int .u64 lo, .pointer none]] w fun e w' => e = .returned (.bool false) ∧ Below w.heap.size w w' := by
  obtain ⟨z4, z0, s0, s1, s2, l4, c40, c41⟩ := hg
  go_enter Tryd.func139, Tryd.ntmps139
  go_wp2
  go_returns
  exact ⟨rfl, by go_grown⟩
set_option maxHeartbeats 4000000 in
set_option maxRecDepth 100000 in
theorem isValid_0 (hi lo : Int) {b4 o4 : Nat} (w : World) (hg : G4 b4 o4 w) :
    Calls Tryd.prog 93 #[.agg #[.int .u64 hi, .int .u64 lo, .pointer none]] w fun e w' => e = .returned (.bool false) ∧ Below w.heap.size w w' := by
  obtain ⟨z4, z0, s0, s1, s2, l4, c40, c41⟩ := hg
  go_enter Tryd.func93, Tryd.ntmps93
  go_wp2
  go_returns
  exact ⟨rfl, by go_grown⟩
set_option maxHeartbeats 4000000 in
set_option maxRecDepth 100000 in
theorem zone_0 (hi lo : Int) {b4 o4 : Nat} (w : World) (hg : G4 b4 o4 w) :
    Calls Tryd.prog 129 #[.agg #[.int .u64 hi, .int .u64 lo, .pointer none]] w fun e w' => e = .returned (.string ⟨#[]⟩) ∧ Below w.heap.size w w' := by
  obtain ⟨z4, z0, s0, s1, s2, l4, c40, c41⟩ := hg
  go_enter Tryd.func129, Tryd.ntmps129
  go_wp2
  go_returns
  exact ⟨rfl, by go_grown⟩
set_option maxHeartbeats 4000000 in
set_option maxRecDepth 100000 in
theorem bitLen_4 (hi lo : Int) {b4 o4 : Nat} (w : World) (hg : G4 b4 o4 w) :
    Calls Tryd.prog 128 #[.agg #[.int .u64 hi, .int .u64 lo, .pointer (some ⟨b4, o4, none⟩)]] w fun e w' => e = .returned (.int .i64 32) ∧ Below w.heap.size w w' := by
  obtain ⟨z4, z0, s0, s1, s2, l4, c40, c41⟩ := hg
  go_enter Tryd.func128, Tryd.ntmps128
  go_wp2
  go_returns
  exact ⟨rfl, by go_grown⟩
set_option maxHeartbeats 4000000 in
set_option maxRecDepth 100000 in
theorem is4_4 (hi lo : Int) {b4 o4 : Nat} (w : World) (hg : G4 b4 o4 w) :
    Calls Tryd.prog 134 #[.agg #[.int .u64 hi, .int .u64 lo, .pointer (some ⟨b4, o4, none⟩)]] w fun e w' => e = .returned (.bool true) ∧ Below w.heap.size w w' := by
  obtain ⟨z4, z0, s0, s1, s2, l4, c40, c41⟩ := hg
  go_enter Tryd.func134, Tryd.ntmps134
  go_wp2
  go_returns
  exact ⟨rfl, by go_grown⟩
set_option maxHeartbeats 4000000 in
set_option maxRecDepth 100000 in
theorem is6_4 (hi lo : Int) {b4 o4 : Nat} (w : World) (hg : G4 b4 o4 w) :
    Calls Tryd.prog 139 #[.agg #[.int .u64 hi, .int .u64 lo, .pointer (some ⟨b4, o4, none⟩)]] w fun e w' => e = .returned (.bool false) ∧ Below w.heap.size w w' := by
  obtain ⟨z4, z0, s0, s1, s2, l4, c40, c41⟩ := hg
  go_enter Tryd.func139, Tryd.ntmps139
  go_wp2
  go_returns
  exact ⟨rfl, by go_grown⟩
set_option maxHeartbeats 4000000 in
set_option maxRecDepth 100000 in
theorem isValid_4 (hi lo : Int) {b4 o4 : Nat} (w : World) (hg : G4 b4 o4 w) :
    Calls Tryd.prog 93 #[.agg #[.int .u64 hi, .int .u64 lo, .pointer (some ⟨b4, o4, none⟩)]] w fun e w' => e = .returned (.bool true) ∧ Below w.heap.size w w' := by
  obtain ⟨z4, z0, s0, s1, s2, l4, c40, c41⟩ := hg
  go_enter Tryd.func93, Tryd.ntmps93
  go_wp2
  go_returns
  exact ⟨rfl, by go_grown⟩
set_option maxHeartbeats 4000000 in
set_option maxRecDepth 100000 in
theorem zone_4 (hi lo : Int) {b4 o4 : Nat} (w : World) (hg : G4 b4 o4 w) :
    Calls Tryd.prog 129 #[.agg #[.int .u64 hi, .int .u64 lo, .pointer (some ⟨b4, o4, none⟩)]] w fun e w' => e = .returned (.string ⟨#[]⟩) ∧ Below w.heap.size w w' := by
  obtain ⟨z4, z0, s0, s1, s2, l4, c40, c41⟩ := hg
  go_enter Tryd.func129, Tryd.ntmps129
  go_wp2
  go_returns
  exact ⟨rfl, by go_grown⟩
set_option maxHeartbeats 4000000 in
set_option maxRecDepth 100000 in
theorem bitLen_6 (hi lo : Int) {b4 o4 b6 o6 : Nat} (w : World) (hg : Gl b4 o4 b6 o6 w) :
    Calls Tryd.prog 128 #[.agg #[.int .u64 hi, .int .u64 lo, .pointer (some ⟨b6, o6, none⟩)]] w fun e w' => e = .returned (.int .i64 128) ∧ Below w.heap.size w w' := by
  obtain ⟨⟨z4, z0, s0, s1, s2, l4, c40, c41⟩, z6, zh, zh', l6, c60, c61⟩ := hg
  go_enter Tryd.func128, Tryd.ntmps128
  go_wp2
  go_returns
  exact ⟨rfl, by go_grown⟩
set_option maxHeartbeats 4000000 in
set_option maxRecDepth 100000 in
theorem is4_6 (hi lo : Int) {b4 o4 b6 o6 : Nat} (w : World) (hg : Gl b4 o4 b6 o6 w) :
    Calls Tryd.prog 134 #[.agg #[.int .u64 hi, .int .u64 lo, .pointer (some ⟨b6, o6, none⟩)]] w fun e w' => e = .returned (.bool false) ∧ Below w.heap.size w w' := by
  obtain ⟨⟨z4, z0, s0, s1, s2, l4, c40, c41⟩, z6, zh, zh', l6, c60, c61⟩ := hg
  go_enter Tryd.func134, Tryd.ntmps134
  go_wp2
  go_returns
  exact ⟨rfl, by go_grown⟩
set_option maxHeartbeats 4000000 in
set_option maxRecDepth 100000 in
theorem is6_6 (hi lo : Int) {b4 o4 b6 o6 : Nat} (w : World) (hg : Gl b4 o4 b6 o6 w) :
    Calls Tryd.prog 139 #[.agg #[.int .u64 hi, .int .u64 lo, .pointer (some ⟨b6, o6, none⟩)]] w fun e w' => e = .returned (.bool true) ∧ Below w.heap.size w w' := by
  obtain ⟨⟨z4, z0, s0, s1, s2, l4, c40, c41⟩, z6, zh, zh', l6, c60, c61⟩ := hg
  go_enter Tryd.func139, Tryd.ntmps139
  go_wp2
  go_returns
  exact ⟨rfl, by go_grown⟩
set_option maxHeartbeats 4000000 in
set_option maxRecDepth 100000 in
theorem isValid_6 (hi lo : Int) {b4 o4 b6 o6 : Nat} (w : World) (hg : Gl b4 o4 b6 o6 w) :
    Calls Tryd.prog 93 #[.agg #[.int .u64 hi, .int .u64 lo, .pointer (some ⟨b6, o6, none⟩)]] w fun e w' => e = .returned (.bool true) ∧ Below w.heap.size w w' := by
  obtain ⟨⟨z4, z0, s0, s1, s2, l4, c40, c41⟩, z6, zh, zh', l6, c60, c61⟩ := hg
  go_enter Tryd.func93, Tryd.ntmps93
  go_wp2
  go_returns
  exact ⟨rfl, by go_grown⟩
set_option maxHeartbeats 4000000 in
set_option maxRecDepth 100000 in
theorem zone_6 (hi lo : Int) {b4 o4 b6 o6 : Nat} (w : World) (hg : Gl b4 o4 b6 o6 w) :
    Calls Tryd.prog 129 #[.agg #[.int .u64 hi, .int .u64 lo, .pointer (some ⟨b6, o6, none⟩)]] w fun e w' => e = .returned (.string ⟨#[]⟩) ∧ Below w.heap.size w w' := by
  obtain ⟨⟨z4, z0, s0, s1, s2, l4, c40, c41⟩, z6, zh, zh', l6, c60, c61⟩ := hg
  go_enter Tryd.func129, Tryd.ntmps129
  go_wp2
  go_returns
  exact ⟨rfl, by go_grown⟩
end Go.Proofs.YtmlkcgacneealaaDoor
