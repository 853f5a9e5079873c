/- The code behind parseIPv6's inner loop, on the ways that end in an error: one theorem a way. Conditions: the blocks are there. parseIPv6: dotted decimal that is refused; the code behind the outer loop where it ends in an error. Conditions: the blocks are there. parseIPv6's inner loop for every text; one round of the plain reader where it ends in an error. Conditions: the blocks are there. The code behind parseIPv6's inner loop, on the ways that go on: one theorem a way. Conditions: the blocks are there. parseIPv6: dotted decimal that is read; the outer loop where the end is an error. Conditions: the blocks are there. -/
import Derived.Test.YtmlkcgacneealaaDoorZb
import Derived.Deep.CutBlock
import Derived.Test.YtmlkcgacneealaaDoorSExp
import Derived.Deep.DeepCutAuto
set_option linter.unusedVariables false
set_option linter.unusedSimpArgs false
namespace Go.Proofs.YtmlkcgacneealaaDoor
open Go.RowKit

/-- What a return with an error asks. -/
def Rt (w : World) (Q : Exit → Act → World → Prop) : Prop := ∀ (a : Act) (w' : World), a.defers = [] → a.tmps.getD 2 undef = .pointer (some ⟨w.heap.size, 0, none⟩) → (∃ p, a.tmps.getD 3 undef = .iface 124 p) → blk? w' w.heap.size = some #[.int .u64 0, .int .u64 0, .pointer none] → Below w.heap.size w w' → Q .ret a w'
theorem Rt_body (w : World) : Rt w (bodyPost Tryd.prog Tryd.f160 fun e w' => (∃ p, e = .returned (.tuple #[.agg #[.int .u64 0, .int .u64 0, .pointer none], .iface 124 p])) ∧ Below w.heap.size w w') := fun a w' hd h2 ⟨p, h3⟩ hk hB =>
  bodyPost_ret (res78t Tryd.results160 _ _ (w.heap.size) _ h2 hk rfl) hd ⟨⟨p, by rw [h3]⟩, hB⟩
def oloop : Code → Option Code
  | .seq (.block 0 (.loop x)) _ => some x
  | .seq _ b => oloop b
  | _ => none
def inBlk : Code → Option Code
  | .seq _ (.block 1 y) => some y
  | _ => none
def aft2 : Code → Option Code
  | .seq (.block 2 _) b => some b
  | .seq _ b => aft2 b
  | _ => none
/-- The code behind the inner loop. -/
noncomputable def rest1c : Code := ((((Tryd.f160.body.bind oloop).bind inBlk).bind aft2).getD .skip)
set_option maxHeartbeats 8000000 in
set_option maxRecDepth 100000 in
theorem rej_none (w wr : World) (Q : Exit → Act → World → Prop) (hRt : Rt w Q) (z0 zz : ByteArray) (t : List Int) (hBt : By t) (ht : t.length ≤ 1048576) (L i : Nat) (a E : Int) (ha0 : 0 ≤ a) (ha1 : a < 65536) (f : Nat → Int) (k0 : blk? wr w.heap.size = some #[.int .u64 0, .int .u64 0, .pointer none]) (k1 : blk? wr (w.heap.size + 1) = some (arr16 f)) (hBw : Below w.heap.size w wr) {u1 u11 u12 u13 u14 u15 u16 u17 u18 u19 u20 u21 u22 u23 u24 u25 u26 u27 u28 u29 u30 u31 u32 u33 u34 u35 u36 u37 u38 u39 u40 u41 u42 u43 u44 u45 u46 u47 u48 u49 u50 u51 u52 u53 u54 u55 u56 u57 u58 u59 u60 u61 u62 u63 u64 u65 u66 u67 u68 u69 u70 u71 u72 u73 u74 u75 u76 u77 u78 u79 u80 u81 u82 u83 u84 u85 u86 u87 u88 u89 u90 u91 u92 u93 u94 u95 u96 u97 u98 u99 u100 u101 u102 u103 u104 u105 u106 u107 u108 u109 u110 u111 u112 u113 u114 u115 u116 u117 u118 u119 u120 u121 u122 u123 u124 u125 u126 u127 u128 u129 u130 u131 u132 u133 u134 u135 u136 u137 u138 u139 u140 u141 u142 u143 u144 u145 u146 u147 u148 u149 u150 u151 u152 u153 u154 u155 u156 u157 u158 u159 u160 u161 u162 u163 u164 u165 u166 u167 u168 u169 u170 u171 u172 u173 u174 u175 u176 u177 u178 u179 u180 u181 u182 u183 u184 u185 u186 u187 u188 u189 u190 u191 u192 u193 u194 u195 u196 u197 u198 u199 u200 u201 u202 u203 u204 u205 u206 u207 u208 u209 u210 u211 u212 u213 u214 u215 u216 u217 u218 u219 u220 u221 u222 u223 u224 u225 u226 u227 u228 u229 u230 u231 u232 u233 u234 u235 u236 u237 u238 u239 u240 u241 u242 u243 u244 u245 u246 u247 u248 u249 u250 u251 u252 u253 u254 u255 u256 u257 u258 u259 u260 u261 u262 u263 u264 u265 u266 u267 u268 u269 u270 u271 u272 u273 u274 u275 u276 u277 u278 u279 : Value} (hL : L = 0) :
    Code.wp Tryd.prog rest1c Q ⟨#[.string z0, u1, .pointer (some ⟨w.heap.size, 0, none⟩), .nilIface, .string (ba t), .string zz, .int .i64 (i : Int), .pointer (some ⟨w.heap.size + 1, 0, none⟩), .int .i64 E, .int .i64 (L : Int), .int .u32 a, u11, u12, u13, u14, u15, u16, u17, u18, u19, u20, u21, u22, u23, u24, u25, u26, u27, u28, u29, u30, u31, u32, u33, u34, u35, u36, u37, u38, u39, u40, u41, u42, u43, u44, u45, u46, u47, u48, u49, u50, u51, u52, u53, u54, u55, u56, u57, u58, u59, u60, u61, u62, u63, u64, u65, u66, u67, u68, u69, u70, u71, u72, u73, u74, u75, u76, u77, u78, u79, u80, u81, u82, u83, u84, u85, u86, u87, u88, u89, u90, u91, u92, u93, u94, u95, u96, u97, u98, u99, u100, u101, u102, u103, u104, u105, u106, u107, u108, u109, u110, u111, u112, u113, u114, u115, u116, u117, u118, u119, u120, u121, u122, u123, u124, u125, u126, u127, u128, u129, u130, u131, u132, u133, u134, u135, u136, u137, u138, u139, u140, u141, u142, u143, u144, u145, u146, u147, u148, u149, u150, u151, u152, u153, u154, u155, u156, u157, u158, u159, u160, u161, u162, u163, u164, u165, u166, u167, u168, u169, u170, u171, u172, u173, u174, u175, u176, u177, u178, u179, u180, u181, u182, u183, u184, u185, u186, u187, u188, u189, u190, u191, u192, u193, u194, u195, u196, u197, u198, u199, u200, u201, u202, u203, u204, u205, u206, u207, u208, u209, u210, u211, u212, u213, u214, u215, u216, u217, u218, u219, u220, u221, u222, u223, u224, u225, u226, u227, u228, u229, u230, u231, u232, u233, u234, u235, u236, u237, u238, u239, u240, u241, u242, u243, u244, u245, u246, u247, u248, u249, u250, u251, u252, u253, u254, u255, u256, u257, u258, u259, u260, u261, u262, u263, u264, u265, u266, u267, u268, u269, u270, u271, u272, u273, u274, u275, u276, u277, u278, u279], []⟩ wr := by
  have HRt := Lib.hid hRt
  have HBt := Lib.hid hBt
  have hl0 := blk?_lt k0
  have hl1 := blk?_lt k1
  have hst := ba_size t
  have hsm : (((ba t).size : Nat) : Int) ≤ 1048576 := by rw [hst]; omega
  have hi0 : (0 : Int) ≤ (i : Int) := by omega
  have hL0 : (0 : Int) ≤ (L : Int) := by omega
  clear hRt hBt
  conv => arg 2; whnf
  have hLz : ((L : Int) == 0) = true := beq_iff_eq.2 (by omega)
  subst hL
  clear hst
  go_wp2
  exact HRt.out _ _ rfl rfl ⟨_, rfl⟩ (by go_simp) (by repeat' (first | (with_reducible exact Below.refl _ _) | (with_reducible assumption) | (with_reducible refine Below.alloc ?_ ?_ _) | (with_reducible refine Below.drew ?_) | (with_reducible refine below_drewN ?_ _) | (with_reducible refine Below.setCell ?_ ?_ _) | (with_reducible refine below_setRow' ?_ ?_ _) | go_size))
set_option maxHeartbeats 8000000 in
set_option maxRecDepth 100000 in
theorem rej_place (w wr : World) (Q : Exit → Act → World → Prop) (hRt : Rt w Q) (z0 zz : ByteArray) (t : List Int) (hBt : By t) (ht : t.length ≤ 1048576) (L i : Nat) (a E : Int) (ha0 : 0 ≤ a) (ha1 : a < 65536) (f : Nat → Int) (k0 : blk? wr w.heap.size = some #[.int .u64 0, .int .u64 0, .pointer none]) (k1 : blk? wr (w.heap.size + 1) = some (arr16 f)) (hBw : Below w.heap.size w wr) {u1 u11 u12 u13 u14 u15 u16 u17 u18 u19 u20 u21 u22 u23 u24 u25 u26 u27 u28 u29 u30 u31 u32 u33 u34 u35 u36 u37 u38 u39 u40 u41 u42 u43 u44 u45 u46 u47 u48 u49 u50 u51 u52 u53 u54 u55 u56 u57 u58 u59 u60 u61 u62 u63 u64 u65 u66 u67 u68 u69 u70 u71 u72 u73 u74 u75 u76 u77 u78 u79 u80 u81 u82 u83 u84 u85 u86 u87 u88 u89 u90 u91 u92 u93 u94 u95 u96 u97 u98 u99 u100 u101 u102 u103 u104 u105 u106 u107 u108 u109 u110 u111 u112 u113 u114 u115 u116 u117 u118 u119 u120 u121 u122 u123 u124 u125 u126 u127 u128 u129 u130 u131 u132 u133 u134 u135 u136 u137 u138 u139 u140 u141 u142 u143 u144 u145 u146 u147 u148 u149 u150 u151 u152 u153 u154 u155 u156 u157 u158 u159 u160 u161 u162 u163 u164 u165 u166 u167 u168 u169 u170 u171 u172 u173 u174 u175 u176 u177 u178 u179 u180 u181 u182 u183 u184 u185 u186 u187 u188 u189 u190 u191 u192 u193 u194 u195 u196 u197 u198 u199 u200 u201 u202 u203 u204 u205 u206 u207 u208 u209 u210 u211 u212 u213 u214 u215 u216 u217 u218 u219 u220 u221 u222 u223 u224 u225 u226 u227 u228 u229 u230 u231 u232 u233 u234 u235 u236 u237 u238 u239 u240 u241 u242 u243 u244 u245 u246 u247 u248 u249 u250 u251 u252 u253 u254 u255 u256 u257 u258 u259 u260 u261 u262 u263 u264 u265 u266 u267 u268 u269 u270 u271 u272 u273 u274 u275 u276 u277 u278 u279 : Value} (hLt : L < t.length) (hL1 : 1 ≤ L) (hat : t.getD L 0 = 46) (hE : E < 0) (hi : i ≠ 12) :
    Code.wp Tryd.prog rest1c Q ⟨#[.string z0, u1, .pointer (some ⟨w.heap.size, 0, none⟩), .nilIface, .string (ba t), .string zz, .int .i64 (i : Int), .pointer (some ⟨w.heap.size + 1, 0, none⟩), .int .i64 E, .int .i64 (L : Int), .int .u32 a, u11, u12, u13, u14, u15, u16, u17, u18, u19, u20, u21, u22, u23, u24, u25, u26, u27, u28, u29, u30, u31, u32, u33, u34, u35, u36, u37, u38, u39, u40, u41, u42, u43, u44, u45, u46, u47, u48, u49, u50, u51, u52, u53, u54, u55, u56, u57, u58, u59, u60, u61, u62, u63, u64, u65, u66, u67, u68, u69, u70, u71, u72, u73, u74, u75, u76, u77, u78, u79, u80, u81, u82, u83, u84, u85, u86, u87, u88, u89, u90, u91, u92, u93, u94, u95, u96, u97, u98, u99, u100, u101, u102, u103, u104, u105, u106, u107, u108, u109, u110, u111, u112, u113, u114, u115, u116, u117, u118, u119, u120, u121, u122, u123, u124, u125, u126, u127, u128, u129, u130, u131, u132, u133, u134, u135, u136, u137, u138, u139, u140, u141, u142, u143, u144, u145, u146, u147, u148, u149, u150, u151, u152, u153, u154, u155, u156, u157, u158, u159, u160, u161, u162, u163, u164, u165, u166, u167, u168, u169, u170, u171, u172, u173, u174, u175, u176, u177, u178, u179, u180, u181, u182, u183, u184, u185, u186, u187, u188, u189, u190, u191, u192, u193, u194, u195, u196, u197, u198, u199, u200, u201, u202, u203, u204, u205, u206, u207, u208, u209, u210, u211, u212, u213, u214, u215, u216, u217, u218, u219, u220, u221, u222, u223, u224, u225, u226, u227, u228, u229, u230, u231, u232, u233, u234, u235, u236, u237, u238, u239, u240, u241, u242, u243, u244, u245, u246, u247, u248, u249, u250, u251, u252, u253, u254, u255, u256, u257, u258, u259, u260, u261, u262, u263, u264, u265, u266, u267, u268, u269, u270, u271, u272, u273, u274, u275, u276, u277, u278, u279], []⟩ wr := by
  have HRt := Lib.hid hRt
  have HBt := Lib.hid hBt
  have hl0 := blk?_lt k0
  have hl1 := blk?_lt k1
  have hst := ba_size t
  have hsm : (((ba t).size : Nat) : Int) ≤ 1048576 := by rw [hst]; omega
  have hi0 : (0 : Int) ≤ (i : Int) := by omega
  have hL0 : (0 : Int) ≤ (L : Int) := by omega
  clear hRt hBt
  conv => arg 2; whnf
  have hLn : (L : Int) < (((ba t).size : Nat) : Int) := by omega
  have hLm : L < (ba t).size := by omega
  have hcv := ba_get t HBt.out L hLm
  have hLs' : (L : Int) ≤ (((ba t).size : Nat) : Int) := by omega
  have hLz : ((L : Int) == 0) = false := beq_eq_false_iff_ne.2 (by omega)
  rw [hat] at hcv
  have hin : ((i : Int) != 12) = true := by simp; omega
  clear hst hat hLt hi hL1
  go_wp2
  exact HRt.out _ _ rfl rfl ⟨_, rfl⟩ (by go_simp) (by repeat' (first | (with_reducible exact Below.refl _ _) | (with_reducible assumption) | (with_reducible refine Below.alloc ?_ ?_ _) | (with_reducible refine Below.drew ?_) | (with_reducible refine below_drewN ?_ _) | (with_reducible refine Below.setCell ?_ ?_ _) | (with_reducible refine below_setRow' ?_ ?_ _) | go_size))
set_option maxHeartbeats 8000000 in
set_option maxRecDepth 100000 in
theorem rej_room (w wr : World) (Q : Exit → Act → World → Prop) (hRt : Rt w Q) (z0 zz : ByteArray) (t : List Int) (hBt : By t) (ht : t.length ≤ 1048576) (L i : Nat) (a E : Int) (ha0 : 0 ≤ a) (ha1 : a < 65536) (f : Nat → Int) (k0 : blk? wr w.heap.size = some #[.int .u64 0, .int .u64 0, .pointer none]) (k1 : blk? wr (w.heap.size + 1) = some (arr16 f)) (hBw : Below w.heap.size w wr) {u1 u11 u12 u13 u14 u15 u16 u17 u18 u19 u20 u21 u22 u23 u24 u25 u26 u27 u28 u29 u30 u31 u32 u33 u34 u35 u36 u37 u38 u39 u40 u41 u42 u43 u44 u45 u46 u47 u48 u49 u50 u51 u52 u53 u54 u55 u56 u57 u58 u59 u60 u61 u62 u63 u64 u65 u66 u67 u68 u69 u70 u71 u72 u73 u74 u75 u76 u77 u78 u79 u80 u81 u82 u83 u84 u85 u86 u87 u88 u89 u90 u91 u92 u93 u94 u95 u96 u97 u98 u99 u100 u101 u102 u103 u104 u105 u106 u107 u108 u109 u110 u111 u112 u113 u114 u115 u116 u117 u118 u119 u120 u121 u122 u123 u124 u125 u126 u127 u128 u129 u130 u131 u132 u133 u134 u135 u136 u137 u138 u139 u140 u141 u142 u143 u144 u145 u146 u147 u148 u149 u150 u151 u152 u153 u154 u155 u156 u157 u158 u159 u160 u161 u162 u163 u164 u165 u166 u167 u168 u169 u170 u171 u172 u173 u174 u175 u176 u177 u178 u179 u180 u181 u182 u183 u184 u185 u186 u187 u188 u189 u190 u191 u192 u193 u194 u195 u196 u197 u198 u199 u200 u201 u202 u203 u204 u205 u206 u207 u208 u209 u210 u211 u212 u213 u214 u215 u216 u217 u218 u219 u220 u221 u222 u223 u224 u225 u226 u227 u228 u229 u230 u231 u232 u233 u234 u235 u236 u237 u238 u239 u240 u241 u242 u243 u244 u245 u246 u247 u248 u249 u250 u251 u252 u253 u254 u255 u256 u257 u258 u259 u260 u261 u262 u263 u264 u265 u266 u267 u268 u269 u270 u271 u272 u273 u274 u275 u276 u277 u278 u279 : Value} (hLt : L < t.length) (hL1 : 1 ≤ L) (hat : t.getD L 0 = 46) (hE : 0 ≤ E) (hi : 16 < i + 4) (hi16 : i ≤ 16) :
    Code.wp Tryd.prog rest1c Q ⟨#[.string z0, u1, .pointer (some ⟨w.heap.size, 0, none⟩), .nilIface, .string (ba t), .string zz, .int .i64 (i : Int), .pointer (some ⟨w.heap.size + 1, 0, none⟩), .int .i64 E, .int .i64 (L : Int), .int .u32 a, u11, u12, u13, u14, u15, u16, u17, u18, u19, u20, u21, u22, u23, u24, u25, u26, u27, u28, u29, u30, u31, u32, u33, u34, u35, u36, u37, u38, u39, u40, u41, u42, u43, u44, u45, u46, u47, u48, u49, u50, u51, u52, u53, u54, u55, u56, u57, u58, u59, u60, u61, u62, u63, u64, u65, u66, u67, u68, u69, u70, u71, u72, u73, u74, u75, u76, u77, u78, u79, u80, u81, u82, u83, u84, u85, u86, u87, u88, u89, u90, u91, u92, u93, u94, u95, u96, u97, u98, u99, u100, u101, u102, u103, u104, u105, u106, u107, u108, u109, u110, u111, u112, u113, u114, u115, u116, u117, u118, u119, u120, u121, u122, u123, u124, u125, u126, u127, u128, u129, u130, u131, u132, u133, u134, u135, u136, u137, u138, u139, u140, u141, u142, u143, u144, u145, u146, u147, u148, u149, u150, u151, u152, u153, u154, u155, u156, u157, u158, u159, u160, u161, u162, u163, u164, u165, u166, u167, u168, u169, u170, u171, u172, u173, u174, u175, u176, u177, u178, u179, u180, u181, u182, u183, u184, u185, u186, u187, u188, u189, u190, u191, u192, u193, u194, u195, u196, u197, u198, u199, u200, u201, u202, u203, u204, u205, u206, u207, u208, u209, u210, u211, u212, u213, u214, u215, u216, u217, u218, u219, u220, u221, u222, u223, u224, u225, u226, u227, u228, u229, u230, u231, u232, u233, u234, u235, u236, u237, u238, u239, u240, u241, u242, u243, u244, u245, u246, u247, u248, u249, u250, u251, u252, u253, u254, u255, u256, u257, u258, u259, u260, u261, u262, u263, u264, u265, u266, u267, u268, u269, u270, u271, u272, u273, u274, u275, u276, u277, u278, u279], []⟩ wr := by
  have HRt := Lib.hid hRt
  have HBt := Lib.hid hBt
  have hl0 := blk?_lt k0
  have hl1 := blk?_lt k1
  have hst := ba_size t
  have hsm : (((ba t).size : Nat) : Int) ≤ 1048576 := by rw [hst]; omega
  have hi0 : (0 : Int) ≤ (i : Int) := by omega
  have hL0 : (0 : Int) ≤ (L : Int) := by omega
  clear hRt hBt
  conv => arg 2; whnf
  have hLn : (L : Int) < (((ba t).size : Nat) : Int) := by omega
  have hLm : L < (ba t).size := by omega
  have hcv := ba_get t HBt.out L hLm
  have hLs' : (L : Int) ≤ (((ba t).size : Nat) : Int) := by omega
  have hLz : ((L : Int) == 0) = false := beq_eq_false_iff_ne.2 (by omega)
  rw [hat] at hcv
  have hE' : ¬ (E < 0) := by omega
  have hi3 : 16 < (i : Int) + 4 := by omega
  clear hst hat hLt hL1
  go_wp2
  exact HRt.out _ _ rfl rfl ⟨_, rfl⟩ (by go_simp) (by repeat' (first | (with_reducible exact Below.refl _ _) | (with_reducible assumption) | (with_reducible refine Below.alloc ?_ ?_ _) | (with_reducible refine Below.drew ?_) | (with_reducible refine below_drewN ?_ _) | (with_reducible refine Below.setCell ?_ ?_ _) | (with_reducible refine below_setRow' ?_ ?_ _) | go_size))
set_option maxHeartbeats 8000000 in
set_option maxRecDepth 100000 in
theorem rej_want (w wr : World) (Q : Exit → Act → World → Prop) (hRt : Rt w Q) (z0 zz : ByteArray) (t : List Int) (hBt : By t) (ht : t.length ≤ 1048576) (L i : Nat) (a E : Int) (ha0 : 0 ≤ a) (ha1 : a < 65536) (f : Nat → Int) (k0 : blk? wr w.heap.size = some #[.int .u64 0, .int .u64 0, .pointer none]) (k1 : blk? wr (w.heap.size + 1) = some (arr16 f)) (hBw : Below w.heap.size w wr) {u1 u11 u12 u13 u14 u15 u16 u17 u18 u19 u20 u21 u22 u23 u24 u25 u26 u27 u28 u29 u30 u31 u32 u33 u34 u35 u36 u37 u38 u39 u40 u41 u42 u43 u44 u45 u46 u47 u48 u49 u50 u51 u52 u53 u54 u55 u56 u57 u58 u59 u60 u61 u62 u63 u64 u65 u66 u67 u68 u69 u70 u71 u72 u73 u74 u75 u76 u77 u78 u79 u80 u81 u82 u83 u84 u85 u86 u87 u88 u89 u90 u91 u92 u93 u94 u95 u96 u97 u98 u99 u100 u101 u102 u103 u104 u105 u106 u107 u108 u109 u110 u111 u112 u113 u114 u115 u116 u117 u118 u119 u120 u121 u122 u123 u124 u125 u126 u127 u128 u129 u130 u131 u132 u133 u134 u135 u136 u137 u138 u139 u140 u141 u142 u143 u144 u145 u146 u147 u148 u149 u150 u151 u152 u153 u154 u155 u156 u157 u158 u159 u160 u161 u162 u163 u164 u165 u166 u167 u168 u169 u170 u171 u172 u173 u174 u175 u176 u177 u178 u179 u180 u181 u182 u183 u184 u185 u186 u187 u188 u189 u190 u191 u192 u193 u194 u195 u196 u197 u198 u199 u200 u201 u202 u203 u204 u205 u206 u207 u208 u209 u210 u211 u212 u213 u214 u215 u216 u217 u218 u219 u220 u221 u222 u223 u224 u225 u226 u227 u228 u229 u230 u231 u232 u233 u234 u235 u236 u237 u238 u239 u240 u241 u242 u243 u244 u245 u246 u247 u248 u249 u250 u251 u252 u253 u254 u255 u256 u257 u258 u259 u260 u261 u262 u263 u264 u265 u266 u267 u268 u269 u270 u271 u272 u273 u274 u275 u276 u277 u278 u279 : Value} (hLt : L < t.length) (hL1 : 1 ≤ L) (hne : t.getD L 0 ≠ 46) (hn8 : t.getD L 0 ≠ 58) (hi : i + 2 ≤ 16) :
    Code.wp Tryd.prog rest1c Q ⟨#[.string z0, u1, .pointer (some ⟨w.heap.size, 0, none⟩), .nilIface, .string (ba t), .string zz, .int .i64 (i : Int), .pointer (some ⟨w.heap.size + 1, 0, none⟩), .int .i64 E, .int .i64 (L : Int), .int .u32 a, u11, u12, u13, u14, u15, u16, u17, u18, u19, u20, u21, u22, u23, u24, u25, u26, u27, u28, u29, u30, u31, u32, u33, u34, u35, u36, u37, u38, u39, u40, u41, u42, u43, u44, u45, u46, u47, u48, u49, u50, u51, u52, u53, u54, u55, u56, u57, u58, u59, u60, u61, u62, u63, u64, u65, u66, u67, u68, u69, u70, u71, u72, u73, u74, u75, u76, u77, u78, u79, u80, u81, u82, u83, u84, u85, u86, u87, u88, u89, u90, u91, u92, u93, u94, u95, u96, u97, u98, u99, u100, u101, u102, u103, u104, u105, u106, u107, u108, u109, u110, u111, u112, u113, u114, u115, u116, u117, u118, u119, u120, u121, u122, u123, u124, u125, u126, u127, u128, u129, u130, u131, u132, u133, u134, u135, u136, u137, u138, u139, u140, u141, u142, u143, u144, u145, u146, u147, u148, u149, u150, u151, u152, u153, u154, u155, u156, u157, u158, u159, u160, u161, u162, u163, u164, u165, u166, u167, u168, u169, u170, u171, u172, u173, u174, u175, u176, u177, u178, u179, u180, u181, u182, u183, u184, u185, u186, u187, u188, u189, u190, u191, u192, u193, u194, u195, u196, u197, u198, u199, u200, u201, u202, u203, u204, u205, u206, u207, u208, u209, u210, u211, u212, u213, u214, u215, u216, u217, u218, u219, u220, u221, u222, u223, u224, u225, u226, u227, u228, u229, u230, u231, u232, u233, u234, u235, u236, u237, u238, u239, u240, u241, u242, u243, u244, u245, u246, u247, u248, u249, u250, u251, u252, u253, u254, u255, u256, u257, u258, u259, u260, u261, u262, u263, u264, u265, u266, u267, u268, u269, u270, u271, u272, u273, u274, u275, u276, u277, u278, u279], []⟩ wr := by
  have HRt := Lib.hid hRt
  have HBt := Lib.hid hBt
  have hl0 := blk?_lt k0
  have hl1 := blk?_lt k1
  have hst := ba_size t
  have hsm : (((ba t).size : Nat) : Int) ≤ 1048576 := by rw [hst]; omega
  have hi0 : (0 : Int) ≤ (i : Int) := by omega
  have hL0 : (0 : Int) ≤ (L : Int) := by omega
  clear hRt hBt
  conv => arg 2; whnf
  have hLn : (L : Int) < (((ba t).size : Nat) : Int) := by omega
  have hLm : L < (ba t).size := by omega
  have hcv := ba_get t HBt.out L hLm
  have hLs' : (L : Int) ≤ (((ba t).size : Nat) : Int) := by omega
  have hLz : ((L : Int) == 0) = false := beq_eq_false_iff_ne.2 (by omega)
  have hx1 : (ba t).extract L (ba t).size = ba (t.drop L) := ba_drop t L (by omega)
  have hB1 : By (t.drop L) := By_drop HBt.out L
  have hS1 := ba_size (t.drop L)
  have hT1 : (t.drop L).length = t.length - L := List.length_drop
  obtain ⟨t1, ht1⟩ : ∃ t1 : List Int, t1 = t.drop L := ⟨_, rfl⟩
  have hg0 : t.getD L 0 = t1.getD 0 0 := by rw [ht1, ← getD_drop, Nat.add_zero]
  rw [← ht1] at hx1 hB1 hS1 hT1
  have p0 : 0 < (ba t1).size := by omega
  have p1 : (0 : Int) < (((ba t1).size : Nat) : Int) := by omega
  have p2 : (1 : Int) ≤ (((ba t1).size : Nat) : Int) := by omega
  have p3 : ((((ba t1).size : Nat) : Int) == 0) = false := beq_eq_false_iff_ne.2 (by omega)
  have c1' := ba_get t1 hB1 0 p0
  have hu1 : wr.cell? ⟨w.heap.size + 1, i, none⟩ = some (.int .u8 (f i)) := by rw [blk?_cell k1]; exact arr16_byte f i (by omega)
  have hu2 : wr.frozen? ⟨w.heap.size + 1, i, none⟩ = false := blk?_frozen k1 _
  have hk2 : ∀ v : Int, blk? (wr.setCell ⟨w.heap.size + 1, i, none⟩ (.int .u8 v)) (w.heap.size + 1) = some (arr16 (upd f i v)) := fun v => by rw [blk?_setSame, k1, Option.map_some, arr16_set _ _ _ (by omega)]
  have hu3 : ∀ v : Int, (wr.setCell ⟨w.heap.size + 1, i, none⟩ (.int .u8 v)).cell? ⟨w.heap.size + 1, i + 1, none⟩ = some (.int .u8 (upd f i v (i + 1))) := fun v => by rw [blk?_cell (hk2 v)]; exact arr16_byte _ (i + 1) (by omega)
  have hu4 : ∀ v : Int, (wr.setCell ⟨w.heap.size + 1, i, none⟩ (.int .u8 v)).frozen? ⟨w.heap.size + 1, i + 1, none⟩ = false := fun v => blk?_frozen (hk2 v) _
  have hi1 : (i : Int) < 16 := by omega
  have HI2 := Lib.hid (show (i : Int) + 1 < 16 by omega)
  have hn1 : i + 1 < 16 := by omega
  obtain ⟨ch, hch⟩ : ∃ ch : Int, ch = t.getD L 0 := ⟨_, rfl⟩
  rw [← hg0, ← hch] at c1'
  rw [← hch] at hcv hne hn8
  have z1 : (ch == 46) = false := beq_eq_false_iff_ne.2 hne
  have z2 : (ch == 58) = false := beq_eq_false_iff_ne.2 hn8
  have z3 : (ch != 58) = true := by rw [bne, z2]; rfl
  clear hst hS1 hT1 ht1 hg0 hLt hL1 hch hne hn8 hB1
  go_upto_region 48 with fail
  have hi2 := HI2.out
  go_upto_region 51 with fail
  obtain ⟨wn, hwn⟩ : ∃ y : World, y = (wr.setCell ⟨w.heap.size + 1, i, none⟩ (.int .u8 (a / 256))).setCell ⟨w.heap.size + 1, i + 1, none⟩ (.int .u8 (a % 256)) := ⟨_, rfl⟩
  have n1 : blk? wn (w.heap.size + 1) = some (arr16 (put2 f i a)) := by rw [hwn, blk?_setSame, hk2, Option.map_some, arr16_set _ _ _ (by omega)]; rfl
  have n0 : blk? wn w.heap.size = some #[.int .u64 0, .int .u64 0, .pointer none] := by rw [hwn, blk?_setLt _ _ _ _ _ (by omega), blk?_setLt _ _ _ _ _ (by omega)]; exact k0
  have hBn : Below w.heap.size w wn := by rw [hwn]; exact (by repeat' (first | (with_reducible exact Below.refl _ _) | (with_reducible assumption) | (with_reducible refine Below.alloc ?_ ?_ _) | (with_reducible refine Below.drew ?_) | (with_reducible refine below_drewN ?_ _) | (with_reducible refine Below.setCell ?_ ?_ _) | (with_reducible refine below_setRow' ?_ ?_ _) | go_size))
  have m0 := blk?_lt n0
  have m1 := blk?_lt n1
  rw [← hwn]
  clear hwn hu1 hu2 hu3 hu4 hk2 hi2 hn1 k0 k1 hBw hl0 hl1
  go_wp2
  exact HRt.out _ _ rfl rfl ⟨_, rfl⟩ (by go_simp) (by repeat' (first | (with_reducible exact Below.refl _ _) | (with_reducible assumption) | (with_reducible refine Below.alloc ?_ ?_ _) | (with_reducible refine Below.drew ?_) | (with_reducible refine below_drewN ?_ _) | (with_reducible refine Below.setCell ?_ ?_ _) | (with_reducible refine below_setRow' ?_ ?_ _) | go_size))
set_option maxHeartbeats 8000000 in
set_option maxRecDepth 100000 in
theorem rej_last (w wr : World) (Q : Exit → Act → World → Prop) (hRt : Rt w Q) (z0 zz : ByteArray) (t : List Int) (hBt : By t) (ht : t.length ≤ 1048576) (L i : Nat) (a E : Int) (ha0 : 0 ≤ a) (ha1 : a < 65536) (f : Nat → Int) (k0 : blk? wr w.heap.size = some #[.int .u64 0, .int .u64 0, .pointer none]) (k1 : blk? wr (w.heap.size + 1) = some (arr16 f)) (hBw : Below w.heap.size w wr) {u1 u11 u12 u13 u14 u15 u16 u17 u18 u19 u20 u21 u22 u23 u24 u25 u26 u27 u28 u29 u30 u31 u32 u33 u34 u35 u36 u37 u38 u39 u40 u41 u42 u43 u44 u45 u46 u47 u48 u49 u50 u51 u52 u53 u54 u55 u56 u57 u58 u59 u60 u61 u62 u63 u64 u65 u66 u67 u68 u69 u70 u71 u72 u73 u74 u75 u76 u77 u78 u79 u80 u81 u82 u83 u84 u85 u86 u87 u88 u89 u90 u91 u92 u93 u94 u95 u96 u97 u98 u99 u100 u101 u102 u103 u104 u105 u106 u107 u108 u109 u110 u111 u112 u113 u114 u115 u116 u117 u118 u119 u120 u121 u122 u123 u124 u125 u126 u127 u128 u129 u130 u131 u132 u133 u134 u135 u136 u137 u138 u139 u140 u141 u142 u143 u144 u145 u146 u147 u148 u149 u150 u151 u152 u153 u154 u155 u156 u157 u158 u159 u160 u161 u162 u163 u164 u165 u166 u167 u168 u169 u170 u171 u172 u173 u174 u175 u176 u177 u178 u179 u180 u181 u182 u183 u184 u185 u186 u187 u188 u189 u190 u191 u192 u193 u194 u195 u196 u197 u198 u199 u200 u201 u202 u203 u204 u205 u206 u207 u208 u209 u210 u211 u212 u213 u214 u215 u216 u217 u218 u219 u220 u221 u222 u223 u224 u225 u226 u227 u228 u229 u230 u231 u232 u233 u234 u235 u236 u237 u238 u239 u240 u241 u242 u243 u244 u245 u246 u247 u248 u249 u250 u251 u252 u253 u254 u255 u256 u257 u258 u259 u260 u261 u262 u263 u264 u265 u266 u267 u268 u269 u270 u271 u272 u273 u274 u275 u276 u277 u278 u279 : Value} (hLt : L + 1 = t.length) (hL1 : 1 ≤ L) (hat : t.getD L 0 = 58) (hi : i + 2 ≤ 16) :
    Code.wp Tryd.prog rest1c Q ⟨#[.string z0, u1, .pointer (some ⟨w.heap.size, 0, none⟩), .nilIface, .string (ba t), .string zz, .int .i64 (i : Int), .pointer (some ⟨w.heap.size + 1, 0, none⟩), .int .i64 E, .int .i64 (L : Int), .int .u32 a, u11, u12, u13, u14, u15, u16, u17, u18, u19, u20, u21, u22, u23, u24, u25, u26, u27, u28, u29, u30, u31, u32, u33, u34, u35, u36, u37, u38, u39, u40, u41, u42, u43, u44, u45, u46, u47, u48, u49, u50, u51, u52, u53, u54, u55, u56, u57, u58, u59, u60, u61, u62, u63, u64, u65, u66, u67, u68, u69, u70, u71, u72, u73, u74, u75, u76, u77, u78, u79, u80, u81, u82, u83, u84, u85, u86, u87, u88, u89, u90, u91, u92, u93, u94, u95, u96, u97, u98, u99, u100, u101, u102, u103, u104, u105, u106, u107, u108, u109, u110, u111, u112, u113, u114, u115, u116, u117, u118, u119, u120, u121, u122, u123, u124, u125, u126, u127, u128, u129, u130, u131, u132, u133, u134, u135, u136, u137, u138, u139, u140, u141, u142, u143, u144, u145, u146, u147, u148, u149, u150, u151, u152, u153, u154, u155, u156, u157, u158, u159, u160, u161, u162, u163, u164, u165, u166, u167, u168, u169, u170, u171, u172, u173, u174, u175, u176, u177, u178, u179, u180, u181, u182, u183, u184, u185, u186, u187, u188, u189, u190, u191, u192, u193, u194, u195, u196, u197, u198, u199, u200, u201, u202, u203, u204, u205, u206, u207, u208, u209, u210, u211, u212, u213, u214, u215, u216, u217, u218, u219, u220, u221, u222, u223, u224, u225, u226, u227, u228, u229, u230, u231, u232, u233, u234, u235, u236, u237, u238, u239, u240, u241, u242, u243, u244, u245, u246, u247, u248, u249, u250, u251, u252, u253, u254, u255, u256, u257, u258, u259, u260, u261, u262, u263, u264, u265, u266, u267, u268, u269, u270, u271, u272, u273, u274, u275, u276, u277, u278, u279], []⟩ wr := by
  have HRt := Lib.hid hRt
  have HBt := Lib.hid hBt
  have hl0 := blk?_lt k0
  have hl1 := blk?_lt k1
  have hst := ba_size t
  have hsm : (((ba t).size : Nat) : Int) ≤ 1048576 := by rw [hst]; omega
  have hi0 : (0 : Int) ≤ (i : Int) := by omega
  have hL0 : (0 : Int) ≤ (L : Int) := by omega
  clear hRt hBt
  conv => arg 2; whnf
  have hLn : (L : Int) < (((ba t).size : Nat) : Int) := by omega
  have hLm : L < (ba t).size := by omega
  have hcv := ba_get t HBt.out L hLm
  have hLs' : (L : Int) ≤ (((ba t).size : Nat) : Int) := by omega
  have hLz : ((L : Int) == 0) = false := beq_eq_false_iff_ne.2 (by omega)
  have hx1 : (ba t).extract L (ba t).size = ba (t.drop L) := ba_drop t L (by omega)
  have hB1 : By (t.drop L) := By_drop HBt.out L
  have hS1 := ba_size (t.drop L)
  have hT1 : (t.drop L).length = t.length - L := List.length_drop
  obtain ⟨t1, ht1⟩ : ∃ t1 : List Int, t1 = t.drop L := ⟨_, rfl⟩
  have hg0 : t.getD L 0 = t1.getD 0 0 := by rw [ht1, ← getD_drop, Nat.add_zero]
  rw [← ht1] at hx1 hB1 hS1 hT1
  have p0 : 0 < (ba t1).size := by omega
  have p1 : (0 : Int) < (((ba t1).size : Nat) : Int) := by omega
  have p2 : (1 : Int) ≤ (((ba t1).size : Nat) : Int) := by omega
  have p3 : ((((ba t1).size : Nat) : Int) == 0) = false := beq_eq_false_iff_ne.2 (by omega)
  have c1' := ba_get t1 hB1 0 p0
  have hu1 : wr.cell? ⟨w.heap.size + 1, i, none⟩ = some (.int .u8 (f i)) := by rw [blk?_cell k1]; exact arr16_byte f i (by omega)
  have hu2 : wr.frozen? ⟨w.heap.size + 1, i, none⟩ = false := blk?_frozen k1 _
  have hk2 : ∀ v : Int, blk? (wr.setCell ⟨w.heap.size + 1, i, none⟩ (.int .u8 v)) (w.heap.size + 1) = some (arr16 (upd f i v)) := fun v => by rw [blk?_setSame, k1, Option.map_some, arr16_set _ _ _ (by omega)]
  have hu3 : ∀ v : Int, (wr.setCell ⟨w.heap.size + 1, i, none⟩ (.int .u8 v)).cell? ⟨w.heap.size + 1, i + 1, none⟩ = some (.int .u8 (upd f i v (i + 1))) := fun v => by rw [blk?_cell (hk2 v)]; exact arr16_byte _ (i + 1) (by omega)
  have hu4 : ∀ v : Int, (wr.setCell ⟨w.heap.size + 1, i, none⟩ (.int .u8 v)).frozen? ⟨w.heap.size + 1, i + 1, none⟩ = false := fun v => blk?_frozen (hk2 v) _
  have hi1 : (i : Int) < 16 := by omega
  have HI2 := Lib.hid (show (i : Int) + 1 < 16 by omega)
  have hn1 : i + 1 < 16 := by omega
  rw [← hg0, hat] at c1'
  rw [hat] at hcv
  have p4 : ((((ba t1).size : Nat) : Int) == 1) = true := beq_iff_eq.2 (by omega)
  clear hst hS1 hT1 ht1 hg0 hLt hL1 hB1 hat
  go_upto_region 48 with fail
  have hi2 := HI2.out
  go_upto_region 51 with fail
  obtain ⟨wn, hwn⟩ : ∃ y : World, y = (wr.setCell ⟨w.heap.size + 1, i, none⟩ (.int .u8 (a / 256))).setCell ⟨w.heap.size + 1, i + 1, none⟩ (.int .u8 (a % 256)) := ⟨_, rfl⟩
  have n1 : blk? wn (w.heap.size + 1) = some (arr16 (put2 f i a)) := by rw [hwn, blk?_setSame, hk2, Option.map_some, arr16_set _ _ _ (by omega)]; rfl
  have n0 : blk? wn w.heap.size = some #[.int .u64 0, .int .u64 0, .pointer none] := by rw [hwn, blk?_setLt _ _ _ _ _ (by omega), blk?_setLt _ _ _ _ _ (by omega)]; exact k0
  have hBn : Below w.heap.size w wn := by rw [hwn]; exact (by repeat' (first | (with_reducible exact Below.refl _ _) | (with_reducible assumption) | (with_reducible refine Below.alloc ?_ ?_ _) | (with_reducible refine Below.drew ?_) | (with_reducible refine below_drewN ?_ _) | (with_reducible refine Below.setCell ?_ ?_ _) | (with_reducible refine below_setRow' ?_ ?_ _) | go_size))
  have m0 := blk?_lt n0
  have m1 := blk?_lt n1
  rw [← hwn]
  clear hwn hu1 hu2 hu3 hu4 hk2 hi2 hn1 k0 k1 hBw hl0 hl1
  go_wp2
  exact HRt.out _ _ rfl rfl ⟨_, rfl⟩ (by go_simp) (by repeat' (first | (with_reducible exact Below.refl _ _) | (with_reducible assumption) | (with_reducible refine Below.alloc ?_ ?_ _) | (with_reducible refine Below.drew ?_) | (with_reducible refine below_drewN ?_ _) | (with_reducible refine Below.setCell ?_ ?_ _) | (with_reducible refine below_setRow' ?_ ?_ _) | go_size))
set_option maxHeartbeats 8000000 in
set_option maxRecDepth 100000 in
theorem rej_twice (w wr : World) (Q : Exit → Act → World → Prop) (hRt : Rt w Q) (z0 zz : ByteArray) (t : List Int) (hBt : By t) (ht : t.length ≤ 1048576) (L i : Nat) (a E : Int) (ha0 : 0 ≤ a) (ha1 : a < 65536) (f : Nat → Int) (k0 : blk? wr w.heap.size = some #[.int .u64 0, .int .u64 0, .pointer none]) (k1 : blk? wr (w.heap.size + 1) = some (arr16 f)) (hBw : Below w.heap.size w wr) {u1 u11 u12 u13 u14 u15 u16 u17 u18 u19 u20 u21 u22 u23 u24 u25 u26 u27 u28 u29 u30 u31 u32 u33 u34 u35 u36 u37 u38 u39 u40 u41 u42 u43 u44 u45 u46 u47 u48 u49 u50 u51 u52 u53 u54 u55 u56 u57 u58 u59 u60 u61 u62 u63 u64 u65 u66 u67 u68 u69 u70 u71 u72 u73 u74 u75 u76 u77 u78 u79 u80 u81 u82 u83 u84 u85 u86 u87 u88 u89 u90 u91 u92 u93 u94 u95 u96 u97 u98 u99 u100 u101 u102 u103 u104 u105 u106 u107 u108 u109 u110 u111 u112 u113 u114 u115 u116 u117 u118 u119 u120 u121 u122 u123 u124 u125 u126 u127 u128 u129 u130 u131 u132 u133 u134 u135 u136 u137 u138 u139 u140 u141 u142 u143 u144 u145 u146 u147 u148 u149 u150 u151 u152 u153 u154 u155 u156 u157 u158 u159 u160 u161 u162 u163 u164 u165 u166 u167 u168 u169 u170 u171 u172 u173 u174 u175 u176 u177 u178 u179 u180 u181 u182 u183 u184 u185 u186 u187 u188 u189 u190 u191 u192 u193 u194 u195 u196 u197 u198 u199 u200 u201 u202 u203 u204 u205 u206 u207 u208 u209 u210 u211 u212 u213 u214 u215 u216 u217 u218 u219 u220 u221 u222 u223 u224 u225 u226 u227 u228 u229 u230 u231 u232 u233 u234 u235 u236 u237 u238 u239 u240 u241 u242 u243 u244 u245 u246 u247 u248 u249 u250 u251 u252 u253 u254 u255 u256 u257 u258 u259 u260 u261 u262 u263 u264 u265 u266 u267 u268 u269 u270 u271 u272 u273 u274 u275 u276 u277 u278 u279 : Value} (hLt : L + 1 < t.length) (hL1 : 1 ≤ L) (hat : t.getD L 0 = 58) (hat2 : t.getD (L + 1) 0 = 58) (hE : 0 ≤ E) (hi : i + 2 ≤ 16) :
    Code.wp Tryd.prog rest1c Q ⟨#[.string z0, u1, .pointer (some ⟨w.heap.size, 0, none⟩), .nilIface, .string (ba t), .string zz, .int .i64 (i : Int), .pointer (some ⟨w.heap.size + 1, 0, none⟩), .int .i64 E, .int .i64 (L : Int), .int .u32 a, u11, u12, u13, u14, u15, u16, u17, u18, u19, u20, u21, u22, u23, u24, u25, u26, u27, u28, u29, u30, u31, u32, u33, u34, u35, u36, u37, u38, u39, u40, u41, u42, u43, u44, u45, u46, u47, u48, u49, u50, u51, u52, u53, u54, u55, u56, u57, u58, u59, u60, u61, u62, u63, u64, u65, u66, u67, u68, u69, u70, u71, u72, u73, u74, u75, u76, u77, u78, u79, u80, u81, u82, u83, u84, u85, u86, u87, u88, u89, u90, u91, u92, u93, u94, u95, u96, u97, u98, u99, u100, u101, u102, u103, u104, u105, u106, u107, u108, u109, u110, u111, u112, u113, u114, u115, u116, u117, u118, u119, u120, u121, u122, u123, u124, u125, u126, u127, u128, u129, u130, u131, u132, u133, u134, u135, u136, u137, u138, u139, u140, u141, u142, u143, u144, u145, u146, u147, u148, u149, u150, u151, u152, u153, u154, u155, u156, u157, u158, u159, u160, u161, u162, u163, u164, u165, u166, u167, u168, u169, u170, u171, u172, u173, u174, u175, u176, u177, u178, u179, u180, u181, u182, u183, u184, u185, u186, u187, u188, u189, u190, u191, u192, u193, u194, u195, u196, u197, u198, u199, u200, u201, u202, u203, u204, u205, u206, u207, u208, u209, u210, u211, u212, u213, u214, u215, u216, u217, u218, u219, u220, u221, u222, u223, u224, u225, u226, u227, u228, u229, u230, u231, u232, u233, u234, u235, u236, u237, u238, u239, u240, u241, u242, u243, u244, u245, u246, u247, u248, u249, u250, u251, u252, u253, u254, u255, u256, u257, u258, u259, u260, u261, u262, u263, u264, u265, u266, u267, u268, u269, u270, u271, u272, u273, u274, u275, u276, u277, u278, u279], []⟩ wr := by
  have HRt := Lib.hid hRt
  have HBt := Lib.hid hBt
  have hl0 := blk?_lt k0
  have hl1 := blk?_lt k1
  have hst := ba_size t
  have hsm : (((ba t).size : Nat) : Int) ≤ 1048576 := by rw [hst]; omega
  have hi0 : (0 : Int) ≤ (i : Int) := by omega
  have hL0 : (0 : Int) ≤ (L : Int) := by omega
  clear hRt hBt
  conv => arg 2; whnf
  have hLn : (L : Int) < (((ba t).size : Nat) : Int) := by omega
  have hLm : L < (ba t).size := by omega
  have hcv := ba_get t HBt.out L hLm
  have hLs' : (L : Int) ≤ (((ba t).size : Nat) : Int) := by omega
  have hLz : ((L : Int) == 0) = false := beq_eq_false_iff_ne.2 (by omega)
  have hx1 : (ba t).extract L (ba t).size = ba (t.drop L) := ba_drop t L (by omega)
  have hB1 : By (t.drop L) := By_drop HBt.out L
  have hS1 := ba_size (t.drop L)
  have hT1 : (t.drop L).length = t.length - L := List.length_drop
  obtain ⟨t1, ht1⟩ : ∃ t1 : List Int, t1 = t.drop L := ⟨_, rfl⟩
  have hg0 : t.getD L 0 = t1.getD 0 0 := by rw [ht1, ← getD_drop, Nat.add_zero]
  rw [← ht1] at hx1 hB1 hS1 hT1
  have p0 : 0 < (ba t1).size := by omega
  have p1 : (0 : Int) < (((ba t1).size : Nat) : Int) := by omega
  have p2 : (1 : Int) ≤ (((ba t1).size : Nat) : Int) := by omega
  have p3 : ((((ba t1).size : Nat) : Int) == 0) = false := beq_eq_false_iff_ne.2 (by omega)
  have c1' := ba_get t1 hB1 0 p0
  have hu1 : wr.cell? ⟨w.heap.size + 1, i, none⟩ = some (.int .u8 (f i)) := by rw [blk?_cell k1]; exact arr16_byte f i (by omega)
  have hu2 : wr.frozen? ⟨w.heap.size + 1, i, none⟩ = false := blk?_frozen k1 _
  have hk2 : ∀ v : Int, blk? (wr.setCell ⟨w.heap.size + 1, i, none⟩ (.int .u8 v)) (w.heap.size + 1) = some (arr16 (upd f i v)) := fun v => by rw [blk?_setSame, k1, Option.map_some, arr16_set _ _ _ (by omega)]
  have hu3 : ∀ v : Int, (wr.setCell ⟨w.heap.size + 1, i, none⟩ (.int .u8 v)).cell? ⟨w.heap.size + 1, i + 1, none⟩ = some (.int .u8 (upd f i v (i + 1))) := fun v => by rw [blk?_cell (hk2 v)]; exact arr16_byte _ (i + 1) (by omega)
  have hu4 : ∀ v : Int, (wr.setCell ⟨w.heap.size + 1, i, none⟩ (.int .u8 v)).frozen? ⟨w.heap.size + 1, i + 1, none⟩ = false := fun v => blk?_frozen (hk2 v) _
  have hi1 : (i : Int) < 16 := by omega
  have HI2 := Lib.hid (show (i : Int) + 1 < 16 by omega)
  have hn1 : i + 1 < 16 := by omega
  rw [← hg0, hat] at c1'
  rw [hat] at hcv
  have p4 : ((((ba t1).size : Nat) : Int) == 1) = false := beq_eq_false_iff_ne.2 (by omega)
  obtain ⟨t2, ht2⟩ : ∃ t2 : List Int, t2 = t1.drop 1 := ⟨_, rfl⟩
  have hx2 : (ba t1).extract 1 (ba t1).size = ba t2 := by rw [ht2]; exact ba_drop t1 1 (by omega)
  have hS2 := ba_size t2
  have hT2 : t2.length = t1.length - 1 := by rw [ht2]; exact List.length_drop
  have hB2 : By t2 := by rw [ht2]; exact By_drop hB1 1
  have r0 : 0 < (ba t2).size := by omega
  have r1 : (0 : Int) < (((ba t2).size : Nat) : Int) := by omega
  have c2' := ba_get t2 hB2 0 r0
  rw [show t2.getD 0 0 = 58 by rw [ht2, ht1, List.drop_drop, ← getD_drop, Nat.add_zero]; exact hat2] at c2'
  clear hst hS1 hT1 ht1 hg0 hLt hL1 hB1 hat hat2 hS2 hT2 ht2 hB2
  go_upto_region 48 with fail
  have hi2 := HI2.out
  go_upto_region 51 with fail
  obtain ⟨wn, hwn⟩ : ∃ y : World, y = (wr.setCell ⟨w.heap.size + 1, i, none⟩ (.int .u8 (a / 256))).setCell ⟨w.heap.size + 1, i + 1, none⟩ (.int .u8 (a % 256)) := ⟨_, rfl⟩
  have n1 : blk? wn (w.heap.size + 1) = some (arr16 (put2 f i a)) := by rw [hwn, blk?_setSame, hk2, Option.map_some, arr16_set _ _ _ (by omega)]; rfl
  have n0 : blk? wn w.heap.size = some #[.int .u64 0, .int .u64 0, .pointer none] := by rw [hwn, blk?_setLt _ _ _ _ _ (by omega), blk?_setLt _ _ _ _ _ (by omega)]; exact k0
  have hBn : Below w.heap.size w wn := by rw [hwn]; exact (by repeat' (first | (with_reducible exact Below.refl _ _) | (with_reducible assumption) | (with_reducible refine Below.alloc ?_ ?_ _) | (with_reducible refine Below.drew ?_) | (with_reducible refine below_drewN ?_ _) | (with_reducible refine Below.setCell ?_ ?_ _) | (with_reducible refine below_setRow' ?_ ?_ _) | go_size))
  have m0 := blk?_lt n0
  have m1 := blk?_lt n1
  rw [← hwn]
  clear hwn hu1 hu2 hu3 hu4 hk2 hi2 hn1 k0 k1 hBw hl0 hl1
  go_wp2
  exact HRt.out _ _ rfl rfl ⟨_, rfl⟩ (by go_simp) (by repeat' (first | (with_reducible exact Below.refl _ _) | (with_reducible assumption) | (with_reducible refine Below.alloc ?_ ?_ _) | (with_reducible refine Below.drew ?_) | (with_reducible refine below_drewN ?_ _) | (with_reducible refine Below.setCell ?_ ?_ _) | (with_reducible refine below_setRow' ?_ ?_ _) | go_size))
end Go.Proofs.YtmlkcgacneealaaDoor
set_option linter.unusedVariables false
set_option linter.unusedSimpArgs false
namespace Go.Proofs.YtmlkcgacneealaaDoor
open Go.RowKit

/-- The whole text z0, its zone zz (empty: there is no percent sign), and what stands ahead of the percent sign. -/
def Inn (z0 zz : ByteArray) (T0 : List Int) : Prop := T0.length ≤ z0.size ∧ (∀ k m, m ≤ T0.length → z0.extract k m = ba ((T0.take m).drop k)) ∧ z0.size ≤ 1048576 ∧ ((zz.size = 0 ∧ z0.size = T0.length) ∨ (0 < zz.size ∧ z0.size = T0.length + (zz.size + 1)))
set_option maxHeartbeats 8000000 in
set_option maxRecDepth 100000 in
theorem rej_dots (w wr : World) (Q : Exit → Act → World → Prop) (hRt : Rt w Q) (z0 zz : ByteArray) (t : List Int) (hBt : By t) (ht : t.length ≤ 1048576) (L i : Nat) (a E : Int) (ha0 : 0 ≤ a) (ha1 : a < 65536) (f : Nat → Int) (k0 : blk? wr w.heap.size = some #[.int .u64 0, .int .u64 0, .pointer none]) (k1 : blk? wr (w.heap.size + 1) = some (arr16 f)) (hBw : Below w.heap.size w wr) {u1 u11 u12 u13 u14 u15 u16 u17 u18 u19 u20 u21 u22 u23 u24 u25 u26 u27 u28 u29 u30 u31 u32 u33 u34 u35 u36 u37 u38 u39 u40 u41 u42 u43 u44 u45 u46 u47 u48 u49 u50 u51 u52 u53 u54 u55 u56 u57 u58 u59 u60 u61 u62 u63 u64 u65 u66 u67 u68 u69 u70 u71 u72 u73 u74 u75 u76 u77 u78 u79 u80 u81 u82 u83 u84 u85 u86 u87 u88 u89 u90 u91 u92 u93 u94 u95 u96 u97 u98 u99 u100 u101 u102 u103 u104 u105 u106 u107 u108 u109 u110 u111 u112 u113 u114 u115 u116 u117 u118 u119 u120 u121 u122 u123 u124 u125 u126 u127 u128 u129 u130 u131 u132 u133 u134 u135 u136 u137 u138 u139 u140 u141 u142 u143 u144 u145 u146 u147 u148 u149 u150 u151 u152 u153 u154 u155 u156 u157 u158 u159 u160 u161 u162 u163 u164 u165 u166 u167 u168 u169 u170 u171 u172 u173 u174 u175 u176 u177 u178 u179 u180 u181 u182 u183 u184 u185 u186 u187 u188 u189 u190 u191 u192 u193 u194 u195 u196 u197 u198 u199 u200 u201 u202 u203 u204 u205 u206 u207 u208 u209 u210 u211 u212 u213 u214 u215 u216 u217 u218 u219 u220 u221 u222 u223 u224 u225 u226 u227 u228 u229 u230 u231 u232 u233 u234 u235 u236 u237 u238 u239 u240 u241 u242 u243 u244 u245 u246 u247 u248 u249 u250 u251 u252 u253 u254 u255 u256 u257 u258 u259 u260 u261 u262 u263 u264 u265 u266 u267 u268 u269 u270 u271 u272 u273 u274 u275 u276 u277 u278 u279 : Value} (hLt : L < t.length) (hL1 : 1 ≤ L) (hat : t.getD L 0 = 46) (hEi : E < 0 → i = 12) (hi : i + 4 ≤ 16) (T0 : List Int) (hSuf : Suf T0 t) (hIn : Inn z0 zz T0) (hq : q4 t = none) :
    Code.wp Tryd.prog rest1c Q ⟨#[.string z0, u1, .pointer (some ⟨w.heap.size, 0, none⟩), .nilIface, .string (ba t), .string zz, .int .i64 (i : Int), .pointer (some ⟨w.heap.size + 1, 0, none⟩), .int .i64 E, .int .i64 (L : Int), .int .u32 a, u11, u12, u13, u14, u15, u16, u17, u18, u19, u20, u21, u22, u23, u24, u25, u26, u27, u28, u29, u30, u31, u32, u33, u34, u35, u36, u37, u38, u39, u40, u41, u42, u43, u44, u45, u46, u47, u48, u49, u50, u51, u52, u53, u54, u55, u56, u57, u58, u59, u60, u61, u62, u63, u64, u65, u66, u67, u68, u69, u70, u71, u72, u73, u74, u75, u76, u77, u78, u79, u80, u81, u82, u83, u84, u85, u86, u87, u88, u89, u90, u91, u92, u93, u94, u95, u96, u97, u98, u99, u100, u101, u102, u103, u104, u105, u106, u107, u108, u109, u110, u111, u112, u113, u114, u115, u116, u117, u118, u119, u120, u121, u122, u123, u124, u125, u126, u127, u128, u129, u130, u131, u132, u133, u134, u135, u136, u137, u138, u139, u140, u141, u142, u143, u144, u145, u146, u147, u148, u149, u150, u151, u152, u153, u154, u155, u156, u157, u158, u159, u160, u161, u162, u163, u164, u165, u166, u167, u168, u169, u170, u171, u172, u173, u174, u175, u176, u177, u178, u179, u180, u181, u182, u183, u184, u185, u186, u187, u188, u189, u190, u191, u192, u193, u194, u195, u196, u197, u198, u199, u200, u201, u202, u203, u204, u205, u206, u207, u208, u209, u210, u211, u212, u213, u214, u215, u216, u217, u218, u219, u220, u221, u222, u223, u224, u225, u226, u227, u228, u229, u230, u231, u232, u233, u234, u235, u236, u237, u238, u239, u240, u241, u242, u243, u244, u245, u246, u247, u248, u249, u250, u251, u252, u253, u254, u255, u256, u257, u258, u259, u260, u261, u262, u263, u264, u265, u266, u267, u268, u269, u270, u271, u272, u273, u274, u275, u276, u277, u278, u279], []⟩ wr := by
  have HRt := Lib.hid hRt
  have HBt := Lib.hid hBt
  have hl0 := blk?_lt k0
  have hl1 := blk?_lt k1
  have hst := ba_size t
  have hsm : (((ba t).size : Nat) : Int) ≤ 1048576 := by rw [hst]; omega
  have hi0 : (0 : Int) ≤ (i : Int) := by omega
  have hL0 : (0 : Int) ≤ (L : Int) := by omega
  clear hRt hBt
  conv => arg 2; whnf
  have hLn : (L : Int) < (((ba t).size : Nat) : Int) := by omega
  have hLm : L < (ba t).size := by omega
  have hcv := ba_get t HBt.out L hLm
  have hLs' : (L : Int) ≤ (((ba t).size : Nat) : Int) := by omega
  have hLz : ((L : Int) == 0) = false := beq_eq_false_iff_ne.2 (by omega)
  rw [hat] at hcv
  obtain ⟨in1, in2, in3, in4⟩ := hIn
  obtain ⟨K, hK⟩ : ∃ K : Nat, K = T0.length - t.length := ⟨_, rfl⟩
  obtain ⟨M, hM⟩ : ∃ M : Nat, M = T0.length := ⟨_, rfl⟩
  have hz : z0.extract K M = ba t := by rw [in2 K M (by omega), hM, List.take_length, hK, hSuf.2]
  have hMK : (M : Int) - (((ba t).size : Nat) : Int) = (K : Int) := by have := hSuf.1; omega
  have hcall := fun (wq : World) (c : Nat) (hc : 4 ≤ c) (hb : blk? wq (w.heap.size + 1) = some (arr16 f)) => prs4e t HBt.out hq ht z0 K M (by omega) (by omega) hz (by omega) (w.heap.size + 1) i c hc (arr16 f) (U8s_arr16 f i hi) wq hb
  have HCall := Lib.hid hcall
  have hi2 : ¬ (16 < (i : Int) + 4) := by omega
  have hi3 : (i : Int) + 4 ≤ 16 := by omega
  have hi1 : (i : Int) < 16 := by omega
  have vK := wr64 (K : Int) (by omega) (by omega)
  have vM := wr64 (M : Int) (by omega) (by omega)
  have hsl := sl23 (w.heap.size + 1) i (i + 4) (i : Int) ((i : Int) + 4) rfl (by omega) (by omega) hi
  rw [show i + 4 - i = 4 by omega] at hsl
  have hc4 : 4 ≤ 16 - i := by omega
  have hQ1 : w.heap.size < wr.heap.size + 1 := by omega
  obtain ⟨NZ, hNZ⟩ : ∃ n : Nat, n = zz.size := ⟨_, rfl⟩
  obtain ⟨N0, hN0⟩ : ∃ n : Nat, n = z0.size := ⟨_, rfl⟩
  have g1 : zz.size = NZ := hNZ.symm
  have g2 : z0.size = N0 := hN0.symm
  by_cases hE : E < 0
  · have hi12 : ((i : Int) != 12) = false := by rw [hEi hE]; rfl
    rcases in4 with ⟨b1, b2⟩ | ⟨b1, b2⟩
    · have g3 : ¬ ((0 : Int) < (NZ : Int)) := by omega
      have g4 : (N0 : Int) = (M : Int) := by omega
      clear hst hat hLt hi hL1 hEi hSuf in1 in2 in3 hK hM hz hcall hq b1 b2 hNZ hN0
      go_wp2_with (first
        | (go_at_call 173; (try simp only [vK, vM]); (with_reducible refine (HCall.out _ _ ?_ ?_).mono ?_); omega; go_simp; rintro e1 w1 ⟨⟨pe, rfl⟩, hgr⟩; have hk1 := blk?_gx hgr; have hB1 := GX.below (B := w.heap.size) (a := w) (by repeat' (first | (with_reducible exact Below.refl _ _) | (with_reducible assumption) | (with_reducible refine Below.alloc ?_ ?_ _) | (with_reducible refine Below.drew ?_) | (with_reducible refine below_drewN ?_ _) | (with_reducible refine Below.setCell ?_ ?_ _) | (with_reducible refine below_setRow' ?_ ?_ _) | go_size)) hgr (by omega) (by omega); have hL9 : w.heap.size + 1 < w1.heap.size := (by have hS1 := hgr.size; omega); have hL8 : w.heap.size < w1.heap.size := (by omega); clear hgr))
      exact HRt.out _ _ rfl rfl ⟨_, rfl⟩ (by go_simp) (by repeat' (first | (with_reducible exact Below.refl _ _) | (with_reducible assumption) | (with_reducible refine Below.alloc ?_ ?_ _) | (with_reducible refine Below.drew ?_) | (with_reducible refine below_drewN ?_ _) | (with_reducible refine Below.setCell ?_ ?_ _) | (with_reducible refine below_setRow' ?_ ?_ _) | go_size))
    · have g3 : (0 : Int) < (NZ : Int) := by omega
      obtain ⟨N1, hN1⟩ : ∃ n : Nat, n = NZ + 1 := ⟨_, rfl⟩
      have g5 : (NZ : Int) + 1 = (N1 : Int) := by omega
      have g6 : (N0 : Int) - (N1 : Int) = (M : Int) := by omega
      have v1 := wr64 (N1 : Int) (by omega) (by omega)
      clear hst hat hLt hi hL1 hEi hSuf in1 in2 in3 hK hM hz hcall hq b1 b2 hNZ hN0 hN1
      go_wp2_with (first
        | (go_at_call 173; (try simp only [vK, vM]); (with_reducible refine (HCall.out _ _ ?_ ?_).mono ?_); omega; go_simp; rintro e1 w1 ⟨⟨pe, rfl⟩, hgr⟩; have hk1 := blk?_gx hgr; have hB1 := GX.below (B := w.heap.size) (a := w) (by repeat' (first | (with_reducible exact Below.refl _ _) | (with_reducible assumption) | (with_reducible refine Below.alloc ?_ ?_ _) | (with_reducible refine Below.drew ?_) | (with_reducible refine below_drewN ?_ _) | (with_reducible refine Below.setCell ?_ ?_ _) | (with_reducible refine below_setRow' ?_ ?_ _) | go_size)) hgr (by omega) (by omega); have hL9 : w.heap.size + 1 < w1.heap.size := (by have hS1 := hgr.size; omega); have hL8 : w.heap.size < w1.heap.size := (by omega); clear hgr))
      exact HRt.out _ _ rfl rfl ⟨_, rfl⟩ (by go_simp) (by repeat' (first | (with_reducible exact Below.refl _ _) | (with_reducible assumption) | (with_reducible refine Below.alloc ?_ ?_ _) | (with_reducible refine Below.drew ?_) | (with_reducible refine below_drewN ?_ _) | (with_reducible refine Below.setCell ?_ ?_ _) | (with_reducible refine below_setRow' ?_ ?_ _) | go_size))
  · rcases in4 with ⟨b1, b2⟩ | ⟨b1, b2⟩
    · have g3 : ¬ ((0 : Int) < (NZ : Int)) := by omega
      have g4 : (N0 : Int) = (M : Int) := by omega
      clear hst hat hLt hi hL1 hEi hSuf in1 in2 in3 hK hM hz hcall hq b1 b2 hNZ hN0
      go_wp2_with (first
        | (go_at_call 173; (try simp only [vK, vM]); (with_reducible refine (HCall.out _ _ ?_ ?_).mono ?_); omega; go_simp; rintro e1 w1 ⟨⟨pe, rfl⟩, hgr⟩; have hk1 := blk?_gx hgr; have hB1 := GX.below (B := w.heap.size) (a := w) (by repeat' (first | (with_reducible exact Below.refl _ _) | (with_reducible assumption) | (with_reducible refine Below.alloc ?_ ?_ _) | (with_reducible refine Below.drew ?_) | (with_reducible refine below_drewN ?_ _) | (with_reducible refine Below.setCell ?_ ?_ _) | (with_reducible refine below_setRow' ?_ ?_ _) | go_size)) hgr (by omega) (by omega); have hL9 : w.heap.size + 1 < w1.heap.size := (by have hS1 := hgr.size; omega); have hL8 : w.heap.size < w1.heap.size := (by omega); clear hgr))
      exact HRt.out _ _ rfl rfl ⟨_, rfl⟩ (by go_simp) (by repeat' (first | (with_reducible exact Below.refl _ _) | (with_reducible assumption) | (with_reducible refine Below.alloc ?_ ?_ _) | (with_reducible refine Below.drew ?_) | (with_reducible refine below_drewN ?_ _) | (with_reducible refine Below.setCell ?_ ?_ _) | (with_reducible refine below_setRow' ?_ ?_ _) | go_size))
    · have g3 : (0 : Int) < (NZ : Int) := by omega
      obtain ⟨N1, hN1⟩ : ∃ n : Nat, n = NZ + 1 := ⟨_, rfl⟩
      have g5 : (NZ : Int) + 1 = (N1 : Int) := by omega
      have g6 : (N0 : Int) - (N1 : Int) = (M : Int) := by omega
      have v1 := wr64 (N1 : Int) (by omega) (by omega)
      clear hst hat hLt hi hL1 hEi hSuf in1 in2 in3 hK hM hz hcall hq b1 b2 hNZ hN0 hN1
      go_wp2_with (first
        | (go_at_call 173; (try simp only [vK, vM]); (with_reducible refine (HCall.out _ _ ?_ ?_).mono ?_); omega; go_simp; rintro e1 w1 ⟨⟨pe, rfl⟩, hgr⟩; have hk1 := blk?_gx hgr; have hB1 := GX.below (B := w.heap.size) (a := w) (by repeat' (first | (with_reducible exact Below.refl _ _) | (with_reducible assumption) | (with_reducible refine Below.alloc ?_ ?_ _) | (with_reducible refine Below.drew ?_) | (with_reducible refine below_drewN ?_ _) | (with_reducible refine Below.setCell ?_ ?_ _) | (with_reducible refine below_setRow' ?_ ?_ _) | go_size)) hgr (by omega) (by omega); have hL9 : w.heap.size + 1 < w1.heap.size := (by have hS1 := hgr.size; omega); have hL8 : w.heap.size < w1.heap.size := (by omega); clear hgr))
      exact HRt.out _ _ rfl rfl ⟨_, rfl⟩ (by go_simp) (by repeat' (first | (with_reducible exact Below.refl _ _) | (with_reducible assumption) | (with_reducible refine Below.alloc ?_ ?_ _) | (with_reducible refine Below.drew ?_) | (with_reducible refine below_drewN ?_ _) | (with_reducible refine Below.setCell ?_ ?_ _) | (with_reducible refine below_setRow' ?_ ?_ _) | go_size))
set_option maxHeartbeats 8000000 in
set_option maxRecDepth 100000 in
theorem rej_tail (w wr : World) (Q : Exit → Act → World → Prop) (hRt : Rt w Q) (z0 zz : ByteArray) (t : List Int) (ht : t.length ≤ 1048576) (i : Nat) (e : Option Nat) (f : Nat → Int) (hF : fin7 (some (t, i, e, f)) = none) (k0 : blk? wr w.heap.size = some #[.int .u64 0, .int .u64 0, .pointer none]) (hBw : Below w.heap.size w wr) {u1 u9 u10 u11 u12 u13 u14 u15 u16 u17 u18 u19 u20 u21 u22 u23 u24 u25 u26 u27 u28 u29 u30 u31 u32 u33 u34 u35 u36 u37 u38 u39 u40 u41 u42 u43 u44 u45 u46 u47 u48 u49 u50 u51 u52 u53 u54 u55 u56 u57 u58 u59 u60 u61 u62 u63 u64 u65 u66 u67 u68 u69 u70 u71 u72 u73 u74 u75 u76 u77 u78 u79 u80 u81 u82 u83 u84 u85 u86 u87 u88 u89 u90 u91 u92 u93 u94 u95 u96 u97 u98 u99 u100 u101 u102 u103 u104 u105 u106 u107 u108 u109 u110 u111 u112 u113 u114 u115 u116 u117 u118 u119 u120 u121 u122 u123 u124 u125 u126 u127 u128 u129 u130 u131 u132 u133 u134 u135 u136 u137 u138 u139 u140 u141 u142 u143 u144 u145 u146 u147 u148 u149 u150 u151 u152 u153 u154 u155 u156 u157 u158 u159 u160 u161 u162 u163 u164 u165 u166 u167 u168 u169 u170 u171 u172 u173 u174 u175 u176 u177 u178 u179 u180 u181 u182 u183 u184 u185 u186 u187 u188 u189 u190 u191 u192 u193 u194 u195 u196 u197 u198 u199 u200 u201 u202 u203 u204 u205 u206 u207 u208 u209 u210 u211 u212 u213 u214 u215 u216 u217 u218 u219 u220 u221 u222 u223 u224 u225 u226 u227 u228 u229 u230 u231 u232 u233 u234 u235 u236 u237 u238 u239 u240 u241 u242 u243 u244 u245 u246 u247 u248 u249 u250 u251 u252 u253 u254 u255 u256 u257 u258 u259 u260 u261 u262 u263 u264 u265 u266 u267 u268 u269 u270 u271 u272 u273 u274 u275 u276 u277 u278 u279 : Value} :
    Code.wp Tryd.prog tail6c Q ⟨#[.string z0, u1, .pointer (some ⟨w.heap.size, 0, none⟩), .nilIface, .string (ba t), .string zz, .int .i64 (i : Int), .pointer (some ⟨w.heap.size + 1, 0, none⟩), .int .i64 (ev e), u9, u10, u11, u12, u13, u14, u15, u16, u17, u18, u19, u20, u21, u22, u23, u24, u25, u26, u27, u28, u29, u30, u31, u32, u33, u34, u35, u36, u37, u38, u39, u40, u41, u42, u43, u44, u45, u46, u47, u48, u49, u50, u51, u52, u53, u54, u55, u56, u57, u58, u59, u60, u61, u62, u63, u64, u65, u66, u67, u68, u69, u70, u71, u72, u73, u74, u75, u76, u77, u78, u79, u80, u81, u82, u83, u84, u85, u86, u87, u88, u89, u90, u91, u92, u93, u94, u95, u96, u97, u98, u99, u100, u101, u102, u103, u104, u105, u106, u107, u108, u109, u110, u111, u112, u113, u114, u115, u116, u117, u118, u119, u120, u121, u122, u123, u124, u125, u126, u127, u128, u129, u130, u131, u132, u133, u134, u135, u136, u137, u138, u139, u140, u141, u142, u143, u144, u145, u146, u147, u148, u149, u150, u151, u152, u153, u154, u155, u156, u157, u158, u159, u160, u161, u162, u163, u164, u165, u166, u167, u168, u169, u170, u171, u172, u173, u174, u175, u176, u177, u178, u179, u180, u181, u182, u183, u184, u185, u186, u187, u188, u189, u190, u191, u192, u193, u194, u195, u196, u197, u198, u199, u200, u201, u202, u203, u204, u205, u206, u207, u208, u209, u210, u211, u212, u213, u214, u215, u216, u217, u218, u219, u220, u221, u222, u223, u224, u225, u226, u227, u228, u229, u230, u231, u232, u233, u234, u235, u236, u237, u238, u239, u240, u241, u242, u243, u244, u245, u246, u247, u248, u249, u250, u251, u252, u253, u254, u255, u256, u257, u258, u259, u260, u261, u262, u263, u264, u265, u266, u267, u268, u269, u270, u271, u272, u273, u274, u275, u276, u277, u278, u279], []⟩ wr := by
  have HRt := Lib.hid hRt
  have hl0 := blk?_lt k0
  have hst := ba_size t
  have hsm : (((ba t).size : Nat) : Int) ≤ 1048576 := by rw [hst]; omega
  have hi0 : (0 : Int) ≤ (i : Int) := by omega
  clear hRt
  conv => arg 2; whnf
  simp only [fin7] at hF
  by_cases c : t ≠ []
  · have hne : 0 < t.length := List.length_pos_iff.2 c
    have p4 : ((((ba t).size : Nat) : Int) == 0) = false := beq_eq_false_iff_ne.2 (by omega)
    have p3 : ((((ba t).size : Nat) : Int) != 0) = true := by rw [bne, p4]; rfl
    clear hF hst c hne
    go_wp2
    exact HRt.out _ _ rfl rfl ⟨_, rfl⟩ (by go_simp) (by repeat' (first | (with_reducible exact Below.refl _ _) | (with_reducible assumption) | (with_reducible refine Below.alloc ?_ ?_ _) | (with_reducible refine Below.drew ?_) | (with_reducible refine below_drewN ?_ _) | (with_reducible refine Below.setCell ?_ ?_ _) | (with_reducible refine below_setRow' ?_ ?_ _) | go_size))
  · rw [if_neg c] at hF
    have c' : t = [] := Decidable.not_not.1 c
    subst c'
    rw [show ba [] = ⟨#[]⟩ from rfl]
    clear c ht hst hsm
    by_cases ci : i < 16
    · rw [if_pos ci] at hF
      have hi1 : (i : Int) < 16 := by omega
      cases e with
      | some k => cases hF
      | none =>
        rw [show ev none = (-1 : Int) from rfl]
        clear hF ci
        go_wp2
        exact HRt.out _ _ rfl rfl ⟨_, rfl⟩ (by go_simp) (by repeat' (first | (with_reducible exact Below.refl _ _) | (with_reducible assumption) | (with_reducible refine Below.alloc ?_ ?_ _) | (with_reducible refine Below.drew ?_) | (with_reducible refine below_drewN ?_ _) | (with_reducible refine Below.setCell ?_ ?_ _) | (with_reducible refine below_setRow' ?_ ?_ _) | go_size))
    · rw [if_neg ci] at hF
      have hi1 : ¬ ((i : Int) < 16) := by omega
      cases e with
      | none => cases hF
      | some k =>
        rw [show ev (some k) = (k : Int) from rfl]
        have hk1 : (0 : Int) ≤ (k : Int) := by omega
        clear hF ci
        go_wp2
        exact HRt.out _ _ rfl rfl ⟨_, rfl⟩ (by go_simp) (by repeat' (first | (with_reducible exact Below.refl _ _) | (with_reducible assumption) | (with_reducible refine Below.alloc ?_ ?_ _) | (with_reducible refine Below.drew ?_) | (with_reducible refine below_drewN ?_ _) | (with_reducible refine Below.setCell ?_ ?_ _) | (with_reducible refine below_setRow' ?_ ?_ _) | go_size))
end Go.Proofs.YtmlkcgacneealaaDoor
set_option linter.unusedVariables false
set_option linter.unusedSimpArgs false
namespace Go.Proofs.YtmlkcgacneealaaDoor
open Go.RowKit

/-- One round of the reader where the end is an error: the ways. -/
theorem p7_step (n : Nat) (t : List Int) (i : Nat) (e : Option Nat) (f : Nat → Int) (h : fin7 (p7 (n + 1) t i e f) = none) :
    4 < hl t ∨ hl t = 0 ∨ (1 ≤ hl t ∧ hl t ≤ 4 ∧
    ((hl t < t.length ∧ t.getD (hl t) 0 = 46 ∧ e = none ∧ i ≠ 12)
    ∨ (hl t < t.length ∧ t.getD (hl t) 0 = 46 ∧ (e = none → i = 12) ∧ 16 < i + 4)
    ∨ (hl t < t.length ∧ t.getD (hl t) 0 = 46 ∧ (e = none → i = 12) ∧ i + 4 ≤ 16 ∧ q4 t = none)
    ∨ (hl t < t.length ∧ t.getD (hl t) 0 = 46 ∧ (e = none → i = 12) ∧ i + 4 ≤ 16 ∧ ∃ x : Nat → Int, (∀ p, p ≤ 3 → 0 ≤ x p ∧ x p < 256) ∧ t = tf x 0 3 ∧ fin7 (some ([], i + 4, e, put4 f i x)) = none)
    ∨ ((hl t < t.length → t.getD (hl t) 0 ≠ 46) ∧ (t.drop (hl t)).length = 0 ∧ fin7 (some ([], i + 2, e, put2 f i (ha t (hl t)))) = none)
    ∨ ((hl t < t.length → t.getD (hl t) 0 ≠ 46) ∧ hl t < t.length ∧ t.getD (hl t) 0 ≠ 58)
    ∨ ((hl t < t.length → t.getD (hl t) 0 ≠ 46) ∧ hl t + 1 = t.length ∧ t.getD (hl t) 0 = 58)
    ∨ ((hl t < t.length → t.getD (hl t) 0 ≠ 46) ∧ hl t + 1 < t.length ∧ t.getD (hl t) 0 = 58 ∧ t.getD (hl t + 1) 0 = 58 ∧ e ≠ none)
    ∨ ((hl t < t.length → t.getD (hl t) 0 ≠ 46) ∧ 1 < (t.drop (hl t)).length ∧ (t.drop (hl t)).getD 0 0 = 58 ∧ ((t.drop (hl t)).drop 1).getD 0 0 = 58 ∧ e = none ∧ (((t.drop (hl t)).drop 1).drop 1).length = 0 ∧ fin7 (some ([], i + 2, some (i + 2), put2 f i (ha t (hl t)))) = none)
    ∨ ((hl t < t.length → t.getD (hl t) 0 ≠ 46) ∧ 1 < (t.drop (hl t)).length ∧ (t.drop (hl t)).getD 0 0 = 58 ∧ ((t.drop (hl t)).drop 1).getD 0 0 = 58 ∧ e = none ∧ (((t.drop (hl t)).drop 1).drop 1).length ≠ 0 ∧ fin7 (p7 n (((t.drop (hl t)).drop 1).drop 1) (i + 2) (some (i + 2)) (put2 f i (ha t (hl t)))) = none)
    ∨ ((hl t < t.length → t.getD (hl t) 0 ≠ 46) ∧ 1 < (t.drop (hl t)).length ∧ (t.drop (hl t)).getD 0 0 = 58 ∧ ((t.drop (hl t)).drop 1).getD 0 0 ≠ 58 ∧ fin7 (p7 n ((t.drop (hl t)).drop 1) (i + 2) e (put2 f i (ha t (hl t)))) = none))) := by
  have hle := hl_le t
  have hld : (t.drop (hl t)).length = t.length - hl t := List.length_drop
  have g0 : (t.drop (hl t)).getD 0 0 = t.getD (hl t) 0 := by rw [← getD_drop, Nat.add_zero]
  have g1 : ((t.drop (hl t)).drop 1).getD 0 0 = t.getD (hl t + 1) 0 := by rw [List.drop_drop, ← getD_drop, Nat.add_zero]
  by_cases c1 : 4 < hl t
  · exact Or.inl c1
  by_cases c2 : hl t = 0
  · exact Or.inr (Or.inl c2)
  refine Or.inr (Or.inr ⟨by omega, by omega, ?_⟩)
  rw [p7, if_neg c1, if_neg c2] at h
  by_cases c3 : hl t < t.length ∧ t.getD (hl t) 0 = 46
  · rw [if_pos c3] at h
    by_cases c4 : e = none ∧ i ≠ 12
    · exact Or.inl ⟨c3.1, c3.2, c4.1, c4.2⟩
    rw [if_neg c4] at h
    have hc : e = none → i = 12 := fun he => by
      by_cases q : i = 12
      · exact q
      · exact absurd ⟨he, q⟩ c4
    by_cases c5 : 16 < i + 4
    · exact Or.inr (Or.inl ⟨c3.1, c3.2, hc, c5⟩)
    rw [if_neg c5] at h
    cases q : q4 t with
    | none => exact Or.inr (Or.inr (Or.inl ⟨c3.1, c3.2, hc, by omega, rfl⟩))
    | some x =>
      rw [q] at h
      obtain ⟨e1, e2⟩ := q4_text t x q
      exact Or.inr (Or.inr (Or.inr (Or.inl ⟨c3.1, c3.2, hc, by omega, x, e2, e1, h⟩)))
  rw [if_neg c3] at h
  have c3' : hl t < t.length → t.getD (hl t) 0 ≠ 46 := fun a b => c3 ⟨a, b⟩
  refine Or.inr (Or.inr (Or.inr (Or.inr ?_)))
  by_cases c6 : (t.drop (hl t)).length = 0
  · rw [if_pos c6] at h
    exact Or.inl ⟨c3', c6, h⟩
  rw [if_neg c6] at h
  by_cases c7 : (t.drop (hl t)).getD 0 0 ≠ 58
  · exact Or.inr (Or.inl ⟨c3', by omega, by rw [← g0]; exact c7⟩)
  rw [if_neg c7] at h
  have c7' : (t.drop (hl t)).getD 0 0 = 58 := Decidable.not_not.1 c7
  by_cases c8 : (t.drop (hl t)).length = 1
  · exact Or.inr (Or.inr (Or.inl ⟨c3', by omega, by rw [← g0]; exact c7'⟩))
  rw [if_neg c8] at h
  by_cases c9 : ((t.drop (hl t)).drop 1).getD 0 0 = 58
  · rw [if_pos c9] at h
    by_cases c10 : e ≠ none
    · exact Or.inr (Or.inr (Or.inr (Or.inl ⟨c3', by omega, by rw [← g0]; exact c7', by rw [← g1]; exact c9, c10⟩)))
    rw [if_neg c10] at h
    have c10' : e = none := Decidable.not_not.1 c10
    by_cases c11 : (((t.drop (hl t)).drop 1).drop 1).length = 0
    · rw [if_pos c11] at h
      exact Or.inr (Or.inr (Or.inr (Or.inr (Or.inl ⟨c3', by omega, c7', c9, c10', c11, h⟩))))
    · rw [if_neg c11] at h
      exact Or.inr (Or.inr (Or.inr (Or.inr (Or.inr (Or.inl ⟨c3', by omega, c7', c9, c10', c11, h⟩)))))
  · rw [if_neg c9] at h
    exact Or.inr (Or.inr (Or.inr (Or.inr (Or.inr (Or.inr ⟨c3', by omega, c7', c9, h⟩)))))
def blk2 : Code → Option Code
  | .seq (.block 2 c) _ => some (.block 2 c)
  | .seq _ b => blk2 b
  | _ => none
/-- The inner loop. -/
noncomputable def inn2c : Code := ((((Tryd.f160.body.bind oloop).bind inBlk).bind blk2).getD .skip)
set_option maxHeartbeats 8000000 in
set_option maxRecDepth 100000 in
theorem inn7 (w wr : World) (Q : Exit → Act → World → Prop) (hRt : Rt w Q) (z0 zz : ByteArray) (t : List Int) (hBt : By t) (ht : t.length ≤ 1048576) (i : Nat) (E : Int) (k0 : blk? wr w.heap.size = some #[.int .u64 0, .int .u64 0, .pointer none]) (hBw : Below w.heap.size w wr) {u1 u11 u12 u13 u14 u15 u16 u17 u18 u19 u20 u21 u22 u23 u24 u25 u26 u27 u28 u29 u30 u31 u32 u33 u34 u35 u36 u37 u38 u39 u40 u41 u42 u43 u44 u45 u46 u47 u48 u49 u50 u51 u52 u53 u54 u55 u56 u57 u58 u59 u60 u61 u62 u63 u64 u65 u66 u67 u68 u69 u70 u71 u72 u73 u74 u75 u76 u77 u78 u79 u80 u81 u82 u83 u84 u85 u86 u87 u88 u89 u90 u91 u92 u93 u94 u95 u96 u97 u98 u99 u100 u101 u102 u103 u104 u105 u106 u107 u108 u109 u110 u111 u112 u113 u114 u115 u116 u117 u118 u119 u120 u121 u122 u123 u124 u125 u126 u127 u128 u129 u130 u131 u132 u133 u134 u135 u136 u137 u138 u139 u140 u141 u142 u143 u144 u145 u146 u147 u148 u149 u150 u151 u152 u153 u154 u155 u156 u157 u158 u159 u160 u161 u162 u163 u164 u165 u166 u167 u168 u169 u170 u171 u172 u173 u174 u175 u176 u177 u178 u179 u180 u181 u182 u183 u184 u185 u186 u187 u188 u189 u190 u191 u192 u193 u194 u195 u196 u197 u198 u199 u200 u201 u202 u203 u204 u205 u206 u207 u208 u209 u210 u211 u212 u213 u214 u215 u216 u217 u218 u219 u220 u221 u222 u223 u224 u225 u226 u227 u228 u229 u230 u231 u232 u233 u234 u235 u236 u237 u238 u239 u240 u241 u242 u243 u244 u245 u246 u247 u248 u249 u250 u251 u252 u253 u254 u255 u256 u257 u258 u259 u260 u261 u262 u263 u264 u265 u266 u267 u268 u269 u270 u271 u272 u273 u274 u275 u276 u277 u278 u279 : Value}
    (hout : hl t ≤ 4 → ∀ q11 q12 q13 q55 q56 q57 q58 q59 q60 q61 q62 q63 q64 q65 q66 q67 q68 q69 q70 q71 q72 q73 q74 q75 q76 q77 q78 q79 q80 q81 q82 q83 q84 q85 q86 q87 q88 q89 q90 q91 q92 q93 q94 q95 q96 q97 q98 q99 q100 q101 q102 q103 q104 q105 q106 q107 q108 q109 q110 q111 q112 q113 q114 q115 q116 q117 q118 q119 q120 q121 q122 q123 q124 q125 q126 q127 q128 q129 q130 q131 q132 q133 q134 q135 q136 q137 q138 q139 q140 q141 q142 q143 q144 q145 q146 q147 q148 q149 q150 q151 q152 q153 q154 q155 q156 q157 q158 q159 q160 q161 q162 q163 q164 q165 q166 q167 q168 q169 q170 q171 q172 q173 q174 q175 q176 q177 q178 q179 q180 q181 q182 q183 q184 q185 q186 q187 q188 q189 q190 q191 q192 q193 q194 q195 q196 q197 q198 q199 q200 q201 q202 q203 q204 q205 q206 q207 q208 q209 q210 q211 q212 q213 q214 q215 q216 q217 q218 q219 q220 q221 q222 q223 q224 q225 q226 q227 q228 q229 q230 q231 q232 : Value, Q .normal ⟨#[.string z0, u1, .pointer (some ⟨w.heap.size, 0, none⟩), .nilIface, .string (ba t), .string zz, .int .i64 (i : Int), .pointer (some ⟨w.heap.size + 1, 0, none⟩), .int .i64 E, .int .i64 ((hl t : Nat) : Int), .int .u32 (ha t (hl t)), q11, q12, q13, u14, u15, u16, u17, u18, u19, u20, u21, u22, u23, u24, u25, u26, u27, u28, u29, u30, u31, u32, u33, u34, u35, u36, u37, u38, u39, u40, u41, u42, u43, u44, u45, u46, u47, u48, u49, u50, u51, u52, u53, u54, q55, q56, q57, q58, q59, q60, q61, q62, q63, q64, q65, q66, q67, q68, q69, q70, q71, q72, q73, q74, q75, q76, q77, q78, q79, q80, q81, q82, q83, q84, q85, q86, q87, q88, q89, q90, q91, q92, q93, q94, q95, q96, q97, q98, q99, q100, q101, q102, q103, q104, q105, q106, q107, q108, q109, q110, q111, q112, q113, q114, q115, q116, q117, q118, q119, q120, q121, q122, q123, q124, q125, q126, q127, q128, q129, q130, q131, q132, q133, q134, q135, q136, q137, q138, q139, q140, q141, q142, q143, q144, q145, q146, q147, q148, q149, q150, q151, q152, q153, q154, q155, q156, q157, q158, q159, q160, q161, q162, q163, q164, q165, q166, q167, q168, q169, q170, q171, q172, q173, q174, q175, q176, q177, q178, q179, q180, q181, q182, q183, q184, q185, q186, q187, q188, q189, q190, q191, q192, q193, q194, q195, q196, q197, q198, q199, q200, q201, q202, q203, q204, q205, q206, q207, q208, q209, q210, q211, q212, q213, q214, q215, q216, q217, q218, q219, q220, q221, q222, q223, q224, q225, q226, q227, q228, q229, q230, q231, q232, u233, u234, u235, u236, u237, u238, u239, u240, u241, u242, u243, u244, u245, u246, u247, u248, u249, u250, u251, u252, u253, u254, u255, u256, u257, u258, u259, u260, u261, u262, u263, u264, u265, u266, u267, u268, u269, u270, u271, u272, u273, u274, u275, u276, u277, u278, u279], []⟩ wr) :
    Code.wp Tryd.prog inn2c Q ⟨#[.string z0, u1, .pointer (some ⟨w.heap.size, 0, none⟩), .nilIface, .string (ba t), .string zz, .int .i64 (i : Int), .pointer (some ⟨w.heap.size + 1, 0, none⟩), .int .i64 E, .int .i64 0, .int .u32 0, u11, u12, u13, u14, u15, u16, u17, u18, u19, u20, u21, u22, u23, u24, u25, u26, u27, u28, u29, u30, u31, u32, u33, u34, u35, u36, u37, u38, u39, u40, u41, u42, u43, u44, u45, u46, u47, u48, u49, u50, u51, u52, u53, u54, u55, u56, u57, u58, u59, u60, u61, u62, u63, u64, u65, u66, u67, u68, u69, u70, u71, u72, u73, u74, u75, u76, u77, u78, u79, u80, u81, u82, u83, u84, u85, u86, u87, u88, u89, u90, u91, u92, u93, u94, u95, u96, u97, u98, u99, u100, u101, u102, u103, u104, u105, u106, u107, u108, u109, u110, u111, u112, u113, u114, u115, u116, u117, u118, u119, u120, u121, u122, u123, u124, u125, u126, u127, u128, u129, u130, u131, u132, u133, u134, u135, u136, u137, u138, u139, u140, u141, u142, u143, u144, u145, u146, u147, u148, u149, u150, u151, u152, u153, u154, u155, u156, u157, u158, u159, u160, u161, u162, u163, u164, u165, u166, u167, u168, u169, u170, u171, u172, u173, u174, u175, u176, u177, u178, u179, u180, u181, u182, u183, u184, u185, u186, u187, u188, u189, u190, u191, u192, u193, u194, u195, u196, u197, u198, u199, u200, u201, u202, u203, u204, u205, u206, u207, u208, u209, u210, u211, u212, u213, u214, u215, u216, u217, u218, u219, u220, u221, u222, u223, u224, u225, u226, u227, u228, u229, u230, u231, u232, u233, u234, u235, u236, u237, u238, u239, u240, u241, u242, u243, u244, u245, u246, u247, u248, u249, u250, u251, u252, u253, u254, u255, u256, u257, u258, u259, u260, u261, u262, u263, u264, u265, u266, u267, u268, u269, u270, u271, u272, u273, u274, u275, u276, u277, u278, u279], []⟩ wr := by
  have HRt := Lib.hid hRt
  have HBt := Lib.hid hBt
  have HOut := Lib.hid hout
  have HSt := Lib.hid (ba_size t)
  have hl0 := blk?_lt k0
  have hsm : (((ba t).size : Nat) : Int) ≤ 1048576 := by rw [ba_size]; omega
  clear hRt hBt hout
  conv => arg 2; whnf
  dsimp only
  go_wp2_with fail
  go_loopw [3, 9, 10, 11] (fun v3 v9 v10 v11 wq => ∃ j : Nat, j ≤ hl t ∧ j ≤ 4 ∧ v3 = .nilIface ∧ v9 = .int .i64 (j : Int) ∧ v10 = .int .u32 (ha t j) ∧ wr = wq) (fun _ j _ _ _ => t.length - (intOf j).toNat)
  case atStart => exact ⟨0, by omega, by omega, rfl, rfl, rfl, rfl⟩
  case round =>
    obtain ⟨j, hjl, hj4, rfl, rfl, rfl, rfl⟩ := hrel
    have hll := hl_le t
    have hal := ha_lt t j hjl
    have hpw := pow16_le j hj4
    have hst := HSt.out
    have hj0 : (0 : Int) ≤ (j : Int) := by omega
    have HJ4 := Lib.hid hj4
    by_cases hjt : j < t.length
    · have hj1 : (j : Int) < (((ba t).size : Nat) : Int) := by omega
      have hjs : j < (ba t).size := by omega
      have hcv := ba_get t HBt.out j hjs
      have hsu := ha_succ t j hjt
      by_cases hh : hxd (t.getD j 0) = true
      · have hj5 : j < hl t := by
          by_cases c : j < hl t
          · exact c
          · have e : j = hl t := by omega
            have := hl_not t (by omega)
            rw [← e, hh] at this; cases this
        have hvl := hval_lt _ hh
        obtain ⟨a, hae⟩ : ∃ a : Int, a = ha t j := ⟨_, rfl⟩
        have ha0 : 0 ≤ a := by omega
        have ha1 : a < 65536 := by omega
        have ha2 : a * 16 < 4294967296 := by omega
        have ha3 : 0 ≤ a * 16 := by omega
        have hj2 : (j : Int) + 1 ≤ 9223372036854775807 := by omega
        have hcase := hxd_cases _ hh
        obtain ⟨ch, hch⟩ : ∃ ch : Int, ch = t.getD j 0 := ⟨_, rfl⟩
        rw [← hch] at hcv hcase hvl hsu
        rw [← hae] at hsu
        rw [← hae]
        have HSu := Lib.hid hsu
        have HJ5 := Lib.hid hj5
        by_cases h3 : j ≤ 3
        · have hnew : a * 16 + hval ch < 65536 := by
            have h1 := (ha_lt t (j + 1) (by omega)).2
            have h2 := pow16_le (j + 1) (by omega)
            rw [hsu] at h1; omega
          clear hst hsu hae hch hal hpw hj5 hh
          rcases hcase with ⟨c1, c2, hv⟩ | ⟨c1, c2, hv⟩ | ⟨c1, c2, hv⟩
          · have hv' := hv
            rw [hv] at hvl HSu
            clear hv
            have d1 : 0 ≤ ch - 48 := by omega
            have d2 : ch - 48 < 256 := by omega
            have s1 : a * 16 + (ch - 48) < 4294967296 := by omega
            have s0 : 0 ≤ a * 16 + (ch - 48) := by omega
            have g3 : ¬ (3 < (j : Int)) := by omega
            have n1 : ¬ (65535 < a * 16 + (ch - 48)) := by rw [hv'] at hnew; omega
            clear hnew hv'
            go_wp2
            go_roundw
            case rel => exact ⟨j + 1, by have := HJ5.out; omega, by omega, rfl, by go_num, by rw [HSu.out], trivial⟩
            case measure => simp [intOf]; omega
          · have hv' := hv
            rw [hv] at hvl HSu
            clear hv
            have d0 : ¬ (ch ≤ 57) := by omega
            have d3 : 48 ≤ ch := by omega
            have d4 : ch - 97 + 10 < 256 := by omega
            have d5 : 0 ≤ ch - 97 + 10 := by omega
            have d1 : 0 ≤ ch - 97 := by omega
            have d2 : ch - 97 < 256 := by omega
            have s1 : a * 16 + (ch - 97 + 10) < 4294967296 := by omega
            have s0 : 0 ≤ a * 16 + (ch - 97 + 10) := by omega
            have g3 : ¬ (3 < (j : Int)) := by omega
            have n1 : ¬ (65535 < a * 16 + (ch - 97 + 10)) := by rw [hv'] at hnew; omega
            clear hnew hv'
            go_wp2
            go_roundw
            case rel => exact ⟨j + 1, by have := HJ5.out; omega, by omega, rfl, by go_num, by rw [HSu.out], trivial⟩
            case measure => simp [intOf]; omega
          · have hv' := hv
            rw [hv] at hvl HSu
            clear hv
            have d0 : ¬ (ch ≤ 57) := by omega
            have d3 : 48 ≤ ch := by omega
            have d4 : ch - 65 + 10 < 256 := by omega
            have d5 : 0 ≤ ch - 65 + 10 := by omega
            have d6 : ¬ (97 ≤ ch) := by omega
            have d1 : 0 ≤ ch - 65 := by omega
            have d2 : ch - 65 < 256 := by omega
            have s1 : a * 16 + (ch - 65 + 10) < 4294967296 := by omega
            have s0 : 0 ≤ a * 16 + (ch - 65 + 10) := by omega
            have g3 : ¬ (3 < (j : Int)) := by omega
            have n1 : ¬ (65535 < a * 16 + (ch - 65 + 10)) := by rw [hv'] at hnew; omega
            clear hnew hv'
            go_wp2
            go_roundw
            case rel => exact ⟨j + 1, by have := HJ5.out; omega, by omega, rfl, by go_num, by rw [HSu.out], trivial⟩
            case measure => simp [intOf]; omega
        · clear hst hsu hae hch hal hpw hj5 hh
          rcases hcase with ⟨c1, c2, hv⟩ | ⟨c1, c2, hv⟩ | ⟨c1, c2, hv⟩
          · have hv' := hv
            rw [hv] at hvl HSu
            clear hv
            have d1 : 0 ≤ ch - 48 := by omega
            have d2 : ch - 48 < 256 := by omega
            have s1 : a * 16 + (ch - 48) < 4294967296 := by omega
            have s0 : 0 ≤ a * 16 + (ch - 48) := by omega
            have g3 : 3 < (j : Int) := by omega
            clear hv'
            go_wp2
            exact HRt.out _ _ rfl rfl ⟨_, rfl⟩ (by go_simp) (by repeat' (first | (with_reducible exact Below.refl _ _) | (with_reducible assumption) | (with_reducible refine Below.alloc ?_ ?_ _) | (with_reducible refine Below.drew ?_) | (with_reducible refine below_drewN ?_ _) | (with_reducible refine Below.setCell ?_ ?_ _) | (with_reducible refine below_setRow' ?_ ?_ _) | go_size))
          · have hv' := hv
            rw [hv] at hvl HSu
            clear hv
            have d0 : ¬ (ch ≤ 57) := by omega
            have d3 : 48 ≤ ch := by omega
            have d4 : ch - 97 + 10 < 256 := by omega
            have d5 : 0 ≤ ch - 97 + 10 := by omega
            have d1 : 0 ≤ ch - 97 := by omega
            have d2 : ch - 97 < 256 := by omega
            have s1 : a * 16 + (ch - 97 + 10) < 4294967296 := by omega
            have s0 : 0 ≤ a * 16 + (ch - 97 + 10) := by omega
            have g3 : 3 < (j : Int) := by omega
            clear hv'
            go_wp2
            exact HRt.out _ _ rfl rfl ⟨_, rfl⟩ (by go_simp) (by repeat' (first | (with_reducible exact Below.refl _ _) | (with_reducible assumption) | (with_reducible refine Below.alloc ?_ ?_ _) | (with_reducible refine Below.drew ?_) | (with_reducible refine below_drewN ?_ _) | (with_reducible refine Below.setCell ?_ ?_ _) | (with_reducible refine below_setRow' ?_ ?_ _) | go_size))
          · have hv' := hv
            rw [hv] at hvl HSu
            clear hv
            have d0 : ¬ (ch ≤ 57) := by omega
            have d3 : 48 ≤ ch := by omega
            have d4 : ch - 65 + 10 < 256 := by omega
            have d5 : 0 ≤ ch - 65 + 10 := by omega
            have d6 : ¬ (97 ≤ ch) := by omega
            have d1 : 0 ≤ ch - 65 := by omega
            have d2 : ch - 65 < 256 := by omega
            have s1 : a * 16 + (ch - 65 + 10) < 4294967296 := by omega
            have s0 : 0 ≤ a * 16 + (ch - 65 + 10) := by omega
            have g3 : 3 < (j : Int) := by omega
            clear hv'
            go_wp2
            exact HRt.out _ _ rfl rfl ⟨_, rfl⟩ (by go_simp) (by repeat' (first | (with_reducible exact Below.refl _ _) | (with_reducible assumption) | (with_reducible refine Below.alloc ?_ ?_ _) | (with_reducible refine Below.drew ?_) | (with_reducible refine below_drewN ?_ _) | (with_reducible refine Below.setCell ?_ ?_ _) | (with_reducible refine below_setRow' ?_ ?_ _) | go_size))
      · have hh' : hxd (t.getD j 0) = false := by simpa using hh
        have hje : j = hl t := by
          by_cases c : j < hl t
          · have := hl_hex t j c
            rw [hh'] at this; cases this
          · omega
        have hnc := hxd_not _ hh'
        obtain ⟨ch, hch⟩ : ∃ ch : Int, ch = t.getD j 0 := ⟨_, rfl⟩
        rw [← hch] at hcv hnc
        have HJE := Lib.hid hje
        clear hst hsu hh hh' hch hje hal hpw hll hjl hj4
        go_upto_region 22 with fail
        go_cut [71] from 57 to 117 (fun v71 wx => v71 = .bool false ∧ wr = wx)
        case first =>
          rcases hnc.1 with c | c
          · have c' : ¬ (48 ≤ ch) := by omega
            go_wp2
            go_meet
            exact ⟨rfl, rfl⟩
          · have c' : ¬ (ch ≤ 57) := by omega
            have c'' : 48 ≤ ch := by omega
            go_wp2
            go_meet
            exact ⟨rfl, rfl⟩
        case rest =>
          obtain ⟨rfl, rfl⟩ := hcut
          go_upto_region 24 with fail
          go_cut [83] from 57 to 117 (fun v83 wx => v83 = .bool false ∧ wr = wx)
          case first =>
            rcases hnc.2.1 with c | c
            · have c' : ¬ (97 ≤ ch) := by omega
              go_wp2
              go_meet
              exact ⟨rfl, rfl⟩
            · have c' : ¬ (ch ≤ 102) := by omega
              have c'' : 97 ≤ ch := by omega
              go_wp2
              go_meet
              exact ⟨rfl, rfl⟩
          case rest =>
            obtain ⟨rfl, rfl⟩ := hcut
            go_upto_region 26 with fail
            go_cut [96] from 57 to 117 (fun v96 wx => v96 = .bool false ∧ wr = wx)
            case first =>
              rcases hnc.2.2 with c | c
              · have c' : ¬ (65 ≤ ch) := by omega
                go_wp2
                go_meet
                exact ⟨rfl, rfl⟩
              · have c' : ¬ (ch ≤ 70) := by omega
                have c'' : 65 ≤ ch := by omega
                go_wp2
                go_meet
                exact ⟨rfl, rfl⟩
            case rest =>
              obtain ⟨rfl, rfl⟩ := hcut
              go_wp2
              rw [HJE.out]
              exact HOut.out (by rw [← HJE.out]; exact HJ4.out) _ _ _ _ _ _ _ _ _ _ _ _ _ _ _ _ _ _ _ _ _ _ _ _ _ _ _ _ _ _ _ _ _ _ _ _ _ _ _ _ _ _ _ _ _ _ _ _ _ _ _ _ _ _ _ _ _ _ _ _ _ _ _ _ _ _ _ _ _ _ _ _ _ _ _ _ _ _ _ _ _ _ _ _ _ _ _ _ _ _ _ _ _ _ _ _ _ _ _ _ _ _ _ _ _ _ _ _ _ _ _ _ _ _ _ _ _ _ _ _ _ _ _ _ _ _ _ _ _ _ _ _ _ _ _ _ _ _ _ _ _ _ _ _ _ _ _ _ _ _ _ _ _ _ _ _ _ _ _ _ _ _ _ _ _ _ _ _ _ _ _ _ _ _ _ _ _ _ _ _ _
    · have hje : j = hl t := by omega
      have hj1 : ¬ ((j : Int) < (((ba t).size : Nat) : Int)) := by omega
      have HJE := Lib.hid hje
      clear hst hje hal hpw hll hjl hj4
      go_wp2
      rw [HJE.out]
      exact HOut.out (by rw [← HJE.out]; exact HJ4.out) _ _ _ _ _ _ _ _ _ _ _ _ _ _ _ _ _ _ _ _ _ _ _ _ _ _ _ _ _ _ _ _ _ _ _ _ _ _ _ _ _ _ _ _ _ _ _ _ _ _ _ _ _ _ _ _ _ _ _ _ _ _ _ _ _ _ _ _ _ _ _ _ _ _ _ _ _ _ _ _ _ _ _ _ _ _ _ _ _ _ _ _ _ _ _ _ _ _ _ _ _ _ _ _ _ _ _ _ _ _ _ _ _ _ _ _ _ _ _ _ _ _ _ _ _ _ _ _ _ _ _ _ _ _ _ _ _ _ _ _ _ _ _ _ _ _ _ _ _ _ _ _ _ _ _ _ _ _ _ _ _ _ _ _ _ _ _ _ _ _ _ _ _ _ _ _ _ _ _ _ _
end Go.Proofs.YtmlkcgacneealaaDoor
set_option linter.unusedVariables false
set_option linter.unusedSimpArgs false
namespace Go.Proofs.YtmlkcgacneealaaDoor
open Go.RowKit
set_option maxHeartbeats 8000000 in
set_option maxRecDepth 100000 in
theorem con_end (w wr : World) (Q : Exit → Act → World → Prop) (hRt : Rt w Q) (z0 zz : ByteArray) (t : List Int) (hBt : By t) (ht : t.length ≤ 1048576) (L i : Nat) (a E : Int) (ha0 : 0 ≤ a) (ha1 : a < 65536) (f : Nat → Int) (k0 : blk? wr w.heap.size = some #[.int .u64 0, .int .u64 0, .pointer none]) (k1 : blk? wr (w.heap.size + 1) = some (arr16 f)) (hBw : Below w.heap.size w wr) {u1 u11 u12 u13 u14 u15 u16 u17 u18 u19 u20 u21 u22 u23 u24 u25 u26 u27 u28 u29 u30 u31 u32 u33 u34 u35 u36 u37 u38 u39 u40 u41 u42 u43 u44 u45 u46 u47 u48 u49 u50 u51 u52 u53 u54 u55 u56 u57 u58 u59 u60 u61 u62 u63 u64 u65 u66 u67 u68 u69 u70 u71 u72 u73 u74 u75 u76 u77 u78 u79 u80 u81 u82 u83 u84 u85 u86 u87 u88 u89 u90 u91 u92 u93 u94 u95 u96 u97 u98 u99 u100 u101 u102 u103 u104 u105 u106 u107 u108 u109 u110 u111 u112 u113 u114 u115 u116 u117 u118 u119 u120 u121 u122 u123 u124 u125 u126 u127 u128 u129 u130 u131 u132 u133 u134 u135 u136 u137 u138 u139 u140 u141 u142 u143 u144 u145 u146 u147 u148 u149 u150 u151 u152 u153 u154 u155 u156 u157 u158 u159 u160 u161 u162 u163 u164 u165 u166 u167 u168 u169 u170 u171 u172 u173 u174 u175 u176 u177 u178 u179 u180 u181 u182 u183 u184 u185 u186 u187 u188 u189 u190 u191 u192 u193 u194 u195 u196 u197 u198 u199 u200 u201 u202 u203 u204 u205 u206 u207 u208 u209 u210 u211 u212 u213 u214 u215 u216 u217 u218 u219 u220 u221 u222 u223 u224 u225 u226 u227 u228 u229 u230 u231 u232 u233 u234 u235 u236 u237 u238 u239 u240 u241 u242 u243 u244 u245 u246 u247 u248 u249 u250 u251 u252 u253 u254 u255 u256 u257 u258 u259 u260 u261 u262 u263 u264 u265 u266 u267 u268 u269 u270 u271 u272 u273 u274 u275 u276 u277 u278 u279 : Value} (hLt : L = t.length) (hL1 : 1 ≤ L) (hi : i + 2 ≤ 16) (hX : ∀ wn : World, blk? wn w.heap.size = some #[.int .u64 0, .int .u64 0, .pointer none] → blk? wn (w.heap.size + 1) = some (arr16 (put2 f i a)) → Below w.heap.size w wn → ∀ q9 q10 q11 q12 q13 q55 q56 q57 q58 q59 q60 q61 q62 q63 q64 q65 q66 q67 q68 q69 q70 q71 q72 q73 q74 q75 q76 q77 q78 q79 q80 q81 q82 q83 q84 q85 q86 q87 q88 q89 q90 q91 q92 q93 q94 q95 q96 q97 q98 q99 q100 q101 q102 q103 q104 q105 q106 q107 q108 q109 q110 q111 q112 q113 q114 q115 q116 q117 q118 q119 q120 q121 q122 q123 q124 q125 q126 q127 q128 q129 q130 q131 q132 q133 q134 q135 q136 q137 q138 q139 q140 q141 q142 q143 q144 q145 q146 q147 q148 q149 q150 q151 q152 q153 q154 q155 q156 q157 q158 q159 q160 q161 q162 q163 q164 q165 q166 q167 q168 q169 q170 q171 q172 q173 q174 q175 q176 q177 q178 q179 q180 q181 q182 q183 q184 q185 q186 q187 q188 q189 q190 q191 q192 q193 q194 q195 q196 q197 q198 q199 q200 q201 q202 q203 q204 q205 q206 q207 q208 q209 q210 q211 q212 q213 q214 q215 q216 q217 q218 q219 q220 q221 q222 q223 q224 q225 q226 q227 q228 q229 q230 q231 q232 : Value, Q (.exit 0) ⟨#[.string z0, u1, .pointer (some ⟨w.heap.size, 0, none⟩), .nilIface, .string ⟨#[]⟩, .string zz, .int .i64 ((i + 2 : Nat) : Int), .pointer (some ⟨w.heap.size + 1, 0, none⟩), .int .i64 E, q9, q10, q11, q12, q13, u14, u15, u16, u17, u18, u19, u20, u21, u22, u23, u24, u25, u26, u27, u28, u29, u30, u31, u32, u33, u34, u35, u36, u37, u38, u39, u40, u41, u42, u43, u44, u45, u46, u47, u48, u49, u50, u51, u52, u53, u54, q55, q56, q57, q58, q59, q60, q61, q62, q63, q64, q65, q66, q67, q68, q69, q70, q71, q72, q73, q74, q75, q76, q77, q78, q79, q80, q81, q82, q83, q84, q85, q86, q87, q88, q89, q90, q91, q92, q93, q94, q95, q96, q97, q98, q99, q100, q101, q102, q103, q104, q105, q106, q107, q108, q109, q110, q111, q112, q113, q114, q115, q116, q117, q118, q119, q120, q121, q122, q123, q124, q125, q126, q127, q128, q129, q130, q131, q132, q133, q134, q135, q136, q137, q138, q139, q140, q141, q142, q143, q144, q145, q146, q147, q148, q149, q150, q151, q152, q153, q154, q155, q156, q157, q158, q159, q160, q161, q162, q163, q164, q165, q166, q167, q168, q169, q170, q171, q172, q173, q174, q175, q176, q177, q178, q179, q180, q181, q182, q183, q184, q185, q186, q187, q188, q189, q190, q191, q192, q193, q194, q195, q196, q197, q198, q199, q200, q201, q202, q203, q204, q205, q206, q207, q208, q209, q210, q211, q212, q213, q214, q215, q216, q217, q218, q219, q220, q221, q222, q223, q224, q225, q226, q227, q228, q229, q230, q231, q232, u233, u234, u235, u236, u237, u238, u239, u240, u241, u242, u243, u244, u245, u246, u247, u248, u249, u250, u251, u252, u253, u254, u255, u256, u257, u258, u259, u260, u261, u262, u263, u264, u265, u266, u267, u268, u269, u270, u271, u272, u273, u274, u275, u276, u277, u278, u279], []⟩ wn) :
    Code.wp Tryd.prog rest1c Q ⟨#[.string z0, u1, .pointer (some ⟨w.heap.size, 0, none⟩), .nilIface, .string (ba t), .string zz, .int .i64 (i : Int), .pointer (some ⟨w.heap.size + 1, 0, none⟩), .int .i64 E, .int .i64 (L : Int), .int .u32 a, u11, u12, u13, u14, u15, u16, u17, u18, u19, u20, u21, u22, u23, u24, u25, u26, u27, u28, u29, u30, u31, u32, u33, u34, u35, u36, u37, u38, u39, u40, u41, u42, u43, u44, u45, u46, u47, u48, u49, u50, u51, u52, u53, u54, u55, u56, u57, u58, u59, u60, u61, u62, u63, u64, u65, u66, u67, u68, u69, u70, u71, u72, u73, u74, u75, u76, u77, u78, u79, u80, u81, u82, u83, u84, u85, u86, u87, u88, u89, u90, u91, u92, u93, u94, u95, u96, u97, u98, u99, u100, u101, u102, u103, u104, u105, u106, u107, u108, u109, u110, u111, u112, u113, u114, u115, u116, u117, u118, u119, u120, u121, u122, u123, u124, u125, u126, u127, u128, u129, u130, u131, u132, u133, u134, u135, u136, u137, u138, u139, u140, u141, u142, u143, u144, u145, u146, u147, u148, u149, u150, u151, u152, u153, u154, u155, u156, u157, u158, u159, u160, u161, u162, u163, u164, u165, u166, u167, u168, u169, u170, u171, u172, u173, u174, u175, u176, u177, u178, u179, u180, u181, u182, u183, u184, u185, u186, u187, u188, u189, u190, u191, u192, u193, u194, u195, u196, u197, u198, u199, u200, u201, u202, u203, u204, u205, u206, u207, u208, u209, u210, u211, u212, u213, u214, u215, u216, u217, u218, u219, u220, u221, u222, u223, u224, u225, u226, u227, u228, u229, u230, u231, u232, u233, u234, u235, u236, u237, u238, u239, u240, u241, u242, u243, u244, u245, u246, u247, u248, u249, u250, u251, u252, u253, u254, u255, u256, u257, u258, u259, u260, u261, u262, u263, u264, u265, u266, u267, u268, u269, u270, u271, u272, u273, u274, u275, u276, u277, u278, u279], []⟩ wr := by
  have HRt := Lib.hid hRt
  have HBt := Lib.hid hBt
  have hl0 := blk?_lt k0
  have hl1 := blk?_lt k1
  have hst := ba_size t
  have hsm : (((ba t).size : Nat) : Int) ≤ 1048576 := by rw [hst]; omega
  have hi0 : (0 : Int) ≤ (i : Int) := by omega
  have hL0 : (0 : Int) ≤ (L : Int) := by omega
  have HX := Lib.hid hX
  clear hRt hBt hX
  conv => arg 2; whnf
  have hLn : ¬ ((L : Int) < (((ba t).size : Nat) : Int)) := by omega
  have hLs' : (L : Int) ≤ (((ba t).size : Nat) : Int) := by omega
  have hLz : ((L : Int) == 0) = false := beq_eq_false_iff_ne.2 (by omega)
  have hx1 : (ba t).extract L (ba t).size = ba (t.drop L) := ba_drop t L (by omega)
  have hB1 : By (t.drop L) := By_drop HBt.out L
  have hS1 := ba_size (t.drop L)
  have hT1 : (t.drop L).length = t.length - L := List.length_drop
  obtain ⟨t1, ht1⟩ : ∃ t1 : List Int, t1 = t.drop L := ⟨_, rfl⟩
  have hg0 : t.getD L 0 = t1.getD 0 0 := by rw [ht1, ← getD_drop, Nat.add_zero]
  rw [← ht1] at hx1 hB1 hS1 hT1
  have hu1 : wr.cell? ⟨w.heap.size + 1, i, none⟩ = some (.int .u8 (f i)) := by rw [blk?_cell k1]; exact arr16_byte f i (by omega)
  have hu2 : wr.frozen? ⟨w.heap.size + 1, i, none⟩ = false := blk?_frozen k1 _
  have hk2 : ∀ v : Int, blk? (wr.setCell ⟨w.heap.size + 1, i, none⟩ (.int .u8 v)) (w.heap.size + 1) = some (arr16 (upd f i v)) := fun v => by rw [blk?_setSame, k1, Option.map_some, arr16_set _ _ _ (by omega)]
  have hu3 : ∀ v : Int, (wr.setCell ⟨w.heap.size + 1, i, none⟩ (.int .u8 v)).cell? ⟨w.heap.size + 1, i + 1, none⟩ = some (.int .u8 (upd f i v (i + 1))) := fun v => by rw [blk?_cell (hk2 v)]; exact arr16_byte _ (i + 1) (by omega)
  have hu4 : ∀ v : Int, (wr.setCell ⟨w.heap.size + 1, i, none⟩ (.int .u8 v)).frozen? ⟨w.heap.size + 1, i + 1, none⟩ = false := fun v => blk?_frozen (hk2 v) _
  have hi1 : (i : Int) < 16 := by omega
  have HI2 := Lib.hid (show (i : Int) + 1 < 16 by omega)
  have hn1 : i + 1 < 16 := by omega
  obtain rfl : t1 = [] := List.length_eq_zero_iff.1 (by omega)
  change (ba t).extract L (ba t).size = ⟨#[]⟩ at hx1
  clear hst hS1 hT1 ht1 hg0 hLt hL1 hB1
  go_upto_region 48 with fail
  have hi2 := HI2.out
  go_upto_region 51 with fail
  obtain ⟨wn, hwn⟩ : ∃ y : World, y = (wr.setCell ⟨w.heap.size + 1, i, none⟩ (.int .u8 (a / 256))).setCell ⟨w.heap.size + 1, i + 1, none⟩ (.int .u8 (a % 256)) := ⟨_, rfl⟩
  have n1 : blk? wn (w.heap.size + 1) = some (arr16 (put2 f i a)) := by rw [hwn, blk?_setSame, hk2, Option.map_some, arr16_set _ _ _ (by omega)]; rfl
  have n0 : blk? wn w.heap.size = some #[.int .u64 0, .int .u64 0, .pointer none] := by rw [hwn, blk?_setLt _ _ _ _ _ (by omega), blk?_setLt _ _ _ _ _ (by omega)]; exact k0
  have hBn : Below w.heap.size w wn := by rw [hwn]; exact (by repeat' (first | (with_reducible exact Below.refl _ _) | (with_reducible assumption) | (with_reducible refine Below.alloc ?_ ?_ _) | (with_reducible refine Below.drew ?_) | (with_reducible refine below_drewN ?_ _) | (with_reducible refine Below.setCell ?_ ?_ _) | (with_reducible refine below_setRow' ?_ ?_ _) | go_size))
  have m0 := blk?_lt n0
  have m1 := blk?_lt n1
  obtain ⟨i2, hi2'⟩ : ∃ n : Nat, n = i + 2 := ⟨_, rfl⟩
  have hii : (i : Int) + 2 = (i2 : Int) := by omega
  have HI2' := Lib.hid hi2'
  rw [← hwn, hii]
  clear hii hi2' hwn hu1 hu2 hu3 hu4 hk2 hi2 hn1 k0 k1 hBw hl0 hl1
  go_wp2
  have hh := HI2'.out
  subst hh
  exact HX.out wn n0 n1 hBn _ _ _ _ _ _ _ _ _ _ _ _ _ _ _ _ _ _ _ _ _ _ _ _ _ _ _ _ _ _ _ _ _ _ _ _ _ _ _ _ _ _ _ _ _ _ _ _ _ _ _ _ _ _ _ _ _ _ _ _ _ _ _ _ _ _ _ _ _ _ _ _ _ _ _ _ _ _ _ _ _ _ _ _ _ _ _ _ _ _ _ _ _ _ _ _ _ _ _ _ _ _ _ _ _ _ _ _ _ _ _ _ _ _ _ _ _ _ _ _ _ _ _ _ _ _ _ _ _ _ _ _ _ _ _ _ _ _ _ _ _ _ _ _ _ _ _ _ _ _ _ _ _ _ _ _ _ _ _ _ _ _ _ _ _ _ _ _ _ _ _ _ _ _ _ _ _ _ _ _ _ _ _
set_option maxHeartbeats 8000000 in
set_option maxRecDepth 100000 in
theorem con_next (w wr : World) (Q : Exit → Act → World → Prop) (hRt : Rt w Q) (z0 zz : ByteArray) (t : List Int) (hBt : By t) (ht : t.length ≤ 1048576) (L i : Nat) (a E : Int) (ha0 : 0 ≤ a) (ha1 : a < 65536) (f : Nat → Int) (k0 : blk? wr w.heap.size = some #[.int .u64 0, .int .u64 0, .pointer none]) (k1 : blk? wr (w.heap.size + 1) = some (arr16 f)) (hBw : Below w.heap.size w wr) {u1 u11 u12 u13 u14 u15 u16 u17 u18 u19 u20 u21 u22 u23 u24 u25 u26 u27 u28 u29 u30 u31 u32 u33 u34 u35 u36 u37 u38 u39 u40 u41 u42 u43 u44 u45 u46 u47 u48 u49 u50 u51 u52 u53 u54 u55 u56 u57 u58 u59 u60 u61 u62 u63 u64 u65 u66 u67 u68 u69 u70 u71 u72 u73 u74 u75 u76 u77 u78 u79 u80 u81 u82 u83 u84 u85 u86 u87 u88 u89 u90 u91 u92 u93 u94 u95 u96 u97 u98 u99 u100 u101 u102 u103 u104 u105 u106 u107 u108 u109 u110 u111 u112 u113 u114 u115 u116 u117 u118 u119 u120 u121 u122 u123 u124 u125 u126 u127 u128 u129 u130 u131 u132 u133 u134 u135 u136 u137 u138 u139 u140 u141 u142 u143 u144 u145 u146 u147 u148 u149 u150 u151 u152 u153 u154 u155 u156 u157 u158 u159 u160 u161 u162 u163 u164 u165 u166 u167 u168 u169 u170 u171 u172 u173 u174 u175 u176 u177 u178 u179 u180 u181 u182 u183 u184 u185 u186 u187 u188 u189 u190 u191 u192 u193 u194 u195 u196 u197 u198 u199 u200 u201 u202 u203 u204 u205 u206 u207 u208 u209 u210 u211 u212 u213 u214 u215 u216 u217 u218 u219 u220 u221 u222 u223 u224 u225 u226 u227 u228 u229 u230 u231 u232 u233 u234 u235 u236 u237 u238 u239 u240 u241 u242 u243 u244 u245 u246 u247 u248 u249 u250 u251 u252 u253 u254 u255 u256 u257 u258 u259 u260 u261 u262 u263 u264 u265 u266 u267 u268 u269 u270 u271 u272 u273 u274 u275 u276 u277 u278 u279 : Value} (hLt : L + 1 < t.length) (hL1 : 1 ≤ L) (hat : t.getD L 0 = 58) (hat2 : ((t.drop L).drop 1).getD 0 0 ≠ 58) (hi : i + 2 ≤ 16) (hX : ∀ wn : World, blk? wn w.heap.size = some #[.int .u64 0, .int .u64 0, .pointer none] → blk? wn (w.heap.size + 1) = some (arr16 (put2 f i a)) → Below w.heap.size w wn → ∀ q9 q10 q11 q12 q13 q55 q56 q57 q58 q59 q60 q61 q62 q63 q64 q65 q66 q67 q68 q69 q70 q71 q72 q73 q74 q75 q76 q77 q78 q79 q80 q81 q82 q83 q84 q85 q86 q87 q88 q89 q90 q91 q92 q93 q94 q95 q96 q97 q98 q99 q100 q101 q102 q103 q104 q105 q106 q107 q108 q109 q110 q111 q112 q113 q114 q115 q116 q117 q118 q119 q120 q121 q122 q123 q124 q125 q126 q127 q128 q129 q130 q131 q132 q133 q134 q135 q136 q137 q138 q139 q140 q141 q142 q143 q144 q145 q146 q147 q148 q149 q150 q151 q152 q153 q154 q155 q156 q157 q158 q159 q160 q161 q162 q163 q164 q165 q166 q167 q168 q169 q170 q171 q172 q173 q174 q175 q176 q177 q178 q179 q180 q181 q182 q183 q184 q185 q186 q187 q188 q189 q190 q191 q192 q193 q194 q195 q196 q197 q198 q199 q200 q201 q202 q203 q204 q205 q206 q207 q208 q209 q210 q211 q212 q213 q214 q215 q216 q217 q218 q219 q220 q221 q222 q223 q224 q225 q226 q227 q228 q229 q230 q231 q232 : Value, Q .normal ⟨#[.string z0, u1, .pointer (some ⟨w.heap.size, 0, none⟩), .nilIface, .string (ba ((t.drop L).drop 1)), .string zz, .int .i64 ((i + 2 : Nat) : Int), .pointer (some ⟨w.heap.size + 1, 0, none⟩), .int .i64 E, q9, q10, q11, q12, q13, u14, u15, u16, u17, u18, u19, u20, u21, u22, u23, u24, u25, u26, u27, u28, u29, u30, u31, u32, u33, u34, u35, u36, u37, u38, u39, u40, u41, u42, u43, u44, u45, u46, u47, u48, u49, u50, u51, u52, u53, u54, q55, q56, q57, q58, q59, q60, q61, q62, q63, q64, q65, q66, q67, q68, q69, q70, q71, q72, q73, q74, q75, q76, q77, q78, q79, q80, q81, q82, q83, q84, q85, q86, q87, q88, q89, q90, q91, q92, q93, q94, q95, q96, q97, q98, q99, q100, q101, q102, q103, q104, q105, q106, q107, q108, q109, q110, q111, q112, q113, q114, q115, q116, q117, q118, q119, q120, q121, q122, q123, q124, q125, q126, q127, q128, q129, q130, q131, q132, q133, q134, q135, q136, q137, q138, q139, q140, q141, q142, q143, q144, q145, q146, q147, q148, q149, q150, q151, q152, q153, q154, q155, q156, q157, q158, q159, q160, q161, q162, q163, q164, q165, q166, q167, q168, q169, q170, q171, q172, q173, q174, q175, q176, q177, q178, q179, q180, q181, q182, q183, q184, q185, q186, q187, q188, q189, q190, q191, q192, q193, q194, q195, q196, q197, q198, q199, q200, q201, q202, q203, q204, q205, q206, q207, q208, q209, q210, q211, q212, q213, q214, q215, q216, q217, q218, q219, q220, q221, q222, q223, q224, q225, q226, q227, q228, q229, q230, q231, q232, u233, u234, u235, u236, u237, u238, u239, u240, u241, u242, u243, u244, u245, u246, u247, u248, u249, u250, u251, u252, u253, u254, u255, u256, u257, u258, u259, u260, u261, u262, u263, u264, u265, u266, u267, u268, u269, u270, u271, u272, u273, u274, u275, u276, u277, u278, u279], []⟩ wn) :
    Code.wp Tryd.prog rest1c Q ⟨#[.string z0, u1, .pointer (some ⟨w.heap.size, 0, none⟩), .nilIface, .string (ba t), .string zz, .int .i64 (i : Int), .pointer (some ⟨w.heap.size + 1, 0, none⟩), .int .i64 E, .int .i64 (L : Int), .int .u32 a, u11, u12, u13, u14, u15, u16, u17, u18, u19, u20, u21, u22, u23, u24, u25, u26, u27, u28, u29, u30, u31, u32, u33, u34, u35, u36, u37, u38, u39, u40, u41, u42, u43, u44, u45, u46, u47, u48, u49, u50, u51, u52, u53, u54, u55, u56, u57, u58, u59, u60, u61, u62, u63, u64, u65, u66, u67, u68, u69, u70, u71, u72, u73, u74, u75, u76, u77, u78, u79, u80, u81, u82, u83, u84, u85, u86, u87, u88, u89, u90, u91, u92, u93, u94, u95, u96, u97, u98, u99, u100, u101, u102, u103, u104, u105, u106, u107, u108, u109, u110, u111, u112, u113, u114, u115, u116, u117, u118, u119, u120, u121, u122, u123, u124, u125, u126, u127, u128, u129, u130, u131, u132, u133, u134, u135, u136, u137, u138, u139, u140, u141, u142, u143, u144, u145, u146, u147, u148, u149, u150, u151, u152, u153, u154, u155, u156, u157, u158, u159, u160, u161, u162, u163, u164, u165, u166, u167, u168, u169, u170, u171, u172, u173, u174, u175, u176, u177, u178, u179, u180, u181, u182, u183, u184, u185, u186, u187, u188, u189, u190, u191, u192, u193, u194, u195, u196, u197, u198, u199, u200, u201, u202, u203, u204, u205, u206, u207, u208, u209, u210, u211, u212, u213, u214, u215, u216, u217, u218, u219, u220, u221, u222, u223, u224, u225, u226, u227, u228, u229, u230, u231, u232, u233, u234, u235, u236, u237, u238, u239, u240, u241, u242, u243, u244, u245, u246, u247, u248, u249, u250, u251, u252, u253, u254, u255, u256, u257, u258, u259, u260, u261, u262, u263, u264, u265, u266, u267, u268, u269, u270, u271, u272, u273, u274, u275, u276, u277, u278, u279], []⟩ wr := by
  have HRt := Lib.hid hRt
  have HBt := Lib.hid hBt
  have hl0 := blk?_lt k0
  have hl1 := blk?_lt k1
  have hst := ba_size t
  have hsm : (((ba t).size : Nat) : Int) ≤ 1048576 := by rw [hst]; omega
  have hi0 : (0 : Int) ≤ (i : Int) := by omega
  have hL0 : (0 : Int) ≤ (L : Int) := by omega
  have HX := Lib.hid hX
  clear hRt hBt hX
  conv => arg 2; whnf
  have hLn : (L : Int) < (((ba t).size : Nat) : Int) := by omega
  have hLm : L < (ba t).size := by omega
  have hcv := ba_get t HBt.out L hLm
  have hLs' : (L : Int) ≤ (((ba t).size : Nat) : Int) := by omega
  have hLz : ((L : Int) == 0) = false := beq_eq_false_iff_ne.2 (by omega)
  have hx1 : (ba t).extract L (ba t).size = ba (t.drop L) := ba_drop t L (by omega)
  have hB1 : By (t.drop L) := By_drop HBt.out L
  have hS1 := ba_size (t.drop L)
  have hT1 : (t.drop L).length = t.length - L := List.length_drop
  obtain ⟨t1, ht1⟩ : ∃ t1 : List Int, t1 = t.drop L := ⟨_, rfl⟩
  have hg0 : t.getD L 0 = t1.getD 0 0 := by rw [ht1, ← getD_drop, Nat.add_zero]
  rw [← ht1] at hx1 hB1 hS1 hT1
  have p0 : 0 < (ba t1).size := by omega
  have p1 : (0 : Int) < (((ba t1).size : Nat) : Int) := by omega
  have p2 : (1 : Int) ≤ (((ba t1).size : Nat) : Int) := by omega
  have p3 : ((((ba t1).size : Nat) : Int) == 0) = false := beq_eq_false_iff_ne.2 (by omega)
  have c1' := ba_get t1 hB1 0 p0
  have hu1 : wr.cell? ⟨w.heap.size + 1, i, none⟩ = some (.int .u8 (f i)) := by rw [blk?_cell k1]; exact arr16_byte f i (by omega)
  have hu2 : wr.frozen? ⟨w.heap.size + 1, i, none⟩ = false := blk?_frozen k1 _
  have hk2 : ∀ v : Int, blk? (wr.setCell ⟨w.heap.size + 1, i, none⟩ (.int .u8 v)) (w.heap.size + 1) = some (arr16 (upd f i v)) := fun v => by rw [blk?_setSame, k1, Option.map_some, arr16_set _ _ _ (by omega)]
  have hu3 : ∀ v : Int, (wr.setCell ⟨w.heap.size + 1, i, none⟩ (.int .u8 v)).cell? ⟨w.heap.size + 1, i + 1, none⟩ = some (.int .u8 (upd f i v (i + 1))) := fun v => by rw [blk?_cell (hk2 v)]; exact arr16_byte _ (i + 1) (by omega)
  have hu4 : ∀ v : Int, (wr.setCell ⟨w.heap.size + 1, i, none⟩ (.int .u8 v)).frozen? ⟨w.heap.size + 1, i + 1, none⟩ = false := fun v => blk?_frozen (hk2 v) _
  have hi1 : (i : Int) < 16 := by omega
  have HI2 := Lib.hid (show (i : Int) + 1 < 16 by omega)
  have hn1 : i + 1 < 16 := by omega
  rw [← hg0, hat] at c1'
  rw [hat] at hcv
  have p4 : ((((ba t1).size : Nat) : Int) == 1) = false := beq_eq_false_iff_ne.2 (by omega)
  obtain ⟨t2, ht2⟩ : ∃ t2 : List Int, t2 = t1.drop 1 := ⟨_, rfl⟩
  have hx2 : (ba t1).extract 1 (ba t1).size = ba t2 := by rw [ht2]; exact ba_drop t1 1 (by omega)
  have hS2 := ba_size t2
  have hT2 : t2.length = t1.length - 1 := by rw [ht2]; exact List.length_drop
  have hB2 : By t2 := by rw [ht2]; exact By_drop hB1 1
  have r0 : 0 < (ba t2).size := by omega
  have r1 : (0 : Int) < (((ba t2).size : Nat) : Int) := by omega
  have r2 : (1 : Int) ≤ (((ba t2).size : Nat) : Int) := by omega
  have c2' := ba_get t2 hB2 0 r0
  have e2 : t2 = (t.drop L).drop 1 := by rw [ht2, ht1]
  obtain ⟨ch, hch⟩ : ∃ ch : Int, ch = t2.getD 0 0 := ⟨_, rfl⟩
  rw [← hch] at c2'
  rw [← e2, ← hch] at hat2
  have z1 : (ch == 58) = false := beq_eq_false_iff_ne.2 hat2
  have HE2 := Lib.hid e2
  clear hst hS1 hT1 ht1 hg0 hLt hL1 hB1 hat hS2 hT2 ht2 hB2 hch hat2 e2
  go_upto_region 48 with fail
  have hi2 := HI2.out
  go_upto_region 51 with fail
  obtain ⟨wn, hwn⟩ : ∃ y : World, y = (wr.setCell ⟨w.heap.size + 1, i, none⟩ (.int .u8 (a / 256))).setCell ⟨w.heap.size + 1, i + 1, none⟩ (.int .u8 (a % 256)) := ⟨_, rfl⟩
  have n1 : blk? wn (w.heap.size + 1) = some (arr16 (put2 f i a)) := by rw [hwn, blk?_setSame, hk2, Option.map_some, arr16_set _ _ _ (by omega)]; rfl
  have n0 : blk? wn w.heap.size = some #[.int .u64 0, .int .u64 0, .pointer none] := by rw [hwn, blk?_setLt _ _ _ _ _ (by omega), blk?_setLt _ _ _ _ _ (by omega)]; exact k0
  have hBn : Below w.heap.size w wn := by rw [hwn]; exact (by repeat' (first | (with_reducible exact Below.refl _ _) | (with_reducible assumption) | (with_reducible refine Below.alloc ?_ ?_ _) | (with_reducible refine Below.drew ?_) | (with_reducible refine below_drewN ?_ _) | (with_reducible refine Below.setCell ?_ ?_ _) | (with_reducible refine below_setRow' ?_ ?_ _) | go_size))
  have m0 := blk?_lt n0
  have m1 := blk?_lt n1
  obtain ⟨i2, hi2'⟩ : ∃ n : Nat, n = i + 2 := ⟨_, rfl⟩
  have hii : (i : Int) + 2 = (i2 : Int) := by omega
  have HI2' := Lib.hid hi2'
  rw [← hwn, hii]
  clear hii hi2' hwn hu1 hu2 hu3 hu4 hk2 hi2 hn1 k0 k1 hBw hl0 hl1
  go_wp2
  have hh := HI2'.out
  subst hh
  have h2 := HE2.out
  subst h2
  exact HX.out wn n0 n1 hBn _ _ _ _ _ _ _ _ _ _ _ _ _ _ _ _ _ _ _ _ _ _ _ _ _ _ _ _ _ _ _ _ _ _ _ _ _ _ _ _ _ _ _ _ _ _ _ _ _ _ _ _ _ _ _ _ _ _ _ _ _ _ _ _ _ _ _ _ _ _ _ _ _ _ _ _ _ _ _ _ _ _ _ _ _ _ _ _ _ _ _ _ _ _ _ _ _ _ _ _ _ _ _ _ _ _ _ _ _ _ _ _ _ _ _ _ _ _ _ _ _ _ _ _ _ _ _ _ _ _ _ _ _ _ _ _ _ _ _ _ _ _ _ _ _ _ _ _ _ _ _ _ _ _ _ _ _ _ _ _ _ _ _ _ _ _ _ _ _ _ _ _ _ _ _ _ _ _ _ _ _ _ _
set_option maxHeartbeats 8000000 in
set_option maxRecDepth 100000 in
theorem con_gapEnd (w wr : World) (Q : Exit → Act → World → Prop) (hRt : Rt w Q) (z0 zz : ByteArray) (t : List Int) (hBt : By t) (ht : t.length ≤ 1048576) (L i : Nat) (a E : Int) (ha0 : 0 ≤ a) (ha1 : a < 65536) (f : Nat → Int) (k0 : blk? wr w.heap.size = some #[.int .u64 0, .int .u64 0, .pointer none]) (k1 : blk? wr (w.heap.size + 1) = some (arr16 f)) (hBw : Below w.heap.size w wr) {u1 u11 u12 u13 u14 u15 u16 u17 u18 u19 u20 u21 u22 u23 u24 u25 u26 u27 u28 u29 u30 u31 u32 u33 u34 u35 u36 u37 u38 u39 u40 u41 u42 u43 u44 u45 u46 u47 u48 u49 u50 u51 u52 u53 u54 u55 u56 u57 u58 u59 u60 u61 u62 u63 u64 u65 u66 u67 u68 u69 u70 u71 u72 u73 u74 u75 u76 u77 u78 u79 u80 u81 u82 u83 u84 u85 u86 u87 u88 u89 u90 u91 u92 u93 u94 u95 u96 u97 u98 u99 u100 u101 u102 u103 u104 u105 u106 u107 u108 u109 u110 u111 u112 u113 u114 u115 u116 u117 u118 u119 u120 u121 u122 u123 u124 u125 u126 u127 u128 u129 u130 u131 u132 u133 u134 u135 u136 u137 u138 u139 u140 u141 u142 u143 u144 u145 u146 u147 u148 u149 u150 u151 u152 u153 u154 u155 u156 u157 u158 u159 u160 u161 u162 u163 u164 u165 u166 u167 u168 u169 u170 u171 u172 u173 u174 u175 u176 u177 u178 u179 u180 u181 u182 u183 u184 u185 u186 u187 u188 u189 u190 u191 u192 u193 u194 u195 u196 u197 u198 u199 u200 u201 u202 u203 u204 u205 u206 u207 u208 u209 u210 u211 u212 u213 u214 u215 u216 u217 u218 u219 u220 u221 u222 u223 u224 u225 u226 u227 u228 u229 u230 u231 u232 u233 u234 u235 u236 u237 u238 u239 u240 u241 u242 u243 u244 u245 u246 u247 u248 u249 u250 u251 u252 u253 u254 u255 u256 u257 u258 u259 u260 u261 u262 u263 u264 u265 u266 u267 u268 u269 u270 u271 u272 u273 u274 u275 u276 u277 u278 u279 : Value} (hLt : L + 1 < t.length) (hL1 : 1 ≤ L) (hat : t.getD L 0 = 58) (hat2 : ((t.drop L).drop 1).getD 0 0 = 58) (hE : E < 0) (hn3 : (((t.drop L).drop 1).drop 1).length = 0) (hi : i + 2 ≤ 16) (hX : ∀ wn : World, blk? wn w.heap.size = some #[.int .u64 0, .int .u64 0, .pointer none] → blk? wn (w.heap.size + 1) = some (arr16 (put2 f i a)) → Below w.heap.size w wn → ∀ q9 q10 q11 q12 q13 q55 q56 q57 q58 q59 q60 q61 q62 q63 q64 q65 q66 q67 q68 q69 q70 q71 q72 q73 q74 q75 q76 q77 q78 q79 q80 q81 q82 q83 q84 q85 q86 q87 q88 q89 q90 q91 q92 q93 q94 q95 q96 q97 q98 q99 q100 q101 q102 q103 q104 q105 q106 q107 q108 q109 q110 q111 q112 q113 q114 q115 q116 q117 q118 q119 q120 q121 q122 q123 q124 q125 q126 q127 q128 q129 q130 q131 q132 q133 q134 q135 q136 q137 q138 q139 q140 q141 q142 q143 q144 q145 q146 q147 q148 q149 q150 q151 q152 q153 q154 q155 q156 q157 q158 q159 q160 q161 q162 q163 q164 q165 q166 q167 q168 q169 q170 q171 q172 q173 q174 q175 q176 q177 q178 q179 q180 q181 q182 q183 q184 q185 q186 q187 q188 q189 q190 q191 q192 q193 q194 q195 q196 q197 q198 q199 q200 q201 q202 q203 q204 q205 q206 q207 q208 q209 q210 q211 q212 q213 q214 q215 q216 q217 q218 q219 q220 q221 q222 q223 q224 q225 q226 q227 q228 q229 q230 q231 q232 : Value, Q (.exit 0) ⟨#[.string z0, u1, .pointer (some ⟨w.heap.size, 0, none⟩), .nilIface, .string ⟨#[]⟩, .string zz, .int .i64 ((i + 2 : Nat) : Int), .pointer (some ⟨w.heap.size + 1, 0, none⟩), .int .i64 ((i + 2 : Nat) : Int), q9, q10, q11, q12, q13, u14, u15, u16, u17, u18, u19, u20, u21, u22, u23, u24, u25, u26, u27, u28, u29, u30, u31, u32, u33, u34, u35, u36, u37, u38, u39, u40, u41, u42, u43, u44, u45, u46, u47, u48, u49, u50, u51, u52, u53, u54, q55, q56, q57, q58, q59, q60, q61, q62, q63, q64, q65, q66, q67, q68, q69, q70, q71, q72, q73, q74, q75, q76, q77, q78, q79, q80, q81, q82, q83, q84, q85, q86, q87, q88, q89, q90, q91, q92, q93, q94, q95, q96, q97, q98, q99, q100, q101, q102, q103, q104, q105, q106, q107, q108, q109, q110, q111, q112, q113, q114, q115, q116, q117, q118, q119, q120, q121, q122, q123, q124, q125, q126, q127, q128, q129, q130, q131, q132, q133, q134, q135, q136, q137, q138, q139, q140, q141, q142, q143, q144, q145, q146, q147, q148, q149, q150, q151, q152, q153, q154, q155, q156, q157, q158, q159, q160, q161, q162, q163, q164, q165, q166, q167, q168, q169, q170, q171, q172, q173, q174, q175, q176, q177, q178, q179, q180, q181, q182, q183, q184, q185, q186, q187, q188, q189, q190, q191, q192, q193, q194, q195, q196, q197, q198, q199, q200, q201, q202, q203, q204, q205, q206, q207, q208, q209, q210, q211, q212, q213, q214, q215, q216, q217, q218, q219, q220, q221, q222, q223, q224, q225, q226, q227, q228, q229, q230, q231, q232, u233, u234, u235, u236, u237, u238, u239, u240, u241, u242, u243, u244, u245, u246, u247, u248, u249, u250, u251, u252, u253, u254, u255, u256, u257, u258, u259, u260, u261, u262, u263, u264, u265, u266, u267, u268, u269, u270, u271, u272, u273, u274, u275, u276, u277, u278, u279], []⟩ wn) :
    Code.wp Tryd.prog rest1c Q ⟨#[.string z0, u1, .pointer (some ⟨w.heap.size, 0, none⟩), .nilIface, .string (ba t), .string zz, .int .i64 (i : Int), .pointer (some ⟨w.heap.size + 1, 0, none⟩), .int .i64 E, .int .i64 (L : Int), .int .u32 a, u11, u12, u13, u14, u15, u16, u17, u18, u19, u20, u21, u22, u23, u24, u25, u26, u27, u28, u29, u30, u31, u32, u33, u34, u35, u36, u37, u38, u39, u40, u41, u42, u43, u44, u45, u46, u47, u48, u49, u50, u51, u52, u53, u54, u55, u56, u57, u58, u59, u60, u61, u62, u63, u64, u65, u66, u67, u68, u69, u70, u71, u72, u73, u74, u75, u76, u77, u78, u79, u80, u81, u82, u83, u84, u85, u86, u87, u88, u89, u90, u91, u92, u93, u94, u95, u96, u97, u98, u99, u100, u101, u102, u103, u104, u105, u106, u107, u108, u109, u110, u111, u112, u113, u114, u115, u116, u117, u118, u119, u120, u121, u122, u123, u124, u125, u126, u127, u128, u129, u130, u131, u132, u133, u134, u135, u136, u137, u138, u139, u140, u141, u142, u143, u144, u145, u146, u147, u148, u149, u150, u151, u152, u153, u154, u155, u156, u157, u158, u159, u160, u161, u162, u163, u164, u165, u166, u167, u168, u169, u170, u171, u172, u173, u174, u175, u176, u177, u178, u179, u180, u181, u182, u183, u184, u185, u186, u187, u188, u189, u190, u191, u192, u193, u194, u195, u196, u197, u198, u199, u200, u201, u202, u203, u204, u205, u206, u207, u208, u209, u210, u211, u212, u213, u214, u215, u216, u217, u218, u219, u220, u221, u222, u223, u224, u225, u226, u227, u228, u229, u230, u231, u232, u233, u234, u235, u236, u237, u238, u239, u240, u241, u242, u243, u244, u245, u246, u247, u248, u249, u250, u251, u252, u253, u254, u255, u256, u257, u258, u259, u260, u261, u262, u263, u264, u265, u266, u267, u268, u269, u270, u271, u272, u273, u274, u275, u276, u277, u278, u279], []⟩ wr := by
  have HRt := Lib.hid hRt
  have HBt := Lib.hid hBt
  have hl0 := blk?_lt k0
  have hl1 := blk?_lt k1
  have hst := ba_size t
  have hsm : (((ba t).size : Nat) : Int) ≤ 1048576 := by rw [hst]; omega
  have hi0 : (0 : Int) ≤ (i : Int) := by omega
  have hL0 : (0 : Int) ≤ (L : Int) := by omega
  have HX := Lib.hid hX
  clear hRt hBt hX
  conv => arg 2; whnf
  have hLn : (L : Int) < (((ba t).size : Nat) : Int) := by omega
  have hLm : L < (ba t).size := by omega
  have hcv := ba_get t HBt.out L hLm
  have hLs' : (L : Int) ≤ (((ba t).size : Nat) : Int) := by omega
  have hLz : ((L : Int) == 0) = false := beq_eq_false_iff_ne.2 (by omega)
  have hx1 : (ba t).extract L (ba t).size = ba (t.drop L) := ba_drop t L (by omega)
  have hB1 : By (t.drop L) := By_drop HBt.out L
  have hS1 := ba_size (t.drop L)
  have hT1 : (t.drop L).length = t.length - L := List.length_drop
  obtain ⟨t1, ht1⟩ : ∃ t1 : List Int, t1 = t.drop L := ⟨_, rfl⟩
  have hg0 : t.getD L 0 = t1.getD 0 0 := by rw [ht1, ← getD_drop, Nat.add_zero]
  rw [← ht1] at hx1 hB1 hS1 hT1
  have p0 : 0 < (ba t1).size := by omega
  have p1 : (0 : Int) < (((ba t1).size : Nat) : Int) := by omega
  have p2 : (1 : Int) ≤ (((ba t1).size : Nat) : Int) := by omega
  have p3 : ((((ba t1).size : Nat) : Int) == 0) = false := beq_eq_false_iff_ne.2 (by omega)
  have c1' := ba_get t1 hB1 0 p0
  have hu1 : wr.cell? ⟨w.heap.size + 1, i, none⟩ = some (.int .u8 (f i)) := by rw [blk?_cell k1]; exact arr16_byte f i (by omega)
  have hu2 : wr.frozen? ⟨w.heap.size + 1, i, none⟩ = false := blk?_frozen k1 _
  have hk2 : ∀ v : Int, blk? (wr.setCell ⟨w.heap.size + 1, i, none⟩ (.int .u8 v)) (w.heap.size + 1) = some (arr16 (upd f i v)) := fun v => by rw [blk?_setSame, k1, Option.map_some, arr16_set _ _ _ (by omega)]
  have hu3 : ∀ v : Int, (wr.setCell ⟨w.heap.size + 1, i, none⟩ (.int .u8 v)).cell? ⟨w.heap.size + 1, i + 1, none⟩ = some (.int .u8 (upd f i v (i + 1))) := fun v => by rw [blk?_cell (hk2 v)]; exact arr16_byte _ (i + 1) (by omega)
  have hu4 : ∀ v : Int, (wr.setCell ⟨w.heap.size + 1, i, none⟩ (.int .u8 v)).frozen? ⟨w.heap.size + 1, i + 1, none⟩ = false := fun v => blk?_frozen (hk2 v) _
  have hi1 : (i : Int) < 16 := by omega
  have HI2 := Lib.hid (show (i : Int) + 1 < 16 by omega)
  have hn1 : i + 1 < 16 := by omega
  rw [← hg0, hat] at c1'
  rw [hat] at hcv
  have p4 : ((((ba t1).size : Nat) : Int) == 1) = false := beq_eq_false_iff_ne.2 (by omega)
  obtain ⟨t2, ht2⟩ : ∃ t2 : List Int, t2 = t1.drop 1 := ⟨_, rfl⟩
  have hx2 : (ba t1).extract 1 (ba t1).size = ba t2 := by rw [ht2]; exact ba_drop t1 1 (by omega)
  have hS2 := ba_size t2
  have hT2 : t2.length = t1.length - 1 := by rw [ht2]; exact List.length_drop
  have hB2 : By t2 := by rw [ht2]; exact By_drop hB1 1
  have r0 : 0 < (ba t2).size := by omega
  have r1 : (0 : Int) < (((ba t2).size : Nat) : Int) := by omega
  have r2 : (1 : Int) ≤ (((ba t2).size : Nat) : Int) := by omega
  have c2' := ba_get t2 hB2 0 r0
  have e2 : t2 = (t.drop L).drop 1 := by rw [ht2, ht1]
  rw [show t2.getD 0 0 = 58 by rw [e2]; exact hat2] at c2'
  have hE' : ¬ (0 ≤ E) := by omega
  obtain ⟨t3, ht3⟩ : ∃ t3 : List Int, t3 = t2.drop 1 := ⟨_, rfl⟩
  have e3 : t3 = ((t.drop L).drop 1).drop 1 := by rw [ht3, e2]
  have hx3 : (ba t2).extract 1 (ba t2).size = ba t3 := by rw [ht3]; exact ba_drop t2 1 (by omega)
  have hS3 := ba_size t3
  rw [← e3] at hn3
  obtain rfl : t3 = [] := List.length_eq_zero_iff.1 hn3
  change (ba t2).extract 1 (ba t2).size = ⟨#[]⟩ at hx3
  clear hst hS1 hT1 ht1 hg0 hLt hL1 hB1 hat hS2 hT2 ht2 hB2 hat2 e2 ht3 e3 hS3 hn3
  go_upto_region 48 with fail
  have hi2 := HI2.out
  go_upto_region 51 with fail
  obtain ⟨wn, hwn⟩ : ∃ y : World, y = (wr.setCell ⟨w.heap.size + 1, i, none⟩ (.int .u8 (a / 256))).setCell ⟨w.heap.size + 1, i + 1, none⟩ (.int .u8 (a % 256)) := ⟨_, rfl⟩
  have n1 : blk? wn (w.heap.size + 1) = some (arr16 (put2 f i a)) := by rw [hwn, blk?_setSame, hk2, Option.map_some, arr16_set _ _ _ (by omega)]; rfl
  have n0 : blk? wn w.heap.size = some #[.int .u64 0, .int .u64 0, .pointer none] := by rw [hwn, blk?_setLt _ _ _ _ _ (by omega), blk?_setLt _ _ _ _ _ (by omega)]; exact k0
  have hBn : Below w.heap.size w wn := by rw [hwn]; exact (by repeat' (first | (with_reducible exact Below.refl _ _) | (with_reducible assumption) | (with_reducible refine Below.alloc ?_ ?_ _) | (with_reducible refine Below.drew ?_) | (with_reducible refine below_drewN ?_ _) | (with_reducible refine Below.setCell ?_ ?_ _) | (with_reducible refine below_setRow' ?_ ?_ _) | go_size))
  have m0 := blk?_lt n0
  have m1 := blk?_lt n1
  obtain ⟨i2, hi2'⟩ : ∃ n : Nat, n = i + 2 := ⟨_, rfl⟩
  have hii : (i : Int) + 2 = (i2 : Int) := by omega
  have HI2' := Lib.hid hi2'
  rw [← hwn, hii]
  clear hii hi2' hwn hu1 hu2 hu3 hu4 hk2 hi2 hn1 k0 k1 hBw hl0 hl1
  go_wp2
  have hh := HI2'.out
  subst hh
  exact HX.out wn n0 n1 hBn _ _ _ _ _ _ _ _ _ _ _ _ _ _ _ _ _ _ _ _ _ _ _ _ _ _ _ _ _ _ _ _ _ _ _ _ _ _ _ _ _ _ _ _ _ _ _ _ _ _ _ _ _ _ _ _ _ _ _ _ _ _ _ _ _ _ _ _ _ _ _ _ _ _ _ _ _ _ _ _ _ _ _ _ _ _ _ _ _ _ _ _ _ _ _ _ _ _ _ _ _ _ _ _ _ _ _ _ _ _ _ _ _ _ _ _ _ _ _ _ _ _ _ _ _ _ _ _ _ _ _ _ _ _ _ _ _ _ _ _ _ _ _ _ _ _ _ _ _ _ _ _ _ _ _ _ _ _ _ _ _ _ _ _ _ _ _ _ _ _ _ _ _ _ _ _ _ _ _ _ _ _ _
set_option maxHeartbeats 8000000 in
set_option maxRecDepth 100000 in
theorem con_gap (w wr : World) (Q : Exit → Act → World → Prop) (hRt : Rt w Q) (z0 zz : ByteArray) (t : List Int) (hBt : By t) (ht : t.length ≤ 1048576) (L i : Nat) (a E : Int) (ha0 : 0 ≤ a) (ha1 : a < 65536) (f : Nat → Int) (k0 : blk? wr w.heap.size = some #[.int .u64 0, .int .u64 0, .pointer none]) (k1 : blk? wr (w.heap.size + 1) = some (arr16 f)) (hBw : Below w.heap.size w wr) {u1 u11 u12 u13 u14 u15 u16 u17 u18 u19 u20 u21 u22 u23 u24 u25 u26 u27 u28 u29 u30 u31 u32 u33 u34 u35 u36 u37 u38 u39 u40 u41 u42 u43 u44 u45 u46 u47 u48 u49 u50 u51 u52 u53 u54 u55 u56 u57 u58 u59 u60 u61 u62 u63 u64 u65 u66 u67 u68 u69 u70 u71 u72 u73 u74 u75 u76 u77 u78 u79 u80 u81 u82 u83 u84 u85 u86 u87 u88 u89 u90 u91 u92 u93 u94 u95 u96 u97 u98 u99 u100 u101 u102 u103 u104 u105 u106 u107 u108 u109 u110 u111 u112 u113 u114 u115 u116 u117 u118 u119 u120 u121 u122 u123 u124 u125 u126 u127 u128 u129 u130 u131 u132 u133 u134 u135 u136 u137 u138 u139 u140 u141 u142 u143 u144 u145 u146 u147 u148 u149 u150 u151 u152 u153 u154 u155 u156 u157 u158 u159 u160 u161 u162 u163 u164 u165 u166 u167 u168 u169 u170 u171 u172 u173 u174 u175 u176 u177 u178 u179 u180 u181 u182 u183 u184 u185 u186 u187 u188 u189 u190 u191 u192 u193 u194 u195 u196 u197 u198 u199 u200 u201 u202 u203 u204 u205 u206 u207 u208 u209 u210 u211 u212 u213 u214 u215 u216 u217 u218 u219 u220 u221 u222 u223 u224 u225 u226 u227 u228 u229 u230 u231 u232 u233 u234 u235 u236 u237 u238 u239 u240 u241 u242 u243 u244 u245 u246 u247 u248 u249 u250 u251 u252 u253 u254 u255 u256 u257 u258 u259 u260 u261 u262 u263 u264 u265 u266 u267 u268 u269 u270 u271 u272 u273 u274 u275 u276 u277 u278 u279 : Value} (hLt : L + 1 < t.length) (hL1 : 1 ≤ L) (hat : t.getD L 0 = 58) (hat2 : ((t.drop L).drop 1).getD 0 0 = 58) (hE : E < 0) (hn3 : (((t.drop L).drop 1).drop 1).length ≠ 0) (hi : i + 2 ≤ 16) (hX : ∀ wn : World, blk? wn w.heap.size = some #[.int .u64 0, .int .u64 0, .pointer none] → blk? wn (w.heap.size + 1) = some (arr16 (put2 f i a)) → Below w.heap.size w wn → ∀ q9 q10 q11 q12 q13 q55 q56 q57 q58 q59 q60 q61 q62 q63 q64 q65 q66 q67 q68 q69 q70 q71 q72 q73 q74 q75 q76 q77 q78 q79 q80 q81 q82 q83 q84 q85 q86 q87 q88 q89 q90 q91 q92 q93 q94 q95 q96 q97 q98 q99 q100 q101 q102 q103 q104 q105 q106 q107 q108 q109 q110 q111 q112 q113 q114 q115 q116 q117 q118 q119 q120 q121 q122 q123 q124 q125 q126 q127 q128 q129 q130 q131 q132 q133 q134 q135 q136 q137 q138 q139 q140 q141 q142 q143 q144 q145 q146 q147 q148 q149 q150 q151 q152 q153 q154 q155 q156 q157 q158 q159 q160 q161 q162 q163 q164 q165 q166 q167 q168 q169 q170 q171 q172 q173 q174 q175 q176 q177 q178 q179 q180 q181 q182 q183 q184 q185 q186 q187 q188 q189 q190 q191 q192 q193 q194 q195 q196 q197 q198 q199 q200 q201 q202 q203 q204 q205 q206 q207 q208 q209 q210 q211 q212 q213 q214 q215 q216 q217 q218 q219 q220 q221 q222 q223 q224 q225 q226 q227 q228 q229 q230 q231 q232 : Value, Q .normal ⟨#[.string z0, u1, .pointer (some ⟨w.heap.size, 0, none⟩), .nilIface, .string (ba (((t.drop L).drop 1).drop 1)), .string zz, .int .i64 ((i + 2 : Nat) : Int), .pointer (some ⟨w.heap.size + 1, 0, none⟩), .int .i64 ((i + 2 : Nat) : Int), q9, q10, q11, q12, q13, u14, u15, u16, u17, u18, u19, u20, u21, u22, u23, u24, u25, u26, u27, u28, u29, u30, u31, u32, u33, u34, u35, u36, u37, u38, u39, u40, u41, u42, u43, u44, u45, u46, u47, u48, u49, u50, u51, u52, u53, u54, q55, q56, q57, q58, q59, q60, q61, q62, q63, q64, q65, q66, q67, q68, q69, q70, q71, q72, q73, q74, q75, q76, q77, q78, q79, q80, q81, q82, q83, q84, q85, q86, q87, q88, q89, q90, q91, q92, q93, q94, q95, q96, q97, q98, q99, q100, q101, q102, q103, q104, q105, q106, q107, q108, q109, q110, q111, q112, q113, q114, q115, q116, q117, q118, q119, q120, q121, q122, q123, q124, q125, q126, q127, q128, q129, q130, q131, q132, q133, q134, q135, q136, q137, q138, q139, q140, q141, q142, q143, q144, q145, q146, q147, q148, q149, q150, q151, q152, q153, q154, q155, q156, q157, q158, q159, q160, q161, q162, q163, q164, q165, q166, q167, q168, q169, q170, q171, q172, q173, q174, q175, q176, q177, q178, q179, q180, q181, q182, q183, q184, q185, q186, q187, q188, q189, q190, q191, q192, q193, q194, q195, q196, q197, q198, q199, q200, q201, q202, q203, q204, q205, q206, q207, q208, q209, q210, q211, q212, q213, q214, q215, q216, q217, q218, q219, q220, q221, q222, q223, q224, q225, q226, q227, q228, q229, q230, q231, q232, u233, u234, u235, u236, u237, u238, u239, u240, u241, u242, u243, u244, u245, u246, u247, u248, u249, u250, u251, u252, u253, u254, u255, u256, u257, u258, u259, u260, u261, u262, u263, u264, u265, u266, u267, u268, u269, u270, u271, u272, u273, u274, u275, u276, u277, u278, u279], []⟩ wn) :
    Code.wp Tryd.prog rest1c Q ⟨#[.string z0, u1, .pointer (some ⟨w.heap.size, 0, none⟩), .nilIface, .string (ba t), .string zz, .int .i64 (i : Int), .pointer (some ⟨w.heap.size + 1, 0, none⟩), .int .i64 E, .int .i64 (L : Int), .int .u32 a, u11, u12, u13, u14, u15, u16, u17, u18, u19, u20, u21, u22, u23, u24, u25, u26, u27, u28, u29, u30, u31, u32, u33, u34, u35, u36, u37, u38, u39, u40, u41, u42, u43, u44, u45, u46, u47, u48, u49, u50, u51, u52, u53, u54, u55, u56, u57, u58, u59, u60, u61, u62, u63, u64, u65, u66, u67, u68, u69, u70, u71, u72, u73, u74, u75, u76, u77, u78, u79, u80, u81, u82, u83, u84, u85, u86, u87, u88, u89, u90, u91, u92, u93, u94, u95, u96, u97, u98, u99, u100, u101, u102, u103, u104, u105, u106, u107, u108, u109, u110, u111, u112, u113, u114, u115, u116, u117, u118, u119, u120, u121, u122, u123, u124, u125, u126, u127, u128, u129, u130, u131, u132, u133, u134, u135, u136, u137, u138, u139, u140, u141, u142, u143, u144, u145, u146, u147, u148, u149, u150, u151, u152, u153, u154, u155, u156, u157, u158, u159, u160, u161, u162, u163, u164, u165, u166, u167, u168, u169, u170, u171, u172, u173, u174, u175, u176, u177, u178, u179, u180, u181, u182, u183, u184, u185, u186, u187, u188, u189, u190, u191, u192, u193, u194, u195, u196, u197, u198, u199, u200, u201, u202, u203, u204, u205, u206, u207, u208, u209, u210, u211, u212, u213, u214, u215, u216, u217, u218, u219, u220, u221, u222, u223, u224, u225, u226, u227, u228, u229, u230, u231, u232, u233, u234, u235, u236, u237, u238, u239, u240, u241, u242, u243, u244, u245, u246, u247, u248, u249, u250, u251, u252, u253, u254, u255, u256, u257, u258, u259, u260, u261, u262, u263, u264, u265, u266, u267, u268, u269, u270, u271, u272, u273, u274, u275, u276, u277, u278, u279], []⟩ wr := by
  have HRt := Lib.hid hRt
  have HBt := Lib.hid hBt
  have hl0 := blk?_lt k0
  have hl1 := blk?_lt k1
  have hst := ba_size t
  have hsm : (((ba t).size : Nat) : Int) ≤ 1048576 := by rw [hst]; omega
  have hi0 : (0 : Int) ≤ (i : Int) := by omega
  have hL0 : (0 : Int) ≤ (L : Int) := by omega
  have HX := Lib.hid hX
  clear hRt hBt hX
  conv => arg 2; whnf
  have hLn : (L : Int) < (((ba t).size : Nat) : Int) := by omega
  have hLm : L < (ba t).size := by omega
  have hcv := ba_get t HBt.out L hLm
  have hLs' : (L : Int) ≤ (((ba t).size : Nat) : Int) := by omega
  have hLz : ((L : Int) == 0) = false := beq_eq_false_iff_ne.2 (by omega)
  have hx1 : (ba t).extract L (ba t).size = ba (t.drop L) := ba_drop t L (by omega)
  have hB1 : By (t.drop L) := By_drop HBt.out L
  have hS1 := ba_size (t.drop L)
  have hT1 : (t.drop L).length = t.length - L := List.length_drop
  obtain ⟨t1, ht1⟩ : ∃ t1 : List Int, t1 = t.drop L := ⟨_, rfl⟩
  have hg0 : t.getD L 0 = t1.getD 0 0 := by rw [ht1, ← getD_drop, Nat.add_zero]
  rw [← ht1] at hx1 hB1 hS1 hT1
  have p0 : 0 < (ba t1).size := by omega
  have p1 : (0 : Int) < (((ba t1).size : Nat) : Int) := by omega
  have p2 : (1 : Int) ≤ (((ba t1).size : Nat) : Int) := by omega
  have p3 : ((((ba t1).size : Nat) : Int) == 0) = false := beq_eq_false_iff_ne.2 (by omega)
  have c1' := ba_get t1 hB1 0 p0
  have hu1 : wr.cell? ⟨w.heap.size + 1, i, none⟩ = some (.int .u8 (f i)) := by rw [blk?_cell k1]; exact arr16_byte f i (by omega)
  have hu2 : wr.frozen? ⟨w.heap.size + 1, i, none⟩ = false := blk?_frozen k1 _
  have hk2 : ∀ v : Int, blk? (wr.setCell ⟨w.heap.size + 1, i, none⟩ (.int .u8 v)) (w.heap.size + 1) = some (arr16 (upd f i v)) := fun v => by rw [blk?_setSame, k1, Option.map_some, arr16_set _ _ _ (by omega)]
  have hu3 : ∀ v : Int, (wr.setCell ⟨w.heap.size + 1, i, none⟩ (.int .u8 v)).cell? ⟨w.heap.size + 1, i + 1, none⟩ = some (.int .u8 (upd f i v (i + 1))) := fun v => by rw [blk?_cell (hk2 v)]; exact arr16_byte _ (i + 1) (by omega)
  have hu4 : ∀ v : Int, (wr.setCell ⟨w.heap.size + 1, i, none⟩ (.int .u8 v)).frozen? ⟨w.heap.size + 1, i + 1, none⟩ = false := fun v => blk?_frozen (hk2 v) _
  have hi1 : (i : Int) < 16 := by omega
  have HI2 := Lib.hid (show (i : Int) + 1 < 16 by omega)
  have hn1 : i + 1 < 16 := by omega
  rw [← hg0, hat] at c1'
  rw [hat] at hcv
  have p4 : ((((ba t1).size : Nat) : Int) == 1) = false := beq_eq_false_iff_ne.2 (by omega)
  obtain ⟨t2, ht2⟩ : ∃ t2 : List Int, t2 = t1.drop 1 := ⟨_, rfl⟩
  have hx2 : (ba t1).extract 1 (ba t1).size = ba t2 := by rw [ht2]; exact ba_drop t1 1 (by omega)
  have hS2 := ba_size t2
  have hT2 : t2.length = t1.length - 1 := by rw [ht2]; exact List.length_drop
  have hB2 : By t2 := by rw [ht2]; exact By_drop hB1 1
  have r0 : 0 < (ba t2).size := by omega
  have r1 : (0 : Int) < (((ba t2).size : Nat) : Int) := by omega
  have r2 : (1 : Int) ≤ (((ba t2).size : Nat) : Int) := by omega
  have c2' := ba_get t2 hB2 0 r0
  have e2 : t2 = (t.drop L).drop 1 := by rw [ht2, ht1]
  rw [show t2.getD 0 0 = 58 by rw [e2]; exact hat2] at c2'
  have hE' : ¬ (0 ≤ E) := by omega
  obtain ⟨t3, ht3⟩ : ∃ t3 : List Int, t3 = t2.drop 1 := ⟨_, rfl⟩
  have e3 : t3 = ((t.drop L).drop 1).drop 1 := by rw [ht3, e2]
  have hx3 : (ba t2).extract 1 (ba t2).size = ba t3 := by rw [ht3]; exact ba_drop t2 1 (by omega)
  have hS3 := ba_size t3
  rw [← e3] at hn3
  have z0 : ((((ba t3).size : Nat) : Int) == 0) = false := beq_eq_false_iff_ne.2 (by omega)
  have HE3 := Lib.hid e3
  clear hst hS1 hT1 ht1 hg0 hLt hL1 hB1 hat hS2 hT2 ht2 hB2 hat2 e2 ht3 e3 hS3 hn3
  go_upto_region 48 with fail
  have hi2 := HI2.out
  go_upto_region 51 with fail
  obtain ⟨wn, hwn⟩ : ∃ y : World, y = (wr.setCell ⟨w.heap.size + 1, i, none⟩ (.int .u8 (a / 256))).setCell ⟨w.heap.size + 1, i + 1, none⟩ (.int .u8 (a % 256)) := ⟨_, rfl⟩
  have n1 : blk? wn (w.heap.size + 1) = some (arr16 (put2 f i a)) := by rw [hwn, blk?_setSame, hk2, Option.map_some, arr16_set _ _ _ (by omega)]; rfl
  have n0 : blk? wn w.heap.size = some #[.int .u64 0, .int .u64 0, .pointer none] := by rw [hwn, blk?_setLt _ _ _ _ _ (by omega), blk?_setLt _ _ _ _ _ (by omega)]; exact k0
  have hBn : Below w.heap.size w wn := by rw [hwn]; exact (by repeat' (first | (with_reducible exact Below.refl _ _) | (with_reducible assumption) | (with_reducible refine Below.alloc ?_ ?_ _) | (with_reducible refine Below.drew ?_) | (with_reducible refine below_drewN ?_ _) | (with_reducible refine Below.setCell ?_ ?_ _) | (with_reducible refine below_setRow' ?_ ?_ _) | go_size))
  have m0 := blk?_lt n0
  have m1 := blk?_lt n1
  obtain ⟨i2, hi2'⟩ : ∃ n : Nat, n = i + 2 := ⟨_, rfl⟩
  have hii : (i : Int) + 2 = (i2 : Int) := by omega
  have HI2' := Lib.hid hi2'
  rw [← hwn, hii]
  clear hii hi2' hwn hu1 hu2 hu3 hu4 hk2 hi2 hn1 k0 k1 hBw hl0 hl1
  go_wp2
  have hh := HI2'.out
  subst hh
  have h3 := HE3.out
  subst h3
  exact HX.out wn n0 n1 hBn _ _ _ _ _ _ _ _ _ _ _ _ _ _ _ _ _ _ _ _ _ _ _ _ _ _ _ _ _ _ _ _ _ _ _ _ _ _ _ _ _ _ _ _ _ _ _ _ _ _ _ _ _ _ _ _ _ _ _ _ _ _ _ _ _ _ _ _ _ _ _ _ _ _ _ _ _ _ _ _ _ _ _ _ _ _ _ _ _ _ _ _ _ _ _ _ _ _ _ _ _ _ _ _ _ _ _ _ _ _ _ _ _ _ _ _ _ _ _ _ _ _ _ _ _ _ _ _ _ _ _ _ _ _ _ _ _ _ _ _ _ _ _ _ _ _ _ _ _ _ _ _ _ _ _ _ _ _ _ _ _ _ _ _ _ _ _ _ _ _ _ _ _ _ _ _ _ _ _ _ _ _ _
end Go.Proofs.YtmlkcgacneealaaDoor
set_option linter.unusedVariables false
set_option linter.unusedSimpArgs false
namespace Go.Proofs.YtmlkcgacneealaaDoor
open Go.RowKit
set_option maxHeartbeats 8000000 in
set_option maxRecDepth 100000 in
theorem con_dots (w wr : World) (Q : Exit → Act → World → Prop) (hRt : Rt w Q) (z0 zz : ByteArray) (t : List Int) (hBt : By t) (ht : t.length ≤ 1048576) (L i : Nat) (a E : Int) (ha0 : 0 ≤ a) (ha1 : a < 65536) (f : Nat → Int) (k0 : blk? wr w.heap.size = some #[.int .u64 0, .int .u64 0, .pointer none]) (k1 : blk? wr (w.heap.size + 1) = some (arr16 f)) (hBw : Below w.heap.size w wr) {u1 u11 u12 u13 u14 u15 u16 u17 u18 u19 u20 u21 u22 u23 u24 u25 u26 u27 u28 u29 u30 u31 u32 u33 u34 u35 u36 u37 u38 u39 u40 u41 u42 u43 u44 u45 u46 u47 u48 u49 u50 u51 u52 u53 u54 u55 u56 u57 u58 u59 u60 u61 u62 u63 u64 u65 u66 u67 u68 u69 u70 u71 u72 u73 u74 u75 u76 u77 u78 u79 u80 u81 u82 u83 u84 u85 u86 u87 u88 u89 u90 u91 u92 u93 u94 u95 u96 u97 u98 u99 u100 u101 u102 u103 u104 u105 u106 u107 u108 u109 u110 u111 u112 u113 u114 u115 u116 u117 u118 u119 u120 u121 u122 u123 u124 u125 u126 u127 u128 u129 u130 u131 u132 u133 u134 u135 u136 u137 u138 u139 u140 u141 u142 u143 u144 u145 u146 u147 u148 u149 u150 u151 u152 u153 u154 u155 u156 u157 u158 u159 u160 u161 u162 u163 u164 u165 u166 u167 u168 u169 u170 u171 u172 u173 u174 u175 u176 u177 u178 u179 u180 u181 u182 u183 u184 u185 u186 u187 u188 u189 u190 u191 u192 u193 u194 u195 u196 u197 u198 u199 u200 u201 u202 u203 u204 u205 u206 u207 u208 u209 u210 u211 u212 u213 u214 u215 u216 u217 u218 u219 u220 u221 u222 u223 u224 u225 u226 u227 u228 u229 u230 u231 u232 u233 u234 u235 u236 u237 u238 u239 u240 u241 u242 u243 u244 u245 u246 u247 u248 u249 u250 u251 u252 u253 u254 u255 u256 u257 u258 u259 u260 u261 u262 u263 u264 u265 u266 u267 u268 u269 u270 u271 u272 u273 u274 u275 u276 u277 u278 u279 : Value} (hLt : L < t.length) (hL1 : 1 ≤ L) (hat : t.getD L 0 = 46) (hEi : E < 0 → i = 12) (hi : i + 4 ≤ 16) (T0 : List Int) (hSuf : Suf T0 t) (hIn : Inn z0 zz T0) (x : Nat → Int) (hx : ∀ p, p ≤ 3 → 0 ≤ x p ∧ x p < 256) (htx : t = tf x 0 3) (hX : ∀ wn : World, blk? wn w.heap.size = some #[.int .u64 0, .int .u64 0, .pointer none] → blk? wn (w.heap.size + 1) = some (arr16 (put4 f i x)) → Below w.heap.size w wn → ∀ q9 q10 q11 q12 q13 q55 q56 q57 q58 q59 q60 q61 q62 q63 q64 q65 q66 q67 q68 q69 q70 q71 q72 q73 q74 q75 q76 q77 q78 q79 q80 q81 q82 q83 q84 q85 q86 q87 q88 q89 q90 q91 q92 q93 q94 q95 q96 q97 q98 q99 q100 q101 q102 q103 q104 q105 q106 q107 q108 q109 q110 q111 q112 q113 q114 q115 q116 q117 q118 q119 q120 q121 q122 q123 q124 q125 q126 q127 q128 q129 q130 q131 q132 q133 q134 q135 q136 q137 q138 q139 q140 q141 q142 q143 q144 q145 q146 q147 q148 q149 q150 q151 q152 q153 q154 q155 q156 q157 q158 q159 q160 q161 q162 q163 q164 q165 q166 q167 q168 q169 q170 q171 q172 q173 q174 q175 q176 q177 q178 q179 q180 q181 q182 q183 q184 q185 q186 q187 q188 q189 q190 q191 q192 q193 q194 q195 q196 q197 q198 q199 q200 q201 q202 q203 q204 q205 q206 q207 q208 q209 q210 q211 q212 q213 q214 q215 q216 q217 q218 q219 q220 q221 q222 q223 q224 q225 q226 q227 q228 q229 q230 q231 q232 : Value, Q (.exit 0) ⟨#[.string z0, u1, .pointer (some ⟨w.heap.size, 0, none⟩), .nilIface, .string ⟨#[]⟩, .string zz, .int .i64 ((i + 4 : Nat) : Int), .pointer (some ⟨w.heap.size + 1, 0, none⟩), .int .i64 E, q9, q10, q11, q12, q13, u14, u15, u16, u17, u18, u19, u20, u21, u22, u23, u24, u25, u26, u27, u28, u29, u30, u31, u32, u33, u34, u35, u36, u37, u38, u39, u40, u41, u42, u43, u44, u45, u46, u47, u48, u49, u50, u51, u52, u53, u54, q55, q56, q57, q58, q59, q60, q61, q62, q63, q64, q65, q66, q67, q68, q69, q70, q71, q72, q73, q74, q75, q76, q77, q78, q79, q80, q81, q82, q83, q84, q85, q86, q87, q88, q89, q90, q91, q92, q93, q94, q95, q96, q97, q98, q99, q100, q101, q102, q103, q104, q105, q106, q107, q108, q109, q110, q111, q112, q113, q114, q115, q116, q117, q118, q119, q120, q121, q122, q123, q124, q125, q126, q127, q128, q129, q130, q131, q132, q133, q134, q135, q136, q137, q138, q139, q140, q141, q142, q143, q144, q145, q146, q147, q148, q149, q150, q151, q152, q153, q154, q155, q156, q157, q158, q159, q160, q161, q162, q163, q164, q165, q166, q167, q168, q169, q170, q171, q172, q173, q174, q175, q176, q177, q178, q179, q180, q181, q182, q183, q184, q185, q186, q187, q188, q189, q190, q191, q192, q193, q194, q195, q196, q197, q198, q199, q200, q201, q202, q203, q204, q205, q206, q207, q208, q209, q210, q211, q212, q213, q214, q215, q216, q217, q218, q219, q220, q221, q222, q223, q224, q225, q226, q227, q228, q229, q230, q231, q232, u233, u234, u235, u236, u237, u238, u239, u240, u241, u242, u243, u244, u245, u246, u247, u248, u249, u250, u251, u252, u253, u254, u255, u256, u257, u258, u259, u260, u261, u262, u263, u264, u265, u266, u267, u268, u269, u270, u271, u272, u273, u274, u275, u276, u277, u278, u279], []⟩ wn) :
    Code.wp Tryd.prog rest1c Q ⟨#[.string z0, u1, .pointer (some ⟨w.heap.size, 0, none⟩), .nilIface, .string (ba t), .string zz, .int .i64 (i : Int), .pointer (some ⟨w.heap.size + 1, 0, none⟩), .int .i64 E, .int .i64 (L : Int), .int .u32 a, u11, u12, u13, u14, u15, u16, u17, u18, u19, u20, u21, u22, u23, u24, u25, u26, u27, u28, u29, u30, u31, u32, u33, u34, u35, u36, u37, u38, u39, u40, u41, u42, u43, u44, u45, u46, u47, u48, u49, u50, u51, u52, u53, u54, u55, u56, u57, u58, u59, u60, u61, u62, u63, u64, u65, u66, u67, u68, u69, u70, u71, u72, u73, u74, u75, u76, u77, u78, u79, u80, u81, u82, u83, u84, u85, u86, u87, u88, u89, u90, u91, u92, u93, u94, u95, u96, u97, u98, u99, u100, u101, u102, u103, u104, u105, u106, u107, u108, u109, u110, u111, u112, u113, u114, u115, u116, u117, u118, u119, u120, u121, u122, u123, u124, u125, u126, u127, u128, u129, u130, u131, u132, u133, u134, u135, u136, u137, u138, u139, u140, u141, u142, u143, u144, u145, u146, u147, u148, u149, u150, u151, u152, u153, u154, u155, u156, u157, u158, u159, u160, u161, u162, u163, u164, u165, u166, u167, u168, u169, u170, u171, u172, u173, u174, u175, u176, u177, u178, u179, u180, u181, u182, u183, u184, u185, u186, u187, u188, u189, u190, u191, u192, u193, u194, u195, u196, u197, u198, u199, u200, u201, u202, u203, u204, u205, u206, u207, u208, u209, u210, u211, u212, u213, u214, u215, u216, u217, u218, u219, u220, u221, u222, u223, u224, u225, u226, u227, u228, u229, u230, u231, u232, u233, u234, u235, u236, u237, u238, u239, u240, u241, u242, u243, u244, u245, u246, u247, u248, u249, u250, u251, u252, u253, u254, u255, u256, u257, u258, u259, u260, u261, u262, u263, u264, u265, u266, u267, u268, u269, u270, u271, u272, u273, u274, u275, u276, u277, u278, u279], []⟩ wr := by
  have HRt := Lib.hid hRt
  have HBt := Lib.hid hBt
  have hl0 := blk?_lt k0
  have hl1 := blk?_lt k1
  have hst := ba_size t
  have hsm : (((ba t).size : Nat) : Int) ≤ 1048576 := by rw [hst]; omega
  have hi0 : (0 : Int) ≤ (i : Int) := by omega
  have hL0 : (0 : Int) ≤ (L : Int) := by omega
  have HX := Lib.hid hX
  clear hRt hBt hX
  conv => arg 2; whnf
  have hLn : (L : Int) < (((ba t).size : Nat) : Int) := by omega
  have hLm : L < (ba t).size := by omega
  have hcv := ba_get t HBt.out L hLm
  have hLs' : (L : Int) ≤ (((ba t).size : Nat) : Int) := by omega
  have hLz : ((L : Int) == 0) = false := beq_eq_false_iff_ne.2 (by omega)
  rw [hat] at hcv
  obtain ⟨in1, in2, in3, in4⟩ := hIn
  obtain ⟨K, hK⟩ : ∃ K : Nat, K = T0.length - t.length := ⟨_, rfl⟩
  obtain ⟨M, hM⟩ : ∃ M : Nat, M = T0.length := ⟨_, rfl⟩
  have hz : z0.extract K M = ba (tf x 0 3) := by rw [in2 K M (by omega), hM, List.take_length, hK, hSuf.2, htx]
  have hMK : (M : Int) - (((ba t).size : Nat) : Int) = (K : Int) := by have := hSuf.1; omega
  have hcall := fun (wq : World) (c : Nat) (hc : 4 ≤ c) (hb : blk? wq (w.heap.size + 1) = some (arr16 f)) => prs4f x hx z0 K M (by omega) (by omega) hz (by omega) (w.heap.size + 1) i c hc (arr16 f) (by rw [arr16_size]; omega) wq hb
  have HCall := Lib.hid hcall
  have hi2 : ¬ (16 < (i : Int) + 4) := by omega
  have hi3 : (i : Int) + 4 ≤ 16 := by omega
  have hi1 : (i : Int) < 16 := by omega
  have vK := wr64 (K : Int) (by omega) (by omega)
  have vM := wr64 (M : Int) (by omega) (by omega)
  have hsl := sl23 (w.heap.size + 1) i (i + 4) (i : Int) ((i : Int) + 4) rfl (by omega) (by omega) hi
  rw [show i + 4 - i = 4 by omega] at hsl
  have hc4 : 4 ≤ 16 - i := by omega
  have hQ1 : w.heap.size < wr.heap.size + 1 := by omega
  have HIx := Lib.hid (show i + 4 ≤ 16 ∧ (i : Int) + 4 = ((i + 4 : Nat) : Int) from ⟨hi, by omega⟩)
  obtain ⟨NZ, hNZ⟩ : ∃ n : Nat, n = zz.size := ⟨_, rfl⟩
  obtain ⟨N0, hN0⟩ : ∃ n : Nat, n = z0.size := ⟨_, rfl⟩
  have g1 : zz.size = NZ := hNZ.symm
  have g2 : z0.size = N0 := hN0.symm
  by_cases hE : E < 0
  · have hi12 : ((i : Int) != 12) = false := by rw [hEi hE]; rfl
    rcases in4 with ⟨b1, b2⟩ | ⟨b1, b2⟩
    · have g3 : ¬ ((0 : Int) < (NZ : Int)) := by omega
      have g4 : (N0 : Int) = (M : Int) := by omega
      clear hst hat hLt hi hL1 hEi hSuf in1 in2 in3 hK hM hz hcall htx hx b1 b2 hNZ hN0
      go_wp2_with (first
        | (go_at_call 173; (try simp only [vK, vM]); (with_reducible refine (HCall.out _ _ ?_ ?_).mono ?_); omega; go_simp; rintro e1 w1 ⟨rfl, hbuf, hgr⟩; (try dsimp only); have hk1 := blk?_gx hgr; have hB1 := GX.below (B := w.heap.size) (a := w) (by repeat' (first | (with_reducible exact Below.refl _ _) | (with_reducible assumption) | (with_reducible refine Below.alloc ?_ ?_ _) | (with_reducible refine Below.drew ?_) | (with_reducible refine below_drewN ?_ _) | (with_reducible refine Below.setCell ?_ ?_ _) | (with_reducible refine below_setRow' ?_ ?_ _) | go_size)) hgr (by omega) (by omega); have hL9 : w.heap.size + 1 < w1.heap.size := (by have hS1 := hgr.size; omega); have hL8 : w.heap.size < w1.heap.size := (by omega); clear hgr))
      rw [fs_put4 _ _ _ HIx.out.1] at hbuf
      rw [HIx.out.2]
      refine HX.out _ ?_ hbuf hB1 _ _ _ _ _ _ _ _ _ _ _ _ _ _ _ _ _ _ _ _ _ _ _ _ _ _ _ _ _ _ _ _ _ _ _ _ _ _ _ _ _ _ _ _ _ _ _ _ _ _ _ _ _ _ _ _ _ _ _ _ _ _ _ _ _ _ _ _ _ _ _ _ _ _ _ _ _ _ _ _ _ _ _ _ _ _ _ _ _ _ _ _ _ _ _ _ _ _ _ _ _ _ _ _ _ _ _ _ _ _ _ _ _ _ _ _ _ _ _ _ _ _ _ _ _ _ _ _ _ _ _ _ _ _ _ _ _ _ _ _ _ _ _ _ _ _ _ _ _ _ _ _ _ _ _ _ _ _ _ _ _ _ _ _ _ _ _ _ _ _ _ _ _ _ _ _ _ _ _ _ _ _ _
      rw [hk1 _ hl0 (by omega)]
      exact k0
    · have g3 : (0 : Int) < (NZ : Int) := by omega
      obtain ⟨N1, hN1⟩ : ∃ n : Nat, n = NZ + 1 := ⟨_, rfl⟩
      have g5 : (NZ : Int) + 1 = (N1 : Int) := by omega
      have g6 : (N0 : Int) - (N1 : Int) = (M : Int) := by omega
      have v1 := wr64 (N1 : Int) (by omega) (by omega)
      clear hst hat hLt hi hL1 hEi hSuf in1 in2 in3 hK hM hz hcall htx hx b1 b2 hNZ hN0 hN1
      go_wp2_with (first
        | (go_at_call 173; (try simp only [vK, vM]); (with_reducible refine (HCall.out _ _ ?_ ?_).mono ?_); omega; go_simp; rintro e1 w1 ⟨rfl, hbuf, hgr⟩; (try dsimp only); have hk1 := blk?_gx hgr; have hB1 := GX.below (B := w.heap.size) (a := w) (by repeat' (first | (with_reducible exact Below.refl _ _) | (with_reducible assumption) | (with_reducible refine Below.alloc ?_ ?_ _) | (with_reducible refine Below.drew ?_) | (with_reducible refine below_drewN ?_ _) | (with_reducible refine Below.setCell ?_ ?_ _) | (with_reducible refine below_setRow' ?_ ?_ _) | go_size)) hgr (by omega) (by omega); have hL9 : w.heap.size + 1 < w1.heap.size := (by have hS1 := hgr.size; omega); have hL8 : w.heap.size < w1.heap.size := (by omega); clear hgr))
      rw [fs_put4 _ _ _ HIx.out.1] at hbuf
      rw [HIx.out.2]
      refine HX.out _ ?_ hbuf hB1 _ _ _ _ _ _ _ _ _ _ _ _ _ _ _ _ _ _ _ _ _ _ _ _ _ _ _ _ _ _ _ _ _ _ _ _ _ _ _ _ _ _ _ _ _ _ _ _ _ _ _ _ _ _ _ _ _ _ _ _ _ _ _ _ _ _ _ _ _ _ _ _ _ _ _ _ _ _ _ _ _ _ _ _ _ _ _ _ _ _ _ _ _ _ _ _ _ _ _ _ _ _ _ _ _ _ _ _ _ _ _ _ _ _ _ _ _ _ _ _ _ _ _ _ _ _ _ _ _ _ _ _ _ _ _ _ _ _ _ _ _ _ _ _ _ _ _ _ _ _ _ _ _ _ _ _ _ _ _ _ _ _ _ _ _ _ _ _ _ _ _ _ _ _ _ _ _ _ _ _ _ _ _
      rw [hk1 _ hl0 (by omega)]
      exact k0
  · rcases in4 with ⟨b1, b2⟩ | ⟨b1, b2⟩
    · have g3 : ¬ ((0 : Int) < (NZ : Int)) := by omega
      have g4 : (N0 : Int) = (M : Int) := by omega
      clear hst hat hLt hi hL1 hEi hSuf in1 in2 in3 hK hM hz hcall htx hx b1 b2 hNZ hN0
      go_wp2_with (first
        | (go_at_call 173; (try simp only [vK, vM]); (with_reducible refine (HCall.out _ _ ?_ ?_).mono ?_); omega; go_simp; rintro e1 w1 ⟨rfl, hbuf, hgr⟩; (try dsimp only); have hk1 := blk?_gx hgr; have hB1 := GX.below (B := w.heap.size) (a := w) (by repeat' (first | (with_reducible exact Below.refl _ _) | (with_reducible assumption) | (with_reducible refine Below.alloc ?_ ?_ _) | (with_reducible refine Below.drew ?_) | (with_reducible refine below_drewN ?_ _) | (with_reducible refine Below.setCell ?_ ?_ _) | (with_reducible refine below_setRow' ?_ ?_ _) | go_size)) hgr (by omega) (by omega); have hL9 : w.heap.size + 1 < w1.heap.size := (by have hS1 := hgr.size; omega); have hL8 : w.heap.size < w1.heap.size := (by omega); clear hgr))
      rw [fs_put4 _ _ _ HIx.out.1] at hbuf
      rw [HIx.out.2]
      refine HX.out _ ?_ hbuf hB1 _ _ _ _ _ _ _ _ _ _ _ _ _ _ _ _ _ _ _ _ _ _ _ _ _ _ _ _ _ _ _ _ _ _ _ _ _ _ _ _ _ _ _ _ _ _ _ _ _ _ _ _ _ _ _ _ _ _ _ _ _ _ _ _ _ _ _ _ _ _ _ _ _ _ _ _ _ _ _ _ _ _ _ _ _ _ _ _ _ _ _ _ _ _ _ _ _ _ _ _ _ _ _ _ _ _ _ _ _ _ _ _ _ _ _ _ _ _ _ _ _ _ _ _ _ _ _ _ _ _ _ _ _ _ _ _ _ _ _ _ _ _ _ _ _ _ _ _ _ _ _ _ _ _ _ _ _ _ _ _ _ _ _ _ _ _ _ _ _ _ _ _ _ _ _ _ _ _ _ _ _ _ _
      rw [hk1 _ hl0 (by omega)]
      exact k0
    · have g3 : (0 : Int) < (NZ : Int) := by omega
      obtain ⟨N1, hN1⟩ : ∃ n : Nat, n = NZ + 1 := ⟨_, rfl⟩
      have g5 : (NZ : Int) + 1 = (N1 : Int) := by omega
      have g6 : (N0 : Int) - (N1 : Int) = (M : Int) := by omega
      have v1 := wr64 (N1 : Int) (by omega) (by omega)
      clear hst hat hLt hi hL1 hEi hSuf in1 in2 in3 hK hM hz hcall htx hx b1 b2 hNZ hN0 hN1
      go_wp2_with (first
        | (go_at_call 173; (try simp only [vK, vM]); (with_reducible refine (HCall.out _ _ ?_ ?_).mono ?_); omega; go_simp; rintro e1 w1 ⟨rfl, hbuf, hgr⟩; (try dsimp only); have hk1 := blk?_gx hgr; have hB1 := GX.below (B := w.heap.size) (a := w) (by repeat' (first | (with_reducible exact Below.refl _ _) | (with_reducible assumption) | (with_reducible refine Below.alloc ?_ ?_ _) | (with_reducible refine Below.drew ?_) | (with_reducible refine below_drewN ?_ _) | (with_reducible refine Below.setCell ?_ ?_ _) | (with_reducible refine below_setRow' ?_ ?_ _) | go_size)) hgr (by omega) (by omega); have hL9 : w.heap.size + 1 < w1.heap.size := (by have hS1 := hgr.size; omega); have hL8 : w.heap.size < w1.heap.size := (by omega); clear hgr))
      rw [fs_put4 _ _ _ HIx.out.1] at hbuf
      rw [HIx.out.2]
      refine HX.out _ ?_ hbuf hB1 _ _ _ _ _ _ _ _ _ _ _ _ _ _ _ _ _ _ _ _ _ _ _ _ _ _ _ _ _ _ _ _ _ _ _ _ _ _ _ _ _ _ _ _ _ _ _ _ _ _ _ _ _ _ _ _ _ _ _ _ _ _ _ _ _ _ _ _ _ _ _ _ _ _ _ _ _ _ _ _ _ _ _ _ _ _ _ _ _ _ _ _ _ _ _ _ _ _ _ _ _ _ _ _ _ _ _ _ _ _ _ _ _ _ _ _ _ _ _ _ _ _ _ _ _ _ _ _ _ _ _ _ _ _ _ _ _ _ _ _ _ _ _ _ _ _ _ _ _ _ _ _ _ _ _ _ _ _ _ _ _ _ _ _ _ _ _ _ _ _ _ _ _ _ _ _ _ _ _ _ _ _ _
      rw [hk1 _ hl0 (by omega)]
      exact k0
def blk0 : Code → Option Code
  | .seq (.block 0 c) _ => some (.block 0 c)
  | .seq _ b => blk0 b
  | _ => none
/-- The outer loop. -/
noncomputable def out0c : Code := ((Tryd.f160.body.bind blk0).getD .skip)
set_option maxHeartbeats 8000000 in
set_option maxRecDepth 100000 in
theorem out7 (w wr : World) (Q : Exit → Act → World → Prop) (hRt : Rt w Q) (z0 zz : ByteArray) (T0 : List Int) (hIn : Inn z0 zz T0) (t0 : List Int) (e0 : Option Nat) (hB0 : By t0) (hl0 : t0.length ≤ 1048576) (hS0 : Suf T0 t0) (he0 : ∀ q, e0 = some q → q ≤ 0) (hF : fin7 (p7 8 t0 0 e0 zb) = none) (k0 : blk? wr w.heap.size = some #[.int .u64 0, .int .u64 0, .pointer none]) (k1 : blk? wr (w.heap.size + 1) = some (arr16 zb)) (hBw : Below w.heap.size w wr) {u1 u9 u10 u11 u12 u13 u14 u15 u16 u17 u18 u19 u20 u21 u22 u23 u24 u25 u26 u27 u28 u29 u30 u31 u32 u33 u34 u35 u36 u37 u38 u39 u40 u41 u42 u43 u44 u45 u46 u47 u48 u49 u50 u51 u52 u53 u54 u55 u56 u57 u58 u59 u60 u61 u62 u63 u64 u65 u66 u67 u68 u69 u70 u71 u72 u73 u74 u75 u76 u77 u78 u79 u80 u81 u82 u83 u84 u85 u86 u87 u88 u89 u90 u91 u92 u93 u94 u95 u96 u97 u98 u99 u100 u101 u102 u103 u104 u105 u106 u107 u108 u109 u110 u111 u112 u113 u114 u115 u116 u117 u118 u119 u120 u121 u122 u123 u124 u125 u126 u127 u128 u129 u130 u131 u132 u133 u134 u135 u136 u137 u138 u139 u140 u141 u142 u143 u144 u145 u146 u147 u148 u149 u150 u151 u152 u153 u154 u155 u156 u157 u158 u159 u160 u161 u162 u163 u164 u165 u166 u167 u168 u169 u170 u171 u172 u173 u174 u175 u176 u177 u178 u179 u180 u181 u182 u183 u184 u185 u186 u187 u188 u189 u190 u191 u192 u193 u194 u195 u196 u197 u198 u199 u200 u201 u202 u203 u204 u205 u206 u207 u208 u209 u210 u211 u212 u213 u214 u215 u216 u217 u218 u219 u220 u221 u222 u223 u224 u225 u226 u227 u228 u229 u230 u231 u232 u233 u234 u235 u236 u237 u238 u239 u240 u241 u242 u243 u244 u245 u246 u247 u248 u249 u250 u251 u252 u253 u254 u255 u256 u257 u258 u259 u260 u261 u262 u263 u264 u265 u266 u267 u268 u269 u270 u271 u272 u273 u274 u275 u276 u277 u278 u279 : Value}
    (hout : ∀ (wx : World) (t : List Int) (i : Nat) (e : Option Nat) (f : Nat → Int), t.length ≤ 1048576 → fin7 (some (t, i, e, f)) = none → blk? wx w.heap.size = some #[.int .u64 0, .int .u64 0, .pointer none] → Below w.heap.size w wx → ∀ q1 q9 q10 q11 q12 q13 q14 q15 q16 q17 q18 q19 q20 q21 q22 q23 q24 q25 q26 q27 q28 q29 q30 q31 q32 q33 q34 q35 q36 q37 q38 q39 q40 q41 q42 q43 q44 q45 q46 q47 q48 q49 q50 q51 q52 q53 q54 q55 q56 q57 q58 q59 q60 q61 q62 q63 q64 q65 q66 q67 q68 q69 q70 q71 q72 q73 q74 q75 q76 q77 q78 q79 q80 q81 q82 q83 q84 q85 q86 q87 q88 q89 q90 q91 q92 q93 q94 q95 q96 q97 q98 q99 q100 q101 q102 q103 q104 q105 q106 q107 q108 q109 q110 q111 q112 q113 q114 q115 q116 q117 q118 q119 q120 q121 q122 q123 q124 q125 q126 q127 q128 q129 q130 q131 q132 q133 q134 q135 q136 q137 q138 q139 q140 q141 q142 q143 q144 q145 q146 q147 q148 q149 q150 q151 q152 q153 q154 q155 q156 q157 q158 q159 q160 q161 q162 q163 q164 q165 q166 q167 q168 q169 q170 q171 q172 q173 q174 q175 q176 q177 q178 q179 q180 q181 q182 q183 q184 q185 q186 q187 q188 q189 q190 q191 q192 q193 q194 q195 q196 q197 q198 q199 q200 q201 q202 q203 q204 q205 q206 q207 q208 q209 q210 q211 q212 q213 q214 q215 q216 q217 q218 q219 q220 q221 q222 q223 q224 q225 q226 q227 q228 q229 q230 q231 q232 q233 q234 q235 q236 q237 q238 q239 q240 q241 q242 q243 q244 q245 q246 q247 q248 q249 q250 q251 q252 q253 q254 q255 q256 q257 q258 q259 q260 q261 q262 q263 q264 q265 q266 q267 q268 q269 q270 q271 q272 q273 q274 q275 q276 q277 q278 q279 : Value, Q .normal ⟨#[.string z0, q1, .pointer (some ⟨w.heap.size, 0, none⟩), .nilIface, .string (ba t), .string zz, .int .i64 (i : Int), .pointer (some ⟨w.heap.size + 1, 0, none⟩), .int .i64 (ev e), q9, q10, q11, q12, q13, q14, q15, q16, q17, q18, q19, q20, q21, q22, q23, q24, q25, q26, q27, q28, q29, q30, q31, q32, q33, q34, q35, q36, q37, q38, q39, q40, q41, q42, q43, q44, q45, q46, q47, q48, q49, q50, q51, q52, q53, q54, q55, q56, q57, q58, q59, q60, q61, q62, q63, q64, q65, q66, q67, q68, q69, q70, q71, q72, q73, q74, q75, q76, q77, q78, q79, q80, q81, q82, q83, q84, q85, q86, q87, q88, q89, q90, q91, q92, q93, q94, q95, q96, q97, q98, q99, q100, q101, q102, q103, q104, q105, q106, q107, q108, q109, q110, q111, q112, q113, q114, q115, q116, q117, q118, q119, q120, q121, q122, q123, q124, q125, q126, q127, q128, q129, q130, q131, q132, q133, q134, q135, q136, q137, q138, q139, q140, q141, q142, q143, q144, q145, q146, q147, q148, q149, q150, q151, q152, q153, q154, q155, q156, q157, q158, q159, q160, q161, q162, q163, q164, q165, q166, q167, q168, q169, q170, q171, q172, q173, q174, q175, q176, q177, q178, q179, q180, q181, q182, q183, q184, q185, q186, q187, q188, q189, q190, q191, q192, q193, q194, q195, q196, q197, q198, q199, q200, q201, q202, q203, q204, q205, q206, q207, q208, q209, q210, q211, q212, q213, q214, q215, q216, q217, q218, q219, q220, q221, q222, q223, q224, q225, q226, q227, q228, q229, q230, q231, q232, q233, q234, q235, q236, q237, q238, q239, q240, q241, q242, q243, q244, q245, q246, q247, q248, q249, q250, q251, q252, q253, q254, q255, q256, q257, q258, q259, q260, q261, q262, q263, q264, q265, q266, q267, q268, q269, q270, q271, q272, q273, q274, q275, q276, q277, q278, q279], []⟩ wx) :
    Code.wp Tryd.prog out0c Q ⟨#[.string z0, u1, .pointer (some ⟨w.heap.size, 0, none⟩), .nilIface, .string (ba t0), .string zz, .int .i64 0, .pointer (some ⟨w.heap.size + 1, 0, none⟩), .int .i64 (ev e0), u9, u10, u11, u12, u13, u14, u15, u16, u17, u18, u19, u20, u21, u22, u23, u24, u25, u26, u27, u28, u29, u30, u31, u32, u33, u34, u35, u36, u37, u38, u39, u40, u41, u42, u43, u44, u45, u46, u47, u48, u49, u50, u51, u52, u53, u54, u55, u56, u57, u58, u59, u60, u61, u62, u63, u64, u65, u66, u67, u68, u69, u70, u71, u72, u73, u74, u75, u76, u77, u78, u79, u80, u81, u82, u83, u84, u85, u86, u87, u88, u89, u90, u91, u92, u93, u94, u95, u96, u97, u98, u99, u100, u101, u102, u103, u104, u105, u106, u107, u108, u109, u110, u111, u112, u113, u114, u115, u116, u117, u118, u119, u120, u121, u122, u123, u124, u125, u126, u127, u128, u129, u130, u131, u132, u133, u134, u135, u136, u137, u138, u139, u140, u141, u142, u143, u144, u145, u146, u147, u148, u149, u150, u151, u152, u153, u154, u155, u156, u157, u158, u159, u160, u161, u162, u163, u164, u165, u166, u167, u168, u169, u170, u171, u172, u173, u174, u175, u176, u177, u178, u179, u180, u181, u182, u183, u184, u185, u186, u187, u188, u189, u190, u191, u192, u193, u194, u195, u196, u197, u198, u199, u200, u201, u202, u203, u204, u205, u206, u207, u208, u209, u210, u211, u212, u213, u214, u215, u216, u217, u218, u219, u220, u221, u222, u223, u224, u225, u226, u227, u228, u229, u230, u231, u232, u233, u234, u235, u236, u237, u238, u239, u240, u241, u242, u243, u244, u245, u246, u247, u248, u249, u250, u251, u252, u253, u254, u255, u256, u257, u258, u259, u260, u261, u262, u263, u264, u265, u266, u267, u268, u269, u270, u271, u272, u273, u274, u275, u276, u277, u278, u279], []⟩ wr := by
  have HRt := Lib.hid hRt
  have HOut := Lib.hid hout
  have HIn := Lib.hid hIn
  have H0 := Lib.hid (And.intro hB0 (And.intro hS0 (And.intro he0 hF)))
  clear hRt hout hIn hB0 hS0 he0 hF
  conv => arg 2; whnf
  dsimp only
  go_wp2_with fail
  go_loopw [3, 4, 6, 8, 9, 10, 11, 12, 13] (fun v3 v4 v6 v8 v9 v10 v11 v12 v13 wr => ∃ (t : List Int) (k i : Nat) (e : Option Nat) (f : Nat → Int), i = 2 * k ∧ k ≤ 8 ∧ By t ∧ t.length ≤ 1048576 ∧ Suf T0 t ∧ (∀ q, e = some q → q ≤ i) ∧ fin7 (p7 (8 - k) t i e f) = none ∧ v3 = .nilIface ∧ v4 = .string (ba t) ∧ v6 = .int .i64 (i : Int) ∧ v8 = .int .i64 (ev e) ∧ blk? wr w.heap.size = some #[.int .u64 0, .int .u64 0, .pointer none] ∧ blk? wr (w.heap.size + 1) = some (arr16 f) ∧ Below w.heap.size w wr) (fun _ _ i _ _ _ _ _ _ _ => 16 - (intOf i).toNat)
  case atStart => exact ⟨t0, 0, 0, e0, zb, rfl, by omega, H0.out.1, hl0, H0.out.2.1, H0.out.2.2.1, H0.out.2.2.2, rfl, rfl, rfl, rfl, k0, k1, hBw⟩
  case round =>
    clear k0 k1 hBw
    obtain ⟨t, k, i, e, f, hik, hk8, hBt, hlt, hSuf, hek, hR, rfl, rfl, rfl, rfl, k0, k1, hBw⟩ := hrel
    have HBt := Lib.hid hBt
    have HSuf := Lib.hid hSuf
    have HEk := Lib.hid hek
    have HR := Lib.hid hR
    have HIK := Lib.hid hik
    clear hR hBt hSuf hek
    have hi0 : (0 : Int) ≤ (i : Int) := by omega
    by_cases hk : k < 8
    · have hi1 : (i : Int) < 16 := by omega
      have hstep := p7_step (7 - k) t i e f (by rw [show 7 - k + 1 = 8 - k by omega]; exact HR.out)
      have HW := Lib.hid hstep
      clear hik hstep
      go_upto_block 2 with fail
      refine inn7 w wr _ (by exact fun a w' h1 h2 h3 h4 h5 => HRt.out a w' h1 h2 h3 h4 h5) z0 zz t HBt.out hlt i (ev e) k0 hBw (fun hl4 q11 q12 q13 q55 q56 q57 q58 q59 q60 q61 q62 q63 q64 q65 q66 q67 q68 q69 q70 q71 q72 q73 q74 q75 q76 q77 q78 q79 q80 q81 q82 q83 q84 q85 q86 q87 q88 q89 q90 q91 q92 q93 q94 q95 q96 q97 q98 q99 q100 q101 q102 q103 q104 q105 q106 q107 q108 q109 q110 q111 q112 q113 q114 q115 q116 q117 q118 q119 q120 q121 q122 q123 q124 q125 q126 q127 q128 q129 q130 q131 q132 q133 q134 q135 q136 q137 q138 q139 q140 q141 q142 q143 q144 q145 q146 q147 q148 q149 q150 q151 q152 q153 q154 q155 q156 q157 q158 q159 q160 q161 q162 q163 q164 q165 q166 q167 q168 q169 q170 q171 q172 q173 q174 q175 q176 q177 q178 q179 q180 q181 q182 q183 q184 q185 q186 q187 q188 q189 q190 q191 q192 q193 q194 q195 q196 q197 q198 q199 q200 q201 q202 q203 q204 q205 q206 q207 q208 q209 q210 q211 q212 q213 q214 q215 q216 q217 q218 q219 q220 q221 q222 q223 q224 q225 q226 q227 q228 q229 q230 q231 q232 => ?_)
      dsimp only [Exit.then]
      apply_assumption
      have hal := ha_lt t (hl t) (Nat.le_refl _)
      have hpw := pow16_le (hl t) hl4
      have hll := hl_le t
      have hi2 : i + 2 ≤ 16 := by have := HIK.out; omega
      have hev : e ≠ none → 0 ≤ ev e := fun h => by
        cases e with
        | none => exact absurd rfl h
        | some q => show (0 : Int) ≤ (q : Int); omega
      have hev0 : e = none → ev e < 0 := fun h => by rw [h]; decide
      have hevE : (e = none → i = 12) → ev e < 0 → i = 12 := fun h h' => h (by
        cases e with
        | none => rfl
        | some q => exact absurd h' (by show ¬ ((q : Int) < 0); omega))
      rcases HW.out with c | c | ⟨c1, c4, way⟩
      · omega
      · exact rej_none w wr _ (by exact fun a w' h1 h2 h3 h4 h5 => HRt.out a w' h1 h2 h3 h4 h5) z0 zz t HBt.out hlt (hl t) i (ha t (hl t)) (ev e) hal.1 (by omega) f k0 k1 hBw c
      rcases way with ⟨y1, y2, y3, y4⟩ | ⟨y1, y2, y3, y4⟩ | ⟨y1, y2, y3, y4, y5⟩ | ⟨y1, y2, y3, y4, x, y5, y6, y7⟩ | ⟨y0, y1, y2⟩ | ⟨y0, y1, y2⟩ | ⟨y0, y1, y2⟩ | ⟨y0, y1, y2, y3, y4⟩ | ⟨y0, y1, y2, y3, y4, y5, y6⟩ | ⟨y0, y1, y2, y3, y4, y5, y6⟩ | ⟨y0, y1, y2, y3, y4⟩
      · exact rej_place w wr _ (by exact fun a w' h1 h2 h3 h4 h5 => HRt.out a w' h1 h2 h3 h4 h5) z0 zz t HBt.out hlt (hl t) i (ha t (hl t)) (ev e) hal.1 (by omega) f k0 k1 hBw y1 c1 y2 (hev0 y3) y4
      · by_cases hen : e = none
        · have := y3 hen; omega
        · exact rej_room w wr _ (by exact fun a w' h1 h2 h3 h4 h5 => HRt.out a w' h1 h2 h3 h4 h5) z0 zz t HBt.out hlt (hl t) i (ha t (hl t)) (ev e) hal.1 (by omega) f k0 k1 hBw y1 c1 y2 (hev hen) y4 (by omega)
      · exact rej_dots w wr _ (by exact fun a w' h1 h2 h3 h4 h5 => HRt.out a w' h1 h2 h3 h4 h5) z0 zz t HBt.out hlt (hl t) i (ha t (hl t)) (ev e) hal.1 (by omega) f k0 k1 hBw y1 c1 y2 (hevE y3) y4 T0 HSuf.out HIn.out y5
      · exact con_dots w wr _ (by exact fun a w' h1 h2 h3 h4 h5 => HRt.out a w' h1 h2 h3 h4 h5) z0 zz t HBt.out hlt (hl t) i (ha t (hl t)) (ev e) hal.1 (by omega) f k0 k1 hBw y1 c1 y2 (hevE y3) y4 T0 HSuf.out HIn.out x y5 y6 (fun wn n0 n1 hBn q9 q10 q11 q12 q13 q55 q56 q57 q58 q59 q60 q61 q62 q63 q64 q65 q66 q67 q68 q69 q70 q71 q72 q73 q74 q75 q76 q77 q78 q79 q80 q81 q82 q83 q84 q85 q86 q87 q88 q89 q90 q91 q92 q93 q94 q95 q96 q97 q98 q99 q100 q101 q102 q103 q104 q105 q106 q107 q108 q109 q110 q111 q112 q113 q114 q115 q116 q117 q118 q119 q120 q121 q122 q123 q124 q125 q126 q127 q128 q129 q130 q131 q132 q133 q134 q135 q136 q137 q138 q139 q140 q141 q142 q143 q144 q145 q146 q147 q148 q149 q150 q151 q152 q153 q154 q155 q156 q157 q158 q159 q160 q161 q162 q163 q164 q165 q166 q167 q168 q169 q170 q171 q172 q173 q174 q175 q176 q177 q178 q179 q180 q181 q182 q183 q184 q185 q186 q187 q188 q189 q190 q191 q192 q193 q194 q195 q196 q197 q198 q199 q200 q201 q202 q203 q204 q205 q206 q207 q208 q209 q210 q211 q212 q213 q214 q215 q216 q217 q218 q219 q220 q221 q222 q223 q224 q225 q226 q227 q228 q229 q230 q231 q232 => HOut.out _ [] (i + 4) (e) (put4 f i x) (by simp) y7 n0 hBn _ _ _ _ _ _ _ _ _ _ _ _ _ _ _ _ _ _ _ _ _ _ _ _ _ _ _ _ _ _ _ _ _ _ _ _ _ _ _ _ _ _ _ _ _ _ _ _ _ _ _ _ _ _ _ _ _ _ _ _ _ _ _ _ _ _ _ _ _ _ _ _ _ _ _ _ _ _ _ _ _ _ _ _ _ _ _ _ _ _ _ _ _ _ _ _ _ _ _ _ _ _ _ _ _ _ _ _ _ _ _ _ _ _ _ _ _ _ _ _ _ _ _ _ _ _ _ _ _ _ _ _ _ _ _ _ _ _ _ _ _ _ _ _ _ _ _ _ _ _ _ _ _ _ _ _ _ _ _ _ _ _ _ _ _ _ _ _ _ _ _ _ _ _ _ _ _ _ _ _ _ _ _ _ _ _ _ _ _ _ _ _ _ _ _ _ _ _ _ _ _ _ _ _ _ _ _ _ _ _ _ _ _ _ _ _ _ _ _ _ _ _ _ _ _ _ _ _ _ _ _ _ _ _ _ _ _ _ _ _ _ _ _ _ _ _ _ _ _ _ _ _ _ _ _ _ _ _ _ _ _ _ _ _ _ _ _ _ _ _ _ _)
      · exact con_end w wr _ (by exact fun a w' h1 h2 h3 h4 h5 => HRt.out a w' h1 h2 h3 h4 h5) z0 zz t HBt.out hlt (hl t) i (ha t (hl t)) (ev e) hal.1 (by omega) f k0 k1 hBw (by rw [List.length_drop] at y1; omega) c1 hi2 (fun wn n0 n1 hBn q9 q10 q11 q12 q13 q55 q56 q57 q58 q59 q60 q61 q62 q63 q64 q65 q66 q67 q68 q69 q70 q71 q72 q73 q74 q75 q76 q77 q78 q79 q80 q81 q82 q83 q84 q85 q86 q87 q88 q89 q90 q91 q92 q93 q94 q95 q96 q97 q98 q99 q100 q101 q102 q103 q104 q105 q106 q107 q108 q109 q110 q111 q112 q113 q114 q115 q116 q117 q118 q119 q120 q121 q122 q123 q124 q125 q126 q127 q128 q129 q130 q131 q132 q133 q134 q135 q136 q137 q138 q139 q140 q141 q142 q143 q144 q145 q146 q147 q148 q149 q150 q151 q152 q153 q154 q155 q156 q157 q158 q159 q160 q161 q162 q163 q164 q165 q166 q167 q168 q169 q170 q171 q172 q173 q174 q175 q176 q177 q178 q179 q180 q181 q182 q183 q184 q185 q186 q187 q188 q189 q190 q191 q192 q193 q194 q195 q196 q197 q198 q199 q200 q201 q202 q203 q204 q205 q206 q207 q208 q209 q210 q211 q212 q213 q214 q215 q216 q217 q218 q219 q220 q221 q222 q223 q224 q225 q226 q227 q228 q229 q230 q231 q232 => HOut.out _ [] (i + 2) (e) (put2 f i (ha t (hl t))) (by simp) y2 n0 hBn _ _ _ _ _ _ _ _ _ _ _ _ _ _ _ _ _ _ _ _ _ _ _ _ _ _ _ _ _ _ _ _ _ _ _ _ _ _ _ _ _ _ _ _ _ _ _ _ _ _ _ _ _ _ _ _ _ _ _ _ _ _ _ _ _ _ _ _ _ _ _ _ _ _ _ _ _ _ _ _ _ _ _ _ _ _ _ _ _ _ _ _ _ _ _ _ _ _ _ _ _ _ _ _ _ _ _ _ _ _ _ _ _ _ _ _ _ _ _ _ _ _ _ _ _ _ _ _ _ _ _ _ _ _ _ _ _ _ _ _ _ _ _ _ _ _ _ _ _ _ _ _ _ _ _ _ _ _ _ _ _ _ _ _ _ _ _ _ _ _ _ _ _ _ _ _ _ _ _ _ _ _ _ _ _ _ _ _ _ _ _ _ _ _ _ _ _ _ _ _ _ _ _ _ _ _ _ _ _ _ _ _ _ _ _ _ _ _ _ _ _ _ _ _ _ _ _ _ _ _ _ _ _ _ _ _ _ _ _ _ _ _ _ _ _ _ _ _ _ _ _ _ _ _ _ _ _ _ _ _ _ _ _ _ _ _ _ _ _ _ _ _)
      · exact rej_want w wr _ (by exact fun a w' h1 h2 h3 h4 h5 => HRt.out a w' h1 h2 h3 h4 h5) z0 zz t HBt.out hlt (hl t) i (ha t (hl t)) (ev e) hal.1 (by omega) f k0 k1 hBw y1 c1 (y0 y1) y2 hi2
      · exact rej_last w wr _ (by exact fun a w' h1 h2 h3 h4 h5 => HRt.out a w' h1 h2 h3 h4 h5) z0 zz t HBt.out hlt (hl t) i (ha t (hl t)) (ev e) hal.1 (by omega) f k0 k1 hBw y1 c1 y2 hi2
      · exact rej_twice w wr _ (by exact fun a w' h1 h2 h3 h4 h5 => HRt.out a w' h1 h2 h3 h4 h5) z0 zz t HBt.out hlt (hl t) i (ha t (hl t)) (ev e) hal.1 (by omega) f k0 k1 hBw y1 c1 y2 y3 (hev y4) hi2
      · have g0 : t.getD (hl t) 0 = 58 := by rw [← y2, ← getD_drop, Nat.add_zero]
        exact con_gapEnd w wr _ (by exact fun a w' h1 h2 h3 h4 h5 => HRt.out a w' h1 h2 h3 h4 h5) z0 zz t HBt.out hlt (hl t) i (ha t (hl t)) (ev e) hal.1 (by omega) f k0 k1 hBw (by rw [List.length_drop] at y1; omega) c1 g0 y3 (hev0 y4) y5 hi2 (fun wn n0 n1 hBn q9 q10 q11 q12 q13 q55 q56 q57 q58 q59 q60 q61 q62 q63 q64 q65 q66 q67 q68 q69 q70 q71 q72 q73 q74 q75 q76 q77 q78 q79 q80 q81 q82 q83 q84 q85 q86 q87 q88 q89 q90 q91 q92 q93 q94 q95 q96 q97 q98 q99 q100 q101 q102 q103 q104 q105 q106 q107 q108 q109 q110 q111 q112 q113 q114 q115 q116 q117 q118 q119 q120 q121 q122 q123 q124 q125 q126 q127 q128 q129 q130 q131 q132 q133 q134 q135 q136 q137 q138 q139 q140 q141 q142 q143 q144 q145 q146 q147 q148 q149 q150 q151 q152 q153 q154 q155 q156 q157 q158 q159 q160 q161 q162 q163 q164 q165 q166 q167 q168 q169 q170 q171 q172 q173 q174 q175 q176 q177 q178 q179 q180 q181 q182 q183 q184 q185 q186 q187 q188 q189 q190 q191 q192 q193 q194 q195 q196 q197 q198 q199 q200 q201 q202 q203 q204 q205 q206 q207 q208 q209 q210 q211 q212 q213 q214 q215 q216 q217 q218 q219 q220 q221 q222 q223 q224 q225 q226 q227 q228 q229 q230 q231 q232 => HOut.out _ [] (i + 2) (some (i + 2)) (put2 f i (ha t (hl t))) (by simp) y6 n0 hBn _ _ _ _ _ _ _ _ _ _ _ _ _ _ _ _ _ _ _ _ _ _ _ _ _ _ _ _ _ _ _ _ _ _ _ _ _ _ _ _ _ _ _ _ _ _ _ _ _ _ _ _ _ _ _ _ _ _ _ _ _ _ _ _ _ _ _ _ _ _ _ _ _ _ _ _ _ _ _ _ _ _ _ _ _ _ _ _ _ _ _ _ _ _ _ _ _ _ _ _ _ _ _ _ _ _ _ _ _ _ _ _ _ _ _ _ _ _ _ _ _ _ _ _ _ _ _ _ _ _ _ _ _ _ _ _ _ _ _ _ _ _ _ _ _ _ _ _ _ _ _ _ _ _ _ _ _ _ _ _ _ _ _ _ _ _ _ _ _ _ _ _ _ _ _ _ _ _ _ _ _ _ _ _ _ _ _ _ _ _ _ _ _ _ _ _ _ _ _ _ _ _ _ _ _ _ _ _ _ _ _ _ _ _ _ _ _ _ _ _ _ _ _ _ _ _ _ _ _ _ _ _ _ _ _ _ _ _ _ _ _ _ _ _ _ _ _ _ _ _ _ _ _ _ _ _ _ _ _ _ _ _ _ _ _ _ _ _ _ _ _ _)
      · have g0 : t.getD (hl t) 0 = 58 := by rw [← y2, ← getD_drop, Nat.add_zero]
        have hb : By (((t.drop (hl t)).drop 1).drop 1) ∧ (((t.drop (hl t)).drop 1).drop 1).length ≤ 1048576 ∧ Suf T0 (((t.drop (hl t)).drop 1).drop 1) := ⟨By_drop (By_drop (By_drop HBt.out _) 1) 1, by simp only [List.length_drop]; omega, ((HSuf.out.drop (hl t) hll).drop 1 (by omega)).drop 1 (by simp only [List.length_drop] at y1 y5 ⊢; omega)⟩
        refine con_gap w wr _ (by exact fun a w' h1 h2 h3 h4 h5 => HRt.out a w' h1 h2 h3 h4 h5) z0 zz t HBt.out hlt (hl t) i (ha t (hl t)) (ev e) hal.1 (by omega) f k0 k1 hBw (by rw [List.length_drop] at y1; omega) c1 g0 y3 (hev0 y4) y5 hi2 ?_
        have HY := Lib.hid (And.intro y6 hb)
        have HKK := Lib.hid hk
        clear y0 y1 y2 y3 y4 y5 y6 hb g0 hal hpw hll hev hev0 hevE
        intro wn n0 n1 hBn q9 q10 q11 q12 q13 q55 q56 q57 q58 q59 q60 q61 q62 q63 q64 q65 q66 q67 q68 q69 q70 q71 q72 q73 q74 q75 q76 q77 q78 q79 q80 q81 q82 q83 q84 q85 q86 q87 q88 q89 q90 q91 q92 q93 q94 q95 q96 q97 q98 q99 q100 q101 q102 q103 q104 q105 q106 q107 q108 q109 q110 q111 q112 q113 q114 q115 q116 q117 q118 q119 q120 q121 q122 q123 q124 q125 q126 q127 q128 q129 q130 q131 q132 q133 q134 q135 q136 q137 q138 q139 q140 q141 q142 q143 q144 q145 q146 q147 q148 q149 q150 q151 q152 q153 q154 q155 q156 q157 q158 q159 q160 q161 q162 q163 q164 q165 q166 q167 q168 q169 q170 q171 q172 q173 q174 q175 q176 q177 q178 q179 q180 q181 q182 q183 q184 q185 q186 q187 q188 q189 q190 q191 q192 q193 q194 q195 q196 q197 q198 q199 q200 q201 q202 q203 q204 q205 q206 q207 q208 q209 q210 q211 q212 q213 q214 q215 q216 q217 q218 q219 q220 q221 q222 q223 q224 q225 q226 q227 q228 q229 q230 q231 q232
        dsimp +zetaDelta only [Exit.then, Exit.inBlock]
        go_roundw
        case rel => exact ⟨((t.drop (hl t)).drop 1).drop 1, k + 1, i + 2, some (i + 2), put2 f i (ha t (hl t)), by have := HIK.out; omega, by have := HKK.out; omega, HY.out.2.1, HY.out.2.2.1, HY.out.2.2.2, (fun q h => by cases h; omega), (by rw [show 8 - (k + 1) = 7 - k by omega]; exact HY.out.1), rfl, rfl, rfl, rfl, n0, n1, hBn⟩
        case measure => simp [intOf]; omega
      · have g0 : t.getD (hl t) 0 = 58 := by rw [← y2, ← getD_drop, Nat.add_zero]
        have hb : By ((t.drop (hl t)).drop 1) ∧ ((t.drop (hl t)).drop 1).length ≤ 1048576 ∧ Suf T0 ((t.drop (hl t)).drop 1) := ⟨By_drop (By_drop HBt.out _) 1, by simp only [List.length_drop]; omega, (HSuf.out.drop (hl t) hll).drop 1 (by omega)⟩
        refine con_next w wr _ (by exact fun a w' h1 h2 h3 h4 h5 => HRt.out a w' h1 h2 h3 h4 h5) z0 zz t HBt.out hlt (hl t) i (ha t (hl t)) (ev e) hal.1 (by omega) f k0 k1 hBw (by rw [List.length_drop] at y1; omega) c1 g0 y3 hi2 ?_
        have HY := Lib.hid (And.intro y4 hb)
        have HKK := Lib.hid hk
        clear y0 y1 y2 y3 y4 hb g0 hal hpw hll hev hev0 hevE
        intro wn n0 n1 hBn q9 q10 q11 q12 q13 q55 q56 q57 q58 q59 q60 q61 q62 q63 q64 q65 q66 q67 q68 q69 q70 q71 q72 q73 q74 q75 q76 q77 q78 q79 q80 q81 q82 q83 q84 q85 q86 q87 q88 q89 q90 q91 q92 q93 q94 q95 q96 q97 q98 q99 q100 q101 q102 q103 q104 q105 q106 q107 q108 q109 q110 q111 q112 q113 q114 q115 q116 q117 q118 q119 q120 q121 q122 q123 q124 q125 q126 q127 q128 q129 q130 q131 q132 q133 q134 q135 q136 q137 q138 q139 q140 q141 q142 q143 q144 q145 q146 q147 q148 q149 q150 q151 q152 q153 q154 q155 q156 q157 q158 q159 q160 q161 q162 q163 q164 q165 q166 q167 q168 q169 q170 q171 q172 q173 q174 q175 q176 q177 q178 q179 q180 q181 q182 q183 q184 q185 q186 q187 q188 q189 q190 q191 q192 q193 q194 q195 q196 q197 q198 q199 q200 q201 q202 q203 q204 q205 q206 q207 q208 q209 q210 q211 q212 q213 q214 q215 q216 q217 q218 q219 q220 q221 q222 q223 q224 q225 q226 q227 q228 q229 q230 q231 q232
        dsimp +zetaDelta only [Exit.then, Exit.inBlock]
        go_roundw
        case rel => exact ⟨(t.drop (hl t)).drop 1, k + 1, i + 2, e, put2 f i (ha t (hl t)), by have := HIK.out; omega, by have := HKK.out; omega, HY.out.2.1, HY.out.2.2.1, HY.out.2.2.2, (fun q h => by have := HEk.out q h; omega), (by rw [show 8 - (k + 1) = 7 - k by omega]; exact HY.out.1), rfl, rfl, rfl, rfl, n0, n1, hBn⟩
        case measure => simp [intOf]; omega
    · have hi1 : ¬ ((i : Int) < 16) := by omega
      have he : fin7 (some (t, i, e, f)) = none := by rw [← HR.out, show 8 - k = 0 by omega, p7]
      have HE := Lib.hid he
      clear he hik
      go_wp2
      exact HOut.out _ t i e f hlt HE.out k0 hBw _ _ _ _ _ _ _ _ _ _ _ _ _ _ _ _ _ _ _ _ _ _ _ _ _ _ _ _ _ _ _ _ _ _ _ _ _ _ _ _ _ _ _ _ _ _ _ _ _ _ _ _ _ _ _ _ _ _ _ _ _ _ _ _ _ _ _ _ _ _ _ _ _ _ _ _ _ _ _ _ _ _ _ _ _ _ _ _ _ _ _ _ _ _ _ _ _ _ _ _ _ _ _ _ _ _ _ _ _ _ _ _ _ _ _ _ _ _ _ _ _ _ _ _ _ _ _ _ _ _ _ _ _ _ _ _ _ _ _ _ _ _ _ _ _ _ _ _ _ _ _ _ _ _ _ _ _ _ _ _ _ _ _ _ _ _ _ _ _ _ _ _ _ _ _ _ _ _ _ _ _ _ _ _ _ _ _ _ _ _ _ _ _ _ _ _ _ _ _ _ _ _ _ _ _ _ _ _ _ _ _ _ _ _ _ _ _ _ _ _ _ _ _ _ _ _ _ _ _ _ _ _ _ _ _ _ _ _ _ _ _ _ _ _ _ _ _ _ _ _ _ _ _ _ _ _ _ _ _ _ _ _ _ _ _ _ _ _ _ _ _ _
end Go.Proofs.YtmlkcgacneealaaDoor
