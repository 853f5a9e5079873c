/- parseIPv6 on a text that the plain reader refuses, with a zone or without one: an error. No conditions but on the bytes and the length. The reference's reader of IPv6 and net/netip's take the same texts. Plain. impl.ParseAddr on every text: an error where the plain readers refuse, the address where they read. Conditions: the listed variables as laid. -/
import Derived.Test.YtmlkcgacneealaaDoorZe
import Derived.Test.YtmlkcgacneealaaDoorZb
import Derived.BigQuiet
import Derived.Test.YtmlkcgacneealaaDoorZa
import Derived.Test.YtmlkcgacneealaaDoorPrs9
set_option linter.unusedVariables false
set_option linter.unusedSimpArgs false
namespace Go.Proofs.YtmlkcgacneealaaDoor
open Go.RowKit

theorem idx_at (p r : List Int) (hB : By (p ++ 37 :: r)) (h : ∀ c ∈ p, c ≠ 37) (w : World) : (callFunc 174 #[.string (ba (p ++ 37 :: r)), .int .u8 37]).run Tryd.prog w = .ok (.value (.int .i64 (p.length : Int))) w := by
  rw [run_callFunc_extern Tryd.func174 (by kernel_rfl) (by kernel_rfl) (by kernel_rfl) (e := Extern.BytealgIndexByte.indexByte) (by kernel_rfl), run_indexByte_string]
  have e : firstIdx (ba (p ++ 37 :: r)) ((37 : Int).toNat.toUInt8) = (p.length : Int) := by
    rw [Lib.firstIdx_eq]
    show Lib.indexByte ((p ++ 37 :: r).map fun n => UInt8.ofNat n.toNat) 37 = (p.length : Int)
    clear w
    induction p with
    | nil => rfl
    | cons a s ih =>
      have h1 := h a (by simp)
      have h2 := hB a (by simp)
      have h3 := ih (fun x hx => hB x (by simp only [List.cons_append, List.mem_cons]; exact Or.inr hx)) (fun x hx => h x (by simp [hx]))
      simp only [List.cons_append, List.map_cons, Lib.indexByte, h3]
      have : (UInt8.ofNat a.toNat == 37) = false := by
        rw [beq_eq_false_iff_ne]
        intro e
        have := congrArg UInt8.toNat e
        simp at this
        omega
      rw [this]
      have h4 : ((s.length : Int) == -1) = false := by rw [beq_eq_false_iff_ne]; omega
      simp [h4]
  rw [e]; rfl
theorem ba_sub (s : List Int) (k m : Nat) : (ba s).extract k m = ba ((s.take m).drop k) := by
  apply ByteArray.ext
  simp [ba, List.map_drop, List.map_take, List.drop_take]
theorem Inn_bare (T : List Int) (h : T.length ≤ 1048576) : Inn (ba T) ⟨#[]⟩ T :=
  ⟨by rw [ba_size]; omega, fun k m _ => ba_sub T k m, by rw [ba_size]; exact h, Or.inl ⟨rfl, ba_size T⟩⟩
theorem Inn_zone (p r : List Int) (h : (p ++ 37 :: r).length ≤ 1048576) (hr : r ≠ []) : Inn (ba (p ++ 37 :: r)) (ba r) p := by
  have hl := List.length_pos_iff.2 hr
  refine ⟨by rw [ba_size]; simp, fun k m hm => ?_, by rw [ba_size]; exact h, Or.inr ⟨by rw [ba_size]; exact hl, by rw [ba_size, ba_size]; simp⟩⟩
  rw [ba_sub, List.take_append_of_le_length hm]
/-- Where the reader refuses: the loop it comes to. -/
theorem rd7_ways (T : List Int) (h : rd7 T = none) : (2 ≤ T.length ∧ T.getD 0 0 = 58 ∧ T.getD 1 0 = 58 ∧ T.drop 2 ≠ [] ∧ fin7 (p7 8 (T.drop 2) 0 (some 0) zb) = none) ∨ (¬ (2 ≤ T.length ∧ T.getD 0 0 = 58 ∧ T.getD 1 0 = 58) ∧ fin7 (p7 8 T 0 none zb) = none) := by
  unfold rd7 at h
  by_cases c : 2 ≤ T.length ∧ T.getD 0 0 = 58 ∧ T.getD 1 0 = 58
  · rw [if_pos c] at h
    by_cases c2 : (T.drop 2).length = 0
    · rw [if_pos c2] at h; cases h
    · rw [if_neg c2] at h
      exact Or.inl ⟨c.1, c.2.1, c.2.2, fun e => c2 (by rw [e]; rfl), h⟩
  · rw [if_neg c] at h
    exact Or.inr ⟨c, h⟩
set_option maxHeartbeats 8000000 in
set_option maxRecDepth 100000 in
theorem parse6eA (T : List Int) (hB : By T) (h37 : ∀ c ∈ T, c ≠ 37) (hlp : T.length ≤ 1048576) (hrd : rd7 T = none) (w : World) :
    Calls Tryd.prog 160 #[.string (ba T)] w fun e w' => (∃ p, e = .returned (.tuple #[.agg #[.int .u64 0, .int .u64 0, .pointer none], .iface 124 p])) ∧ Below w.heap.size w w' := by
  have HRt := Lib.hid (Rt_body w)
  have HBp := Lib.hid hB
  have HIn := Lib.hid (Inn_bare T hlp)
  have HI := Lib.hid (idx_none T hB h37)
  have hix : ∀ w, (callFunc 174 #[.string (ba T), .int .u8 37]).run Tryd.prog w = .ok (.value (.int .i64 (-1))) w := HI.out
  have hsm : (((ba T).size : Nat) : Int) ≤ 1048576 := by rw [ba_size]; omega
  clear hB h37
  rcases rd7_ways T hrd with ⟨a1, a2, a3, a4, a5⟩ | ⟨a1, a2⟩
  · have H0 := Lib.hid (show By (T.drop 2) ∧ (T.drop 2).length ≤ 1048576 ∧ Suf T (T.drop 2) ∧ fin7 (p7 8 (T.drop 2) 0 (some 0) zb) = none from ⟨By_drop HBp.out 2, by rw [List.length_drop]; omega, (Suf.refl T).drop 2 a1, a5⟩)
    have q0 : 0 < (ba T).size := by rw [ba_size]; omega
    have q1 : 1 < (ba T).size := by rw [ba_size]; omega
    have q2 : (2 : Int) ≤ (((ba T).size : Nat) : Int) := by omega
    have q3 : (0 : Int) < (((ba T).size : Nat) : Int) := by omega
    have q4 : (1 : Int) < (((ba T).size : Nat) : Int) := by omega
    have c0 := ba_get T HBp.out 0 q0
    have c1 := ba_get T HBp.out 1 q1
    rw [a2] at c0
    rw [a3] at c1
    have hex : (ba T).extract 2 (ba T).size = ba (T.drop 2) := ba_drop T 2 a1
    have hz1 : 0 < (ba (T.drop 2)).size := by rw [ba_size]; exact List.length_pos_iff.2 a4
    have hz2 : ((((ba (T.drop 2)).size : Nat) : Int) == 0) = false := beq_eq_false_iff_ne.2 (by omega)
    clear a1 a2 a3 a4 a5 hrd 
    go_enter Tryd.func160, Tryd.ntmps160
    go_upto_block 0 with fail
    refine out7 w _ _ (by exact fun a w' h1 h2 h3 h4 h5 => HRt.out a w' h1 h2 h3 h4 h5) (ba T) ⟨#[]⟩ T HIn.out (T.drop 2) (some 0) ?ba1 ?la1 ?sa1 (fun q h => by cases h; omega) ?fa1 ?ka1 ?ma1 ?wa1 ?oa1
    case ba1 => exact H0.out.1
    case la1 => exact H0.out.2.1
    case sa1 => exact H0.out.2.2.1
    case fa1 => exact H0.out.2.2.2
    case ka1 => go_simp
    case ma1 => go_simp
    case wa1 => exact (by repeat' (first | (with_reducible exact Below.refl _ _) | (with_reducible assumption) | (with_reducible refine Below.alloc ?_ ?_ _) | (with_reducible refine Below.drew ?_) | (with_reducible refine below_drewN ?_ _) | (with_reducible refine Below.setCell ?_ ?_ _) | (with_reducible refine below_setRow' ?_ ?_ _) | go_size))
    case oa1 =>
      intro wx t i e f h1 h2 h3 h4 q1 q9 q10 q11 q12 q13 q14 q15 q16 q17 q18 q19 q20 q21 q22 q23 q24 q25 q26 q27 q28 q29 q30 q31 q32 q33 q34 q35 q36 q37 q38 q39 q40 q41 q42 q43 q44 q45 q46 q47 q48 q49 q50 q51 q52 q53 q54 q55 q56 q57 q58 q59 q60 q61 q62 q63 q64 q65 q66 q67 q68 q69 q70 q71 q72 q73 q74 q75 q76 q77 q78 q79 q80 q81 q82 q83 q84 q85 q86 q87 q88 q89 q90 q91 q92 q93 q94 q95 q96 q97 q98 q99 q100 q101 q102 q103 q104 q105 q106 q107 q108 q109 q110 q111 q112 q113 q114 q115 q116 q117 q118 q119 q120 q121 q122 q123 q124 q125 q126 q127 q128 q129 q130 q131 q132 q133 q134 q135 q136 q137 q138 q139 q140 q141 q142 q143 q144 q145 q146 q147 q148 q149 q150 q151 q152 q153 q154 q155 q156 q157 q158 q159 q160 q161 q162 q163 q164 q165 q166 q167 q168 q169 q170 q171 q172 q173 q174 q175 q176 q177 q178 q179 q180 q181 q182 q183 q184 q185 q186 q187 q188 q189 q190 q191 q192 q193 q194 q195 q196 q197 q198 q199 q200 q201 q202 q203 q204 q205 q206 q207 q208 q209 q210 q211 q212 q213 q214 q215 q216 q217 q218 q219 q220 q221 q222 q223 q224 q225 q226 q227 q228 q229 q230 q231 q232 q233 q234 q235 q236 q237 q238 q239 q240 q241 q242 q243 q244 q245 q246 q247 q248 q249 q250 q251 q252 q253 q254 q255 q256 q257 q258 q259 q260 q261 q262 q263 q264 q265 q266 q267 q268 q269 q270 q271 q272 q273 q274 q275 q276 q277 q278 q279
      (try dsimp +zetaDelta only [Exit.then])
      apply_assumption
      exact rej_tail w wx _ (by exact fun a w' h1 h2 h3 h4 h5 => HRt.out a w' h1 h2 h3 h4 h5) (ba T) ⟨#[]⟩ t h1 i e f h2 h3 h4
  · have H0 := Lib.hid (show By T ∧ T.length ≤ 1048576 ∧ Suf T T ∧ fin7 (p7 8 T 0 none zb) = none from ⟨HBp.out, hlp, Suf.refl T, a2⟩)
    by_cases d1 : 2 ≤ T.length
    · have q0 : 0 < (ba T).size := by rw [ba_size]; omega
      have q1 : 1 < (ba T).size := by rw [ba_size]; omega
      have q2 : (2 : Int) ≤ (((ba T).size : Nat) : Int) := by omega
      have q3 : (0 : Int) < (((ba T).size : Nat) : Int) := by omega
      have q4 : (1 : Int) < (((ba T).size : Nat) : Int) := by omega
      have c0 := ba_get T HBp.out 0 q0
      have c1 := ba_get T HBp.out 1 q1
      by_cases d2 : T.getD 0 0 = 58
      · rw [d2] at c0
        have d3 : T.getD 1 0 ≠ 58 := fun e => a1 ⟨d1, d2, e⟩
        obtain ⟨ch, hch⟩ : ∃ ch : Int, ch = T.getD 1 0 := ⟨_, rfl⟩
        rw [← hch] at c1 d3
        have e1 : (ch == 58) = false := beq_eq_false_iff_ne.2 d3
        clear a1 a2 d1 d2 d3 hch hrd 
        go_enter Tryd.func160, Tryd.ntmps160
        go_upto_block 0 with fail
        refine out7 w _ _ (by exact fun a w' h1 h2 h3 h4 h5 => HRt.out a w' h1 h2 h3 h4 h5) (ba T) ⟨#[]⟩ T HIn.out (T) none ?ba2 ?la2 ?sa2 (fun q h => by cases h) ?fa2 ?ka2 ?ma2 ?wa2 ?oa2
        case ba2 => exact H0.out.1
        case la2 => exact H0.out.2.1
        case sa2 => exact H0.out.2.2.1
        case fa2 => exact H0.out.2.2.2
        case ka2 => go_simp
        case ma2 => go_simp
        case wa2 => exact (by repeat' (first | (with_reducible exact Below.refl _ _) | (with_reducible assumption) | (with_reducible refine Below.alloc ?_ ?_ _) | (with_reducible refine Below.drew ?_) | (with_reducible refine below_drewN ?_ _) | (with_reducible refine Below.setCell ?_ ?_ _) | (with_reducible refine below_setRow' ?_ ?_ _) | go_size))
        case oa2 =>
          intro wx t i e f h1 h2 h3 h4 q1 q9 q10 q11 q12 q13 q14 q15 q16 q17 q18 q19 q20 q21 q22 q23 q24 q25 q26 q27 q28 q29 q30 q31 q32 q33 q34 q35 q36 q37 q38 q39 q40 q41 q42 q43 q44 q45 q46 q47 q48 q49 q50 q51 q52 q53 q54 q55 q56 q57 q58 q59 q60 q61 q62 q63 q64 q65 q66 q67 q68 q69 q70 q71 q72 q73 q74 q75 q76 q77 q78 q79 q80 q81 q82 q83 q84 q85 q86 q87 q88 q89 q90 q91 q92 q93 q94 q95 q96 q97 q98 q99 q100 q101 q102 q103 q104 q105 q106 q107 q108 q109 q110 q111 q112 q113 q114 q115 q116 q117 q118 q119 q120 q121 q122 q123 q124 q125 q126 q127 q128 q129 q130 q131 q132 q133 q134 q135 q136 q137 q138 q139 q140 q141 q142 q143 q144 q145 q146 q147 q148 q149 q150 q151 q152 q153 q154 q155 q156 q157 q158 q159 q160 q161 q162 q163 q164 q165 q166 q167 q168 q169 q170 q171 q172 q173 q174 q175 q176 q177 q178 q179 q180 q181 q182 q183 q184 q185 q186 q187 q188 q189 q190 q191 q192 q193 q194 q195 q196 q197 q198 q199 q200 q201 q202 q203 q204 q205 q206 q207 q208 q209 q210 q211 q212 q213 q214 q215 q216 q217 q218 q219 q220 q221 q222 q223 q224 q225 q226 q227 q228 q229 q230 q231 q232 q233 q234 q235 q236 q237 q238 q239 q240 q241 q242 q243 q244 q245 q246 q247 q248 q249 q250 q251 q252 q253 q254 q255 q256 q257 q258 q259 q260 q261 q262 q263 q264 q265 q266 q267 q268 q269 q270 q271 q272 q273 q274 q275 q276 q277 q278 q279
          (try dsimp +zetaDelta only [Exit.then])
          apply_assumption
          exact rej_tail w wx _ (by exact fun a w' h1 h2 h3 h4 h5 => HRt.out a w' h1 h2 h3 h4 h5) (ba T) ⟨#[]⟩ t h1 i e f h2 h3 h4
      · obtain ⟨ch, hch⟩ : ∃ ch : Int, ch = T.getD 0 0 := ⟨_, rfl⟩
        rw [← hch] at c0 d2
        have e1 : (ch == 58) = false := beq_eq_false_iff_ne.2 d2
        clear a1 a2 d1 d2 hch hrd 
        go_enter Tryd.func160, Tryd.ntmps160
        go_upto_block 0 with fail
        refine out7 w _ _ (by exact fun a w' h1 h2 h3 h4 h5 => HRt.out a w' h1 h2 h3 h4 h5) (ba T) ⟨#[]⟩ T HIn.out (T) none ?ba3 ?la3 ?sa3 (fun q h => by cases h) ?fa3 ?ka3 ?ma3 ?wa3 ?oa3
        case ba3 => exact H0.out.1
        case la3 => exact H0.out.2.1
        case sa3 => exact H0.out.2.2.1
        case fa3 => exact H0.out.2.2.2
        case ka3 => go_simp
        case ma3 => go_simp
        case wa3 => exact (by repeat' (first | (with_reducible exact Below.refl _ _) | (with_reducible assumption) | (with_reducible refine Below.alloc ?_ ?_ _) | (with_reducible refine Below.drew ?_) | (with_reducible refine below_drewN ?_ _) | (with_reducible refine Below.setCell ?_ ?_ _) | (with_reducible refine below_setRow' ?_ ?_ _) | go_size))
        case oa3 =>
          intro wx t i e f h1 h2 h3 h4 q1 q9 q10 q11 q12 q13 q14 q15 q16 q17 q18 q19 q20 q21 q22 q23 q24 q25 q26 q27 q28 q29 q30 q31 q32 q33 q34 q35 q36 q37 q38 q39 q40 q41 q42 q43 q44 q45 q46 q47 q48 q49 q50 q51 q52 q53 q54 q55 q56 q57 q58 q59 q60 q61 q62 q63 q64 q65 q66 q67 q68 q69 q70 q71 q72 q73 q74 q75 q76 q77 q78 q79 q80 q81 q82 q83 q84 q85 q86 q87 q88 q89 q90 q91 q92 q93 q94 q95 q96 q97 q98 q99 q100 q101 q102 q103 q104 q105 q106 q107 q108 q109 q110 q111 q112 q113 q114 q115 q116 q117 q118 q119 q120 q121 q122 q123 q124 q125 q126 q127 q128 q129 q130 q131 q132 q133 q134 q135 q136 q137 q138 q139 q140 q141 q142 q143 q144 q145 q146 q147 q148 q149 q150 q151 q152 q153 q154 q155 q156 q157 q158 q159 q160 q161 q162 q163 q164 q165 q166 q167 q168 q169 q170 q171 q172 q173 q174 q175 q176 q177 q178 q179 q180 q181 q182 q183 q184 q185 q186 q187 q188 q189 q190 q191 q192 q193 q194 q195 q196 q197 q198 q199 q200 q201 q202 q203 q204 q205 q206 q207 q208 q209 q210 q211 q212 q213 q214 q215 q216 q217 q218 q219 q220 q221 q222 q223 q224 q225 q226 q227 q228 q229 q230 q231 q232 q233 q234 q235 q236 q237 q238 q239 q240 q241 q242 q243 q244 q245 q246 q247 q248 q249 q250 q251 q252 q253 q254 q255 q256 q257 q258 q259 q260 q261 q262 q263 q264 q265 q266 q267 q268 q269 q270 q271 q272 q273 q274 q275 q276 q277 q278 q279
          (try dsimp +zetaDelta only [Exit.then])
          apply_assumption
          exact rej_tail w wx _ (by exact fun a w' h1 h2 h3 h4 h5 => HRt.out a w' h1 h2 h3 h4 h5) (ba T) ⟨#[]⟩ t h1 i e f h2 h3 h4
    · have q2 : ¬ ((2 : Int) ≤ (((ba T).size : Nat) : Int)) := by rw [ba_size]; omega
      clear a1 a2 d1 hrd 
      go_enter Tryd.func160, Tryd.ntmps160
      go_upto_block 0 with fail
      refine out7 w _ _ (by exact fun a w' h1 h2 h3 h4 h5 => HRt.out a w' h1 h2 h3 h4 h5) (ba T) ⟨#[]⟩ T HIn.out (T) none ?ba4 ?la4 ?sa4 (fun q h => by cases h) ?fa4 ?ka4 ?ma4 ?wa4 ?oa4
      case ba4 => exact H0.out.1
      case la4 => exact H0.out.2.1
      case sa4 => exact H0.out.2.2.1
      case fa4 => exact H0.out.2.2.2
      case ka4 => go_simp
      case ma4 => go_simp
      case wa4 => exact (by repeat' (first | (with_reducible exact Below.refl _ _) | (with_reducible assumption) | (with_reducible refine Below.alloc ?_ ?_ _) | (with_reducible refine Below.drew ?_) | (with_reducible refine below_drewN ?_ _) | (with_reducible refine Below.setCell ?_ ?_ _) | (with_reducible refine below_setRow' ?_ ?_ _) | go_size))
      case oa4 =>
        intro wx t i e f h1 h2 h3 h4 q1 q9 q10 q11 q12 q13 q14 q15 q16 q17 q18 q19 q20 q21 q22 q23 q24 q25 q26 q27 q28 q29 q30 q31 q32 q33 q34 q35 q36 q37 q38 q39 q40 q41 q42 q43 q44 q45 q46 q47 q48 q49 q50 q51 q52 q53 q54 q55 q56 q57 q58 q59 q60 q61 q62 q63 q64 q65 q66 q67 q68 q69 q70 q71 q72 q73 q74 q75 q76 q77 q78 q79 q80 q81 q82 q83 q84 q85 q86 q87 q88 q89 q90 q91 q92 q93 q94 q95 q96 q97 q98 q99 q100 q101 q102 q103 q104 q105 q106 q107 q108 q109 q110 q111 q112 q113 q114 q115 q116 q117 q118 q119 q120 q121 q122 q123 q124 q125 q126 q127 q128 q129 q130 q131 q132 q133 q134 q135 q136 q137 q138 q139 q140 q141 q142 q143 q144 q145 q146 q147 q148 q149 q150 q151 q152 q153 q154 q155 q156 q157 q158 q159 q160 q161 q162 q163 q164 q165 q166 q167 q168 q169 q170 q171 q172 q173 q174 q175 q176 q177 q178 q179 q180 q181 q182 q183 q184 q185 q186 q187 q188 q189 q190 q191 q192 q193 q194 q195 q196 q197 q198 q199 q200 q201 q202 q203 q204 q205 q206 q207 q208 q209 q210 q211 q212 q213 q214 q215 q216 q217 q218 q219 q220 q221 q222 q223 q224 q225 q226 q227 q228 q229 q230 q231 q232 q233 q234 q235 q236 q237 q238 q239 q240 q241 q242 q243 q244 q245 q246 q247 q248 q249 q250 q251 q252 q253 q254 q255 q256 q257 q258 q259 q260 q261 q262 q263 q264 q265 q266 q267 q268 q269 q270 q271 q272 q273 q274 q275 q276 q277 q278 q279
        (try dsimp +zetaDelta only [Exit.then])
        apply_assumption
        exact rej_tail w wx _ (by exact fun a w' h1 h2 h3 h4 h5 => HRt.out a w' h1 h2 h3 h4 h5) (ba T) ⟨#[]⟩ t h1 i e f h2 h3 h4
set_option maxHeartbeats 8000000 in
set_option maxRecDepth 100000 in
theorem parse6eB (p r : List Int) (hB : By (p ++ 37 :: r)) (h37 : ∀ c ∈ p, c ≠ 37) (hl : (p ++ 37 :: r).length ≤ 1048576) (hrd : rd7 p = none) (w : World) :
    Calls Tryd.prog 160 #[.string (ba (p ++ 37 :: r))] w fun e w' => (∃ p, e = .returned (.tuple #[.agg #[.int .u64 0, .int .u64 0, .pointer none], .iface 124 p])) ∧ Below w.heap.size w w' := by
  have HRt := Lib.hid (Rt_body w)
  have HBp := Lib.hid (show By p from fun c hc => hB c (by simp [hc]))
  have HI := Lib.hid (idx_at p r hB h37)
  have hlp : p.length ≤ 1048576 := by simp at hl; omega
  obtain ⟨K, hK⟩ : ∃ K : Nat, K = p.length := ⟨_, rfl⟩
  obtain ⟨T, hT⟩ : ∃ T : List Int, T = p ++ 37 :: r := ⟨_, rfl⟩
  have hx1 : (ba T).extract 0 K = ba p := by rw [ba_take, hT, hK, List.take_left]
  have hTl : T.length = K + (r.length + 1) := by rw [hT, hK]; simp
  have hx2 : (ba T).extract (K + 1) (ba T).size = ba r := by
    rw [ba_drop T (K + 1) (by omega), hT, show p ++ 37 :: r = (p ++ [37]) ++ r by simp, List.drop_left' (by simp [hK])]
  rw [← hK, ← hT] at HI
  have HInn := Lib.hid (Inn_zone p r hl)
  rw [← hT] at HInn hl ⊢
  have hix : ∀ w, (callFunc 174 #[.string (ba T), .int .u8 37]).run Tryd.prog w = .ok (.value (.int .i64 (K : Int))) w := HI.out
  have hsT := ba_size T
  have hsm : (((ba T).size : Nat) : Int) ≤ 1048576 := by omega
  have y0 : (0 : Int) ≤ (K : Int) := by omega
  have y1 : (K : Int) ≤ (((ba T).size : Nat) : Int) := by omega
  have y2 : (K : Int) + 1 ≤ (((ba T).size : Nat) : Int) := by omega
  have y3 : (0 : Int) ≤ (K : Int) + 1 := by omega
  have y4 := wr64 ((K : Int) + 1) (by omega) (by omega)
  have y5 : ((K : Int) + 1).toNat = K + 1 := by omega
  have y6 : ((K : Int) == -1) = false := beq_eq_false_iff_ne.2 (by omega)
  have y7 : ((K : Int) != -1) = true := by rw [bne, y6]; rfl
  clear hB h37 hT hTl hsT hK
  by_cases hr : r = []
  · have hem : (ba r).toList.isEmpty = true := by rw [ba_emp, hr]; rfl
    clear hr hrd
    go_enter Tryd.func160, Tryd.ntmps160
    go_upto_region 5 with fail
    go_quiet (fail)
    go_wp2
    exact HRt.out _ _ rfl rfl ⟨_, rfl⟩ (by go_simp) (by repeat' (first | (with_reducible exact Below.refl _ _) | (with_reducible assumption) | (with_reducible refine Below.alloc ?_ ?_ _) | (with_reducible refine Below.drew ?_) | (with_reducible refine below_drewN ?_ _) | (with_reducible refine Below.setCell ?_ ?_ _) | (with_reducible refine below_setRow' ?_ ?_ _) | go_size))
  have hem : (ba r).toList.isEmpty = false := ba_neq r hr
  have HIn := Lib.hid (HInn.out hr)
  clear hr HInn
  rcases rd7_ways p hrd with ⟨a1, a2, a3, a4, a5⟩ | ⟨a1, a2⟩
  · have H0 := Lib.hid (show By (p.drop 2) ∧ (p.drop 2).length ≤ 1048576 ∧ Suf p (p.drop 2) ∧ fin7 (p7 8 (p.drop 2) 0 (some 0) zb) = none from ⟨By_drop HBp.out 2, by rw [List.length_drop]; omega, (Suf.refl p).drop 2 a1, a5⟩)
    have q0 : 0 < (ba p).size := by rw [ba_size]; omega
    have q1 : 1 < (ba p).size := by rw [ba_size]; omega
    have q2 : (2 : Int) ≤ (((ba p).size : Nat) : Int) := by omega
    have q3 : (0 : Int) < (((ba p).size : Nat) : Int) := by omega
    have q4 : (1 : Int) < (((ba p).size : Nat) : Int) := by omega
    have c0 := ba_get p HBp.out 0 q0
    have c1 := ba_get p HBp.out 1 q1
    rw [a2] at c0
    rw [a3] at c1
    have hex : (ba p).extract 2 (ba p).size = ba (p.drop 2) := ba_drop p 2 a1
    have hz1 : 0 < (ba (p.drop 2)).size := by rw [ba_size]; exact List.length_pos_iff.2 a4
    have hz2 : ((((ba (p.drop 2)).size : Nat) : Int) == 0) = false := beq_eq_false_iff_ne.2 (by omega)
    clear a1 a2 a3 a4 a5 hrd 
    go_enter Tryd.func160, Tryd.ntmps160
    go_upto_region 5 with fail
    go_quiet (fail)
    go_upto_block 0 with fail
    refine out7 w _ _ (by exact fun a w' h1 h2 h3 h4 h5 => HRt.out a w' h1 h2 h3 h4 h5) (ba T) (ba r) p HIn.out (p.drop 2) (some 0) ?bb1 ?lb1 ?sb1 (fun q h => by cases h; omega) ?fb1 ?kb1 ?mb1 ?wb1 ?ob1
    case bb1 => exact H0.out.1
    case lb1 => exact H0.out.2.1
    case sb1 => exact H0.out.2.2.1
    case fb1 => exact H0.out.2.2.2
    case kb1 => go_simp
    case mb1 => go_simp
    case wb1 => exact (by repeat' (first | (with_reducible exact Below.refl _ _) | (with_reducible assumption) | (with_reducible refine Below.alloc ?_ ?_ _) | (with_reducible refine Below.drew ?_) | (with_reducible refine below_drewN ?_ _) | (with_reducible refine Below.setCell ?_ ?_ _) | (with_reducible refine below_setRow' ?_ ?_ _) | go_size))
    case ob1 =>
      intro wx t i e f h1 h2 h3 h4 q1 q9 q10 q11 q12 q13 q14 q15 q16 q17 q18 q19 q20 q21 q22 q23 q24 q25 q26 q27 q28 q29 q30 q31 q32 q33 q34 q35 q36 q37 q38 q39 q40 q41 q42 q43 q44 q45 q46 q47 q48 q49 q50 q51 q52 q53 q54 q55 q56 q57 q58 q59 q60 q61 q62 q63 q64 q65 q66 q67 q68 q69 q70 q71 q72 q73 q74 q75 q76 q77 q78 q79 q80 q81 q82 q83 q84 q85 q86 q87 q88 q89 q90 q91 q92 q93 q94 q95 q96 q97 q98 q99 q100 q101 q102 q103 q104 q105 q106 q107 q108 q109 q110 q111 q112 q113 q114 q115 q116 q117 q118 q119 q120 q121 q122 q123 q124 q125 q126 q127 q128 q129 q130 q131 q132 q133 q134 q135 q136 q137 q138 q139 q140 q141 q142 q143 q144 q145 q146 q147 q148 q149 q150 q151 q152 q153 q154 q155 q156 q157 q158 q159 q160 q161 q162 q163 q164 q165 q166 q167 q168 q169 q170 q171 q172 q173 q174 q175 q176 q177 q178 q179 q180 q181 q182 q183 q184 q185 q186 q187 q188 q189 q190 q191 q192 q193 q194 q195 q196 q197 q198 q199 q200 q201 q202 q203 q204 q205 q206 q207 q208 q209 q210 q211 q212 q213 q214 q215 q216 q217 q218 q219 q220 q221 q222 q223 q224 q225 q226 q227 q228 q229 q230 q231 q232 q233 q234 q235 q236 q237 q238 q239 q240 q241 q242 q243 q244 q245 q246 q247 q248 q249 q250 q251 q252 q253 q254 q255 q256 q257 q258 q259 q260 q261 q262 q263 q264 q265 q266 q267 q268 q269 q270 q271 q272 q273 q274 q275 q276 q277 q278 q279
      (try dsimp +zetaDelta only [Exit.then])
      apply_assumption
      exact rej_tail w wx _ (by exact fun a w' h1 h2 h3 h4 h5 => HRt.out a w' h1 h2 h3 h4 h5) (ba T) (ba r) t h1 i e f h2 h3 h4
  · have H0 := Lib.hid (show By p ∧ p.length ≤ 1048576 ∧ Suf p p ∧ fin7 (p7 8 p 0 none zb) = none from ⟨HBp.out, hlp, Suf.refl p, a2⟩)
    by_cases d1 : 2 ≤ p.length
    · have q0 : 0 < (ba p).size := by rw [ba_size]; omega
      have q1 : 1 < (ba p).size := by rw [ba_size]; omega
      have q2 : (2 : Int) ≤ (((ba p).size : Nat) : Int) := by omega
      have q3 : (0 : Int) < (((ba p).size : Nat) : Int) := by omega
      have q4 : (1 : Int) < (((ba p).size : Nat) : Int) := by omega
      have c0 := ba_get p HBp.out 0 q0
      have c1 := ba_get p HBp.out 1 q1
      by_cases d2 : p.getD 0 0 = 58
      · rw [d2] at c0
        have d3 : p.getD 1 0 ≠ 58 := fun e => a1 ⟨d1, d2, e⟩
        obtain ⟨ch, hch⟩ : ∃ ch : Int, ch = p.getD 1 0 := ⟨_, rfl⟩
        rw [← hch] at c1 d3
        have e1 : (ch == 58) = false := beq_eq_false_iff_ne.2 d3
        clear a1 a2 d1 d2 d3 hch hrd 
        go_enter Tryd.func160, Tryd.ntmps160
        go_upto_region 5 with fail
        go_quiet (fail)
        go_upto_block 0 with fail
        refine out7 w _ _ (by exact fun a w' h1 h2 h3 h4 h5 => HRt.out a w' h1 h2 h3 h4 h5) (ba T) (ba r) p HIn.out (p) none ?bb2 ?lb2 ?sb2 (fun q h => by cases h) ?fb2 ?kb2 ?mb2 ?wb2 ?ob2
        case bb2 => exact H0.out.1
        case lb2 => exact H0.out.2.1
        case sb2 => exact H0.out.2.2.1
        case fb2 => exact H0.out.2.2.2
        case kb2 => go_simp
        case mb2 => go_simp
        case wb2 => exact (by repeat' (first | (with_reducible exact Below.refl _ _) | (with_reducible assumption) | (with_reducible refine Below.alloc ?_ ?_ _) | (with_reducible refine Below.drew ?_) | (with_reducible refine below_drewN ?_ _) | (with_reducible refine Below.setCell ?_ ?_ _) | (with_reducible refine below_setRow' ?_ ?_ _) | go_size))
        case ob2 =>
          intro wx t i e f h1 h2 h3 h4 q1 q9 q10 q11 q12 q13 q14 q15 q16 q17 q18 q19 q20 q21 q22 q23 q24 q25 q26 q27 q28 q29 q30 q31 q32 q33 q34 q35 q36 q37 q38 q39 q40 q41 q42 q43 q44 q45 q46 q47 q48 q49 q50 q51 q52 q53 q54 q55 q56 q57 q58 q59 q60 q61 q62 q63 q64 q65 q66 q67 q68 q69 q70 q71 q72 q73 q74 q75 q76 q77 q78 q79 q80 q81 q82 q83 q84 q85 q86 q87 q88 q89 q90 q91 q92 q93 q94 q95 q96 q97 q98 q99 q100 q101 q102 q103 q104 q105 q106 q107 q108 q109 q110 q111 q112 q113 q114 q115 q116 q117 q118 q119 q120 q121 q122 q123 q124 q125 q126 q127 q128 q129 q130 q131 q132 q133 q134 q135 q136 q137 q138 q139 q140 q141 q142 q143 q144 q145 q146 q147 q148 q149 q150 q151 q152 q153 q154 q155 q156 q157 q158 q159 q160 q161 q162 q163 q164 q165 q166 q167 q168 q169 q170 q171 q172 q173 q174 q175 q176 q177 q178 q179 q180 q181 q182 q183 q184 q185 q186 q187 q188 q189 q190 q191 q192 q193 q194 q195 q196 q197 q198 q199 q200 q201 q202 q203 q204 q205 q206 q207 q208 q209 q210 q211 q212 q213 q214 q215 q216 q217 q218 q219 q220 q221 q222 q223 q224 q225 q226 q227 q228 q229 q230 q231 q232 q233 q234 q235 q236 q237 q238 q239 q240 q241 q242 q243 q244 q245 q246 q247 q248 q249 q250 q251 q252 q253 q254 q255 q256 q257 q258 q259 q260 q261 q262 q263 q264 q265 q266 q267 q268 q269 q270 q271 q272 q273 q274 q275 q276 q277 q278 q279
          (try dsimp +zetaDelta only [Exit.then])
          apply_assumption
          exact rej_tail w wx _ (by exact fun a w' h1 h2 h3 h4 h5 => HRt.out a w' h1 h2 h3 h4 h5) (ba T) (ba r) t h1 i e f h2 h3 h4
      · obtain ⟨ch, hch⟩ : ∃ ch : Int, ch = p.getD 0 0 := ⟨_, rfl⟩
        rw [← hch] at c0 d2
        have e1 : (ch == 58) = false := beq_eq_false_iff_ne.2 d2
        clear a1 a2 d1 d2 hch hrd 
        go_enter Tryd.func160, Tryd.ntmps160
        go_upto_region 5 with fail
        go_quiet (fail)
        go_upto_block 0 with fail
        refine out7 w _ _ (by exact fun a w' h1 h2 h3 h4 h5 => HRt.out a w' h1 h2 h3 h4 h5) (ba T) (ba r) p HIn.out (p) none ?bb3 ?lb3 ?sb3 (fun q h => by cases h) ?fb3 ?kb3 ?mb3 ?wb3 ?ob3
        case bb3 => exact H0.out.1
        case lb3 => exact H0.out.2.1
        case sb3 => exact H0.out.2.2.1
        case fb3 => exact H0.out.2.2.2
        case kb3 => go_simp
        case mb3 => go_simp
        case wb3 => exact (by repeat' (first | (with_reducible exact Below.refl _ _) | (with_reducible assumption) | (with_reducible refine Below.alloc ?_ ?_ _) | (with_reducible refine Below.drew ?_) | (with_reducible refine below_drewN ?_ _) | (with_reducible refine Below.setCell ?_ ?_ _) | (with_reducible refine below_setRow' ?_ ?_ _) | go_size))
        case ob3 =>
          intro wx t i e f h1 h2 h3 h4 q1 q9 q10 q11 q12 q13 q14 q15 q16 q17 q18 q19 q20 q21 q22 q23 q24 q25 q26 q27 q28 q29 q30 q31 q32 q33 q34 q35 q36 q37 q38 q39 q40 q41 q42 q43 q44 q45 q46 q47 q48 q49 q50 q51 q52 q53 q54 q55 q56 q57 q58 q59 q60 q61 q62 q63 q64 q65 q66 q67 q68 q69 q70 q71 q72 q73 q74 q75 q76 q77 q78 q79 q80 q81 q82 q83 q84 q85 q86 q87 q88 q89 q90 q91 q92 q93 q94 q95 q96 q97 q98 q99 q100 q101 q102 q103 q104 q105 q106 q107 q108 q109 q110 q111 q112 q113 q114 q115 q116 q117 q118 q119 q120 q121 q122 q123 q124 q125 q126 q127 q128 q129 q130 q131 q132 q133 q134 q135 q136 q137 q138 q139 q140 q141 q142 q143 q144 q145 q146 q147 q148 q149 q150 q151 q152 q153 q154 q155 q156 q157 q158 q159 q160 q161 q162 q163 q164 q165 q166 q167 q168 q169 q170 q171 q172 q173 q174 q175 q176 q177 q178 q179 q180 q181 q182 q183 q184 q185 q186 q187 q188 q189 q190 q191 q192 q193 q194 q195 q196 q197 q198 q199 q200 q201 q202 q203 q204 q205 q206 q207 q208 q209 q210 q211 q212 q213 q214 q215 q216 q217 q218 q219 q220 q221 q222 q223 q224 q225 q226 q227 q228 q229 q230 q231 q232 q233 q234 q235 q236 q237 q238 q239 q240 q241 q242 q243 q244 q245 q246 q247 q248 q249 q250 q251 q252 q253 q254 q255 q256 q257 q258 q259 q260 q261 q262 q263 q264 q265 q266 q267 q268 q269 q270 q271 q272 q273 q274 q275 q276 q277 q278 q279
          (try dsimp +zetaDelta only [Exit.then])
          apply_assumption
          exact rej_tail w wx _ (by exact fun a w' h1 h2 h3 h4 h5 => HRt.out a w' h1 h2 h3 h4 h5) (ba T) (ba r) t h1 i e f h2 h3 h4
    · have q2 : ¬ ((2 : Int) ≤ (((ba p).size : Nat) : Int)) := by rw [ba_size]; omega
      clear a1 a2 d1 hrd 
      go_enter Tryd.func160, Tryd.ntmps160
      go_upto_region 5 with fail
      go_quiet (fail)
      go_upto_block 0 with fail
      refine out7 w _ _ (by exact fun a w' h1 h2 h3 h4 h5 => HRt.out a w' h1 h2 h3 h4 h5) (ba T) (ba r) p HIn.out (p) none ?bb4 ?lb4 ?sb4 (fun q h => by cases h) ?fb4 ?kb4 ?mb4 ?wb4 ?ob4
      case bb4 => exact H0.out.1
      case lb4 => exact H0.out.2.1
      case sb4 => exact H0.out.2.2.1
      case fb4 => exact H0.out.2.2.2
      case kb4 => go_simp
      case mb4 => go_simp
      case wb4 => exact (by repeat' (first | (with_reducible exact Below.refl _ _) | (with_reducible assumption) | (with_reducible refine Below.alloc ?_ ?_ _) | (with_reducible refine Below.drew ?_) | (with_reducible refine below_drewN ?_ _) | (with_reducible refine Below.setCell ?_ ?_ _) | (with_reducible refine below_setRow' ?_ ?_ _) | go_size))
      case ob4 =>
        intro wx t i e f h1 h2 h3 h4 q1 q9 q10 q11 q12 q13 q14 q15 q16 q17 q18 q19 q20 q21 q22 q23 q24 q25 q26 q27 q28 q29 q30 q31 q32 q33 q34 q35 q36 q37 q38 q39 q40 q41 q42 q43 q44 q45 q46 q47 q48 q49 q50 q51 q52 q53 q54 q55 q56 q57 q58 q59 q60 q61 q62 q63 q64 q65 q66 q67 q68 q69 q70 q71 q72 q73 q74 q75 q76 q77 q78 q79 q80 q81 q82 q83 q84 q85 q86 q87 q88 q89 q90 q91 q92 q93 q94 q95 q96 q97 q98 q99 q100 q101 q102 q103 q104 q105 q106 q107 q108 q109 q110 q111 q112 q113 q114 q115 q116 q117 q118 q119 q120 q121 q122 q123 q124 q125 q126 q127 q128 q129 q130 q131 q132 q133 q134 q135 q136 q137 q138 q139 q140 q141 q142 q143 q144 q145 q146 q147 q148 q149 q150 q151 q152 q153 q154 q155 q156 q157 q158 q159 q160 q161 q162 q163 q164 q165 q166 q167 q168 q169 q170 q171 q172 q173 q174 q175 q176 q177 q178 q179 q180 q181 q182 q183 q184 q185 q186 q187 q188 q189 q190 q191 q192 q193 q194 q195 q196 q197 q198 q199 q200 q201 q202 q203 q204 q205 q206 q207 q208 q209 q210 q211 q212 q213 q214 q215 q216 q217 q218 q219 q220 q221 q222 q223 q224 q225 q226 q227 q228 q229 q230 q231 q232 q233 q234 q235 q236 q237 q238 q239 q240 q241 q242 q243 q244 q245 q246 q247 q248 q249 q250 q251 q252 q253 q254 q255 q256 q257 q258 q259 q260 q261 q262 q263 q264 q265 q266 q267 q268 q269 q270 q271 q272 q273 q274 q275 q276 q277 q278 q279
        (try dsimp +zetaDelta only [Exit.then])
        apply_assumption
        exact rej_tail w wx _ (by exact fun a w' h1 h2 h3 h4 h5 => HRt.out a w' h1 h2 h3 h4 h5) (ba T) (ba r) t h1 i e f h2 h3 h4
end Go.Proofs.YtmlkcgacneealaaDoor
set_option linter.unusedVariables false
set_option linter.unusedSimpArgs false
namespace Go.Proofs.YtmlkcgacneealaaDoor
open Go.RowKit
theorem no_two (s : List Int) (h : cc s = []) : ¬ (2 ≤ s.length ∧ s.getD 0 0 = 58 ∧ s.getD 1 0 = 58) := by
  rintro ⟨h1, h2, h3⟩
  match s, h1, h2, h3, h with
  | a :: b :: r, _, h2, h3, h =>
    simp only [List.getD_cons_zero, List.getD_cons_succ] at h2 h3
    subst h2; subst h3
    rw [cc_two] at h; cases h
/-- What the reference takes, net/netip takes. -/
theorem sx_rd7 (s : List Int) (F : Nat → Int) (h : sx s = some (F, true)) : ∃ F', rd7 s = some F' ∧ ∀ k, k < 16 → F' k = F k := by
  unfold sx at h
  cases hc : cc s with
  | nil =>
    rw [hc] at h; dsimp only at h
    cases hs : side s true with
    | none => rw [hs] at h; cases h
    | some u =>
      obtain ⟨g, pl⟩ := u
      rw [hs] at h; dsimp only at h
      by_cases h8 : g.length = 8
      · rw [if_pos h8] at h
        simp only [Option.some.injEq, Prod.mk.injEq] at h
        obtain ⟨rfl, rfl⟩ := h
        unfold side at hs
        by_cases c0 : s = []
        · rw [if_pos c0] at hs
          simp only [Option.some.injEq, Prod.mk.injEq] at hs
          rw [← hs.1] at h8; simp at h8
        · rw [if_neg c0] at hs
          obtain ⟨g', e1, e2⟩ := p7_sdg (spl 58 s) 8 0 none zb [] true g (spl_ne 58 s) (spl_sep 58 s) hs
          rw [List.nil_append] at e1; subst e1
          have e3 := e2 (by omega) (fun _ => by omega) (by omega)
          rw [jn_spl] at e3
          refine ⟨_, ?_, fun k _ => rfl⟩
          rw [rd7, if_neg (no_two s hc), e3]
          simp only [fin7]
          rw [if_neg (by simp), if_neg (by omega)]
      · rw [if_neg h8] at h; cases h
  | cons i a =>
    cases a with
    | cons j b => rw [hc] at h; cases h
    | nil =>
      rw [hc] at h; dsimp only at h
      obtain ⟨hs, hi⟩ := cc_split s i [] hc
      cases hl0 : side (s.take i) false with
      | none => rw [hl0] at h; cases h
      | some u =>
        obtain ⟨l, pl0⟩ := u
        cases hr0 : side (s.drop (i + 2)) true with
        | none => rw [hl0, hr0] at h; cases h
        | some u =>
          obtain ⟨r, pl⟩ := u
          rw [hl0, hr0] at h; dsimp only at h
          by_cases h7 : l.length + r.length ≤ 7
          · rw [if_pos h7] at h
            simp only [Option.some.injEq, Prod.mk.injEq] at h
            obtain ⟨rfl, rfl⟩ := h
            obtain ⟨L, hL⟩ : ∃ L, L = s.take i := ⟨_, rfl⟩
            obtain ⟨R, hR⟩ : ∃ R, R = s.drop (i + 2) := ⟨_, rfl⟩
            have hLl : L.length = i := by rw [hL, List.length_take]; omega
            rw [← hL] at hl0 hs
            rw [← hR] at hr0 hs
            unfold side at hl0 hr0
            have HE := exp_wr l r h7
            by_cases cL : L = []
            · rw [if_pos cL] at hl0
              simp only [Option.some.injEq, Prod.mk.injEq] at hl0
              obtain ⟨rfl, _⟩ := hl0
              rw [cL, List.nil_append] at hs
              have hb : 2 ≤ s.length ∧ s.getD 0 0 = 58 ∧ s.getD 1 0 = 58 := by rw [hs]; simp
              have hd : s.drop 2 = R := by rw [hs]; rfl
              by_cases cR : R = []
              · rw [if_pos cR] at hr0
                simp only [Option.some.injEq, Prod.mk.injEq] at hr0
                obtain ⟨rfl, _⟩ := hr0
                refine ⟨zb, by rw [rd7, if_pos hb, hd, cR]; rfl, fun k hk => ?_⟩
                rw [← HE k hk]
                simp [exp6, wrg, zb]
              · rw [if_neg cR] at hr0
                obtain ⟨g', e1, e2⟩ := p7_sdg (spl 58 R) 8 0 (some 0) zb [] true r (spl_ne 58 R) (spl_sep 58 R) hr0
                rw [List.nil_append] at e1; subst e1
                simp only [List.length_nil, Nat.zero_add] at h7
                have e3 := e2 (by omega) (fun e => by cases e) (by omega)
                rw [jn_spl] at e3
                refine ⟨_, ?_, fun k hk => HE k hk⟩
                rw [rd7, if_pos hb, hd, if_neg (by rw [List.length_eq_zero_iff]; exact cR), e3]
                simp only [fin7, List.length_nil, Nat.zero_add, Nat.mul_zero, List.nil_append]
                rw [if_neg (by simp), if_pos (by omega)]
            · rw [if_neg cL] at hl0
              have hb : ¬ (2 ≤ s.length ∧ s.getD 0 0 = 58 ∧ s.getD 1 0 = 58) := by
                rcases cc_left s i [] hc with k | k
                · rw [k] at hLl
                  exact absurd (List.length_eq_zero_iff.1 hLl) cL
                · rintro ⟨_, k1, k2⟩; exact k k1 k2
              obtain ⟨g', e1, e3, e2⟩ := p7_pre (spl 58 L) (8 - l.length) 0 zb [] true pl0 l R (spl_ne 58 L) (spl_sep 58 L) hl0
              rw [List.nil_append] at e1; subst e1
              rw [jn_spl, ← hs, show 8 - l.length + l.length = 8 by omega] at e2
              simp only [Nat.zero_add] at e2
              by_cases cR : R = []
              · rw [if_pos cR] at hr0 e2
                simp only [Option.some.injEq, Prod.mk.injEq] at hr0
                obtain ⟨rfl, _⟩ := hr0
                refine ⟨_, ?_, fun k hk => HE k hk⟩
                rw [rd7, if_neg hb, e2]
                simp only [fin7, List.length_nil, Nat.add_zero, List.append_nil]
                rw [if_neg (by simp), if_pos (by simp only [List.length_nil] at h7; omega)]
              · rw [if_neg cR] at hr0 e2
                obtain ⟨g', e1, e4⟩ := p7_sdg (spl 58 R) (8 - l.length) (2 * l.length) (some (2 * l.length)) (wrg zb 0 l) [] true r (spl_ne 58 R) (spl_sep 58 R) hr0
                rw [List.nil_append] at e1; subst e1
                have e5 := e4 (by omega) (fun e => by cases e) (by omega)
                rw [jn_spl] at e5
                refine ⟨_, ?_, fun k hk => HE k hk⟩
                rw [rd7, if_neg hb, e2, e5]
                have e6 := wr_app zb 0 l r
                rw [Nat.zero_add] at e6
                rw [← e6, ← Nat.mul_add]
                simp only [fin7]
                rw [if_neg (by simp), if_pos (by omega)]
          · rw [if_neg h7] at h; cases h
theorem sdg_acc (last : Bool) : ∀ (ps : List (List Int)) (l : List Int) (pl : Bool), sdg last ps l pl = (sdg last ps [] true).map fun u => (l ++ u.1, pl && u.2)
  | [], l, pl => by simp [sdg]
  | p :: r, l, pl => by
    rw [sdg, sdg]
    cases numB 16 hxd 4 p with
    | some n =>
      dsimp only
      rw [sdg_acc last r (l ++ [n]) pl, sdg_acc last r ([] ++ [n]) true, Option.map_map]
      congr 1
      funext u
      simp
    | none =>
      cases qd p with
      | none => rfl
      | some u =>
        obtain ⟨x, c⟩ := u
        dsimp only
        by_cases c1 : last = true ∧ r = []
        · rw [if_pos c1, if_pos c1, c1.2]
          simp [sdg]
        · rw [if_neg c1, if_neg c1]; rfl
theorem tf_no58 (x : Nat → Int) : ∀ (n p : Nat), (∀ q, p ≤ q → q ≤ p + n → 0 ≤ x q ∧ x q < 256) → ∀ c ∈ tf x p n, c ≠ 58
  | 0, p, h => fun c hc => hx_ne c (dec_hx _ (h p (by omega) (by omega)) c hc)
  | n + 1, p, h => fun c hc => by
    rw [tf] at hc
    rcases List.mem_append.1 hc with k | k
    · exact hx_ne c (dec_hx _ (h p (by omega) (by omega)) c k)
    · rcases List.mem_cons.1 k with k | k
      · omega
      · exact tf_no58 x n (p + 1) (fun q h1 h2 => h q (by omega) (by omega)) c k
theorem hs_sub {a b : List Int} (ha : Hs a) (hb : Hs b) : Hs (a ++ b) := Hs.append ha hb
theorem p7_back : ∀ (n : Nat) (t : List Int) (i : Nat) (e : Option Nat) (f : Nat → Int) (i' : Nat) (e' : Option Nat) (f' : Nat → Int), p7 n t i e f = some ([], i', e', f') → t ≠ [] →
    t.getD 0 0 ≠ 58 ∧ Hs t ∧ t.length ≤ 6 * n + 15 ∧
    ((e' = e ∧ cc t = [] ∧ ∃ g, sdg true (spl 58 t) [] true = some (g, true) ∧ i' = i + 2 * g.length) ∨
     (e = none ∧ ∃ (L R l r : List Int) (pl : Bool), t = L ++ 58 :: 58 :: R ∧ L ≠ [] ∧ cc t = [L.length] ∧ sdg false (spl 58 L) [] true = some (l, pl) ∧ side R true = some (r, true) ∧ i' = i + 2 * (l.length + r.length) ∧ e' = some (i + 2 * l.length)))
  | 0, t, i, e, f, i', e', f', h, ht => by
    simp only [p7, Option.some.injEq, Prod.mk.injEq] at h
    exact absurd h.1 ht
  | n + 1, t, i, e, f, i', e', f', h, ht => by
    rw [p7] at h
    by_cases c1 : 4 < hl t
    · rw [if_pos c1] at h; cases h
    rw [if_neg c1] at h
    by_cases c2 : hl t = 0
    · rw [if_pos c2] at h; cases h
    rw [if_neg c2] at h
    have hh0 : t.getD 0 0 ≠ 58 := hx_ne _ (hl_hex t 0 (by omega))
    have hle := hl_le t
    by_cases c3 : hl t < t.length ∧ t.getD (hl t) 0 = 46
    · rw [if_pos c3] at h
      by_cases c4 : e = none ∧ i ≠ 12
      · rw [if_pos c4] at h; cases h
      rw [if_neg c4] at h
      by_cases c5 : 16 < i + 4
      · rw [if_pos c5] at h; cases h
      rw [if_neg c5] at h
      cases q : q4 t with
      | none => rw [q] at h; cases h
      | some x =>
        rw [q] at h
        simp only [Option.bind_some, Option.some.injEq, Prod.mk.injEq, true_and] at h
        obtain ⟨e1, e2⟩ := q4_text t x q
        have hno : ∀ c ∈ t, c ≠ 58 := by rw [e1]; exact tf_no58 x 3 0 (fun q _ h => e2 q (by omega))
        refine ⟨hh0, by rw [e1]; exact Hs_tf x 3 0 (fun q _ h => e2 q (by omega)), ?_, Or.inl ⟨h.2.1.symm, cc_no t hno, ?_⟩⟩
        · have d0 := dec_len (x 0); have d1 := dec_len (x (0 + 1)); have d2 := dec_len (x (0 + 1 + 1)); have d3 := dec_len (x (0 + 1 + 1 + 1))
          rw [e1]
          simp only [tf, List.length_append, List.length_cons]
          omega
        · rw [spl_no 58 t hno, sdg]
          have hn : numB 16 hxd 4 t = none := by
            unfold numB
            rw [if_neg]
            rintro ⟨_, _, k⟩
            have := List.all_eq_true.1 k (t.getD (hl t) 0) (by rw [List.getD_eq_getElem?_getD, List.getElem?_eq_getElem c3.1]; exact List.getElem_mem c3.1)
            rw [c3.2, hxd46] at this; cases this
          rw [hn, q4_qd t x q]
          dsimp only
          rw [if_pos ⟨rfl, rfl⟩]
          exact ⟨_, rfl, h.1.symm⟩
    rw [if_neg c3] at h
    obtain ⟨p, hp⟩ : ∃ p, p = t.take (hl t) := ⟨_, rfl⟩
    obtain ⟨d, hd⟩ : ∃ d, d = t.drop (hl t) := ⟨_, rfl⟩
    obtain ⟨v, hv⟩ : ∃ v, v = ha t (hl t) := ⟨_, rfl⟩
    have htd : t = p ++ d := by rw [hp, hd, List.take_append_drop]
    have hpl : p.length = hl t := by rw [hp, List.length_take]; omega
    have hG : Gk p v := by
      refine ⟨by omega, by omega, fun c hc => ?_, ?_⟩
      · rw [hp] at hc
        obtain ⟨k, hk, rfl⟩ := List.mem_iff_getElem.1 hc
        have hk' : k < hl t := by rw [List.length_take] at hk; omega
        have := hl_hex t k hk'
        rw [List.getD_eq_getElem?_getD, List.getElem?_eq_getElem (by omega), Option.getD_some] at this
        rw [List.getElem_take]; exact this
      · rw [hv, hpl]; unfold ha; rw [hp, List.take_take, Nat.min_self]
    have hN := Gk_num p v hG
    have hp58 : ∀ x ∈ p, x ≠ 58 := fun x hx => hx_ne x (hG.2.2.1 x hx)
    have hHp : Hs p := Hs_hex hG.2.2.1
    rw [← hd, ← hv] at h
    clear hp hd hv
    by_cases c6 : d.length = 0
    · rw [if_pos c6] at h
      simp only [Option.some.injEq, Prod.mk.injEq, true_and] at h
      have d0 : d = [] := List.length_eq_zero_iff.1 c6
      rw [d0, List.append_nil] at htd
      subst htd
      refine ⟨hh0, hHp, by omega, Or.inl ⟨h.2.1.symm, cc_no t hp58, [v], ?_, by simp; omega⟩⟩
      rw [spl_no 58 t hp58, sdg, hN]; rfl
    rw [if_neg c6] at h
    by_cases c7 : d.getD 0 0 ≠ 58
    · rw [if_pos c7] at h; cases h
    rw [if_neg c7] at h
    by_cases c8 : d.length = 1
    · rw [if_pos c8] at h; cases h
    rw [if_neg c8] at h
    obtain ⟨c, r, rfl⟩ : ∃ c r, d = 58 :: c :: r := by
      match d, c6, c7, c8 with
      | [], c6, _, _ => exact absurd rfl c6
      | [a], _, _, c8 => exact absurd rfl c8
      | a :: b :: r, _, c7, _ => exact ⟨b, r, by rw [Decidable.not_not.1 c7 |> (fun h : a = 58 => h)]⟩
    simp only [List.drop_succ_cons, List.drop_zero, List.getD_cons_zero] at h
    have hlen : t.length = p.length + (r.length + 2) := by rw [htd]; simp
    by_cases c9 : c = 58
    · rw [if_pos c9] at h
      subst c9
      by_cases c10 : e ≠ none
      · rw [if_pos c10] at h; cases h
      rw [if_neg c10] at h
      have e0 : e = none := Decidable.not_not.1 c10
      by_cases c11 : r.length = 0
      · rw [if_pos c11] at h
        simp only [Option.some.injEq, Prod.mk.injEq, true_and] at h
        have r0 : r = [] := List.length_eq_zero_iff.1 c11
        subst r0
        refine ⟨hh0, by rw [htd]; exact hHp.append (Hs.cons (Or.inr (Or.inl rfl)) (Hs.cons (Or.inr (Or.inl rfl)) Hs_nil)), by simp at hlen; omega, Or.inr ⟨e0, p, [], [v], [], true, htd, fun k => by rw [k] at hpl; simp at hpl; omega, ?_, ?_, rfl, by simp; omega, by rw [← h.2.1]; rfl⟩⟩
        · rw [htd, cc_app p _ hp58]; simp [cc]
        · rw [spl_no 58 p hp58, sdg, hN]; rfl
      · rw [if_neg c11] at h
        have hr : r ≠ [] := fun k => c11 (by rw [k]; rfl)
        obtain ⟨i1, i2, i3, i4⟩ := p7_back n r _ _ _ _ _ _ h hr
        rcases i4 with ⟨j1, j2, g, j3, j4⟩ | ⟨j1, _⟩
        · refine ⟨hh0, by rw [htd]; exact hHp.append (Hs.cons (Or.inr (Or.inl rfl)) (Hs.cons (Or.inr (Or.inl rfl)) i2)), by omega, Or.inr ⟨e0, p, r, [v], g, true, htd, fun k => by rw [k] at hpl; simp at hpl; omega, ?_, ?_, ?_, by simp; omega, by rw [j1]; rfl⟩⟩
          · rw [htd, cc_app p _ hp58, cc_two, cc_58 r i1, j2]; simp
          · rw [spl_no 58 p hp58, sdg, hN]; rfl
          · unfold side; rw [if_neg hr]; exact j3
        · cases j1
    · rw [if_neg c9] at h
      obtain ⟨i1, i2, i3, i4⟩ := p7_back n (c :: r) _ _ _ _ _ _ h (by simp)
      refine ⟨hh0, by rw [htd]; exact hHp.append (Hs.cons (Or.inr (Or.inl rfl)) i2), by simp only [List.length_cons] at i3; omega, ?_⟩
      have hcc : cc t = (cc (c :: r)).map (· + (p.length + 1)) := by
        rw [htd, cc_app p _ hp58, cc_one c r c9, List.map_map]
        refine List.map_congr_left (fun a _ => ?_)
        simp only [Function.comp]; omega
      rcases i4 with ⟨j1, j2, g, j3, j4⟩ | ⟨j1, L, R, l, r', pl, j2, j3, j4, j5, j6, j7, j8⟩
      · refine Or.inl ⟨j1, by rw [hcc, j2]; rfl, v :: g, ?_, by simp; omega⟩
        rw [htd, spl_app 58 _ p hp58, sdg, hN]
        dsimp only
        rw [sdg_acc, j3]; rfl
      · refine Or.inr ⟨j1, p ++ 58 :: L, R, v :: l, r', pl, by rw [htd, j2]; simp, by simp, ?_, ?_, j6, by simp; omega, by rw [j8, List.length_cons]; congr 1; omega⟩
        · rw [hcc, j4]; simp; omega
        · rw [spl_app 58 _ p hp58, sdg, hN]
          dsimp only
          rw [sdg_acc, j5]; simp
/-- What net/netip takes, the reference takes. -/
theorem rd7_sx (s : List Int) (F : Nat → Int) (h : rd7 s = some F) : (∃ F', sx s = some (F', true)) ∧ Hs s ∧ s.length ≤ 1000 ∧ Col s := by
  unfold rd7 at h
  by_cases c1 : 2 ≤ s.length ∧ s.getD 0 0 = 58 ∧ s.getD 1 0 = 58
  · rw [if_pos c1] at h
    obtain ⟨R, rfl⟩ : ∃ R, s = 58 :: 58 :: R := by
      obtain ⟨k1, k2, k3⟩ := c1
      match s, k1, k2, k3 with
      | a :: b :: R, _, k2, k3 => exact ⟨R, by simp only [List.getD_cons_zero, List.getD_cons_succ] at k2 k3; rw [k2, k3]⟩
    have hcol : Col (58 :: 58 :: R) := Col_cons _
    rw [show (58 :: 58 :: R : List Int).drop 2 = R from rfl] at h
    by_cases c2 : R.length = 0
    · have r0 : R = [] := List.length_eq_zero_iff.1 c2
      subst r0
      exact ⟨⟨wrg zb 0 ([] ++ List.replicate (8 - 0 - 0) 0 ++ []), by rfl⟩, Hs.cons (Or.inr (Or.inl rfl)) (Hs.cons (Or.inr (Or.inl rfl)) Hs_nil), by simp, hcol⟩
    · rw [if_neg c2] at h
      have hR : R ≠ [] := fun k => c2 (by rw [k]; rfl)
      cases q : p7 8 R 0 (some 0) zb with
      | none => rw [q] at h; cases h
      | some u =>
        obtain ⟨t', i', e', f'⟩ := u
        rw [q] at h
        simp only [fin7] at h
        by_cases c3 : t' ≠ []
        · rw [if_pos c3] at h; cases h
        rw [if_neg c3] at h
        have c4 : t' = [] := Decidable.not_not.1 c3
        subst c4
        obtain ⟨i1, i2, i3, i4⟩ := p7_back 8 R _ _ _ _ _ _ q hR
        rcases i4 with ⟨j1, j2, g, j3, j4⟩ | ⟨j1, _⟩
        · have hlt : i' < 16 := by
            by_cases k : i' < 16
            · exact k
            · rw [if_neg k, j1] at h; cases h
          refine ⟨?_, Hs.cons (Or.inr (Or.inl rfl)) (Hs.cons (Or.inr (Or.inl rfl)) i2), by simp; omega, hcol⟩
          unfold sx
          rw [cc_two, cc_58 R i1, j2]
          simp only [List.map_nil, List.take_zero, List.drop_succ_cons, List.drop_zero, Nat.zero_add]
          have s1 : side R true = some (g, true) := by unfold side; rw [if_neg hR]; exact j3
          have s0 : side ([] : List Int) false = some ([], true) := rfl
          rw [s0, s1]
          dsimp only
          rw [if_pos (by simp; omega)]
          exact ⟨_, rfl⟩
        · cases j1
  · rw [if_neg c1] at h
    cases q : p7 8 s 0 none zb with
    | none => rw [q] at h; cases h
    | some u =>
      obtain ⟨t', i', e', f'⟩ := u
      rw [q] at h
      simp only [fin7] at h
      by_cases c3 : t' ≠ []
      · rw [if_pos c3] at h; cases h
      rw [if_neg c3] at h
      have c4 : t' = [] := Decidable.not_not.1 c3
      subst c4
      have hs : s ≠ [] := fun k => by rw [k] at q; simp [p7, hl] at q
      have hcol : Col s := by
        have q2 := q
        rw [p7] at q2
        by_cases d1 : 4 < hl s
        · rw [if_pos d1] at q2; cases q2
        rw [if_neg d1] at q2
        by_cases d2 : hl s = 0
        · rw [if_pos d2] at q2; cases q2
        rw [if_neg d2] at q2
        by_cases d3 : hl s < s.length ∧ s.getD (hl s) 0 = 46
        · rw [if_pos d3, if_pos ⟨rfl, by omega⟩] at q2; cases q2
        rw [if_neg d3] at q2
        by_cases d4 : (s.drop (hl s)).length = 0
        · rw [if_pos d4] at q2
          simp only [Option.some.injEq, Prod.mk.injEq, true_and] at q2
          rw [← q2.1, ← q2.2.1] at h
          cases h
        rw [if_neg d4] at q2
        by_cases d5 : (s.drop (hl s)).getD 0 0 ≠ 58
        · rw [if_pos d5] at q2; cases q2
        have d6 := Decidable.not_not.1 d5
        rw [← getD_drop, Nat.add_zero] at d6
        rw [List.length_drop] at d4
        exact ⟨by omega, d6⟩
      obtain ⟨i1, i2, i3, i4⟩ := p7_back 8 s _ _ _ _ _ _ q hs
      refine ⟨?_, i2, by omega, hcol⟩
      rcases i4 with ⟨j1, j2, g, j3, j4⟩ | ⟨j1, L, R, l, r, pl, j2, j3, j4, j5, j6, j7, j8⟩
      · have hge : ¬ i' < 16 := fun k => by rw [if_pos k, j1] at h; cases h
        have hle := p7_le 8 _ _ _ _ _ _ _ _ q (by omega)
        unfold sx
        rw [j2]
        dsimp only
        have s1 : side s true = some (g, true) := by unfold side; rw [if_neg hs]; exact j3
        rw [s1]
        dsimp only
        rw [if_pos (by omega)]
        exact ⟨_, rfl⟩
      · have hlt : i' < 16 := by
          by_cases k : i' < 16
          · exact k
          · rw [if_neg k, j8] at h; cases h
        unfold sx
        rw [j4]
        dsimp only
        have s0 : side (s.take L.length) false = some (l, pl) := by rw [j2, List.take_left]; unfold side; rw [if_neg j3]; exact j5
        have s1 : side (s.drop (L.length + 2)) true = some (r, true) := by
          rw [j2, ← List.drop_drop, List.drop_left]; exact j6
        rw [s0, s1]
        dsimp only
        rw [if_pos (by omega)]
        exact ⟨_, rfl⟩
/-! Capitals. -/
def Cp (a b : Int) : Prop := b = a ∨ (97 ≤ a ∧ a ≤ 102 ∧ b = a - 32)
/-- Letter by letter. -/
def Cps : List Int → List Int → Prop
  | [], [] => True
  | a :: s, b :: t => Cp a b ∧ Cps s t
  | _, _ => False
theorem Cps.nil : Cps [] [] := trivial
theorem Cps.cons {a b : Int} {s t : List Int} (h1 : Cp a b) (h2 : Cps s t) : Cps (a :: s) (b :: t) := ⟨h1, h2⟩
theorem Cps.ind {motive : (s t : List Int) → Cps s t → Prop} (nil : motive [] [] Cps.nil) (cons : ∀ {a b : Int} {s t : List Int} (h1 : Cp a b) (h2 : Cps s t), motive s t h2 → motive (a :: s) (b :: t) (Cps.cons h1 h2)) : ∀ {s t : List Int} (h : Cps s t), motive s t h
  | [], [], _ => nil
  | a :: s, b :: t, h => cons h.1 h.2 (Cps.ind nil cons h.2)
  | [], _ :: _, h => h.elim
  | _ :: _, [], h => h.elim
theorem Cps.len {s t : List Int} (h : Cps s t) : t.length = s.length := by
  induction h using Cps.ind with
  | nil => rfl
  | cons _ _ ih => simp [ih]
theorem Cps.drop {s t : List Int} (h : Cps s t) (k : Nat) : Cps (s.drop k) (t.drop k) := by
  induction h using Cps.ind generalizing k with
  | nil => simp; exact Cps.nil
  | cons a b ih =>
    cases k with
    | zero => exact Cps.cons a b
    | succ k => exact ih k
theorem Cps.take {s t : List Int} (h : Cps s t) (k : Nat) : Cps (s.take k) (t.take k) := by
  induction h using Cps.ind generalizing k with
  | nil => simp; exact Cps.nil
  | cons a b ih =>
    cases k with
    | zero => exact Cps.nil
    | succ k => exact Cps.cons a (ih k)
theorem Cps.at {s t : List Int} (h : Cps s t) (k : Nat) (c : Int) (hc : c < 65) : t.getD k 0 = c ↔ s.getD k 0 = c := by
  induction h using Cps.ind generalizing k with
  | nil => rfl
  | @cons a b s t h1 h2 ih =>
    cases k with
    | zero =>
      simp only [List.getD_cons_zero]
      rcases h1 with h | ⟨h, k, e⟩
      · rw [h]
      · omega
    | succ k => exact ih k
theorem Cp.hx {a b : Int} (h : Cp a b) : hxd b = hxd a ∧ (hxd a = true → hval b = hval a) := by
  rcases h with rfl | ⟨h1, h2, rfl⟩
  · exact ⟨rfl, fun _ => rfl⟩
  · have e1 : hxd (a - 32) = true := by unfold hxd; simp only [Bool.or_eq_true, decide_eq_true_eq]; omega
    have e2 : hxd a = true := by unfold hxd; simp only [Bool.or_eq_true, decide_eq_true_eq]; omega
    refine ⟨by rw [e1, e2], fun _ => ?_⟩
    unfold hval
    rw [if_neg (by omega), if_neg (by omega), if_neg (by omega), if_pos (by omega)]; omega
theorem Cps.hl {s t : List Int} (h : Cps s t) : hl t = hl s := by
  unfold Go.Proofs.YtmlkcgacneealaaDoor.hl
  induction h using Cps.ind with
  | nil => rfl
  | @cons a b s t h1 h2 ih =>
    rw [List.takeWhile_cons, List.takeWhile_cons, h1.hx.1]
    split
    · simp [ih]
    · rfl
theorem Cps.ha {s t : List Int} (h : Cps s t) : ∀ k, k ≤ Go.Proofs.YtmlkcgacneealaaDoor.hl s → ha t k = ha s k := by
  intro k
  induction k with
  | zero => intro _; rfl
  | succ k ih =>
    intro hk
    have hle := hl_le s
    have hlen := h.len
    rw [ha_succ t k (by omega), ha_succ s k (by omega), ih (by omega)]
    have hx := hl_hex s k (by omega)
    have key : ∀ {s t : List Int}, Cps s t → ∀ k, k < s.length → Cp (s.getD k 0) (t.getD k 0) := by
      intro s t h
      induction h using Cps.ind with
      | nil => intro k hk; simp at hk
      | cons a b ih =>
        intro k hk
        cases k with
        | zero => exact a
        | succ k => exact ih k (by simpa using hk)
    rw [(key h k (by omega)).hx.2 hx]
theorem Cps.q4go {s t : List Int} (h : Cps s t) : ∀ (d : Bool) (v : Int) (l p : Nat) (x : Nat → Int), q4go t d v l p x = q4go s d v l p x := by
  induction h using Cps.ind with
  | nil => intros; rfl
  | @cons a b s t h1 h2 ih =>
    intro d v l p x
    have ht : t = [] ↔ s = [] := by
      constructor
      · intro e; have := h2.len; rw [e] at this; exact List.length_eq_zero_iff.1 this.symm
      · intro e; have := h2.len; rw [e] at this; exact List.length_eq_zero_iff.1 this
    rw [Go.Proofs.YtmlkcgacneealaaDoor.q4go, Go.Proofs.YtmlkcgacneealaaDoor.q4go]
    rcases h1 with rfl | ⟨k1, k2, rfl⟩
    · simp only [ih, ht]
    · rw [if_neg (by omega), if_neg (by omega), if_neg (by omega), if_neg (by omega)]
theorem Cps.q4 {s t : List Int} (h : Cps s t) : q4 t = q4 s := h.q4go _ _ _ _ _
theorem Cps.p7 : ∀ (n : Nat) {s t : List Int} (h : Cps s t) (i : Nat) (e : Option Nat) (f : Nat → Int), fin7 (p7 n t i e f) = fin7 (p7 n s i e f)
  | 0, s, t, h, i, e, f => by
    have ht : t = [] ↔ s = [] := by
      constructor
      · intro e; have := h.len; rw [e] at this; exact List.length_eq_zero_iff.1 this.symm
      · intro e; have := h.len; rw [e] at this; exact List.length_eq_zero_iff.1 this
    simp only [Go.Proofs.YtmlkcgacneealaaDoor.p7, fin7, ne_eq, ht]
  | n + 1, s, t, h, i, e, f => by
    have e1 := h.hl
    have e2 := h.ha (Go.Proofs.YtmlkcgacneealaaDoor.hl s) (Nat.le_refl _)
    have e3 := h.len
    have e4 := h.at (Go.Proofs.YtmlkcgacneealaaDoor.hl s) 46 (by omega)
    have d1 := h.drop (Go.Proofs.YtmlkcgacneealaaDoor.hl s)
    have e5 := d1.len
    have e6 := d1.at 0 58 (by omega)
    have d2 := d1.drop 1
    have e7 := d2.at 0 58 (by omega)
    have d3 := d2.drop 1
    have e8 := d3.len
    rw [Go.Proofs.YtmlkcgacneealaaDoor.p7, Go.Proofs.YtmlkcgacneealaaDoor.p7, e1, e2, e3, h.q4]
    simp only [e4, e5, e6, e7, e8, ne_eq]
    repeat' split
    all_goals first | rfl | exact Cps.p7 n d3 _ _ _ | exact Cps.p7 n d2 _ _ _
theorem Cps.rd7 {s t : List Int} (h : Cps s t) : rd7 t = rd7 s := by
  have e3 := h.len
  have d := h.drop 2
  have e4 := d.len
  unfold Go.Proofs.YtmlkcgacneealaaDoor.rd7
  simp only [e3, e4, h.at 0 58 (by omega), h.at 1 58 (by omega), Cps.p7 8 d, Cps.p7 8 h]
end Go.Proofs.YtmlkcgacneealaaDoor
set_option linter.unusedVariables false
set_option linter.unusedSimpArgs false
namespace Go.Proofs.YtmlkcgacneealaaDoor
open Go.RowKit
set_option maxHeartbeats 4000000 in
set_option maxRecDepth 100000 in
theorem parse4e (s : List Int) (hB : By s) (hq : q4 s = none) (hs : s.length ≤ 1048576) (w : World) : Calls Tryd.prog 159 #[.string (ba s)] w fun e w' => (∃ p, e = .returned (.tuple #[.agg #[.int .u64 0, .int .u64 0, .pointer none], .iface 124 p])) ∧ Below w.heap.size w w' := by
  have hsm : (((ba s).size : Nat) : Int) ≤ 1048576 := by rw [ba_size]; omega
  have hcall : ∀ wq : World, blk? wq (w.heap.size + 1) = some (arr4 zb) → Calls Tryd.prog 173 #[.string (ba s), .int .i64 0, .int .i64 (((ba s).size : Nat) : Int), .slice (some ⟨w.heap.size + 1, 0, none⟩) 4 4] wq fun en w' => (∃ p, en = .returned (.iface 124 p)) ∧ GX (w.heap.size + 1) wq w' := fun (wq : World) (hb : blk? wq (w.heap.size + 1) = some (arr4 zb)) => prs4e s hB hq hs (ba s) 0 (ba s).size (by omega) (Nat.le_refl _) (ba_whole _) (by omega) (w.heap.size + 1) 0 4 (Nat.le_refl _) (arr4 zb) (fun j hj => ⟨0, by match j, hj with | 0, _ => rfl | 1, _ => rfl | 2, _ => rfl | 3, _ => rfl⟩) wq hb
  have HCall := Lib.hid hcall
  clear hB hq hcall
  go_enter Tryd.func159, Tryd.ntmps159
  go_wp2_with (first
    | (go_at_call 173; (with_reducible refine (HCall.out _ ?_).mono ?_); go_simp; rintro e w1 ⟨⟨pe, rfl⟩, hgr⟩; have hk1 := blk?_gx hgr; have hB1 := GX.below (B := w.heap.size) (a := w) (by repeat' (first | (with_reducible exact Below.refl _ _) | (with_reducible assumption) | (with_reducible refine Below.alloc ?_ ?_ _) | (with_reducible refine Below.drew ?_) | (with_reducible refine below_drewN ?_ _) | (with_reducible refine Below.setCell ?_ ?_ _) | (with_reducible refine below_setRow' ?_ ?_ _) | go_size)) hgr (by simp; omega) (by omega); have hL0 : w.heap.size + 1 < w1.heap.size := (by have hS1 := hgr.size; simp at hS1; omega); have hL1 : w.heap.size < w1.heap.size := (by omega); clear hgr))
  refine bodyPost_ret (res78t Tryd.results159 _ _ (w.heap.size) _ rfl ?_ rfl) rfl ⟨⟨_, rfl⟩, (by repeat' (first | (with_reducible exact Below.refl _ _) | (with_reducible assumption) | (with_reducible refine Below.alloc ?_ ?_ _) | (with_reducible refine Below.drew ?_) | (with_reducible refine below_drewN ?_ _) | (with_reducible refine Below.setCell ?_ ?_ _) | (with_reducible refine below_setRow' ?_ ?_ _) | go_size))⟩
  go_simp
set_option maxHeartbeats 4000000 in
set_option maxRecDepth 100000 in
theorem pe_46 (s : List Int) (hB : By s) (m : Nat) (hm : m < s.length) (hat : s.getD m 0 = 46) (hpre : ∀ i, i < m → s.getD i 0 ≠ 46 ∧ s.getD i 0 ≠ 58 ∧ s.getD i 0 ≠ 37) (hl : s.length ≤ 1048576) (hR : ∀ w, Calls Tryd.prog 159 #[.string (ba s)] w fun e w' => (∃ p, e = .returned (.tuple #[.agg #[.int .u64 0, .int .u64 0, .pointer none], .iface 124 p])) ∧ Below w.heap.size w w') (w : World) :
    Calls Tryd.prog 121 #[.string (ba s)] w fun e w' => (∃ p, e = .returned (.tuple #[.agg #[.int .u64 0, .int .u64 0, .pointer none], .iface 124 p])) ∧ Below w.heap.size w w' := by
  have HR := Lib.hid hR
  have HB := Lib.hid hB
  have HPre := Lib.hid hpre
  have HAt := Lib.hid hat
  clear hR hB hpre hat
  have HSz := Lib.hid (ba_size s)
  go_enter Tryd.func121, Tryd.ntmps121
  go_wp2
  go_loopw [3, 4] (fun v3 v4 wr => ∃ i : Nat, i ≤ m ∧ v3 = .nilIface ∧ v4 = .int .i64 (i : Int) ∧ blk? wr w.heap.size = some #[.int .u64 0, .int .u64 0, .pointer none] ∧ Below w.heap.size w wr) (fun _ i _ => m - (intOf i).toNat)
  case atStart => exact ⟨0, by omega, rfl, rfl, by go_simp, (by repeat' (first | (with_reducible exact Below.refl _ _) | (with_reducible assumption) | (with_reducible refine Below.alloc ?_ ?_ _) | (with_reducible refine Below.drew ?_) | (with_reducible refine below_drewN ?_ _) | (with_reducible refine Below.setCell ?_ ?_ _) | (with_reducible refine below_setRow' ?_ ?_ _) | go_size))⟩
  case round =>
    obtain ⟨i, him, rfl, rfl, k0, hBw⟩ := hrel
    have hsz := HSz.out
    have hl0 := blk?_lt k0
    have hi0 : (0 : Int) ≤ (i : Int) := by omega
    have hil : i < (ba s).size := by omega
    have hi1 : (i : Int) < (((ba s).size : Nat) : Int) := by omega
    have hi2 : (i : Int) + 1 ≤ 9223372036854775807 := by omega
    clear hsz
    by_cases hlt : i < m
    · have hcv := ba_get _ HB.out i hil
      have hp := HPre.out i hlt
      obtain ⟨ch, hch⟩ : ∃ ch : Int, ch = s.getD i 0 := ⟨_, rfl⟩
      rw [← hch] at hcv hp
      have h1 : (ch == 46) = false := beq_eq_false_iff_ne.2 hp.1
      have h2 : (ch == 58) = false := beq_eq_false_iff_ne.2 hp.2.1
      have h3 : (ch == 37) = false := beq_eq_false_iff_ne.2 hp.2.2
      clear hch hp
      go_wp2
      go_roundw
      case rel => exact ⟨i + 1, by omega, rfl, by go_num, k0, hBw⟩
      case measure => simp [intOf]; omega
    · obtain rfl : i = m := by omega
      have hcv := ba_get _ HB.out i hil
      rw [HAt.out] at hcv
      have hQ : w.heap.size < wr.heap.size + 1 := by omega
      go_wp2_with (first
        | (go_at_call 159; (with_reducible refine (HR.out _).mono ?_); rintro e w2 ⟨⟨p, rfl⟩, hb1⟩; have hk1 := blk?_below hb1; (try simp only [size_drew', size_drewN'] at hk1); have hB1 := below_via (w := w) (by repeat' (first | (with_reducible exact Below.refl _ _) | (with_reducible assumption) | (with_reducible refine Below.alloc ?_ ?_ _) | (with_reducible refine Below.drew ?_) | (with_reducible refine below_drewN ?_ _) | (with_reducible refine Below.setCell ?_ ?_ _) | (with_reducible refine below_setRow' ?_ ?_ _) | go_size)) hb1; have hL0 : w.heap.size < w2.heap.size := (by have hS0 := hb1.size; (try simp at hS0); omega); have hLe : w.heap.size ≤ w2.heap.size := hB1.size; clear hb1))
      refine bodyPost_ret (res78t Tryd.results121 _ _ (w.heap.size) _ rfl ?_ rfl) rfl ⟨⟨_, rfl⟩, (by repeat' (first | (with_reducible exact Below.refl _ _) | (with_reducible assumption) | (with_reducible refine Below.alloc ?_ ?_ _) | (with_reducible refine Below.drew ?_) | (with_reducible refine below_drewN ?_ _) | (with_reducible refine Below.setCell ?_ ?_ _) | (with_reducible refine below_setRow' ?_ ?_ _) | go_size))⟩
      go_simp
set_option maxHeartbeats 4000000 in
set_option maxRecDepth 100000 in
theorem pe_58 (s : List Int) (hB : By s) (m : Nat) (hm : m < s.length) (hat : s.getD m 0 = 58) (hpre : ∀ i, i < m → s.getD i 0 ≠ 46 ∧ s.getD i 0 ≠ 58 ∧ s.getD i 0 ≠ 37) (hl : s.length ≤ 1048576) (hR : ∀ w, Calls Tryd.prog 160 #[.string (ba s)] w fun e w' => (∃ p, e = .returned (.tuple #[.agg #[.int .u64 0, .int .u64 0, .pointer none], .iface 124 p])) ∧ Below w.heap.size w w') (w : World) :
    Calls Tryd.prog 121 #[.string (ba s)] w fun e w' => (∃ p, e = .returned (.tuple #[.agg #[.int .u64 0, .int .u64 0, .pointer none], .iface 124 p])) ∧ Below w.heap.size w w' := by
  have HR := Lib.hid hR
  have HB := Lib.hid hB
  have HPre := Lib.hid hpre
  have HAt := Lib.hid hat
  clear hR hB hpre hat
  have HSz := Lib.hid (ba_size s)
  go_enter Tryd.func121, Tryd.ntmps121
  go_wp2
  go_loopw [3, 4] (fun v3 v4 wr => ∃ i : Nat, i ≤ m ∧ v3 = .nilIface ∧ v4 = .int .i64 (i : Int) ∧ blk? wr w.heap.size = some #[.int .u64 0, .int .u64 0, .pointer none] ∧ Below w.heap.size w wr) (fun _ i _ => m - (intOf i).toNat)
  case atStart => exact ⟨0, by omega, rfl, rfl, by go_simp, (by repeat' (first | (with_reducible exact Below.refl _ _) | (with_reducible assumption) | (with_reducible refine Below.alloc ?_ ?_ _) | (with_reducible refine Below.drew ?_) | (with_reducible refine below_drewN ?_ _) | (with_reducible refine Below.setCell ?_ ?_ _) | (with_reducible refine below_setRow' ?_ ?_ _) | go_size))⟩
  case round =>
    obtain ⟨i, him, rfl, rfl, k0, hBw⟩ := hrel
    have hsz := HSz.out
    have hl0 := blk?_lt k0
    have hi0 : (0 : Int) ≤ (i : Int) := by omega
    have hil : i < (ba s).size := by omega
    have hi1 : (i : Int) < (((ba s).size : Nat) : Int) := by omega
    have hi2 : (i : Int) + 1 ≤ 9223372036854775807 := by omega
    clear hsz
    by_cases hlt : i < m
    · have hcv := ba_get _ HB.out i hil
      have hp := HPre.out i hlt
      obtain ⟨ch, hch⟩ : ∃ ch : Int, ch = s.getD i 0 := ⟨_, rfl⟩
      rw [← hch] at hcv hp
      have h1 : (ch == 46) = false := beq_eq_false_iff_ne.2 hp.1
      have h2 : (ch == 58) = false := beq_eq_false_iff_ne.2 hp.2.1
      have h3 : (ch == 37) = false := beq_eq_false_iff_ne.2 hp.2.2
      clear hch hp
      go_wp2
      go_roundw
      case rel => exact ⟨i + 1, by omega, rfl, by go_num, k0, hBw⟩
      case measure => simp [intOf]; omega
    · obtain rfl : i = m := by omega
      have hcv := ba_get _ HB.out i hil
      rw [HAt.out] at hcv
      have hQ : w.heap.size < wr.heap.size + 1 := by omega
      go_wp2_with (first
        | (go_at_call 160; (with_reducible refine (HR.out _).mono ?_); rintro e w2 ⟨⟨p, rfl⟩, hb1⟩; have hk1 := blk?_below hb1; (try simp only [size_drew', size_drewN'] at hk1); have hB1 := below_via (w := w) (by repeat' (first | (with_reducible exact Below.refl _ _) | (with_reducible assumption) | (with_reducible refine Below.alloc ?_ ?_ _) | (with_reducible refine Below.drew ?_) | (with_reducible refine below_drewN ?_ _) | (with_reducible refine Below.setCell ?_ ?_ _) | (with_reducible refine below_setRow' ?_ ?_ _) | go_size)) hb1; have hL0 : w.heap.size < w2.heap.size := (by have hS0 := hb1.size; (try simp at hS0); omega); have hLe : w.heap.size ≤ w2.heap.size := hB1.size; clear hb1))
      refine bodyPost_ret (res78t Tryd.results121 _ _ (w.heap.size) _ rfl ?_ rfl) rfl ⟨⟨_, rfl⟩, (by repeat' (first | (with_reducible exact Below.refl _ _) | (with_reducible assumption) | (with_reducible refine Below.alloc ?_ ?_ _) | (with_reducible refine Below.drew ?_) | (with_reducible refine below_drewN ?_ _) | (with_reducible refine Below.setCell ?_ ?_ _) | (with_reducible refine below_setRow' ?_ ?_ _) | go_size))⟩
      go_simp
set_option maxHeartbeats 4000000 in
set_option maxRecDepth 100000 in
theorem pe_37 (s : List Int) (hB : By s) (m : Nat) (hm : m < s.length) (hat : s.getD m 0 = 37) (hpre : ∀ i, i < m → s.getD i 0 ≠ 46 ∧ s.getD i 0 ≠ 58 ∧ s.getD i 0 ≠ 37) (hl : s.length ≤ 1048576) (w : World) :
    Calls Tryd.prog 121 #[.string (ba s)] w fun e w' => (∃ p, e = .returned (.tuple #[.agg #[.int .u64 0, .int .u64 0, .pointer none], .iface 124 p])) ∧ Below w.heap.size w w' := by
  skip
  have HB := Lib.hid hB
  have HPre := Lib.hid hpre
  have HAt := Lib.hid hat
  clear hB hpre hat
  have HSz := Lib.hid (ba_size s)
  go_enter Tryd.func121, Tryd.ntmps121
  go_wp2
  go_loopw [3, 4] (fun v3 v4 wr => ∃ i : Nat, i ≤ m ∧ v3 = .nilIface ∧ v4 = .int .i64 (i : Int) ∧ blk? wr w.heap.size = some #[.int .u64 0, .int .u64 0, .pointer none] ∧ Below w.heap.size w wr) (fun _ i _ => m - (intOf i).toNat)
  case atStart => exact ⟨0, by omega, rfl, rfl, by go_simp, (by repeat' (first | (with_reducible exact Below.refl _ _) | (with_reducible assumption) | (with_reducible refine Below.alloc ?_ ?_ _) | (with_reducible refine Below.drew ?_) | (with_reducible refine below_drewN ?_ _) | (with_reducible refine Below.setCell ?_ ?_ _) | (with_reducible refine below_setRow' ?_ ?_ _) | go_size))⟩
  case round =>
    obtain ⟨i, him, rfl, rfl, k0, hBw⟩ := hrel
    have hsz := HSz.out
    have hl0 := blk?_lt k0
    have hi0 : (0 : Int) ≤ (i : Int) := by omega
    have hil : i < (ba s).size := by omega
    have hi1 : (i : Int) < (((ba s).size : Nat) : Int) := by omega
    have hi2 : (i : Int) + 1 ≤ 9223372036854775807 := by omega
    clear hsz
    by_cases hlt : i < m
    · have hcv := ba_get _ HB.out i hil
      have hp := HPre.out i hlt
      obtain ⟨ch, hch⟩ : ∃ ch : Int, ch = s.getD i 0 := ⟨_, rfl⟩
      rw [← hch] at hcv hp
      have h1 : (ch == 46) = false := beq_eq_false_iff_ne.2 hp.1
      have h2 : (ch == 58) = false := beq_eq_false_iff_ne.2 hp.2.1
      have h3 : (ch == 37) = false := beq_eq_false_iff_ne.2 hp.2.2
      clear hch hp
      go_wp2
      go_roundw
      case rel => exact ⟨i + 1, by omega, rfl, by go_num, k0, hBw⟩
      case measure => simp [intOf]; omega
    · obtain rfl : i = m := by omega
      have hcv := ba_get _ HB.out i hil
      rw [HAt.out] at hcv
      have hQ : w.heap.size < wr.heap.size + 1 := by omega
      go_wp2
      refine bodyPost_ret (res78t Tryd.results121 _ _ (w.heap.size) _ rfl ?_ rfl) rfl ⟨⟨_, rfl⟩, (by repeat' (first | (with_reducible exact Below.refl _ _) | (with_reducible assumption) | (with_reducible refine Below.alloc ?_ ?_ _) | (with_reducible refine Below.drew ?_) | (with_reducible refine below_drewN ?_ _) | (with_reducible refine Below.setCell ?_ ?_ _) | (with_reducible refine below_setRow' ?_ ?_ _) | go_size))⟩
      go_simp
set_option maxHeartbeats 4000000 in
set_option maxRecDepth 100000 in
theorem pe_none (s : List Int) (hB : By s) (hpre : ∀ i, i < s.length → s.getD i 0 ≠ 46 ∧ s.getD i 0 ≠ 58 ∧ s.getD i 0 ≠ 37) (hl : s.length ≤ 1048576) (w : World) :
    Calls Tryd.prog 121 #[.string (ba s)] w fun e w' => (∃ p, e = .returned (.tuple #[.agg #[.int .u64 0, .int .u64 0, .pointer none], .iface 124 p])) ∧ Below w.heap.size w w' := by
  have HB := Lib.hid hB
  have HPre := Lib.hid hpre
  clear hB hpre
  have HSz := Lib.hid (ba_size s)
  go_enter Tryd.func121, Tryd.ntmps121
  go_wp2
  go_loopw [3, 4] (fun v3 v4 wr => ∃ i : Nat, i ≤ (ba s).size ∧ v3 = .nilIface ∧ v4 = .int .i64 (i : Int) ∧ blk? wr w.heap.size = some #[.int .u64 0, .int .u64 0, .pointer none] ∧ Below w.heap.size w wr) (fun _ i _ => (ba s).size - (intOf i).toNat)
  case atStart => exact ⟨0, by omega, rfl, rfl, by go_simp, (by repeat' (first | (with_reducible exact Below.refl _ _) | (with_reducible assumption) | (with_reducible refine Below.alloc ?_ ?_ _) | (with_reducible refine Below.drew ?_) | (with_reducible refine below_drewN ?_ _) | (with_reducible refine Below.setCell ?_ ?_ _) | (with_reducible refine below_setRow' ?_ ?_ _) | go_size))⟩
  case round =>
    obtain ⟨i, him, rfl, rfl, k0, hBw⟩ := hrel
    have hsz := HSz.out
    have hl0 := blk?_lt k0
    have hi0 : (0 : Int) ≤ (i : Int) := by omega
    have hi2 : (i : Int) + 1 ≤ 9223372036854775807 := by omega
    by_cases hlt : i < (ba s).size
    · have hi1 : (i : Int) < (((ba s).size : Nat) : Int) := by omega
      have hcv := ba_get _ HB.out i hlt
      have hp := HPre.out i (by omega)
      clear hsz
      obtain ⟨ch, hch⟩ : ∃ ch : Int, ch = s.getD i 0 := ⟨_, rfl⟩
      rw [← hch] at hcv hp
      have h1 : (ch == 46) = false := beq_eq_false_iff_ne.2 hp.1
      have h2 : (ch == 58) = false := beq_eq_false_iff_ne.2 hp.2.1
      have h3 : (ch == 37) = false := beq_eq_false_iff_ne.2 hp.2.2
      clear hch hp
      go_wp2
      go_roundw
      case rel => exact ⟨i + 1, by omega, rfl, by go_num, k0, hBw⟩
      case measure => simp [intOf]; omega
    · have hi1 : ¬ ((i : Int) < (((ba s).size : Nat) : Int)) := by omega
      clear hsz
      go_wp2
      refine bodyPost_ret (res78t Tryd.results121 _ _ (w.heap.size) _ rfl ?_ rfl) rfl ⟨⟨_, rfl⟩, (by repeat' (first | (with_reducible exact Below.refl _ _) | (with_reducible assumption) | (with_reducible refine Below.alloc ?_ ?_ _) | (with_reducible refine Below.drew ?_) | (with_reducible refine below_drewN ?_ _) | (with_reducible refine Below.setCell ?_ ?_ _) | (with_reducible refine below_setRow' ?_ ?_ _) | go_size))⟩
      go_simp

/-- The first full stop, colon or percent sign. -/
theorem first_sp : ∀ T : List Int, (∀ i, i < T.length → T.getD i 0 ≠ 46 ∧ T.getD i 0 ≠ 58 ∧ T.getD i 0 ≠ 37) ∨ ∃ m, m < T.length ∧ (T.getD m 0 = 46 ∨ T.getD m 0 = 58 ∨ T.getD m 0 = 37) ∧ ∀ i, i < m → T.getD i 0 ≠ 46 ∧ T.getD i 0 ≠ 58 ∧ T.getD i 0 ≠ 37
  | [] => Or.inl (fun i hi => by simp at hi)
  | a :: T => by
    by_cases c : a = 46 ∨ a = 58 ∨ a = 37
    · exact Or.inr ⟨0, by simp, by simpa using c, fun i hi => absurd hi (by omega)⟩
    · have ha : a ≠ 46 ∧ a ≠ 58 ∧ a ≠ 37 := ⟨fun e => c (Or.inl e), fun e => c (Or.inr (Or.inl e)), fun e => c (Or.inr (Or.inr e))⟩
      rcases first_sp T with h | ⟨m, h1, h2, h3⟩
      · refine Or.inl (fun i hi => ?_)
        cases i with
        | zero => exact ha
        | succ i => exact h i (by simpa using hi)
      · refine Or.inr ⟨m + 1, by simpa using h1, h2, fun i hi => ?_⟩
        cases i with
        | zero => exact ha
        | succ i => exact h3 i (by omega)
/-- What parseIPv6 refuses. -/
def Bad6 (T : List Int) : Prop := (∀ c ∈ T, c ≠ 37) ∧ rd7 T = none ∨ ∃ p r, (∀ c ∈ p, c ≠ 37) ∧ T = p ++ 37 :: r ∧ rd7 p = none
theorem readErr (T : List Int) (hB : By T) (hl : T.length ≤ 1048576) (h4 : q4 T = none) (h6 : Bad6 T) {b4 o4 b6 o6 : Nat} (w : World) (hg : Gl b4 o4 b6 o6 w) :
    Calls Tryd.prog 66 #[.string (ba T)] w fun e w' => e = .returned (.tuple #[.agg (adr 0 zb ⟨#[]⟩), .bool false]) ∧ Below w.heap.size w w' := by
  refine implParseF _ w hg (fun w hg => ?_)
  rcases first_sp T with h | ⟨m, h1, h2, h3⟩
  · exact pe_none T hB h hl w
  · rcases h2 with h2 | h2 | h2
    · exact pe_46 T hB m h1 h2 h3 hl (fun w => parse4e T hB h4 hl w) w
    · refine pe_58 T hB m h1 h2 h3 hl (fun w => ?_) w
      rcases h6 with ⟨a1, a2⟩ | ⟨p, r, a1, rfl, a2⟩
      · exact parse6eA T hB a1 hl a2 w
      · exact parse6eB p r hB a1 hl a2 w
    · exact pe_37 T hB m h1 h2 h3 hl w
end Go.Proofs.YtmlkcgacneealaaDoor
