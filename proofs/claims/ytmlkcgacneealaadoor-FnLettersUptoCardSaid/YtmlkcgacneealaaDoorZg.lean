/- What impl.ParseAddr says of a text with capitals, by what the reference says of the text. Conditions: the listed variables as laid. FnLetters: for every text and list of capitals that are not too long, true. Conditions: the listed variables as laid. -/
import Derived.Test.YtmlkcgacneealaaDoorZd
import Derived.Test.YtmlkcgacneealaaDoorZf
import Derived.Lib.ConvBytes
import Derived.BigQuiet
import Derived.Laws.IdiomStrings
set_option linter.unusedVariables false
set_option linter.unusedSimpArgs false
namespace Go.Proofs.YtmlkcgacneealaaDoor
open Go.RowKit

theorem sparsed (s : List Int) (hB : By s) (hs : s.length ≤ 1048576) (w : World) : Calls Tryd.prog 67 #[.string (ba s)] w (PsdR s w) := by
  rcases spl_cases 37 s with h | ⟨p, r, h1, rfl⟩
  · exact parsedA s hB hs h w
  · exact parsedB p r hB hs h1 w
theorem be8f_cong' (F b : Nat → Int) (k : Nat) (h : ∀ i, k ≤ i → i < k + 8 → F i = b i) : be8f F k = be8f b k := by
  unfold be8f
  rw [h k (by omega) (by omega), h (k + 1) (by omega) (by omega), h (k + 2) (by omega) (by omega), h (k + 3) (by omega) (by omega), h (k + 4) (by omega) (by omega), h (k + 5) (by omega) (by omega), h (k + 6) (by omega) (by omega), h (k + 7) (by omega) (by omega)]
theorem Bt_wrg : ∀ (g : List Int) (f : Nat → Int) (i : Nat), Bt f → (∀ v ∈ g, 0 ≤ v ∧ v < 65536) → Bt (wrg f i g)
  | [], f, i, hf, _ => hf
  | v :: r, f, i, hf, h => by
    rw [wrg]
    exact Bt_wrg r _ _ (Bt_put2 hf i v (h v (by simp))) (fun x hx => h x (by simp [hx]))
theorem sx_bt (s : List Int) (F : Nat → Int) (pl : Bool) (h : sx s = some (F, pl)) : Bt F := by
  unfold sx at h
  cases hc : cc s with
  | nil =>
    rw [hc] at h; dsimp only at h
    have hr := so_rng s true
    cases hs : side s true with
    | none => rw [hs] at h; cases h
    | some u =>
      obtain ⟨g, c⟩ := u
      rw [hs] at h hr; dsimp only [so] at h hr
      by_cases h8 : g.length = 8
      · rw [if_pos h8] at h
        simp only [Option.some.injEq, Prod.mk.injEq] at h
        rw [← h.1]; exact Bt_wrg g _ _ Bt_zb hr
      · rw [if_neg h8] at h; cases h
  | cons i a =>
    cases a with
    | cons j b => rw [hc] at h; cases h
    | nil =>
      rw [hc] at h; dsimp only at h
      have hr := so_rng (s.take i) false
      have hr2 := so_rng (s.drop (i + 2)) true
      cases hl : side (s.take i) false with
      | none => rw [hl] at h; cases h
      | some u =>
        obtain ⟨l, c⟩ := u
        cases hd : side (s.drop (i + 2)) true with
        | none => rw [hl, hd] at h; cases h
        | some u =>
          obtain ⟨r, c2⟩ := u
          rw [hl, hd] at h; dsimp only at h
          rw [hl] at hr; rw [hd] at hr2
          dsimp only [so] at hr hr2
          by_cases h7 : l.length + r.length ≤ 7
          · rw [if_pos h7] at h
            simp only [Option.some.injEq, Prod.mk.injEq] at h
            rw [← h.1]
            refine Bt_wrg _ _ _ Bt_zb (fun v hv => ?_)
            rcases List.mem_append.1 hv with k | k
            · rcases List.mem_append.1 k with k | k
              · exact hr v k
              · rw [(List.mem_replicate.1 k).2]; omega
            · exact hr2 v k
          · rw [if_neg h7] at h; cases h
theorem pre4_four (b : Nat → Int) (x : Nat → Int) (h : b = upd (upd (upd (upd zb 0 (x 0)) 1 (x 1)) 2 (x 2)) 3 (x 3)) : pre 4 b = b := by
  funext i
  unfold pre
  by_cases c : i < 4
  · rw [if_pos c]
  · rw [if_neg c, h]
    unfold upd
    rw [if_neg (by omega), if_neg (by omega), if_neg (by omega), if_neg (by omega)]; rfl
/-- Dotted decimal read. -/
theorem read4 (T : List Int) (b : Nat → Int) (hq : q4 T = some b) {b4 o4 b6 o6 : Nat} (w : World) (hg : Gl b4 o4 b6 o6 w) :
    Calls Tryd.prog 66 #[.string (ba T)] w fun e w' => e = .returned (.tuple #[.agg (adr 4 b ⟨#[]⟩), .bool true]) ∧ Below w.heap.size w w' := by
  obtain ⟨rfl, hx⟩ := q4_text T b hq
  have hb4 : b = upd (upd (upd (upd zb 0 (b 0)) 1 (b 1)) 2 (b 2)) 3 (b 3) := by
    have := q4_tf b hx
    rw [hq] at this
    simp only [Option.some.injEq] at this
    exact this
  have hp : Bt b := fun i => by
    by_cases c : i ≤ 3
    · exact hx i c
    · rw [hb4]; unfold upd
      rw [if_neg (by omega), if_neg (by omega), if_neg (by omega), if_neg (by omega)]; simp [zb]
  have hlen : (tf b 0 3).length ≤ 1000 := by
    have h0 := dec_len (b 0); have h1 := dec_len (b 1); have h2 := dec_len (b 2); have h3 := dec_len (b 3)
    rw [tf_len]; simp only [offs]; omega
  refine implParse _ #[.int .u64 0, .int .u64 (281470681743360 + be4f b 0), .pointer (some ⟨b4, o4, none⟩)] _ rfl (by simp [okc, Value.oneCell']) rfl (okc_adr _ _ _) w hg (fun w hg => ?_) (fun w hg => ?_)
  · refine pa_dot (tf b 0 3) (By_tf _ (fun p _ => hp p)) (dec (b 0)).length ?_ ?_ (fun i hi => tf_pre hp i hi) hlen _ rfl (by simp [okc, Value.oneCell']) _ w hg (fun w hg => parse4 b hp w hg.g4)
    · have := offs_lt b 0 (by omega); rw [tf_len]; simp only [offs] at this ⊢; omega
    · have := at_dot b 0 (by omega); simpa [offs] using this
  · have h := out_4 0 (281470681743360 + be4f b 0) (by have := be4f_lt hp 0; omega) w hg.g4
    rw [b4of_be4 hp, pre4_four b b hb4] at h
    exact h
theorem Cps.no37 {s T : List Int} (h : Cps s T) (hs : ∀ c ∈ s, c ≠ 37) : ∀ c ∈ T, c ≠ 37 := by
  induction h using Cps.ind with
  | nil => intro c hc; simp at hc
  | @cons a b s t h1 h2 ih =>
    intro c hc
    rcases List.mem_cons.1 hc with e | e
    · rw [e]
      have := hs a (by simp)
      rcases h1 with h | ⟨h, k, e2⟩
      · rw [h]; exact this
      · omega
    · exact ih (fun x hx => hs x (by simp [hx])) c e
theorem Cps.split {r : List Int} : ∀ {p T : List Int}, Cps (p ++ 37 :: r) T → ∃ p' r', T = p' ++ 37 :: r' ∧ Cps p p'
  | [], T, h => by
    cases T with
    | nil => exact h.elim
    | cons b t =>
      obtain ⟨h1, h2⟩ := h
      rcases h1 with h | ⟨h, k, e⟩
      · exact ⟨[], t, by rw [h]; rfl, Cps.nil⟩
      · omega
  | x :: p, T, h => by
    cases T with
    | nil => exact h.elim
    | cons b t =>
      obtain ⟨h1, h2⟩ := h
      obtain ⟨p', r', e, hc⟩ := Cps.split h2
      exact ⟨b :: p', r', by rw [e]; rfl, Cps.cons h1 hc⟩
theorem q4_none_of (T : List Int) (h : ∃ c ∈ T, c = 37) : q4 T = none := by
  cases hq : q4 T with
  | none => rfl
  | some x =>
    obtain ⟨e, hx⟩ := q4_text T x hq
    obtain ⟨c, hc, rfl⟩ := h
    exact absurd rfl (Hs_37 (by rw [e]; exact Hs_tf x 3 0 (fun q _ h => hx q (by omega))) 37 hc)
theorem rd7_none (s : List Int) (h : sx s = none) : rd7 s = none := by
  cases hr : rd7 s with
  | none => rfl
  | some F => obtain ⟨⟨F', h2⟩, _⟩ := rd7_sx s F hr; rw [h] at h2; cases h2
theorem q4_none (s : List Int) (h : qd s = none) : q4 s = none := by
  cases hr : q4 s with
  | none => rfl
  | some x => rw [q4_qd s x hr] at h; cases h
/-- The address that the reference names is what impl.ParseAddr reads, small letters or capitals. -/
theorem readBack (s : List Int) (n : Int) (b : Nat → Int) (ok : Bool) (hV : PsdV s n b [] true ok) : ∃ b1 : Nat → Int, adrEq n b1 ⟨#[]⟩ n b ⟨#[]⟩ = true ∧ ∀ T, Cps s T → By T → T.length ≤ 1048576 → ∀ {b4 o4 b6 o6 : Nat} (w : World), Gl b4 o4 b6 o6 w →
    Calls Tryd.prog 66 #[.string (ba T)] w fun e w' => e = .returned (.tuple #[.agg (adr n b1 ⟨#[]⟩), .bool ok]) ∧ Below w.heap.size w w' := by
  rcases hV with h | h | h | h
  · rcases h with h | h
    · exact absurd rfl h
    · cases h
  · obtain ⟨_, _, rfl, rfl, hq⟩ := h
    refine ⟨b, (adrEq_iff _ _ _ _ _ _).2 ⟨rfl, fun _ _ => rfl, rfl⟩, fun T hT hB hl _ _ _ _ w hg => ?_⟩
    exact read4 T b (by rw [hT.q4]; exact qd_q4 s b hq) w hg
  · obtain ⟨_, _, rfl, rfl, h37, hx⟩ := h
    refine ⟨b, (adrEq_iff _ _ _ _ _ _).2 ⟨rfl, fun _ _ => rfl, rfl⟩, fun T hT hB hl _ _ _ _ w hg => ?_⟩
    obtain ⟨F, hF, hFb⟩ := sx_rd7 s b hx
    rw [← hT.rd7] at hF
    obtain ⟨_, hH, hl2, hc⟩ := rd7_sx T F hF
    obtain ⟨x, hx2, hok, hrd⟩ := rd7_rd6 T F hF
    exact readOk T hH hl2 x hx2 hok hc b (sx_bt s b true hx) F hrd (be8f_cong' _ _ _ fun i _ h => hFb i (by omega)) (be8f_cong' _ _ _ fun i _ h => hFb i (by omega)) w hg
  · obtain ⟨_, _, rfl, rfl, rfl, hE⟩ := h
    refine ⟨zb, (adrEq_iff _ _ _ _ _ _).2 ⟨rfl, fun _ _ => rfl, rfl⟩, fun T hT hB hl _ _ _ _ w hg => ?_⟩
    rcases hE with ⟨h37, hq, hx⟩ | ⟨p, r, h37, rfl, hx⟩
    · exact readErr T hB hl (by rw [hT.q4]; exact q4_none s hq) (Or.inl ⟨hT.no37 h37, by rw [hT.rd7]; exact rd7_none s hx⟩) w hg
    · obtain ⟨p', r', rfl, hp⟩ := Cps.split hT
      exact readErr _ hB hl (q4_none_of _ ⟨37, by simp, rfl⟩) (Or.inr ⟨p', r', hp.no37 h37, rfl, by rw [hp.rd7]; exact rd7_none p hx⟩) w hg
end Go.Proofs.YtmlkcgacneealaaDoor
set_option linter.unusedVariables false
set_option linter.unusedSimpArgs false
namespace Go.Proofs.YtmlkcgacneealaaDoor
open Go.RowKit

theorem conv_to (s : List Int) (W : World) : (convert 9 28 (.string (ba s))).run Tryd.prog W = .ok (.slice (some ⟨W.heap.size, 0, none⟩) (ba s).size (grownCap W (ba s).size 0 5)) (Lib.bytesWorld W 5 (ba s)) :=
  Lib.run_convert_string_bytes W 9 28 5 (ba s) Tryd.underlying9 Tryd.underlying28 Tryd.underlying5
theorem below_bytes (w : World) (s : ByteArray) : Below w.heap.size w (Lib.bytesWorld w 5 s) :=
  ⟨rfl, rfl, rfl, by rw [Lib.bytesWorld_size]; omega, fun k hk => Lib.bytesWorld_at_old w 5 s k hk⟩
theorem u8_back (s : List Int) (hB : By s) (j : Nat) (hj : j < s.length) : ((((ba s).data.toList.getD j 0).toNat : Nat) : Int) = s.getD j 0 := by
  have hb := hB s[j] (List.getElem_mem hj)
  have e : (ba s).data.toList.getD j 0 = UInt8.ofNat (s.getD j 0).toNat := by
    show ((s.map fun n => UInt8.ofNat n.toNat).toArray.toList).getD j 0 = _
    rw [List.getD_eq_getElem?_getD, List.getD_eq_getElem?_getD, List.getElem?_eq_getElem hj]
    simp [hj]
  rw [e, List.getD_eq_getElem?_getD, List.getElem?_eq_getElem hj, Option.getD_some]
  simp
  omega
theorem bytes_cell (s : List Int) (hB : By s) (w : World) (j : Nat) (hj : j < s.length) : (Lib.bytesWorld w 5 (ba s)).cell? ⟨w.heap.size, j, none⟩ = some (.int .u8 (s.getD j 0)) := by
  rw [Lib.bytesWorld_cell w 5 (ba s) j (by rw [ba_size]; exact hj), u8_back s hB j hj]
theorem bytes_frozen (s : List Int) (w : World) (j : Nat) (hj : j < s.length) : (Lib.bytesWorld w 5 (ba s)).frozen? ⟨w.heap.size, j, none⟩ = false := by
  unfold World.frozen?
  rw [Lib.bytesWorld_at_new]
  have h : (Lib.bytesCells w 5 (ba s)).size ≥ s.length := by
    unfold Lib.bytesCells
    rw [Array.size_append, Array.size_map]
    have : (ba s).data.size = s.length := ba_size s
    omega
  show (decide ((Lib.bytesCells w 5 (ba s)).size ≤ j) && decide (j < (Lib.bytesCells w 5 (ba s)).size + 1)) = false
  rw [decide_eq_false (by omega)]; rfl
theorem conv_back (T : List Int) (g cap : Nat) (hB : By T) (W : World) (hc : ∀ j, j < T.length → W.cell? ⟨g, j, none⟩ = some (.int .u8 (T.getD j 0))) : (convert 28 9 (.slice (some ⟨g, 0, none⟩) T.length cap)).run Tryd.prog W = .ok (.string (ba T)) W := by
  have hl : (T.map fun n => UInt8.ofNat n.toNat).length = T.length := List.length_map _
  have h := run_convert_bytes_back (P := Tryd.prog) W 28 9 5 ⟨g, 0, none⟩ cap (T.map fun n => UInt8.ofNat n.toNat) Tryd.underlying28 Tryd.underlying5 Tryd.underlying9 (fun j hj => by
    rw [hl] at hj
    rw [Addr.add_lit, Nat.zero_add, hc j hj]
    have := u8_back T hB j hj
    congr 2
    rw [← this, List.getElem_map]
    have hb := hB T[j] (List.getElem_mem hj)
    have e : (ba T).data.toList.getD j 0 = UInt8.ofNat (T.getD j 0).toNat := by
      show ((T.map fun n => UInt8.ofNat n.toNat).toArray.toList).getD j 0 = _
      rw [List.getD_eq_getElem?_getD, List.getD_eq_getElem?_getD, List.getElem?_eq_getElem hj]
      simp [hj]
    rw [e, List.getD_eq_getElem?_getD, List.getElem?_eq_getElem hj, Option.getD_some])
  rw [hl] at h
  exact h
theorem Cps.refl : ∀ s : List Int, Cps s s
  | [] => Cps.nil
  | a :: s => Cps.cons (Or.inl rfl) (Cps.refl s)
theorem Cps.set {s T : List Int} (h : Cps s T) (i : Nat) (v : Int) (hv : Cp (s.getD i 0) v) : Cps s (T.set i v) := by
  induction h using Cps.ind generalizing i with
  | nil => exact Cps.nil
  | @cons a b s t h1 h2 ih =>
    cases i with
    | zero => exact Cps.cons hv h2
    | succ i => exact Cps.cons h1 (ih i hv)
theorem By_set {T : List Int} (h : By T) (i : Nat) (v : Int) (hv : 0 ≤ v ∧ v < 256) : By (T.set i v) := fun x hx => by
  rcases List.mem_or_eq_of_mem_set hx with k | k
  · exact h x k
  · rw [k]; exact hv
theorem getD_set (T : List Int) (i j : Nat) (v : Int) : (T.set i v).getD j 0 = if j = i ∧ i < T.length then v else T.getD j 0 := by
  rw [List.getD_eq_getElem?_getD, List.getD_eq_getElem?_getD, List.getElem?_set]
  by_cases c : i = j
  · subst c
    by_cases k : i < T.length
    · rw [if_pos rfl, if_pos k, if_pos ⟨rfl, k⟩]; rfl
    · rw [if_pos rfl, if_neg k, if_neg (fun h => k h.2), List.getElem?_eq_none (by omega)]
  · rw [if_neg c, if_neg (fun h => c h.1.symm)]
set_option maxHeartbeats 4000000 in
set_option maxRecDepth 100000 in
theorem law21 (s : List Int) (hB : By s) (hs : s.length ≤ 1048576) (a : Option Addr) (n c : Nat) (hn : n ≤ 1048576) {b4 o4 b6 o6 : Nat} (w : World) (hg : Gl b4 o4 b6 o6 w)
    (h : 0 < n → ∃ g o, a = some ⟨g, o, none⟩ ∧ g < w.heap.size ∧ ∃ B : Nat → Bool, ∀ i, i < n → w.cell? ⟨g, o + i, none⟩ = some (.bool (B i))) :
    Calls Tryd.prog 21 #[.string (ba s), .slice a n c] w fun e w' => e = .returned (.bool true) ∧ Below w.heap.size w w' := by
  have HB := Lib.hid hB
  have HG := Lib.hid hg
  have HCap := Lib.hid h
  have HSz := Lib.hid (ba_size s)
  have hsm : (((ba s).size : Nat) : Int) ≤ 1048576 := by rw [ba_size]; omega
  clear hB hg h
  go_enter Tryd.func21, Tryd.ntmps21
  go_upto_region 2 with (first
    | (go_at_call 67; (with_reducible refine (sparsed s HB.out hs _).mono ?_); rintro e w1 ⟨⟨n0, b0, z0, fx, ok, rfl, hV⟩, hb1⟩))
  have hS1 := hb1.size
  cases fx with
  | false =>
    clear hV
    go_wp2
    go_ret
    exact ⟨rfl, (by repeat' (first | (with_reducible exact Below.refl _ _) | (with_reducible assumption) | (with_reducible refine Below.alloc ?_ ?_ _) | (with_reducible refine Below.drew ?_) | (with_reducible refine below_drewN ?_ _) | (with_reducible refine Below.setCell ?_ ?_ _) | (with_reducible refine below_setRow' ?_ ?_ _) | go_size))⟩
  | true =>
  by_cases hz : z0 = []
  · subst hz
    obtain ⟨b1, hEq, hRd⟩ := readBack s n0 b0 ok hV
    have HRd := Lib.hid hRd
    rw [show ba [] = ⟨#[]⟩ from rfl]
    clear hV hRd
    go_upto_region 4 with fail
    have hB2 : Below w.heap.size w (w1.alloc (.cells (adr n0 b0 ⟨#[]⟩) 25)) := (by repeat' (first | (with_reducible exact Below.refl _ _) | (with_reducible assumption) | (with_reducible refine Below.alloc ?_ ?_ _) | (with_reducible refine Below.drew ?_) | (with_reducible refine below_drewN ?_ _) | (with_reducible refine Below.setCell ?_ ?_ _) | (with_reducible refine below_setRow' ?_ ?_ _) | go_size))
    obtain ⟨w2, hw2⟩ : ∃ w2, w2 = w1.alloc (.cells (adr n0 b0 ⟨#[]⟩) 25) := ⟨_, rfl⟩
    have k5 : blk? w2 w1.heap.size = some (adr n0 b0 ⟨#[]⟩) := by rw [hw2]; exact blk?_new _ _ _ _ rfl
    rw [← hw2] at hB2 ⊢
    have hS2 : w1.heap.size < w2.heap.size := blk?_lt k5
    obtain ⟨w3, hw3⟩ : ∃ w3, w3 = Lib.bytesWorld w2 5 (ba s) := ⟨_, rfl⟩
    obtain ⟨cp, hcp⟩ : ∃ cp, cp = grownCap w2 (ba s).size 0 5 := ⟨_, rfl⟩
    have hct := conv_to s w2
    rw [← hw3, ← hcp] at hct
    obtain ⟨g8, hg8⟩ : ∃ g8, g8 = w2.heap.size := ⟨_, rfl⟩
    have HC3 := Lib.hid (show ∀ j, j < s.length → w3.cell? ⟨g8, j, none⟩ = some (.int .u8 (s.getD j 0)) from fun j hj => by rw [hw3, hg8]; exact bytes_cell s HB.out w2 j hj)
    have HF3 := Lib.hid (show ∀ j, j < s.length → w3.frozen? ⟨g8, j, none⟩ = false from fun j hj => by rw [hw3, hg8]; exact bytes_frozen s w2 j hj)
    have hb3 : Below w2.heap.size w2 w3 := by rw [hw3]; exact below_bytes w2 (ba s)
    have hS3 : w3.heap.size = w2.heap.size + 1 := by rw [hw3]; exact Lib.bytesWorld_size _ _ _
    have k53 : blk? w3 w1.heap.size = some (adr n0 b0 ⟨#[]⟩) := by rw [blk?_below hb3 _ hS2]; exact k5
    have hB3 : Below w.heap.size w w3 := hB2.trans (hb3.mono hB2.size)
    have hg81 : w1.heap.size < g8 := by omega
    have hg82 : g8 < w3.heap.size := by omega
    have hg83 : w.heap.size ≤ g8 := by have := hB2.size; omega
    rw [← hg8] at hct
    clear hw2 hb1 hw3 hcp hb3 k5 hg8 hS2 hS3 hB2
    go_upto_region 5 with fail
    clear hct
    have HB3 := Lib.hid hB3
    have HK5 := Lib.hid k53
    clear hB3 k53
    go_wp2
    go_loopw [9, 10, 30] (fun v9 v10 v30 wr => ∃ (i : Nat) (T : List Int), i ≤ s.length ∧ Cps s T ∧ By T ∧ (∀ j, i ≤ j → T.getD j 0 = s.getD j 0) ∧ (∀ j, j < s.length → wr.cell? ⟨g8, j, none⟩ = some (.int .u8 (T.getD j 0))) ∧ (∀ j, j < s.length → wr.frozen? ⟨g8, j, none⟩ = false) ∧ v30 = .int .i64 (i : Int) ∧ GX g8 w3 wr) (fun _ _ v30 _ => s.length - (intOf v30).toNat)
    case atStart => exact ⟨0, s, by omega, Cps.refl s, HB.out, fun _ _ => rfl, HC3.out, HF3.out, rfl, GX.refl _ _⟩
    case round =>
      obtain ⟨i, T, hi, hT, hBT, hTs, hcl, hfz, rfl, hgx⟩ := hrel
      have hsz := HSz.out
      have hi0 : (0 : Int) ≤ (i : Int) := by omega
      have HT := Lib.hid (And.intro hT hBT)
      have HTs := Lib.hid hTs
      have HCl := Lib.hid hcl
      have HFz := Lib.hid hfz
      have hbw : Below w.heap.size w wr := GX.below HB3.out hgx HB3.out.size hg83
      have HBW := Lib.hid hbw
      have HGX := Lib.hid hgx
      have hlen := hT.len
      clear hT hBT hTs hcl hfz
      by_cases hlt : i < s.length
      · have hi1 : (i : Int) < (((ba s).size : Nat) : Int) := by omega
        have hc1 := HCl.out i hlt
        have hf1 := HFz.out i hlt
        rw [HTs.out i (Nat.le_refl _)] at hc1
        have hbc := HB.out (s.getD i 0) (by rw [List.getD_eq_getElem?_getD, List.getElem?_eq_getElem hlt]; exact List.getElem_mem hlt)
        obtain ⟨ch, hch⟩ : ∃ ch : Int, ch = s.getD i 0 := ⟨_, rfl⟩
        rw [← hch] at hc1 hbc
        have HCh := Lib.hid hch
        obtain ⟨hb0, hb1⟩ := hbc
        have HSAME := Lib.hid (show ∀ j, i + 1 ≤ j → T.getD j 0 = s.getD j 0 from fun j hj => HTs.out j (by omega))
        clear hch hsz hbw hgx
        by_cases hin : i < n
        · have hin1 : (i : Int) < (n : Int) := by omega
          obtain ⟨g, o, rfl, hgl, B, hBc⟩ := HCap.out (by omega)
          have hcb : wr.cell? ⟨g, o + i, none⟩ = some (.bool (B i)) := by rw [HBW.out.cell (by exact hgl)]; exact hBc i hin
          clear hBc
          cases hBi : B i with
          | false =>
            rw [hBi] at hcb
            clear hBi
            go_wp2
            go_roundw
            case rel => exact ⟨i + 1, T, by omega, HT.out.1, HT.out.2, HSAME.out, HCl.out, HFz.out, by go_num, HGX.out⟩
            case measure => simp [intOf]; omega
          | true =>
            rw [hBi] at hcb
            clear hBi
            by_cases d1 : 97 ≤ ch
            · by_cases d2 : ch ≤ 102
              · have d3 : 0 ≤ ch - 32 := by omega
                have d4 : ch - 32 < 256 := by omega
                have HS := Lib.hid (show Cps s (T.set i (ch - 32)) ∧ By (T.set i (ch - 32)) ∧ ∀ j, i + 1 ≤ j → (T.set i (ch - 32)).getD j 0 = s.getD j 0 from
                  ⟨HT.out.1.set i _ (Or.inr (by rw [← HCh.out]; exact ⟨d1, d2, rfl⟩)), By_set HT.out.2 i _ ⟨d3, d4⟩, fun j hj => by rw [getD_set, if_neg (by omega)]; exact HSAME.out j hj⟩)
                go_wp2
                go_roundw
                case rel =>
                  refine ⟨i + 1, T.set i (ch - 32), by omega, HS.out.1, HS.out.2.1, HS.out.2.2, fun j hj => ?_, fun j hj => ?_, by go_num, HGX.out.setCell _ _⟩
                  · rw [getD_set]
                    by_cases q : j = i
                    · subst q
                      rw [if_pos ⟨rfl, by omega⟩]
                      exact World.cell?_setCell_same _ _ _ hc1
                    · rw [if_neg (fun h => q h.1), World.cell?_setCell_other _ _ _ _ (by intro e; cases e; exact q rfl)]
                      exact HCl.out j hj
                  · rw [World.frozen?_setCell]; exact HFz.out j hj
                case measure => simp [intOf]; omega
              · go_wp2
                go_roundw
                case rel => exact ⟨i + 1, T, by omega, HT.out.1, HT.out.2, HSAME.out, HCl.out, HFz.out, by go_num, HGX.out⟩
                case measure => simp [intOf]; omega
            · go_wp2
              go_roundw
              case rel => exact ⟨i + 1, T, by omega, HT.out.1, HT.out.2, HSAME.out, HCl.out, HFz.out, by go_num, HGX.out⟩
              case measure => simp [intOf]; omega
        · have hin1 : ¬ ((i : Int) < (n : Int)) := by omega
          go_wp2
          go_roundw
          case rel => exact ⟨i + 1, T, by omega, HT.out.1, HT.out.2, HSAME.out, HCl.out, HFz.out, by go_num, HGX.out⟩
          case measure => simp [intOf]; omega
      · have hi1 : ¬ ((i : Int) < (((ba s).size : Nat) : Int)) := by omega
        obtain rfl : i = s.length := by omega
        have hcb : (convert 28 9 (.slice (some ⟨g8, 0, none⟩) (ba s).size cp)).run Tryd.prog wr = .ok (.string (ba T)) wr := by
          rw [hsz, ← hlen]; exact conv_back T g8 cp HT.out.2 wr (fun j hj => HCl.out j (by omega))
        have k5r : blk? wr w1.heap.size = some (adr n0 b0 ⟨#[]⟩) := by rw [blk?_gx hgx _ (by omega) (by omega)]; exact HK5.out
        have hl5 := blk?_lt k5r
        have hTl : T.length ≤ 1048576 := by omega
        have HR66 := Lib.hid (fun (ww : World) (hgg : Gl b4 o4 b6 o6 ww) => HRd.out T HT.out.1 HT.out.2 hTl ww hgg)
        clear hgx hsz hbw
        have hbw := HBW.out
        have hSw := hbw.size
        go_upto_region 12 with (first
          | (go_at_call 66; (with_reducible refine (HR66.out _ ?_).mono ?_); (exact HG.out.below (by repeat' (first | (with_reducible exact Below.refl _ _) | (with_reducible assumption) | (with_reducible refine Below.alloc ?_ ?_ _) | (with_reducible refine Below.drew ?_) | (with_reducible refine below_drewN ?_ _) | (with_reducible refine Below.setCell ?_ ?_ _) | (with_reducible refine below_setRow' ?_ ?_ _) | go_size)) (Nat.le_refl _)); rintro e w5 ⟨rfl, hb1⟩; have hk1 := blk?_below hb1; (try simp only [size_drew', size_drewN'] at hk1); have hB1 := below_via (w := w) (by repeat' (first | (with_reducible exact Below.refl _ _) | (with_reducible assumption) | (with_reducible refine Below.alloc ?_ ?_ _) | (with_reducible refine Below.drew ?_) | (with_reducible refine below_drewN ?_ _) | (with_reducible refine Below.setCell ?_ ?_ _) | (with_reducible refine below_setRow' ?_ ?_ _) | go_size)) hb1; have hL0 : w1.heap.size < w5.heap.size := (by have hS0 := hb1.size; (try simp at hS0); omega); have hLe : w.heap.size ≤ w5.heap.size := hB1.size; clear hb1))
        have k5w : blk? w5 w1.heap.size = some (adr n0 b0 ⟨#[]⟩) := by rw [hk1 _ (by omega)]; exact k5r
        clear hk1 k5r
        refine wp_region_held_drew (S := fun w' => blk? w' (w5.heap.size) = some (adr n0 b1 ⟨#[]⟩) ∧ blk? w' (w1.heap.size) = some (adr n0 b0 ⟨#[]⟩)) (by kernel_rfl) ?_ (fun hHeld0 => ?_)
        · ((try dsimp only); (refine ⟨?_, ?_⟩ <;> go_simp))
        refine wpAnyH_take (i := 0) (oi := _) (v := ?_) rfl (by kernel_rfl) (by kernel_rfl) (by kernel_rfl) (fun _ _ _ h => h) (Or.inl ⟨by rfl, ?_⟩) (by assumption) ?_
        rotate_left 1
        · (intro w hSw; (try dsimp only at hSw); (try simp only [List.getElem_toArray, List.getElem_cons_succ, List.getElem_cons_zero]); first | (go_simp; done) | (go_simp; with_reducible rfl))
        (try simp only [Act.put, List.setIfInBounds_toArray, List.set_cons_zero, List.set_cons_succ, List.getElem_toArray, List.getElem_cons_succ, List.getElem_cons_zero])
        refine wpAnyH_take (i := 1) (oi := _) (v := ?_) rfl (by kernel_rfl) (by kernel_rfl) (by kernel_rfl) (fun _ _ _ h => h) (Or.inl ⟨by rfl, ?_⟩) (by assumption) ?_
        rotate_left 1
        · (intro w hSw; (try dsimp only at hSw); (try simp only [List.getElem_toArray, List.getElem_cons_succ, List.getElem_cons_zero]); first | (go_simp; done) | (go_simp; with_reducible rfl))
        (try simp only [Act.put, List.setIfInBounds_toArray, List.set_cons_zero, List.set_cons_succ, List.getElem_toArray, List.getElem_cons_succ, List.getElem_cons_zero])
        refine wpAnyH_take (i := 2) (oi := _) (v := ?_) rfl (by kernel_rfl) (by kernel_rfl) (by kernel_rfl) (fun _ _ _ h => h) (Or.inl ⟨by rfl, ?_⟩) (by assumption) ?_
        rotate_left 1
        · (intro w hSw; (try dsimp only at hSw); (try simp only [List.getElem_toArray, List.getElem_cons_succ, List.getElem_cons_zero]); first | (go_simp; done) | (go_simp; with_reducible rfl))
        (try simp only [Act.put, List.setIfInBounds_toArray, List.set_cons_zero, List.set_cons_succ, List.getElem_toArray, List.getElem_cons_succ, List.getElem_cons_zero])
        refine wpAnyH_take (i := 3) (oi := _) (v := ?_) rfl (by kernel_rfl) (by kernel_rfl) (by kernel_rfl) (fun _ _ _ h => h) (Or.inl ⟨by rfl, ?_⟩) (by assumption) ?_
        rotate_left 1
        · (intro w hSw; (try dsimp only at hSw); (try simp only [List.getElem_toArray, List.getElem_cons_succ, List.getElem_cons_zero]); first | (go_simp; done) | (go_simp; with_reducible rfl))
        (try simp only [Act.put, List.setIfInBounds_toArray, List.set_cons_zero, List.set_cons_succ, List.getElem_toArray, List.getElem_cons_succ, List.getElem_cons_zero])
        refine wpAnyH_take (i := 4) (oi := _) (v := ?_) rfl (by kernel_rfl) (by kernel_rfl) (by kernel_rfl) (fun _ _ _ h => h) (Or.inl ⟨by rfl, ?_⟩) (by assumption) ?_
        rotate_left 1
        · (intro w hSw; (try dsimp only at hSw); (try simp only [List.getElem_toArray, List.getElem_cons_succ, List.getElem_cons_zero]); first | (go_simp; done) | (go_simp; with_reducible rfl))
        (try simp only [Act.put, List.setIfInBounds_toArray, List.set_cons_zero, List.set_cons_succ, List.getElem_toArray, List.getElem_cons_succ, List.getElem_cons_zero])
        refine wpAnyH_take (i := 5) (oi := _) (v := ?_) rfl (by kernel_rfl) (by kernel_rfl) (by kernel_rfl) (fun _ _ _ h => h) (Or.inl ⟨by rfl, ?_⟩) (by assumption) ?_
        rotate_left 1
        · (intro w hSw; (try dsimp only at hSw); (try simp only [List.getElem_toArray, List.getElem_cons_succ, List.getElem_cons_zero]); first | (go_simp; done) | (go_simp; with_reducible rfl))
        (try simp only [Act.put, List.setIfInBounds_toArray, List.set_cons_zero, List.set_cons_succ, List.getElem_toArray, List.getElem_cons_succ, List.getElem_cons_zero])
        refine wpAnyH_ready (rs := [6]) (by kernel_rfl) (by simp) (AllReadyH.cons rfl (fun K hK => ?_) AllReadyH.nil)
        go_simp
        go_wp2_with (first
          | (go_at_call 27; (with_reducible refine (ia_any _ _ _ _).mono ?_); rintro e w6 ⟨rfl, hb1⟩; have hk1 := blk?_below hb1; (try simp only [size_drew', size_drewN'] at hk1); have hB1 := below_via (w := w) (by repeat' (first | (with_reducible exact Below.refl _ _) | (with_reducible assumption) | (with_reducible refine Below.alloc ?_ ?_ _) | (with_reducible refine Below.drew ?_) | (with_reducible refine below_drewN ?_ _) | (with_reducible refine Below.setCell ?_ ?_ _) | (with_reducible refine below_setRow' ?_ ?_ _) | go_size)) hb1; have hL0 : w5.heap.size < w6.heap.size := (by have hS0 := hb1.size; (try simp at hS0); omega); have hL1 : w1.heap.size < w6.heap.size := (by have hS0 := hb1.size; (try simp at hS0); omega); have hLe : w.heap.size ≤ w6.heap.size := hB1.size; clear hb1))
        refine hK.out _ _ ?_ (fun hHeld1 => ?_)
        · ((try dsimp only); (refine ⟨?_, ?_⟩ <;> go_simp))
        clear hK K hHeld0
        (try simp only [Act.put, List.setIfInBounds_toArray, List.set_cons_zero, List.set_cons_succ, List.getElem_toArray, List.getElem_cons_succ, List.getElem_cons_zero])
        refine wpAnyH_take (i := 7) (oi := _) (v := ?_) rfl (by kernel_rfl) (by kernel_rfl) (by kernel_rfl) (fun _ _ _ h => h) (Or.inl ⟨by rfl, ?_⟩) (by assumption) ?_
        rotate_left 1
        · (intro w hSw; (try dsimp only at hSw); (try simp only [List.getElem_toArray, List.getElem_cons_succ, List.getElem_cons_zero]); first | (go_simp; done) | (go_simp; with_reducible rfl))
        (try simp only [Act.put, List.setIfInBounds_toArray, List.set_cons_zero, List.set_cons_succ, List.getElem_toArray, List.getElem_cons_succ, List.getElem_cons_zero])
        refine wpAnyH_take (i := 8) (oi := _) (v := ?_) rfl (by kernel_rfl) (by kernel_rfl) (by kernel_rfl) (fun _ _ _ h => h) (Or.inl ⟨by rfl, ?_⟩) (by assumption) ?_
        rotate_left 1
        · (intro w hSw; (try dsimp only at hSw); (try simp only [List.getElem_toArray, List.getElem_cons_succ, List.getElem_cons_zero]); first | (go_simp; done) | (go_simp; with_reducible rfl))
        (try simp only [Act.put, List.setIfInBounds_toArray, List.set_cons_zero, List.set_cons_succ, List.getElem_toArray, List.getElem_cons_succ, List.getElem_cons_zero])
        refine wpAnyH_take (i := 9) (oi := _) (v := ?_) rfl (by kernel_rfl) (by kernel_rfl) (by kernel_rfl) (fun _ _ _ h => h) (Or.inl ⟨by rfl, ?_⟩) (by assumption) ?_
        rotate_left 1
        · (intro w hSw; (try dsimp only at hSw); (try simp only [List.getElem_toArray, List.getElem_cons_succ, List.getElem_cons_zero]); first | (go_simp; done) | (go_simp; with_reducible rfl))
        (try simp only [Act.put, List.setIfInBounds_toArray, List.set_cons_zero, List.set_cons_succ, List.getElem_toArray, List.getElem_cons_succ, List.getElem_cons_zero])
        refine wpAnyH_done (by kernel_rfl) ?_ _
        go_wp2
        go_ret
        exact ⟨rfl, (by repeat' (first | (with_reducible exact Below.refl _ _) | (with_reducible assumption) | (with_reducible refine Below.alloc ?_ ?_ _) | (with_reducible refine Below.drew ?_) | (with_reducible refine below_drewN ?_ _) | (with_reducible refine Below.setCell ?_ ?_ _) | (with_reducible refine below_setRow' ?_ ?_ _) | go_size))⟩
  · have hem : (ba z0).toList.isEmpty = false := ba_neq z0 hz
    clear hV hz
    go_wp2
    go_ret
    exact ⟨rfl, (by repeat' (first | (with_reducible exact Below.refl _ _) | (with_reducible assumption) | (with_reducible refine Below.alloc ?_ ?_ _) | (with_reducible refine Below.drew ?_) | (with_reducible refine below_drewN ?_ _) | (with_reducible refine Below.setCell ?_ ?_ _) | (with_reducible refine below_setRow' ?_ ?_ _) | go_size))⟩
end Go.Proofs.YtmlkcgacneealaaDoor
