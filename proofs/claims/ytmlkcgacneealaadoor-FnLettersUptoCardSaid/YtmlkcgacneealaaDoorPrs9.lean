/- impl.ParseAddr on the texts of IPv6 addresses; FnTextRoundTripBare returns true. Conditions: the listed variables as laid. -/
import Derived.Test.YtmlkcgacneealaaDoorPrs8
import Derived.Test.YtmlkcgacneealaaDoorPrs7
import Derived.Test.YtmlkcgacneealaaDoorSpc
set_option linter.unusedVariables false
set_option linter.unusedSimpArgs false
namespace Go.Proofs.YtmlkcgacneealaaDoor
open Go.RowKit

/-- Hexadecimal digits, colons and full stops alone. -/
def Hs (T : List Int) : Prop := ∀ c ∈ T, hxd c = true ∨ c = 58 ∨ c = 46
theorem Hs.append {s t : List Int} (h : Hs s) (k : Hs t) : Hs (s ++ t) := fun x hx => by
  rcases List.mem_append.1 hx with h' | h'
  · exact h x h'
  · exact k x h'
theorem Hs.cons {a : Int} {t : List Int} (h : hxd a = true ∨ a = 58 ∨ a = 46) (k : Hs t) : Hs (a :: t) := fun x hx => by
  rcases List.mem_cons.1 hx with rfl | h'
  · exact h
  · exact k x h'
theorem Hs_nil : Hs [] := fun x hx => by simp at hx
theorem hxd_rng {c : Int} (h : hxd c = true) : (48 ≤ c ∧ c ≤ 57) ∨ (65 ≤ c ∧ c ≤ 70) ∨ (97 ≤ c ∧ c ≤ 102) := by
  unfold hxd at h
  simp only [Bool.or_eq_true, decide_eq_true_eq] at h
  omega
theorem Hs_by {T : List Int} (h : Hs T) : By T := fun c hc => by
  rcases h c hc with h' | h' | h'
  · have := hxd_rng h'; omega
  · omega
  · omega
theorem Hs_37 {T : List Int} (h : Hs T) : ∀ c ∈ T, c ≠ 37 := fun c hc => by
  rcases h c hc with h' | h' | h'
  · have := hxd_rng h'; omega
  · omega
  · omega
theorem Hs_hex {G : List Int} (h : ∀ c ∈ G, hxd c = true) : Hs G := fun c hc => Or.inl (h c hc)
theorem Hs_tf (x : Nat → Int) : ∀ (n p : Nat), (∀ q, p ≤ q → q ≤ p + n → 0 ≤ x q ∧ x q < 256) → Hs (tf x p n)
  | 0, p, h => Hs_hex (dec_hx _ (h p (by omega) (by omega)))
  | n + 1, p, h => (Hs_hex (dec_hx _ (h p (by omega) (by omega)))).append (Hs.cons (Or.inr (Or.inr rfl)) (Hs_tf x n (p + 1) (fun q h1 h2 => h q (by omega) (by omega))))
theorem Hs_jf (h : Nat → List Int) (g : Nat → Int) : ∀ (n a : Nat), (∀ k, a ≤ k → k < a + n → Gk (h k) (g k)) → Hs (jf h a n)
  | 0, _, _ => Hs_nil
  | 1, a, hG => Hs_hex (hG a (by omega) (by omega)).2.2.1
  | n + 2, a, hG => (Hs_hex (hG a (by omega) (by omega)).2.2.1).append (Hs.cons (Or.inr (Or.inl rfl)) (Hs_jf h g (n + 1) (a + 1) (fun k h1 h2 => hG k (by omega) (by omega))))
theorem jf_len4 (h : Nat → List Int) (hh : ∀ k, (h k).length ≤ 4) : ∀ (n a : Nat), (jf h a n).length ≤ 5 * n
  | 0, _ => by simp [jf]
  | 1, a => by have := hh a; rw [jf]; omega
  | n + 2, a => by
    have h1 := hh a
    have h2 := jf_len4 h hh (n + 1) (a + 1)
    rw [jf, List.length_append, List.length_cons]; omega
/-- The first sign that is no digit is a colon. -/
def Col (T : List Int) : Prop := hl T < T.length ∧ T.getD (hl T) 0 = 58
theorem Col_app (G r : List Int) (hG : ∀ c ∈ G, hxd c = true) : Col (G ++ 58 :: r) := by
  have e : hl (G ++ 58 :: r) = G.length := hl_app G _ hG (Or.inr hxd58)
  refine ⟨?_, ?_⟩
  · rw [e, List.length_append, List.length_cons]; omega
  · rw [e]; simp [List.getD_eq_getElem?_getD]
theorem Col_cons (r : List Int) : Col (58 :: r) := Col_app [] r (fun c hc => by simp at hc)
theorem jf_lead (h : Nat → List Int) : ∀ (n a : Nat) (r : List Int), ∃ r', jf h a (n + 1) ++ 58 :: r = h a ++ 58 :: r'
  | 0, a, r => ⟨r, rfl⟩
  | n + 1, a, r => ⟨jf h (a + 1) (n + 1) ++ 58 :: r, by rw [jf, List.append_assoc, List.cons_append]⟩
theorem jf_lead2 (h : Nat → List Int) (n a : Nat) : ∃ r', jf h a (n + 2) = h a ++ 58 :: r' := ⟨_, rfl⟩
theorem Col_jf (h : Nat → List Int) (n a : Nat) (r : List Int) (hG : ∀ c ∈ h a, hxd c = true) : Col (jf h a (n + 1) ++ 58 :: r) := by
  obtain ⟨r', e⟩ := jf_lead h n a r
  rw [e]; exact Col_app _ _ hG
theorem Col_jf2 (h : Nat → List Int) (n a : Nat) (hG : ∀ c ∈ h a, hxd c = true) : Col (jf h a (n + 2)) := by
  obtain ⟨r', e⟩ := jf_lead2 h n a
  rw [e]; exact Col_app _ _ hG
theorem Col_pre (T : List Int) (i : Nat) (hi : i < hl T) : T.getD i 0 ≠ 46 ∧ T.getD i 0 ≠ 58 ∧ T.getD i 0 ≠ 37 := by
  have := hxd_rng (hl_hex T i hi)
  omega
set_option maxHeartbeats 4000000 in
set_option maxRecDepth 100000 in
theorem pa_colF (s : List Int) (hB : By s) (m : Nat) (hm : m < s.length) (hat : s.getD m 0 = 58) (hpre : ∀ i, i < m → s.getD i 0 ≠ 46 ∧ s.getD i 0 ≠ 58 ∧ s.getD i 0 ≠ 37) (hl : s.length ≤ 1000) {b4 o4 b6 o6 : Nat} (w : World) (hg : Gl b4 o4 b6 o6 w)
    (hR : ∀ w, Gl b4 o4 b6 o6 w → Calls Tryd.prog 160 #[.string (ba s)] w fun e w' => (∃ p, e = .returned (.tuple #[.agg #[.int .u64 0, .int .u64 0, .pointer none], .iface 124 p])) ∧ Below w.heap.size w w') :
    Calls Tryd.prog 121 #[.string (ba s)] w fun e w' => (∃ p, e = .returned (.tuple #[.agg #[.int .u64 0, .int .u64 0, .pointer none], .iface 124 p])) ∧ Below w.heap.size w w' := by
  have HG := Lib.hid hg
  have HR := Lib.hid hR
  have HB := Lib.hid hB
  have HPre := Lib.hid hpre
  have HAt := Lib.hid hat
  clear hg hR hB hpre hat
  have HSz := Lib.hid (ba_size s)
  go_enter Tryd.func121, Tryd.ntmps121
  go_wp2
  go_loopw [3, 4] (fun v3 v4 wr => ∃ i : Nat, i ≤ m ∧ v3 = .nilIface ∧ v4 = .int .i64 (i : Int) ∧ blk? wr w.heap.size = some #[.int .u64 0, .int .u64 0, .pointer none] ∧ Below w.heap.size w wr) (fun _ i _ => m - (intOf i).toNat)
  case atStart => exact ⟨0, by omega, rfl, rfl, by go_simp, (by repeat' (first | (with_reducible exact Below.refl _ _) | (with_reducible assumption) | (with_reducible refine Below.alloc ?_ ?_ _) | (with_reducible refine Below.drew ?_) | (with_reducible refine below_drewN ?_ _) | (with_reducible refine Below.setCell ?_ ?_ _) | (with_reducible refine below_setRow' ?_ ?_ _) | go_size))⟩
  case round =>
    obtain ⟨i, him, rfl, rfl, k0, hBw⟩ := hrel
    have hsz := HSz.out
    have hl0 := blk?_lt k0
    have hi0 : (0 : Int) ≤ (i : Int) := by omega
    have hil : i < (ba s).size := by omega
    have hi1 : (i : Int) < (((ba s).size : Nat) : Int) := by omega
    have hi2 : (i : Int) + 1 ≤ 9223372036854775807 := by omega
    clear hsz
    by_cases hlt : i < m
    · have hcv := ba_get _ HB.out i hil
      have hp := HPre.out i hlt
      obtain ⟨ch, hch⟩ : ∃ ch : Int, ch = s.getD i 0 := ⟨_, rfl⟩
      rw [← hch] at hcv hp
      have h1 : (ch == 46) = false := beq_eq_false_iff_ne.2 hp.1
      have h2 : (ch == 58) = false := beq_eq_false_iff_ne.2 hp.2.1
      have h3 : (ch == 37) = false := beq_eq_false_iff_ne.2 hp.2.2
      clear hch hp
      go_wp2
      go_roundw
      case rel => exact ⟨i + 1, by omega, rfl, by go_num, k0, hBw⟩
      case measure => simp [intOf]; omega
    · obtain rfl : i = m := by omega
      have hcv := ba_get _ HB.out i hil
      rw [HAt.out] at hcv
      have hQ : w.heap.size < wr.heap.size + 1 := by omega
      go_wp2_with (first
        | (go_at_call 160; (with_reducible refine (HR.out _ ?_).mono ?_); (exact HG.out.below (by repeat' (first | (with_reducible exact Below.refl _ _) | (with_reducible assumption) | (with_reducible refine Below.alloc ?_ ?_ _) | (with_reducible refine Below.drew ?_) | (with_reducible refine below_drewN ?_ _) | (with_reducible refine Below.setCell ?_ ?_ _) | (with_reducible refine below_setRow' ?_ ?_ _) | go_size)) (Nat.le_refl _)); rintro e w2 ⟨⟨p, rfl⟩, hb1⟩; have hk1 := blk?_below hb1; (try simp only [size_drew', size_drewN'] at hk1); have hB1 := below_via (w := w) (by repeat' (first | (with_reducible exact Below.refl _ _) | (with_reducible assumption) | (with_reducible refine Below.alloc ?_ ?_ _) | (with_reducible refine Below.drew ?_) | (with_reducible refine below_drewN ?_ _) | (with_reducible refine Below.setCell ?_ ?_ _) | (with_reducible refine below_setRow' ?_ ?_ _) | go_size)) hb1; have hL0 : w.heap.size < w2.heap.size := (by have hS0 := hb1.size; (try simp at hS0); omega); have hLe : w.heap.size ≤ w2.heap.size := hB1.size; clear hb1))
      refine bodyPost_ret (res78t Tryd.results121 _ _ (w.heap.size) _ rfl ?_ rfl) rfl ⟨⟨_, rfl⟩, (by repeat' (first | (with_reducible exact Below.refl _ _) | (with_reducible assumption) | (with_reducible refine Below.alloc ?_ ?_ _) | (with_reducible refine Below.drew ?_) | (with_reducible refine below_drewN ?_ _) | (with_reducible refine Below.setCell ?_ ?_ _) | (with_reducible refine below_setRow' ?_ ?_ _) | go_size))⟩
      go_simp
theorem readOk (T : List Int) (hT : Hs T) (hl' : T.length ≤ 1000) (x : Nat → Int) (hx : ∀ p, p ≤ 3 → 0 ≤ x p ∧ x p < 256) (hok : ok6 x T) (hc : Col T) (b : Nat → Int) (hb : Bt b) (F : Nat → Int) (hF : rd6 x T = some F) (e0 : be8f F 0 = be8f b 0) (e8 : be8f F 8 = be8f b 8) {b4 o4 b6 o6 : Nat} (w : World) (hg : Gl b4 o4 b6 o6 w) :
    Calls Tryd.prog 66 #[.string (ba T)] w fun e w' => e = .returned (.tuple #[.agg (adr 16 b ⟨#[]⟩), .bool true]) ∧ Below w.heap.size w w' := by
  refine implParse _ #[.int .u64 (be8f b 0), .int .u64 (be8f b 8), .pointer (some ⟨b6, o6, none⟩)] _ rfl (by simp [okc, Value.oneCell']) rfl (okc_adr _ _ _) w hg (fun w hg => ?_) (fun w hg => ?_)
  · refine pa_col T (Hs_by hT) (hl T) hc.1 hc.2 (Col_pre T) hl' _ rfl (by simp [okc, Value.oneCell']) _ w hg (fun w hg => ?_)
    have h := parse6 T (Hs_by hT) (Hs_37 hT) hl' x hx hok w hg
    rw [hF] at h
    refine h.mono fun e w' ⟨he, hB⟩ => ⟨?_, hB⟩
    have he' : e = .returned (.tuple #[.agg #[.int .u64 (be8f F 0), .int .u64 (be8f F 8), .pointer (some ⟨b6, o6, none⟩)], .nilIface]) := he
    rw [he', e0, e8]
  · have h := out_6 (be8f b 0) (be8f b 8) (be8f_lt hb 0) (be8f_lt hb 8) w hg
    rw [b16of_be8 hb, adr_pre16] at h
    exact h
theorem readNo (T : List Int) (hT : Hs T) (hl' : T.length ≤ 1000) (x : Nat → Int) (hx : ∀ p, p ≤ 3 → 0 ≤ x p ∧ x p < 256) (hok : ok6 x T) (hc : Col T) (hF : rd6 x T = none) {b4 o4 b6 o6 : Nat} (w : World) (hg : Gl b4 o4 b6 o6 w) :
    Calls Tryd.prog 66 #[.string (ba T)] w fun e w' => e = .returned (.tuple #[.agg (adr 0 zb ⟨#[]⟩), .bool false]) ∧ Below w.heap.size w w' := by
  refine implParseF _ w hg (fun w hg => ?_)
  refine pa_colF T (Hs_by hT) (hl T) hc.1 hc.2 (Col_pre T) hl' w hg (fun w hg => ?_)
  have h := parse6 T (Hs_by hT) (Hs_37 hT) hl' x hx hok w hg
  rw [hF] at h
  exact h
theorem grp_b {b : Nat → Int} (hb : Bt b) (F : Nat → Int) (hF : ∀ k, k < 16 → F k = gby (grp (be8f b 0) (be8f b 8)) k) : be8f F 0 = be8f b 0 ∧ be8f F 8 = be8f b 8 := gby_of _ _ (be8f_lt hb 0) (be8f_lt hb 8) F hF
theorem t46_tf {b : Nat → Int} (hb : Bt b) : t46 (be8f b 8) = [58, 58, 102, 102, 102, 102, 58] ++ tf (fun p => b (12 + p)) 0 3 := by
  rw [tf_dot4]
  unfold t46
  have h0 := hb 8; have h1 := hb 9; have h2 := hb 10; have h3 := hb 11; have h4 := hb 12; have h5 := hb 13; have h6 := hb 14; have h7 := hb 15
  have e0 : be8f b 8 / 16777216 % 256 = b 12 := by unfold be8f be8; simp only [Nat.reduceAdd]; omega
  have e1 : be8f b 8 / 65536 % 256 = b 13 := by unfold be8f be8; simp only [Nat.reduceAdd]; omega
  have e2 : be8f b 8 / 256 % 256 = b 14 := by unfold be8f be8; simp only [Nat.reduceAdd]; omega
  have e3 : be8f b 8 % 256 = b 15 := by unfold be8f be8; simp only [Nat.reduceAdd]; omega
  rw [e0, e1, e2, e3]
theorem law23_16 (b : Nat → Int) (hb : Bt b) (z : ByteArray) {b4 o4 b6 o6 : Nat} (w : World) (hg : Gl b4 o4 b6 o6 w) : Calls Tryd.prog 23 #[.agg (adr 16 b z)] w fun e w' => e = .returned (.bool true) ∧ Below w.heap.size w w' := by
  have hg8 := fun i hi => grp_lt _ _ (be8f_lt hb 0) (be8f_lt hb 8) i hi
  have hGk : ∀ k, k < 8 → Gk (hexd (grp (be8f b 0) (be8f b 8) k)) (grp (be8f b 0) (be8f b 8) k) := fun k hk => Gk_hexd _ (hg8 k hk)
  have hh4 : ∀ k, ((fun k => hexd (grp (be8f b 0) (be8f b 8) k)) k).length ≤ 4 := fun k => (hexd_len _).2
  refine law23_16w b z w hg (fun z => T6 b z) (fun w hg => iStr_6 b hb w hg) (fun z hz w hg => ?_)
  rcases hz with ⟨m0, m1, rfl⟩ | ⟨_, zs, ze, hz, rfl⟩
  · have hx : ∀ p, p ≤ 3 → 0 ≤ (fun p => b (12 + p)) p ∧ (fun p => b (12 + p)) p < 256 := fun p _ => hb (12 + p)
    obtain ⟨hok, F, hF, f0, f10, f11, f12, f13, f14, f15⟩ := rd6_mapped (fun p => b (12 + p)) (hb 12)
    have hlen := t46_len (be8f b 8)
    rw [t46_tf hb] at hlen ⊢
    have q0 := hb 0; have q1 := hb 1; have q2 := hb 2; have q3 := hb 3; have q4 := hb 4; have q5 := hb 5; have q6 := hb 6; have q7 := hb 7
    have p0 := hb 8; have p1 := hb 9; have p2 := hb 10; have p3 := hb 11; have p4 := hb 12; have p5 := hb 13; have p6' := hb 14; have p7 := hb 15
    have r0 := f0 0 (by omega); have r1 := f0 1 (by omega); have r2 := f0 2 (by omega); have r3 := f0 3 (by omega); have r4 := f0 4 (by omega); have r5 := f0 5 (by omega); have r6 := f0 6 (by omega); have r7 := f0 7 (by omega); have r8 := f0 8 (by omega); have r9 := f0 9 (by omega)
    refine readOk _ ?_ (by omega) (fun p => b (12 + p)) hx hok ?_ b hb F hF ?_ ?_ w hg
    · exact Hs.append (fun c hc => by simp only [List.mem_cons, List.not_mem_nil, or_false] at hc; rcases hc with rfl | rfl | rfl | rfl | rfl | rfl | rfl <;> decide) (Hs_tf _ 3 0 (fun q _ _ => hb (12 + q)))
    · exact Col_cons _
    · rw [m0]; unfold be8f be8; simp only [Nat.zero_add]; rw [r0, r1, r2, r3, r4, r5, r6, r7]; decide
    · simp only [Nat.add_zero, Nat.reduceAdd] at f12 f13 f14 f15
      unfold be8f be8 at m1 ⊢; simp only [Nat.reduceAdd] at m1 ⊢; rw [r8, r9, f10, f11, f12, f13, f14, f15]; omega
  · have hlen := out6_len _ _ _ hz
    rcases hz with ⟨rfl, rfl⟩ | ⟨h1, h2, h3⟩
    · have eT : out6 (grp (be8f b 0) (be8f b 8)) 255 255 = jf (fun k => hexd (grp (be8f b 0) (be8f b 8) k)) 0 8 := by unfold out6; rw [if_pos rfl, js_jf]
      rw [eT] at hlen ⊢
      obtain ⟨hok, F, hF, hFk⟩ := rd6_all zb (fun k => hexd (grp (be8f b 0) (be8f b 8) k)) (grp (be8f b 0) (be8f b 8)) hGk
      obtain ⟨e0, e8⟩ := grp_b hb F hFk
      exact readOk _ (Hs_jf _ _ 8 0 (fun k _ hk => hGk k (by omega))) (by omega) zb (fun p _ => Bt_zb p) hok (Col_jf2 _ 6 0 (hGk 0 (by omega)).2.2.1) b hb F hF e0 e8 w hg
    · have eT : out6 (grp (be8f b 0) (be8f b 8)) zs ze = jf (fun k => hexd (grp (be8f b 0) (be8f b 8) k)) 0 zs ++ 58 :: 58 :: jf (fun k => hexd (grp (be8f b 0) (be8f b 8) k)) ze (8 - ze) := by
        unfold out6; rw [if_neg (by omega), js_jf, js_jf]; simp
      rw [eT] at hlen ⊢
      obtain ⟨hok, F, hF, hFk⟩ := rd6_gap zb (fun k => hexd (grp (be8f b 0) (be8f b 8) k)) (grp (be8f b 0) (be8f b 8)) zs ze (by omega) h2 (fun k hk _ => hGk k hk) h3
      obtain ⟨e0, e8⟩ := grp_b hb F hFk
      refine readOk _ ?_ (by omega) zb (fun p _ => Bt_zb p) hok ?_ b hb F hF e0 e8 w hg
      · exact (Hs_jf _ _ zs 0 (fun k _ hk => hGk k (by omega))).append (Hs.cons (Or.inr (Or.inl rfl)) (Hs.cons (Or.inr (Or.inl rfl)) (Hs_jf _ _ (8 - ze) ze (fun k _ hk => hGk k (by omega)))))
      · cases zs with
        | zero => exact Col_cons _
        | succ n => exact Col_jf _ n 0 _ (hGk 0 (by omega)).2.2.1
theorem law23 (n : Int) (b : Nat → Int) (hb : Bt b) (z : ByteArray) {b4 o4 b6 o6 : Nat} (w : World) (hg : Gl b4 o4 b6 o6 w) : Calls Tryd.prog 23 #[.agg (adr n b z)] w fun e w' => e = .returned (.bool true) ∧ Below w.heap.size w w' := by
  by_cases h4 : n = 4
  · subst h4; exact law23_4 b hb z w hg
  by_cases h16 : n = 16
  · subst h16; exact law23_16 b hb z w hg
  · exact law23_0 n h4 h16 b z w hg
end Go.Proofs.YtmlkcgacneealaaDoor
