/- FnColonsForZeros, FnColonsOnce, FnDotted return true. Conditions: the listed variables as laid. -/
import Derived.Test.YtmlkcgacneealaaDoorLawW
import Derived.Test.YtmlkcgacneealaaDoorPrs9
set_option linter.unusedVariables false
set_option linter.unusedSimpArgs false
namespace Go.Proofs.YtmlkcgacneealaaDoor
open Go.RowKit

theorem gby_gb {b : Nat → Int} (hb : Bt b) (k : Nat) : gby (gb b) k = b k := by
  unfold gby gb
  have h1 := hb (2 * (k / 2)); have h2 := hb (2 * (k / 2) + 1)
  by_cases h : k % 2 = 0
  · rw [if_pos h]
    have e : 2 * (k / 2) = k := by omega
    rw [e] at h1 h2 ⊢; omega
  · rw [if_neg h]
    have e : 2 * (k / 2) + 1 = k := by omega
    rw [e] at h2 ⊢; omega
theorem be8f_cong (F b : Nat → Int) (k : Nat) (h : ∀ i, k ≤ i → i < k + 8 → F i = b i) : be8f F k = be8f b k := by
  unfold be8f
  rw [h k (by omega) (by omega), h (k + 1) (by omega) (by omega), h (k + 2) (by omega) (by omega), h (k + 3) (by omega) (by omega), h (k + 4) (by omega) (by omega), h (k + 5) (by omega) (by omega), h (k + 6) (by omega) (by omega), h (k + 7) (by omega) (by omega)]
theorem jf_padh_len (g : Nat → Int) : ∀ (n a : Nat), (jf (fun k => padh (g k)) a n).length = 5 * n - 1
  | 0, _ => rfl
  | 1, a => rfl
  | n + 2, a => by
    have := jf_padh_len g (n + 1) (a + 1)
    rw [jf, List.length_append, List.length_cons, this]
    simp [padh]; omega
theorem jp_cut (g : Nat → Int) (n : Nat) (h : n + 1 < 8) : jp g 8 = jf (fun k => padh (g k)) 0 (n + 1) ++ 58 :: jf (fun k => padh (g k)) (n + 1) (7 - n) := by
  have := jf_split (fun k => padh (g k)) n 0 (6 - n)
  rw [show n + 1 + (6 - n + 1) = 8 by omega, show 6 - n + 1 = 7 - n by omega, Nat.zero_add] at this
  rw [jp_jf, this]
theorem jp_take (g : Nat → Int) (n : Nat) (h : 0 < n) (h8 : n < 8) : (jp g 8).take (5 * n - 1) = jf (fun k => padh (g k)) 0 n := by
  obtain ⟨m, rfl⟩ : ∃ m, n = m + 1 := ⟨n - 1, by omega⟩
  rw [jp_cut g m h8]
  have := jf_padh_len g (m + 1) 0
  rw [← this]
  exact List.take_left
theorem jp_take5 (g : Nat → Int) (n : Nat) (h : 0 < n) (h8 : n < 8) : (jp g 8).take (5 * n) = jf (fun k => padh (g k)) 0 n ++ [58] := by
  obtain ⟨m, rfl⟩ : ∃ m, n = m + 1 := ⟨n - 1, by omega⟩
  have h1 := jf_padh_len g (m + 1) 0
  have h2 : (jf (fun k => padh (g k)) 0 (m + 1) ++ [58]).length = 5 * (m + 1) := by rw [List.length_append, h1]; simp; omega
  rw [jp_cut g m h8, ← h2, show jf (fun k => padh (g k)) 0 (m + 1) ++ 58 :: jf (fun k => padh (g k)) (m + 1) (7 - m) = (jf (fun k => padh (g k)) 0 (m + 1) ++ [58]) ++ jf (fun k => padh (g k)) (m + 1) (7 - m) by simp]
  exact List.take_left
theorem jp_drop (g : Nat → Int) (n : Nat) (h : 0 < n) (h8 : n < 8) : (jp g 8).drop (5 * n) = jf (fun k => padh (g k)) n (8 - n) := by
  obtain ⟨m, rfl⟩ : ∃ m, n = m + 1 := ⟨n - 1, by omega⟩
  have h1 := jf_padh_len g (m + 1) 0
  have h2 : (jf (fun k => padh (g k)) 0 (m + 1) ++ [58]).length = 5 * (m + 1) := by rw [List.length_append, h1]; simp; omega
  rw [jp_cut g m h8, ← h2, show jf (fun k => padh (g k)) 0 (m + 1) ++ 58 :: jf (fun k => padh (g k)) (m + 1) (7 - m) = (jf (fun k => padh (g k)) 0 (m + 1) ++ [58]) ++ jf (fun k => padh (g k)) (m + 1) (7 - m) by simp, List.drop_left, show 8 - (m + 1) = 7 - m by omega]
theorem Gk_gb {b : Nat → Int} (hb : Bt b) (k : Nat) : Gk (padh (gb b k)) (gb b k) := Gk_padh _ (gb_lt hb k)
theorem Gk_hx {G : List Int} {v : Int} (h : Gk G v) : ∀ c ∈ G, hxd c = true := h.2.2.1
theorem col58 : hxd 58 = true ∨ (58 : Int) = 58 ∨ (58 : Int) = 46 := Or.inr (Or.inl rfl)
theorem law24 (b : Nat → Int) (hb : Bt b) {b4 o4 b6 o6 : Nat} (w : World) (hg : Gl b4 o4 b6 o6 w) : Calls Tryd.prog 24 #[.agg (arr16 b)] w fun e w' => e = .returned (.bool true) ∧ Below w.heap.size w w' := by
  have hp : Bt (pre 4 fun p => b (12 + p)) := Bt_pre (fun p => hb (12 + p)) 4
  have hD := t4_len (281470681743360 + be4f (pre 4 fun p => b (12 + p)) 0)
  rw [t4_tf hp] at hD
  refine law24w b hb (jp (gb b) 8) (tf (pre 4 fun p => b (12 + p)) 0 3) (jp_len _ 8) hD.2 w hg (fun w => sexp_16 b hb w) (fun w hg => ?_) (fun w hg => ?_)
  · have h := iStr_4 (pre 4 fun p => b (12 + p)) hp ⟨#[]⟩ w hg
    rw [t4_tf hp] at h
    exact h
  · have ht : (jp (gb b) 8).take 30 ++ tf (pre 4 fun p => b (12 + p)) 0 3 = jf (fun k => padh (gb b k)) 0 6 ++ 58 :: tf (pre 4 fun p => b (12 + p)) 0 3 := by
      rw [jp_take5 (gb b) 6 (by omega) (by omega), List.append_assoc]; rfl
    rw [ht]
    obtain ⟨hok, F, hF, f1, f12, f13, f14, f15⟩ := rd6_dots (pre 4 fun p => b (12 + p)) (fun k => padh (gb b k)) (gb b) (hp 0) (fun k _ => Gk_gb hb k)
    have hFb : ∀ k, k < 16 → F k = b k := fun k hk => by
      by_cases c : k < 12
      · rw [f1 k c, gby_gb hb]
      · have : k = 12 ∨ k = 13 ∨ k = 14 ∨ k = 15 := by omega
        rcases this with rfl | rfl | rfl | rfl
        · rw [f12]; rfl
        · rw [f13]; rfl
        · rw [f14]; rfl
        · rw [f15]; rfl
    refine readOk _ ?_ ?_ (pre 4 fun p => b (12 + p)) (fun p _ => hp p) hok (Col_jf _ 5 0 _ (Gk_hx (Gk_gb hb 0))) b hb F hF (be8f_cong _ _ _ fun i _ h => hFb i (by omega)) (be8f_cong _ _ _ fun i _ h => hFb i (by omega)) w hg
    · exact (Hs_jf _ (gb b) 6 0 (fun k _ _ => Gk_gb hb k)).append (Hs.cons col58 (Hs_tf _ 3 0 (fun q _ _ => hp q)))
    · have h1 := jf_padh_len (gb b) 6 0
      rw [List.length_append, List.length_cons, h1]; omega
theorem law20 (b : Nat → Int) (hb : Bt b) (y : Int) (hy : 0 ≤ y ∧ y < 256) {b4 o4 b6 o6 : Nat} (w : World) (hg : Gl b4 o4 b6 o6 w) : Calls Tryd.prog 20 #[.agg (arr16 b), .int .u8 y] w fun e w' => e = .returned (.bool true) ∧ Below w.heap.size w w' := by
  obtain ⟨m, hm⟩ : ∃ m : Nat, m = (y % 7).toNat := ⟨_, rfl⟩
  have hm7 : m < 7 := by omega
  have hzb : ∀ p, p ≤ 3 → 0 ≤ zb p ∧ zb p < 256 := fun p _ => Bt_zb p
  refine law20w b y hy (jp (gb b) 8) (jp_len _ 8) w hg m hm (fun w => sexp_16 b hb w) (fun w hg => ?_) (fun w hg => ?_) (fun w hg => ?_)
  · have ht : (jp (gb b) 8).take (5 * m + 4) ++ [58, 58] ++ (jp (gb b) 8).drop (5 * m + 5) = jf (fun k => padh (gb b k)) 0 (m + 1) ++ 58 :: 58 :: jf (fun k => padh (gb b k)) (m + 1) (7 - m) := by
      have h1 := jp_take (gb b) (m + 1) (by omega) (by omega)
      have h2 := jp_drop (gb b) (m + 1) (by omega) (by omega)
      rw [show 5 * (m + 1) - 1 = 5 * m + 4 by omega] at h1
      rw [show 5 * (m + 1) = 5 * m + 5 by omega, show 8 - (m + 1) = 7 - m by omega] at h2
      rw [h1, h2]; simp
    rw [ht]
    obtain ⟨hok, hF⟩ := rd6_eight zb (fun k => padh (gb b k)) (gb b) m hm7 (fun k _ => Gk_gb hb k)
    refine readNo _ ?_ ?_ zb hzb hok (Col_jf _ m 0 _ (Gk_hx (Gk_gb hb 0))) hF w hg
    · exact (Hs_jf _ (gb b) (m + 1) 0 (fun k _ _ => Gk_gb hb k)).append (Hs.cons col58 (Hs.cons col58 (Hs_jf _ (gb b) (7 - m) (m + 1) (fun k _ _ => Gk_gb hb k))))
    · have h1 := jf_padh_len (gb b) (m + 1) 0
      have h2 := jf_padh_len (gb b) (7 - m) (m + 1)
      rw [List.length_append, List.length_cons, List.length_cons, h1, h2]; omega
  · rw [jp_jf]
    obtain ⟨hok, F, hF, hFk⟩ := rd6_all zb (fun k => padh (gb b k)) (gb b) (fun k _ => Gk_gb hb k)
    have hFb : ∀ k, k < 16 → F k = b k := fun k hk => by rw [hFk k hk, gby_gb hb]
    refine readOk _ (Hs_jf _ (gb b) 8 0 (fun k _ _ => Gk_gb hb k)) (by rw [jf_padh_len]; omega) zb hzb hok (Col_jf2 _ 6 0 (Gk_hx (Gk_gb hb 0))) b hb F hF (be8f_cong _ _ _ fun i _ h => hFb i (by omega)) (be8f_cong _ _ _ fun i _ h => hFb i (by omega)) w hg
  · have ht : (jp (gb b) 8).take 4 ++ [58, 58] ++ ((jp (gb b) 8).take 14).drop 10 ++ [58, 58] ++ ((jp (gb b) 8).take 29).drop 25 = padh (gb b 0) ++ 58 :: 58 :: (padh (gb b 2) ++ 58 :: 58 :: padh (gb b 5)) := by
      rw [jp_jf]
      simp [jf, padh]
    rw [ht]
    obtain ⟨hok, hF⟩ := rd6_two zb (fun k => padh (gb b k)) (gb b) 0 2 5 (Gk_gb hb 0) (Gk_gb hb 2) (padh (gb b 5))
    refine readNo _ ?_ ?_ zb hzb hok (Col_app _ _ (Gk_hx (Gk_gb hb 0))) hF w hg
    · exact (Hs_hex (Gk_hx (Gk_gb hb 0))).append (Hs.cons col58 (Hs.cons col58 ((Hs_hex (Gk_hx (Gk_gb hb 2))).append (Hs.cons col58 (Hs.cons col58 (Hs_hex (Gk_hx (Gk_gb hb 5))))))))
    · simp [padh]
theorem Bt_zf {b : Nat → Int} (hb : Bt b) (i k : Nat) : Bt (zf b i k) := fun p => by
  unfold zf; split
  · omega
  · exact hb p
theorem law19 (b : Nat → Int) (hb : Bt b) (y : Int) (hy : 0 ≤ y ∧ y < 256) (z : Int) (hz : 0 ≤ z ∧ z < 256) {b4 o4 b6 o6 : Nat} (w : World) (hg : Gl b4 o4 b6 o6 w) : Calls Tryd.prog 19 #[.agg (arr16 b), .int .u8 y, .int .u8 z] w fun e w' => e = .returned (.bool true) ∧ Below w.heap.size w w' := by
  obtain ⟨i, hi⟩ : ∃ i : Nat, i = (y % 8).toNat := ⟨_, rfl⟩
  obtain ⟨j, hj⟩ : ∃ j : Nat, j = i + 1 + (z % (8 - i)).toNat := ⟨_, rfl⟩
  have hi8 : i < 8 := by omega
  have hij : i < j := by omega
  have hj8 : j ≤ 8 := by
    have h1 := Int.emod_lt_of_pos z (b := (8 - (i : Int))) (by omega)
    omega
  have hc := Bt_zf hb i j
  have hzb : ∀ p, p ≤ 3 → 0 ≤ zb p ∧ zb p < 256 := fun p _ => Bt_zb p
  refine law19w b y z hy hz (jp (gb (zf b i j)) 8) (jp_len _ 8) i j hi hj w hg (fun w => sexp_16 _ hc w) (fun w hg => ?_)
  have ht : Tx (jp (gb (zf b i j)) 8) i j = jf (fun k => padh (gb (zf b i j) k)) 0 i ++ 58 :: 58 :: jf (fun k => padh (gb (zf b i j) k)) j (8 - j) := by
    unfold Tx
    have e1 : (if 0 < i then (jp (gb (zf b i j)) 8).take (5 * i - 1) else []) = jf (fun k => padh (gb (zf b i j) k)) 0 i := by
      by_cases c : 0 < i
      · rw [if_pos c, jp_take _ i c hi8]
      · rw [if_neg c, show i = 0 by omega]; rfl
    have e2 : (if j < 8 then (jp (gb (zf b i j)) 8).drop (5 * j) else []) = jf (fun k => padh (gb (zf b i j) k)) j (8 - j) := by
      by_cases c : j < 8
      · rw [if_pos c, jp_drop _ j (by omega) c]
      · rw [if_neg c, show 8 - j = 0 by omega]; rfl
    rw [e1, e2]; simp
  rw [ht]
  have h0 : ∀ k, i ≤ k → k < j → gb (zf b i j) k = 0 := fun k k1 k2 => by
    unfold gb zf; rw [if_pos (by omega), if_pos (by omega)]; rfl
  obtain ⟨hok, F, hF, hFk⟩ := rd6_gap zb (fun k => padh (gb (zf b i j) k)) (gb (zf b i j)) i j hij hj8 (fun k _ _ => Gk_gb hc k) h0
  have hFb : ∀ k, k < 16 → F k = zf b i j k := fun k hk => by rw [hFk k hk, gby_gb hc]
  refine readOk _ ?_ ?_ zb hzb hok ?_ (zf b i j) hc F hF (be8f_cong _ _ _ fun i _ h => hFb i (by omega)) (be8f_cong _ _ _ fun i _ h => hFb i (by omega)) w hg
  · exact (Hs_jf _ (gb (zf b i j)) i 0 (fun k _ _ => Gk_gb hc k)).append (Hs.cons col58 (Hs.cons col58 (Hs_jf _ (gb (zf b i j)) (8 - j) j (fun k _ _ => Gk_gb hc k))))
  · have h1 := jf_padh_len (gb (zf b i j)) i 0
    have h2 := jf_padh_len (gb (zf b i j)) (8 - j) j
    rw [List.length_append, List.length_cons, List.length_cons, h1, h2]; omega
  · cases i with
    | zero => exact Col_cons _
    | succ n => exact Col_jf _ n 0 _ (Gk_hx (Gk_gb hc 0))
end Go.Proofs.YtmlkcgacneealaaDoor
