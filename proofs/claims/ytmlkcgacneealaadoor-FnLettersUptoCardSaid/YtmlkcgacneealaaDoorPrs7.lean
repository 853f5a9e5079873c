/- The plain reader on the texts of groups: with all groups, with '::' for a stretch of zeros, with dotted decimal behind. Plain. -/
import Derived.Test.YtmlkcgacneealaaDoorPrs5
set_option linter.unusedVariables false
set_option linter.unusedSimpArgs false
namespace Go.Proofs.YtmlkcgacneealaaDoor
open Go.RowKit
/-- Groups a .. a + n - 1 with colons between them; h the digits of a group. -/
def jf (h : Nat → List Int) : Nat → Nat → List Int
  | _, 0 => []
  | a, 1 => h a
  | a, n + 2 => h a ++ 58 :: jf h (a + 1) (n + 1)
/-- The digits of a group, and its number. -/
def Gk (h : List Int) (v : Int) : Prop := 1 ≤ h.length ∧ h.length ≤ 4 ∧ (∀ c ∈ h, hxd c = true) ∧ ha h h.length = v
theorem hl_app (G r : List Int) (hG : ∀ c ∈ G, hxd c = true) (hr : r = [] ∨ hxd (r.getD 0 0) = false) : hl (G ++ r) = G.length := by
  unfold hl
  induction G with
  | nil =>
    rcases hr with rfl | hr
    · rfl
    · cases r with
      | nil => rfl
      | cons c r =>
        have : hxd c = false := hr
        simp [List.takeWhile_cons, this]
  | cons a G ih =>
    have h1 := hG a (by simp)
    have h2 := ih (fun c hc => hG c (by simp [hc]))
    rw [List.cons_append, List.takeWhile_cons, if_pos h1, List.length_cons, h2, List.length_cons]
theorem ha_app (G r : List Int) : ha (G ++ r) G.length = ha G G.length := by
  unfold ha
  rw [List.take_left, List.take_length]
theorem hxd58 : hxd 58 = false := by decide
theorem hxd46 : hxd 46 = false := by decide
section
variable (x : Nat → Int) (n : Nat) (G : List Int) (v : Int) (i : Nat) (e : Option Nat) (f : Nat → Int)
theorem p6_next (hG : Gk G v) (c : Int) (r : List Int) (hc : c ≠ 58) : p6 x (n + 1) (G ++ 58 :: c :: r) i e f = p6 x n (c :: r) (i + 2) e (put2 f i v) := by
  obtain ⟨h1, h4, hh, hv⟩ := hG
  have e1 : hl (G ++ 58 :: c :: r) = G.length := hl_app G _ hh (Or.inr hxd58)
  have e2 : ha (G ++ 58 :: c :: r) G.length = v := by rw [ha_app, hv]
  have e3 : (G ++ 58 :: c :: r).getD G.length 0 = 58 := by simp [List.getD_eq_getElem?_getD]
  have a1 : ¬ 4 < G.length := by omega
  have a2 : ¬ G.length = 0 := by omega
  rw [p6, e1, if_neg a1, if_neg a2, if_neg (by rw [e3]; omega)]
  simp only [e2, List.drop_left]
  simp [hc]
theorem p6_last (hG : Gk G v) : p6 x (n + 1) G i e f = some ([], i + 2, e, put2 f i v) := by
  obtain ⟨h1, h4, hh, hv⟩ := hG
  have e1 : hl G = G.length := by have := hl_app G [] hh (Or.inl rfl); simpa using this
  have a1 : ¬ 4 < G.length := by omega
  have a2 : ¬ G.length = 0 := by omega
  rw [p6, e1, if_neg a1, if_neg a2, if_neg (by omega)]
  simp [hv]
theorem p6_gap (hG : Gk G v) (r : List Int) (hr : r ≠ []) : p6 x (n + 1) (G ++ 58 :: 58 :: r) i none f = p6 x n r (i + 2) (some (i + 2)) (put2 f i v) := by
  obtain ⟨h1, h4, hh, hv⟩ := hG
  have e1 : hl (G ++ 58 :: 58 :: r) = G.length := hl_app G _ hh (Or.inr hxd58)
  have e2 : ha (G ++ 58 :: 58 :: r) G.length = v := by rw [ha_app, hv]
  have e3 : (G ++ 58 :: 58 :: r).getD G.length 0 = 58 := by simp [List.getD_eq_getElem?_getD]
  have a1 : ¬ 4 < G.length := by omega
  have a2 : ¬ G.length = 0 := by omega
  rw [p6, e1, if_neg a1, if_neg a2, if_neg (by rw [e3]; omega)]
  simp only [e2, List.drop_left]
  simp [hr]
theorem p6_gapEnd (hG : Gk G v) : p6 x (n + 1) (G ++ [58, 58]) i none f = some ([], i + 2, some (i + 2), put2 f i v) := by
  obtain ⟨h1, h4, hh, hv⟩ := hG
  have e1 : hl (G ++ [58, 58]) = G.length := hl_app G _ hh (Or.inr hxd58)
  have e2 : ha (G ++ [58, 58]) G.length = v := by rw [ha_app, hv]
  have e3 : (G ++ [58, 58]).getD G.length 0 = 58 := by simp [List.getD_eq_getElem?_getD]
  have a1 : ¬ 4 < G.length := by omega
  have a2 : ¬ G.length = 0 := by omega
  rw [p6, e1, if_neg a1, if_neg a2, if_neg (by rw [e3]; omega)]
  simp only [e2, List.drop_left]
  simp
theorem p6_twice (hG : Gk G v) (r : List Int) (k : Nat) : p6 x (n + 1) (G ++ 58 :: 58 :: r) i (some k) f = none := by
  obtain ⟨h1, h4, hh, hv⟩ := hG
  have e1 : hl (G ++ 58 :: 58 :: r) = G.length := hl_app G _ hh (Or.inr hxd58)
  have e3 : (G ++ 58 :: 58 :: r).getD G.length 0 = 58 := by simp [List.getD_eq_getElem?_getD]
  have a1 : ¬ 4 < G.length := by omega
  have a2 : ¬ G.length = 0 := by omega
  rw [p6, e1, if_neg a1, if_neg a2, if_neg (by rw [e3]; omega)]
  simp only [List.drop_left]
  simp
end
theorem dec_hx (d : Int) (h : 0 ≤ d ∧ d < 256) : ∀ c ∈ dec d, hxd c = true := by
  intro c hc
  obtain ⟨k, hk, rfl⟩ := List.mem_iff_getElem.1 hc
  have := dec_dig d h k hk
  rw [List.getD_eq_getElem?_getD, List.getElem?_eq_getElem hk, Option.getD_some] at this
  unfold hxd
  simp only [Bool.or_eq_true, decide_eq_true_eq]
  omega
theorem p6_dots (x : Nat → Int) (hx : 0 ≤ x 0 ∧ x 0 < 256) (n i : Nat) (e : Option Nat) (f : Nat → Int) (he : e = none → i = 12) (hi : i + 4 ≤ 16) :
    p6 x (n + 1) (tf x 0 3) i e f = some ([], i + 4, e, put4 f i x) := by
  have hd := dec_len (x 0)
  have e0 : tf x 0 3 = dec (x 0) ++ 46 :: tf x 1 2 := rfl
  have e1 : hl (tf x 0 3) = (dec (x 0)).length := by rw [e0]; exact hl_app _ _ (dec_hx _ hx) (Or.inr hxd46)
  have e3 : (tf x 0 3).getD (dec (x 0)).length 0 = 46 := by rw [e0]; simp [List.getD_eq_getElem?_getD]
  have e4 : (dec (x 0)).length < (tf x 0 3).length := by rw [e0]; simp
  rw [p6, e1, if_neg (by omega), if_neg (by omega), if_pos ⟨e4, e3⟩, if_pos ⟨rfl, he, hi⟩]
/-- n groups from group a on at place i. -/
def fillg (g : Nat → Int) (f : Nat → Int) (i a n : Nat) : Nat → Int := fun k => if i ≤ k ∧ k < i + 2 * n then (if (k - i) % 2 = 0 then g (a + (k - i) / 2) / 256 else g (a + (k - i) / 2) % 256) else f k
theorem fillg_zero (g f : Nat → Int) (i a : Nat) : fillg g f i a 0 = f := by
  funext k; unfold fillg; rw [if_neg (by omega)]
theorem fillg_succ (g f : Nat → Int) (i a n : Nat) : fillg g (put2 f i (g a)) (i + 2) (a + 1) n = fillg g f i a (n + 1) := by
  funext k; unfold fillg put2 upd
  by_cases h1 : i + 2 ≤ k ∧ k < i + 2 + 2 * n
  · have q0 : i ≤ k ∧ k < i + 2 * (n + 1) := by omega
    have q1 : (k - (i + 2)) % 2 = (k - i) % 2 := by omega
    have q2 : a + 1 + (k - (i + 2)) / 2 = a + (k - i) / 2 := by omega
    rw [if_pos h1, if_pos q0, q1, q2]
  · rw [if_neg h1]
    by_cases h2 : k = i + 1
    · subst h2
      have q1 : (i + 1 - i) = 1 := by omega
      rw [if_pos rfl, if_pos (by omega), q1]; simp
    · rw [if_neg h2]
      by_cases h3 : k = i
      · subst h3
        have q1 : (k - k) = 0 := by omega
        rw [if_pos rfl, if_pos (by omega), q1]; simp
      · rw [if_neg h3, if_neg (by omega)]
theorem jf_head (h : Nat → List Int) (a n : Nat) (h1 : 1 ≤ (h a).length) (hx : ∀ c ∈ h a, hxd c = true) (hn : 1 ≤ n) : ∃ c r, jf h a n = c :: r ∧ hxd c = true := by
  obtain ⟨c, r, e⟩ : ∃ c r, h a = c :: r := by
    cases q : h a with
    | nil => rw [q] at h1; simp at h1
    | cons c r => exact ⟨c, r, rfl⟩
  have hc := hx c (by rw [e]; simp)
  match n, hn with
  | 1, _ => exact ⟨c, r, by rw [jf, e], hc⟩
  | n + 2, _ => exact ⟨c, r ++ 58 :: jf h (a + 1) (n + 1), by rw [jf, e]; rfl, hc⟩
theorem hx_ne (c : Int) (h : hxd c = true) : c ≠ 58 := by
  intro e; rw [e, hxd58] at h; cases h
section
variable (x : Nat → Int) (h : Nat → List Int) (g : Nat → Int)
/-- All groups to the end. -/
theorem p6_groups : ∀ (n a m i : Nat) (e : Option Nat) (f : Nat → Int), (∀ k, a ≤ k → k < a + (n + 1) → Gk (h k) (g k)) →
    p6 x (n + 1 + m) (jf h a (n + 1)) i e f = some ([], i + 2 * (n + 1), e, fillg g f i a (n + 1))
  | 0, a, m, i, e, f, hG => by
    rw [show 0 + 1 + m = m + 1 by omega]
    show p6 x (m + 1) (h a) i e f = _
    rw [p6_last x m (h a) (g a) i e f (hG a (by omega) (by omega)), ← fillg_succ, fillg_zero]
  | n + 1, a, m, i, e, f, hG => by
    have ih := p6_groups n (a + 1) m (i + 2) e (put2 f i (g a)) (fun k k1 k2 => hG k (by omega) (by omega))
    have hk := hG (a + 1) (by omega) (by omega)
    obtain ⟨c, r, hr, hc⟩ := jf_head h (a + 1) (n + 1) hk.1 hk.2.2.1 (by omega)
    rw [show n + 1 + 1 + m = (n + 1 + m) + 1 by omega]
    show p6 x ((n + 1 + m) + 1) (h a ++ 58 :: jf h (a + 1) (n + 1)) i e f = _
    rw [hr, p6_next x _ (h a) (g a) i e f (hG a (by omega) (by omega)) c r (hx_ne c hc), ← hr, ih, fillg_succ, show i + 2 + 2 * (n + 1) = i + 2 * (n + 1 + 1) by omega]
/-- Groups, a colon, and something that is no colon. -/
theorem p6_more : ∀ (n a m i : Nat) (e : Option Nat) (f : Nat → Int) (c : Int) (r : List Int), c ≠ 58 → (∀ k, a ≤ k → k < a + (n + 1) → Gk (h k) (g k)) →
    p6 x (n + 1 + m) (jf h a (n + 1) ++ 58 :: c :: r) i e f = p6 x m (c :: r) (i + 2 * (n + 1)) e (fillg g f i a (n + 1))
  | 0, a, m, i, e, f, c, r, hc, hG => by
    rw [show 0 + 1 + m = m + 1 by omega]
    show p6 x (m + 1) (h a ++ 58 :: c :: r) i e f = _
    rw [p6_next x m (h a) (g a) i e f (hG a (by omega) (by omega)) c r hc, ← fillg_succ, fillg_zero]
  | n + 1, a, m, i, e, f, c, r, hc, hG => by
    have ih := p6_more n (a + 1) m (i + 2) e (put2 f i (g a)) c r hc (fun k k1 k2 => hG k (by omega) (by omega))
    have hk := hG (a + 1) (by omega) (by omega)
    obtain ⟨c', r', hr, hc'⟩ := jf_head h (a + 1) (n + 1) hk.1 hk.2.2.1 (by omega)
    rw [show n + 1 + 1 + m = (n + 1 + m) + 1 by omega]
    show p6 x ((n + 1 + m) + 1) ((h a ++ 58 :: jf h (a + 1) (n + 1)) ++ 58 :: c :: r) i e f = _
    rw [hr] at ih ⊢
    rw [List.append_assoc, List.cons_append, List.cons_append, p6_next x _ (h a) (g a) i e f (hG a (by omega) (by omega)) c' _ (hx_ne c' hc'), ← List.cons_append, ih, fillg_succ, show i + 2 + 2 * (n + 1) = i + 2 * (n + 1 + 1) by omega]
/-- Groups and two colons, with more behind them. -/
theorem p6_colons : ∀ (n a m i : Nat) (f : Nat → Int) (r : List Int), r ≠ [] → (∀ k, a ≤ k → k < a + (n + 1) → Gk (h k) (g k)) →
    p6 x (n + 1 + m) (jf h a (n + 1) ++ 58 :: 58 :: r) i none f = p6 x m r (i + 2 * (n + 1)) (some (i + 2 * (n + 1))) (fillg g f i a (n + 1))
  | 0, a, m, i, f, r, hc, hG => by
    rw [show 0 + 1 + m = m + 1 by omega]
    show p6 x (m + 1) (h a ++ 58 :: 58 :: r) i none f = _
    rw [p6_gap x m (h a) (g a) i f (hG a (by omega) (by omega)) r hc, ← fillg_succ, fillg_zero]
  | n + 1, a, m, i, f, r, hc, hG => by
    have ih := p6_colons n (a + 1) m (i + 2) (put2 f i (g a)) r hc (fun k k1 k2 => hG k (by omega) (by omega))
    have hk := hG (a + 1) (by omega) (by omega)
    obtain ⟨c', r', hr, hc'⟩ := jf_head h (a + 1) (n + 1) hk.1 hk.2.2.1 (by omega)
    rw [show n + 1 + 1 + m = (n + 1 + m) + 1 by omega]
    show p6 x ((n + 1 + m) + 1) ((h a ++ 58 :: jf h (a + 1) (n + 1)) ++ 58 :: 58 :: r) i none f = _
    rw [hr] at ih ⊢
    rw [List.append_assoc, List.cons_append, List.cons_append, p6_next x _ (h a) (g a) i none f (hG a (by omega) (by omega)) c' _ (hx_ne c' hc'), ← List.cons_append, ih, fillg_succ, show i + 2 + 2 * (n + 1) = i + 2 * (n + 1 + 1) by omega]
/-- Groups and two colons at the end. -/
theorem p6_colonsEnd : ∀ (n a m i : Nat) (f : Nat → Int), (∀ k, a ≤ k → k < a + (n + 1) → Gk (h k) (g k)) →
    p6 x (n + 1 + m) (jf h a (n + 1) ++ [58, 58]) i none f = some ([], i + 2 * (n + 1), some (i + 2 * (n + 1)), fillg g f i a (n + 1))
  | 0, a, m, i, f, hG => by
    rw [show 0 + 1 + m = m + 1 by omega]
    show p6 x (m + 1) (h a ++ [58, 58]) i none f = _
    rw [p6_gapEnd x m (h a) (g a) i f (hG a (by omega) (by omega)), ← fillg_succ, fillg_zero]
  | n + 1, a, m, i, f, hG => by
    have ih := p6_colonsEnd n (a + 1) m (i + 2) (put2 f i (g a)) (fun k k1 k2 => hG k (by omega) (by omega))
    have hk := hG (a + 1) (by omega) (by omega)
    obtain ⟨c', r', hr, hc'⟩ := jf_head h (a + 1) (n + 1) hk.1 hk.2.2.1 (by omega)
    rw [show n + 1 + 1 + m = (n + 1 + m) + 1 by omega]
    show p6 x ((n + 1 + m) + 1) ((h a ++ 58 :: jf h (a + 1) (n + 1)) ++ [58, 58]) i none f = _
    rw [hr] at ih ⊢
    rw [List.append_assoc, List.cons_append, List.cons_append, p6_next x _ (h a) (g a) i none f (hG a (by omega) (by omega)) c' _ (hx_ne c' hc'), ← List.cons_append, ih, fillg_succ, show i + 2 + 2 * (n + 1) = i + 2 * (n + 1 + 1) by omega]
/-- The bytes of the groups. -/
def gby (k : Nat) : Int := if k % 2 = 0 then g (k / 2) / 256 else g (k / 2) % 256
theorem notcol (a n : Nat) (hk : Gk (h a) (g a)) (hn : 1 ≤ n) (r : List Int) : ¬ (2 ≤ (jf h a n ++ r).length ∧ (jf h a n ++ r).getD 0 0 = 58 ∧ (jf h a n ++ r).getD 1 0 = 58) := by
  obtain ⟨c, r', e, hc⟩ := jf_head h a n hk.1 hk.2.2.1 hn
  rintro ⟨-, h0, -⟩
  rw [e] at h0
  exact hx_ne c hc (by simpa using h0)
theorem rd6_all (hG : ∀ k, k < 8 → Gk (h k) (g k)) : ok6 x (jf h 0 8) ∧ ∃ F, rd6 x (jf h 0 8) = some F ∧ ∀ k, k < 16 → F k = gby g k := by
  have h1 := p6_groups x h g 7 0 0 0 none zb (fun k k1 k2 => hG k (by omega))
  have h2 := notcol h g 0 8 (hG 0 (by omega)) (by omega) []
  rw [List.append_nil] at h2
  refine ⟨by rw [ok6, if_neg h2, h1]; exact ok_some (by omega) (by omega), _, by rw [rd6, if_neg h2, h1]; rfl, fun k hk => ?_⟩
  simp only [fillg, gby, Nat.zero_add, Nat.sub_zero]
  rw [if_pos (by omega)]
theorem rd6_gap (zs ze : Nat) (hz : zs < ze) (hz8 : ze ≤ 8) (hG : ∀ k, k < 8 → (k < zs ∨ ze ≤ k) → Gk (h k) (g k)) (h0 : ∀ k, zs ≤ k → k < ze → g k = 0) :
    ok6 x (jf h 0 zs ++ 58 :: 58 :: jf h ze (8 - ze)) ∧ ∃ F, rd6 x (jf h 0 zs ++ 58 :: 58 :: jf h ze (8 - ze)) = some F ∧ ∀ k, k < 16 → F k = gby g k := by
  have key : ∀ F0 : Nat → Int, (∀ k, k < 2 * zs → F0 k = gby g k) → (∀ k, 2 * zs ≤ k → k < 2 * zs + 2 * (8 - ze) → F0 k = gby g (k + (2 * ze - 2 * zs))) → ∀ k, k < 16 → exp6 F0 (2 * zs + 2 * (8 - ze)) (2 * zs) k = gby g k := by
    intro F0 p1 p2 k hk
    unfold exp6
    by_cases c1 : k < 2 * zs
    · rw [if_pos c1, p1 k c1]
    · rw [if_neg c1]
      by_cases c2 : k < 2 * zs + (16 - (2 * zs + 2 * (8 - ze)))
      · rw [if_pos c2]
        unfold gby
        rw [h0 (k / 2) (by omega) (by omega)]
        split <;> rfl
      · rw [if_neg c2, p2 _ (by omega) (by omega)]
        congr 1
        omega
  by_cases c0 : zs = 0
  · subst c0
    have e0 : jf h 0 0 ++ 58 :: 58 :: jf h ze (8 - ze) = 58 :: 58 :: jf h ze (8 - ze) := rfl
    rw [e0, rd6, if_pos ⟨by simp, rfl, rfl⟩, ok6, if_pos ⟨by simp, rfl, rfl⟩]
    show (if (jf h ze (8 - ze)).length = 0 then True else Ok6 (p6 x 8 (jf h ze (8 - ze)) 0 (some 0) zb)) ∧ ∃ F, (if (jf h ze (8 - ze)).length = 0 then some zb else fin6 (p6 x 8 (jf h ze (8 - ze)) 0 (some 0) zb)) = some F ∧ _
    by_cases c8 : ze = 8
    · subst c8
      refine ⟨trivial, zb, rfl, fun k hk => ?_⟩
      unfold gby
      rw [h0 (k / 2) (by omega) (by omega)]
      split <;> rfl
    · have hk := hG ze (by omega) (Or.inr (Nat.le_refl _))
      obtain ⟨c, r, e, hc⟩ := jf_head h ze (8 - ze) hk.1 hk.2.2.1 (by omega)
      have h1 := p6_groups x h g (7 - ze) ze ze 0 (some 0) zb (fun k k1 k2 => hG k (by omega) (Or.inr k1))
      rw [show 7 - ze + 1 + ze = 8 by omega, show 7 - ze + 1 = 8 - ze by omega] at h1
      rw [if_neg (by rw [e]; simp), if_neg (by rw [e]; simp), h1]
      refine ⟨ok_some (by omega) (fun _ => by simp), exp6 (fillg g zb 0 ze (8 - ze)) (2 * 0 + 2 * (8 - ze)) (2 * 0), ?_, key _ (fun k hk => by omega) (fun k k1 k2 => ?_)⟩
      · simp only [fin6, List.length_nil, Nat.zero_add, Nat.mul_zero]
        rw [if_pos (by omega)]
      · unfold fillg gby
        rw [if_pos (by omega)]
        have q1 : (k - 0) % 2 = (k + (2 * ze - 2 * 0)) % 2 := by omega
        have q2 : ze + (k - 0) / 2 = (k + (2 * ze - 2 * 0)) / 2 := by omega
        rw [q1, q2]
  · have hk0 := hG 0 (by omega) (Or.inl (by omega))
    have h2 := notcol h g 0 zs hk0 (by omega) (58 :: 58 :: jf h ze (8 - ze))
    rw [rd6, if_neg h2, ok6, if_neg h2]
    by_cases c8 : ze = 8
    · subst c8
      have h1 := p6_colonsEnd x h g (zs - 1) 0 (8 - zs) 0 zb (fun k k1 k2 => hG k (by omega) (Or.inl (by omega)))
      rw [show zs - 1 + 1 + (8 - zs) = 8 by omega, show zs - 1 + 1 = zs by omega, Nat.zero_add] at h1
      show Ok6 (p6 x 8 (jf h 0 zs ++ [58, 58]) 0 none zb) ∧ ∃ F, fin6 (p6 x 8 (jf h 0 zs ++ [58, 58]) 0 none zb) = some F ∧ _
      rw [h1]
      refine ⟨ok_some (by omega) (fun _ => by simp), exp6 (fillg g zb 0 0 zs) (2 * zs + 2 * (8 - 8)) (2 * zs), ?_, key _ (fun k hk => ?_) (fun k k1 k2 => by omega)⟩
      · simp only [fin6, List.length_nil, Nat.sub_self, Nat.mul_zero, Nat.add_zero]
        rw [if_pos (by omega)]
      · unfold fillg gby
        rw [if_pos (by omega), Nat.sub_zero, Nat.zero_add]
    · have hk := hG ze (by omega) (Or.inr (Nat.le_refl _))
      obtain ⟨c, r, e, hc⟩ := jf_head h ze (8 - ze) hk.1 hk.2.2.1 (by omega)
      have h1 := p6_colons x h g (zs - 1) 0 (8 - zs) 0 zb (jf h ze (8 - ze)) (by rw [e]; simp) (fun k k1 k2 => hG k (by omega) (Or.inl (by omega)))
      rw [show zs - 1 + 1 + (8 - zs) = 8 by omega, show zs - 1 + 1 = zs by omega, Nat.zero_add] at h1
      have h3 := p6_groups x h g (7 - ze) ze (ze - zs) (2 * zs) (some (2 * zs)) (fillg g zb 0 0 zs) (fun k k1 k2 => hG k (by omega) (Or.inr k1))
      rw [show 7 - ze + 1 + (ze - zs) = 8 - zs by omega, show 7 - ze + 1 = 8 - ze by omega] at h3
      rw [h1, h3]
      refine ⟨ok_some (by omega) (fun _ => by simp), exp6 (fillg g (fillg g zb 0 0 zs) (2 * zs) ze (8 - ze)) (2 * zs + 2 * (8 - ze)) (2 * zs), ?_, key _ (fun k hk => ?_) (fun k k1 k2 => ?_)⟩
      · simp only [fin6, List.length_nil]
        rw [if_pos (by omega)]
      · unfold fillg gby
        rw [if_neg (by omega), if_pos (by omega), Nat.sub_zero, Nat.zero_add]
      · unfold fillg gby
        rw [if_pos (by omega)]
        have q1 : (k - 2 * zs) % 2 = (k + (2 * ze - 2 * zs)) % 2 := by omega
        have q2 : ze + (k - 2 * zs) / 2 = (k + (2 * ze - 2 * zs)) / 2 := by omega
        rw [q1, q2]
/-- Two colons that stand for no group. -/
theorem rd6_eight (m : Nat) (hm : m < 7) (hG : ∀ k, k < 8 → Gk (h k) (g k)) : ok6 x (jf h 0 (m + 1) ++ 58 :: 58 :: jf h (m + 1) (7 - m)) ∧ rd6 x (jf h 0 (m + 1) ++ 58 :: 58 :: jf h (m + 1) (7 - m)) = none := by
  have h2 := notcol h g 0 (m + 1) (hG 0 (by omega)) (by omega) (58 :: 58 :: jf h (m + 1) (7 - m))
  have hk := hG (m + 1) (by omega)
  obtain ⟨c, r, e, hc⟩ := jf_head h (m + 1) (7 - m) hk.1 hk.2.2.1 (by omega)
  have h1 := p6_colons x h g m 0 (7 - m) 0 zb (jf h (m + 1) (7 - m)) (by rw [e]; simp) (fun k k1 k2 => hG k (by omega))
  rw [show m + 1 + (7 - m) = 8 by omega] at h1
  have h3 := p6_groups x h g (6 - m) (m + 1) 0 (0 + 2 * (m + 1)) (some (0 + 2 * (m + 1))) (fillg g zb 0 0 (m + 1)) (fun k k1 k2 => hG k (by omega))
  rw [show 6 - m + 1 + 0 = 7 - m by omega, show 0 + 2 * (m + 1) + 2 * (7 - m) = 16 by omega] at h3
  rw [rd6, if_neg h2, ok6, if_neg h2, h1, h3]
  exact ⟨ok_some (by omega) (fun _ => by simp), rfl⟩
/-- Two colons twice. -/
theorem rd6_two (a b c : Nat) (ha : Gk (h a) (g a)) (hb : Gk (h b) (g b)) (r : List Int) : ok6 x (h a ++ 58 :: 58 :: (h b ++ 58 :: 58 :: r)) ∧ rd6 x (h a ++ 58 :: 58 :: (h b ++ 58 :: 58 :: r)) = none := by
  have h2 := notcol h g a 1 ha (by omega) (58 :: 58 :: (h b ++ 58 :: 58 :: r))
  rw [rd6, ok6]
  have e : jf h a 1 = h a := rfl
  rw [e] at h2
  rw [if_neg h2, if_neg h2, p6_gap x 7 (h a) (g a) 0 zb ha _ (by simp), p6_twice x 6 (h b) (g b) _ _ hb]
  exact ⟨ok_none, rfl⟩
/-- Six groups and dotted decimal. -/
theorem rd6_dots (hx : 0 ≤ x 0 ∧ x 0 < 256) (hG : ∀ k, k < 6 → Gk (h k) (g k)) : ok6 x (jf h 0 6 ++ 58 :: tf x 0 3) ∧ ∃ F, rd6 x (jf h 0 6 ++ 58 :: tf x 0 3) = some F ∧ (∀ k, k < 12 → F k = gby g k) ∧ F 12 = x 0 ∧ F 13 = x 1 ∧ F 14 = x 2 ∧ F 15 = x 3 := by
  have h2 := notcol h g 0 6 (hG 0 (by omega)) (by omega) (58 :: tf x 0 3)
  have hd := dec_len (x 0)
  obtain ⟨c, r, e, hc⟩ : ∃ c r, tf x 0 3 = c :: r ∧ hxd c = true := by
    cases q : dec (x 0) with
    | nil => rw [q] at hd; simp at hd
    | cons c r => exact ⟨c, r ++ 46 :: tf x 1 2, by simp only [tf, q]; rfl, dec_hx _ hx c (by rw [q]; simp)⟩
  have h1 := p6_more x h g 5 0 2 0 none zb c r (hx_ne c hc) (fun k k1 k2 => hG k (by omega))
  rw [← e] at h1
  have h3 := p6_dots x hx 1 (0 + 2 * (5 + 1)) none (fillg g zb 0 0 6) (fun _ => rfl) (by omega)
  refine ⟨by rw [ok6, if_neg h2, h1, h3]; exact ok_some (by omega) (by omega), _, by rw [rd6, if_neg h2, h1, h3]; rfl, fun k hk => ?_, ?_, ?_, ?_, ?_⟩
  · simp only [put4, upd]
    rw [if_neg (by omega), if_neg (by omega), if_neg (by omega), if_neg (by omega)]
    unfold fillg gby
    rw [if_pos (by omega), Nat.sub_zero, Nat.zero_add]
  · simp [put4, upd]
  · simp [put4, upd]
  · simp [put4, upd]
  · simp [put4, upd]
end
/-- '::ffff:' and dotted decimal. -/
theorem rd6_mapped (x : Nat → Int) (hx : 0 ≤ x 0 ∧ x 0 < 256) : ok6 x ([58, 58, 102, 102, 102, 102, 58] ++ tf x 0 3) ∧ ∃ F, rd6 x ([58, 58, 102, 102, 102, 102, 58] ++ tf x 0 3) = some F ∧ (∀ k, k < 10 → F k = 0) ∧ F 10 = 255 ∧ F 11 = 255 ∧ F 12 = x 0 ∧ F 13 = x 1 ∧ F 14 = x 2 ∧ F 15 = x 3 := by
  have hd := dec_len (x 0)
  obtain ⟨c, r, e, hc⟩ : ∃ c r, tf x 0 3 = c :: r ∧ hxd c = true := by
    cases q : dec (x 0) with
    | nil => rw [q] at hd; simp at hd
    | cons c r => exact ⟨c, r ++ 46 :: tf x 1 2, by simp only [tf, q]; rfl, dec_hx _ hx c (by rw [q]; simp)⟩
  have hG : Gk [102, 102, 102, 102] 65535 := ⟨by decide, by decide, by decide, by decide⟩
  have h1 := p6_next x 7 [102, 102, 102, 102] 65535 0 (some 0) zb hG c r (hx_ne c hc)
  rw [← e] at h1
  have h3 := p6_dots x hx 6 (0 + 2) (some 0) (put2 zb 0 65535) (fun h => by cases h) (by omega)
  have e2 : ([58, 58, 102, 102, 102, 102, 58] ++ tf x 0 3).drop 2 = [102, 102, 102, 102] ++ 58 :: tf x 0 3 := rfl
  refine ⟨by rw [ok6, if_pos ⟨by simp, rfl, rfl⟩, e2, if_neg (by simp), h1, h3]; exact ok_some (by omega) (fun _ => by simp), _, by rw [rd6, if_pos ⟨by simp, rfl, rfl⟩, e2, if_neg (by simp), h1, h3]; rfl, fun k hk => ?_, ?_, ?_, ?_, ?_, ?_, ?_⟩
  · simp only [exp6]
    rw [if_neg (by omega), if_pos (by omega)]
  · simp [exp6, put4, put2, upd]
  · simp [exp6, put4, put2, upd]
  · simp [exp6, put4, put2, upd]
  · simp [exp6, put4, put2, upd]
  · simp [exp6, put4, put2, upd]
  · simp [exp6, put4, put2, upd]
/-- A digit's value. -/
theorem dig_hx (d : Int) (h : 0 ≤ d ∧ d < 16) : hxd (dig d) = true ∧ hval (dig d) = d := by
  unfold hxd hval dig
  simp only [Bool.or_eq_true, decide_eq_true_eq]
  split
  · exact ⟨by omega, by rw [if_pos (by omega)]; omega⟩
  · exact ⟨by omega, by rw [if_neg (by omega), if_pos (by omega)]; omega⟩
theorem Gk_padh (v : Int) (h : 0 ≤ v ∧ v < 65536) : Gk (padh v) v := by
  have d1 := dig_hx (v / 4096) (by omega)
  have d2 := dig_hx (v / 256 % 16) (by omega)
  have d3 := dig_hx (v / 16 % 16) (by omega)
  have d4 := dig_hx (v % 16) (by omega)
  refine ⟨by simp [padh], by simp [padh], fun c hc => ?_, ?_⟩
  · simp only [padh, List.mem_cons, List.not_mem_nil, or_false] at hc
    rcases hc with rfl | rfl | rfl | rfl
    · exact d1.1
    · exact d2.1
    · exact d3.1
    · exact d4.1
  · simp only [ha, padh, List.take_length, List.foldl_cons, List.foldl_nil, d1.2, d2.2, d3.2, d4.2]
    omega
theorem Gk_hexd (v : Int) (h : 0 ≤ v ∧ v < 65536) : Gk (hexd v) v := by
  have d1 := dig_hx (v / 4096) (by omega)
  have d2 := dig_hx (v / 256 % 16) (by omega)
  have d3 := dig_hx (v / 16 % 16) (by omega)
  have d4 := dig_hx (v % 16) (by omega)
  have hl := hexd_len v
  refine ⟨hl.1, hl.2, fun c hc => ?_, ?_⟩
  · unfold hexd at hc
    have : c = dig (v / 4096) ∨ c = dig (v / 256 % 16) ∨ c = dig (v / 16 % 16) ∨ c = dig (v % 16) := by
      split at hc <;> split at hc <;> split at hc <;> simp at hc <;> (first | omega | (rcases hc with hc | hc | hc | hc <;> simp [hc]) | (rcases hc with hc | hc | hc <;> simp [hc]) | (rcases hc with hc | hc <;> simp [hc]) | simp [hc])
    rcases this with rfl | rfl | rfl | rfl
    · exact d1.1
    · exact d2.1
    · exact d3.1
    · exact d4.1
  · unfold ha
    rw [List.take_length]
    unfold hexd
    by_cases c1 : 4096 ≤ v
    · rw [if_pos c1, if_pos (by omega), if_pos (by omega)]
      simp only [List.cons_append, List.nil_append, List.foldl_cons, List.foldl_nil, d1.2, d2.2, d3.2, d4.2]; omega
    · by_cases c2 : 256 ≤ v
      · rw [if_neg c1, if_pos c2, if_pos (by omega)]
        simp only [List.cons_append, List.nil_append, List.foldl_cons, List.foldl_nil, d2.2, d3.2, d4.2]; omega
      · by_cases c3 : 16 ≤ v
        · rw [if_neg c1, if_neg c2, if_pos c3]
          simp only [List.cons_append, List.nil_append, List.foldl_cons, List.foldl_nil, d3.2, d4.2]; omega
        · rw [if_neg c1, if_neg c2, if_neg c3]
          simp only [List.cons_append, List.nil_append, List.foldl_cons, List.foldl_nil, d4.2]; omega
/-- One group more behind. -/
theorem jf_more (h : Nat → List Int) : ∀ (n a : Nat), jf h a (n + 2) = jf h a (n + 1) ++ 58 :: h (a + (n + 1))
  | 0, a => by simp [jf]
  | n + 1, a => by
    rw [jf, jf_more h n (a + 1), jf, List.append_assoc, List.cons_append, show a + 1 + (n + 1) = a + (n + 1 + 1) by omega]
theorem js_jf (g : Nat → Int) (a : Nat) : ∀ n, js g a n = jf (fun k => hexd (g k)) a n
  | 0 => rfl
  | 1 => by simp [js, jf]
  | n + 2 => by
    rw [js_more g a (n + 1) (by omega), js_jf g a (n + 1), jf_more, List.append_assoc, List.singleton_append]
theorem jp_jf (g : Nat → Int) : ∀ n, jp g n = jf (fun k => padh (g k)) 0 n
  | 0 => rfl
  | 1 => by simp [jp, jf]
  | n + 2 => by
    rw [jp_more g (n + 1) (by omega), jp_jf g (n + 1), jf_more, List.append_assoc, List.singleton_append, Nat.zero_add]
/-- The first n groups, a colon, and the rest. -/
theorem jf_split (h : Nat → List Int) : ∀ (n a m : Nat), jf h a (n + 1 + (m + 1)) = jf h a (n + 1) ++ 58 :: jf h (a + (n + 1)) (m + 1)
  | 0, a, m => by rw [show 0 + 1 + (m + 1) = m + 2 by omega]; simp [jf]
  | n + 1, a, m => by
    have ih := jf_split h n (a + 1) m
    rw [show n + 1 + 1 + (m + 1) = (n + 1 + m) + 2 by omega, jf, show n + 1 + m + 1 = n + 1 + (m + 1) by omega, ih, jf, List.append_assoc, List.cons_append, show a + 1 + (n + 1) = a + (n + 1 + 1) by omega]
theorem gby_of (hi lo : Int) (hhi : 0 ≤ hi ∧ hi < 18446744073709551616) (hlo : 0 ≤ lo ∧ lo < 18446744073709551616) (F : Nat → Int) (hF : ∀ k, k < 16 → F k = gby (grp hi lo) k) : be8f F 0 = hi ∧ be8f F 8 = lo := by
  unfold be8f be8
  rw [hF 0 (by omega), hF (0 + 1) (by omega), hF (0 + 2) (by omega), hF (0 + 3) (by omega), hF (0 + 4) (by omega), hF (0 + 5) (by omega), hF (0 + 6) (by omega), hF (0 + 7) (by omega),
    hF 8 (by omega), hF (8 + 1) (by omega), hF (8 + 2) (by omega), hF (8 + 3) (by omega), hF (8 + 4) (by omega), hF (8 + 5) (by omega), hF (8 + 6) (by omega), hF (8 + 7) (by omega)]
  simp only [gby, grp, Nat.zero_add, Nat.reduceAdd, Nat.reduceMod, Nat.reduceDiv, if_true, if_false, reduceIte]
  omega
end Go.Proofs.YtmlkcgacneealaaDoor
