/- The reference's split. Conditions: the text is of bytes and not too long. The reference's number: digits to a base. Conditions: the text is of bytes and not too long. parseIPv4Fields on a text that the plain reader refuses: an error. Conditions: the fields' cells are there. The reference's decimal and quad. Conditions: the text is of bytes and not too long. -/
import Derived.Test.YtmlkcgacneealaaDoorZa
import Derived.Test.YtmlkcgacneealaaDoorSExp
import Derived.BigQuiet
import Derived.Test.YtmlkcgacneealaaDoorPrs6
import Derived.Deep.DeepCutAuto
set_option linter.unusedVariables false
set_option linter.unusedSimpArgs false
namespace Go.Proofs.YtmlkcgacneealaaDoor
open Go.RowKit

theorem inf9 : (Tryd.prog.info? 9).map (fun i => (i.zero, i.size, i.bytes)) = some (some (.string ⟨#[]⟩), 1, 16) := by kernel_rfl
/-- Texts as cells. -/
def sv (ps : List (List Int)) : List Value := ps.map fun p => .string (ba p)
theorem sv_len (ps : List (List Int)) : (sv ps).length = ps.length := by unfold sv; rw [List.length_map]
theorem sv_one (ps : List (List Int)) : ∀ u ∈ sv ps, u.oneCell' = true := by
  intro u hu
  unfold sv at hu
  obtain ⟨p, _, rfl⟩ := List.mem_map.1 hu
  rfl
theorem ba_take (s : List Int) (k : Nat) : (ba s).extract 0 k = ba (s.take k) := by
  apply ByteArray.ext
  simp [ba, List.map_take]
theorem getD_app_l' (a b : List Int) (k : Nat) (h : k < a.length) : (a ++ b).getD k 0 = a.getD k 0 := by
  rw [List.getD_eq_getElem?_getD, List.getD_eq_getElem?_getD, List.getElem?_append_left h]
theorem owns_below {B : Nat} {e : TypeId} {v : Value} {n : Nat} {xs : List Value} {w w' : World} {size : Nat} (h : w.ownsRow B e size v n xs) (hb : ∀ g, g < w.heap.size → w'.heap[g]? = w.heap[g]?) : w'.ownsRow B e size v n xs := by
  obtain ⟨hl, h0 | ⟨g, cap, cur, rfl, hg, hh, hr⟩⟩ := h
  · exact ⟨hl, Or.inl h0⟩
  · exact ⟨hl, Or.inr ⟨g, cap, cur, rfl, hg, by rw [hb g (lt_of_some hh)]; exact hh, hr⟩⟩
theorem owns_new (w : World) (B : Nat) (e : TypeId) (cs : Array Value) (n : Nat) (h : n = cs.size) (hm : n ≤ 1048576) (hB : B ≤ w.heap.size) (g : Nat) (hg : g = w.heap.size) : (w.alloc (.cells cs e)).ownsRow B e 1 (.slice (some ⟨g, 0, none⟩) n n) n cs.toList := by
  refine ⟨by simp [h], Or.inr ⟨g, n, cs, rfl, by omega, ?_, Nat.le_refl _, by unfold maxLen; omega, by omega, ?_⟩⟩
  · exact blk_last w _ g hg
  · rw [List.take_of_length_le]; simp [h]
set_option maxHeartbeats 4000000 in
set_option maxRecDepth 100000 in
theorem ssplit (c : Int) (hc : 0 ≤ c ∧ c < 256) : ∀ (n : Nat) (s : List Int), s.length = n → By s → n ≤ 1048576 → ∀ w : World, Calls Tryd.prog 122 #[.string (ba s), .int .u8 c] w (RowR w 9 (spl c s).length (sv (spl c s))) := by
  obtain ⟨i0, hi0', hz0, hz1, hz2⟩ := info_parts inf9
  intro n
  induction n using Nat.strongRecOn with
  | ind n ih =>
  intro s hn hB hl w
  have HIH := Lib.hid ih
  have HSz := Lib.hid (ba_size s)
  have HB := Lib.hid hB
  have hsm : (((ba s).size : Nat) : Int) ≤ 1048576 := by rw [ba_size]; omega
  clear ih
  rcases spl_cases c s with hno | ⟨p, r, hp, hsr⟩
  · have HNo := Lib.hid hno
    rw [spl_no c s hno]
    clear hno
    go_enter Tryd.func122, Tryd.ntmps122
    go_wp2
    go_loopw [4, 5, 8] (fun v4 v5 v8 wr => ∃ i : Nat, i ≤ s.length ∧ v4 = .slice none 0 0 ∧ v8 = .int .i64 (i : Int) ∧ Below w.heap.size w wr) (fun _ _ v8 _ => s.length - (intOf v8).toNat)
    case atStart => exact ⟨0, by omega, rfl, rfl, (by repeat' (first | (with_reducible exact Below.refl _ _) | (with_reducible assumption) | (with_reducible refine Below.alloc ?_ ?_ _) | (with_reducible refine Below.drew ?_) | (with_reducible refine below_drewN ?_ _) | (with_reducible refine Below.setCell ?_ ?_ _) | (with_reducible refine below_setRow' ?_ ?_ _) | go_size))⟩
    case round =>
      obtain ⟨i, hi, rfl, rfl, hbw⟩ := hrel
      have hsz := HSz.out
      have hi0 : (0 : Int) ≤ (i : Int) := by omega
      by_cases hlt : i < s.length
      · have hil : i < (ba s).size := by omega
        have hi1 : (i : Int) < (((ba s).size : Nat) : Int) := by omega
        have hcv := ba_get s HB.out i hil
        have hne := HNo.out (s.getD i 0) (by rw [List.getD_eq_getElem?_getD, List.getElem?_eq_getElem hlt]; exact List.getElem_mem hlt)
        obtain ⟨ch, hch⟩ : ∃ ch : Int, ch = s.getD i 0 := ⟨_, rfl⟩
        rw [← hch] at hcv hne
        have h1 : (ch == c) = false := beq_eq_false_iff_ne.2 hne
        clear hch hne hsz
        go_wp2
        go_roundw
        case rel => exact ⟨i + 1, by omega, rfl, by go_num, hbw⟩
        case measure => simp [intOf]; omega
      · have hi1 : ¬ ((i : Int) < (((ba s).size : Nat) : Int)) := by omega
        have hS0 := hbw.size
        clear hsz
        go_wp2
        go_ret
        exact ⟨_, rfl, owns_new _ _ 9 #[.string (ba s)] 1 rfl (by omega) hbw.size _ rfl, (by repeat' (first | (with_reducible exact Below.refl _ _) | (with_reducible assumption) | (with_reducible refine Below.alloc ?_ ?_ _) | (with_reducible refine Below.drew ?_) | (with_reducible refine below_drewN ?_ _) | (with_reducible refine Below.setCell ?_ ?_ _) | (with_reducible refine below_setRow' ?_ ?_ _) | go_size))⟩
  · have hpl : p.length < s.length := by rw [hsr]; simp
    have hx1 : (ba s).extract 0 p.length = ba p := by rw [ba_take, hsr, List.take_left]
    have hx2 : (ba s).extract (p.length + 1) (ba s).size = ba r := by
      rw [ba_drop s (p.length + 1) (by omega), hsr, show p ++ c :: r = (p ++ [c]) ++ r by simp, List.drop_left' (by simp)]
    have hat : s.getD p.length 0 = c := by rw [hsr, List.getD_eq_getElem?_getD]; simp
    have HBr := Lib.hid (show By r from fun x hx => hB x (by rw [hsr]; simp [hx]))
    have hpre : ∀ i, i < p.length → s.getD i 0 ≠ c := fun i hi => by
      rw [hsr, getD_app_l' p _ i hi, List.getD_eq_getElem?_getD, List.getElem?_eq_getElem hi]
      exact hp _ (List.getElem_mem hi)
    have HPre := Lib.hid hpre
    have hn2 : n = p.length + (r.length + 1) := by rw [← hn, hsr]; simp
    have HSp := Lib.hid (show spl c s = p :: spl c r by rw [hsr, spl_app c r p hp])
    have hpos : ∀ r : List Int, 0 < (spl c r).length := fun r => List.length_pos_iff.2 (spl_ne c r)
    have hsum : (spl c r).length ≤ r.length + 1 := by have := spl_sum c r; omega
    obtain ⟨m, hm⟩ : ∃ m : Nat, m = p.length := ⟨_, rfl⟩
    rw [← hm] at hpl hx1 hx2 hat hpre hn2
    have HM := Lib.hid hm
    clear hpre hp hsr hB hm
    rw [HSp.out]
    go_enter Tryd.func122, Tryd.ntmps122
    go_wp2
    go_loopw [4, 5, 8] (fun v4 v5 v8 wr => ∃ i : Nat, i ≤ m ∧ v4 = .slice none 0 0 ∧ v8 = .int .i64 (i : Int) ∧ w = wr) (fun _ _ v8 _ => s.length - (intOf v8).toNat)
    case atStart => exact ⟨0, by omega, rfl, rfl, rfl⟩
    case round =>
      obtain ⟨i, hi, rfl, rfl, rfl⟩ := hrel
      have hsz := HSz.out
      have hi0 : (0 : Int) ≤ (i : Int) := by omega
      have hil : i < (ba s).size := by omega
      have hi1 : (i : Int) < (((ba s).size : Nat) : Int) := by omega
      have hcv := ba_get s HB.out i hil
      by_cases hlt : i < m
      · have hne := HPre.out i (by rw [← HM.out]; exact hlt)
        obtain ⟨ch, hch⟩ : ∃ ch : Int, ch = s.getD i 0 := ⟨_, rfl⟩
        rw [← hch] at hcv hne
        have h1 : (ch == c) = false := beq_eq_false_iff_ne.2 hne
        clear hch hne hsz
        go_wp2
        go_roundw
        case rel => exact ⟨i + 1, by omega, rfl, by go_num, trivial⟩
        case measure => simp [intOf]; omega
      · obtain rfl : i = m := by omega
        rw [hat] at hcv
        have hi3 : (0 : Int) ≤ (i : Int) + 1 := by omega
        have hi4 : (i : Int) + 1 ≤ (((ba s).size : Nat) : Int) := by omega
        have hi5 : (i : Int) ≤ (((ba s).size : Nat) : Int) := by omega
        have hi6 := wr64 ((i : Int) + 1) (by omega) (by omega)
        have hi7 : ((i : Int) + 1).toNat = i + 1 := by omega
        clear hsz
        go_upto_region 5 with fail
        refine wp_region_held_drew (S := fun w' => True) (by kernel_rfl) ?_ (fun hHeld0 => ?_)
        · trivial
        refine wpAnyH_take (i := 0) (oi := _) (v := ?_) rfl (by kernel_rfl) (by kernel_rfl) (by kernel_rfl) (fun _ _ _ h => h) (Or.inl ⟨by rfl, ?_⟩) (by assumption) ?_
        rotate_left 1
        · (intro w hSw; (try dsimp only at hSw); (try simp only [List.getElem_toArray, List.getElem_cons_succ, List.getElem_cons_zero]); first | (go_simp; done) | (go_simp; with_reducible rfl))
        (try simp only [Act.put, List.setIfInBounds_toArray, List.set_cons_zero, List.set_cons_succ, List.getElem_toArray, List.getElem_cons_succ, List.getElem_cons_zero])
        refine wpAnyH_take (i := 1) (oi := _) (v := ?_) rfl (by kernel_rfl) (by kernel_rfl) (by kernel_rfl) (fun _ _ _ h => h) (Or.inl ⟨by rfl, ?_⟩) (by assumption) ?_
        rotate_left 1
        · (intro w hSw; (try dsimp only at hSw); (try simp only [List.getElem_toArray, List.getElem_cons_succ, List.getElem_cons_zero]); first | (go_simp; done) | (go_simp; with_reducible rfl))
        (try simp only [Act.put, List.setIfInBounds_toArray, List.set_cons_zero, List.set_cons_succ, List.getElem_toArray, List.getElem_cons_succ, List.getElem_cons_zero])
        refine wpAnyH_take (i := 2) (oi := _) (v := ?_) rfl (by kernel_rfl) (by kernel_rfl) (by kernel_rfl) (fun _ _ _ h => h) (Or.inl ⟨by rfl, ?_⟩) (by assumption) ?_
        rotate_left 1
        · (intro w hSw; (try dsimp only at hSw); (try simp only [List.getElem_toArray, List.getElem_cons_succ, List.getElem_cons_zero]); first | (go_simp; done) | (go_simp; with_reducible rfl))
        (try simp only [Act.put, List.setIfInBounds_toArray, List.set_cons_zero, List.set_cons_succ, List.getElem_toArray, List.getElem_cons_succ, List.getElem_cons_zero])
        refine wpAnyH_take (i := 4) (oi := _) (v := ?_) rfl (by kernel_rfl) (by kernel_rfl) (by kernel_rfl) (fun _ _ _ h => h) (Or.inl ⟨by rfl, ?_⟩) (by assumption) ?_
        rotate_left 1
        · (intro w hSw; (try dsimp only at hSw); (try simp only [List.getElem_toArray, List.getElem_cons_succ, List.getElem_cons_zero]); first | (go_simp; done) | (go_simp; with_reducible rfl))
        (try simp only [Act.put, List.setIfInBounds_toArray, List.set_cons_zero, List.set_cons_succ, List.getElem_toArray, List.getElem_cons_succ, List.getElem_cons_zero])
        refine wpAnyH_take (i := 5) (oi := _) (v := ?_) rfl (by kernel_rfl) (by kernel_rfl) (by kernel_rfl) (fun _ _ _ h => h) (Or.inl ⟨by rfl, ?_⟩) (by assumption) ?_
        rotate_left 1
        · (intro w hSw; (try dsimp only at hSw); (try simp only [List.getElem_toArray, List.getElem_cons_succ, List.getElem_cons_zero]); first | (go_simp; done) | (go_simp; with_reducible rfl))
        (try simp only [Act.put, List.setIfInBounds_toArray, List.set_cons_zero, List.set_cons_succ, List.getElem_toArray, List.getElem_cons_succ, List.getElem_cons_zero])
        refine wpAnyH_take (i := 6) (oi := _) (v := ?_) rfl (by kernel_rfl) (by kernel_rfl) (by kernel_rfl) (fun _ _ _ h => h) (Or.inl ⟨by rfl, ?_⟩) (by assumption) ?_
        rotate_left 1
        · (intro w hSw; (try dsimp only at hSw); (try simp only [List.getElem_toArray, List.getElem_cons_succ, List.getElem_cons_zero]); first | (go_simp; done) | (go_simp; with_reducible rfl))
        (try simp only [Act.put, List.setIfInBounds_toArray, List.set_cons_zero, List.set_cons_succ, List.getElem_toArray, List.getElem_cons_succ, List.getElem_cons_zero])
        refine wpAnyH_take (i := 7) (oi := _) (v := ?_) rfl (by kernel_rfl) (by kernel_rfl) (by kernel_rfl) (fun _ _ _ h => h) (Or.inl ⟨by rfl, ?_⟩) (by assumption) ?_
        rotate_left 1
        · (intro w hSw; (try dsimp only at hSw); (try simp only [List.getElem_toArray, List.getElem_cons_succ, List.getElem_cons_zero]); first | (go_simp; done) | (go_simp; with_reducible rfl))
        (try simp only [Act.put, List.setIfInBounds_toArray, List.set_cons_zero, List.set_cons_succ, List.getElem_toArray, List.getElem_cons_succ, List.getElem_cons_zero])
        refine wpAnyH_take (i := 8) (oi := _) (v := ?_) rfl (by kernel_rfl) (by kernel_rfl) (by kernel_rfl) (fun _ _ _ h => h) (Or.inl ⟨by rfl, ?_⟩) (by assumption) ?_
        rotate_left 1
        · (intro w hSw; (try dsimp only at hSw); (try simp only [List.getElem_toArray, List.getElem_cons_succ, List.getElem_cons_zero]); first | (go_simp; done) | (go_simp; with_reducible rfl))
        (try simp only [Act.put, List.setIfInBounds_toArray, List.set_cons_zero, List.set_cons_succ, List.getElem_toArray, List.getElem_cons_succ, List.getElem_cons_zero])
        refine wpAnyH_ready (rs := [3, 9]) (by kernel_rfl) (by simp) (AllReadyH.cons rfl (fun K hK => ?_) (AllReadyH.cons rfl (fun K hK => ?_) AllReadyH.nil))
        · go_simp
          refine hK.out _ _ ?_ (fun hHeld1 => ?_)
          · trivial
          clear hK K hHeld0
          (try simp only [Act.put, List.setIfInBounds_toArray, List.set_cons_zero, List.set_cons_succ, List.getElem_toArray, List.getElem_cons_succ, List.getElem_cons_zero])
          refine wpAnyH_ready (rs := [9]) (by kernel_rfl) (by simp) (AllReadyH.cons rfl (fun K hK => ?_) AllReadyH.nil)
          · go_simp
            go_wp2_with (first
              | (go_at_call 122; (with_reducible refine (HIH.out r.length (by omega) r rfl HBr.out (by omega) _).mono ?_); rintro e w1 ⟨vr, rfl, hvr, hb1⟩))
            refine hK.out _ _ ?_ (fun hHeld2 => ?_)
            · trivial
            clear hK K hHeld1
            (try simp only [Act.put, List.setIfInBounds_toArray, List.set_cons_zero, List.set_cons_succ, List.getElem_toArray, List.getElem_cons_succ, List.getElem_cons_zero])
            refine wpAnyH_ready (rs := [10]) (by kernel_rfl) (by simp) (AllReadyH.cons rfl (fun K hK => ?_) AllReadyH.nil)
            · have hB1 := below_via (w := w) (by repeat' (first | (with_reducible exact Below.refl _ _) | (with_reducible assumption) | (with_reducible refine Below.alloc ?_ ?_ _) | (with_reducible refine Below.drew ?_) | (with_reducible refine below_drewN ?_ _) | (with_reducible refine Below.setCell ?_ ?_ _) | (with_reducible refine below_setRow' ?_ ?_ _) | go_size)) hb1
              have hS1 : w.heap.size ≤ w1.heap.size := hB1.size
              have hv2 := hvr
              obtain ⟨g2, cap2, rfl, hg2, hg2l, hm2, hc2, hcell2, hfr2⟩ := owns_cells hvr (hpos r)
              have hr0 := owns_below (owns_new w w.heap.size 9 #[.string (ba p)] 1 rfl (by omega) (Nat.le_refl _) _ rfl) (fun g hg => hb1.block g hg)
              refine wp_append_lies _ (.tmp 19) (.tmp 25) 104 (by rfl) w.heap.size 9 i0 (.string ⟨#[]⟩) 1 16 Tryd.underlying104 hi0' hz0 hz1 hz2 rfl (by decide) _ 1 [.string (ba p)] (by rfl) hr0 ⟨g2, 0, none⟩ (spl c r).length cap2 (sv (spl c r)) (by rfl) (by rw [sv_len]; omega) (hv2.cells rfl) (sv_one _) (hpos r) (by unfold maxLen; omega) (by omega) (by first | exact hS1 | (simp; omega)) _ rfl ?_
              intro g cap wF hownF hgrow hat9 hlt9
              refine hK.out _ _ ?_ (fun hHeld3 => ?_)
              · trivial
              clear hK K hHeld2
              (try simp only [Act.put, List.setIfInBounds_toArray, List.set_cons_zero, List.set_cons_succ, List.getElem_toArray, List.getElem_cons_succ, List.getElem_cons_zero])
              refine wpAnyH_take (i := 11) (oi := _) (v := ?_) rfl (by kernel_rfl) (by kernel_rfl) (by kernel_rfl) (fun _ _ _ h => h) (Or.inl ⟨by rfl, ?_⟩) (by assumption) ?_
              rotate_left 1
              · (intro w hSw; (try dsimp only at hSw); (try simp only [List.getElem_toArray, List.getElem_cons_succ, List.getElem_cons_zero]); first | (go_simp; done) | (go_simp; with_reducible rfl))
              (try simp only [Act.put, List.setIfInBounds_toArray, List.set_cons_zero, List.set_cons_succ, List.getElem_toArray, List.getElem_cons_succ, List.getElem_cons_zero])
              refine wpAnyH_done (by kernel_rfl) ?_ _
              have hBF : Below w.heap.size w wF := Below.grown (by first | exact hB1 | exact hB1.alloc (by omega) _) hgrow (by first | exact hS1 | (simp; omega)) (fun j e => by have := ownBlock_ge hr0 e; omega)
              rw [Nat.add_comm] at hownF
              clear hgrow hr0 hvr hv2
              go_wp2
              go_ret
              exact ⟨_, rfl, by rw [Nat.add_comm]; exact hownF, hBF⟩
        · go_simp
          go_wp2_with (first
            | (go_at_call 122; (with_reducible refine (HIH.out r.length (by omega) r rfl HBr.out (by omega) _).mono ?_); rintro e w1 ⟨vr, rfl, hvr, hb1⟩))
          refine hK.out _ _ ?_ (fun hHeld1 => ?_)
          · trivial
          clear hK K hHeld0
          (try simp only [Act.put, List.setIfInBounds_toArray, List.set_cons_zero, List.set_cons_succ, List.getElem_toArray, List.getElem_cons_succ, List.getElem_cons_zero])
          refine wpAnyH_ready (rs := [3]) (by kernel_rfl) (by simp) (AllReadyH.cons rfl (fun K hK => ?_) AllReadyH.nil)
          · go_simp
            refine hK.out _ _ ?_ (fun hHeld2 => ?_)
            · trivial
            clear hK K hHeld1
            (try simp only [Act.put, List.setIfInBounds_toArray, List.set_cons_zero, List.set_cons_succ, List.getElem_toArray, List.getElem_cons_succ, List.getElem_cons_zero])
            refine wpAnyH_ready (rs := [10]) (by kernel_rfl) (by simp) (AllReadyH.cons rfl (fun K hK => ?_) AllReadyH.nil)
            · have hB1 := below_via (w := w) (by repeat' (first | (with_reducible exact Below.refl _ _) | (with_reducible assumption) | (with_reducible refine Below.alloc ?_ ?_ _) | (with_reducible refine Below.drew ?_) | (with_reducible refine below_drewN ?_ _) | (with_reducible refine Below.setCell ?_ ?_ _) | (with_reducible refine below_setRow' ?_ ?_ _) | go_size)) hb1
              have hS1 : w.heap.size ≤ w1.heap.size := hB1.size
              have hv2 := hvr.alloc (.cells #[.string (ba p)] 9)
              obtain ⟨g2, cap2, rfl, hg2, hg2l, hm2, hc2, hcell2, hfr2⟩ := owns_cells hvr (hpos r)
              have hr0 := owns_new w1 w.heap.size 9 #[.string (ba p)] 1 rfl (by omega) hS1 _ rfl
              refine wp_append_lies _ (.tmp 19) (.tmp 25) 104 (by rfl) w.heap.size 9 i0 (.string ⟨#[]⟩) 1 16 Tryd.underlying104 hi0' hz0 hz1 hz2 rfl (by decide) _ 1 [.string (ba p)] (by rfl) hr0 ⟨g2, 0, none⟩ (spl c r).length cap2 (sv (spl c r)) (by rfl) (by rw [sv_len]; omega) (hv2.cells rfl) (sv_one _) (hpos r) (by unfold maxLen; omega) (by omega) (by first | exact hS1 | (simp; omega)) _ rfl ?_
              intro g cap wF hownF hgrow hat9 hlt9
              refine hK.out _ _ ?_ (fun hHeld3 => ?_)
              · trivial
              clear hK K hHeld2
              (try simp only [Act.put, List.setIfInBounds_toArray, List.set_cons_zero, List.set_cons_succ, List.getElem_toArray, List.getElem_cons_succ, List.getElem_cons_zero])
              refine wpAnyH_take (i := 11) (oi := _) (v := ?_) rfl (by kernel_rfl) (by kernel_rfl) (by kernel_rfl) (fun _ _ _ h => h) (Or.inl ⟨by rfl, ?_⟩) (by assumption) ?_
              rotate_left 1
              · (intro w hSw; (try dsimp only at hSw); (try simp only [List.getElem_toArray, List.getElem_cons_succ, List.getElem_cons_zero]); first | (go_simp; done) | (go_simp; with_reducible rfl))
              (try simp only [Act.put, List.setIfInBounds_toArray, List.set_cons_zero, List.set_cons_succ, List.getElem_toArray, List.getElem_cons_succ, List.getElem_cons_zero])
              refine wpAnyH_done (by kernel_rfl) ?_ _
              have hBF : Below w.heap.size w wF := Below.grown (by first | exact hB1 | exact hB1.alloc (by omega) _) hgrow (by first | exact hS1 | (simp; omega)) (fun j e => by have := ownBlock_ge hr0 e; omega)
              rw [Nat.add_comm] at hownF
              clear hgrow hr0 hvr hv2
              go_wp2
              go_ret
              exact ⟨_, rfl, by rw [Nat.add_comm]; exact hownF, hBF⟩
end Go.Proofs.YtmlkcgacneealaaDoor
set_option linter.unusedVariables false
set_option linter.unusedSimpArgs false
namespace Go.Proofs.YtmlkcgacneealaaDoor
open Go.RowKit

/-- The digit's value that the loop over the digits finds among the first k. -/
def dk (c : Int) : Nat → Int
  | 0 => -1
  | k + 1 => if c = dig (k : Int) ∨ (9 < k ∧ c = dig (k : Int) - 32) then (k : Int) else dk c k
theorem dkF16 : ∀ x : Fin 256, dk ((x.val : Nat) : Int) 16 = if hxd ((x.val : Nat) : Int) = true then hval ((x.val : Nat) : Int) else -1 := by decide +kernel
theorem dkF10 : ∀ x : Fin 256, dk ((x.val : Nat) : Int) 10 = if isd ((x.val : Nat) : Int) = true then hval ((x.val : Nat) : Int) else -1 := by decide +kernel
theorem dk16 (c : Int) (h : 0 ≤ c ∧ c < 256) : dk c 16 = if hxd c = true then hval c else -1 := by
  have := dkF16 ⟨c.toNat, by omega⟩
  rw [show ((c.toNat : Nat) : Int) = c by omega] at this
  exact this
theorem dk10 (c : Int) (h : 0 ≤ c ∧ c < 256) : dk c 10 = if isd c = true then hval c else -1 := by
  have := dkF10 ⟨c.toNat, by omega⟩
  rw [show ((c.toNat : Nat) : Int) = c by omega] at this
  exact this
theorem digF : ∀ x : Fin 16, ((((⟨#[48, 49, 50, 51, 52, 53, 54, 55, 56, 57, 97, 98, 99, 100, 101, 102]⟩ : ByteArray)).data[x.val]!).toNat : Int) = dig ((x.val : Nat) : Int) ∧ 48 ≤ dig ((x.val : Nat) : Int) ∧ dig ((x.val : Nat) : Int) < 256 := by decide +kernel
theorem dig_get (k : Nat) (h : k < ((⟨#[48, 49, 50, 51, 52, 53, 54, 55, 56, 57, 97, 98, 99, 100, 101, 102]⟩ : ByteArray)).size) : ((((⟨#[48, 49, 50, 51, 52, 53, 54, 55, 56, 57, 97, 98, 99, 100, 101, 102]⟩ : ByteArray))[k]'h).toNat : Int) = dig (k : Int) := by
  have := (digF ⟨k, h⟩).1
  rw [← this]
  congr 1
  rw [getElem!_pos _ k h]; rfl
/-- The number of the first digits. -/
def nu (B : Int) (s : List Int) (i : Nat) : Int := (s.take i).foldl (fun a c => a * B + hval c) 0
theorem nu_succ (B : Int) (s : List Int) (i : Nat) (h : i < s.length) : nu B s (i + 1) = nu B s i * B + hval (s.getD i 0) := by
  unfold nu
  rw [List.take_add_one, List.getElem?_eq_getElem h]
  simp only [Option.toList_some, List.foldl_append, List.foldl_cons, List.foldl_nil]
  rw [List.getD_eq_getElem?_getD, List.getElem?_eq_getElem h]
  rfl
/-- What number hands back. -/
def numV (o : Option Int) : Value := .tuple #[.int .i64 (o.getD 0), .bool o.isSome]
theorem numB_some (B : Int) (ok : Int → Bool) (m : Nat) (s : List Int) (h0 : s ≠ []) (h1 : s.length ≤ m) (h2 : ∀ j, j < s.length → ok (s.getD j 0) = true) : numB B ok m s = some (nu B s s.length) := by
  unfold numB nu
  rw [if_pos ⟨h0, h1, List.all_eq_true.2 (fun x hx => by
    obtain ⟨j, hj, rfl⟩ := List.mem_iff_getElem.1 hx
    have := h2 j hj
    rwa [List.getD_eq_getElem?_getD, List.getElem?_eq_getElem hj, Option.getD_some] at this)⟩, List.take_length]
theorem numB_bad (B : Int) (ok : Int → Bool) (m : Nat) (s : List Int) (j : Nat) (hj : j < s.length) (h : ok (s.getD j 0) = false) : numB B ok m s = none := by
  unfold numB
  rw [if_neg]
  rintro ⟨_, _, k⟩
  have := List.all_eq_true.1 k (s.getD j 0) (by rw [List.getD_eq_getElem?_getD, List.getElem?_eq_getElem hj]; exact List.getElem_mem hj)
  rw [h] at this; cases this
theorem numB_long (B : Int) (ok : Int → Bool) (m : Nat) (s : List Int) (h : m < s.length) : numB B ok m s = none := by
  unfold numB
  rw [if_neg]
  rintro ⟨_, k, _⟩; omega
theorem ba_ne (s : List Int) (h : s ≠ []) : ba s ≠ ⟨#[]⟩ := fun e => by
  have := congrArg ByteArray.size e
  rw [ba_size] at this
  exact h (List.length_eq_zero_iff.1 this)
theorem ba_emp (s : List Int) : (ba s).toList.isEmpty = s.isEmpty := by
  rw [ByteArray.toList_eq]
  cases s with
  | nil => rfl
  | cons a s => simp [ba]
theorem ba_neq (s : List Int) (h : s ≠ []) : (ba s).toList.isEmpty = false := by
  rw [ba_emp]
  cases s with
  | nil => exact absurd rfl h
  | cons a s => rfl
set_option maxHeartbeats 4000000 in
set_option maxRecDepth 100000 in
theorem snum16 (s : List Int) (hB : By s) (hs : s.length ≤ 1048576) (w : World) : Calls Tryd.prog 175 #[.string (ba s), .int .i64 16, .int .i64 4] w fun e w' => e = .returned (numV (numB 16 hxd 4 s)) ∧ Below w.heap.size w w' := by
  have HSz := Lib.hid (ba_size s)
  have HB := Lib.hid hB
  have hsm : (((ba s).size : Nat) : Int) ≤ 1048576 := by rw [ba_size]; omega
  clear hB
  go_enter Tryd.func175, Tryd.ntmps175
  go_wp2
  go_loopw [6, 7, 8, 9, 10, 11, 14] (fun v6 v7 v8 v9 v10 v11 v14 wr => ∃ i : Nat, i ≤ s.length ∧ i ≤ 4 ∧ (∀ j, j < i → hxd (s.getD j 0) = true) ∧ 0 ≤ nu 16 s i ∧ nu 16 s i < 16 ^ i ∧ v6 = .int .i64 0 ∧ v7 = .bool false ∧ v8 = .int .i64 (nu 16 s i) ∧ v14 = .int .i64 (i : Int) ∧ Below w.heap.size w wr) (fun _ _ _ _ _ _ v14 _ => s.length - (intOf v14).toNat)
  case atStart => exact ⟨0, by omega, by omega, fun j hj => absurd hj (by omega), by simp [nu], by simp [nu], rfl, rfl, rfl, rfl, Below.refl _ _⟩
  case round =>
    obtain ⟨i, hi, hiM, hok, hn0, hn1, rfl, rfl, rfl, rfl, hbw⟩ := hrel
    have hS0 := hbw.size
    have hsz := HSz.out
    have HOk := Lib.hid hok
    have hi0 : (0 : Int) ≤ (i : Int) := by omega
    obtain ⟨n, hn⟩ : ∃ n : Int, n = nu 16 s i := ⟨_, rfl⟩
    have HN := Lib.hid hn
    rw [← hn] at hn0 hn1
    rw [← hn]
    have HN1 := Lib.hid hn1
    have hpw : (16 : Int) ^ i ≤ 65536 := by
      match i, hiM with
      | 0, _ => decide
      | 1, _ => decide
      | 2, _ => decide
      | 3, _ => decide
      | 4, _ => decide
      | j + 5, h => omega
    have hn2 : n < 65536 := by omega
    clear hok hn hn1 hpw
    by_cases hlt : i < s.length
    · have hil : i < (ba s).size := by omega
      have hi1 : (i : Int) < (((ba s).size : Nat) : Int) := by omega
      have hcv := ba_get s HB.out i hil
      have hbc := HB.out (s.getD i 0) (by rw [List.getD_eq_getElem?_getD, List.getElem?_eq_getElem hlt]; exact List.getElem_mem hlt)
      obtain ⟨ch, hch⟩ : ∃ ch : Int, ch = s.getD i 0 := ⟨_, rfl⟩
      rw [← hch] at hcv hbc
      have HCh := Lib.hid hch
      clear hch hsz
      go_upto_block 2 with fail
      go_cut [10, 11, 18] (fun v10 v11 v18 wx => v10 = .int .i64 (dk ch 16) ∧ Below w.heap.size w wx)
      case first => as_aux_lemma =>
        go_wp2_with fail
        go_loopw [10, 11, 18] (fun v10 v11 v18 wq => ∃ k : Nat, k ≤ 16 ∧ v10 = .int .i64 (dk ch k) ∧ v18 = .int .i64 (k : Int) ∧ Below w.heap.size w wq) (fun _ _ v18 _ => 16 - (intOf v18).toNat)
        case atStart => exact ⟨0, by omega, rfl, rfl, hbw⟩
        case round =>
          clear hbw
          obtain ⟨k, hk, rfl, rfl, hbw⟩ := hrel
          have hS0 := hbw.size
          have hk0 : (0 : Int) ≤ (k : Int) := by omega
          obtain ⟨D, hD⟩ : ∃ D : Int, D = dk ch k := ⟨_, rfl⟩
          rw [← hD]
          by_cases hk2 : k < 16
          · have hk1 : (k : Int) < 16 := by omega
            have hk3 : (k : Int) < 16 := by omega
            have hks : k < ((⟨#[48, 49, 50, 51, 52, 53, 54, 55, 56, 57, 97, 98, 99, 100, 101, 102]⟩ : ByteArray)).size := by show k < 16; omega
            have hdg := dig_get k hks
            have hdr := (digF ⟨k, by omega⟩).2
            dsimp only at hdr
            obtain ⟨g, hg⟩ : ∃ g : Int, g = dig (k : Int) := ⟨_, rfl⟩
            have HDK := Lib.hid (show dk ch (k + 1) = if ch = g ∨ (9 < k ∧ ch = g - 32) then (k : Int) else D by rw [dk, hg, hD])
            rw [← hg] at hdg hdr
            obtain ⟨hd0, hd1⟩ := hdr
            have hd2 : (0 : Int) ≤ g - 32 := by omega
            have hd3 : g - 32 < 256 := by omega
            clear hg hD
            go_upto_region 9 with fail
            go_cut [39] from 21 to 39 (fun v39 wx => v39 = .bool (decide (ch = g ∨ (9 < k ∧ ch = g - 32))) ∧ Below w.heap.size w wx)
            case first =>
              by_cases c1 : ch = g
              · have e1 : (ch == g) = true := beq_iff_eq.2 c1
                have HD := Lib.hid (decide_eq_true (show ch = g ∨ (9 < k ∧ ch = g - 32) from Or.inl c1))
                clear HDK c1
                go_quiet (fail)
                go_wp2
                go_meet
                exact ⟨by rw [HD.out], (by repeat' (first | (with_reducible exact Below.refl _ _) | (with_reducible assumption) | (with_reducible refine Below.alloc ?_ ?_ _) | (with_reducible refine Below.drew ?_) | (with_reducible refine below_drewN ?_ _) | (with_reducible refine Below.setCell ?_ ?_ _) | (with_reducible refine below_setRow' ?_ ?_ _) | go_size))⟩
              · have e1 : (ch == g) = false := beq_eq_false_iff_ne.2 c1
                by_cases c2 : 9 < k
                · have e2 : (9 : Int) < (k : Int) := by omega
                  by_cases c3 : ch = g - 32
                  · have e3 : (ch == g - 32) = true := beq_iff_eq.2 c3
                    have HD := Lib.hid (decide_eq_true (show ch = g ∨ (9 < k ∧ ch = g - 32) from Or.inr ⟨c2, c3⟩))
                    clear HDK c1 c3
                    go_quiet (fail)
                    go_wp2
                    go_meet
                    exact ⟨by rw [HD.out], (by repeat' (first | (with_reducible exact Below.refl _ _) | (with_reducible assumption) | (with_reducible refine Below.alloc ?_ ?_ _) | (with_reducible refine Below.drew ?_) | (with_reducible refine below_drewN ?_ _) | (with_reducible refine Below.setCell ?_ ?_ _) | (with_reducible refine below_setRow' ?_ ?_ _) | go_size))⟩
                  · have e3 : (ch == g - 32) = false := beq_eq_false_iff_ne.2 c3
                    have HD := Lib.hid (decide_eq_false (show ¬ (ch = g ∨ (9 < k ∧ ch = g - 32)) from fun h => by omega))
                    clear HDK c1 c3
                    go_quiet (fail)
                    go_wp2
                    go_meet
                    exact ⟨by rw [HD.out], (by repeat' (first | (with_reducible exact Below.refl _ _) | (with_reducible assumption) | (with_reducible refine Below.alloc ?_ ?_ _) | (with_reducible refine Below.drew ?_) | (with_reducible refine below_drewN ?_ _) | (with_reducible refine Below.setCell ?_ ?_ _) | (with_reducible refine below_setRow' ?_ ?_ _) | go_size))⟩
                · have e2 : ¬ ((9 : Int) < (k : Int)) := by omega
                  have HD := Lib.hid (decide_eq_false (show ¬ (ch = g ∨ (9 < k ∧ ch = g - 32)) from fun h => by omega))
                  clear HDK c1
                  go_quiet (fail)
                  go_wp2
                  go_meet
                  exact ⟨by rw [HD.out], (by repeat' (first | (with_reducible exact Below.refl _ _) | (with_reducible assumption) | (with_reducible refine Below.alloc ?_ ?_ _) | (with_reducible refine Below.drew ?_) | (with_reducible refine below_drewN ?_ _) | (with_reducible refine Below.setCell ?_ ?_ _) | (with_reducible refine below_setRow' ?_ ?_ _) | go_size))⟩
            case rest =>
              clear hbw hS0
              obtain ⟨rfl, hbw⟩ := hcut
              have hS0 := hbw.size
              by_cases c : ch = g ∨ (9 < k ∧ ch = g - 32)
              · rw [decide_eq_true c]
                have HD := Lib.hid (show dk ch (k + 1) = (k : Int) by rw [HDK.out, if_pos c])
                clear HDK c
                go_wp2
                go_roundw
                case rel => exact ⟨k + 1, by omega, by rw [HD.out], by go_num, hbw⟩
                case measure => simp [intOf]; omega
              · rw [decide_eq_false c]
                have HD := Lib.hid (show dk ch (k + 1) = D by rw [HDK.out, if_neg c])
                clear HDK c
                go_wp2
                go_roundw
                case rel => exact ⟨k + 1, by omega, by rw [HD.out], by go_num, hbw⟩
                case measure => simp [intOf]; omega
          · have hk1 : ¬ ((k : Int) < 16) := by omega
            obtain rfl : k = 16 := by omega
            clear hk0
            go_wp2
            go_meet
            exact ⟨rfl, hbw⟩
      case rest =>
        clear hbw hS0
        obtain ⟨rfl, hbw⟩ := hcut
        have hS0 := hbw.size
        rw [dk16 ch hbc]
        by_cases hx : hxd ch = true
        · rw [if_pos hx]
          have hv := hval_lt ch hx
          obtain ⟨d, hd⟩ : ∃ d : Int, d = hval ch := ⟨_, rfl⟩
          rw [← hd] at hv ⊢
          obtain ⟨hv0, hv1⟩ := hv
          have e1 : ¬ (d < 0) := by omega
          by_cases c : i < 4
          · have e2 : ¬ ((4 : Int) ≤ (i : Int)) := by omega
            have hdb : d < 16 := by rw [hd]; omega
            have hlt2 : n * 16 + d < 16 ^ (i + 1) := by
              have := HN1.out
              rw [Int.pow_succ]; omega
            have hpw : (16 : Int) ^ (i + 1) ≤ 65536 := by
              match i, c with
              | 0, _ => decide
              | 1, _ => decide
              | 2, _ => decide
              | 3, _ => decide
              | j + 4, h => omega
            have e3 : 0 ≤ n * 16 + d := by omega
            have e4 : n * 16 + d ≤ 9223372036854775807 := by omega
            have e5 : n * 16 ≤ 9223372036854775807 := by omega
            have e6 : 0 ≤ n * 16 := by omega
            have HR := Lib.hid (show nu 16 s (i + 1) = n * 16 + d ∧ n * 16 + d < 16 ^ (i + 1) ∧ ∀ j, j < i + 1 → hxd (s.getD j 0) = true from ⟨by rw [nu_succ _ _ _ hlt, ← HN.out, ← HCh.out, hd], hlt2, fun j hj => by
              by_cases q : j = i
              · rw [q, ← HCh.out]; exact hx
              · exact HOk.out j (by omega)⟩)
            clear hlt2 hpw hx hd
            go_wp2
            go_roundw
            case rel => exact ⟨i + 1, by omega, by omega, HR.out.2.2, by rw [HR.out.1]; exact e3, by rw [HR.out.1]; exact HR.out.2.1, rfl, rfl, by rw [HR.out.1], by go_num, hbw⟩
            case measure => simp [intOf]; omega
          · have e2 : ((4 : Int) ≤ (i : Int)) := by omega
            have HR := Lib.hid (numB_long 16 hxd 4 s (by omega))
            clear hx hd
            go_wp2
            go_ret2
            exact ⟨by rw [HR.out]; rfl, hbw⟩
        · rw [if_neg hx]
          have HR := Lib.hid (numB_bad 16 hxd 4 s i hlt (by rw [← HCh.out]; simpa using hx))
          clear hx
          go_wp2
          go_ret2
          exact ⟨by rw [HR.out]; rfl, hbw⟩
    · have hi1 : ¬ ((i : Int) < (((ba s).size : Nat) : Int)) := by omega
      obtain rfl : i = s.length := by omega
      by_cases h0 : s = []
      · subst h0
        have hem : (ba []).toList.isEmpty = true := ba_emp []
        have hnz : n = 0 := HN.out
        subst hnz
        clear hsz
        go_wp2
        go_ret2
        exact ⟨by rw [numB_nil]; rfl, hbw⟩
      · have hne := ba_neq s h0
        have HR := Lib.hid (show numB 16 hxd 4 s = some n by rw [numB_some 16 hxd 4 s h0 (by omega) HOk.out, ← HN.out])
        clear hsz h0
        go_wp2
        go_ret2
        exact ⟨by rw [HR.out]; rfl, hbw⟩
set_option maxHeartbeats 4000000 in
set_option maxRecDepth 100000 in
theorem snum10 (s : List Int) (hB : By s) (hs : s.length ≤ 1048576) (w : World) : Calls Tryd.prog 175 #[.string (ba s), .int .i64 10, .int .i64 3] w fun e w' => e = .returned (numV (numB 10 isd 3 s)) ∧ Below w.heap.size w w' := by
  have HSz := Lib.hid (ba_size s)
  have HB := Lib.hid hB
  have hsm : (((ba s).size : Nat) : Int) ≤ 1048576 := by rw [ba_size]; omega
  clear hB
  go_enter Tryd.func175, Tryd.ntmps175
  go_wp2
  go_loopw [6, 7, 8, 9, 10, 11, 14] (fun v6 v7 v8 v9 v10 v11 v14 wr => ∃ i : Nat, i ≤ s.length ∧ i ≤ 3 ∧ (∀ j, j < i → isd (s.getD j 0) = true) ∧ 0 ≤ nu 10 s i ∧ nu 10 s i < 10 ^ i ∧ v6 = .int .i64 0 ∧ v7 = .bool false ∧ v8 = .int .i64 (nu 10 s i) ∧ v14 = .int .i64 (i : Int) ∧ Below w.heap.size w wr) (fun _ _ _ _ _ _ v14 _ => s.length - (intOf v14).toNat)
  case atStart => exact ⟨0, by omega, by omega, fun j hj => absurd hj (by omega), by simp [nu], by simp [nu], rfl, rfl, rfl, rfl, Below.refl _ _⟩
  case round =>
    obtain ⟨i, hi, hiM, hok, hn0, hn1, rfl, rfl, rfl, rfl, hbw⟩ := hrel
    have hS0 := hbw.size
    have hsz := HSz.out
    have HOk := Lib.hid hok
    have hi0 : (0 : Int) ≤ (i : Int) := by omega
    obtain ⟨n, hn⟩ : ∃ n : Int, n = nu 10 s i := ⟨_, rfl⟩
    have HN := Lib.hid hn
    rw [← hn] at hn0 hn1
    rw [← hn]
    have HN1 := Lib.hid hn1
    have hpw : (10 : Int) ^ i ≤ 1000 := by
      match i, hiM with
      | 0, _ => decide
      | 1, _ => decide
      | 2, _ => decide
      | 3, _ => decide
      | j + 4, h => omega
    have hn2 : n < 1000 := by omega
    clear hok hn hn1 hpw
    by_cases hlt : i < s.length
    · have hil : i < (ba s).size := by omega
      have hi1 : (i : Int) < (((ba s).size : Nat) : Int) := by omega
      have hcv := ba_get s HB.out i hil
      have hbc := HB.out (s.getD i 0) (by rw [List.getD_eq_getElem?_getD, List.getElem?_eq_getElem hlt]; exact List.getElem_mem hlt)
      obtain ⟨ch, hch⟩ : ∃ ch : Int, ch = s.getD i 0 := ⟨_, rfl⟩
      rw [← hch] at hcv hbc
      have HCh := Lib.hid hch
      clear hch hsz
      go_upto_block 2 with fail
      go_cut [10, 11, 18] (fun v10 v11 v18 wx => v10 = .int .i64 (dk ch 10) ∧ Below w.heap.size w wx)
      case first => as_aux_lemma =>
        go_wp2_with fail
        go_loopw [10, 11, 18] (fun v10 v11 v18 wq => ∃ k : Nat, k ≤ 10 ∧ v10 = .int .i64 (dk ch k) ∧ v18 = .int .i64 (k : Int) ∧ Below w.heap.size w wq) (fun _ _ v18 _ => 10 - (intOf v18).toNat)
        case atStart => exact ⟨0, by omega, rfl, rfl, hbw⟩
        case round =>
          clear hbw
          obtain ⟨k, hk, rfl, rfl, hbw⟩ := hrel
          have hS0 := hbw.size
          have hk0 : (0 : Int) ≤ (k : Int) := by omega
          obtain ⟨D, hD⟩ : ∃ D : Int, D = dk ch k := ⟨_, rfl⟩
          rw [← hD]
          by_cases hk2 : k < 10
          · have hk1 : (k : Int) < 10 := by omega
            have hk3 : (k : Int) < 16 := by omega
            have hks : k < ((⟨#[48, 49, 50, 51, 52, 53, 54, 55, 56, 57, 97, 98, 99, 100, 101, 102]⟩ : ByteArray)).size := by show k < 16; omega
            have hdg := dig_get k hks
            have hdr := (digF ⟨k, by omega⟩).2
            dsimp only at hdr
            obtain ⟨g, hg⟩ : ∃ g : Int, g = dig (k : Int) := ⟨_, rfl⟩
            have HDK := Lib.hid (show dk ch (k + 1) = if ch = g ∨ (9 < k ∧ ch = g - 32) then (k : Int) else D by rw [dk, hg, hD])
            rw [← hg] at hdg hdr
            obtain ⟨hd0, hd1⟩ := hdr
            have hd2 : (0 : Int) ≤ g - 32 := by omega
            have hd3 : g - 32 < 256 := by omega
            clear hg hD
            go_upto_region 9 with fail
            go_cut [39] from 21 to 39 (fun v39 wx => v39 = .bool (decide (ch = g ∨ (9 < k ∧ ch = g - 32))) ∧ Below w.heap.size w wx)
            case first =>
              by_cases c1 : ch = g
              · have e1 : (ch == g) = true := beq_iff_eq.2 c1
                have HD := Lib.hid (decide_eq_true (show ch = g ∨ (9 < k ∧ ch = g - 32) from Or.inl c1))
                clear HDK c1
                go_quiet (fail)
                go_wp2
                go_meet
                exact ⟨by rw [HD.out], (by repeat' (first | (with_reducible exact Below.refl _ _) | (with_reducible assumption) | (with_reducible refine Below.alloc ?_ ?_ _) | (with_reducible refine Below.drew ?_) | (with_reducible refine below_drewN ?_ _) | (with_reducible refine Below.setCell ?_ ?_ _) | (with_reducible refine below_setRow' ?_ ?_ _) | go_size))⟩
              · have e1 : (ch == g) = false := beq_eq_false_iff_ne.2 c1
                by_cases c2 : 9 < k
                · have e2 : (9 : Int) < (k : Int) := by omega
                  by_cases c3 : ch = g - 32
                  · have e3 : (ch == g - 32) = true := beq_iff_eq.2 c3
                    have HD := Lib.hid (decide_eq_true (show ch = g ∨ (9 < k ∧ ch = g - 32) from Or.inr ⟨c2, c3⟩))
                    clear HDK c1 c3
                    go_quiet (fail)
                    go_wp2
                    go_meet
                    exact ⟨by rw [HD.out], (by repeat' (first | (with_reducible exact Below.refl _ _) | (with_reducible assumption) | (with_reducible refine Below.alloc ?_ ?_ _) | (with_reducible refine Below.drew ?_) | (with_reducible refine below_drewN ?_ _) | (with_reducible refine Below.setCell ?_ ?_ _) | (with_reducible refine below_setRow' ?_ ?_ _) | go_size))⟩
                  · have e3 : (ch == g - 32) = false := beq_eq_false_iff_ne.2 c3
                    have HD := Lib.hid (decide_eq_false (show ¬ (ch = g ∨ (9 < k ∧ ch = g - 32)) from fun h => by omega))
                    clear HDK c1 c3
                    go_quiet (fail)
                    go_wp2
                    go_meet
                    exact ⟨by rw [HD.out], (by repeat' (first | (with_reducible exact Below.refl _ _) | (with_reducible assumption) | (with_reducible refine Below.alloc ?_ ?_ _) | (with_reducible refine Below.drew ?_) | (with_reducible refine below_drewN ?_ _) | (with_reducible refine Below.setCell ?_ ?_ _) | (with_reducible refine below_setRow' ?_ ?_ _) | go_size))⟩
                · have e2 : ¬ ((9 : Int) < (k : Int)) := by omega
                  have HD := Lib.hid (decide_eq_false (show ¬ (ch = g ∨ (9 < k ∧ ch = g - 32)) from fun h => by omega))
                  clear HDK c1
                  go_quiet (fail)
                  go_wp2
                  go_meet
                  exact ⟨by rw [HD.out], (by repeat' (first | (with_reducible exact Below.refl _ _) | (with_reducible assumption) | (with_reducible refine Below.alloc ?_ ?_ _) | (with_reducible refine Below.drew ?_) | (with_reducible refine below_drewN ?_ _) | (with_reducible refine Below.setCell ?_ ?_ _) | (with_reducible refine below_setRow' ?_ ?_ _) | go_size))⟩
            case rest =>
              clear hbw hS0
              obtain ⟨rfl, hbw⟩ := hcut
              have hS0 := hbw.size
              by_cases c : ch = g ∨ (9 < k ∧ ch = g - 32)
              · rw [decide_eq_true c]
                have HD := Lib.hid (show dk ch (k + 1) = (k : Int) by rw [HDK.out, if_pos c])
                clear HDK c
                go_wp2
                go_roundw
                case rel => exact ⟨k + 1, by omega, by rw [HD.out], by go_num, hbw⟩
                case measure => simp [intOf]; omega
              · rw [decide_eq_false c]
                have HD := Lib.hid (show dk ch (k + 1) = D by rw [HDK.out, if_neg c])
                clear HDK c
                go_wp2
                go_roundw
                case rel => exact ⟨k + 1, by omega, by rw [HD.out], by go_num, hbw⟩
                case measure => simp [intOf]; omega
          · have hk1 : ¬ ((k : Int) < 10) := by omega
            obtain rfl : k = 10 := by omega
            clear hk0
            go_wp2
            go_meet
            exact ⟨rfl, hbw⟩
      case rest =>
        clear hbw hS0
        obtain ⟨rfl, hbw⟩ := hcut
        have hS0 := hbw.size
        rw [dk10 ch hbc]
        by_cases hx : isd ch = true
        · rw [if_pos hx]
          have hv := hval_lt ch (isd_hx hx).1
          obtain ⟨d, hd⟩ : ∃ d : Int, d = hval ch := ⟨_, rfl⟩
          rw [← hd] at hv ⊢
          obtain ⟨hv0, hv1⟩ := hv
          have e1 : ¬ (d < 0) := by omega
          by_cases c : i < 3
          · have e2 : ¬ ((3 : Int) ≤ (i : Int)) := by omega
            have hdb : d < 10 := by rw [hd]; have h9 := (isd_hx hx).2; have h8 := hx; unfold isd at h8; simp only [decide_eq_true_eq] at h8; omega
            have hlt2 : n * 10 + d < 10 ^ (i + 1) := by
              have := HN1.out
              rw [Int.pow_succ]; omega
            have hpw : (10 : Int) ^ (i + 1) ≤ 1000 := by
              match i, c with
              | 0, _ => decide
              | 1, _ => decide
              | 2, _ => decide
              | j + 3, h => omega
            have e3 : 0 ≤ n * 10 + d := by omega
            have e4 : n * 10 + d ≤ 9223372036854775807 := by omega
            have e5 : n * 10 ≤ 9223372036854775807 := by omega
            have e6 : 0 ≤ n * 10 := by omega
            have HR := Lib.hid (show nu 10 s (i + 1) = n * 10 + d ∧ n * 10 + d < 10 ^ (i + 1) ∧ ∀ j, j < i + 1 → isd (s.getD j 0) = true from ⟨by rw [nu_succ _ _ _ hlt, ← HN.out, ← HCh.out, hd], hlt2, fun j hj => by
              by_cases q : j = i
              · rw [q, ← HCh.out]; exact hx
              · exact HOk.out j (by omega)⟩)
            clear hlt2 hpw hx hd
            go_wp2
            go_roundw
            case rel => exact ⟨i + 1, by omega, by omega, HR.out.2.2, by rw [HR.out.1]; exact e3, by rw [HR.out.1]; exact HR.out.2.1, rfl, rfl, by rw [HR.out.1], by go_num, hbw⟩
            case measure => simp [intOf]; omega
          · have e2 : ((3 : Int) ≤ (i : Int)) := by omega
            have HR := Lib.hid (numB_long 10 isd 3 s (by omega))
            clear hx hd
            go_wp2
            go_ret2
            exact ⟨by rw [HR.out]; rfl, hbw⟩
        · rw [if_neg hx]
          have HR := Lib.hid (numB_bad 10 isd 3 s i hlt (by rw [← HCh.out]; simpa using hx))
          clear hx
          go_wp2
          go_ret2
          exact ⟨by rw [HR.out]; rfl, hbw⟩
    · have hi1 : ¬ ((i : Int) < (((ba s).size : Nat) : Int)) := by omega
      obtain rfl : i = s.length := by omega
      by_cases h0 : s = []
      · subst h0
        have hem : (ba []).toList.isEmpty = true := ba_emp []
        have hnz : n = 0 := HN.out
        subst hnz
        clear hsz
        go_wp2
        go_ret2
        exact ⟨by rw [numB_nil]; rfl, hbw⟩
      · have hne := ba_neq s h0
        have HR := Lib.hid (show numB 10 isd 3 s = some n by rw [numB_some 10 isd 3 s h0 (by omega) HOk.out, ← HN.out])
        clear hsz h0
        go_wp2
        go_ret2
        exact ⟨by rw [HR.out]; rfl, hbw⟩
end Go.Proofs.YtmlkcgacneealaaDoor
set_option linter.unusedVariables false
set_option linter.unusedSimpArgs false
namespace Go.Proofs.YtmlkcgacneealaaDoor
open Go.RowKit

/-- A row of n bytes from o on. -/
def U8s (A : Array Value) (o : Nat) : Prop := ∀ j, j < 4 → ∃ v : Int, A[o + j]? = some (.int .u8 v)
theorem U8s_set {A : Array Value} {o : Nat} (h : U8s A o) (p : Nat) (hp : p < 4) (v : Int) : U8s (A.setIfInBounds (o + p) (.int .u8 v)) o := fun j hj => by
  by_cases c : j = p
  · subst c
    obtain ⟨u, hu⟩ := h j hj
    have hlt : o + j < A.size := (Array.getElem?_eq_some_iff.1 hu).1
    exact ⟨v, by rw [Array.getElem?_setIfInBounds_self_of_lt hlt]⟩
  · obtain ⟨u, hu⟩ := h j hj
    exact ⟨u, by rw [Array.getElem?_setIfInBounds_ne (by omega)]; exact hu⟩
theorem U8s_arr16 (f : Nat → Int) (i : Nat) (h : i + 4 ≤ 16) : U8s (arr16 f) i := fun j hj => ⟨f (i + j), arr16_byte f (i + j) (by omega)⟩
theorem drop_cons (s : List Int) (i : Nat) (h : i < s.length) : s.drop i = s.getD i 0 :: s.drop (i + 1) := by
  rw [List.drop_eq_getElem_cons h, List.getD_eq_getElem?_getD, List.getElem?_eq_getElem h]; rfl
set_option maxHeartbeats 4000000 in
set_option maxRecDepth 100000 in
theorem prs4e (s : List Int) (hB : By s) (hq : q4 s = none) (hs : s.length ≤ 1048576) (z : ByteArray) (k e : Nat) (hke : k ≤ e) (he : e ≤ z.size) (hz : z.extract k e = ba s) (hzs : (z.size : Int) ≤ 9223372036854775807) (gf o c : Nat) (hc : 4 ≤ c) (A : Array Value) (hA : U8s A o) (w : World) (hb : blk? w gf = some A) :
    Calls Tryd.prog 173 #[.string z, .int .i64 (k : Int), .int .i64 (e : Int), .slice (some ⟨gf, o, none⟩) 4 c] w fun en w' => (∃ p, en = .returned (.iface 124 p)) ∧ GX gf w w' := by
  have HB := Lib.hid hB
  have hk0 : (0 : Int) ≤ (k : Int) := by omega
  have hk1 : (k : Int) ≤ (e : Int) := by omega
  have hk2 : (e : Int) ≤ (z.size : Int) := by omega
  have HSz := Lib.hid (ba_size s)
  have HL := Lib.hid hs
  have hsm : (((ba s).size : Nat) : Int) ≤ 1048576 := by rw [ba_size]; omega
  clear hB hs
  go_enter Tryd.func173, Tryd.ntmps173
  go_wp2
  go_loopw [8, 9, 10, 11, 13] (fun v8 v9 v10 v11 v13 wr => ∃ (i p l : Nat) (v : Int) (d : Bool) (x : Nat → Int) (A' : Array Value), i ≤ s.length ∧ q4go (s.drop i) d v l p x = none ∧ p ≤ 3 ∧ 0 ≤ v ∧ v ≤ 255 ∧ l ≤ i ∧ (d = true → i = 0 ∨ s.getD (i - 1) 0 = 46) ∧ (d = false → 0 < i ∧ s.getD (i - 1) 0 ≠ 46) ∧ v8 = .nilIface ∧ v9 = .int .i64 v ∧ v10 = .int .i64 (p : Int) ∧ v11 = .int .i64 (l : Int) ∧ v13 = .int .i64 (i : Int) ∧ blk? wr gf = some A' ∧ U8s A' o ∧ GX gf w wr) (fun _ _ _ _ i _ => (ba s).size - (intOf i).toNat)
  case atStart => exact ⟨0, 0, 0, 0, true, zb, A, by omega, hq, by omega, by omega, by omega, by omega, fun _ => Or.inl rfl, (fun h => by cases h), rfl, rfl, rfl, rfl, rfl, hb, hA, GX.refl _ _⟩
  case round =>
    obtain ⟨i, p, l, v, d, x, A', him, hgo, hp, hv0, hv1, hli, hdt, hdf, rfl, rfl, rfl, rfl, rfl, kf, hU, hX⟩ := hrel
    have hsz := HSz.out
    have hL := HL.out
    have hi0 : (0 : Int) ≤ (i : Int) := by omega
    have hi2 : (i : Int) + 1 ≤ 9223372036854775807 := by omega
    have hl2 : (l : Int) + 1 ≤ 9223372036854775807 := by omega
    by_cases hlt : i < s.length
    · have hil : i < (ba s).size := by omega
      have hi1 : (i : Int) < (((ba s).size : Nat) : Int) := by omega
      have hil' : (i : Int) ≤ (((ba s).size : Nat) : Int) := by omega
      have hcv := ba_get s HB.out i hil
      have hbc := HB.out (s.getD i 0) (by rw [List.getD_eq_getElem?_getD, List.getElem?_eq_getElem hlt]; exact List.getElem_mem hlt)
      rw [drop_cons s i hlt, q4go] at hgo
      obtain ⟨ch, hch⟩ : ∃ ch : Int, ch = s.getD i 0 := ⟨_, rfl⟩
      rw [← hch] at hcv hgo hbc
      have HCh := Lib.hid hch
      have HR := Lib.hid (And.intro hdt hdf)
      clear hch hdt hdf
      by_cases c1 : 48 ≤ ch ∧ ch ≤ 57
      · rw [if_pos c1] at hgo
        obtain ⟨d1, d2⟩ := c1
        by_cases c2 : l = 1 ∧ v = 0
        · obtain ⟨rfl, rfl⟩ := c2
          clear hgo hsz hL
          go_wp2
          go_ret
          exact ⟨⟨_, rfl⟩, (by repeat' (first | (with_reducible exact GX.refl _ _) | (with_reducible assumption) | (with_reducible refine GX.alloc ?_ _) | (with_reducible refine GX.setCell ?_ _ _) | (with_reducible refine GX.drew ?_) | (with_reducible refine GX.drewN ?_ _)))⟩
        · rw [if_neg c2] at hgo
          have ha1 : v * 10 + ch ≤ 9223372036854775807 := by omega
          have ha2 : v * 10 ≤ 9223372036854775807 := by omega
          have ha4 : -9223372036854775808 ≤ v * 10 + ch - 48 := by omega
          by_cases c3 : 255 < v * 10 + (ch - 48)
          · have ha3 : 255 < v * 10 + ch - 48 := by omega
            clear hgo hsz hL
            by_cases l1 : l = 1
            · have hv2 : (v == 0) = false := beq_eq_false_iff_ne.2 (fun e => c2 ⟨l1, e⟩)
              subst l1
              clear c2 c3
              go_wp2
              go_ret
              exact ⟨⟨_, rfl⟩, (by repeat' (first | (with_reducible exact GX.refl _ _) | (with_reducible assumption) | (with_reducible refine GX.alloc ?_ _) | (with_reducible refine GX.setCell ?_ _ _) | (with_reducible refine GX.drew ?_) | (with_reducible refine GX.drewN ?_ _)))⟩
            · have hd2 : ¬ ((l : Int) = 1) := by omega
              clear c2 c3 l1
              go_wp2
              go_ret
              exact ⟨⟨_, rfl⟩, (by repeat' (first | (with_reducible exact GX.refl _ _) | (with_reducible assumption) | (with_reducible refine GX.alloc ?_ _) | (with_reducible refine GX.setCell ?_ _ _) | (with_reducible refine GX.drew ?_) | (with_reducible refine GX.drewN ?_ _)))⟩
          · rw [if_neg c3] at hgo
            have ha3 : ¬ (255 < v * 10 + ch - 48) := by omega
            have HGo := Lib.hid hgo
            have HV := Lib.hid (show 0 ≤ v * 10 + (ch - 48) ∧ v * 10 + (ch - 48) ≤ 255 ∧ v * 10 + ch - 48 = v * 10 + (ch - 48) by omega)
            clear hgo hsz hL
            have REL := fun (hne : ch ≠ 46) => (show (false = true → i + 1 = 0 ∨ s.getD (i + 1 - 1) 0 = 46) ∧ (false = false → 0 < i + 1 ∧ s.getD (i + 1 - 1) 0 ≠ 46) from ⟨(fun h => by cases h), fun _ => ⟨by omega, by rw [Nat.add_sub_cancel, ← HCh.out]; exact hne⟩⟩)
            have HREL := Lib.hid (REL (by omega))
            clear REL
            by_cases l1 : l = 1
            · have hv2 : (v == 0) = false := beq_eq_false_iff_ne.2 (fun e => c2 ⟨l1, e⟩)
              subst l1
              clear c2 c3
              go_wp2
              go_roundw
              case rel => exact ⟨i + 1, p, 1 + 1, v * 10 + (ch - 48), false, x, A', by omega, HGo.out, hp, HV.out.1, HV.out.2.1, by omega, HREL.out.1, HREL.out.2, rfl, by rw [HV.out.2.2], rfl, rfl, by go_num, kf, hU, hX⟩
              case measure => have := HSz.out; simp [intOf]; omega
            · have hd2 : ¬ ((l : Int) = 1) := by omega
              clear c2 c3 l1
              go_wp2
              go_roundw
              case rel => exact ⟨i + 1, p, l + 1, v * 10 + (ch - 48), false, x, A', by omega, HGo.out, hp, HV.out.1, HV.out.2.1, by omega, HREL.out.1, HREL.out.2, rfl, by rw [HV.out.2.2], rfl, by go_num, by go_num, kf, hU, hX⟩
              case measure => have := HSz.out; simp [intOf]; omega
      · rw [if_neg c1] at hgo
        by_cases c2 : ch = 46
        · subst c2
          rw [if_pos rfl] at hgo
          clear c1 hbc
          by_cases i0 : i = 0
          · subst i0
            clear hgo hsz hL
            go_wp2
            go_ret
            exact ⟨⟨_, rfl⟩, (by repeat' (first | (with_reducible exact GX.refl _ _) | (with_reducible assumption) | (with_reducible refine GX.alloc ?_ _) | (with_reducible refine GX.setCell ?_ _ _) | (with_reducible refine GX.drew ?_) | (with_reducible refine GX.drewN ?_ _)))⟩
          · have hi3 : ((i : Int) == 0) = false := beq_eq_false_iff_ne.2 (by omega)
            by_cases il : i + 1 = s.length
            · have hi4 : ((i : Int) == (((ba s).size : Nat) : Int) - 1) = true := beq_iff_eq.2 (by omega)
              clear hgo hsz hL i0 il
              go_wp2
              go_ret
              exact ⟨⟨_, rfl⟩, (by repeat' (first | (with_reducible exact GX.refl _ _) | (with_reducible assumption) | (with_reducible refine GX.alloc ?_ _) | (with_reducible refine GX.setCell ?_ _ _) | (with_reducible refine GX.drew ?_) | (with_reducible refine GX.drewN ?_ _)))⟩
            · have hi4 : ((i : Int) == (((ba s).size : Nat) : Int) - 1) = false := beq_eq_false_iff_ne.2 (by omega)
              have hil2 : i - 1 < (ba s).size := by omega
              have hcv2 := ba_get s HB.out (i - 1) hil2
              have hi7 : (0 : Int) ≤ (i : Int) - 1 := by omega
              have hi8 : (i : Int) - 1 < (((ba s).size : Nat) : Int) := by omega
              have hi9 : ((i : Int) - 1).toNat = i - 1 := by omega
              obtain ⟨cb, hcb⟩ : ∃ cb : Int, cb = s.getD (i - 1) 0 := ⟨_, rfl⟩
              rw [← hcb] at hcv2
              by_cases cp : cb = 46
              · subst cp
                clear hgo hsz hL i0 il hcb
                go_wp2
                go_ret
                exact ⟨⟨_, rfl⟩, (by repeat' (first | (with_reducible exact GX.refl _ _) | (with_reducible assumption) | (with_reducible refine GX.alloc ?_ _) | (with_reducible refine GX.setCell ?_ _ _) | (with_reducible refine GX.drew ?_) | (with_reducible refine GX.drewN ?_ _)))⟩
              · have hcn : (cb == 46) = false := beq_eq_false_iff_ne.2 cp
                have hd : d = false := by
                  cases d
                  · rfl
                  · rcases HR.out.1 rfl with h | h
                    · exact absurd h i0
                    · exact absurd (hcb.trans h) cp
                have ht : s.drop (i + 1) ≠ [] := fun e => by
                  have := congrArg List.length e
                  rw [List.length_drop] at this; simp at this; omega
                rw [if_neg (by rw [hd]; rintro (h | h); cases h; exact ht h)] at hgo
                by_cases p3 : p = 3
                · subst p3
                  clear hgo hsz hL i0 il hcb cp ht
                  go_wp2
                  go_ret
                  exact ⟨⟨_, rfl⟩, (by repeat' (first | (with_reducible exact GX.refl _ _) | (with_reducible assumption) | (with_reducible refine GX.alloc ?_ _) | (with_reducible refine GX.setCell ?_ _ _) | (with_reducible refine GX.drew ?_) | (with_reducible refine GX.drewN ?_ _)))⟩
                · rw [if_neg p3] at hgo
                  have hp3 : (((p : Nat) : Int) == 3) = false := beq_eq_false_iff_ne.2 (by omega)
                  obtain ⟨u, hu⟩ := hU p (by omega)
                  have hpc : (p : Int) < 4 := by omega
                  have hp0 : (0 : Int) ≤ (p : Int) := by omega
                  have hu1 : wr.cell? ⟨gf, o + p, none⟩ = some (.int .u8 u) := by rw [blk?_cell kf]; exact hu
                  have hu2 : wr.frozen? ⟨gf, o + p, none⟩ = false := blk?_frozen kf _
                  have hv9 : v < 256 := by omega
                  have hp9 : (p : Int) + 1 ≤ 9223372036854775807 := by omega
                  have HGo := Lib.hid hgo
                  have HP := Lib.hid (show p + 1 ≤ 3 ∧ p < 4 by omega)
                  clear hgo hsz hL i0 il hcb cp ht p3 hu
                  go_wp2
                  go_roundw
                  case rel => exact ⟨i + 1, p + 1, 0, 0, true, upd x p v, _, by omega, HGo.out, HP.out.1, by omega, by omega, by omega, fun _ => Or.inr (by rw [Nat.add_sub_cancel, ← HCh.out]), (fun h => by cases h), rfl, rfl, by go_num, rfl, by go_num, by rw [blk?_setSame, kf, Option.map_some], U8s_set hU p HP.out.2 v, (by repeat' (first | (with_reducible exact GX.refl _ _) | (with_reducible assumption) | (with_reducible refine GX.alloc ?_ _) | (with_reducible refine GX.setCell ?_ _ _) | (with_reducible refine GX.drew ?_) | (with_reducible refine GX.drewN ?_ _)))⟩
                  case measure => have := HSz.out; simp [intOf]; omega
        · have hne : (ch == 46) = false := beq_eq_false_iff_ne.2 c2
          clear hgo hsz hL c2
          by_cases c3 : 48 ≤ ch
          · have c4 : ¬ (ch ≤ 57) := fun h => c1 ⟨c3, h⟩
            clear c1
            go_wp2
            go_ret
            exact ⟨⟨_, rfl⟩, (by repeat' (first | (with_reducible exact GX.refl _ _) | (with_reducible assumption) | (with_reducible refine GX.alloc ?_ _) | (with_reducible refine GX.setCell ?_ _ _) | (with_reducible refine GX.drew ?_) | (with_reducible refine GX.drewN ?_ _)))⟩
          · clear c1
            go_wp2
            go_ret
            exact ⟨⟨_, rfl⟩, (by repeat' (first | (with_reducible exact GX.refl _ _) | (with_reducible assumption) | (with_reducible refine GX.alloc ?_ _) | (with_reducible refine GX.setCell ?_ _ _) | (with_reducible refine GX.drew ?_) | (with_reducible refine GX.drewN ?_ _)))⟩
    · have hi1 : ¬ ((i : Int) < (((ba s).size : Nat) : Int)) := by omega
      have e0 : s.drop i = [] := List.drop_eq_nil_of_le (by omega)
      rw [e0, q4go] at hgo
      have hp3 : p < 3 := by
        by_cases h : p < 3
        · exact h
        · rw [if_neg h] at hgo; cases hgo
      have hp4 : (p : Int) < 3 := by omega
      clear hgo hsz hL e0 hp3
      go_wp2
      go_ret
      exact ⟨⟨_, rfl⟩, (by repeat' (first | (with_reducible exact GX.refl _ _) | (with_reducible assumption) | (with_reducible refine GX.alloc ?_ _) | (with_reducible refine GX.setCell ?_ _ _) | (with_reducible refine GX.drew ?_) | (with_reducible refine GX.drewN ?_ _)))⟩
end Go.Proofs.YtmlkcgacneealaaDoor
set_option linter.unusedVariables false
set_option linter.unusedSimpArgs false
namespace Go.Proofs.YtmlkcgacneealaaDoor
open Go.RowKit

theorem GX.setRow {g : Nat} {a w : World} (h : GX g a w) (cs : Array Value) : GX g a (w.setRow g cs) := by
  have hb := below_setRow' (Below.refl g w) (Nat.le_refl g) cs
  exact h.trans ⟨hb.os, hb.tape, hb.output, hb.size, fun k _ hn => setRow_other w g k cs hn⟩
theorem res25tt {fn : Func} {p q r : Tmp} (h : fn.results = #[.cell p 25, .tmp q, .tmp r]) (tmps : Array Value) (w : World) (g : Nat) (c : Array Value) (hp : tmps.getD p undef = .pointer (some ⟨g, 0, none⟩)) (hb : blk? w g = some c) (hs : c.size = 18) :
    (results fn tmps).run Tryd.prog w = .ok (.tuple #[.agg c, tmps.getD q undef, tmps.getD r undef]) w := by
  obtain ⟨t, ht⟩ := of_blk? hb
  have hp' : tmps[p]?.getD undef = .pointer (some ⟨g, 0, none⟩) := by simpa using hp
  simp [results, h, hp', asAddr, run_loadVar_row w g t 25 c (0, 0) _ ht Tryd.underlying25 rfl (by rw [hs]; exact infoSize25)]
theorem lz_step (s : List Int) (i : Nat) (h : i + 1 < s.length) (h48 : s.getD i 0 = 48) : lz (s.drop i) = lz (s.drop (i + 1)) + 1 := by
  rw [drop_cons s i (by omega), lz, if_pos ⟨h48, fun e => by have := congrArg List.length e; rw [List.length_drop] at this; simp at this; omega⟩]
theorem lz_stop (s : List Int) (i : Nat) (h : ¬ (i + 1 < s.length ∧ s.getD i 0 = 48)) : lz (s.drop i) = 0 := by
  by_cases c : i < s.length
  · rw [drop_cons s i c, lz, if_neg]
    rintro ⟨h1, h2⟩
    refine h ⟨?_, h1⟩
    have := List.length_pos_iff.2 h2
    rw [List.length_drop] at this; omega
  · rw [List.drop_eq_nil_of_le (by omega)]; rfl
set_option maxHeartbeats 4000000 in
set_option maxRecDepth 100000 in
theorem sdecimal (s : List Int) (hB : By s) (hs : s.length ≤ 1048576) (w : World) : Calls Tryd.prog 161 #[.string (ba s), .int .i64 3] w fun e w' => e = .returned (.tuple #[.int .i64 ((numB 10 isd 3 (s.drop (lz s))).getD 0), .bool (decide (lz s = 0)), .bool (numB 10 isd 3 (s.drop (lz s))).isSome]) ∧ Below w.heap.size w w' := by
  have HSz := Lib.hid (ba_size s)
  have HB := Lib.hid hB
  have hsm : (((ba s).size : Nat) : Int) ≤ 1048576 := by rw [ba_size]; omega
  clear hB
  go_enter Tryd.func161, Tryd.ntmps161
  go_wp2
  go_loopw [7] (fun v7 wr => ∃ i : Nat, i ≤ s.length ∧ lz s = i + lz (s.drop i) ∧ v7 = .int .i64 (i : Int) ∧ w = wr) (fun v7 _ => s.length - (intOf v7).toNat)
  case atStart => exact ⟨0, by omega, by simp, rfl, rfl⟩
  case round =>
    obtain ⟨i, hi, hlz, rfl, rfl⟩ := hrel
    have hsz := HSz.out
    have hi0 : (0 : Int) ≤ (i : Int) := by omega
    have hi9 : (i : Int) + 1 ≤ 9223372036854775807 := by omega
    by_cases hlt : i + 1 < s.length
    · have hil : i < (ba s).size := by omega
      have hi1 : (i : Int) + 1 < (((ba s).size : Nat) : Int) := by omega
      have hi2 : (i : Int) < (((ba s).size : Nat) : Int) := by omega
      have hcv := ba_get s HB.out i hil
      obtain ⟨ch, hch⟩ : ∃ ch : Int, ch = s.getD i 0 := ⟨_, rfl⟩
      rw [← hch] at hcv
      by_cases c : ch = 48
      · subst c
        have HR := Lib.hid (show lz s = i + 1 + lz (s.drop (i + 1)) by rw [hlz, lz_step s i hlt hch.symm]; omega)
        clear hlz hch hsz
        go_wp2
        go_roundw
        case rel => exact ⟨i + 1, by omega, HR.out, by go_num, trivial⟩
        case measure => simp [intOf]; omega
      · have hne : (ch == 48) = false := beq_eq_false_iff_ne.2 c
        rw [hch] at c
        have HLz := Lib.hid (show lz s = i by rw [hlz, lz_stop s i (by omega)]; omega)
        have hx : (ba s).extract i (ba s).size = ba (s.drop i) := ba_drop s i hi
        have HB' := Lib.hid (By_drop HB.out i)
        have hil' : (i : Int) ≤ (((ba s).size : Nat) : Int) := by omega
        have HL' := Lib.hid (show (s.drop i).length ≤ 1048576 by rw [List.length_drop]; omega)
        have HE := Lib.hid (show ((i : Int) == 0) = decide (i = 0) by rw [Bool.eq_iff_iff]; simp)
        clear hlz hsz hch c
        go_wp2_with (first
          | (go_at_call 175; (with_reducible refine (snum10 (s.drop i) HB'.out HL'.out _).mono ?_); rintro e w1 ⟨rfl, hb1⟩; simp only [numV]; have hk1 := blk?_below hb1; (try simp only [size_drew', size_drewN'] at hk1); have hB1 := below_via (w := w) (by repeat' (first | (with_reducible exact Below.refl _ _) | (with_reducible assumption) | (with_reducible refine Below.alloc ?_ ?_ _) | (with_reducible refine Below.drew ?_) | (with_reducible refine below_drewN ?_ _) | (with_reducible refine Below.setCell ?_ ?_ _) | (with_reducible refine below_setRow' ?_ ?_ _) | go_size)) hb1; have hLe : w.heap.size ≤ w1.heap.size := hB1.size; clear hb1))
        go_ret3
        exact ⟨by rw [HLz.out, ← HE.out]; rfl, hB1⟩
    · have hi1 : ¬ ((i : Int) + 1 < (((ba s).size : Nat) : Int)) := by omega
      have HLz := Lib.hid (show lz s = i by rw [hlz, lz_stop s i (by omega)]; omega)
      have hx : (ba s).extract i (ba s).size = ba (s.drop i) := ba_drop s i hi
      have HB' := Lib.hid (By_drop HB.out i)
      have hil' : (i : Int) ≤ (((ba s).size : Nat) : Int) := by omega
      have HL' := Lib.hid (show (s.drop i).length ≤ 1048576 by rw [List.length_drop]; omega)
      have HE := Lib.hid (show ((i : Int) == 0) = decide (i = 0) by rw [Bool.eq_iff_iff]; simp)
      clear hlz hsz
      go_wp2_with (first
        | (go_at_call 175; (with_reducible refine (snum10 (s.drop i) HB'.out HL'.out _).mono ?_); rintro e w1 ⟨rfl, hb1⟩; simp only [numV]; have hk1 := blk?_below hb1; (try simp only [size_drew', size_drewN'] at hk1); have hB1 := below_via (w := w) (by repeat' (first | (with_reducible exact Below.refl _ _) | (with_reducible assumption) | (with_reducible refine Below.alloc ?_ ?_ _) | (with_reducible refine Below.drew ?_) | (with_reducible refine below_drewN ?_ _) | (with_reducible refine Below.setCell ?_ ?_ _) | (with_reducible refine below_setRow' ?_ ?_ _) | go_size)) hb1; have hLe : w.heap.size ≤ w1.heap.size := hB1.size; clear hb1))
      go_ret3
      exact ⟨by rw [HLz.out, ← HE.out]; rfl, hB1⟩

/-- What quad hands back. -/
def adrV (n : Int) (o : Option ((Nat → Int) × Bool)) : Value := match o with
  | none => .tuple #[.agg (adr 0 zb ⟨#[]⟩), .bool false, .bool false]
  | some (x, pl) => .tuple #[.agg (adr n x ⟨#[]⟩), .bool pl, .bool true]
theorem dcm_none (p : List Int) (h : (numB 10 isd 3 (p.drop (lz p))).isSome = false) : dcm p = none := by
  unfold dcm
  cases hn : numB 10 isd 3 (p.drop (lz p)) with
  | none => rfl
  | some v => rw [hn] at h; cases h
theorem dcm_some (p : List Int) (v : Int) (h : numB 10 isd 3 (p.drop (lz p)) = some v) : dcm p = some (v, decide (lz p = 0)) := by
  unfold dcm; rw [h]; rfl
theorem sv_get (ps : List (List Int)) (k : Nat) (h : k < ps.length) : (sv ps)[k]? = some (.string (ba (ps.getD k []))) := by
  unfold sv
  rw [List.getElem?_map, List.getElem?_eq_getElem h, List.getD_eq_getElem?_getD, List.getElem?_eq_getElem h]; rfl
theorem drop_consL (ps : List (List Int)) (i : Nat) (h : i < ps.length) : ps.drop i = ps.getD i [] :: ps.drop (i + 1) := by
  rw [List.drop_eq_getElem_cons h, List.getD_eq_getElem?_getD, List.getElem?_eq_getElem h]; rfl
theorem mem_getD (ps : List (List Int)) (i : Nat) (h : i < ps.length) : ps.getD i [] ∈ ps := by
  rw [List.getD_eq_getElem?_getD, List.getElem?_eq_getElem h]; exact List.getElem_mem h
theorem spl_len (c : Int) (s : List Int) : ∀ p ∈ spl c s, p.length ≤ s.length := by
  intro p hp
  have h1 := spl_sum c s
  have h2 : 0 < (spl c s).length := List.length_pos_iff.2 (spl_ne c s)
  have h3 : ∀ (l : List (List Int)), p ∈ l → p.length + l.length ≤ (l.map List.length).sum + l.length := by
    intro l
    induction l with
    | nil => intro h; simp at h
    | cons a l ih =>
      intro h
      rcases List.mem_cons.1 h with e | e
      · rw [← e]; simp
      · have := ih e; simp; omega
  have := h3 _ hp
  omega
set_option maxHeartbeats 4000000 in
set_option maxRecDepth 100000 in
theorem squad (s : List Int) (hB : By s) (hs : s.length ≤ 1048576) (w : World) : Calls Tryd.prog 123 #[.string (ba s)] w fun e w' => e = .returned (adrV 4 (qd s)) ∧ Below w.heap.size w w' := by
  have HB := Lib.hid hB
  clear hB
  go_enter Tryd.func123, Tryd.ntmps123
  go_upto_region 2 with (first
    | (go_at_call 122; (with_reducible refine (ssplit 46 (by omega) s.length s rfl HB.out hs _).mono ?_); rintro e w1 ⟨vr, rfl, hvr, hb1⟩; have hk1 := blk?_below hb1; have hB1 := below_via (w := w) (by repeat' (first | (with_reducible exact Below.refl _ _) | (with_reducible assumption) | (with_reducible refine Below.alloc ?_ ?_ _) | (with_reducible refine Below.drew ?_) | (with_reducible refine below_drewN ?_ _) | (with_reducible refine Below.setCell ?_ ?_ _) | (with_reducible refine below_setRow' ?_ ?_ _) | go_size)) hb1; have hS1 : w.heap.size < w1.heap.size := (by have := hb1.size; (try simp at this); omega); clear hb1))
  obtain ⟨g2, cap2, rfl, hg2, hg2l, hm2, hc2, hcell2, hfr2⟩ := owns_cells hvr (List.length_pos_iff.2 (spl_ne 46 s))
  have k0 : blk? w1 w.heap.size = some (adr 0 zb ⟨#[]⟩) := by go_simp
  obtain ⟨ps, hps⟩ : ∃ ps, ps = spl 46 s := ⟨_, rfl⟩
  have HPs := Lib.hid hps
  have hlen : ps.length ≤ s.length + 1 := by have := spl_sum 46 s; rw [hps]; omega
  rw [← hps] at hcell2 hm2 ⊢
  obtain ⟨w2, hw2⟩ : ∃ w2, w2 = w1 := ⟨_, rfl⟩
  have HC := Lib.hid (show ∀ k, k < ps.length → w2.cell? ⟨g2, k, none⟩ = some (.string (ba (ps.getD k []))) from fun k hk => by rw [hw2, hcell2 k hk, sv_get ps k hk])
  have HF := Lib.hid (show ∀ i, w2.frozen? ⟨g2, i, none⟩ = false from fun i => by rw [hw2]; exact hfr2 i)
  have hg3 : w.heap.size < g2 := by simp at hg2; omega
  have hg2w : g2 < w2.heap.size := by rw [hw2]; exact hg2l
  have hS2 : w.heap.size < w2.heap.size := by rw [hw2]; exact hS1
  have HB1 := Lib.hid (show Below w.heap.size w w2 by rw [hw2]; exact hB1)
  clear hk1 hvr hcell2 hfr2 hps hg2
  by_cases c4 : ps.length = 4
  · have HQ := Lib.hid (show qd s = qg ps 0 zb true by unfold qd; rw [← HPs.out, if_pos c4])
    have HBp := Lib.hid (show ∀ k, k < 4 → By (ps.getD k []) ∧ (ps.getD k []).length ≤ 1048576 from fun k hk => by
      have := mem_getD ps k (by omega)
      rw [HPs.out] at this
      exact ⟨by rw [HPs.out]; exact spl_by 46 s HB.out _ this, by have := spl_len 46 s _ this; rw [HPs.out]; omega⟩)
    rw [c4]
    go_wp2
    go_loopw [3, 4, 6, 7, 8, 9, 10, 20] (fun v3 v4 v6 v7 v8 v9 v10 v20 wr => ∃ (k : Nat) (x : Nat → Int) (pl : Bool), k ≤ 4 ∧ qd s = qg (ps.drop k) k x pl ∧ v3 = .bool pl ∧ v4 = .bool false ∧ v20 = .int .i64 (k : Int) ∧ blk? wr w.heap.size = some (adr 4 x ⟨#[]⟩) ∧ GX w.heap.size w2 wr) (fun _ _ _ _ _ _ _ v20 _ => 4 - (intOf v20).toNat)
    case atStart => exact ⟨0, zb, true, by omega, by rw [HQ.out]; rfl, rfl, rfl, rfl, by go_simp, by rw [hw2]; exact (by repeat' (first | (with_reducible exact GX.refl _ _) | (with_reducible assumption) | (with_reducible refine GX.alloc ?_ _) | (with_reducible refine GX.setCell ?_ _ _) | (with_reducible refine GX.setRow ?_ _) | (with_reducible refine GX.drew ?_) | (with_reducible refine GX.drewN ?_ _)))⟩
    case round =>
      obtain ⟨k, x, pl, hk, hq, rfl, rfl, rfl, kb, hgx⟩ := hrel
      have hkl := blk?_lt kb
      have hk0 : (0 : Int) ≤ (k : Int) := by omega
      by_cases hlt : k < 4
      · have hk1 : (k : Int) < 4 := by omega
        obtain ⟨p, hp⟩ : ∃ p, p = ps.getD k [] := ⟨_, rfl⟩
        have hcl : wr.cell? ⟨g2, k, none⟩ = some (.string (ba p)) := by rw [hp, ← HC.out k (by omega)]; unfold World.cell?; rw [hgx.block g2 hg2w (by omega)]
        obtain ⟨hBp, hLp⟩ := HBp.out k hlt
        rw [← hp] at hBp hLp
        have HBP := Lib.hid hBp
        rw [drop_consL ps k (by omega), ← hp, qg] at hq
        clear hBp hp
        go_upto_region 9 with (first
          | (go_at_call 161; (with_reducible refine (sdecimal p HBP.out hLp _).mono ?_); rintro e w3 ⟨rfl, hb1⟩))
        have kb1 : blk? w3 w.heap.size = some (adr 4 x ⟨#[]⟩) := by rw [blk?_below hb1 _ hkl]; exact kb
        have HGX := Lib.hid (hgx.call hb1)
        have hS3 : w.heap.size < w3.heap.size := blk?_lt kb1
        clear hb1 kb hgx hcl
        obtain ⟨on, hon⟩ : ∃ on, on = numB 10 isd 3 (p.drop (lz p)) := ⟨_, rfl⟩
        rw [← hon]
        have hn := hon.symm
        clear hon
        cases on with
        | none =>
          rw [dcm_none p (by rw [hn]; rfl)] at hq
          simp only [Option.isSome_none, Option.getD_none]
          have HQ2 := Lib.hid (show qd s = none from hq)
          clear hq hn
          go_wp2
          have hgxF := HGX.out
          refine bodyPost_ret (res25tt Tryd.results123 _ _ w.heap.size _ rfl ?_ rfl) rfl ⟨by rw [HQ2.out]; rfl, (GX.below HB1.out (by first | exact HGX.out | exact (by repeat' (first | (with_reducible exact GX.refl _ _) | (with_reducible assumption) | (with_reducible refine GX.alloc ?_ _) | (with_reducible refine GX.setCell ?_ _ _) | (with_reducible refine GX.setRow ?_ _) | (with_reducible refine GX.drew ?_) | (with_reducible refine GX.drewN ?_ _)))) (Nat.le_of_lt hS2) (Nat.le_refl _))⟩
          go_simp
        | some v =>
          rw [dcm_some p v hn] at hq
          dsimp only at hq
          simp only [Option.isSome_some, Option.getD_some]
          have hv0 := dcm_rng p v _ (dcm_some p v hn)
          by_cases c : 255 < v
          · rw [if_pos c] at hq
            have HQ2 := Lib.hid hq
            clear hq hn
            go_wp2
            have hgxF := HGX.out
            refine bodyPost_ret (res25tt Tryd.results123 _ _ w.heap.size _ rfl ?_ rfl) rfl ⟨by rw [HQ2.out]; rfl, (GX.below HB1.out (by first | exact HGX.out | exact (by repeat' (first | (with_reducible exact GX.refl _ _) | (with_reducible assumption) | (with_reducible refine GX.alloc ?_ _) | (with_reducible refine GX.setCell ?_ _ _) | (with_reducible refine GX.setRow ?_ _) | (with_reducible refine GX.drew ?_) | (with_reducible refine GX.drewN ?_ _)))) (Nat.le_of_lt hS2) (Nat.le_refl _))⟩
            go_simp
          · rw [if_neg c] at hq
            have hv1 : v < 256 := by omega
            have HQ2 := Lib.hid hq
            have hld : w3.cell? ⟨w.heap.size, 1 + k, none⟩ = some (.int .u8 (x k)) := by rw [blk?_cell kb1, adr_byte' _ _ _ _ (by omega)]
            have hfz : w3.frozen? ⟨w.heap.size, 1 + k, none⟩ = false := blk?_frozen kb1 _
            have h16 : (k : Int) < 16 := by omega
            clear hq hn
            cases pl
            · go_wp2
              go_roundw
              case rel => exact ⟨k + 1, upd x k v, false, by omega, by rw [HQ2.out]; rfl, rfl, rfl, by go_num, by rw [blk?_setSame, kb1, Option.map_some, adr_set' _ _ _ _ _ (by omega)], HGX.out.setCell _ _⟩
              case measure => simp [intOf]; omega
            · go_wp2
              go_roundw
              case rel => exact ⟨k + 1, upd x k v, _, by omega, by rw [HQ2.out], by simp, rfl, by go_num, by rw [blk?_setSame, kb1, Option.map_some, adr_set' _ _ _ _ _ (by omega)], HGX.out.setCell _ _⟩
              case measure => simp [intOf]; omega
      · have hk1 : ¬ ((k : Int) < 4) := by omega
        obtain rfl : k = 4 := by omega
        rw [show ps.drop 4 = [] from List.drop_eq_nil_of_le (by omega), qg] at hq
        have HQ2 := Lib.hid hq
        have HGX := Lib.hid hgx
        clear hq hgx
        go_wp2
        have hgxF := HGX.out
        refine bodyPost_ret (res25tt Tryd.results123 _ _ w.heap.size _ rfl ?_ rfl) rfl ⟨by rw [HQ2.out]; rfl, (GX.below HB1.out (by first | exact HGX.out | exact (by repeat' (first | (with_reducible exact GX.refl _ _) | (with_reducible assumption) | (with_reducible refine GX.alloc ?_ _) | (with_reducible refine GX.setCell ?_ _ _) | (with_reducible refine GX.setRow ?_ _) | (with_reducible refine GX.drew ?_) | (with_reducible refine GX.drewN ?_ _)))) (Nat.le_of_lt hS2) (Nat.le_refl _))⟩
        go_simp
  · have hq : qd s = none := by unfold qd; rw [← HPs.out, if_neg c4]
    have hl0 : ((ps.length : Nat) : Int) ≠ 4 := by omega
    have hl1 : (((ps.length : Nat) : Int) != 4) = true := by simp; omega
    have HQ2 := Lib.hid hq
    have HGX := Lib.hid (GX.refl w.heap.size w2)
    subst hw2
    clear hq
    go_wp2
    have hgxF := HGX.out
    refine bodyPost_ret (res25tt Tryd.results123 _ _ w.heap.size _ rfl ?_ rfl) rfl ⟨by rw [HQ2.out]; rfl, (GX.below HB1.out (by first | exact HGX.out | exact (by repeat' (first | (with_reducible exact GX.refl _ _) | (with_reducible assumption) | (with_reducible refine GX.alloc ?_ _) | (with_reducible refine GX.setCell ?_ _ _) | (with_reducible refine GX.setRow ?_ _) | (with_reducible refine GX.drew ?_) | (with_reducible refine GX.drewN ?_ _)))) (Nat.le_of_lt hS2) (Nat.le_refl _))⟩
    go_simp
end Go.Proofs.YtmlkcgacneealaaDoor
