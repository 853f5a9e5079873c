/- Dotted decimal is read: the four fields. Conditions: the fields' cells are there. -/
import Derived.Test.YtmlkcgacneealaaDoorPrs1
import Derived.Deep.DeepCutAuto
set_option linter.unusedVariables false
set_option linter.unusedSimpArgs false
namespace Go.Proofs.YtmlkcgacneealaaDoor
open Go.RowKit

theorem GX.setCell {g : Nat} {a w : World} (h : GX g a w) (i : Nat) (v : Value) : GX g a (w.setCell ⟨g, i, none⟩ v) := h.trans (gx_setCells g [v] i w)
theorem ba_get (s : List Int) (hB : By s) (i : Nat) (h : i < (ba s).size) : (((ba s)[i].toNat : Nat) : Int) = s.getD i 0 := by
  have hi : i < s.length := by rw [ba_size] at h; exact h
  have hx := hB s[i] (List.getElem_mem hi)
  have e : (ba s)[i].toNat = s[i].toNat % 256 := by
    show ((ba s).data[i]).toNat = _
    simp [ba]
  rw [e, List.getD_eq_getElem?_getD, List.getElem?_eq_getElem hi, Option.getD_some]
  omega
/-- The row of fields after p of them. -/
def fs (A : Array Value) (o : Nat) (x : Nat → Int) : Nat → Array Value
  | 0 => A
  | p + 1 => (fs A o x p).setIfInBounds (o + p) (.int .u8 (x p))
theorem fs_size (A : Array Value) (o : Nat) (x : Nat → Int) : ∀ p, (fs A o x p).size = A.size
  | 0 => rfl
  | p + 1 => by simp [fs, fs_size A o x p]
theorem By_tf (x : Nat → Int) (hx : ∀ p, p ≤ 3 → 0 ≤ x p ∧ x p < 256) : By (tf x 0 3) := by
  rw [tf_dot4]; exact By_dot4 _ _ _ _ (hx 0 (by omega)) (hx 1 (by omega)) (hx 2 (by omega)) (hx 3 (by omega))
set_option maxHeartbeats 4000000 in
set_option maxRecDepth 100000 in
theorem prs4f (x : Nat → Int) (hx : ∀ p, p ≤ 3 → 0 ≤ x p ∧ x p < 256) (z : ByteArray) (k e : Nat) (hke : k ≤ e) (he : e ≤ z.size) (hz : z.extract k e = (ba (tf x 0 3))) (hzs : (z.size : Int) ≤ 9223372036854775807) (gf o c : Nat) (hc : 4 ≤ c) (A : Array Value) (hA : o + 4 ≤ A.size) (w : World) (hb : blk? w gf = some A) :
    Calls Tryd.prog 173 #[.string z, .int .i64 (k : Int), .int .i64 (e : Int), .slice (some ⟨gf, o, none⟩) 4 c] w fun en w' => en = .returned .nilIface ∧ blk? w' gf = some (fs A o x 4) ∧ GX gf w w' := by
  have HX := Lib.hid hx
  have hk0 : (0 : Int) ≤ (k : Int) := by omega
  have hk1 : (k : Int) ≤ (e : Int) := by omega
  have hk2 : (e : Int) ≤ (z.size : Int) := by omega
  have hlen : (ba (tf x 0 3)).size = offs x 3 + (dec (x 3)).length := by rw [ba_size, tf_len]
  have HLen := Lib.hid hlen
  have hsm : (((ba (tf x 0 3)).size : Nat) : Int) ≤ 100 := by
    have h0 := dec_len (x 0); have h1 := dec_len (x 1); have h2 := dec_len (x 2); have h3 := dec_len (x 3)
    rw [hlen]; simp [offs]; omega
  clear hx hlen
  go_enter Tryd.func173, Tryd.ntmps173
  go_wp2
  go_loopw [8, 9, 10, 11, 13] (fun v8 v9 v10 v11 v13 wr => ∃ p d : Nat, p ≤ 3 ∧ d ≤ (dec (x p)).length ∧ v8 = .nilIface ∧ v9 = .int .i64 (dv (x p) d) ∧ v10 = .int .i64 (p : Int) ∧ v11 = .int .i64 (d : Int) ∧ v13 = .int .i64 ((offs x p + d : Nat) : Int) ∧ blk? wr gf = some (fs A o x p) ∧ GX gf w wr) (fun _ _ _ _ i _ => (ba (tf x 0 3)).size - (intOf i).toNat)
  case atStart => exact ⟨0, 0, by omega, by omega, rfl, rfl, rfl, rfl, rfl, hb, GX.refl _ _⟩
  case round =>
    obtain ⟨p, d, hp, hd, rfl, rfl, rfl, rfl, rfl, kf, hX⟩ := hrel
    have hxp := HX.out p hp
    have hlp := dec_len (x p)
    have hvl := dv_le (x p) hxp d hd
    have hlen := HLen.out
    have hB := By_tf x HX.out
    obtain ⟨i, hi⟩ : ∃ i : Nat, i = offs x p + d := ⟨_, rfl⟩
    rw [← hi]
    have hi0 : (0 : Int) ≤ (i : Int) := by omega
    have hsz := fs_size A o x p
    obtain ⟨hv0, hv1⟩ := hvl
    by_cases hdl : d < (dec (x p)).length
    · have hat := at_dig x p d hp hdl
      have hil : i < (ba (tf x 0 3)).size := by
        by_cases c3 : p < 3
        · have := offs_lt x p c3; omega
        · have : p = 3 := by omega
          subst this; omega
      have hcv := ba_get _ hB i hil
      rw [← hi] at hat
      rw [hat] at hcv
      obtain ⟨hc1, hc2, hc3⟩ := dec_dig (x p) hxp d hdl
      have hds := dv_succ (x p) d hdl
      have hvl' := dv_le (x p) hxp (d + 1) (by omega)
      obtain ⟨ch, hch⟩ : ∃ ch : Int, ch = (dec (x p)).getD d 0 := ⟨_, rfl⟩
      rw [← hch] at hcv hc1 hc2 hds
      rw [hds] at hvl'
      have hi1 : (i : Int) < (((ba (tf x 0 3)).size : Nat) : Int) := by omega
      have hi2 : (i : Int) + 1 ≤ 9223372036854775807 := by omega
      obtain ⟨v, hv⟩ : ∃ v : Int, v = dv (x p) d := ⟨_, rfl⟩
      rw [← hv] at hds hvl' hv0 hv1 hc3
      rw [← hv]
      have ha1 : v * 10 + ch ≤ 9223372036854775807 := by omega
      have ha2 : v * 10 ≤ 9223372036854775807 := by omega
      have ha3 : ¬ (255 < v * 10 + ch - 48) := by omega
      have ha4 : -9223372036854775808 ≤ v * 10 + ch - 48 := by omega
      have hd0 : (d : Int) + 1 ≤ 9223372036854775807 := by omega
      have HI := Lib.hid hi
      have HDS := Lib.hid hds
      have HV := Lib.hid hv
      clear hi hds hv hch hat hlen hsz
      by_cases hd1 : d = 1
      · have hv2 : (v == 0) = false := by have := hc3 (by omega); exact beq_eq_false_iff_ne.2 (by omega)
        clear hc3
        subst hd1
        have HDL := Lib.hid hdl
        clear hdl hd hlp hd0
        go_wp2
        go_roundw
        case rel => exact ⟨p, 1 + 1, hp, by have := HDL.out; omega, rfl, by rw [HDS.out]; exact congrArg (Value.int .i64) (by omega), rfl, rfl, by rw [HI.out]; go_num, kf, hX⟩
        case measure => simp [intOf]; omega
      · have hd2 : ¬ ((d : Int) = 1) := by omega
        clear hc3 hd1
        go_wp2
        go_roundw
        case rel => exact ⟨p, d + 1, hp, by omega, rfl, by rw [HDS.out]; exact congrArg (Value.int .i64) (by omega), rfl, by go_num, by rw [HI.out]; go_num, kf, hX⟩
        case measure => simp [intOf]; omega
    · have hde : d = (dec (x p)).length := by omega
      by_cases hp3 : p < 3
      · have hat := at_dot x p hp3
        rw [← hde, ← hi] at hat
        have hol := offs_lt x p hp3
        have hil : i + 1 < (ba (tf x 0 3)).size := by have := dec_len (x 3); omega
        have hil0 : i < (ba (tf x 0 3)).size := by omega
        have hcv := ba_get _ hB i hil0
        rw [hat] at hcv
        have hat2 := at_dig x p (d - 1) hp (by omega)
        rw [show offs x p + (d - 1) = i - 1 by omega] at hat2
        have hil2 : i - 1 < (ba (tf x 0 3)).size := by omega
        have hcv2 := ba_get _ hB (i - 1) hil2
        rw [hat2] at hcv2
        obtain ⟨hc1, hc2, _⟩ := dec_dig (x p) hxp (d - 1) (by omega)
        obtain ⟨ch, hch⟩ : ∃ ch : Int, ch = (dec (x p)).getD (d - 1) 0 := ⟨_, rfl⟩
        rw [← hch] at hcv2 hc1 hc2
        have hcn : (ch == 46) = false := beq_eq_false_iff_ne.2 (by omega)
        have hi1 : (i : Int) < (((ba (tf x 0 3)).size : Nat) : Int) := by omega
        have hi2 : (i : Int) + 1 ≤ 9223372036854775807 := by omega
        have hi3 : ((i : Int) == 0) = false := beq_eq_false_iff_ne.2 (by omega)
        have hi4 : ((i : Int) == ((((ba (tf x 0 3)).size : Nat) : Int) - 1)) = false := beq_eq_false_iff_ne.2 (by omega)
        have hi5 : (0 : Int) ≤ (i : Int) - 1 := by omega
        have hi6 : (i : Int) - 1 < (((ba (tf x 0 3)).size : Nat) : Int) := by omega
        have hi7 : ((i : Int) - 1).toNat = i - 1 := by omega
        have hv2 := dv_all (x p) hxp
        rw [← hde] at hv2
        have hpp : ((p : Int) == 3) = false := beq_eq_false_iff_ne.2 (by omega)
        have hp0 : (0 : Int) ≤ (p : Int) := by omega
        have hp1 : (p : Int) < 4 := by omega
        have hcell : (wr.cell? ⟨gf, o + p, none⟩).isSome = true := by rw [blk?_cell kf]; simp [hsz]; omega
        obtain ⟨cu, hcu⟩ := Option.isSome_iff_exists.1 hcell
        have hfz : wr.frozen? ⟨gf, o + p, none⟩ = false := blk?_frozen kf _
        obtain ⟨hx0, hx1⟩ := hxp
        rw [hv2]
        have HI := Lib.hid hi
        have HDE := Lib.hid hde
        clear hi hde hv2 hch hat hat2 hlen hsz hcell hdl hol
        go_wp2
        go_roundw
        case rel => exact ⟨p + 1, 0, by omega, by omega, rfl, rfl, by go_num, rfl, (by have h1 := HI.out; have h2 := HDE.out; simp only [offs]; exact congrArg (Value.int .i64) (by omega)), by rw [blk?_setSame, kf]; rfl, GX.setCell hX _ _⟩
        case measure => simp [intOf]; omega
      · have hp33 : p = 3 := by omega
        have hi1 : ¬ ((i : Int) < (((ba (tf x 0 3)).size : Nat) : Int)) := by rw [hlen, hi, hde, hp33]; omega
        have hv2 := dv_all (x p) hxp
        rw [← hde] at hv2
        rw [hv2]
        have hpp : ¬ ((p : Int) < 3) := by omega
        have hcell : (wr.cell? ⟨gf, o + 3, none⟩).isSome = true := by rw [blk?_cell kf]; simp [hsz]; omega
        obtain ⟨cu, hcu⟩ := Option.isSome_iff_exists.1 hcell
        have hfz : wr.frozen? ⟨gf, o + 3, none⟩ = false := blk?_frozen kf _
        obtain ⟨hx0, hx1⟩ := hxp
        have HP := Lib.hid hp33
        clear hi hde hv2 hlen hsz hcell hdl hp33
        go_wp2
        go_ret
        refine ⟨rfl, ?_, (by repeat' (first | (with_reducible exact GX.refl _ _) | (with_reducible assumption) | (with_reducible refine GX.alloc ?_ _) | (with_reducible refine GX.setCell ?_ _ _) | (with_reducible refine GX.drew ?_) | (with_reducible refine GX.drewN ?_ _)))⟩
        have h3 := HP.out
        subst h3
        rw [blk?_setSame, kf]
        rfl
end Go.Proofs.YtmlkcgacneealaaDoor
