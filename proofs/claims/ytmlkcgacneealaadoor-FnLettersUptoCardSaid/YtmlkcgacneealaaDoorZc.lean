/- The reference's made and side. Conditions: the text is of bytes and not too long. The reference's six. Conditions: the text is of bytes and not too long. The reference's six, where two colons stand once. Conditions: the text is of bytes and not too long. -/
import Derived.Test.YtmlkcgacneealaaDoorZb
import Derived.Test.YtmlkcgacneealaaDoorZa
set_option linter.unusedVariables false
set_option linter.unusedSimpArgs false
namespace Go.Proofs.YtmlkcgacneealaaDoor
open Go.RowKit

theorem wr_take (G : List Int) (k : Nat) (h : k < G.length) : wrg zb 0 (G.take (k + 1)) = put2 (wrg zb 0 (G.take k)) (2 * k) (G.getD k 0) := by
  rw [List.take_add_one, List.getElem?_eq_getElem h, Option.toList_some, wr_app, List.length_take, Nat.zero_add, Nat.min_eq_left (by omega), List.getD_eq_getElem?_getD, List.getElem?_eq_getElem h]
  rfl
set_option maxHeartbeats 4000000 in
set_option maxRecDepth 100000 in
theorem smade (G : List Int) (hG : G.length = 8) (hr : ∀ v ∈ G, 0 ≤ v ∧ v < 65536) (g c : Nat) (w : World) (hgs : g < w.heap.size) (hc : ∀ i, i < 8 → w.cell? ⟨g, i, none⟩ = some (.int .i64 (G.getD i 0))) :
    Calls Tryd.prog 163 #[.slice (some ⟨g, 0, none⟩) 8 c] w fun e w' => e = .returned (.agg (adr 16 (wrg zb 0 G) ⟨#[]⟩)) ∧ Below w.heap.size w w' := by
  have HC := Lib.hid hc
  have HR := Lib.hid hr
  clear hc hr
  go_enter Tryd.func163, Tryd.ntmps163
  go_wp2
  go_loopw [4, 5, 9] (fun v4 v5 v9 wr => ∃ k : Nat, k ≤ 8 ∧ v9 = .int .i64 (k : Int) ∧ blk? wr (w.heap.size + 1) = some (adr 16 (wrg zb 0 (G.take k)) ⟨#[]⟩) ∧ blk? wr w.heap.size = some (adr 0 zb ⟨#[]⟩) ∧ Below w.heap.size w wr) (fun _ _ v9 _ => 8 - (intOf v9).toNat)
  case atStart => exact ⟨0, by omega, rfl, by rw [List.take_zero, show wrg zb 0 [] = zb from rfl]; go_simp, by go_simp, (by repeat' (first | (with_reducible exact Below.refl _ _) | (with_reducible assumption) | (with_reducible refine Below.alloc ?_ ?_ _) | (with_reducible refine Below.drew ?_) | (with_reducible refine below_drewN ?_ _) | (with_reducible refine Below.setCell ?_ ?_ _) | (with_reducible refine below_setRow' ?_ ?_ _) | go_size))⟩
  case round =>
    obtain ⟨k, hk, rfl, k1, k0, hbw⟩ := hrel
    have hk0 : (0 : Int) ≤ (k : Int) := by omega
    by_cases hlt : k < 8
    · have hk1 : (k : Int) < 8 := by omega
      obtain ⟨J, hJ⟩ : ∃ J : Nat, J = 2 * k := ⟨_, rfl⟩
      obtain ⟨v, hv⟩ : ∃ v, v = G.getD k 0 := ⟨_, rfl⟩
      have hcl : wr.cell? ⟨g, k, none⟩ = some (.int .i64 v) := by rw [hbw.cell (by exact hgs), HC.out k hlt, hv]
      have hvr := HR.out (G.getD k 0) (by rw [List.getD_eq_getElem?_getD, List.getElem?_eq_getElem (by omega)]; exact List.getElem_mem _)
      rw [← hv] at hvr
      obtain ⟨hv0, hv1⟩ := hvr
      have HT := Lib.hid (show wrg zb 0 (G.take (k + 1)) = upd (upd (wrg zb 0 (G.take k)) J (v / 256)) (J + 1) (v % 256) by rw [wr_take G k (by omega), hJ, hv]; rfl)
      obtain ⟨F, hF⟩ : ∃ F, F = wrg zb 0 (G.take k) := ⟨_, rfl⟩
      rw [← hF] at k1 HT
      have hm : (2 : Int) * (k : Int) = (J : Int) := by omega
      have hJ0 : (0 : Int) ≤ (J : Int) := by omega
      have hJ1 : (J : Int) < 16 := by omega
      have hJ2 : (J : Int) + 1 < 16 := by omega
      have hJ3 : (0 : Int) ≤ (J : Int) + 1 := by omega
      have hJn : J + 1 < 16 := by omega
      have hJn0 : J < 16 := by omega
      have hJ4 : ((J : Int) + 1).toNat = J + 1 := by omega
      have hd0 : v.tdiv 256 = v / 256 := Int.tdiv_eq_ediv_of_nonneg hv0
      have hd1 : v.tmod 256 = v % 256 := Int.tmod_eq_emod_of_nonneg hv0
      have hd2 : 0 ≤ v / 256 := by omega
      have hd3 : v / 256 < 256 := by omega
      have hu1 : wr.cell? ⟨w.heap.size + 1, 1 + J, none⟩ = some (.int .u8 (F J)) := by rw [blk?_cell k1]; exact adr_byte' _ _ _ _ (by omega)
      have hu2 : wr.frozen? ⟨w.heap.size + 1, 1 + J, none⟩ = false := blk?_frozen k1 _
      have hk2 : ∀ y : Int, blk? (wr.setCell ⟨w.heap.size + 1, 1 + J, none⟩ (.int .u8 y)) (w.heap.size + 1) = some (adr 16 (upd F J y) ⟨#[]⟩) := fun y => by rw [blk?_setSame, k1, Option.map_some, adr_set' _ _ _ _ _ (by omega)]
      have hu3 : ∀ y : Int, (wr.setCell ⟨w.heap.size + 1, 1 + J, none⟩ (.int .u8 y)).cell? ⟨w.heap.size + 1, 1 + (J + 1), none⟩ = some (.int .u8 (upd F J y (J + 1))) := fun y => by rw [blk?_cell (hk2 y)]; exact adr_byte' _ _ _ _ (by omega)
      have hu4 : ∀ y : Int, (wr.setCell ⟨w.heap.size + 1, 1 + J, none⟩ (.int .u8 y)).frozen? ⟨w.heap.size + 1, 1 + (J + 1), none⟩ = false := fun y => blk?_frozen (hk2 y) _
      have HJ := Lib.hid (And.intro hJn0 hJn)
      have HK2 := Lib.hid hk2
      clear hJ hv hF hk2
      go_wp2
      go_roundw
      case rel => exact ⟨k + 1, by omega, by go_num, by rw [HT.out, blk?_setSame, HK2.out, Option.map_some, adr_set' _ _ _ _ _ HJ.out.2], by rw [blk?_setLt _ _ _ _ _ (by omega), blk?_setLt _ _ _ _ _ (by omega)]; exact k0, (by repeat' (first | (with_reducible exact Below.refl _ _) | (with_reducible assumption) | (with_reducible refine Below.alloc ?_ ?_ _) | (with_reducible refine Below.drew ?_) | (with_reducible refine below_drewN ?_ _) | (with_reducible refine Below.setCell ?_ ?_ _) | (with_reducible refine below_setRow' ?_ ?_ _) | go_size))⟩
      case measure => simp [intOf]; omega
    · have hk1 : ¬ ((k : Int) < 8) := by omega
      obtain rfl : k = 8 := by omega
      rw [List.take_of_length_le (by omega)] at k1
      have hLs := hbw.size
      go_wp2
      refine bodyPost_ret (res25 Tryd.results163 _ _ w.heap.size _ rfl ?_ rfl) rfl ⟨rfl, (by repeat' (first | (with_reducible exact Below.refl _ _) | (with_reducible assumption) | (with_reducible refine Below.alloc ?_ ?_ _) | (with_reducible refine Below.drew ?_) | (with_reducible refine below_drewN ?_ _) | (with_reducible refine Below.setCell ?_ ?_ _) | (with_reducible refine below_setRow' ?_ ?_ _) | go_size))⟩
      go_simp

/-- Numbers as cells. -/
def iv (l : List Int) : List Value := l.map fun v => .int .i64 v
theorem iv_len (l : List Int) : (iv l).length = l.length := by unfold iv; rw [List.length_map]
theorem iv_app (a b : List Int) : iv a ++ iv b = iv (a ++ b) := by unfold iv; rw [List.map_append]
/-- What side hands back. -/
def SideR (w : World) (o : Option (List Int × Bool)) (e : Ending) (w' : World) : Prop := match o with
  | none => e = .returned (.tuple #[.slice none 0 0, .bool false, .bool false]) ∧ Below w.heap.size w w'
  | some (l, pl) => ∃ v, e = .returned (.tuple #[v, .bool pl, .bool true]) ∧ w'.ownsRow w.heap.size 3 1 v l.length (iv l) ∧ Below w.heap.size w w'
theorem SideR_none {w w' : World} {o : Option (List Int × Bool)} {e : Ending} (ho : o = none) (he : e = .returned (.tuple #[.slice none 0 0, .bool false, .bool false])) (hb : Below w.heap.size w w') : SideR w o e w' := by
  subst ho; exact ⟨he, hb⟩
theorem SideR_some {w w' : World} {o : Option (List Int × Bool)} {e : Ending} {l : List Int} {pl : Bool} {v : Value} (ho : o = some (l, pl)) (he : e = .returned (.tuple #[v, .bool pl, .bool true])) (hv : w'.ownsRow w.heap.size 3 1 v l.length (iv l)) (hb : Below w.heap.size w w') : SideR w o e w' := by
  subst ho; exact ⟨v, he, hv, hb⟩
/-- A quad's answer in parts. -/
def qn (o : Option ((Nat → Int) × Bool)) : Int × (Nat → Int) × Bool × Bool := match o with | none => (0, zb, false, false) | some (x, c) => (4, x, c, true)
theorem adrV_qn (o : Option ((Nat → Int) × Bool)) : adrV 4 o = .tuple #[.agg (adr (qn o).1 (qn o).2.1 ⟨#[]⟩), .bool (qn o).2.2.1, .bool (qn o).2.2.2] := by
  rcases o with _ | ⟨x, c⟩ <;> rfl
set_option maxHeartbeats 4000000 in
set_option maxRecDepth 100000 in
theorem sside (s : List Int) (hB : By s) (hs : s.length ≤ 1048576) (last : Bool) (w : World) : Calls Tryd.prog 162 #[.string (ba s), .bool last] w (SideR w (side s last)) := by
  obtain ⟨i0, hi, hz0, hz1, hz2⟩ := info_parts inf3
  have HB := Lib.hid hB
  clear hB
  by_cases c0 : s = []
  · have hem : (ba s).toList.isEmpty = true := by rw [ba_emp, c0]; rfl
    have HN := Lib.hid (show side s last = some ([], true) by unfold side; rw [if_pos c0])
    clear c0
    go_enter Tryd.func162, Tryd.ntmps162
    go_wp2
    go_ret3
    exact SideR_some HN.out rfl (World.ownsRow_nil _ _ _ _) (by repeat' (first | (with_reducible exact Below.refl _ _) | (with_reducible assumption) | (with_reducible refine Below.alloc ?_ ?_ _) | (with_reducible refine Below.drew ?_) | (with_reducible refine below_drewN ?_ _) | (with_reducible refine Below.setCell ?_ ?_ _) | (with_reducible refine below_setRow' ?_ ?_ _) | go_size))
  have hem : (ba s).toList.isEmpty = false := ba_neq s c0
  have HSd := Lib.hid (show side s last = sdg last (spl 58 s) [] true by unfold side; rw [if_neg c0])
  clear c0
  go_enter Tryd.func162, Tryd.ntmps162
  go_upto_region 5 with (first
    | (go_at_call 122; (with_reducible refine (ssplit 58 (by omega) s.length s rfl HB.out hs _).mono ?_); rintro e w1 ⟨vr, rfl, hvr, hB1⟩))
  obtain ⟨g2, cap2, rfl, hg2, hg2l, hm2, hc2, hcell2, hfr2⟩ := owns_cells hvr (List.length_pos_iff.2 (spl_ne 58 s))
  obtain ⟨ps, hps⟩ : ∃ ps, ps = spl 58 s := ⟨_, rfl⟩
  have HPs := Lib.hid hps
  have hlen : ps.length ≤ s.length + 1 := by have := spl_sum 58 s; rw [hps]; omega
  rw [← hps] at hcell2 hm2 HSd ⊢
  have HC := Lib.hid (show ∀ k, k < ps.length → w1.cell? ⟨g2, k, none⟩ = some (.string (ba (ps.getD k []))) from fun k hk => by rw [hcell2 k hk, sv_get ps k hk])
  have HBp := Lib.hid (show ∀ k, k < ps.length → By (ps.getD k []) ∧ (ps.getD k []).length ≤ 1048576 from fun k hk => by
    have := mem_getD ps k hk
    rw [HPs.out] at this
    exact ⟨by rw [HPs.out]; exact spl_by 58 s HB.out _ this, by have := spl_len 58 s _ this; rw [HPs.out]; omega⟩)
  have hS1 : w.heap.size ≤ w1.heap.size := hB1.size
  have HB1 := Lib.hid hB1
  clear hvr hcell2 hfr2 hps hg2 hB1 hem
  go_wp2
  go_loopw [4, 5, 6, 8, 9, 10, 11, 12, 13, 14, 21] (fun v4 v5 v6 v8 v9 v10 v11 v12 v13 v14 v21 wr => ∃ (k : Nat) (l : List Int) (pl : Bool), k ≤ ps.length ∧ side s last = sdg last (ps.drop k) l pl ∧ l.length ≤ 2 * k ∧ wr.ownsRow w1.heap.size 3 1 v4 l.length (iv l) ∧ v5 = .bool pl ∧ v6 = .bool false ∧ v21 = .int .i64 (k : Int) ∧ Below w1.heap.size w1 wr) (fun _ _ _ _ _ _ _ _ _ _ v21 _ => ps.length - (intOf v21).toNat)
  case atStart => exact ⟨0, [], true, by omega, by rw [HSd.out]; rfl, by simp, World.ownsRow_nil _ _ _ _, rfl, rfl, rfl, Below.refl _ _⟩
  case round =>
    obtain ⟨k, l, pl, hk, hq, hll, hown, rfl, rfl, rfl, hbq⟩ := hrel
    have hk0 : (0 : Int) ≤ (k : Int) := by omega
    by_cases hlt : k < ps.length
    · have hk1 : (k : Int) < ((ps.length : Nat) : Int) := by omega
      obtain ⟨p, hp⟩ : ∃ p, p = ps.getD k [] := ⟨_, rfl⟩
      have hcl : wr.cell? ⟨g2, k, none⟩ = some (.string (ba p)) := by rw [hbq.cell (by exact hg2l), HC.out k hlt, hp]
      obtain ⟨hBp, hLp⟩ := HBp.out k hlt
      rw [← hp] at hBp hLp
      have HBP := Lib.hid hBp
      rw [drop_consL ps k hlt, ← hp, sdg] at hq
      clear hBp hp
      go_upto_region 9 with (first
        | (go_at_call 175; (with_reducible refine (snum16 p HBP.out hLp _).mono ?_); rintro e w3 ⟨rfl, hb3⟩; simp only [numV]))
      have hown3 := owns_below hown hb3.block
      have hb13 : Below w1.heap.size w1 w3 := hbq.trans (hb3.mono hbq.size)
      have hS3 := hb13.size
      clear hown hb3 hcl hbq
      cases hn : numB 16 hxd 4 p with
      | some v =>
        rw [hn] at hq
        dsimp only at hq
        simp only [Option.isSome_some, Option.getD_some]
        have HQ := Lib.hid hq
        have HBB := Lib.hid hb13
        clear hq hn
        go_wp2_with (at_builtin; refine wpList_append_own _ rfl _ _ 62 rfl w1.heap.size 3 i0 (.int .i64 0) 1 8 Tryd.underlying62 hi hz0 hz1 hz2 rfl (by decide) _ _ _ rfl (hown3.alloc _) ⟨w3.heap.size, 0, none⟩ 1 1 [.int .i64 v] rfl rfl ?c1 ?c2 ?c3 ?c4 ?c5 ?_)
        case c1 =>
          intro j u hj
          match j, hj with
          | 0, hj => simp at hj; subst hj; simp [Addr.add]
        case c2 => intro u hu; simp at hu; subst hu; rfl
        case c3 => unfold maxLen; omega
        case c4 => omega
        case c5 => simp; omega
        intro v' wF hownF hgrow _
        have hbF : Below w1.heap.size w1 wF := (HBB.out.alloc (by omega) _).grown hgrow (by simp; omega) (fun j e => by have := ownBlock_ge hown3 e; omega)
        rw [show (iv l ++ [.int .i64 v] : List Value) = iv (l ++ [v]) from iv_app l [v], show l.length + 1 = (l ++ [v]).length by simp] at hownF
        clear hgrow hown3 hb13
        go_wp2
        go_roundw
        case rel => exact ⟨k + 1, l ++ [v], pl, by omega, HQ.out, by simp; omega, hownF, rfl, rfl, by go_num, hbF⟩
        case measure => simp [intOf]; omega
      | none =>
        rw [hn] at hq
        dsimp only at hq
        simp only [Option.isSome_none, Option.getD_none]
        obtain ⟨Q, hQ⟩ : ∃ Q, Q = qd p := ⟨_, rfl⟩
        have HQd := Lib.hid (show ∀ ww : World, Calls Tryd.prog 123 #[.string (ba p)] ww fun e w' => e = .returned (.tuple #[.agg (adr (qn Q).1 (qn Q).2.1 ⟨#[]⟩), .bool (qn Q).2.2.1, .bool (qn Q).2.2.2]) ∧ Below ww.heap.size ww w' from fun ww => by rw [hQ, ← adrV_qn]; exact squad p HBP.out hLp ww)
        have HQx' := Lib.hid hQ
        rw [← hQ] at hq
        clear hn hQ
        go_upto_region 11 with fail
        go_cut [12, 13, 14] from 22 to 82 (fun v12 v13 v14 wx => ∃ g12 : Nat, v12 = .pointer (some ⟨g12, 0, none⟩) ∧ v13 = .bool (qn Q).2.2.1 ∧ v14 = .bool (qn Q).2.2.2 ∧ w3.heap.size ≤ g12 ∧ blk? wx g12 = some (adr (qn Q).1 (qn Q).2.1 ⟨#[]⟩) ∧ Below w3.heap.size w3 wx)
        case first =>
          go_wp2_with (first
            | (go_at_call 123; (with_reducible refine (HQd.out _).mono ?_); rintro e w4 ⟨rfl, hb4⟩; have hS4 := hb4.size))
          go_meet
          exact ⟨_, rfl, rfl, rfl, hS4, by go_simp, (by repeat' (first | (with_reducible exact Below.refl _ _) | (with_reducible assumption) | (with_reducible refine Below.alloc ?_ ?_ _) | (with_reducible refine Below.drew ?_) | (with_reducible refine below_drewN ?_ _) | (with_reducible refine Below.setCell ?_ ?_ _) | (with_reducible refine below_setRow' ?_ ?_ _) | go_size))⟩
        case rest =>
          obtain ⟨g12, rfl, rfl, rfl, hg12, k12, hb4⟩ := hcut
          have hown4 := owns_below hown3 hb4.block
          have hS4 := hb4.size
          have hb14 : Below w1.heap.size w1 wc := hb13.trans (hb4.mono hS3)
          have HBB := Lib.hid (HB1.out.trans (hb14.mono hS1))
          have hw3 : w.heap.size ≤ wc.heap.size := HBB.out.size
          clear hown3 hb13 hb4
          apply_assumption
          cases Q with
          | none =>
            have HN := Lib.hid (show side s last = none from hq)
            dsimp only [qn]
            clear hq
            go_wp2
            go_ret3
            exact SideR_none HN.out rfl HBB.out
          | some u =>
            obtain ⟨x, c⟩ := u
            dsimp only at hq
            dsimp only [qn] at k12 ⊢
            cases last with
            | false =>
              rw [if_neg (by simp)] at hq
              have HN := Lib.hid hq
              clear hq
              go_wp2
              go_ret3
              exact SideR_none HN.out rfl HBB.out
            | true =>
              by_cases hk2 : k + 1 = ps.length
              · rw [if_pos ⟨rfl, List.drop_eq_nil_of_le (by omega)⟩] at hq
                have HQ := Lib.hid hq
                have hxr := qd_rng p x c HQx'.out.symm
                have hk3 : ¬ ((k : Int) < ((ps.length : Nat) : Int) - 1) := by omega
                have hc0 : wc.cell? ⟨g12, 1, none⟩ = some (.int .u8 (x 0)) := by rw [blk?_cell k12]; exact adr_byte0 _ _ _
                have hc1 : wc.cell? ⟨g12, 2, none⟩ = some (.int .u8 (x 1)) := by rw [blk?_cell k12]; exact adr_byte1 _ _ _
                have hc2 : wc.cell? ⟨g12, 3, none⟩ = some (.int .u8 (x 2)) := by rw [blk?_cell k12]; exact adr_byte2 _ _ _
                have hc3 : wc.cell? ⟨g12, 4, none⟩ = some (.int .u8 (x 3)) := by rw [blk?_cell k12]; exact adr_byte3 _ _ _
                obtain ⟨x0, hx0⟩ : ∃ y, y = x 0 := ⟨_, rfl⟩
                obtain ⟨x1, hx1⟩ : ∃ y, y = x 1 := ⟨_, rfl⟩
                obtain ⟨x2, hx2⟩ : ∃ y, y = x 2 := ⟨_, rfl⟩
                obtain ⟨x3, hx3⟩ : ∃ y, y = x 3 := ⟨_, rfl⟩
                rw [← hx0] at hc0
                rw [← hx1] at hc1
                rw [← hx2] at hc2
                rw [← hx3] at hc3
                have r0 := hxr 0; have r1 := hxr 1; have r2 := hxr 2; have r3 := hxr 3
                rw [← hx0] at r0
                rw [← hx1] at r1
                rw [← hx2] at r2
                rw [← hx3] at r3
                rw [← hx0, ← hx1, ← hx2, ← hx3] at HQ
                obtain ⟨r00, r01⟩ := r0
                obtain ⟨r10, r11⟩ := r1
                obtain ⟨r20, r21⟩ := r2
                obtain ⟨r30, r31⟩ := r3
                have s0 := wr64 (x0 * 256) (by omega) (by omega)
                have s1 := wr64 (x0 * 256 + x1) (by omega) (by omega)
                have s2 := wr64 (x2 * 256) (by omega) (by omega)
                have s3 := wr64 (x2 * 256 + x3) (by omega) (by omega)
                have s4 := wr64 x0 (by omega) (by omega)
                have s5 := wr64 x1 (by omega) (by omega)
                have s6 := wr64 x2 (by omega) (by omega)
                have s7 := wr64 x3 (by omega) (by omega)
                have HB14 := Lib.hid hb14
                clear hq hxr hx0 hx1 hx2 hx3 k12 hb14
                go_wp2_with (at_builtin; refine wpList_append_own _ rfl _ _ 62 rfl w1.heap.size 3 i0 (.int .i64 0) 1 8 Tryd.underlying62 hi hz0 hz1 hz2 rfl (by decide) _ _ _ rfl (hown4.alloc _) ⟨wc.heap.size, 0, none⟩ 2 2 [.int .i64 (x0 * 256 + x1), .int .i64 (x2 * 256 + x3)] rfl rfl (fun j u hj => by match j, hj with | 0, hj => simp at hj; subst hj; simp [Addr.add] | 1, hj => simp at hj; subst hj; simp [Addr.add]) (fun u hu => by simp at hu; rcases hu with rfl | rfl <;> rfl) (by unfold maxLen; omega) (by omega) (by simp; omega) ?_)
                intro v' wF hownF hgrow _
                have hbF : Below w1.heap.size w1 wF := (HB14.out.alloc (by omega) _).grown hgrow (by simp; omega) (fun j e => by have := ownBlock_ge hown4 e; omega)
                rw [show (iv l ++ [.int .i64 (x0 * 256 + x1), .int .i64 (x2 * 256 + x3)] : List Value) = iv (l ++ [x0 * 256 + x1, x2 * 256 + x3]) from iv_app l [x0 * 256 + x1, x2 * 256 + x3], show l.length + 2 = (l ++ [x0 * 256 + x1, x2 * 256 + x3]).length by simp] at hownF
                clear hgrow hown4
                cases pl
                · go_wp2
                  go_roundw
                  case rel => exact ⟨k + 1, l ++ [x0 * 256 + x1, x2 * 256 + x3], false, by omega, HQ.out, by simp; omega, hownF, rfl, rfl, by go_num, hbF⟩
                  case measure => simp [intOf]; omega
                · go_wp2
                  go_roundw
                  case rel => exact ⟨k + 1, l ++ [x0 * 256 + x1, x2 * 256 + x3], _, by omega, HQ.out, by simp; omega, hownF, by simp, rfl, by go_num, hbF⟩
                  case measure => simp [intOf]; omega
              · rw [if_neg (by rintro ⟨_, h⟩; have := congrArg List.length h; rw [List.length_drop] at this; simp at this; omega)] at hq
                have HN := Lib.hid hq
                have hk3 : (k : Int) < ((ps.length : Nat) : Int) - 1 := by omega
                clear hq
                go_wp2
                go_ret3
                exact SideR_none HN.out rfl HBB.out
    · have hk1 : ¬ ((k : Int) < ((ps.length : Nat) : Int)) := by omega
      obtain rfl : k = ps.length := by omega
      rw [List.drop_length, sdg] at hq
      have HN := Lib.hid hq
      have HBB := Lib.hid (HB1.out.trans (hbq.mono hS1))
      have HO := Lib.hid (owns_mono hown hS1)
      clear hq
      go_wp2
      go_ret3
      exact SideR_some HN.out rfl HO.out HBB.out
end Go.Proofs.YtmlkcgacneealaaDoor
set_option linter.unusedVariables false
set_option linter.unusedSimpArgs false
namespace Go.Proofs.YtmlkcgacneealaaDoor
open Go.RowKit

/-- Where two colons stand among the first i places. -/
def cck (s : List Int) (i : Nat) : List Nat := (List.range i).filter fun j => decide (s.getD j 0 = 58 ∧ s.getD (j + 1) 0 = 58)
def cci (s : List Int) (i : Nat) : List Int := (cck s i).map fun (j : Nat) => (j : Int)
theorem cck_succ (s : List Int) (i : Nat) : cck s (i + 1) = cck s i ++ (if s.getD i 0 = 58 ∧ s.getD (i + 1) 0 = 58 then [i] else []) := by
  unfold cck
  rw [List.range_succ, List.filter_append]
  congr 1
  by_cases c : s.getD i 0 = 58 ∧ s.getD (i + 1) 0 = 58
  · rw [if_pos c, List.filter_cons, if_pos (decide_eq_true c)]; rfl
  · rw [if_neg c, List.filter_cons, if_neg (by simpa using c)]; rfl
theorem cck_all : ∀ s : List Int, cck s s.length = cc s
  | [] => rfl
  | x :: t => by
    have ih := cck_all t
    rw [cc]
    unfold cck at ih ⊢
    rw [List.length_cons, List.range_succ_eq_map, List.filter_cons, List.filter_map, ← ih]
    have hh : (t.getD 0 0 = 58) ↔ t.head? = some 58 := by cases t <;> simp
    by_cases c : x = 58 ∧ t.head? = some 58
    · rw [if_pos c, if_pos (by simp only [List.getD_cons_zero, List.getD_cons_succ, decide_eq_true_eq]; exact ⟨c.1, hh.2 c.2⟩)]
      congr 1
    · rw [if_neg c, if_neg (by simp only [List.getD_cons_zero, List.getD_cons_succ, decide_eq_true_eq]; exact fun k => c ⟨k.1, hh.1 k.2⟩)]
      congr 1
theorem cci_len (s : List Int) (i : Nat) : (cci s i).length = (cck s i).length := by unfold cci; rw [List.length_map]
theorem cck_le (s : List Int) (i : Nat) : (cck s i).length ≤ i := by
  unfold cck
  have := List.length_filter_le (fun j => decide (s.getD j 0 = 58 ∧ s.getD (j + 1) 0 = 58)) (List.range i)
  rw [List.length_range] at this; exact this
theorem ba_subx (s : List Int) (k m : Nat) : (ba s).extract k m = ba ((s.take m).drop k) := by
  apply ByteArray.ext
  simp [ba, List.map_drop, List.map_take, List.drop_take]
theorem two_cut (s : List Int) (i : Nat) (h : i + 1 < s.length) : (s.take (i + 2)).drop i = [s.getD i 0, s.getD (i + 1) 0] := by
  apply List.ext_getElem?
  intro k
  rw [List.getElem?_drop]
  match k with
  | 0 => rw [List.getElem?_take_of_lt (by omega), List.getD_eq_getElem?_getD, Nat.add_zero, List.getElem?_eq_getElem (by omega)]; rfl
  | 1 => rw [List.getElem?_take_of_lt (by omega), List.getD_eq_getElem?_getD, List.getD_eq_getElem?_getD, List.getElem?_eq_getElem h]; rfl
  | k + 2 => rw [List.getElem?_eq_none (by rw [List.length_take]; omega), List.getElem?_eq_none (by simp)]
theorem u8_58 (a : Int) (h : 0 ≤ a ∧ a < 256) : (UInt8.ofNat a.toNat == 58) = decide (a = 58) := by
  rw [Bool.eq_iff_iff, beq_iff_eq, decide_eq_true_eq]
  constructor
  · intro e
    have := congrArg UInt8.toNat e
    simp at this
    omega
  · intro e; rw [e]; rfl
theorem two_eq (s : List Int) (hB : By s) (i : Nat) (h : i + 1 < s.length) : (((ba s).extract i (i + 2)).toList == ([58, 58] : List UInt8)) = decide (s.getD i 0 = 58 ∧ s.getD (i + 1) 0 = 58) := by
  have hb : ∀ k, k < s.length → 0 ≤ s.getD k 0 ∧ s.getD k 0 < 256 := fun k hk => by
    rw [List.getD_eq_getElem?_getD, List.getElem?_eq_getElem hk]; exact hB _ (List.getElem_mem hk)
  rw [ba_subx, two_cut s i h, ByteArray.toList_eq]
  show ([UInt8.ofNat (s.getD i 0).toNat, UInt8.ofNat (s.getD (i + 1) 0).toNat] == ([58, 58] : List UInt8)) = _
  have e0 := u8_58 _ (hb i (by omega))
  have e1 := u8_58 _ (hb (i + 1) h)
  show ((UInt8.ofNat (s.getD i 0).toNat == 58) && ((UInt8.ofNat (s.getD (i + 1) 0).toNat == 58) && true)) = _
  rw [e0, e1, Bool.and_true, Bool.decide_and]
theorem owns_shape {w : World} {base size n : Nat} {e : TypeId} {v : Value} {xs : List Value} (h : w.ownsRow base e size v n xs) : ∃ a c, v = .slice a n c := by
  rcases h.2 with ⟨rfl, rfl⟩ | ⟨g, cap, cur, rfl, _⟩
  · exact ⟨_, _, rfl⟩
  · exact ⟨_, _, rfl⟩
set_option maxHeartbeats 4000000 in
set_option maxRecDepth 100000 in
theorem six_many (s : List Int) (hB : By s) (hs : s.length ≤ 1048576) (h : 1 < (cc s).length) (w : World) : Calls Tryd.prog 125 #[.string (ba s)] w fun e w' => e = .returned (adrV 16 (sx s)) ∧ Below w.heap.size w w' := by
  obtain ⟨i0, hi, hz0, hz1, hz2⟩ := info_parts inf3
  have HB := Lib.hid hB
  have HSz := Lib.hid (ba_size s)
  have hsm : (((ba s).size : Nat) : Int) ≤ 1048576 := by rw [ba_size]; omega
  have HN := Lib.hid (show sx s = none by
    unfold sx
    match hc : cc s, h with
    | [], h => simp at h
    | [a], h => simp at h
    | a :: b :: r, _ => rfl)
  clear hB
  go_enter Tryd.func125, Tryd.ntmps125
  go_wp2
  go_loopw [5, 6, 18] (fun v5 v6 v18 wr => ∃ i : Nat, i ≤ s.length ∧ wr.ownsRow (w.heap.size + 1) 3 1 v5 (cck s i).length (iv (cci s i)) ∧ v18 = .int .i64 (i : Int) ∧ blk? wr w.heap.size = some (adr 0 zb ⟨#[]⟩) ∧ Below w.heap.size w wr ∧ w.heap.size + 1 ≤ wr.heap.size) (fun _ _ v18 _ => s.length - (intOf v18).toNat)
  case atStart => exact ⟨0, by omega, World.ownsRow_nil _ _ _ _, rfl, by go_simp, (by repeat' (first | (with_reducible exact Below.refl _ _) | (with_reducible assumption) | (with_reducible refine Below.alloc ?_ ?_ _) | (with_reducible refine Below.drew ?_) | (with_reducible refine below_drewN ?_ _) | (with_reducible refine Below.setCell ?_ ?_ _) | (with_reducible refine below_setRow' ?_ ?_ _) | go_size)), by simp⟩
  case round =>
    obtain ⟨i, hi9, hown, rfl, k0, hbw, hS⟩ := hrel
    have hsz := HSz.out
    have hi0 : (0 : Int) ≤ (i : Int) := by omega
    have hcl := cck_le s i
    by_cases hlt : i < s.length
    · have hi1 : (i : Int) < (((ba s).size : Nat) : Int) := by omega
      have hi3 : (0 : Int) ≤ (i : Int) + 2 := by omega
      have hi4 := wr64 ((i : Int) + 1) (by omega) (by omega)
      have hi5 := wr64 ((i : Int) + 2) (by omega) (by omega)
      have hi6 : ((i : Int) + 2).toNat = i + 2 := by omega
      have hi7 : (i : Int) ≤ (i : Int) + 2 := by omega
      by_cases c : s.getD i 0 = 58 ∧ s.getD (i + 1) 0 = 58
      · have hl1 : i + 1 < s.length := by
          by_cases q : i + 1 < s.length
          · exact q
          · have := c.2
            rw [List.getD_eq_getElem?_getD, List.getElem?_eq_none (by omega)] at this
            simp at this
        have hi2 : (i : Int) + 1 < (((ba s).size : Nat) : Int) := by omega
        have hi8 : (i : Int) + 2 ≤ (((ba s).size : Nat) : Int) := by omega
        have hX := two_eq s HB.out i hl1
        rw [decide_eq_true c] at hX
        have HC := Lib.hid (show cck s (i + 1) = cck s i ++ [i] ∧ cci s (i + 1) = cci s i ++ [(i : Int)] by
          have := cck_succ s i
          rw [if_pos c] at this
          exact ⟨this, by unfold cci; rw [this, List.map_append]; rfl⟩)
        have HBW := Lib.hid hbw
        have HK0 := Lib.hid k0
        clear c hsz hl1 hbw k0
        go_wp2_with (at_builtin; refine wpList_append_own _ rfl _ _ 62 rfl (w.heap.size + 1) 3 i0 (.int .i64 0) 1 8 Tryd.underlying62 hi hz0 hz1 hz2 rfl (by decide) _ _ _ rfl (hown.alloc _) ⟨wr.heap.size, 0, none⟩ 1 1 [.int .i64 (i : Int)] rfl rfl ?a1 ?a2 ?a3 ?a4 ?a5 ?_)
        case a1 =>
          intro j u hj
          match j, hj with
          | 0, hj => simp at hj; subst hj; simp [Addr.add]
        case a2 => intro u hu; simp at hu; subst hu; rfl
        case a3 => unfold maxLen; omega
        case a4 => omega
        case a5 => simp; omega
        intro v' wF hownF hgrow _
        have hbF : Below w.heap.size w wF := (HBW.out.alloc (by omega) _).grown hgrow (by simp; omega) (fun j e => by have := ownBlock_ge hown e; omega)
        have k0F : blk? wF w.heap.size = some (adr 0 zb ⟨#[]⟩) := by
          rw [blk_grown hgrow (by simp; omega) (fun e => by have := ownBlock_ge hown e; omega), blk?_old _ _ _ (by omega)]; exact HK0.out
        have hSF : w.heap.size + 1 ≤ wF.heap.size := by have := hgrow.size; simp at this; omega
        rw [show (iv (cci s i) ++ [.int .i64 (i : Int)] : List Value) = iv (cci s (i + 1)) by rw [HC.out.2]; exact iv_app _ [(i : Int)], show (cck s i).length + 1 = (cck s (i + 1)).length by rw [HC.out.1]; simp] at hownF
        clear hgrow hown
        go_wp2
        go_roundw
        case rel => exact ⟨i + 1, by omega, hownF, by go_num, k0F, hbF, hSF⟩
        case measure => simp [intOf]; omega
      · have HC := Lib.hid (show cck s (i + 1) = cck s i ∧ cci s (i + 1) = cci s i by
          have := cck_succ s i
          rw [if_neg c, List.append_nil] at this
          exact ⟨this, by unfold cci; rw [this]⟩)
        by_cases hl1 : i + 1 < s.length
        · have hi2 : (i : Int) + 1 < (((ba s).size : Nat) : Int) := by omega
          have hi8 : (i : Int) + 2 ≤ (((ba s).size : Nat) : Int) := by omega
          have hX := two_eq s HB.out i hl1
          rw [decide_eq_false c] at hX
          clear c hsz hl1
          go_wp2
          go_roundw
          case rel => exact ⟨i + 1, by omega, by rw [HC.out.1, HC.out.2]; exact hown, by go_num, k0, hbw, hS⟩
          case measure => simp [intOf]; omega
        · have hi2 : ¬ ((i : Int) + 1 < (((ba s).size : Nat) : Int)) := by omega
          clear c hsz hl1
          go_wp2
          go_roundw
          case rel => exact ⟨i + 1, by omega, by rw [HC.out.1, HC.out.2]; exact hown, by go_num, k0, hbw, hS⟩
          case measure => simp [intOf]; omega
    · have hi1 : ¬ ((i : Int) < (((ba s).size : Nat) : Int)) := by omega
      obtain rfl : i = s.length := by omega
      rw [cck_all] at hown
      have hcs : cci s s.length = (cc s).map fun (j : Nat) => (j : Int) := by unfold cci; rw [cck_all]
      rw [hcs] at hown
      clear hsz hcl hcs hi0
      obtain ⟨a9, c9, rfl⟩ := owns_shape hown
      have hn : (1 : Int) < (((cc s).length : Nat) : Int) := by omega
      clear h hown
      go_wp2
      refine bodyPost_ret (res25tt Tryd.results125 _ _ w.heap.size _ rfl ?_ rfl) rfl ⟨by rw [HN.out]; rfl, (by repeat' (first | (with_reducible exact Below.refl _ _) | (with_reducible assumption) | (with_reducible refine Below.alloc ?_ ?_ _) | (with_reducible refine Below.drew ?_) | (with_reducible refine below_drewN ?_ _) | (with_reducible refine Below.setCell ?_ ?_ _) | (with_reducible refine below_setRow' ?_ ?_ _) | go_size))⟩
      go_simp

theorem sdg_rng (last : Bool) : ∀ (ps : List (List Int)) (l : List Int) (pl c : Bool) (g : List Int), (∀ v ∈ l, 0 ≤ v ∧ v < 65536) → sdg last ps l pl = some (g, c) → ∀ v ∈ g, 0 ≤ v ∧ v < 65536
  | [], l, pl, c, g, hl, h => by
    simp only [sdg, Option.some.injEq, Prod.mk.injEq] at h
    rw [← h.1]; exact hl
  | p :: r, l, pl, c, g, hl, h => by
    rw [sdg] at h
    cases hn : numB 16 hxd 4 p with
    | some n =>
      rw [hn] at h
      dsimp only at h
      refine sdg_rng last r (l ++ [n]) pl c g (fun v hv => ?_) h
      rcases List.mem_append.1 hv with k | k
      · exact hl v k
      · rw [List.mem_singleton.1 k]; exact Gk_rng (num16 p n hn)
    | none =>
      rw [hn] at h
      dsimp only at h
      cases hq : qd p with
      | none => rw [hq] at h; cases h
      | some u =>
        obtain ⟨x, b⟩ := u
        rw [hq] at h
        dsimp only at h
        by_cases c1 : last = true ∧ r = []
        · rw [if_pos c1] at h
          have hx := qd_rng p x b hq
          refine sdg_rng last r _ _ c g (fun v hv => ?_) h
          rcases List.mem_append.1 hv with k | k
          · exact hl v k
          · have h0 := hx 0; have h1 := hx 1; have h2 := hx 2; have h3 := hx 3
            simp at k
            rcases k with k | k <;> rw [k] <;> omega
        · rw [if_neg c1] at h; cases h
theorem sdg_len (last : Bool) : ∀ (ps : List (List Int)) (l : List Int) (pl c : Bool) (g : List Int), sdg last ps l pl = some (g, c) → g.length ≤ l.length + 2 * ps.length
  | [], l, pl, c, g, h => by
    simp only [sdg, Option.some.injEq, Prod.mk.injEq] at h
    rw [← h.1]; omega
  | p :: r, l, pl, c, g, h => by
    rw [sdg] at h
    cases hn : numB 16 hxd 4 p with
    | some n =>
      rw [hn] at h
      have := sdg_len last r _ _ _ _ h
      simp at this ⊢; omega
    | none =>
      rw [hn] at h
      dsimp only at h
      cases hq : qd p with
      | none => rw [hq] at h; cases h
      | some u =>
        obtain ⟨x, b⟩ := u
        rw [hq] at h
        dsimp only at h
        by_cases c1 : last = true ∧ r = []
        · rw [if_pos c1] at h
          have := sdg_len last r _ _ _ _ h
          simp at this ⊢; omega
        · rw [if_neg c1] at h; cases h
/-- side's answer in parts. -/
def so (o : Option (List Int × Bool)) : List Int × Bool × Bool := match o with | none => ([], false, false) | some (l, pl) => (l, pl, true)
theorem so_rng (s : List Int) (last : Bool) : ∀ v ∈ (so (side s last)).1, 0 ≤ v ∧ v < 65536 := by
  cases h : side s last with
  | none => intro v hv; simp [so] at hv
  | some u =>
    obtain ⟨g, c⟩ := u
    unfold side at h
    by_cases c0 : s = []
    · rw [if_pos c0] at h
      simp only [Option.some.injEq, Prod.mk.injEq] at h
      rw [← h.1]; intro v hv; simp [so] at hv
    · rw [if_neg c0] at h
      exact sdg_rng last _ _ _ _ _ (fun v hv => by simp at hv) h
theorem so_len (s : List Int) (last : Bool) : (so (side s last)).1.length ≤ 2 * (s.length + 1) := by
  cases h : side s last with
  | none => simp [so]
  | some u =>
    obtain ⟨g, c⟩ := u
    unfold side at h
    by_cases c0 : s = []
    · rw [if_pos c0] at h
      simp only [Option.some.injEq, Prod.mk.injEq] at h
      simp [so, ← h.1]
    · rw [if_neg c0] at h
      have h1 := sdg_len _ _ _ _ _ _ h
      have h2 := spl_sum 58 s
      simp only [so, List.length_nil] at h1 ⊢
      omega
theorem sideG (s : List Int) (hB : By s) (hs : s.length ≤ 1048576) (last : Bool) (w : World) : Calls Tryd.prog 162 #[.string (ba s), .bool last] w fun e w' => ∃ v, e = .returned (.tuple #[v, .bool (so (side s last)).2.1, .bool (so (side s last)).2.2]) ∧ w'.ownsRow w.heap.size 3 1 v (so (side s last)).1.length (iv (so (side s last)).1) ∧ Below w.heap.size w w' := by
  refine (sside s hB hs last w).mono ?_
  intro e w' h
  cases hs : side s last with
  | none => rw [hs] at h; exact ⟨_, h.1, World.ownsRow_nil _ _ _ _, h.2⟩
  | some u => rw [hs] at h; obtain ⟨v, h1, h2, h3⟩ := h; exact ⟨v, h1, h2, h3⟩
theorem iv_get (l : List Int) (k : Nat) (h : k < l.length) : (iv l)[k]? = some (.int .i64 (l.getD k 0)) := by
  unfold iv
  rw [List.getElem?_map, List.getElem?_eq_getElem h, List.getD_eq_getElem?_getD, List.getElem?_eq_getElem h]; rfl
set_option maxHeartbeats 4000000 in
set_option maxRecDepth 100000 in
theorem six_none (s : List Int) (hB : By s) (hs : s.length ≤ 1048576) (h : cc s = []) (w : World) : Calls Tryd.prog 125 #[.string (ba s)] w fun e w' => e = .returned (adrV 16 (sx s)) ∧ Below w.heap.size w w' := by
  obtain ⟨i0, hi, hz0, hz1, hz2⟩ := info_parts inf3
  have HB := Lib.hid hB
  have HSz := Lib.hid (ba_size s)
  have hsm : (((ba s).size : Nat) : Int) ≤ 1048576 := by rw [ba_size]; omega
  have HN := Lib.hid (show sx s = (match side s true with | none => none | some (g, pl) => if g.length = 8 then some (wrg zb 0 g, pl) else none) by unfold sx; rw [h]; rfl)
  clear hB
  go_enter Tryd.func125, Tryd.ntmps125
  go_wp2
  go_loopw [5, 6, 18] (fun v5 v6 v18 wr => ∃ i : Nat, i ≤ s.length ∧ wr.ownsRow (w.heap.size + 1) 3 1 v5 (cck s i).length (iv (cci s i)) ∧ v18 = .int .i64 (i : Int) ∧ blk? wr w.heap.size = some (adr 0 zb ⟨#[]⟩) ∧ Below w.heap.size w wr ∧ w.heap.size + 1 ≤ wr.heap.size) (fun _ _ v18 _ => s.length - (intOf v18).toNat)
  case atStart => exact ⟨0, by omega, World.ownsRow_nil _ _ _ _, rfl, by go_simp, (by repeat' (first | (with_reducible exact Below.refl _ _) | (with_reducible assumption) | (with_reducible refine Below.alloc ?_ ?_ _) | (with_reducible refine Below.drew ?_) | (with_reducible refine below_drewN ?_ _) | (with_reducible refine Below.setCell ?_ ?_ _) | (with_reducible refine below_setRow' ?_ ?_ _) | go_size)), by simp⟩
  case round =>
    obtain ⟨i, hi9, hown, rfl, k0, hbw, hS⟩ := hrel
    have hsz := HSz.out
    have hi0 : (0 : Int) ≤ (i : Int) := by omega
    have hcl := cck_le s i
    by_cases hlt : i < s.length
    · have hi1 : (i : Int) < (((ba s).size : Nat) : Int) := by omega
      have hi3 : (0 : Int) ≤ (i : Int) + 2 := by omega
      have hi4 := wr64 ((i : Int) + 1) (by omega) (by omega)
      have hi5 := wr64 ((i : Int) + 2) (by omega) (by omega)
      have hi6 : ((i : Int) + 2).toNat = i + 2 := by omega
      have hi7 : (i : Int) ≤ (i : Int) + 2 := by omega
      by_cases c : s.getD i 0 = 58 ∧ s.getD (i + 1) 0 = 58
      · have hl1 : i + 1 < s.length := by
          by_cases q : i + 1 < s.length
          · exact q
          · have := c.2
            rw [List.getD_eq_getElem?_getD, List.getElem?_eq_none (by omega)] at this
            simp at this
        have hi2 : (i : Int) + 1 < (((ba s).size : Nat) : Int) := by omega
        have hi8 : (i : Int) + 2 ≤ (((ba s).size : Nat) : Int) := by omega
        have hX := two_eq s HB.out i hl1
        rw [decide_eq_true c] at hX
        have HC := Lib.hid (show cck s (i + 1) = cck s i ++ [i] ∧ cci s (i + 1) = cci s i ++ [(i : Int)] by
          have := cck_succ s i
          rw [if_pos c] at this
          exact ⟨this, by unfold cci; rw [this, List.map_append]; rfl⟩)
        have HBW := Lib.hid hbw
        have HK0 := Lib.hid k0
        clear c hsz hl1 hbw k0
        go_wp2_with (at_builtin; refine wpList_append_own _ rfl _ _ 62 rfl (w.heap.size + 1) 3 i0 (.int .i64 0) 1 8 Tryd.underlying62 hi hz0 hz1 hz2 rfl (by decide) _ _ _ rfl (hown.alloc _) ⟨wr.heap.size, 0, none⟩ 1 1 [.int .i64 (i : Int)] rfl rfl ?a1 ?a2 ?a3 ?a4 ?a5 ?_)
        case a1 =>
          intro j u hj
          match j, hj with
          | 0, hj => simp at hj; subst hj; simp [Addr.add]
        case a2 => intro u hu; simp at hu; subst hu; rfl
        case a3 => unfold maxLen; omega
        case a4 => omega
        case a5 => simp; omega
        intro v' wF hownF hgrow _
        have hbF : Below w.heap.size w wF := (HBW.out.alloc (by omega) _).grown hgrow (by simp; omega) (fun j e => by have := ownBlock_ge hown e; omega)
        have k0F : blk? wF w.heap.size = some (adr 0 zb ⟨#[]⟩) := by
          rw [blk_grown hgrow (by simp; omega) (fun e => by have := ownBlock_ge hown e; omega), blk?_old _ _ _ (by omega)]; exact HK0.out
        have hSF : w.heap.size + 1 ≤ wF.heap.size := by have := hgrow.size; simp at this; omega
        rw [show (iv (cci s i) ++ [.int .i64 (i : Int)] : List Value) = iv (cci s (i + 1)) by rw [HC.out.2]; exact iv_app _ [(i : Int)], show (cck s i).length + 1 = (cck s (i + 1)).length by rw [HC.out.1]; simp] at hownF
        clear hgrow hown
        go_wp2
        go_roundw
        case rel => exact ⟨i + 1, by omega, hownF, by go_num, k0F, hbF, hSF⟩
        case measure => simp [intOf]; omega
      · have HC := Lib.hid (show cck s (i + 1) = cck s i ∧ cci s (i + 1) = cci s i by
          have := cck_succ s i
          rw [if_neg c, List.append_nil] at this
          exact ⟨this, by unfold cci; rw [this]⟩)
        by_cases hl1 : i + 1 < s.length
        · have hi2 : (i : Int) + 1 < (((ba s).size : Nat) : Int) := by omega
          have hi8 : (i : Int) + 2 ≤ (((ba s).size : Nat) : Int) := by omega
          have hX := two_eq s HB.out i hl1
          rw [decide_eq_false c] at hX
          clear c hsz hl1
          go_wp2
          go_roundw
          case rel => exact ⟨i + 1, by omega, by rw [HC.out.1, HC.out.2]; exact hown, by go_num, k0, hbw, hS⟩
          case measure => simp [intOf]; omega
        · have hi2 : ¬ ((i : Int) + 1 < (((ba s).size : Nat) : Int)) := by omega
          clear c hsz hl1
          go_wp2
          go_roundw
          case rel => exact ⟨i + 1, by omega, by rw [HC.out.1, HC.out.2]; exact hown, by go_num, k0, hbw, hS⟩
          case measure => simp [intOf]; omega
    · have hi1 : ¬ ((i : Int) < (((ba s).size : Nat) : Int)) := by omega
      obtain rfl : i = s.length := by omega
      rw [cck_all] at hown
      have hcs : cci s s.length = (cc s).map fun (j : Nat) => (j : Int) := by unfold cci; rw [cck_all]
      rw [hcs] at hown
      clear hsz hcl hcs hi0
      rw [h] at hown
      obtain ⟨a9, c9, rfl⟩ := owns_shape hown
      clear h hown
      go_upto_region 12 with (first
        | (go_at_call 162; (with_reducible refine (sideG s HB.out hs true _).mono ?_); rintro e w1 ⟨v1, rfl, hv1, hb1⟩))
      have k01 : blk? w1 w.heap.size = some (adr 0 zb ⟨#[]⟩) := by rw [blk?_below hb1 _ (by omega)]; exact k0
      have hb01 : Below w.heap.size w w1 := hbw.trans (hb1.mono hbw.size)
      have hrg := so_rng s true
      have hl0 := blk?_lt k01
      cases hsd : side s true with
      | none =>
        rw [hsd] at HN hv1
        have HM := Lib.hid (show sx s = none from HN.out)
        dsimp only [so]
        clear hb1 k0 hbw HN hrg hv1
        go_wp2
        refine bodyPost_ret (res25tt Tryd.results125 _ _ w.heap.size _ rfl ?_ rfl) rfl ⟨by rw [HM.out]; rfl, (by repeat' (first | (with_reducible exact Below.refl _ _) | (with_reducible assumption) | (with_reducible refine Below.alloc ?_ ?_ _) | (with_reducible refine Below.drew ?_) | (with_reducible refine below_drewN ?_ _) | (with_reducible refine Below.setCell ?_ ?_ _) | (with_reducible refine below_setRow' ?_ ?_ _) | go_size))⟩
        go_simp
      | some u =>
        obtain ⟨g, pl⟩ := u
        rw [hsd] at HN hv1 hrg
        dsimp only [so] at hv1 hrg ⊢
        by_cases h8 : g.length = 8
        · have HM := Lib.hid (show sx s = some (wrg zb 0 g, pl) by rw [HN.out]; dsimp only; rw [if_pos h8])
          rw [h8] at hv1
          obtain ⟨g2, cap2, rfl, hg2, hg2l, hm2, hc2, hcell2, hfr2⟩ := owns_cells hv1 (by omega)
          have HC2 := Lib.hid (show ∀ i, i < 8 → w1.cell? ⟨g2, i, none⟩ = some (.int .i64 (g.getD i 0)) from fun i hi => by rw [hcell2 i hi, iv_get g i (by omega)])
          have HRg := Lib.hid hrg
          clear hb1 k0 hbw HN hrg hv1 hcell2 hfr2
          go_wp2_with (first
            | (go_at_call 163; (with_reducible refine (smade g h8 HRg.out g2 cap2 _ hg2l HC2.out).mono ?_); rintro e w2 ⟨rfl, hb2⟩; have hk2 := blk?_below hb2; have hB2 := below_via (w := w) (by repeat' (first | (with_reducible exact Below.refl _ _) | (with_reducible assumption) | (with_reducible refine Below.alloc ?_ ?_ _) | (with_reducible refine Below.drew ?_) | (with_reducible refine below_drewN ?_ _) | (with_reducible refine Below.setCell ?_ ?_ _) | (with_reducible refine below_setRow' ?_ ?_ _) | go_size)) hb2; have hL2 : w.heap.size < w2.heap.size := (by have hS0 := hb2.size; omega); clear hb2))
          refine bodyPost_ret (res25tt Tryd.results125 _ _ w.heap.size _ rfl ?_ rfl) rfl ⟨by rw [HM.out]; rfl, (by repeat' (first | (with_reducible exact Below.refl _ _) | (with_reducible assumption) | (with_reducible refine Below.alloc ?_ ?_ _) | (with_reducible refine Below.drew ?_) | (with_reducible refine below_drewN ?_ _) | (with_reducible refine Below.setCell ?_ ?_ _) | (with_reducible refine below_setRow' ?_ ?_ _) | go_size))⟩
          go_simp
        · have HM := Lib.hid (show sx s = none by rw [HN.out]; dsimp only; rw [if_neg h8])
          obtain ⟨a1, c1, rfl⟩ := owns_shape hv1
          have h80 : (((g.length : Nat) : Int) == 8) = false := beq_eq_false_iff_ne.2 (by omega)
          have h81 : (((g.length : Nat) : Int) != 8) = true := by rw [bne, h80]; rfl
          clear hb1 k0 hbw HN hrg hv1
          go_wp2
          refine bodyPost_ret (res25tt Tryd.results125 _ _ w.heap.size _ rfl ?_ rfl) rfl ⟨by rw [HM.out]; rfl, (by repeat' (first | (with_reducible exact Below.refl _ _) | (with_reducible assumption) | (with_reducible refine Below.alloc ?_ ?_ _) | (with_reducible refine Below.drew ?_) | (with_reducible refine below_drewN ?_ _) | (with_reducible refine Below.setCell ?_ ?_ _) | (with_reducible refine below_setRow' ?_ ?_ _) | go_size))⟩
          go_simp
end Go.Proofs.YtmlkcgacneealaaDoor
set_option linter.unusedVariables false
set_option linter.unusedSimpArgs false
namespace Go.Proofs.YtmlkcgacneealaaDoor
open Go.RowKit

theorem run_append_nil (b : Option Addr) (n c c' ty : Nat) (h : n ≤ c) (w : World) : (Builtin.append_ #[62, 62] ty #[.slice b n c, .slice none 0 c']).run Tryd.prog w = .ok (.slice b n c) w := by
  cases b with
  | none => simp [go_sem, Builtin.append_, Builtin.lenOf, Builtin.firstCells, run_underlying Tryd.underlying62, run_underlying Tryd.underlying3, h]
  | some a => simp [go_sem, Builtin.append_, Builtin.lenOf, Builtin.firstCells, run_underlying Tryd.underlying62, h]
theorem wpList_append_nil {ops : Array Oper} {rest : List Oper} {o : Oper} {a : Act} {Q : Exit → Act → World → Prop} (w : World) (hgd : o.guard = none) (s x : Operand)
    (ho : o.op = .call { callee := .builtin .append, args := #[s, x], argTypes := #[62, 62] }) (b : Option Addr) (n c m c' : Nat) (hs : a.eval s = .slice b n c) (hx : a.eval x = .slice none m c') (hm : m = 0) (hnc : n ≤ c)
    (h : wpList Tryd.prog ops Q rest (a.put o.dst (.slice b n c)) w) : wpList Tryd.prog ops Q (o :: rest) a w := by
  subst hm
  refine wpList_plain hgd fun K hK => ?_
  unfold Oper.wp execOp
  simp only [ho, resolve, invoke, builtin, Sem.run_bind, Sem.run_pure, Result.andThen_ok, List.map_toArray, List.map_cons, List.map_nil, hs, hx, run_append_nil b n c c' _ hnc w]
  exact hK _ _ h
theorem owns_forms {w : World} {base n : Nat} {e : TypeId} {v : Value} {xs : List Value} (h : w.ownsRow base e 1 v n xs) : (v = .slice none 0 0 ∧ n = 0) ∨ ∃ g cap, v = .slice (some ⟨g, 0, none⟩) n cap ∧ base ≤ g ∧ g < w.heap.size ∧ n ≤ cap := by
  obtain ⟨_, h0 | ⟨g, cap, cur, rfl, hg, hh, hc, _⟩⟩ := h
  · exact Or.inl h0
  · exact Or.inr ⟨g, cap, rfl, hg, lt_of_some hh, hc⟩
theorem iv_one (l : List Int) : ∀ u ∈ iv l, u.oneCell' = true := by
  intro u hu
  unfold iv at hu
  obtain ⟨v, _, rfl⟩ := List.mem_map.1 hu
  rfl
/-- A slice's length. -/
def lenV : Value → Nat
  | .slice _ n _ => n
  | _ => 0
theorem owns_nilLen {w : World} {base n c : Nat} {e : TypeId} {xs : List Value} (h : w.ownsRow base e 1 (.slice none n c) n xs) : n = 0 ∧ c = 0 := by
  rcases owns_forms h with ⟨h1, h2⟩ | ⟨g, cap, h1, _⟩
  · cases h1; exact ⟨rfl, rfl⟩
  · cases h1
theorem owns_someAd {w : World} {base n c : Nat} {e : TypeId} {xs : List Value} {a : Addr} (h : w.ownsRow base e 1 (.slice (some a) n c) n xs) : a = ⟨a.block, 0, none⟩ ∧ base ≤ a.block ∧ a.block < w.heap.size ∧ n ≤ c := by
  rcases owns_forms h with ⟨h1, h2⟩ | ⟨g, cap, h1, h2, h3, h4⟩
  · cases h1
  · cases h1; exact ⟨rfl, h2, h3, h4⟩
set_option maxHeartbeats 4000000 in
set_option maxRecDepth 100000 in
theorem six_one (s : List Int) (hB : By s) (hs : s.length ≤ 1048576) (q : Nat) (h : cc s = [q]) (w : World) : Calls Tryd.prog 125 #[.string (ba s)] w fun e w' => e = .returned (adrV 16 (sx s)) ∧ Below w.heap.size w w' := by
  have hq2 := (cc_split s q [] h).2
  obtain ⟨A, hA⟩ : ∃ A, A = so (side (s.take q) false) := ⟨_, rfl⟩
  obtain ⟨B, hBB⟩ : ∃ B, B = so (side (s.drop (q + 2)) true) := ⟨_, rfl⟩
  have hBt : By (s.take q) := fun x hx => hB x (List.mem_of_mem_take hx)
  have HA := Lib.hid (show ∀ w : World, Calls Tryd.prog 162 #[.string (ba (s.take q)), .bool false] w fun e w' => ∃ v, e = .returned (.tuple #[v, .bool A.2.1, .bool A.2.2]) ∧ w'.ownsRow w.heap.size 3 1 v A.1.length (iv A.1) ∧ Below w.heap.size w w' from fun w => by rw [hA]; exact sideG (s.take q) hBt (by rw [List.length_take]; omega) false w)
  have HBd := Lib.hid (show ∀ w : World, Calls Tryd.prog 162 #[.string (ba (s.drop (q + 2))), .bool true] w fun e w' => ∃ v, e = .returned (.tuple #[v, .bool B.2.1, .bool B.2.2]) ∧ w'.ownsRow w.heap.size 3 1 v B.1.length (iv B.1) ∧ Below w.heap.size w w' from fun w => by rw [hBB]; exact sideG (s.drop (q + 2)) (By_drop hB _) (by rw [List.length_drop]; omega) true w)
  have HrA := Lib.hid (show ∀ v ∈ A.1, 0 ≤ v ∧ v < 65536 by rw [hA]; exact so_rng _ _)
  have HlA := Lib.hid (show A.1.length ≤ 2 * (s.length + 1) by rw [hA]; have := so_len (s.take q) false; rw [List.length_take] at this; omega)
  have HlB := Lib.hid (show B.1.length ≤ 2 * (s.length + 1) by rw [hBB]; have := so_len (s.drop (q + 2)) true; rw [List.length_drop] at this; omega)
  have HrB := Lib.hid (show ∀ v ∈ B.1, 0 ≤ v ∧ v < 65536 by rw [hBB]; exact so_rng _ _)
  have HSX := Lib.hid (show sx s = if A.2.2 = true ∧ B.2.2 = true ∧ A.1.length + B.1.length ≤ 7 then some (wrg zb 0 (A.1 ++ List.replicate (8 - B.1.length - A.1.length) 0 ++ B.1), B.2.1) else none by
    unfold sx
    rw [h, hA, hBB]
    dsimp only
    cases side (s.take q) false with
    | none => simp [so]
    | some u =>
      obtain ⟨l, p0⟩ := u
      cases side (s.drop (q + 2)) true with
      | none => simp [so]
      | some u => obtain ⟨r, p1⟩ := u; simp [so])
  have hx1 : (ba s).extract 0 q = ba (s.take q) := ba_take s q
  have hx2 : (ba s).extract (q + 2) (ba s).size = ba (s.drop (q + 2)) := ba_drop s (q + 2) hq2
  have hz9 := ba_size s
  have q0 : (0 : Int) ≤ (q : Int) := by omega
  have q1 : (q : Int) ≤ (((ba s).size : Nat) : Int) := by omega
  have q2 : (0 : Int) ≤ (q : Int) + 2 := by omega
  have q3 : (q : Int) + 2 ≤ (((ba s).size : Nat) : Int) := by omega
  have q4 := wr64 ((q : Int) + 2) (by omega) (by omega)
  have q5 : ((q : Int) + 2).toNat = q + 2 := by omega
  clear hA hBB hBt hz9 hq2
  obtain ⟨i0, hi, hz0, hz1, hz2⟩ := info_parts inf3
  have HB := Lib.hid hB
  have HSz := Lib.hid (ba_size s)
  have hsm : (((ba s).size : Nat) : Int) ≤ 1048576 := by rw [ba_size]; omega
  skip
  clear hB
  go_enter Tryd.func125, Tryd.ntmps125
  go_wp2
  go_loopw [5, 6, 18] (fun v5 v6 v18 wr => ∃ i : Nat, i ≤ s.length ∧ wr.ownsRow (w.heap.size + 1) 3 1 v5 (cck s i).length (iv (cci s i)) ∧ v18 = .int .i64 (i : Int) ∧ blk? wr w.heap.size = some (adr 0 zb ⟨#[]⟩) ∧ Below w.heap.size w wr ∧ w.heap.size + 1 ≤ wr.heap.size) (fun _ _ v18 _ => s.length - (intOf v18).toNat)
  case atStart => exact ⟨0, by omega, World.ownsRow_nil _ _ _ _, rfl, by go_simp, (by repeat' (first | (with_reducible exact Below.refl _ _) | (with_reducible assumption) | (with_reducible refine Below.alloc ?_ ?_ _) | (with_reducible refine Below.drew ?_) | (with_reducible refine below_drewN ?_ _) | (with_reducible refine Below.setCell ?_ ?_ _) | (with_reducible refine below_setRow' ?_ ?_ _) | go_size)), by simp⟩
  case round =>
    obtain ⟨i, hi9, hown, rfl, k0, hbw, hS⟩ := hrel
    have hsz := HSz.out
    have hi0 : (0 : Int) ≤ (i : Int) := by omega
    have hcl := cck_le s i
    by_cases hlt : i < s.length
    · have hi1 : (i : Int) < (((ba s).size : Nat) : Int) := by omega
      have hi3 : (0 : Int) ≤ (i : Int) + 2 := by omega
      have hi4 := wr64 ((i : Int) + 1) (by omega) (by omega)
      have hi5 := wr64 ((i : Int) + 2) (by omega) (by omega)
      have hi6 : ((i : Int) + 2).toNat = i + 2 := by omega
      have hi7 : (i : Int) ≤ (i : Int) + 2 := by omega
      by_cases c : s.getD i 0 = 58 ∧ s.getD (i + 1) 0 = 58
      · have hl1 : i + 1 < s.length := by
          by_cases q : i + 1 < s.length
          · exact q
          · have := c.2
            rw [List.getD_eq_getElem?_getD, List.getElem?_eq_none (by omega)] at this
            simp at this
        have hi2 : (i : Int) + 1 < (((ba s).size : Nat) : Int) := by omega
        have hi8 : (i : Int) + 2 ≤ (((ba s).size : Nat) : Int) := by omega
        have hX := two_eq s HB.out i hl1
        rw [decide_eq_true c] at hX
        have HC := Lib.hid (show cck s (i + 1) = cck s i ++ [i] ∧ cci s (i + 1) = cci s i ++ [(i : Int)] by
          have := cck_succ s i
          rw [if_pos c] at this
          exact ⟨this, by unfold cci; rw [this, List.map_append]; rfl⟩)
        have HBW := Lib.hid hbw
        have HK0 := Lib.hid k0
        clear c hsz hl1 hbw k0
        go_wp2_with (at_builtin; refine wpList_append_own _ rfl _ _ 62 rfl (w.heap.size + 1) 3 i0 (.int .i64 0) 1 8 Tryd.underlying62 hi hz0 hz1 hz2 rfl (by decide) _ _ _ rfl (hown.alloc _) ⟨wr.heap.size, 0, none⟩ 1 1 [.int .i64 (i : Int)] rfl rfl ?a1 ?a2 ?a3 ?a4 ?a5 ?_)
        case a1 =>
          intro j u hj
          match j, hj with
          | 0, hj => simp at hj; subst hj; simp [Addr.add]
        case a2 => intro u hu; simp at hu; subst hu; rfl
        case a3 => unfold maxLen; omega
        case a4 => omega
        case a5 => simp; omega
        intro v' wF hownF hgrow _
        have hbF : Below w.heap.size w wF := (HBW.out.alloc (by omega) _).grown hgrow (by simp; omega) (fun j e => by have := ownBlock_ge hown e; omega)
        have k0F : blk? wF w.heap.size = some (adr 0 zb ⟨#[]⟩) := by
          rw [blk_grown hgrow (by simp; omega) (fun e => by have := ownBlock_ge hown e; omega), blk?_old _ _ _ (by omega)]; exact HK0.out
        have hSF : w.heap.size + 1 ≤ wF.heap.size := by have := hgrow.size; simp at this; omega
        rw [show (iv (cci s i) ++ [.int .i64 (i : Int)] : List Value) = iv (cci s (i + 1)) by rw [HC.out.2]; exact iv_app _ [(i : Int)], show (cck s i).length + 1 = (cck s (i + 1)).length by rw [HC.out.1]; simp] at hownF
        clear hgrow hown
        go_wp2
        go_roundw
        case rel => exact ⟨i + 1, by omega, hownF, by go_num, k0F, hbF, hSF⟩
        case measure => simp [intOf]; omega
      · have HC := Lib.hid (show cck s (i + 1) = cck s i ∧ cci s (i + 1) = cci s i by
          have := cck_succ s i
          rw [if_neg c, List.append_nil] at this
          exact ⟨this, by unfold cci; rw [this]⟩)
        by_cases hl1 : i + 1 < s.length
        · have hi2 : (i : Int) + 1 < (((ba s).size : Nat) : Int) := by omega
          have hi8 : (i : Int) + 2 ≤ (((ba s).size : Nat) : Int) := by omega
          have hX := two_eq s HB.out i hl1
          rw [decide_eq_false c] at hX
          clear c hsz hl1
          go_wp2
          go_roundw
          case rel => exact ⟨i + 1, by omega, by rw [HC.out.1, HC.out.2]; exact hown, by go_num, k0, hbw, hS⟩
          case measure => simp [intOf]; omega
        · have hi2 : ¬ ((i : Int) + 1 < (((ba s).size : Nat) : Int)) := by omega
          clear c hsz hl1
          go_wp2
          go_roundw
          case rel => exact ⟨i + 1, by omega, by rw [HC.out.1, HC.out.2]; exact hown, by go_num, k0, hbw, hS⟩
          case measure => simp [intOf]; omega
    · have hi1 : ¬ ((i : Int) < (((ba s).size : Nat) : Int)) := by omega
      obtain rfl : i = s.length := by omega
      rw [cck_all] at hown
      have hcs : cci s s.length = (cc s).map fun (j : Nat) => (j : Int) := by unfold cci; rw [cck_all]
      rw [hcs] at hown
      clear hsz hcl hcs hi0
      rw [h] at hown
      clear h
      obtain ⟨g5, c5, rfl, hg5, hg5l, hm5, hc5, hcell5, hfr5⟩ := owns_cells hown (by simp)
      have hc50 : wr.cell? ⟨g5, 0, none⟩ = some (.int .i64 (q : Int)) := hcell5 0 (by simp)
      clear hcell5 hown
      rw [show ([q] : List Nat).length = 1 from rfl]
      go_upto_region 16 with (first
        | (go_at_call 162; (with_reducible refine (HA.out _).mono ?_); rintro e w1 ⟨v1, rfl, hv1, hb1⟩))
      have hc51 : w1.cell? ⟨g5, 0, none⟩ = some (.int .i64 (q : Int)) := by rw [hb1.cell (by exact hg5l)]; exact hc50
      have k01 : blk? w1 w.heap.size = some (adr 0 zb ⟨#[]⟩) := by rw [blk?_below hb1 _ (by omega)]; exact k0
      have hb01 : Below w.heap.size w w1 := hbw.trans (hb1.mono hbw.size)
      have hS1 := hb1.size
      have hv1' := owns_mono hv1 hS
      clear hv1 hb1 k0 hbw hc50 hfr5
      go_upto_region 17 with (first
        | (go_at_call 162; (with_reducible refine (HBd.out _).mono ?_); rintro e w2 ⟨v2, rfl, hv2, hb2⟩))
      have hS2 := hb2.size
      have hv1 := owns_below hv1' hb2.block
      have k02 : blk? w2 w.heap.size = some (adr 0 zb ⟨#[]⟩) := by rw [blk?_below hb2 _ (by omega)]; exact k01
      have hb02 : Below w.heap.size w w2 := hb01.trans (hb2.mono hb01.size)
      have hS3 : w.heap.size + 1 ≤ w1.heap.size := by omega
      have hv2' := owns_mono hv2 hS3
      have hl0 := blk?_lt k02
      clear hv1' hv2 hb2 k01 hb01 hc51 hS1 hS
      obtain ⟨l, pa, oa⟩ := A
      obtain ⟨r, pb, ob⟩ := B
      dsimp only at hv1 hv2' HSX HrA HrB HlA HlB ⊢
      obtain ⟨a1, c1, rfl⟩ := owns_shape hv1
      obtain ⟨a2, c2, rfl⟩ := owns_shape hv2'
      have hlenA := hv1.1
      cases oa with
      | false =>
        have HM := Lib.hid (show sx s = none by rw [HSX.out, if_neg (by simp)])
        clear hv1 hv2'
        go_wp2
        refine bodyPost_ret (res25tt Tryd.results125 _ _ w.heap.size _ rfl ?_ rfl) rfl ⟨by rw [HM.out]; rfl, (by repeat' (first | (with_reducible exact Below.refl _ _) | (with_reducible assumption) | (with_reducible refine Below.alloc ?_ ?_ _) | (with_reducible refine Below.drew ?_) | (with_reducible refine below_drewN ?_ _) | (with_reducible refine Below.setCell ?_ ?_ _) | (with_reducible refine below_setRow' ?_ ?_ _) | go_size))⟩
        go_simp
      | true =>
      cases ob with
      | false =>
        have HM := Lib.hid (show sx s = none by rw [HSX.out, if_neg (by simp)])
        clear hv1 hv2'
        go_wp2
        refine bodyPost_ret (res25tt Tryd.results125 _ _ w.heap.size _ rfl ?_ rfl) rfl ⟨by rw [HM.out]; rfl, (by repeat' (first | (with_reducible exact Below.refl _ _) | (with_reducible assumption) | (with_reducible refine Below.alloc ?_ ?_ _) | (with_reducible refine Below.drew ?_) | (with_reducible refine below_drewN ?_ _) | (with_reducible refine Below.setCell ?_ ?_ _) | (with_reducible refine below_setRow' ?_ ?_ _) | go_size))⟩
        go_simp
      | true =>
      have hll : a1 = a1 := rfl
      by_cases h7 : l.length + r.length ≤ 7
      · have HM := Lib.hid (show sx s = some (wrg zb 0 (l ++ List.replicate (8 - r.length - l.length) 0 ++ r), pb) by rw [HSX.out, if_pos ⟨rfl, rfl, h7⟩])
        have h70 : ¬ ((7 : Int) < ((l.length : Nat) : Int) + ((r.length : Nat) : Int)) := by omega
        have h71 := wr64 (((l.length : Nat) : Int) + ((r.length : Nat) : Int)) (by omega) (by omega)
        go_upto_region 19 with fail
        have HM2 := Lib.hid (And.intro h7 hl0)
        clear HSX h70 h71
        go_cut [15] (fun v15 wx => wx.ownsRow w2.heap.size 3 1 v15 l.length (iv l) ∧ Below w2.heap.size w2 wx)
        case first =>
          cases a1 with
          | none =>
            obtain ⟨e0, rfl⟩ := owns_nilLen hv1
            have el : l = [] := List.length_eq_zero_iff.1 e0
            have HE := Lib.hid el
            have HE0 := Lib.hid e0
            have HO := Lib.hid (owns_new w2 w2.heap.size 3 #[] 0 rfl (by omega) (Nat.le_refl _) _ rfl)
            clear hv1 hv2' hlenA e0 el
            go_wp2_with (at_builtin; refine wpList_append_nil _ rfl _ _ rfl _ _ _ _ _ rfl rfl HE0.out (Nat.le_refl _) ?_)
            go_meet
            rw [HE.out]
            exact ⟨HO.out, (by repeat' (first | (with_reducible exact Below.refl _ _) | (with_reducible assumption) | (with_reducible refine Below.alloc ?_ ?_ _) | (with_reducible refine Below.drew ?_) | (with_reducible refine below_drewN ?_ _) | (with_reducible refine Below.setCell ?_ ?_ _) | (with_reducible refine below_setRow' ?_ ?_ _) | go_size))⟩
          | some a =>
            obtain ⟨ea, hg10, hg10l, hnc⟩ := owns_someAd hv1
            obtain ⟨g10, hg⟩ : ∃ g, g = a.block := ⟨_, rfl⟩
            rw [← hg] at ea hg10 hg10l
            subst ea
            have HO := owns_new w2 w2.heap.size 3 #[] 0 rfl (by omega) (Nat.le_refl _) _ rfl
            have HB2 := Lib.hid (Below.refl w2.heap.size w2)
            clear hv2' hg
            go_wp2_with (at_builtin; refine wpList_append_own _ rfl _ _ 62 rfl w2.heap.size 3 i0 (.int .i64 0) 1 8 Tryd.underlying62 hi hz0 hz1 hz2 rfl (by decide) _ _ _ rfl HO ⟨g10, 0, none⟩ l.length c1 (iv l) rfl (by rw [iv_len]; omega) ((hv1.alloc _).cells rfl) (iv_one _) (by unfold maxLen; omega) (by omega) (by simp) ?_)
            intro v' wF hownF hgrow _
            have hbF : Below w2.heap.size w2 wF := (HB2.out.alloc (Nat.le_refl _) _).grown hgrow (by simp) (fun j e => by have := ownBlock_ge HO e; omega)
            (try rw [Nat.zero_add] at hownF)
            clear hgrow HO
            go_wp2
            go_meet
            exact ⟨hownF, hbF⟩
        case rest =>
          obtain ⟨hv15, hb15⟩ := hcut
          clear hv1
          apply_assumption
          go_wp2_with fail
          go_loopw [15] (fun v15 wr => ∃ k : Nat, l.length + k ≤ 8 - r.length ∧ wr.ownsRow w2.heap.size 3 1 v15 (l.length + k) (iv (l ++ List.replicate k 0)) ∧ Below w2.heap.size w2 wr) (fun v15 _ => 8 - lenV v15)
          case atStart => exact ⟨0, by have := HM2.out.1; omega, by rw [List.replicate_zero, List.append_nil]; exact hv15, hb15⟩
          case round =>
            clear hv15 hb15
            obtain ⟨k, hk, hown, hbr⟩ := hrel
            obtain ⟨a15, c15, rfl⟩ := owns_shape hown
            obtain ⟨N, hN⟩ : ∃ N : Nat, N = l.length + k := ⟨_, rfl⟩
            rw [← hN] at hown hk ⊢
            obtain ⟨R, hR⟩ : ∃ R : Nat, R = r.length := ⟨_, rfl⟩
            have HNR := Lib.hid (And.intro hN hR)
            have h7' := HM2.out.1
            rw [← hR] at hk h7' hv2' ⊢
            by_cases hlt : N < 8 - R
            · have hN1 : (N : Int) < 8 - (R : Int) := by omega
              have HBr := Lib.hid hbr
              clear hbr hN hR h7'
              go_wp2_with (at_builtin; refine wpList_append_own _ rfl _ _ 62 rfl w2.heap.size 3 i0 (.int .i64 0) 1 8 Tryd.underlying62 hi hz0 hz1 hz2 rfl (by decide) _ _ _ rfl (hown.alloc _) ⟨wr.heap.size, 0, none⟩ 1 1 [.int .i64 0] rfl rfl (fun j u hj => by match j, hj with | 0, hj => simp at hj; subst hj; simp [Addr.add]) (fun u hu => by simp at hu; subst hu; rfl) (by unfold maxLen; omega) (by omega) (by have := HBr.out.size; simp; omega) ?_)
              intro v' wF hownF hgrow _
              have hsr := HBr.out.size
              have hbF : Below w2.heap.size w2 wF := (HBr.out.alloc hsr _).grown hgrow (by simp; omega) (fun j e => by have := ownBlock_ge hown e; omega)
              have HO := Lib.hid (show wF.ownsRow w2.heap.size 3 1 v' (l.length + (k + 1)) (iv (l ++ List.replicate (k + 1) 0)) by
                have e1 : iv (l ++ List.replicate k 0) ++ [.int .i64 0] = iv (l ++ List.replicate (k + 1) 0) := by
                  rw [List.replicate_succ', ← List.append_assoc]; exact iv_app _ [0]
                rw [e1] at hownF
                rw [← Nat.add_assoc, ← HNR.out.1]; exact hownF)
              obtain ⟨a', c', rfl⟩ := owns_shape hownF
              clear hgrow hown hownF
              go_wp2
              go_roundw
              case rel => exact ⟨k + 1, by have := HNR.out.1; have := HNR.out.2; omega, HO.out, hbF⟩
              case measure => simp [lenV]; omega
            · have hN1 : ¬ ((N : Int) < 8 - (R : Int)) := by omega
              have hNR : N + R = 8 := by omega
              have HB0 := Lib.hid (hb02.trans (hbr.mono hb02.size))
              have hsr := hbr.size
              have HF := Lib.hid (show l ++ List.replicate (8 - r.length - l.length) 0 ++ r = l ++ List.replicate k 0 ++ r by rw [show 8 - r.length - l.length = k by have := HNR.out.1; have := HNR.out.2; omega])
              have HG := Lib.hid (show (l ++ List.replicate k 0 ++ r).length = 8 by have := HNR.out.1; have := HNR.out.2; simp; omega)
              have HRg := Lib.hid (show ∀ v ∈ l ++ List.replicate k 0 ++ r, 0 ≤ v ∧ v < 65536 from fun v hv => by
                rcases List.mem_append.1 hv with h | h
                · rcases List.mem_append.1 h with h | h
                  · exact HrA.out v h
                  · rw [(List.mem_replicate.1 h).2]; omega
                · exact HrB.out v h)
              have k0r : blk? wr w.heap.size = some (adr 0 zb ⟨#[]⟩) := by rw [blk?_below hbr _ hl0]; exact k02
              have hl0r := blk?_lt k0r
              have hv3 := owns_below hv2' hbr.block
              clear hbr hN h7' k02 hb02 hv2' hl0
              cases a2 with
              | none =>
                obtain ⟨e0, rfl⟩ := owns_nilLen hv3
                have er : r = [] := List.length_eq_zero_iff.1 (by rw [← hR]; exact e0)
                have HE0 := Lib.hid e0
                have HER := Lib.hid er
                obtain rfl : N = 8 := by omega
                clear hR hv3 hNR er e0
                obtain ⟨g2, cap2, e2, hg2, hg2l, hm2, hc2, hcell2, hfr2⟩ := owns_cells hown (by omega)
                cases e2
                have HC2 := Lib.hid (show ∀ i, i < 8 → wr.cell? ⟨g2, i, none⟩ = some (.int .i64 ((l ++ List.replicate k 0 ++ r).getD i 0)) from fun i hi => by rw [hcell2 i hi, HER.out, List.append_nil, iv_get _ i (by have := HG.out; rw [HER.out, List.append_nil] at this; omega)])
                have HRT := Lib.hid (show sx s = some (wrg zb 0 (l ++ List.replicate k 0 ++ r), pb) by rw [HM.out, HF.out])
                have hbF := HB0.out
                have k0F := k0r
                clear hown hcell2 hfr2
                go_wp2_with (at_builtin; refine wpList_append_nil _ rfl _ _ rfl _ _ _ _ _ rfl rfl HE0.out hm2 ?_)
                go_wp2_with (first
                  | (go_at_call 163; (with_reducible refine (smade (l ++ List.replicate k 0 ++ r) HG.out HRg.out g2 _ _ hg2l HC2.out).mono ?_); rintro e w4 ⟨rfl, hb4⟩; have hk4 := blk?_below hb4; have hB4 := below_via (w := w) (by repeat' (first | (with_reducible exact Below.refl _ _) | (with_reducible assumption) | (with_reducible refine Below.alloc ?_ ?_ _) | (with_reducible refine Below.drew ?_) | (with_reducible refine below_drewN ?_ _) | (with_reducible refine Below.setCell ?_ ?_ _) | (with_reducible refine below_setRow' ?_ ?_ _) | go_size)) hb4; have hL4 : w.heap.size < w4.heap.size := (by have hS0 := hb4.size; omega); clear hb4))
                refine bodyPost_ret (res25tt Tryd.results125 _ _ w.heap.size _ rfl ?_ rfl) rfl ⟨by rw [HRT.out]; rfl, (by repeat' (first | (with_reducible exact Below.refl _ _) | (with_reducible assumption) | (with_reducible refine Below.alloc ?_ ?_ _) | (with_reducible refine Below.drew ?_) | (with_reducible refine below_drewN ?_ _) | (with_reducible refine Below.setCell ?_ ?_ _) | (with_reducible refine below_setRow' ?_ ?_ _) | go_size))⟩
                go_simp
              | some a =>
                obtain ⟨ea, hg10, hg10l, hnc⟩ := owns_someAd hv3
                obtain ⟨g10, hg⟩ : ∃ g, g = a.block := ⟨_, rfl⟩
                rw [← hg] at ea hg10 hg10l
                subst ea
                clear hg hR
                go_wp2_with (at_builtin; refine wpList_append_own _ rfl _ _ 62 rfl w2.heap.size 3 i0 (.int .i64 0) 1 8 Tryd.underlying62 hi hz0 hz1 hz2 rfl (by decide) _ _ _ rfl hown ⟨g10, 0, none⟩ R c2 (iv r) rfl (by rw [iv_len, ← HNR.out.2]; omega) (hv3.cells rfl) (iv_one _) (by unfold maxLen; omega) (by omega) (by omega) ?_)
                intro v' wF hownF hgrow _
                have hbF : Below w.heap.size w wF := HB0.out.grown hgrow (by omega) (fun j e => by have := ownBlock_ge hown e; omega)
                have k0F : blk? wF w.heap.size = some (adr 0 zb ⟨#[]⟩) := by
                  rw [blk_grown hgrow hl0r (fun e => by have := ownBlock_ge hown e; omega)]; exact k0r
                have hl0F := blk?_lt k0F
                rw [iv_app] at hownF
                (try rw [hNR] at hownF)
                obtain ⟨g2, cap2, rfl, hg2, hg2l, hm2, hc2, hcell2, hfr2⟩ := owns_cells hownF (by omega)
                have HC2 := Lib.hid (show ∀ i, i < 8 → wF.cell? ⟨g2, i, none⟩ = some (.int .i64 ((l ++ List.replicate k 0 ++ r).getD i 0)) from fun i hi => by rw [hcell2 i hi, iv_get _ i (by rw [HG.out]; exact hi)])
                have HRT := Lib.hid (show sx s = some (wrg zb 0 (l ++ List.replicate k 0 ++ r), pb) by rw [HM.out, HF.out])
                clear hgrow hown hownF hcell2 hfr2 hv3
                go_wp2_with (first
                  | (go_at_call 163; (with_reducible refine (smade (l ++ List.replicate k 0 ++ r) HG.out HRg.out g2 _ _ hg2l HC2.out).mono ?_); rintro e w4 ⟨rfl, hb4⟩; have hk4 := blk?_below hb4; have hB4 := below_via (w := w) (by repeat' (first | (with_reducible exact Below.refl _ _) | (with_reducible assumption) | (with_reducible refine Below.alloc ?_ ?_ _) | (with_reducible refine Below.drew ?_) | (with_reducible refine below_drewN ?_ _) | (with_reducible refine Below.setCell ?_ ?_ _) | (with_reducible refine below_setRow' ?_ ?_ _) | go_size)) hb4; have hL4 : w.heap.size < w4.heap.size := (by have hS0 := hb4.size; omega); clear hb4))
                refine bodyPost_ret (res25tt Tryd.results125 _ _ w.heap.size _ rfl ?_ rfl) rfl ⟨by rw [HRT.out]; rfl, (by repeat' (first | (with_reducible exact Below.refl _ _) | (with_reducible assumption) | (with_reducible refine Below.alloc ?_ ?_ _) | (with_reducible refine Below.drew ?_) | (with_reducible refine below_drewN ?_ _) | (with_reducible refine Below.setCell ?_ ?_ _) | (with_reducible refine below_setRow' ?_ ?_ _) | go_size))⟩
                go_simp
      · have HM := Lib.hid (show sx s = none by rw [HSX.out, if_neg (by rintro ⟨_, _, k⟩; exact h7 k)])
        have hlA : l.length ≤ 2097154 := by have := HlA.out; omega
        have hlB : r.length ≤ 2097154 := by have := HlB.out; omega
        have h70 : ((7 : Int) < ((l.length : Nat) : Int) + ((r.length : Nat) : Int)) := by omega
        have h71 := wr64 (((l.length : Nat) : Int) + ((r.length : Nat) : Int)) (by omega) (by omega)
        clear hv1 hv2'
        go_wp2
        refine bodyPost_ret (res25tt Tryd.results125 _ _ w.heap.size _ rfl ?_ rfl) rfl ⟨by rw [HM.out]; rfl, (by repeat' (first | (with_reducible exact Below.refl _ _) | (with_reducible assumption) | (with_reducible refine Below.alloc ?_ ?_ _) | (with_reducible refine Below.drew ?_) | (with_reducible refine below_drewN ?_ _) | (with_reducible refine Below.setCell ?_ ?_ _) | (with_reducible refine below_setRow' ?_ ?_ _) | go_size))⟩
        go_simp
end Go.Proofs.YtmlkcgacneealaaDoor
