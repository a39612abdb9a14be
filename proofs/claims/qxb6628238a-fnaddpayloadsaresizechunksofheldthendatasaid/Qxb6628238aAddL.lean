import Derived.Test.Qxb6628238aAddH
namespace Go.Proofs.Qxb6628238a
open Go.RowKit

/-- The held bytes, as an append asks for them. -/
theorem held_cells {w : World} {B b : Nat} {pr : Nat → Obj → Prop} {bs sz bl : Nat} {wa da : Option Addr} {nh hc nw wc nd dc g : Nat} {xh xw xd : List Value} (h : St w B b pr bs sz bl (some ⟨g, 0, none⟩) nh hc wa nw wc da nd dc xh xw xd)
    {p : Nat} {F : Nat → Int} (hX : xh = seg F p nh) :
    xh.length = nh * 1 ∧ (∀ j u, xh[j]? = some u → w.cell? ((⟨g, 0, none⟩ : Addr).add j) = some u) ∧ ∀ u ∈ xh, u.oneCell' = true := by
  refine ⟨by rw [hX, seg_length]; omega, fun j u hu => ?_, by rw [hX]; exact seg_one _ _ _⟩
  have hj : j < xh.length := (List.getElem?_eq_some_iff.1 hu).1
  rw [hX, seg_length] at hj
  rw [Go.WideShapes.add_plain, Nat.zero_add, h.held.cellAt j (by omega), hu]

/-- 'p.whole = append(p.whole[:0], ..)', as the walk leaves it. -/
theorem whole_step {w w1 : World} {B b : Nat} {pr : Nat → Obj → Prop} {bs sz bl : Nat} {ha wa da : Option Addr} {nh hc nw wc nd dc g cap m : Nat} {xh xw xd ys : List Value} (h : St w B b pr bs sz bl ha nh hc wa nw wc da nd dc xh xw xd)
    (hown : w1.ownsRow B 5 1 (.slice (some ⟨g, 0, none⟩) (0 + m) cap) (0 + m) ([] ++ ys)) (hgrow : w.drew.grownBy w1 (Value.slice wa 0 wc).ownBlock) (hat : (Value.slice wa 0 wc).ownBlock = some g ∨ g = w.heap.size) :
    St (w1.setCell ⟨b, 3, none⟩ (.slice (some ⟨g, 0, none⟩) m cap)) B b pr bs sz bl ha nh hc (some ⟨g, 0, none⟩) m cap da nd dc xh ys xd ∧ Below B w (w1.setCell ⟨b, 3, none⟩ (.slice (some ⟨g, 0, none⟩) m cap)) := by
  rw [Nat.zero_add, List.nil_append] at hown
  rw [ob0 wa 0 nw wc] at hgrow hat
  obtain ⟨h1, h2⟩ := h.drew.whole_app hown hgrow hat
  exact ⟨h1, (Below.refl B w).drew.trans h2⟩

/-- The loop's start behind the first packet, made of what was held. -/
theorem li_start {w w7 : World} {B b : Nat} {pr : Nat → Obj → Prop} {bs sz bl per : Nat} {ha : Option Addr} {nh hc wg wc dg dc g o r c tot : Nat} {xh Z : List Value} {F : Nat → Int} {A : Array Value} {a : Option Addr}
    (h : St w7 B b pr bs sz (bl + sz / bs) ha nh hc (some ⟨wg, 0, none⟩) sz wc (some ⟨dg, 0, none⟩) 1 dc xh Z [.slice (some ⟨wg, 0, none⟩) sz wc, .int .i64 (bl : Int)]) (hb : Below B w w7) (hper : sz / bs = per) (hZ : Z = seg F 0 sz)
    (hl : Left pr g o A F sz r a c) (hsum : sz + r = tot) :
    LI w (w7.setCell ⟨b, 2, none⟩ (.slice ha 0 hc)) B b pr bs sz bl per ha hc (some ⟨wg, 0, none⟩) sz wc Z F g tot A 1 r o a c (some ⟨dg, 0, none⟩) dc := by
  refine ⟨hb.setCell h.base _, by rw [Nat.one_mul]; exact hl, by rw [Nat.one_mul]; exact hsum, fun _ => .slice (some ⟨wg, 0, none⟩) sz wc, ?_, fun i hi => ?_⟩
  · rw [Nat.one_mul, ← hper, packs_succ, packs_zero, Nat.zero_mul, Nat.add_zero]
    exact h.held0
  · obtain rfl : i = 0 := by omega
    rw [Nat.zero_mul]
    exact .inl ⟨rfl, ⟨wg, wc, rfl⟩, hZ⟩

set_option maxRecDepth 100000 in
set_option maxHeartbeats 2000000 in
theorem add_long (w : World) (B b : Nat) (pr : Nat → Obj → Prop) (bs k bl per : Nat) (ha : Option Addr) (nh hc : Nat) (wa : Option Addr) (nw wc : Nat) (da : Option Addr) (nd dc : Nat) (xw xd : List Value)
    (a : Option Addr) (n c : Nat) (F : Nat → Int) (h : St w B b pr bs (nh + k) bl ha nh hc wa nw wc da nd dc (seg F 0 nh) xw xd) (g o0 : Nat) (A : Array Value) (hl : Left pr g o0 A F nh n a c) (hn : n ≤ 2097152) (hnh : 1 ≤ nh) (hnn : nh + n ≤ 2097152) (hk : 1 ≤ k) (hkn : k ≤ n) (hcn : ¬ k = c)
    (hbs : 1 ≤ bs) (hper : (nh + k) / bs = per) (hbl : bl ≤ 1090921693184) :
    Calls Try.prog 9 #[.pointer (some ⟨b, 0, none⟩), .slice a n c] w fun e w' => AddPost w w' e B b pr bs (nh + k) bl per F (nh + n) := by
  have c5 := h.c5
  have c2 := h.c2
  have f5 := h.fr 5
  have lb := h.lt
  have hnc := hl.1
  have hba := h.base
  have HP : Hid ((nh + k) / bs = per) := hper
  have HB0 : Hid (Below B w (w.setCell ⟨b, 5, none⟩ (.slice da 0 dc))) := (Below.refl _ _).setCell h.base _
  have HST : Hid (St (w.setCell ⟨b, 5, none⟩ (.slice da 0 dc)) B b pr bs (nh + k) bl ha nh hc wa nw wc da 0 dc (seg F 0 nh) xw []) := h.done0
  have HL : Hid (Left pr g o0 A F nh n a c) := hl
  have d0 : decide ((0 : Int) < (nh : Int)) = true := decide_eq_true (by omega)
  clear h hl hper
  go_enter Try.func9, Try.ntmps9
  go_wp2_with fail
  generalize w.setCell ⟨b, 5, none⟩ (.slice da 0 dc) = w0 at *
  clear c5 c2 f5
  have c1 := HST.out.c1
  have c2 := HST.out.c2
  go_quiet (fail)
  go_wp2_with fail
  rw [show ((nh : Int) + (k : Int) - (nh : Int)) = (k : Int) from by omega]
  have HST1 : Hid (St (w0.drewN nq) B b pr bs (nh + k) bl ha nh hc wa nw wc da 0 dc (seg F 0 nh) xw []) := HST.out.drewN nq
  have HB1 : Hid (Below B w (w0.drewN nq)) := below_drewN HB0.out nq
  generalize w0.drewN nq = w1 at *
  clear c1 c2 HST HB0
  obtain ⟨hpr, rfl, hA⟩ := HL.out.2 (by omega)
  obtain ⟨X, hX⟩ : ∃ X, X = seg F nh k := ⟨_, rfl⟩
  obtain ⟨hXl, hXc, hX1⟩ := data_cells HST1.out hpr (r := k) (fun j hj => hA j (by omega)) hX
  obtain ⟨Y, hY⟩ : ∃ Y, Y = seg F 0 nh := ⟨_, rfl⟩
  have hown := HST1.out.held
  rw [← hY] at hown
  obtain ⟨Z, hZ⟩ : ∃ Z, Z = seg F 0 (nh + k) := ⟨_, rfl⟩
  have HXY : Hid (Y ++ X = Z) := by show _ = _; rw [hX, hY, hZ]; have := seg_add F 0 nh k; rw [Nat.zero_add] at this; exact this
  have HZ : Hid (Z = seg F 0 (nh + k)) := hZ
  have HNE : Hid ((Value.slice ha nh hc).ownBlock ≠ some b) := HST1.out.hb
  obtain ⟨i0, hi, hz0, hz1, hz2⟩ := info_parts info5
  have lb1 := HST1.out.lt
  have hBs : B ≤ w1.heap.size := by omega
  have c1 := HST1.out.c1
  have c2 := HST1.out.c2
  have c5 := HST1.out.c5
  have f2 := HST1.out.fr 2
  have HST2 : Hid (St w1 B b pr bs (nh + k) bl ha nh hc wa nw wc da 0 dc Y xw []) := by rw [hY]; exact HST1.out
  have i1 : (0 : Int) ≤ (k : Int) := by omega
  have i2 : (k : Int) ≤ (c : Int) := by omega
  have i3 : (k : Int) ≤ (n : Int) := by omega
  clear hX hY hA hpr HST1 hZ
  go_region_law ((refine step_append_lies _ (by rfl) _ _ _ (by rfl) B 5 i0 (.int .u8 0) 1 1 Try.underlying22 hi hz0 hz1 hz2 rfl (by omega) (.slice ha nh hc) nh Y (by simp [Act.eval]) hown.drew ⟨g, o0, none⟩ k c X (by simp [Act.eval]) hXl hXc hX1 (by omega) (by unfold maxLen; omega) (by omega) hBs w1.heap.size rfl ?_; intro g3 cap w2 hown2 hgrow hat hlt2; have HF : Hid _ := HST2.out.drew.held_app hown2 hgrow hat; have c21 := (hgrow.cell_far ⟨b, 2, none⟩ lb1 (Ne.symm HNE.out)).trans c2; have c51 := (hgrow.cell_far ⟨b, 5, none⟩ lb1 (Ne.symm HNE.out)).trans c5; have c11 := (hgrow.cell_far ⟨b, 1, none⟩ lb1 (Ne.symm HNE.out)).trans c1; have f21 := (hgrow.frozen_far ⟨b, 2, none⟩ lb1 (Ne.symm HNE.out)).trans f2; clear hown2 hgrow hat hlt2))
  clear c21 c51 c11 f21 c1 c2 c5 f2 hown
  rw [HXY.out] at HF
  have HB3 : Hid (Below B w (w2.setCell ⟨b, 2, none⟩ (.slice (some ⟨g3, 0, none⟩) (nh + k) cap))) := HB1.out.drew.trans HF.out.2
  generalize w2.setCell ⟨b, 2, none⟩ (.slice (some ⟨g3, 0, none⟩) (nh + k) cap) = w3 at *
  clear HB1 HST2 HNE lb1 hBs
  have c1 := HF.out.1.c1
  have c2 := HF.out.1.c2
  go_wp2_with fail
  go_quiet (fail)
  go_wp2_with fail
  have HF4 : Hid (St (w3.drewN nq) B b pr bs (nh + k) bl (some ⟨g3, 0, none⟩) (nh + k) cap wa nw wc da 0 dc Z xw []) := HF.out.1.drewN nq
  have HB4 : Hid (Below B w (w3.drewN nq)) := below_drewN HB3.out nq
  generalize w3.drewN nq = w4 at *
  clear HF HB3 c1 c2 hXl hXc hX1 HXY
  have hown4 := own0 HF4.out.whole
  have lb4 := HF4.out.lt
  have hBs : B ≤ w4.heap.size := by omega
  have HNE : Hid ((Value.slice wa 0 wc).ownBlock ≠ some b) := by rw [ob0 wa 0 nw wc]; exact HF4.out.wb
  obtain ⟨hZl, hZc, hZ1⟩ := held_cells HF4.out HZ.out
  have c2 := HF4.out.c2
  have c3 := HF4.out.c3
  have c5 := HF4.out.c5
  have f3 := HF4.out.fr 3
  go_region_law ((refine step_append_lies _ (by rfl) _ _ _ (by rfl) B 5 i0 (.int .u8 0) 1 1 Try.underlying22 hi hz0 hz1 hz2 rfl (by omega) (.slice wa 0 wc) 0 [] (by first | (simp [Act.eval]; done) | simp [Act.eval, Act.put]) hown4.drew ⟨g3, 0, none⟩ (nh + k) cap Z (by first | (simp [Act.eval]; done) | simp [Act.eval, Act.put]) hZl hZc hZ1 (by omega) (by unfold maxLen; omega) (by omega) hBs w4.heap.size rfl ?_; intro g4 cap4 w5 hown5 hgrow hat hlt2; have HW : Hid _ := whole_step HF4.out hown5 hgrow hat; have c31 := (hgrow.cell_far ⟨b, 3, none⟩ lb4 (Ne.symm HNE.out)).trans c3; have f31 := (hgrow.frozen_far ⟨b, 3, none⟩ lb4 (Ne.symm HNE.out)).trans f3; clear hown5 hgrow hat hlt2))
  all_goals
    clear c31 f31 c2 c3 c5 f3 hown4 HNE hZl hZc hZ1
    have HB6 : Hid (Below B w (w5.setCell ⟨b, 3, none⟩ (.slice (some ⟨g4, 0, none⟩) (nh + k) cap4))) := HB4.out.trans HW.out.2
    have HS6 : Hid (St (w5.setCell ⟨b, 3, none⟩ (.slice (some ⟨g4, 0, none⟩) (nh + k) cap4)) B b pr bs (nh + k) bl (some ⟨g3, 0, none⟩) (nh + k) cap (some ⟨g4, 0, none⟩) (nh + k) cap4 da 0 dc Z Z []) := HW.out.1
    generalize w5.setCell ⟨b, 3, none⟩ (.slice (some ⟨g4, 0, none⟩) (nh + k) cap4) = w6 at *
    clear HW HB4 HF4
    have c3 := HS6.out.c3
    go_wp2_with fail
    refine (packet_any _ B b pr bs (nh + k) bl (some ⟨g3, 0, none⟩) (nh + k) cap (some ⟨g4, 0, none⟩) (nh + k) cap4 da 0 dc Z Z [] _ _ _ HS6.out hbs (by omega) (by omega) (by omega)).mono ?_
    rintro e w7 ⟨rfl, g5, c5', hst7, hb7⟩
    have c2 := hst7.c2
    have f2 := hst7.fr 2
    have HS7 : Hid (St w7 B b pr bs (nh + k) (bl + (nh + k) / bs) (some ⟨g3, 0, none⟩) (nh + k) cap (some ⟨g4, 0, none⟩) (nh + k) cap4 (some ⟨g5, 0, none⟩) 1 c5' Z Z [.slice (some ⟨g4, 0, none⟩) (nh + k) cap4, .int .i64 (bl : Int)]) := hst7
    have HB7 : Hid (Below B w w7) := HB6.out.trans hb7
    clear hst7 hb7 HB6 HS6 c3
    go_wp2_with fail
    have hskx : 1 ≤ nh + k := by omega
    have HI : Hid (LI w (w7.setCell ⟨b, 2, none⟩ (.slice (some ⟨g3, 0, none⟩) 0 cap)) B b pr bs (nh + k) bl per (some ⟨g3, 0, none⟩) cap (some ⟨g4, 0, none⟩) (nh + k) cap4 Z F g (nh + n) A 1 (n - k) (o0 + k) (some ⟨g, o0 + k, none⟩) (c - k) (some ⟨g5, 0, none⟩) c5') :=
      li_start HS7.out HB7.out HP.out HZ.out (HL.out.drop hkn _ (fun _ => rfl)) (by omega)
    clear HS7 HB7
    go_loopw [1] (fun d wr => ∃ (q r o : Nat) (a' : Option Addr) (c' : Nat) (da' : Option Addr) (dc' : Nat), d = .slice a' r c' ∧ Hid (LI w wr B b pr bs (nh + k) bl per (some ⟨g3, 0, none⟩) cap (some ⟨g4, 0, none⟩) (nh + k) cap4 Z F g (nh + n) A q r o a' c' da' dc')) (fun d _ => (match d with | .slice _ r _ => r | _ => 0))
    case atStart => exact ⟨1, n - k, o0 + k, _, _, some ⟨g5, 0, none⟩, c5', rfl, HI.out⟩
    case round =>
      obtain ⟨q, r, o, a', c', da', dc', rfl, HI2⟩ := hrel
      clear HI c2 f2
      have hrc := HI2.out.left.1
      obtain ⟨hq1, hq2⟩ := small_mul HI2.out.sum HP.out hskx
      have HS : Hid (q * (nh + k) + r = nh + n) := HI2.out.sum
      obtain ⟨PV, hst, hPV⟩ := HI2.out.st
      have c1 := hst.c1
      have HPV : Hid (∀ i, i < q → Lies pr (.slice (some ⟨g4, 0, none⟩) (nh + k) cap4) Z (nh + k) F (i * (nh + k)) (PV i)) := hPV
      obtain ⟨xd', hxd⟩ : ∃ xd', xd' = packs PV bl per q := ⟨_, rfl⟩
      obtain ⟨bl', hbl'⟩ : ∃ bl', bl' = bl + q * per := ⟨_, rfl⟩
      rw [← hxd, ← hbl'] at hst
      have hblb : bl' ≤ 1099511627776 := by omega
      have HST : Hid (St wr B b pr bs (nh + k) bl' (some ⟨g3, 0, none⟩) 0 cap (some ⟨g4, 0, none⟩) (nh + k) cap4 da' q dc' [] Z xd') := hst
      have HX : Hid (xd' = packs PV bl per q) := hxd
      have HBL : Hid (bl' = bl + q * per) := hbl'
      clear hxd hbl' hPV hq2
      by_cases hlt : (nh + k) ≤ r
      · obtain ⟨hpr, rfl, hA⟩ := HI2.out.left.2 (by omega)
        clear hst hA hpr
        have i1 : (0 : Int) ≤ ((nh + k) : Int) := by omega
        have i2 : ((nh + k) : Int) ≤ (c' : Int) := by omega
        go_wp2_with fail
        go_region_held3 (fun w' => w'.cell? ⟨b, 1, none⟩ = some (.int .i64 ((nh + k) : Int))) (first | go_keep | assumption)
          (first | (go_at_call 15; refine (packet_any _ B b pr bs (nh + k) bl' (some ⟨g3, 0, none⟩) 0 cap (some ⟨g4, 0, none⟩) (nh + k) cap4 da' q dc' [] Z xd' _ _ _ HST.out.drew hbs (by omega) hblb (by omega)).mono ?_; rintro e w2 ⟨rfl, g2, cp2, hst2, hb2⟩; have c12 := hst2.c1))
        have HST2 : Hid (St w2 B b pr bs (nh + k) (bl' + (nh + k) / bs) (some ⟨g3, 0, none⟩) 0 cap (some ⟨g4, 0, none⟩) (nh + k) cap4 (some ⟨g2, 0, none⟩) (q + 1) cp2 [] Z (xd' ++ [.slice (some ⟨g, o, none⟩) (nh + k) (nh + k), .int .i64 (bl' : Int)])) := hst2
        have HB2 : Hid (Below B wr w2) := (Below.refl B wr).drew.trans hb2
        clear hst2 hb2 c1
        by_cases hcs : c' = (nh + k)
        · go_wp2
          go_roundw
          case rel => exact ⟨q + 1, r - (nh + k), o + (nh + k), _, _, some ⟨g2, 0, none⟩, cp2, rfl, (by have h := HI2.out.next hskx hlt HP.out PV HPV.out HX.out (by have := HST2.out; rw [HBL.out] at this; exact this) HB2.out (some ⟨g, o, none⟩) (fun hx => by omega); rw [show c' - (nh + k) = 0 by omega] at h; exact h)⟩
          case measure => simp; omega
        · go_wp2
          go_roundw
          case rel => exact ⟨q + 1, r - (nh + k), o + (nh + k), _, _, some ⟨g2, 0, none⟩, cp2, rfl, HI2.out.next hskx hlt HP.out PV HPV.out HX.out (by have := HST2.out; rw [HBL.out] at this; exact this) HB2.out _ (fun hx => rfl)⟩
          case measure => simp; omega
      · have c2 := hst.c2
        have c5 := hst.c5
        have f2 := hst.fr 2
        clear hst
        by_cases hr : r = 0
        · have HX0 : Hid ([] = seg F (q * (nh + k)) r) := by show [] = _; rw [hr, seg_zero]
          have H0 : Hid (St (wr.setCell ⟨b, 2, none⟩ (.slice (some ⟨g3, 0, none⟩) 0 cap)) B b pr bs (nh + k) bl' (some ⟨g3, 0, none⟩) r cap (some ⟨g4, 0, none⟩) (nh + k) cap4 da' q dc' [] Z xd') := by rw [hr]; exact HST.out.held0
          go_wp2_with (at_builtin; go_must (refine wpList_append_zero _ rfl (.tmp 117) (.tmp 118) rfl (some ⟨g3, 0, none⟩) 0 cap _ r c' rfl rfl hr (Nat.zero_le _) ?_))
          go_ret
          exact HI2.out.fin (by omega) PV HPV.out HX.out HX0.out HBL.out H0.out ((Below.refl _ _).setCell hba _)
        · obtain ⟨hpr, rfl, hA⟩ := HI2.out.left.2 (by omega)
          have HA : Hid (∀ j, j < r → A[o + j]? = some (.int .u8 (F (q * (nh + k) + j)))) := hA
          have HPR : Hid (pr g (.cells A 5 (0, 0))) := hpr
          clear hA hpr
          obtain ⟨X, hX⟩ : ∃ X, X = seg F (q * (nh + k)) r := ⟨_, rfl⟩
          have hXl : X.length = r * 1 := by rw [hX, seg_length]; omega
          have hXc : ∀ j u, X[j]? = some u → wr.cell? ((⟨g, o, none⟩ : Addr).add j) = some u := by
            intro j u hu
            rw [hX] at hu
            by_cases hj : j < r
            · rw [seg_get _ _ _ _ hj] at hu
              rw [Go.WideShapes.add_plain, cell_of_row wr g (o + j) _ _ _ (HST.out.prot g _ HPR.out).1, HA.out j hj, hu]
            · rw [seg_get_none _ _ _ _ (by omega)] at hu; cases hu
          have hX1 : ∀ u ∈ X, u.oneCell' = true := by rw [hX]; exact seg_one _ _ _
          have HXe : Hid (X = seg F (q * (nh + k)) r) := hX
          have hown := HST.out.held
          have HNE : Hid ((Value.slice (some ⟨g3, 0, none⟩) 0 cap).ownBlock ≠ some b) := HST.out.hb
          obtain ⟨i0, hi, hz0, hz1, hz2⟩ := info_parts info5
          have hBs : B ≤ wr.heap.size := by have := HST.out.lt; omega
          clear hX
          go_wp2_with (at_builtin; go_must (refine wpList_append_lies _ rfl (.tmp 117) (.tmp 118) 22 rfl B 5 i0 (.int .u8 0) 1 1 Try.underlying22 hi hz0 hz1 hz2 rfl (by decide) (.slice (some ⟨g3, 0, none⟩) 0 cap) 0 [] rfl hown ⟨g, o, none⟩ r c' X rfl hXl hXc hX1 (by omega) (by unfold maxLen; omega) (by omega) hBs wr.heap.size rfl ?_); intro g6 cap6 w1 hown1 hgrow hat hlt1; go_must (have HF : Hid _ := HST.out.held_app hown1 hgrow hat); go_must (have c21 := (hgrow.cell_far ⟨b, 2, none⟩ HST.out.lt (Ne.symm HNE.out)).trans c2); go_must (have c51 := (hgrow.cell_far ⟨b, 5, none⟩ HST.out.lt (Ne.symm HNE.out)).trans c5); go_must (have f21 := (hgrow.frozen_far ⟨b, 2, none⟩ HST.out.lt (Ne.symm HNE.out)).trans f2); clear hown1 hgrow hat hlt1)
          go_ret
          rw [Nat.zero_add, List.nil_append] at HF
          exact HI2.out.fin (by omega) PV HPV.out HX.out HXe.out HBL.out HF.out.1 HF.out.2

set_option maxRecDepth 100000 in
set_option maxHeartbeats 2000000 in
theorem add_exact (w : World) (B b : Nat) (pr : Nat → Obj → Prop) (bs k bl per : Nat) (ha : Option Addr) (nh hc : Nat) (wa : Option Addr) (nw wc : Nat) (da : Option Addr) (nd dc : Nat) (xw xd : List Value)
    (a : Option Addr) (F : Nat → Int) (h : St w B b pr bs (nh + k) bl ha nh hc wa nw wc da nd dc (seg F 0 nh) xw xd) (g o0 : Nat) (A : Array Value) (hl : Left pr g o0 A F nh k a k) (hnh : 1 ≤ nh) (hnn : nh + k ≤ 2097152) (hk : 1 ≤ k) 
    (hbs : 1 ≤ bs) (hper : (nh + k) / bs = per) (hbl : bl ≤ 1090921693184) :
    Calls Try.prog 9 #[.pointer (some ⟨b, 0, none⟩), .slice a k k] w fun e w' => AddPost w w' e B b pr bs (nh + k) bl per F (nh + k) := by
  have c5 := h.c5
  have c2 := h.c2
  have f5 := h.fr 5
  have lb := h.lt
  have hnc := hl.1
  have hba := h.base
  have HP : Hid ((nh + k) / bs = per) := hper
  have HB0 : Hid (Below B w (w.setCell ⟨b, 5, none⟩ (.slice da 0 dc))) := (Below.refl _ _).setCell h.base _
  have HST : Hid (St (w.setCell ⟨b, 5, none⟩ (.slice da 0 dc)) B b pr bs (nh + k) bl ha nh hc wa nw wc da 0 dc (seg F 0 nh) xw []) := h.done0
  have HL : Hid (Left pr g o0 A F nh k a k) := hl
  have d0 : decide ((0 : Int) < (nh : Int)) = true := decide_eq_true (by omega)
  clear h hl hper
  go_enter Try.func9, Try.ntmps9
  go_wp2_with fail
  generalize w.setCell ⟨b, 5, none⟩ (.slice da 0 dc) = w0 at *
  clear c5 c2 f5
  have c1 := HST.out.c1
  have c2 := HST.out.c2
  go_quiet (fail)
  go_wp2_with fail
  rw [show ((nh : Int) + (k : Int) - (nh : Int)) = (k : Int) from by omega]
  have HST1 : Hid (St (w0.drewN nq) B b pr bs (nh + k) bl ha nh hc wa nw wc da 0 dc (seg F 0 nh) xw []) := HST.out.drewN nq
  have HB1 : Hid (Below B w (w0.drewN nq)) := below_drewN HB0.out nq
  generalize w0.drewN nq = w1 at *
  clear c1 c2 HST HB0
  obtain ⟨hpr, rfl, hA⟩ := HL.out.2 (by omega)
  obtain ⟨X, hX⟩ : ∃ X, X = seg F nh k := ⟨_, rfl⟩
  obtain ⟨hXl, hXc, hX1⟩ := data_cells HST1.out hpr (r := k) (fun j hj => hA j (by omega)) hX
  obtain ⟨Y, hY⟩ : ∃ Y, Y = seg F 0 nh := ⟨_, rfl⟩
  have hown := HST1.out.held
  rw [← hY] at hown
  obtain ⟨Z, hZ⟩ : ∃ Z, Z = seg F 0 (nh + k) := ⟨_, rfl⟩
  have HXY : Hid (Y ++ X = Z) := by show _ = _; rw [hX, hY, hZ]; have := seg_add F 0 nh k; rw [Nat.zero_add] at this; exact this
  have HZ : Hid (Z = seg F 0 (nh + k)) := hZ
  have HNE : Hid ((Value.slice ha nh hc).ownBlock ≠ some b) := HST1.out.hb
  obtain ⟨i0, hi, hz0, hz1, hz2⟩ := info_parts info5
  have lb1 := HST1.out.lt
  have hBs : B ≤ w1.heap.size := by omega
  have c1 := HST1.out.c1
  have c2 := HST1.out.c2
  have c5 := HST1.out.c5
  have f2 := HST1.out.fr 2
  have HST2 : Hid (St w1 B b pr bs (nh + k) bl ha nh hc wa nw wc da 0 dc Y xw []) := by rw [hY]; exact HST1.out
  have i1 : (0 : Int) ≤ (k : Int) := by omega
  clear hX hY hA hpr HST1 hZ
  go_region_law ((refine step_append_lies _ (by rfl) _ _ _ (by rfl) B 5 i0 (.int .u8 0) 1 1 Try.underlying22 hi hz0 hz1 hz2 rfl (by omega) (.slice ha nh hc) nh Y (by simp [Act.eval]) hown.drew ⟨g, o0, none⟩ k k X (by simp [Act.eval]) hXl hXc hX1 (by omega) (by unfold maxLen; omega) (by omega) hBs w1.heap.size rfl ?_; intro g3 cap w2 hown2 hgrow hat hlt2; have HF : Hid _ := HST2.out.drew.held_app hown2 hgrow hat; have c21 := (hgrow.cell_far ⟨b, 2, none⟩ lb1 (Ne.symm HNE.out)).trans c2; have c51 := (hgrow.cell_far ⟨b, 5, none⟩ lb1 (Ne.symm HNE.out)).trans c5; have c11 := (hgrow.cell_far ⟨b, 1, none⟩ lb1 (Ne.symm HNE.out)).trans c1; have f21 := (hgrow.frozen_far ⟨b, 2, none⟩ lb1 (Ne.symm HNE.out)).trans f2; clear hown2 hgrow hat hlt2))
  clear c21 c51 c11 f21 c1 c2 c5 f2 hown
  rw [HXY.out] at HF
  have HB3 : Hid (Below B w (w2.setCell ⟨b, 2, none⟩ (.slice (some ⟨g3, 0, none⟩) (nh + k) cap))) := HB1.out.drew.trans HF.out.2
  generalize w2.setCell ⟨b, 2, none⟩ (.slice (some ⟨g3, 0, none⟩) (nh + k) cap) = w3 at *
  clear HB1 HST2 HNE lb1 hBs
  have c1 := HF.out.1.c1
  have c2 := HF.out.1.c2
  go_wp2_with fail
  go_quiet (fail)
  go_wp2_with fail
  have HF4 : Hid (St (w3.drewN nq) B b pr bs (nh + k) bl (some ⟨g3, 0, none⟩) (nh + k) cap wa nw wc da 0 dc Z xw []) := HF.out.1.drewN nq
  have HB4 : Hid (Below B w (w3.drewN nq)) := below_drewN HB3.out nq
  generalize w3.drewN nq = w4 at *
  clear HF HB3 c1 c2 hXl hXc hX1 HXY
  have hown4 := own0 HF4.out.whole
  have lb4 := HF4.out.lt
  have hBs : B ≤ w4.heap.size := by omega
  have HNE : Hid ((Value.slice wa 0 wc).ownBlock ≠ some b) := by rw [ob0 wa 0 nw wc]; exact HF4.out.wb
  obtain ⟨hZl, hZc, hZ1⟩ := held_cells HF4.out HZ.out
  have c2 := HF4.out.c2
  have c3 := HF4.out.c3
  have c5 := HF4.out.c5
  have f3 := HF4.out.fr 3
  go_region_law ((refine step_append_lies _ (by rfl) _ _ _ (by rfl) B 5 i0 (.int .u8 0) 1 1 Try.underlying22 hi hz0 hz1 hz2 rfl (by omega) (.slice wa 0 wc) 0 [] (by first | (simp [Act.eval]; done) | simp [Act.eval, Act.put]) hown4.drew ⟨g3, 0, none⟩ (nh + k) cap Z (by first | (simp [Act.eval]; done) | simp [Act.eval, Act.put]) hZl hZc hZ1 (by omega) (by unfold maxLen; omega) (by omega) hBs w4.heap.size rfl ?_; intro g4 cap4 w5 hown5 hgrow hat hlt2; have HW : Hid _ := whole_step HF4.out hown5 hgrow hat; have c31 := (hgrow.cell_far ⟨b, 3, none⟩ lb4 (Ne.symm HNE.out)).trans c3; have f31 := (hgrow.frozen_far ⟨b, 3, none⟩ lb4 (Ne.symm HNE.out)).trans f3; clear hown5 hgrow hat hlt2))
  all_goals
    clear c31 f31 c2 c3 c5 f3 hown4 HNE hZl hZc hZ1
    have HB6 : Hid (Below B w (w5.setCell ⟨b, 3, none⟩ (.slice (some ⟨g4, 0, none⟩) (nh + k) cap4))) := HB4.out.trans HW.out.2
    have HS6 : Hid (St (w5.setCell ⟨b, 3, none⟩ (.slice (some ⟨g4, 0, none⟩) (nh + k) cap4)) B b pr bs (nh + k) bl (some ⟨g3, 0, none⟩) (nh + k) cap (some ⟨g4, 0, none⟩) (nh + k) cap4 da 0 dc Z Z []) := HW.out.1
    generalize w5.setCell ⟨b, 3, none⟩ (.slice (some ⟨g4, 0, none⟩) (nh + k) cap4) = w6 at *
    clear HW HB4 HF4
    have c3 := HS6.out.c3
    go_wp2_with fail
    refine (packet_any _ B b pr bs (nh + k) bl (some ⟨g3, 0, none⟩) (nh + k) cap (some ⟨g4, 0, none⟩) (nh + k) cap4 da 0 dc Z Z [] _ _ _ HS6.out hbs (by omega) (by omega) (by omega)).mono ?_
    rintro e w7 ⟨rfl, g5, c5', hst7, hb7⟩
    have c2 := hst7.c2
    have f2 := hst7.fr 2
    have HS7 : Hid (St w7 B b pr bs (nh + k) (bl + (nh + k) / bs) (some ⟨g3, 0, none⟩) (nh + k) cap (some ⟨g4, 0, none⟩) (nh + k) cap4 (some ⟨g5, 0, none⟩) 1 c5' Z Z [.slice (some ⟨g4, 0, none⟩) (nh + k) cap4, .int .i64 (bl : Int)]) := hst7
    have HB7 : Hid (Below B w w7) := HB6.out.trans hb7
    clear hst7 hb7 HB6 HS6 c3
    go_wp2_with fail
    have HI : Hid (LI w (w7.setCell ⟨b, 2, none⟩ (.slice (some ⟨g3, 0, none⟩) 0 cap)) B b pr bs (nh + k) bl per (some ⟨g3, 0, none⟩) cap (some ⟨g4, 0, none⟩) (nh + k) cap4 Z F g (nh + k) A 1 0 (o0 + k) none 0 (some ⟨g5, 0, none⟩) c5') :=
      li_start HS7.out HB7.out HP.out HZ.out ⟨Nat.le_refl _, fun hx => by omega⟩ (by omega)
    clear HS7 HB7 c2 f2
    generalize w7.setCell ⟨b, 2, none⟩ (.slice (some ⟨g3, 0, none⟩) 0 cap) = w8 at *
    obtain ⟨PV, hst, hPV⟩ := HI.out.st
    have HPV : Hid (∀ i, i < 1 → Lies pr (.slice (some ⟨g4, 0, none⟩) (nh + k) cap4) Z (nh + k) F (i * (nh + k)) (PV i)) := hPV
    have c1 := hst.c1
    have c2 := hst.c2
    have c5 := hst.c5
    have f2 := hst.fr 2
    have HST : Hid (St w8 B b pr bs (nh + k) (bl + 1 * per) (some ⟨g3, 0, none⟩) 0 cap (some ⟨g4, 0, none⟩) (nh + k) cap4 (some ⟨g5, 0, none⟩) 1 c5' [] Z (packs PV bl per 1)) := hst
    clear hst hPV
    refine wp_loop_rounds 1 ?_
    rw [rounds_succ]
    go_wp2_with (at_builtin; go_must (refine wpList_append_zero _ rfl (.tmp 117) (.tmp 118) rfl (some ⟨g3, 0, none⟩) 0 cap _ _ _ rfl rfl (by simp) (Nat.zero_le _) ?_))
    go_ret
    exact HI.out.fin (by omega) PV HPV.out rfl (by rw [seg_zero]) rfl HST.out.held0 ((Below.refl _ _).setCell hba _)
end Go.Proofs.Qxb6628238a
