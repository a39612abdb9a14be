import Derived.Test.Qxb6628238aOuts
namespace Go.Proofs.Qxb6628238a
open Go.RowKit

theorem Left.take {pr : Nat → Obj → Prop} {g o p r c k : Nat} {A : Array Value} {F : Nat → Int} {a : Option Addr} (h : Left pr g o A F p r a c) (hk : k ≤ r) : Left pr g o A F p k a c :=
  ⟨Nat.le_trans hk h.1, fun hx => by obtain ⟨h1, h2, h3⟩ := h.2 (by omega); exact ⟨h1, h2, fun j hj => h3 j (by omega)⟩⟩
theorem Left.shift {pr pr' : Nat → Obj → Prop} {g o p p' r c : Nat} {A : Array Value} {F F' : Nat → Int} {a : Option Addr} (h : Left pr g o A F p r a c) (hp : ∀ g O, pr g O → pr' g O) (hF : ∀ j, F (p + j) = F' (p' + j)) : Left pr' g o A F' p' r a c :=
  ⟨h.1, fun hx => by obtain ⟨h1, h2, h3⟩ := h.2 hx; exact ⟨hp _ _ h1, h2, fun j hj => by rw [h3 j hj, hF j]⟩⟩
theorem seg_shift {F F' : Nat → Int} {p p' r : Nat} (hF : ∀ j, F (p + j) = F' (p' + j)) : seg F p r = seg F' p' r := by
  unfold seg
  exact List.map_congr_left (fun j _ => by rw [hF j])

/-- What 'Add' leaves, as a caller uses it. -/
theorem add_use {w w' : World} {e : Ending} {B b : Nat} {pr : Nat → Obj → Prop} {bs sz bl per : Nat} {F : Nat → Int} {tot : Nat} (h : AddPost w w' e B b pr bs sz bl per F tot) :
    ∃ (q r : Nat) (ha : Option Addr) (hc : Nat) (wa : Option Addr) (nw wc : Nat) (xw : List Value) (da : Option Addr) (dc : Nat) (xd : List Value), q * sz + r = tot ∧ r < sz ∧ e = .returned (.slice da q dc) ∧
      St w' B b pr bs sz (bl + q * per) ha r hc wa nw wc da q dc (seg F (q * sz) r) xw xd ∧ Below B w w' ∧ Pks w' da q sz bl per F ∧ Src w' ha r F (q * sz) := by
  obtain ⟨q, r, ha, hc, wa, nw, wc, xw, da, dc, PV, h1, h2, h3, h4, h5, h6⟩ := h
  refine ⟨q, r, ha, hc, wa, nw, wc, xw, da, dc, _, h1, h2, h3, h4, h5, done_look h4 h6, fun j hj => ?_⟩
  obtain ⟨hg, e1, e2⟩ := held_look h4 j hj
  exact ⟨hg, 0, e1, by rw [Nat.zero_add]; exact e2⟩

theorem small_q {q sz r tot : Nat} (h : q * sz + r = tot) (hsz : 1 ≤ sz) (ht : tot ≤ 1048576) : q ≤ 1048576 ∧ (0 < q → sz ≤ 1048576) := by
  have h1 : q * 1 ≤ q * sz := Nat.mul_le_mul_left q hsz
  refine ⟨by omega, fun hq => ?_⟩
  have h2 : 1 * sz ≤ q * sz := Nat.mul_le_mul_right sz hq
  omega

theorem sum_two {q r nh m q1 r1 cut q2 r2 sz Q : Nat} (h : q * sz + r = nh + m) (hr : r < sz) (h1 : q1 * sz + r1 = nh + cut) (h2 : q2 * sz + r2 = r1 + (m - cut)) (hr2 : r2 < sz) (hcut : cut ≤ m) (hQ : (nh + m) / sz = Q) : q = Q ∧ q = q1 + q2 ∧ r = r2 := by
  have e1 := div_of_sum h hr
  have h3 : (q1 + q2) * sz + r2 = nh + m := by rw [Nat.add_mul]; omega
  have e2 := div_of_sum h3 hr2
  have e3 : q = Q := by omega
  have e4 : q = q1 + q2 := by omega
  refine ⟨e3, e4, ?_⟩
  rw [e4] at h
  omega

set_option maxRecDepth 100000 in
set_option maxHeartbeats 8000000 in
theorem cut_main (bs sz bl nh m cut : Nat) (a2 : Option Addr) (c2 : Nat) (a4 : Option Addr) (c4 : Nat) (F : Nat → Int) (w : World) (s2 : Src w a2 nh F 0) (n2 : a2 = none → nh = 0) (s4 : Src w a4 m F nh) (n4 : a4 = none → m = 0)
    (hnm : nh + m ≤ 1048576) (hbs : 1 ≤ bs) (hbs2 : bs ≤ 1073741824) (hsb : bs ≤ sz) (hsz2 : sz ≤ 1073741824) (hmod : sz % bs = 0) (hlt : nh < sz) (hbl : bl ≤ 1073741824) (per : Nat) (hper : sz / bs = per) (hblm : bl % per = 0) (hcut : cut ≤ m) :
    Calls Try.prog 4 #[.int .i64 (bs : Int), .int .i64 (sz : Int), .slice a2 nh c2, .int .i64 (bl : Int), .slice a4 m c4, .int .i64 (cut : Int)] w fun e w' => e = .returned (.bool true) ∧ Below w.heap.size w w' := by
  have hp1 : 1 ≤ per := by rw [← hper]; exact Nat.div_pos hsb (by omega)
  have hp2 : per ≤ sz := by rw [← hper]; exact Nat.div_le_self _ _
  have d1 : decide ((1048576 : Int) < (nh : Int)) = false := decide_eq_false (by omega)
  have d2 : decide ((1048576 : Int) < (m : Int)) = false := decide_eq_false (by omega)
  have d3 : decide ((1048576 : Int) < (nh : Int) + (m : Int)) = false := decide_eq_false (by omega)
  have d4 : decide ((bs : Int) < 1) = false := decide_eq_false (by omega)
  have d5 : decide ((1073741824 : Int) < (bs : Int)) = false := decide_eq_false (by omega)
  have d6 : decide (sz < bs) = false := decide_eq_false (by omega)
  have d7 : decide ((1073741824 : Int) < (sz : Int)) = false := decide_eq_false (by omega)
  have d8 : ((sz : Int) % (bs : Int) != 0) = false := by rw [← Int.natCast_emod, hmod]; rfl
  have d9 : decide (sz ≤ nh) = false := decide_eq_false (by omega)
  have d10 : decide ((bl : Int) < 0) = false := decide_eq_false (by omega)
  have d11 : decide ((1073741824 : Int) < (bl : Int)) = false := decide_eq_false (by omega)
  have hpw : wrap64 ((sz : Int) / (bs : Int)) = (per : Int) := div_wrap hper (by omega)
  have d12 : ((bl : Int) % (per : Int) != 0) = false := by rw [← Int.natCast_emod, hblm]; rfl
  have d13 : decide ((cut : Int) < 0) = false := decide_eq_false (by omega)
  have d14 : decide (m < cut) = false := decide_eq_false (by omega)
  have H2 : Hid (Src w a2 nh F 0) := s2
  have H4 : Hid (Src w a4 m F nh) := s4
  have HP : Hid (sz / bs = per) := hper
  have HM : Hid (bl % per = 0) := hblm
  obtain ⟨Q, hQ⟩ : ∃ Q, (nh + m) / sz = Q := ⟨_, rfl⟩
  have hqw : ((nh : Int) + (m : Int)) / (sz : Int) = (Q : Int) := by rw [← Int.natCast_add, ← Int.natCast_ediv, hQ]
  have HQ : Hid ((nh + m) / sz = Q) := hQ
  clear s2 s4 hper hblm hmod hQ
  go_enter Try.func4, Try.ntmps4
  go_wp2_with (go_at_call 12; refine (bytes12_yes _ _ _ _ _ _ _ _ _ _ _ hnm).mono ?_; rintro e w' ⟨rfl, rfl⟩)
  rw [hqw, hpw]
  clear hqw hpw d1 d2 d3 d4 d5 d6 d7 d8 d9 d10 d11 d12 d13 d14
  refine (clone_any a2 nh c2 F 0 _ (by omega) H2.out n2).mono ?_
  rintro e v1 ⟨a1, c1, rfl, hb1, hc1, hcl1⟩
  have HB1 : Hid (Below w.heap.size w v1) := hb1
  have HC1 : Hid (Cloned w v1 a1 nh c1 F 0) := hcl1
  clear hb1 hcl1
  go_wp2_with fail
  refine (clone_any a4 m c4 F nh _ (by omega) (H4.out.later HB1.out) n4).mono ?_
  rintro e v2 ⟨a3, c3, rfl, hb2, hc3, hcl2⟩
  have HB2 : Hid (Below v1.heap.size v1 v2) := hb2
  have HC2 : Hid (Cloned v1 v2 a3 m c3 F nh) := hcl2
  clear hb2 hcl2
  go_wp2_with fail
  refine (new_any bs sz bl a1 nh c1 _).mono ?_
  rintro e v3 ⟨rfl, rfl⟩
  obtain ⟨pr, g, A, hst, hleft⟩ := start_ok (bs := bs) (sz := sz) (bl := bl) HB1.out HC1.out HB2.out HC2.out (by omega)
  have HST : Hid _ := hst
  have HLE : Hid (Left pr g 0 A F nh m a3 c3) := hleft
  have HB3 : Hid (Below w.heap.size w v2) := HB1.out.trans (HB2.out.mono HB1.out.size)
  clear hst hleft HB1 HC1 HB2 HC2
  go_wp2_with fail
  refine (add_any _ w.heap.size v2.heap.size pr bs sz bl per a1 nh c1 none 0 0 none 0 0 [] [] a3 m c3 F HST.out g 0 A HLE.out hlt hsz2 hbs HP.out (by omega) (by omega)).mono ?_
  rintro e v4 hpost
  obtain ⟨q, r, ha, hc, wa, nw, wc, xw, da, dc, xd, hsum, hr, rfl, hst4, hbe4, hpk4, hsr4⟩ := add_use hpost
  have HB4 : Hid (Below w.heap.size w v4) := (HB3.out.alloc HB3.out.size _).trans hbe4
  have HPK4 : Hid (Pks v4 da q sz bl per F) := hpk4
  have HSR4 : Hid (Src v4 ha r F (q * sz)) := hsr4
  have HK2 : Hid (v4.cell? ⟨v2.heap.size, 2, none⟩ = some (.slice ha r hc)) := hst4.c2
  have HK4 : Hid (v4.cell? ⟨v2.heap.size, 4, none⟩ = some (.int .i64 ((bl + q * per : Nat) : Int))) := hst4.c4
  have HSUM : Hid (q * sz + r = nh + m) := hsum
  obtain ⟨hq20, hqs⟩ := small_q hsum (by omega) hnm
  clear hpost hst4 hbe4 hpk4 hsr4 hsum HST HLE HB3
  go_wp2_with fail
  refine (outs_any da q dc sz bl per F _ (by omega) (fun hx => by have := hqs hx; omega) HPK4.out).mono ?_
  rintro e v5 ⟨rfl, hpl5, hfb5, hb5⟩
  have HPL5 : Hid (PL v5 v4.heap.size q sz F) := hpl5
  have HFB5 : Hid (FB v5 (v4.heap.size + 1) q bl per) := hfb5
  have HB5 : Hid (Below v4.heap.size v4 v5) := hb5
  have HB05 : Hid (Below w.heap.size w v5) := HB4.out.trans (hb5.mono HB4.out.size)
  clear hpl5 hfb5 hb5 HPK4
  go_wp2_with fail
  refine (clone_any a2 nh c2 F 0 _ (by omega) (H2.out.later HB05.out) n2).mono ?_
  rintro e v6 ⟨a6, c6, rfl, hb6, hc6, hcl6⟩
  have HB6 : Hid (Below v5.heap.size v5 v6) := hb6
  have HC6 : Hid (Cloned v5 v6 a6 nh c6 F 0) := hcl6
  clear hb6 hcl6
  go_wp2_with fail
  refine (clone_any a4 m c4 F nh _ (by omega) ((H4.out.later HB05.out).later HB6.out) n4).mono ?_
  rintro e v7 ⟨a7, c7, rfl, hb7, hc7, hcl7⟩
  have HB7 : Hid (Below v6.heap.size v6 v7) := hb7
  have HC7 : Hid (Cloned v6 v7 a7 m c7 F nh) := hcl7
  clear hb7 hcl7
  go_wp2_with fail
  refine (new_any bs sz bl a6 nh c6 _).mono ?_
  rintro e v8 ⟨rfl, rfl⟩
  obtain ⟨pr2, g2, A2, hst8, hleft8⟩ := start_ok (bs := bs) (sz := sz) (bl := bl) HB6.out HC6.out HB7.out HC7.out (by omega)
  have HST8 : Hid _ := hst8
  have HLE8 : Hid (Left pr2 g2 0 A2 F nh m a7 c7) := hleft8
  have HB57 : Hid (Below v5.heap.size v5 v7) := HB6.out.trans (HB7.out.mono HB6.out.size)
  clear hst8 hleft8 HB6 HC6 HB7 HC7
  have i1 : (0 : Int) ≤ (cut : Int) := by omega
  have i2 : (cut : Int) ≤ (m : Int) := by omega
  have i3 : (cut : Int) ≤ (c7 : Int) := by omega
  go_wp2_with fail
  refine (add_any _ v5.heap.size v7.heap.size pr2 bs sz bl per a6 nh c6 none 0 0 none 0 0 [] [] a7 cut c7 F HST8.out g2 0 A2 (HLE8.out.take hcut) hlt hsz2 hbs HP.out (by omega) (by omega)).mono ?_
  rintro e v9 hpost
  obtain ⟨q1, r1, ha1, hc1', wa1, nw1, wc1, xw1, da1, dc1, xd1, hsum1, hr1, rfl, hst9, hbe9, hpk9, hsr9⟩ := add_use hpost
  have HB9 : Hid (Below v5.heap.size v5 v9) := (HB57.out.alloc HB57.out.size _).trans hbe9
  have HPK9 : Hid (Pks v9 da1 q1 sz bl per F) := hpk9
  have HST9 : Hid (St v9 v5.heap.size v7.heap.size pr2 bs sz (bl + q1 * per) ha1 r1 hc1' wa1 nw1 wc1 da1 q1 dc1 (seg F (q1 * sz) r1) xw1 xd1) := hst9
  have HSUM1 : Hid (q1 * sz + r1 = nh + cut) := hsum1
  obtain ⟨hq120, hqs1⟩ := small_q hsum1 (by omega) (by omega)
  have hq1p := (mul_le_tot hsum1 (Nat.le_refl q1) hp2).2
  have hr1b : r1 ≤ nh + cut := by omega
  clear hpost hst9 hbe9 hpk9 hsr9 hsum1 HST8 HB57
  go_wp2_with fail
  refine (outs_any da1 q1 dc1 sz bl per F _ (by omega) (fun hx => by have := hqs1 hx; omega) HPK9.out).mono ?_
  rintro e v10 ⟨rfl, hpl10, hfb10, hb10⟩
  have HPL10 : Hid (PL v10 v9.heap.size q1 sz F) := hpl10
  have HFB10 : Hid (FB v10 (v9.heap.size + 1) q1 bl per) := hfb10
  have HB10 : Hid (Below v5.heap.size v5 v10) := HB9.out.trans (hb10.mono HB9.out.size)
  obtain ⟨F', hF'⟩ : ∃ F' : Nat → Int, ∀ j, F' j = F (q1 * sz + j) := ⟨fun j => F (q1 * sz + j), fun _ => rfl⟩
  have HF' : Hid (∀ j, F' j = F (q1 * sz + j)) := hF'
  have hst10 := HST9.out.reprot hb10
  rw [seg_shift (F := F) (F' := F') (p' := 0) (fun j => by rw [Nat.zero_add, hF' j])] at hst10
  obtain ⟨pr3, hpr3⟩ : ∃ pr3 : Nat → Obj → Prop, pr3 = fun g O => pr2 g O ∨ (v9.heap.size ≤ g ∧ v10.heap[g]? = some O) := ⟨_, rfl⟩
  rw [← hpr3] at hst10
  have HPR3 : Hid (pr3 = fun g O => pr2 g O ∨ (v9.heap.size ≤ g ∧ v10.heap[g]? = some O)) := hpr3
  obtain ⟨bl1, hbl1⟩ : ∃ bl1, bl1 = bl + q1 * per := ⟨_, rfl⟩
  rw [← hbl1] at hst10
  have hbl1b : bl1 ≤ 1075838976 := by omega
  have HBL1 : Hid (bl1 = bl + q1 * per) := hbl1
  have HST10 : Hid (St v10 v5.heap.size v7.heap.size pr3 bs sz bl1 ha1 r1 hc1' wa1 nw1 wc1 da1 q1 dc1 (seg F' 0 r1) xw1 xd1) := hst10
  have hsh : ∀ j, F (nh + cut + j) = F' (r1 + j) := fun j => by rw [hF', ← HSUM1.out, Nat.add_assoc]
  have hsub : ∀ g O, pr2 g O → pr3 g O := fun g O h => by rw [hpr3]; exact .inl h
  have HL8 : Hid (Left pr3 g2 (0 + cut) A2 F' r1 (m - cut) (Option.map (fun x => x.add cut) a7) (c7 - cut)) := by
    refine (HLE8.out.drop hcut _ (fun hx => ?_)).shift hsub hsh
    obtain ⟨_, e2, _⟩ := HLE8.out.2 (by omega)
    rw [e2, Nat.zero_add]
    show some (Addr.add ⟨g2, 0, none⟩ cut) = _
    rw [Go.WideShapes.add_plain, Nat.zero_add]
  have HL9 : Hid (c7 = cut → Left pr3 g2 (0 + cut) A2 F' r1 (m - cut) a7 0) := fun hx => by
    have h3 := (HLE8.out.drop hcut a7 (fun hx => by omega)).shift (p' := r1) hsub hsh
    rw [hx, Nat.sub_self] at h3
    exact h3
  clear hpl10 hfb10 hb10 hF' hst10 hpr3 hbl1 HPK9 HST9 HB9 hsh hsub HLE8
  go_wp2_with fail
  case' inl => refine (add_any _ v5.heap.size v7.heap.size pr3 bs sz bl1 per ha1 r1 hc1' wa1 nw1 wc1 da1 q1 dc1 xw1 xd1 a7 (m - cut) 0 F' HST10.out g2 (0 + cut) A2 (HL9.out (by assumption)) hr1 hsz2 hbs HP.out (by omega) (by omega)).mono ?_
  case' inr => refine (add_any _ v5.heap.size v7.heap.size pr3 bs sz bl1 per ha1 r1 hc1' wa1 nw1 wc1 da1 q1 dc1 xw1 xd1 (Option.map (fun x => x.add cut) a7) (m - cut) (c7 - cut) F' HST10.out g2 (0 + cut) A2 HL8.out hr1 hsz2 hbs HP.out (by omega) (by omega)).mono ?_
  all_goals
    rintro e v11 hpost
    obtain ⟨q2, r2, ha2, hc2', wa2, nw2, wc2, xw2, da2, dc2, xd2, hsum2, hr2, rfl, hst11, hbe11, hpk11, hsr11⟩ := add_use hpost
    have kf : KeptFrom v9.heap.size v10 v11 := fun g O hg hO => (hst11.prot g O (by rw [HPR3.out]; exact .inr ⟨hg, hO⟩)).1
    have HPL11 : Hid (PL v11 v9.heap.size q1 sz F) := HPL10.out.kept kf
    have HFB11 : Hid (FB v11 (v9.heap.size + 1) q1 bl per) := HFB10.out.kept kf (by omega)
    have HB11 : Hid (Below v5.heap.size v5 v11) := HB10.out.trans hbe11
    have HPK11 : Hid (Pks v11 da2 q2 sz bl1 per F') := hpk11
    obtain ⟨hQ1, hQ2, hrr⟩ := sum_two HSUM.out hr HSUM1.out hsum2 hr2 hcut HQ.out
    obtain rfl := hQ1
    obtain rfl := hrr
    subst hQ2
    have HS2 : Hid (Src v11 ha2 r F ((q1 + q2) * sz)) := fun j hj => by
      obtain ⟨g, o, e1, e2⟩ := hsr11 j hj
      refine ⟨g, o, e1, ?_⟩
      rw [e2, HF'.out, Nat.add_mul, Nat.add_assoc]
    have HM2 : Hid (v11.cell? ⟨v7.heap.size, 2, none⟩ = some (.slice ha2 r hc2')) := hst11.c2
    have HM4 : Hid (v11.cell? ⟨v7.heap.size, 4, none⟩ = some (.int .i64 ((bl1 + q2 * per : Nat) : Int))) := hst11.c4
    obtain ⟨hq220, hqs2⟩ := small_q hsum2 (by omega) (by omega)
    clear hpost hst11 hbe11 hpk11 hsr11 hsum2 HST10 HPR3 HL8 HL9 kf HPL10 HFB10 HB10
    go_wp2_with fail
    refine (outs_any da2 q2 dc2 sz bl1 per F' _ (by omega) (fun hx => by have := hqs2 hx; omega) HPK11.out).mono ?_
    rintro e v12 ⟨rfl, hpl12, hfb12, hb12⟩
    have hb5 : Below v5.heap.size v5 v12 := HB11.out.trans (hb12.mono HB11.out.size)
    have hb4 : Below v4.heap.size v4 v12 := HB5.out.trans (hb5.mono HB5.out.size)
    have G1 : Hid (PL v12 v4.heap.size (q1 + q2) sz F) := HPL5.out.later hb5
    have G2 : Hid (FB v12 (v4.heap.size + 1) (q1 + q2) bl per) := HFB5.out.later hb5
    have G3 : Hid (PL v12 v9.heap.size q1 sz F) := HPL11.out.later hb12
    have G4 : Hid (FB v12 (v9.heap.size + 1) q1 bl per) := HFB11.out.later hb12
    have G5 : Hid (PL v12 v11.heap.size q2 sz F') := hpl12
    have G6 : Hid (FB v12 (v11.heap.size + 1) q2 bl1 per) := hfb12
    have G7 : Hid (Src v12 ha r F ((q1 + q2) * sz)) := HSR4.out.later hb4
    have G8 : Hid (Src v12 ha2 r F ((q1 + q2) * sz)) := HS2.out.later hb12
    have G9 : Hid (v12.cell? ⟨v2.heap.size, 2, none⟩ = some (.slice ha r hc)) := cell_later hb4 HK2.out
    have G10 : Hid (v12.cell? ⟨v2.heap.size, 4, none⟩ = some (.int .i64 ((bl + (q1 + q2) * per : Nat) : Int))) := cell_later hb4 HK4.out
    have G11 : Hid (v12.cell? ⟨v7.heap.size, 2, none⟩ = some (.slice ha2 r hc2')) := cell_later hb12 HM2.out
    have G12 : Hid (v12.cell? ⟨v7.heap.size, 4, none⟩ = some (.int .i64 ((bl1 + q2 * per : Nat) : Int))) := cell_later hb12 HM4.out
    have G13 : Hid (Below w.heap.size w v12) := HB4.out.trans (hb4.mono HB4.out.size)
    have hqw1 : ((nh : Int) + (cut : Int)) / (sz : Int) = (q1 : Int) := by rw [← Int.natCast_add, ← Int.natCast_ediv, div_of_sum HSUM1.out hr1]
    clear hpl12 hfb12 hb12 hb5 hb4 HPL5 HFB5 HPL11 HFB11 HB11 HPK11 HSR4 HS2 HK2 HK4 HM2 HM4 HB4 HB5 HB05 H2 H4
    clear n2 n4 hlt
    go_wp2_with fail
    go_loopw [28] (fun i wr => ∃ k : Nat, k ≤ q1 + q2 ∧ i = .int .i64 (k : Int) ∧ ∃ z, wr = v12.drewN z) (fun i _ => q1 + q2 - (intOf i).toNat)
    case atStart => exact ⟨0, Nat.zero_le _, rfl, 0, rfl⟩
    case round =>
      obtain ⟨i, hi, rfl, z, rfl⟩ := hrel
      clear hqw1
      by_cases hiq : i < q1 + q2
      · obtain ⟨g1, _, e1, s1⟩ := G1.out i hiq
        have e2 := G2.out i hiq
        have S1 : Hid (Src (v12.drewN z) (some ⟨g1, 0, none⟩) sz F (i * sz)) := fun j hj => ⟨g1, 0, rfl, by rw [Nat.zero_add]; exact s1 j hj⟩
        obtain ⟨ip, hip⟩ : ∃ ip, ip = i * per := ⟨_, rfl⟩
        have b2 := (mul_le_tot HSUM.out hi hp2).2
        rw [← hip] at e2 b2
        have hipb : ip ≤ 1048576 := by omega
        clear b2
        have i1 : (0 : Int) ≤ (i : Int) := by omega
        have i2 : (i : Int) < (q1 : Int) + (q2 : Int) := by omega
        by_cases hi1 : i < q1
        · obtain ⟨g3, _, e3, s3⟩ := G3.out i hi1
          have e4 := G4.out i hi1
          have S3 : Hid (Src (v12.drewN z) (some ⟨g3, 0, none⟩) sz F (i * sz)) := fun j hj => ⟨g3, 0, rfl, by rw [Nat.zero_add]; exact s3 j hj⟩
          rw [← hip] at e4
          have HIP : Hid (ip = i * per) := hip
          clear s1 s3 hip
          have i3 : (i : Int) < (q1 : Int) := by omega
          go_wp2_with fail
          refine (same_any _ sz sz _ sz F (i * sz) _ (by have := hqs (by omega); omega) S3.out S1.out).mono ?_
          rintro e w' ⟨rfl, z', rfl⟩
          have ipw : IntKind.i64.wrap ((i : Int) * (per : Int)) = (ip : Int) := mul_wrap' HIP.out.symm (by omega)
          go_wp2_with fail
          go_roundw
          case rel => exact ⟨i + 1, by omega, by go_num, _, rfl⟩
          case measure => simp [intOf]; omega
        · obtain ⟨k, rfl⟩ : ∃ k, i = q1 + k := ⟨i - q1, by omega⟩
          have hk2 : k < q2 := by omega
          obtain ⟨g3, _, e3, s3⟩ := G5.out k hk2
          have e4 := G6.out k hk2
          have S3 : Hid (Src (v12.drewN z) (some ⟨g3, 0, none⟩) sz F ((q1 + k) * sz)) := fun j hj => ⟨g3, 0, rfl, by rw [Nat.zero_add, Nat.add_mul, Nat.add_assoc, ← HF'.out]; exact s3 j hj⟩
          have e5 : bl1 + k * per = bl + ip := by rw [HBL1.out, hip, Nat.add_mul, Nat.add_assoc]
          rw [e5] at e4
          have HIP : Hid (ip = (q1 + k) * per) := hip
          clear s1 s3 hip e5
          have i3 : (0 : Int) ≤ (k : Int) := by omega
          have i4 : (k : Int) < (q2 : Int) := by omega
          go_wp2_with fail
          refine (same_any _ sz sz _ sz F ((q1 + k) * sz) _ (by have := hqs (by omega); omega) S3.out S1.out).mono ?_
          rintro e w' ⟨rfl, z', rfl⟩
          have ipw : IntKind.i64.wrap (((q1 : Int) + (k : Int)) * (per : Int)) = (ip : Int) := by rw [← Int.natCast_add]; exact mul_wrap' HIP.out.symm (by omega)
          go_wp2_with fail
          go_roundw
          case rel => exact ⟨q1 + k + 1, by omega, by go_num, _, rfl⟩
          case measure => simp [intOf]; omega
      · obtain rfl : i = q1 + q2 := by omega
        have hrw : ((nh : Int) + (m : Int)) % (sz : Int) = (r : Int) := by
          rw [← Int.natCast_add, ← Int.natCast_emod, ← HSUM.out, Nat.mul_comm, Nat.mul_add_mod, Nat.mod_eq_of_lt hr]
        go_wp2_with fail
        refine (held_get (v12.drewN z) _ _ ha r hc rfl G9.out).mono ?_
        rintro e w5 ⟨rfl, rfl⟩
        go_wp2_with fail
        refine (held_get (v12.drewN z) _ _ ha2 r hc2' rfl G11.out).mono ?_
        rintro e w5 ⟨rfl, rfl⟩
        go_wp2_with fail
        refine (same_any _ r hc _ hc2' F ((q1 + q2) * sz) (v12.drewN z) (by omega) G7.out G8.out).mono ?_
        rintro e w' ⟨rfl, z', rfl⟩
        obtain ⟨qp, hqp⟩ : ∃ qp, qp = (q1 + q2) * per := ⟨_, rfl⟩
        have b2 := (mul_le_tot HSUM.out (Nat.le_refl _) hp2).2
        have k4 := G10.out
        have k5 := G12.out
        rw [show bl1 + q2 * per = bl + qp from by rw [HBL1.out, hqp, Nat.add_mul, Nat.add_assoc]] at k5
        rw [← hqp] at k4 b2
        have qpw : IntKind.i64.wrap (((q1 : Int) + (q2 : Int)) * (per : Int)) = (qp : Int) := by rw [← Int.natCast_add]; exact mul_wrap' hqp.symm (by omega)
        have hqpb : qp ≤ 1048576 := by omega
        clear hqp b2 hrw
        go_wp2_with fail
        refine (blocks_get (v12.drewN (z + z')) _ _ k4).mono ?_
        rintro e w5 ⟨rfl, rfl⟩
        go_wp2_with fail
        refine (blocks_get (v12.drewN (z + z')) _ _ k5).mono ?_
        rintro e w5 ⟨rfl, rfl⟩
        go_wp2
        go_ret
        exact ⟨rfl, below_drewN G13.out _⟩
end Go.Proofs.Qxb6628238a
