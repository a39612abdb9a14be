import Derived.Test.Qxb6628238aSmall
namespace Go.Proofs.Qxb6628238a
open Go.RowKit

/-- What a clone leaves. -/
def Cloned (w w' : World) (a : Option Addr) (n c : Nat) (F : Nat → Int) (s : Nat) : Prop :=
  (a = none ∧ n = 0 ∧ c = 0 ∧ w' = w) ∨ (a = some ⟨w.heap.size, 0, none⟩ ∧ c = n ∧ w'.heap[w.heap.size]? = some (.cells (seg F s n).toArray 5 (0, 0)))

theorem cloned_owns {w w' : World} {B : Nat} {a : Option Addr} {n c : Nat} {F : Nat → Int} {s : Nat} (h : Cloned w w' a n c F s) (hB : B ≤ w.heap.size) (hn : n ≤ 2097152) : w'.ownsRow B 5 1 (.slice a n c) n (seg F s n) := by
  rcases h with ⟨rfl, rfl, rfl, _⟩ | ⟨rfl, rfl, h1⟩
  · rw [seg_zero]; exact World.ownsRow_nil _ _ _ _
  · refine ⟨by rw [seg_length]; omega, .inr ⟨w.heap.size, c, _, rfl, hB, h1, Nat.le_refl _, by unfold maxLen; omega, ?_, ?_⟩⟩
    · simp [seg_length]
    · rw [List.take_of_length_le (by simp [seg_length])]

/-- The Packer at the start: h, d cloned, the struct laid. -/
theorem start_ok {w w1 w2 : World} {bs sz bl nh m c1 c2 : Nat} {a1 a2 : Option Addr} {F : Nat → Int} (b1 : Below w.heap.size w w1) (d1 : Cloned w w1 a1 nh c1 F 0) (b2 : Below w1.heap.size w1 w2) (d2 : Cloned w1 w2 a2 m c2 F nh) (hn : nh ≤ 2097152) :
    ∃ pr g A, St (w2.alloc (.cells #[.int .i64 (bs : Int), .int .i64 (sz : Int), .slice a1 nh c1, .slice none 0 0, .int .i64 (bl : Int), .slice none 0 0] 41)) w.heap.size w2.heap.size pr bs sz bl a1 nh c1 none 0 0 none 0 0 (seg F 0 nh) [] [] ∧
      Left pr g 0 A F nh m a2 c2 := by
  have o1 := cloned_owns d1 (Nat.le_refl _) hn
  have o2 : w2.ownsRow w.heap.size 5 1 (.slice a1 nh c1) nh (seg F 0 nh) := by
    refine ⟨o1.1, ?_⟩
    rcases o1.2 with h | ⟨g, cap, cur, hv, hg, hh, h5, h6⟩
    · exact .inl h
    · exact .inr ⟨g, cap, cur, hv, hg, by rw [b2.block g (lt_of_block hh), hh], h5, h6⟩
  have hB : w.heap.size ≤ w2.heap.size := Nat.le_trans b1.size b2.size
  rcases d2 with ⟨rfl, rfl, rfl, rfl⟩ | ⟨rfl, rfl, h2⟩
  · exact ⟨fun _ _ => False, 0, #[], st_new hB o2 (fun g O hg => hg.elim), Nat.le_refl _, fun hx => by omega⟩
  · refine ⟨fun g O => g = w1.heap.size ∧ O = .cells (seg F nh c2).toArray 5 (0, 0), w1.heap.size, (seg F nh c2).toArray, st_new hB o2 (fun g O hg => ?_), Nat.le_refl _, fun hx => ⟨⟨rfl, rfl⟩, rfl, fun j hj => ?_⟩⟩
    · obtain ⟨rfl, rfl⟩ := hg
      refine ⟨h2, fun e => ?_⟩
      have := (o1.lt _ e).2
      omega
    · rw [Nat.zero_add, List.getElem?_toArray, seg_get _ _ _ _ hj]

theorem div_wrap {x y q : Nat} (h : x / y = q) (hx : x ≤ 9223372036854775807) : wrap64 ((x : Int) / (y : Int)) = (q : Int) := by
  have h1 := Nat.div_le_self x y
  rw [h] at h1
  rw [← Int.natCast_ediv, h]
  exact IntWalk.wrap64_in _ (by omega)

theorem mul_wrap {x y q : Nat} (h : x * y = q) (hq : q ≤ 9223372036854775807) : wrap64 ((x : Int) * (y : Int)) = (q : Int) := by
  rw [← Int.natCast_mul, h]
  exact IntWalk.wrap64_in _ (by omega)

theorem mul_wrap' {x y q : Nat} (h : x * y = q) (hq : q ≤ 9223372036854775807) : IntKind.i64.wrap ((x : Int) * (y : Int)) = (q : Int) := by
  rw [IntKind.wrap_i64, ← Int.natCast_mul, h]
  omega

theorem packs_length (PV : Nat → Value) (bl per : Nat) : ∀ q, (packs PV bl per q).length = q * 2
  | 0 => by simp [packs]
  | q + 1 => by rw [packs_succ, List.length_append, packs_length PV bl per q]; simp; omega
theorem packs_get (PV : Nat → Value) (bl per : Nat) : ∀ q i, i < q → (packs PV bl per q)[i * 2]? = some (PV i) ∧ (packs PV bl per q)[i * 2 + 1]? = some (.int .i64 ((bl + i * per : Nat) : Int))
  | 0, i, h => by omega
  | q + 1, i, h => by
    rw [packs_succ]
    have hl := packs_length PV bl per q
    by_cases hi : i < q
    · obtain ⟨h1, h2⟩ := packs_get PV bl per q i hi
      rw [List.getElem?_append_left (by rw [hl]; omega), List.getElem?_append_left (by rw [hl]; omega)]
      exact ⟨h1, h2⟩
    · obtain rfl : i = q := by omega
      rw [List.getElem?_append_right (by rw [hl]; omega), List.getElem?_append_right (by rw [hl]; omega), hl, Nat.sub_self, show i * 2 + 1 - i * 2 = 1 from by omega]
      exact ⟨rfl, rfl⟩

/-- What a caller reads off the packets that came back. -/
theorem done_look {w : World} {B b : Nat} {pr : Nat → Obj → Prop} {bs sz bl bl' per : Nat} {ha wa da : Option Addr} {nh hc nw wc q dc : Nat} {xh xw : List Value} {PV : Nat → Value} {F : Nat → Int}
    (h : St w B b pr bs sz bl' ha nh hc wa nw wc da q dc xh xw (packs PV bl per q)) (hp : ∀ i, i < q → PayOk w sz F (i * sz) (PV i)) :
    ∀ i, i < q → ∃ dg pg po pc, da = some ⟨dg, 0, none⟩ ∧ w.cell? ⟨dg, i * 2, none⟩ = some (.slice (some ⟨pg, po, none⟩) sz pc) ∧ w.cell? ⟨dg, i * 2 + 1, none⟩ = some (.int .i64 ((bl + i * per : Nat) : Int)) ∧ sz ≤ pc ∧
      ∀ j, j < sz → w.cell? ⟨pg, po + j, none⟩ = some (.int .u8 (F (i * sz + j))) := by
  intro i hi
  obtain ⟨dg, cap, hv, _, _⟩ := h.done.form (by omega)
  simp only [Value.slice.injEq] at hv
  obtain ⟨rfl, _, rfl⟩ := hv
  obtain ⟨pg, po, pc, h1, h2, h3⟩ := hp i hi
  obtain ⟨g1, g2⟩ := packs_get PV bl per q i hi
  refine ⟨dg, pg, po, pc, rfl, ?_, ?_, h2, h3⟩
  · rw [h.done.cellAt (i * 2) (by omega), g1, h1]
  · rw [h.done.cellAt (i * 2 + 1) (by omega), g2]

/-- .. and off what is held. -/
theorem held_look {w : World} {B b : Nat} {pr : Nat → Obj → Prop} {bs sz bl : Nat} {ha wa da : Option Addr} {nh hc nw wc nd dc : Nat} {xw xd : List Value} {F : Nat → Int} {s : Nat}
    (h : St w B b pr bs sz bl ha nh hc wa nw wc da nd dc (seg F s nh) xw xd) : ∀ j, j < nh → ∃ hg, ha = some ⟨hg, 0, none⟩ ∧ w.cell? ⟨hg, j, none⟩ = some (.int .u8 (F (s + j))) := by
  intro j hj
  obtain ⟨hg, cap, hv, _, _⟩ := h.held.form (by omega)
  simp only [Value.slice.injEq] at hv
  obtain ⟨rfl, _, rfl⟩ := hv
  exact ⟨hg, rfl, by rw [h.held.cellAt j (by omega), seg_get _ _ _ _ hj]⟩

theorem row_look {ws w4 : World} {g n : Nat} {F : Nat → Int} (h : ws.heap[g]? = some (.cells (seg F 0 n).toArray 5 (0, 0))) (hb : Below ws.heap.size ws w4) : ∀ j, j < n → w4.cell? ⟨g, j, none⟩ = some (.int .u8 (F j)) := by
  intro j hj
  have h4 : w4.heap[g]? = some (.cells (seg F 0 n).toArray 5 (0, 0)) := by rw [hb.block g (lt_of_block h), h]
  rw [cell_of_row w4 g j _ _ _ h4, List.getElem?_toArray, seg_get _ _ _ _ hj, Nat.zero_add]

theorem div_of_sum {q sz r tot : Nat} (h : q * sz + r = tot) (hr : r < sz) : tot / sz = q := by
  subst h
  rw [Nat.add_comm, Nat.add_mul_div_right _ _ (by omega), Nat.div_eq_of_lt hr, Nat.zero_add]

theorem mul_lt_tot {i q sz j r tot : Nat} (h : q * sz + r = tot) (hi : i < q) (hj : j < sz) : i * sz + j < tot := by
  have h1 : (i + 1) * sz ≤ q * sz := Nat.mul_le_mul_right sz hi
  rw [Nat.add_mul, Nat.one_mul] at h1
  omega
theorem mul_le_tot {i q sz r tot per : Nat} (h : q * sz + r = tot) (hi : i ≤ q) (hp : per ≤ sz) : i * sz ≤ tot ∧ i * per ≤ tot := by
  have h1 : i * sz ≤ q * sz := Nat.mul_le_mul_right sz hi
  have h2 : i * per ≤ i * sz := Nat.mul_le_mul_left i hp
  omega

set_option maxRecDepth 100000 in
set_option maxHeartbeats 2000000 in
theorem chunk_main (bs sz bl nh m : Nat) (a2 : Option Addr) (c2 : Nat) (a4 : Option Addr) (c4 : Nat) (F : Nat → Int) (w : World) (s2 : Src w a2 nh F 0) (n2 : a2 = none → nh = 0) (s4 : Src w a4 m F nh) (n4 : a4 = none → m = 0)
    (hnm : nh + m ≤ 1048576) (hbs : 1 ≤ bs) (hbs2 : bs ≤ 1073741824) (hsb : bs ≤ sz) (hsz2 : sz ≤ 1073741824) (hmod : sz % bs = 0) (hlt : nh < sz) (hbl : bl ≤ 1073741824) (per : Nat) (hper : sz / bs = per) (hblm : bl % per = 0) :
    Calls Try.prog 3 #[.int .i64 (bs : Int), .int .i64 (sz : Int), .slice a2 nh c2, .int .i64 (bl : Int), .slice a4 m c4] w fun e w' => e = .returned (.bool true) ∧ Below w.heap.size w w' := by
  have hp1 : 1 ≤ per := by rw [← hper]; exact Nat.div_pos hsb (by omega)
  have hp2 : per ≤ sz := by rw [← hper]; exact Nat.div_le_self _ _
  have d1 : decide ((1048576 : Int) < (nh : Int)) = false := decide_eq_false (by omega)
  have d2 : decide ((1048576 : Int) < (m : Int)) = false := decide_eq_false (by omega)
  have d3 : decide ((1048576 : Int) < (nh : Int) + (m : Int)) = false := decide_eq_false (by omega)
  have d4 : decide ((bs : Int) < 1) = false := decide_eq_false (by omega)
  have d5 : decide ((1073741824 : Int) < (bs : Int)) = false := decide_eq_false (by omega)
  have d6 : decide (sz < bs) = false := decide_eq_false (by omega)
  have d7 : decide ((1073741824 : Int) < (sz : Int)) = false := decide_eq_false (by omega)
  have d8 : ((sz : Int) % (bs : Int) != 0) = false := by rw [← Int.natCast_emod, hmod]; rfl
  have d9 : decide (sz ≤ nh) = false := decide_eq_false (by omega)
  have d10 : decide ((bl : Int) < 0) = false := decide_eq_false (by omega)
  have d11 : decide ((1073741824 : Int) < (bl : Int)) = false := decide_eq_false (by omega)
  have hpw : wrap64 ((sz : Int) / (bs : Int)) = (per : Int) := div_wrap hper (by omega)
  have d12 : ((bl : Int) % (per : Int) != 0) = false := by rw [← Int.natCast_emod, hblm]; rfl
  have H2 : Hid (Src w a2 nh F 0) := s2
  have H4 : Hid (Src w a4 m F nh) := s4
  have HP : Hid (sz / bs = per) := hper
  have HM : Hid (bl % per = 0) := hblm
  clear s2 s4 hper hblm hmod
  go_enter Try.func3, Try.ntmps3
  go_wp2_with (go_at_call 5; refine (bytes5_yes _ _ _ _ _ _ _ _ _ _ hnm).mono ?_; rintro e w' ⟨rfl, rfl⟩)
  refine (concat_any a2 nh c2 a4 m c4 F _ (by omega) H2.out H4.out).mono ?_
  rintro e ws ⟨rfl, hs, hbs1⟩
  have HSR : Hid (ws.heap[w.heap.size]? = some (.cells (seg F 0 (nh + m)).toArray 5 (0, 0))) := hs
  have HBS : Hid (Below w.heap.size w ws) := hbs1
  clear hs hbs1
  go_wp2_with fail
  refine (clone_any a2 nh c2 F 0 _ (by omega) (H2.out.later HBS.out) n2).mono ?_
  rintro e w1 ⟨a1, c1, rfl, hb1, hc1, hcl1⟩
  have HB1 : Hid (Below ws.heap.size ws w1) := hb1
  have HC1 : Hid (Cloned ws w1 a1 nh c1 F 0) := hcl1
  clear hb1 hcl1
  go_wp2_with fail
  refine (clone_any a4 m c4 F nh _ (by omega) ((H4.out.later HBS.out).later (HB1.out)) n4).mono ?_
  rintro e w2 ⟨a3, c3, rfl, hb2, hc3, hcl2⟩
  have HB2 : Hid (Below w1.heap.size w1 w2) := hb2
  have HC2 : Hid (Cloned w1 w2 a3 m c3 F nh) := hcl2
  clear hb2 hcl2
  go_wp2_with fail
  refine (new_any bs sz bl a1 nh c1 _).mono ?_
  rintro e w3 ⟨rfl, rfl⟩
  obtain ⟨pr, g, A, hst, hleft⟩ := start_ok (bs := bs) (sz := sz) (bl := bl) HB1.out HC1.out HB2.out HC2.out (by omega)
  have HST : Hid _ := hst
  have HLE : Hid (Left pr g 0 A F nh m a3 c3) := hleft
  have HB3 : Hid (Below ws.heap.size ws w2) := HB1.out.trans (HB2.out.mono HB1.out.size)
  clear hst hleft
  go_wp2_with fail
  refine (add_any _ ws.heap.size w2.heap.size pr bs sz bl per a1 nh c1 none 0 0 none 0 0 [] [] a3 m c3 F HST.out g 0 A HLE.out hlt hsz2 hbs HP.out (by omega) (by omega)).mono ?_
  rintro e w4 ⟨q, r, ha, hc, wa, nw, wc, xw, da, dc, PV, hsum, hr, rfl, hst4, hbe4, hpay⟩
  have HD : Hid _ := done_look hst4 hpay
  have HH : Hid _ := held_look hst4
  have HB4 : Hid (Below ws.heap.size ws w4) := (HB3.out.alloc HB3.out.size _).trans hbe4
  have HR : Hid (∀ j, j < nh + m → w4.cell? ⟨w.heap.size, j, none⟩ = some (.int .u8 (F j))) := row_look HSR.out HB4.out
  have HBW : Hid (Below w.heap.size w w4) := HBS.out.trans (HB4.out.mono HBS.out.size)
  have k2 := hst4.c2
  have k4 := hst4.c4
  have HSUM : Hid (q * sz + r = nh + m) := hsum
  have hq20 : q ≤ 1048576 := by have := (mul_le_tot hsum (Nat.le_refl q) (by omega : 1 ≤ sz)).2; omega
  have hqw : ((nh : Int) + (m : Int)) / (sz : Int) = (q : Int) := by rw [← Int.natCast_add, ← Int.natCast_ediv, div_of_sum hsum hr]
  clear hst4 hbe4 hpay hsum HST HLE HB3 HB2 HC2 HB1 HC1 HBS HSR H2 H4 HB4 HM HP n2 n4 hc1 hc3 d12 d8
  go_wp2_with fail
  rw [hqw]
  clear hqw hpw d1 d2 d3 d4 d5 d6 d7 d9 d10 d11
  go_loopw [19] (fun i wr => ∃ k : Nat, k ≤ q ∧ i = .int .i64 (k : Int) ∧ ∃ z, wr = w4.drewN z) (fun i _ => q - (intOf i).toNat)
  case atStart => exact ⟨0, Nat.zero_le _, rfl, 0, rfl⟩
  case round =>
    obtain ⟨i, hi, rfl, z, rfl⟩ := hrel
    by_cases hiq : i < q
    · obtain ⟨dg, pg, po, pc, rfl, e0, e1, hpc, hP⟩ := HD.out i hiq
      obtain ⟨ip, hip⟩ : ∃ ip, ip = i * per := ⟨_, rfl⟩
      obtain ⟨is, his⟩ : ∃ is, is = i * sz := ⟨_, rfl⟩
      obtain ⟨b1, b2⟩ := mul_le_tot HSUM.out hi hp2
      rw [← hip] at e1 b2
      rw [← his] at b1
      have ipw : IntKind.i64.wrap ((i : Int) * (per : Int)) = (ip : Int) := mul_wrap' hip.symm (by omega)
      have hipb : ip ≤ 1048576 := by omega
      have hisb : is ≤ 1048576 := by omega
      have HIS : Hid (is = i * sz) := his
      have HP2 : Hid (∀ j, j < sz → w4.cell? ⟨pg, po + j, none⟩ = some (.int .u8 (F (i * sz + j)))) := hP
      have i1 : (0 : Int) ≤ (i : Int) := by omega
      have i2 : (i : Int) < (q : Int) := by omega
      clear hip his hP
      go_wp2_with fail
      clear ipw e1 b2 hipb
      go_loopw [20] (fun j wr => ∃ k : Nat, k ≤ sz ∧ j = .int .i64 (k : Int) ∧ ∃ z, wr = w4.drewN z) (fun j _ => sz - (intOf j).toNat)
      case atStart => exact ⟨0, Nat.zero_le _, rfl, z, rfl⟩
      case round =>
        obtain ⟨j, hj, rfl, z, rfl⟩ := hrel
        by_cases hjz : j < sz
        · have hjt : is + j < nh + m := by rw [HIS.out]; exact mul_lt_tot HSUM.out hiq hjz
          have e2 := HP2.out j hjz
          have e3 := HR.out (is + j) hjt
          rw [← HIS.out] at e2
          generalize F (is + j) = x at *
          have isw : IntKind.i64.wrap ((i : Int) * (sz : Int)) = (is : Int) := mul_wrap' HIS.out.symm (by omega)
          have j1 : (0 : Int) ≤ (j : Int) := by omega
          have j2 : (j : Int) < (sz : Int) := by omega
          have j3 : (is : Int) + (j : Int) < ((nh + m : Nat) : Int) := by omega
          have j4 : (0 : Int) ≤ (is : Int) + (j : Int) := by omega
          go_wp2
          go_quiet (fail)
          go_wp2
          go_roundw
          case rel => exact ⟨j + 1, by omega, by go_num, _, rfl⟩
          case measure => simp [intOf]; omega
        · go_wp2
          go_roundw
          case rel => exact ⟨i + 1, by omega, by go_num, _, rfl⟩
          case measure => simp [intOf]; omega
    · obtain rfl : q = i := by omega
      go_wp2_with fail
      refine (held_get (w4.drewN z) _ _ ha r hc rfl k2).mono ?_
      rintro e w5 ⟨rfl, rfl⟩
      obtain ⟨qs, hqs⟩ : ∃ qs, qs = q * sz := ⟨_, rfl⟩
      obtain ⟨qp, hqp⟩ : ∃ qp, qp = q * per := ⟨_, rfl⟩
      obtain ⟨b1, b2⟩ := mul_le_tot HSUM.out (Nat.le_refl q) hp2
      have HS2 : Hid (qs + r = nh + m) := by show qs + r = nh + m; rw [hqs]; exact HSUM.out
      have l1 : qs + r ≤ nh + m := by rw [HS2.out]; exact Nat.le_refl _
      have l2 : nh + m ≤ qs + r := by rw [HS2.out]; exact Nat.le_refl _
      rw [← hqp] at k4 b2
      have qsw : IntKind.i64.wrap ((q : Int) * (sz : Int)) = (qs : Int) := mul_wrap' hqs.symm (by omega)
      have HQS : Hid (qs = q * sz) := hqs
      have HQP : Hid (qp = q * per) := hqp
      clear hqs hqp b1
      go_wp2_with fail
      go_loopw [22] (fun j wr => ∃ k : Nat, k ≤ r ∧ j = .int .i64 (k : Int) ∧ ∃ z, wr = w4.drewN z) (fun j _ => r - (intOf j).toNat)
      case atStart => exact ⟨0, Nat.zero_le _, rfl, z, rfl⟩
      case round =>
        obtain ⟨j, hj, rfl, z, rfl⟩ := hrel
        by_cases hjr : j < r
        · obtain ⟨hg, rfl, e2⟩ := HH.out j hjr
          rw [← HQS.out] at e2
          have e3 := HR.out (qs + j) (by omega)
          generalize F (qs + j) = x at *
          have j1 : (0 : Int) ≤ (j : Int) := by omega
          have j2 : (j : Int) < (r : Int) := by omega
          have j3 : (qs : Int) + (j : Int) < ((nh + m : Nat) : Int) := by omega
          have j4 : (0 : Int) ≤ (qs : Int) + (j : Int) := by omega
          go_wp2
          go_quiet (fail)
          go_wp2
          go_roundw
          case rel => exact ⟨j + 1, by omega, by go_num, _, rfl⟩
          case measure => simp [intOf]; omega
        · go_wp2_with fail
          refine (blocks_get (w4.drewN z) _ _ k4).mono ?_
          rintro e w5 ⟨rfl, rfl⟩
          have qpw : IntKind.i64.wrap ((q : Int) * (per : Int)) = (qp : Int) := mul_wrap' HQP.out.symm (by omega)
          have hqpb : qp ≤ 1048576 := by omega
          clear qsw
          go_wp2
          go_ret
          exact ⟨rfl, below_drewN HBW.out z⟩
end Go.Proofs.Qxb6628238a
