import Derived.Test.Qxb6628238aAddParts
namespace Go.Proofs.Qxb6628238a
open Go.RowKit

theorem small_mul {q sz r tot per bs : Nat} (h : q * sz + r = tot) (hper : sz / bs = per) (hsz : 1 ≤ sz) : q ≤ tot ∧ q * per ≤ tot := by
  have h1 : q * 1 ≤ q * sz := Nat.mul_le_mul_left q hsz
  have h2 : per ≤ sz := by rw [← hper]; exact Nat.div_le_self _ _
  have h3 : q * per ≤ q * sz := Nat.mul_le_mul_left q h2
  omega

set_option maxRecDepth 100000 in
set_option maxHeartbeats 1000000 in
theorem add_t (w : World) (B b : Nat) (pr : Nat → Obj → Prop) (bs sz bl per : Nat) (ha : Option Addr) (hc : Nat) (wa : Option Addr) (nw wc : Nat) (da : Option Addr) (nd dc : Nat) (xw xd : List Value)
    (a : Option Addr) (n c : Nat) (h : St w B b pr bs sz bl ha 0 hc wa nw wc da nd dc [] xw xd) (F : Nat → Int) (g o0 : Nat) (A : Array Value) (hl : Left pr g o0 A F 0 n a c) (hn : n ≤ 2097152) (hsz : 1 ≤ sz) (hsz2 : sz ≤ 1073741824) (hbs : 1 ≤ bs) (hper : sz / bs = per) (hbl : bl ≤ 1090921693184) :
    Calls Try.prog 9 #[.pointer (some ⟨b, 0, none⟩), .slice a n c] w fun e w' => AddPost w w' e B b pr bs sz bl per F n := by
  have c5 := h.c5
  have c2 := h.c2
  have f5 := h.fr 5
  have lb := h.lt
  have hnc := hl.1
  have hba := h.base
  have HI : Hid (LI w (w.setCell ⟨b, 5, none⟩ (.slice da 0 dc)) B b pr bs sz bl per ha hc wa nw wc xw F g n A 0 n o0 a c da dc) :=
    ⟨(Below.refl _ _).setCell h.base _, by rw [Nat.zero_mul]; exact hl, by omega, fun _ => undef, by rw [Nat.zero_mul, Nat.add_zero, packs_zero]; exact h.done0, fun i hi => by omega⟩
  have HP : Hid (sz / bs = per) := hper
  clear h hl hper
  go_enter Try.func9, Try.ntmps9
  go_wp2_with fail
  go_loopw [1] (fun d wr => ∃ (q r o : Nat) (a' : Option Addr) (c' : Nat) (da' : Option Addr) (dc' : Nat), d = .slice a' r c' ∧ Hid (LI w wr B b pr bs sz bl per ha hc wa nw wc xw F g n A q r o a' c' da' dc')) (fun d _ => (match d with | .slice _ r _ => r | _ => 0))
  case atStart => exact ⟨0, n, o0, a, c, da, dc, rfl, HI.out⟩
  case round =>
    obtain ⟨q, r, o, a', c', da', dc', rfl, HI2⟩ := hrel
    clear HI c5 c2 f5
    have hrc := HI2.out.left.1
    obtain ⟨hq1, hq2⟩ := small_mul HI2.out.sum HP.out hsz
    have HS : Hid (q * sz + r = n) := HI2.out.sum
    obtain ⟨PV, hst, hPV⟩ := HI2.out.st
    have c1 := hst.c1
    have HPV : Hid (∀ i, i < q → Lies pr (.slice wa nw wc) xw sz F (i * sz) (PV i)) := hPV
    obtain ⟨xd', hxd⟩ : ∃ xd', xd' = packs PV bl per q := ⟨_, rfl⟩
    obtain ⟨bl', hbl'⟩ : ∃ bl', bl' = bl + q * per := ⟨_, rfl⟩
    rw [← hxd, ← hbl'] at hst
    have hblb : bl' ≤ 1099511627776 := by omega
    have HST : Hid (St wr B b pr bs sz bl' ha 0 hc wa nw wc da' q dc' [] xw xd') := hst
    have HX : Hid (xd' = packs PV bl per q) := hxd
    have HBL : Hid (bl' = bl + q * per) := hbl'
    clear hxd hbl' hPV hq2
    by_cases hlt : sz ≤ r
    · obtain ⟨hpr, rfl, hA⟩ := HI2.out.left.2 (by omega)
      clear hst hA hpr
      have i1 : (0 : Int) ≤ (sz : Int) := by omega
      have i2 : (sz : Int) ≤ (c' : Int) := by omega
      go_wp2_with fail
      go_region_held3 (fun w' => w'.cell? ⟨b, 1, none⟩ = some (.int .i64 (sz : Int))) (first | go_keep | assumption)
        (first | (go_at_call 15; refine (packet_any _ B b pr bs sz bl' ha 0 hc wa nw wc da' q dc' [] xw xd' _ _ _ HST.out.drew hbs (by omega) hblb (by omega)).mono ?_; rintro e w2 ⟨rfl, g2, cp2, hst2, hb2⟩; have c12 := hst2.c1))
      have HST2 : Hid (St w2 B b pr bs sz (bl' + sz / bs) ha 0 hc wa nw wc (some ⟨g2, 0, none⟩) (q + 1) cp2 [] xw (xd' ++ [.slice (some ⟨g, o, none⟩) sz sz, .int .i64 (bl' : Int)])) := hst2
      have HB2 : Hid (Below B wr w2) := (Below.refl B wr).drew.trans hb2
      clear hst2 hb2 c1
      by_cases hcs : c' = sz
      · go_wp2
        go_roundw
        case rel => exact ⟨q + 1, r - sz, o + sz, _, _, some ⟨g2, 0, none⟩, cp2, rfl, (by have h := HI2.out.next hsz hlt HP.out PV HPV.out HX.out (by have := HST2.out; rw [HBL.out] at this; exact this) HB2.out (some ⟨g, o, none⟩) (fun hx => by omega); rw [show c' - sz = 0 by omega] at h; exact h)⟩
        case measure => simp; omega
      · go_wp2
        go_roundw
        case rel => exact ⟨q + 1, r - sz, o + sz, _, _, some ⟨g2, 0, none⟩, cp2, rfl, HI2.out.next hsz hlt HP.out PV HPV.out HX.out (by have := HST2.out; rw [HBL.out] at this; exact this) HB2.out _ (fun hx => rfl)⟩
        case measure => simp; omega
    · have c2 := hst.c2
      have c5 := hst.c5
      have f2 := hst.fr 2
      clear hst
      by_cases hr : r = 0
      · have HX0 : Hid ([] = seg F (q * sz) r) := by show [] = _; rw [hr, seg_zero]
        have H0 : Hid (St (wr.setCell ⟨b, 2, none⟩ (.slice ha 0 hc)) B b pr bs sz bl' ha r hc wa nw wc da' q dc' [] xw xd') := by rw [hr]; exact HST.out.held0
        go_wp2_with (at_builtin; go_must (refine wpList_append_zero _ rfl (.tmp 117) (.tmp 118) rfl ha 0 hc _ r c' rfl rfl hr (Nat.zero_le _) ?_))
        go_ret
        exact HI2.out.fin (by omega) PV HPV.out HX.out HX0.out HBL.out H0.out ((Below.refl _ _).setCell hba _)
      · obtain ⟨hpr, rfl, hA⟩ := HI2.out.left.2 (by omega)
        have HA : Hid (∀ j, j < r → A[o + j]? = some (.int .u8 (F (q * sz + j)))) := hA
        have HPR : Hid (pr g (.cells A 5 (0, 0))) := hpr
        clear hA hpr
        obtain ⟨X, hX⟩ : ∃ X, X = seg F (q * sz) r := ⟨_, rfl⟩
        have hXl : X.length = r * 1 := by rw [hX, seg_length]; omega
        have hXc : ∀ j u, X[j]? = some u → wr.cell? ((⟨g, o, none⟩ : Addr).add j) = some u := by
          intro j u hu
          rw [hX] at hu
          by_cases hj : j < r
          · rw [seg_get _ _ _ _ hj] at hu
            rw [Go.WideShapes.add_plain, cell_of_row wr g (o + j) _ _ _ (HST.out.prot g _ HPR.out).1, HA.out j hj, hu]
          · rw [seg_get_none _ _ _ _ (by omega)] at hu; cases hu
        have hX1 : ∀ u ∈ X, u.oneCell' = true := by rw [hX]; exact seg_one _ _ _
        have HXe : Hid (X = seg F (q * sz) r) := hX
        have hown := HST.out.held
        have HNE : Hid ((Value.slice ha 0 hc).ownBlock ≠ some b) := HST.out.hb
        obtain ⟨i0, hi, hz0, hz1, hz2⟩ := info_parts info5
        have hBs : B ≤ wr.heap.size := by have := HST.out.lt; omega
        clear hX
        go_wp2_with (at_builtin; go_must (refine wpList_append_lies _ rfl (.tmp 117) (.tmp 118) 22 rfl B 5 i0 (.int .u8 0) 1 1 Try.underlying22 hi hz0 hz1 hz2 rfl (by decide) (.slice ha 0 hc) 0 [] rfl hown ⟨g, o, none⟩ r c' X rfl hXl hXc hX1 (by omega) (by unfold maxLen; omega) (by omega) hBs wr.heap.size rfl ?_); intro g3 cap w1 hown1 hgrow hat hlt1; go_must (have HF : Hid _ := HST.out.held_app hown1 hgrow hat); go_must (have c21 := (hgrow.cell_far ⟨b, 2, none⟩ HST.out.lt (Ne.symm HNE.out)).trans c2); go_must (have c51 := (hgrow.cell_far ⟨b, 5, none⟩ HST.out.lt (Ne.symm HNE.out)).trans c5); go_must (have f21 := (hgrow.frozen_far ⟨b, 2, none⟩ HST.out.lt (Ne.symm HNE.out)).trans f2); clear hown1 hgrow hat hlt1)
        go_ret
        rw [Nat.zero_add, List.nil_append] at HF
        exact HI2.out.fin (by omega) PV HPV.out HX.out HXe.out HBL.out HF.out.1 HF.out.2
end Go.Proofs.Qxb6628238a
