import Derived.Test.Qxb6626082aSplitParts
namespace Go.Proofs.Qxb6626082a
open Go.RowKit

set_option maxRecDepth 100000 in
set_option maxHeartbeats 1000000 in
theorem split_main (a0 : Option Addr) (n cap0 : Nat) (z0 : List Int) (fl : Bool) (a2 : Option Addr) (m cap2 : Nat) (Bf : Nat → Bool) (k : Nat) (w : World)
    (w0 : IsRow .u8 w a0 n cap0 z0) (w2 : IsBools w a2 m cap2 Bf) (hnm : n + m ≤ 1048576) (hkm : k ≤ m) :
    Calls Try.prog 4 #[.slice a0 n cap0, .bool fl, .slice a2 m cap2, .int .i64 (k : Int)] w fun e w' => e = .returned (.bool true) ∧ Below w.heap.size w w' := by
  obtain ⟨F, hF1, hF2⟩ : ∃ F : Nat → Int, (∀ j, j < n → F j = z0.getD j 0) ∧ (∀ j, F (n + j) = bit (Bf j)) :=
    ⟨fun j => if j < n then z0.getD j 0 else bit (Bf (j - n)), fun j hj => by simp [hj], fun j => by show (if n + j < n then _ else bit (Bf (n + j - n))) = _; rw [if_neg (by omega), Nat.add_sub_cancel_left]⟩
  have hnz := w0.len_le
  have d1 : decide ((1048576 : Int) < (n : Int)) = false := by simp; omega
  have d2 : decide ((1048576 : Int) < (m : Int)) = false := by simp; omega
  have d3 : decide ((1048576 : Int) < (n : Int) + (m : Int)) = false := by simp; omega
  have d4 : decide ((k : Int) < 0) = false := by simp
  have d5 : decide ((m : Int) < (k : Int)) = false := by simp; omega
  have H0 : Hid (IsRow .u8 w a0 n cap0 z0) := w0
  have H2 : Hid (IsBools w a2 m cap2 Bf) := w2
  have HF1 : Hid (∀ j, j < n → F j = z0.getD j 0) := hF1
  have HF2 : Hid (∀ j, F (n + j) = bit (Bf j)) := hF2
  clear w0 w2 hF1 hF2
  go_enter Try.func4, Try.ntmps4
  go_wp2_with (go_at_call 9; refine (bytes4_yes _ _ _ _ _ _ _ _ _ hnm).mono ?_; rintro e w' ⟨rfl, rfl⟩)
  refine (clone_any a0 n cap0 z0 _ H0.out (by omega)).mono ?_
  rintro e w1 ⟨p1, q1, rfl, hown1, hbel1⟩
  have HB1 : Hid (Below w.heap.size w (w1.alloc (.cells #[.slice p1 n q1, .bool fl] 27))) := hbel1.alloc hbel1.size _
  have HW1 : Hid (WS (w1.alloc (.cells #[.slice p1 n q1, .bool fl] 27)) w.heap.size w1.heap.size F 0 n fl) := ws_clone hbel1.size hnz HF1.out hown1
  clear hown1 hbel1
  go_wp2_with fail
  go_loopw [10] (fun i wr => ∃ j : Nat, j ≤ m ∧ i = .int .i64 j ∧ WS wr w.heap.size w1.heap.size F 0 (n + j) fl ∧ Below w.heap.size w wr) (fun i _ => m - (intOf i).toNat)
  case atStart => exact ⟨0, Nat.zero_le _, rfl, HW1.out, HB1.out⟩
  case round =>
    obtain ⟨j, hj, rfl, hws, hbe⟩ := hrel
    have HWS : Hid (WS wr w.heap.size w1.heap.size F 0 (n + j) fl) := hws
    have HBE : Hid (Below w.heap.size w wr) := hbe
    clear hws hbe HW1 HB1
    by_cases hlt : j < m
    · obtain ⟨b, off, rfl, hx⟩ := (H2.out.later HBE.out).cell hlt
      go_wp2_with fail
      refine (bool_seg _ _ 0 (n + j) F fl (Bf j) _ HWS.out (by rw [Nat.zero_add]; exact HF2.out j) (by omega)).mono ?_
      rintro e w2 ⟨rfl, hws2, hbe2⟩
      have HR : Hid (WS w2 w.heap.size w1.heap.size F 0 (n + (j + 1)) fl ∧ Below w.heap.size w w2) := ⟨hws2, HBE.out.trans hbe2⟩
      clear hws2 hbe2 hx
      go_wp2
      go_roundw
      case rel => exact ⟨j + 1, by omega, by go_num, HR.out⟩
      case measure => simp [intOf]; omega
    · obtain rfl : m = j := by omega
      obtain ⟨wF, rfl⟩ : ∃ wF : World, wF = wr := ⟨_, rfl⟩
      go_wp2_with fail
      refine (clone_any a0 n cap0 z0 _ (H0.out.later HBE.out) (by omega)).mono ?_
      rintro e w3 ⟨p3, q3, rfl, hown3, hbel3⟩
      have HB3 : Hid (Below wF.heap.size wF (w3.alloc (.cells #[.slice p3 n q3, .bool fl] 27))) := hbel3.alloc hbel3.size _
      have HW3 : Hid (WS (w3.alloc (.cells #[.slice p3 n q3, .bool fl] 27)) wF.heap.size w3.heap.size F 0 n fl) := ws_clone hbel3.size hnz HF1.out hown3
      clear hown3 hbel3
      go_wp2_with fail
      go_loopw [12] (fun i wr => ∃ j : Nat, j ≤ k ∧ i = .int .i64 j ∧ WS wr wF.heap.size w3.heap.size F 0 (n + j) fl ∧ Below wF.heap.size wF wr) (fun i _ => k - (intOf i).toNat)
      case atStart => exact ⟨0, Nat.zero_le _, rfl, HW3.out, HB3.out⟩
      case round =>
        obtain ⟨j, hj, rfl, hws, hbe⟩ := hrel
        have HWH : Hid (WS wr wF.heap.size w3.heap.size F 0 (n + j) fl) := hws
        have HBH : Hid (Below wF.heap.size wF wr) := hbe
        clear hws hbe HW3 HB3
        by_cases hlt : j < k
        · have hlt2 : j < m := by omega
          obtain ⟨b, off, rfl, hx⟩ := (H2.out.later (HBE.out.trans (HBH.out.mono HBE.out.size))).cell hlt2
          go_wp2_with fail
          refine (bool_seg _ _ 0 (n + j) F fl (Bf j) _ HWH.out (by rw [Nat.zero_add]; exact HF2.out j) (by omega)).mono ?_
          rintro e w2 ⟨rfl, hws2, hbe2⟩
          have HR : Hid (WS w2 wF.heap.size w3.heap.size F 0 (n + (j + 1)) fl ∧ Below wF.heap.size wF w2) := ⟨hws2, HBH.out.trans hbe2⟩
          clear hws2 hbe2 hx
          go_wp2
          go_roundw
          case rel => exact ⟨j + 1, by omega, by go_num, HR.out⟩
          case measure => simp [intOf]; omega
        · obtain rfl : k = j := by omega
          obtain ⟨wH, rfl⟩ : ∃ wH : World, wH = wr := ⟨_, rfl⟩
          go_wp2_with fail
          go_loopw [14] (fun i wr => ∃ j : Nat, j ≤ m - k ∧ i = .int .i64 ((k + j : Nat) : Int) ∧ WS wr wH.heap.size wH.heap.size F (n + k) j fl ∧ Below wH.heap.size wH wr) (fun i _ => m - (intOf i).toNat)
          case atStart => exact ⟨0, Nat.zero_le _, rfl, ws_nil wH F (n + k) fl, (Below.refl _ _).alloc (Nat.le_refl _) _⟩
          case round =>
            obtain ⟨j, hj, rfl, hws, hbe⟩ := hrel
            have HWT : Hid (WS wr wH.heap.size wH.heap.size F (n + k) j fl) := hws
            have HBT : Hid (Below wH.heap.size wH wr) := hbe
            clear hws hbe
            have HBHw : Hid (Below w.heap.size w wH) := HBE.out.trans (HBH.out.mono HBE.out.size)
            by_cases hlt : j < m - k
            · have hlt2 : k + j < m := by omega
              obtain ⟨b, off, rfl, hx⟩ := (H2.out.later (HBHw.out.trans (HBT.out.mono HBHw.out.size))).cell hlt2
              go_wp2_with fail
              refine (bool_seg _ _ (n + k) j F fl (Bf (k + j)) _ HWT.out (by rw [Nat.add_assoc]; exact HF2.out (k + j)) (by omega)).mono ?_
              rintro e w2 ⟨rfl, hws2, hbe2⟩
              have HR : Hid (WS w2 wH.heap.size wH.heap.size F (n + k) (j + 1) fl ∧ Below wH.heap.size wH w2) := ⟨hws2, HBT.out.trans hbe2⟩
              clear hws2 hbe2 hx
              go_wp2
              go_roundw
              case rel => exact ⟨j + 1, by omega, by go_num, HR.out⟩
              case measure => simp [intOf]; omega
            · obtain rfl : j = m - k := by omega
              obtain ⟨wT, rfl⟩ : ∃ wT : World, wT = wr := ⟨_, rfl⟩
              obtain ⟨pf, cf, f0, f1, hf⟩ := ((HWS.out.later HBH.out).later HBT.out).look
              obtain ⟨ph, ch, h0, h1, hh⟩ := (HWH.out.later HBT.out).look
              obtain ⟨pt, ct, t0, t1, ht⟩ := HWT.out.look
              have HBW : Hid (Below w.heap.size w wT) := HBHw.out.trans (HBT.out.mono HBHw.out.size)
              have RB : Hid (∀ j, j < n → ∃ b off, a0 = some ⟨b, off, none⟩ ∧ wT.cell? ⟨b, off + j, none⟩ = some (.int .u8 (F j))) := fun j hj => by
                rw [HF1.out j hj]; exact (H0.out.later HBW.out).cell hj
              have RV : Hid (∀ j, j < m → ∃ b off, a2 = some ⟨b, off, none⟩ ∧ wT.cell? ⟨b, off + j, none⟩ = some (.bool (Bf j))) := fun j hj => (H2.out.later HBW.out).cell hj
              have RF : Hid (∀ j, j < n + m → ∃ g, pf = some ⟨g, 0, none⟩ ∧ wT.cell? ⟨g, j, none⟩ = some (.int .u8 (F j))) := fun j hj => by simpa using hf j hj
              have RH : Hid (∀ j, j < n + k → ∃ g, ph = some ⟨g, 0, none⟩ ∧ wT.cell? ⟨g, j, none⟩ = some (.int .u8 (F j))) := fun j hj => by simpa using hh j hj
              have RT : Hid (∀ j, j < m - k → ∃ g, pt = some ⟨g, 0, none⟩ ∧ wT.cell? ⟨g, j, none⟩ = some (.int .u8 (F (n + k + j)))) := ht
              clear hf hh ht HWS HWH HWT HBT HBHw HBH HBE H0 H2 HF1
              have dd : (((m - k : Nat) : Int) != (m : Int) - (k : Int)) = false := by simp; omega
              go_wp2
              go_loopw [16] (fun i wr => ∃ j : Nat, j ≤ n ∧ i = .int .i64 j ∧ ∃ q, wr = wT.drewN q) (fun i _ => n - (intOf i).toNat)
              case atStart => exact ⟨0, Nat.zero_le _, rfl, 0, rfl⟩
              case round =>
                obtain ⟨j, hj, rfl, q, rfl⟩ := hrel
                by_cases hlt : j < n
                · obtain ⟨b, off, rfl, hx⟩ := RB.out j hlt
                  obtain ⟨g, rfl, hy⟩ := RF.out j (by omega)
                  generalize F j = z at *
                  have i1 : (0 : Int) ≤ (j : Int) := by omega
                  have i2 : (j : Int) < (n : Int) := by omega
                  have i3 : (j : Int) < ((n + m : Nat) : Int) := by omega
                  go_wp2
                  go_quiet (fail)
                  go_wp2
                  go_roundw
                  case rel => exact ⟨j + 1, by omega, by go_num, _, rfl⟩
                  case measure => simp [intOf]; omega
                · obtain rfl : n = j := by omega
                  go_wp2
                  go_loopw [17] (fun i wr => ∃ j : Nat, j ≤ m ∧ i = .int .i64 j ∧ ∃ q, wr = wT.drewN q) (fun i _ => m - (intOf i).toNat)
                  case atStart => exact ⟨0, Nat.zero_le _, rfl, q, rfl⟩
                  case round =>
                    obtain ⟨j, hj, rfl, q, rfl⟩ := hrel
                    by_cases hlt : j < m
                    · obtain ⟨b, off, rfl, hx⟩ := RV.out j hlt
                      obtain ⟨g, rfl, hy⟩ := RF.out (n + j) (by omega)
                      rw [HF2.out j] at hy
                      have i1 : (0 : Int) ≤ (j : Int) := by omega
                      have i2 : (j : Int) < (m : Int) := by omega
                      have i3 : (n : Int) + (j : Int) < ((n + m : Nat) : Int) := by omega
                      have i4 : (0 : Int) ≤ (n : Int) + (j : Int) := by omega
                      go_wp2
                      go_quiet ((go_at_call 8; refine (bit_quiet _ _).mono ?_; rintro e w' ⟨rfl, rfl⟩; exact ⟨rfl, _, rfl⟩))
                      go_wp2
                      go_roundw
                      case rel => exact ⟨j + 1, by omega, by go_num, _, rfl⟩
                      case measure => simp [intOf]; omega
                    · obtain rfl : m = j := by omega
                      go_wp2
                      go_loopw [18] (fun i wr => ∃ j : Nat, j ≤ n + k ∧ i = .int .i64 j ∧ ∃ q, wr = wT.drewN q) (fun i _ => (n + k) - (intOf i).toNat)
                      case atStart => exact ⟨0, Nat.zero_le _, rfl, q, rfl⟩
                      case round =>
                        obtain ⟨j, hj, rfl, q, rfl⟩ := hrel
                        by_cases hlt : j < n + k
                        · obtain ⟨g, rfl, hx⟩ := RH.out j hlt
                          obtain ⟨g', rfl, hy⟩ := RF.out j (by omega)
                          generalize F j = z at *
                          have i1 : (0 : Int) ≤ (j : Int) := by omega
                          have i2 : (j : Int) < ((n + k : Nat) : Int) := by omega
                          have i3 : (j : Int) < ((n + m : Nat) : Int) := by omega
                          go_wp2
                          go_quiet (fail)
                          go_wp2
                          go_roundw
                          case rel => exact ⟨j + 1, by omega, by go_num, _, rfl⟩
                          case measure => simp [intOf]; omega
                        · obtain rfl : j = n + k := by omega
                          go_wp2
                          go_loopw [20] (fun i wr => ∃ j : Nat, j ≤ m - k ∧ i = .int .i64 j ∧ ∃ q, wr = wT.drewN q) (fun i _ => (m - k) - (intOf i).toNat)
                          case atStart => exact ⟨0, Nat.zero_le _, rfl, q, rfl⟩
                          case round =>
                            obtain ⟨j, hj, rfl, q, rfl⟩ := hrel
                            by_cases hlt : j < m - k
                            · obtain ⟨g, rfl, hx⟩ := RT.out j hlt
                              obtain ⟨g', rfl, hy⟩ := RF.out (n + k + j) (by omega)
                              generalize F (n + k + j) = z at *
                              have i1 : (0 : Int) ≤ (j : Int) := by omega
                              have i2 : (j : Int) < ((m - k : Nat) : Int) := by omega
                              have i3 : ((n + k : Nat) : Int) + (j : Int) < ((n + m : Nat) : Int) := by omega
                              have i4 : (0 : Int) ≤ ((n + k : Nat) : Int) + (j : Int) := by omega
                              go_wp2
                              go_quiet (fail)
                              go_wp2
                              go_roundw
                              case rel => exact ⟨j + 1, by omega, by go_num, _, rfl⟩
                              case measure => simp [intOf]; omega
                            · go_wp2
                              go_ret
                              exact ⟨rfl, below_drewN HBW.out q⟩

set_option maxRecDepth 100000 in
theorem split_big (a0 : Option Addr) (n cap0 : Nat) (fl : Bool) (a2 : Option Addr) (m cap2 : Nat) (k : Int) (w : World) (h : 1048576 < n + m) (hn : n ≤ 9223372036854775807) (hm : m ≤ 9223372036854775807) :
    Calls Try.prog 4 #[.slice a0 n cap0, .bool fl, .slice a2 m cap2, .int .i64 k] w fun e w' => e = .returned (.bool true) ∧ Below w.heap.size w w' := by
  go_enter Try.func4, Try.ntmps4
  go_wp2_with (go_at_call 9; refine (bytes4_no _ _ _ _ _ _ _ _ _ h hn hm).mono ?_; rintro e w' ⟨rfl, rfl⟩)
  go_ret
  exact ⟨rfl, Below.refl _ _⟩

set_option maxRecDepth 100000 in
theorem split_cut (a0 : Option Addr) (n cap0 : Nat) (fl : Bool) (a2 : Option Addr) (m cap2 : Nat) (k : Int) (w : World) (h : n + m ≤ 1048576) (hk : k < 0 ∨ (m : Int) < k) :
    Calls Try.prog 4 #[.slice a0 n cap0, .bool fl, .slice a2 m cap2, .int .i64 k] w fun e w' => e = .returned (.bool true) ∧ Below w.heap.size w w' := by
  have d1 : decide ((1048576 : Int) < (n : Int)) = false := by simp; omega
  have d2 : decide ((1048576 : Int) < (m : Int)) = false := by simp; omega
  have d3 : decide ((1048576 : Int) < (n : Int) + (m : Int)) = false := by simp; omega
  rcases hk with hk | hk
  · have d4 : decide (k < 0) = true := by simpa using hk
    go_enter Try.func4, Try.ntmps4
    go_wp2_with (go_at_call 9; refine (bytes4_yes _ _ _ _ _ _ _ _ _ h).mono ?_; rintro e w' ⟨rfl, rfl⟩)
    go_ret
    exact ⟨rfl, Below.refl _ _⟩
  · have d4 : decide (k < 0) = false := by simp; omega
    have d5 : decide ((m : Int) < k) = true := by simpa using hk
    go_enter Try.func4, Try.ntmps4
    go_wp2_with (go_at_call 9; refine (bytes4_yes _ _ _ _ _ _ _ _ _ h).mono ?_; rintro e w' ⟨rfl, rfl⟩)
    go_ret
    exact ⟨rfl, Below.refl _ _⟩

theorem IsRow.le_max {k : IntKind} {w : World} {a : Option Addr} {len cap : Nat} {zs : List Int} (h : IsRow k w a len cap zs) : len ≤ 9223372036854775807 := by
  rcases h with ⟨_, h1, _⟩ | ⟨x, h1, h2, h3, _⟩
  · omega
  · unfold maxLen at h3; omega
theorem IsBools.le_max {w : World} {a : Option Addr} {len cap : Nat} {Bf : Nat → Bool} (h : IsBools w a len cap Bf) : len ≤ 9223372036854775807 := by
  rcases h with ⟨_, h1, _⟩ | ⟨x, h1, h2, h3, _⟩
  · omega
  · unfold maxLen at h3; omega

theorem split_walk (a0 : Option Addr) (n cap0 : Nat) (z0 : List Int) (fl : Bool) (a2 : Option Addr) (m cap2 : Nat) (Bf : Nat → Bool) (k : Int) (w : World)
    (w0 : IsRow .u8 w a0 n cap0 z0) (w2 : IsBools w a2 m cap2 Bf) :
    Calls Try.prog 4 #[.slice a0 n cap0, .bool fl, .slice a2 m cap2, .int .i64 k] w fun e w' => e = .returned (.bool true) ∧ Below w.heap.size w w' := by
  by_cases h : n + m ≤ 1048576
  · by_cases hk : k < 0 ∨ (m : Int) < k
    · exact split_cut a0 n cap0 fl a2 m cap2 k w h hk
    · obtain ⟨k', rfl⟩ := Int.eq_ofNat_of_zero_le (show 0 ≤ k by omega)
      exact split_main a0 n cap0 z0 fl a2 m cap2 Bf k' w w0 w2 h (by omega)
  · exact split_big a0 n cap0 fl a2 m cap2 k w (by omega) w0.le_max w2.le_max
end Go.Proofs.Qxb6626082a
