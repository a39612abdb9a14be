import Derived.Test.Qxb6627530aParts
namespace Go.Proofs.Qxb6627530a
open Go.RowKit

set_option maxHeartbeats 400000 in
theorem ten_far (n : Int) (w : World) (h : 922337203685477580 < n ∨ n < -922337203685477580) :
    Calls Try.prog 3 #[.int .i64 n] w fun e w' => e = .returned (.bool true) ∧ Grown w w' := by
  rcases h with h | h
  · go_enter Try.func3, Try.ntmps3
    go_wp2
    go_ret
    exact ⟨rfl, Grown.refl _⟩
  · have h' : ¬ (922337203685477580 < n) := by omega
    go_enter Try.func3, Try.ntmps3
    go_wp2
    go_ret
    exact ⟨rfl, Grown.refl _⟩

set_option maxHeartbeats 400000 in
theorem ten_low (n : Int) (w : World) (h1 : -922337203685477580 ≤ n) (h2 : n ≤ 0) :
    Calls Try.prog 3 #[.int .i64 n] w fun e w' => e = .returned (.bool true) ∧ Grown w w' := by
  go_enter Try.func3, Try.ntmps3
  go_wp2_with (go_at_call 5; refine (bulk_small _ _ (by omega) (by omega)).mono ?_; rintro e w' ⟨rfl, rfl⟩)
  go_ret
  exact ⟨rfl, Grown.refl _⟩

theorem ten_eq {n k k' : Nat} (h : Dec n k) (h' : Dec (10 * n) k') : k' = k + 1 := dec_unique h' (dec_ten h)

theorem quo_lt {n k : Nat} (h : Dec n k) : n / 10 ^ k < 10 := by
  rw [Nat.div_lt_iff_lt_mul (Nat.pow_pos (by omega))]
  have := h.2
  rw [Nat.pow_succ] at this; omega

theorem quo_dec {n P : Nat} (h : n / P < 10) : decide (wrap64 ((n : Int) / (P : Int)) < 10) = true := by
  rw [← Int.natCast_ediv]
  generalize n / P = q at *
  rw [IntWalk.wrap64_in _ (by omega)]
  exact decide_eq_true (by omega)

theorem ten_round {n k j P : Nat} (h : Dec n k) (hP : P = 10 ^ j) (hj : j < k) (hn : n ≤ 922337203685477580) : P ≤ 92233720368547758 := by
  have := Nat.pow_le_pow_right (n := 10) (by omega) (show j + 1 ≤ k from hj)
  rw [Nat.pow_succ] at this
  have := h.1
  omega

set_option maxHeartbeats 400000 in
theorem ten_high (n : Nat) (w : World) (h1 : 1 ≤ n) (h2 : n ≤ 922337203685477580) :
    Calls Try.prog 3 #[.int .i64 (n : Int)] w fun e w' => e = .returned (.bool true) ∧ Grown w w' := by
  have d1 : decide (922337203685477580 < (n : Int)) = false := by simp; omega
  have d2 : decide ((n : Int) < -922337203685477580) = false := decide_eq_false (by omega)
  have d3 : decide ((1 : Int) ≤ (n : Int)) = true := by simp; omega
  have d4 : decide ((n : Int) < 1) = false := by simp; omega
  go_enter Try.func3, Try.ntmps3
  go_wp2_with fail
  refine (bulk_any n _ h1 (by omega)).mono ?_
  rintro e w' ⟨k, hk, rfl, rfl⟩
  have hk18 := small_exp hk.1 (by omega)
  have HK : Hid (Dec n k) := hk
  clear hk
  rw [IntWalk.wrap64_in (6 + (k : Int) + (n : Int)) (by omega)]
  go_wp2_with fail
  rw [show (10 * (n : Int)) = ((10 * n : Nat) : Int) from by omega]
  refine (bulk_any (10 * n) _ (by omega) (by omega)).mono ?_
  rintro e w' ⟨k', hk', rfl, rfl⟩
  obtain rfl := ten_eq HK.out hk'
  clear hk'
  obtain ⟨r, hr⟩ : ∃ r, r = wrap64 (6 + ((k + 1 : Nat) : Int) + ((10 * n : Nat) : Int)) := ⟨_, rfl⟩
  rw [← hr]
  have he : (r != wrap64 (6 + (k : Int) + (n : Int) + (9 * (n : Int) + 1))) = false := by
    rw [hr, show 6 + ((k + 1 : Nat) : Int) + ((10 * n : Nat) : Int) = 6 + (k : Int) + (n : Int) + (9 * (n : Int) + 1) from by omega]; simp
  have d5 : decide (6 + (k : Int) - 5 < 1) = false := decide_eq_false (by omega)
  have d6 : decide (40 < 6 + (k : Int) - 5) = false := decide_eq_false (by omega)
  clear hr
  go_wp2
  go_loop [7, 8] (fun p i => ∃ j P : Nat, Hid (P = 10 ^ j) ∧ j ≤ k ∧ 1 ≤ P ∧ p = .int .i64 (P : Int) ∧ i = .int .i64 ((j : Int) + 1)) (fun _ i => (19 - intOf i).toNat)
  case atStart => exact ⟨0, 1, rfl, Nat.zero_le _, Nat.le_refl _, rfl, rfl⟩
  case round =>
    obtain ⟨j, P, HP, hj, hP1, rfl, rfl⟩ := hrel
    by_cases hlt : j < k
    · have hP2 := ten_round HK.out HP.out hlt h2
      go_wp2
      go_round
      case rel => exact ⟨j + 1, P * 10, by show _ = _; rw [HP.out, Nat.pow_succ], by omega, by omega, by go_num, by go_num⟩
      case measure => simp [intOf]; omega
    · obtain rfl : j = k := by omega
      have hPn : P ≤ n := by rw [HP.out]; exact HK.out.1
      have d7 : decide (P ≤ n) = true := decide_eq_true hPn
      have hq := quo_lt HK.out
      rw [← HP.out] at hq
      have d8 : decide (wrap64 ((n : Int) / (P : Int)) < 10) = true := quo_dec hq
      clear hq
      go_wp2
      go_ret
      exact ⟨rfl, Grown.refl _⟩

theorem ten_walk (a0 : Int) (w : World) : Calls Try.prog 3 #[.int .i64 a0] w fun e w' => e = .returned (.bool true) ∧ Grown w w' := by
  by_cases h : 922337203685477580 < a0 ∨ a0 < -922337203685477580
  · exact ten_far a0 w h
  · by_cases h0 : a0 ≤ 0
    · exact ten_low a0 w (by omega) h0
    · obtain ⟨n, rfl⟩ := Int.eq_ofNat_of_zero_le (show 0 ≤ a0 by omega)
      exact ten_high n w (by omega) (by omega)
end Go.Proofs.Qxb6627530a
