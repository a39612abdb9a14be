import Derived.Test.Qxb6627530aParts
import Derived.OpenShut
namespace Go.Proofs.Qxb6627530a
open Go.RowKit

theorem dec_succ {n k k' : Nat} (h : Dec n k) (h' : Dec (n + 1) k') : (k' = k ∧ n + 1 < 10 ^ (k + 1)) ∨ (k' = k + 1 ∧ n + 1 = 10 ^ (k + 1)) := by
  obtain ⟨h1, h2⟩ := h
  rcases Nat.lt_or_ge (n + 1) (10 ^ (k + 1)) with h3 | h3
  · exact .inl ⟨dec_unique h' ⟨by omega, h3⟩, h3⟩
  · have h4 : n + 1 = 10 ^ (k + 1) := by omega
    refine .inr ⟨dec_unique h' ⟨h3, ?_⟩, h4⟩
    rw [h4]
    exact Nat.pow_lt_pow_right (by omega) (by omega)

/-- The powers up to the j-th that are at most n. -/
def cntOf (k j : Nat) : Nat := if j ≤ k then j else k
/-- Whether a power up to the j-th is n + 1. -/
def jumpOf (k k' j : Nat) : Nat := if k' ≤ j then k' - k else 0

theorem pow_le_of {j k n : Nat} (h : Dec n k) : 10 ^ j ≤ n ↔ j ≤ k := by
  constructor
  · intro hj
    rcases Nat.lt_or_ge k j with h1 | h1
    · have := Nat.pow_le_pow_right (n := 10) (by omega) (show k + 1 ≤ j from h1)
      have := h.2; omega
    · exact h1
  · intro hj
    have := Nat.pow_le_pow_right (n := 10) (by omega) hj
    have := h.1; omega

theorem step_le {n k k' j P : Nat} (h : Dec n k) (h' : Dec (n + 1) k') (hP : P = 10 ^ j) (hle : P * 10 ≤ n) : cntOf k (j + 1) = cntOf k j + 1 ∧ jumpOf k k' (j + 1) = jumpOf k k' j := by
  rw [hP, ← Nat.pow_succ, pow_le_of h] at hle
  have hd := dec_succ h h'
  unfold cntOf jumpOf
  refine ⟨by rw [if_pos hle, if_pos (by omega)], ?_⟩
  rcases hd with ⟨rfl, _⟩ | ⟨rfl, _⟩
  · simp
  · rw [if_neg (by omega), if_neg (by omega)]

theorem step_gt {n k k' j P : Nat} (h : Dec n k) (h' : Dec (n + 1) k') (hP : P = 10 ^ j) (hgt : n < P * 10) :
    cntOf k (j + 1) = cntOf k j ∧ (P * 10 = n + 1 → jumpOf k k' (j + 1) = 1) ∧ (P * 10 ≠ n + 1 → jumpOf k k' (j + 1) = jumpOf k k' j) := by
  have hk : ¬ j + 1 ≤ k := by
    intro hle
    rw [← pow_le_of h, Nat.pow_succ, ← hP] at hle
    omega
  have hd := dec_succ h h'
  unfold cntOf jumpOf
  refine ⟨?_, fun he => ?_, fun he => ?_⟩
  · rw [if_neg hk]
    split <;> omega
  · rw [hP, ← Nat.pow_succ] at he
    have hk1 : Dec (n + 1) (j + 1) := by rw [← he]; exact ⟨Nat.le_refl _, Nat.pow_lt_pow_right (by omega) (by omega)⟩
    have := dec_unique h' hk1
    rw [if_pos (by omega)]
    omega
  · rcases hd with ⟨rfl, _⟩ | ⟨rfl, hx⟩
    · simp
    · by_cases hj : k = j
      · subst hj
        rw [hP, ← Nat.pow_succ] at he
        omega
      · rw [if_pos (by omega), if_pos (by omega)]

theorem step_end {n k k' j P : Nat} (h : Dec n k) (h' : Dec (n + 1) k') (hn : n ≤ 9223372036854775806) (hP : P = 10 ^ j) (hgt : 922337203685477580 < P) : cntOf k j = k ∧ jumpOf k k' j + k = k' := by
  have h18 : 18 ≤ j := by
    rcases Nat.lt_or_ge j 18 with h1 | h1
    · have := Nat.pow_le_pow_right (n := 10) (by omega) (show j ≤ 17 by omega)
      have h17 : 10 ^ 17 = 100000000000000000 := by decide
      omega
    · exact h1
  have hk := small_exp h.1 (by omega)
  have hk' := small_exp h'.1 (by omega)
  have hd := dec_succ h h'
  unfold cntOf jumpOf
  rw [if_pos (show k' ≤ j by omega)]
  refine ⟨by split <;> omega, by omega⟩

set_option maxHeartbeats 400000 in
theorem succ_top (w : World) : Calls Try.prog 4 #[.int .i64 9223372036854775807] w fun e w' => e = .returned (.bool true) ∧ Grown w w' := by
  go_enter Try.func4, Try.ntmps4
  go_wp2
  go_ret
  exact ⟨rfl, Grown.refl _⟩

set_option maxHeartbeats 400000 in
theorem succ_low (n : Int) (w : World) (h1 : -9223372036854775808 ≤ n) (h2 : n ≤ 0) :
    Calls Try.prog 4 #[.int .i64 n] w fun e w' => e = .returned (.bool true) ∧ Grown w w' := by
  go_enter Try.func4, Try.ntmps4
  go_wp2_with (go_at_call 5; refine (bulk_small _ _ (by omega) (by omega)).mono ?_; rintro e w' ⟨rfl, rfl⟩)
  go_loop [5, 6, 7] (fun c J p => ∃ P : Nat, 1 ≤ P ∧ c = .int .i64 0 ∧ J = .int .i64 0 ∧ p = .int .i64 (P : Int)) (fun _ _ p => (9223372036854775807 - intOf p).toNat)
  case atStart => exact ⟨1, Nat.le_refl _, rfl, rfl, rfl⟩
  case round =>
    obtain ⟨P, hP1, rfl, rfl, rfl⟩ := hrel
    by_cases hlt : P ≤ 922337203685477580
    · have e1 : ((P : Int) * 10 == n + 1) = false := beq_eq_false_iff_ne.2 (by omega)
      go_wp2
      go_round
      case rel => exact ⟨P * 10, by omega, rfl, rfl, by go_num⟩
      case measure => simp [intOf]; omega
    · have e2 : (6 + n == n + 6) = true := beq_iff_eq.2 (by omega)
      go_wp2
      go_ret
      exact ⟨rfl, Grown.refl _⟩

/-- What the loop's round keeps. -/
def Inv (_n k k' j P C J : Nat) : Prop := P = 10 ^ j ∧ C = cntOf k j ∧ J = jumpOf k k' j

theorem inv_zero (n k k' : Nat) : Inv n k k' 0 1 0 0 := by
  refine ⟨rfl, ?_, ?_⟩
  · unfold cntOf; split <;> omega
  · unfold jumpOf; split <;> omega
theorem inv_le {n k k' j P C J : Nat} (h : Dec n k) (h' : Dec (n + 1) k') (hi : Inv n k k' j P C J) (hle : P * 10 ≤ n) : Inv n k k' (j + 1) (P * 10) (C + 1) J := by
  obtain ⟨hP, hC, hJ⟩ := hi
  obtain ⟨h1, h2⟩ := step_le h h' hP hle
  exact ⟨by rw [hP, Nat.pow_succ], by rw [h1, hC], by rw [h2, hJ]⟩
theorem inv_eq {n k k' j P C J : Nat} (h : Dec n k) (h' : Dec (n + 1) k') (hi : Inv n k k' j P C J) (he : P * 10 = n + 1) : Inv n k k' (j + 1) (P * 10) C 1 := by
  obtain ⟨hP, hC, hJ⟩ := hi
  obtain ⟨h1, h2, h3⟩ := step_gt h h' hP (by omega)
  exact ⟨by rw [hP, Nat.pow_succ], by rw [h1, hC], (h2 he).symm⟩
theorem inv_gt {n k k' j P C J : Nat} (h : Dec n k) (h' : Dec (n + 1) k') (hi : Inv n k k' j P C J) (hgt : n < P * 10) (he : P * 10 ≠ n + 1) : Inv n k k' (j + 1) (P * 10) C J := by
  obtain ⟨hP, hC, hJ⟩ := hi
  obtain ⟨h1, h2, h3⟩ := step_gt h h' hP hgt
  exact ⟨by rw [hP, Nat.pow_succ], by rw [h1, hC], by rw [h3 he, hJ]⟩
theorem inv_bd {n k k' j P C J : Nat} (h : Dec n k) (h' : Dec (n + 1) k') (hn : n ≤ 9223372036854775806) (hi : Inv n k k' j P C J) : C ≤ 18 ∧ J ≤ 18 := by
  have := small_exp h.1 (by omega)
  have := small_exp h'.1 (by omega)
  obtain ⟨_, hC, hJ⟩ := hi
  unfold cntOf at hC
  unfold jumpOf at hJ
  constructor
  · split at hC <;> omega
  · split at hJ <;> omega

theorem ra_eq (k k' J : Nat) (n : Int) (h : J + k = k') : wrap64 (6 + (k' : Int) + (n + 1)) = wrap64 (wrap64 (wrap64 (6 + (k : Int) + n) + 1) + (J : Int)) := by
  unfold wrap64; omega
theorem rc_eq (k : Nat) (n : Int) : wrap64 (6 + (k : Int) + n) = wrap64 (wrap64 (n + 6) + (k : Int)) := by
  unfold wrap64; omega

set_option maxHeartbeats 400000 in
theorem succ_high (n : Nat) (w : World) (h1 : 1 ≤ n) (h2 : n ≤ 9223372036854775806) :
    Calls Try.prog 4 #[.int .i64 (n : Int)] w fun e w' => e = .returned (.bool true) ∧ Grown w w' := by
  have d1 : ((n : Int) == 9223372036854775807) = false := beq_eq_false_iff_ne.2 (by omega)
  go_enter Try.func4, Try.ntmps4
  go_wp2_with fail
  refine (bulk_any n _ h1 (by omega)).mono ?_
  rintro e w' ⟨k, hk, rfl, rfl⟩
  obtain ⟨ra, hra⟩ : ∃ ra, ra = wrap64 (6 + (k : Int) + (n : Int)) := ⟨_, rfl⟩
  rw [← hra]
  have HK : Hid (Dec n k) := hk
  have HRA : Hid (ra = wrap64 (6 + (k : Int) + (n : Int))) := hra
  clear hk hra
  go_wp2_with fail
  rw [show ((n : Int) + 1) = ((n + 1 : Nat) : Int) from by omega]
  refine (bulk_any (n + 1) _ (by omega) (by omega)).mono ?_
  rintro e w' ⟨k', hk', rfl, rfl⟩
  obtain ⟨rb, hrb⟩ : ∃ rb, rb = wrap64 (6 + (k' : Int) + ((n + 1 : Nat) : Int)) := ⟨_, rfl⟩
  rw [← hrb]
  have HK' : Hid (Dec (n + 1) k') := hk'
  have HRB : Hid (rb = wrap64 (6 + (k' : Int) + ((n : Int) + 1))) := hrb.trans (by rw [Int.natCast_succ])
  clear hk' hrb
  go_wp2_with fail
  go_loop [5, 6, 7] (fun c J p => ∃ j P C Jn : Nat, Hid (Inv n k k' j P C Jn) ∧ 1 ≤ P ∧ c = .int .i64 (C : Int) ∧ J = .int .i64 (Jn : Int) ∧ p = .int .i64 (P : Int)) (fun _ _ p => (9223372036854775807 - intOf p).toNat)
  case atStart => exact ⟨0, 1, 0, 0, inv_zero n k k', Nat.le_refl _, rfl, rfl, rfl⟩
  case round =>
    obtain ⟨j, P, C, Jn, HI, hP1, rfl, rfl, rfl⟩ := hrel
    obtain ⟨hC, hJ⟩ := inv_bd HK.out HK'.out h2 HI.out
    by_cases hlt : P ≤ 922337203685477580
    · by_cases hle : P * 10 ≤ n
      · have e1 : ((P : Int) * 10 == (n : Int) + 1) = false := beq_eq_false_iff_ne.2 (by omega)
        go_wp2
        go_round
        case rel => exact ⟨j + 1, P * 10, C + 1, Jn, inv_le HK.out HK'.out HI.out hle, by omega, by go_num, by go_num, by go_num⟩
        case measure => simp [intOf]; omega
      · by_cases heq : P * 10 = n + 1
        · have e1 : ((P : Int) * 10 == (n : Int) + 1) = true := beq_iff_eq.2 (by omega)
          have HEQ : Hid (P * 10 = n + 1) := heq
          clear heq
          go_wp2
          go_round
          case rel => exact ⟨j + 1, P * 10, C, 1, inv_eq HK.out HK'.out HI.out HEQ.out, by omega, by go_num, by go_num, by go_num⟩
          case measure => simp [intOf]; omega
        · have e1 : ((P : Int) * 10 == (n : Int) + 1) = false := beq_eq_false_iff_ne.2 (by omega)
          go_wp2
          go_round
          case rel => exact ⟨j + 1, P * 10, C, Jn, inv_gt HK.out HK'.out HI.out (by omega) heq, by omega, by go_num, by go_num, by go_num⟩
          case measure => simp [intOf]; omega
    · have he := step_end HK.out HK'.out h2 HI.out.1 (by omega)
      have e2 : (rb == wrap64 (wrap64 (ra + 1) + (Jn : Int))) = true := beq_iff_eq.2 (by rw [HRB.out, HRA.out, HI.out.2.2]; exact ra_eq _ _ _ _ he.2)
      have e3 : (ra == wrap64 (wrap64 ((n : Int) + 6) + (C : Int))) = true := beq_iff_eq.2 (by rw [HRA.out, HI.out.2.1, he.1]; exact rc_eq _ _)
      clear he
      go_wp2
      go_ret
      exact ⟨rfl, Grown.refl _⟩

theorem succ_walk (a0 : Int) (w0 : (Lit.int .i64 a0).wf = true) (w : World) : Calls Try.prog 4 #[.int .i64 a0] w fun e w' => e = .returned (.bool true) ∧ Grown w w' := by
  have hb : -9223372036854775808 ≤ a0 ∧ a0 ≤ 9223372036854775807 := bounds_i64 w0
  by_cases h : a0 = 9223372036854775807
  · subst h; exact succ_top w
  · by_cases h0 : a0 ≤ 0
    · exact succ_low a0 w hb.1 h0
    · obtain ⟨n, rfl⟩ := Int.eq_ofNat_of_zero_le (show 0 ≤ a0 by omega)
      exact succ_high n w (by omega) (by omega)
end Go.Proofs.Qxb6627530a
