import Derived.Test.Qxb6627530aRows
import Derived.WalkKit
import Derived.WalkSpells
namespace Go.Proofs.Qxb6627530a
open Go.RowKit

/-! ### Plain arithmetic: no Go in sight -/

/-- e is one less than the count of n's decimal digits. -/
def Dec (n e : Nat) : Prop := 10 ^ e ≤ n ∧ n < 10 ^ (e + 1)

theorem dec_unique {n a b : Nat} (ha : Dec n a) (hb : Dec n b) : a = b := by
  rcases Nat.lt_trichotomy a b with h | h | h
  · have := Nat.pow_le_pow_right (n := 10) (by omega) (show a + 1 ≤ b from h)
    have := ha.2; have := hb.1; omega
  · exact h
  · have := Nat.pow_le_pow_right (n := 10) (by omega) (show b + 1 ≤ a from h)
    have := hb.2; have := ha.1; omega

theorem dec_ten {n e : Nat} (h : Dec n e) : Dec (10 * n) (e + 1) := by
  obtain ⟨h1, h2⟩ := h
  constructor
  · rw [Nat.pow_succ]; omega
  · rw [Nat.pow_succ]; omega

/-- What is left of n after e divisions by ten. -/
theorem left_step (n e : Nat) : n / 10 ^ e / 10 = n / 10 ^ (e + 1) := by
  rw [Nat.div_div_eq_div_mul, ← Nat.pow_succ]

theorem left_go {n e : Nat} (h : 10 ≤ n / 10 ^ e) : 10 ^ (e + 1) ≤ n := by
  have hp : 0 < 10 ^ e := Nat.pow_pos (by omega)
  rw [Nat.le_div_iff_mul_le hp] at h
  rw [Nat.pow_succ]; omega

theorem left_done {n e : Nat} (h : n / 10 ^ e < 10) : n < 10 ^ (e + 1) := by
  have hp : 0 < 10 ^ e := Nat.pow_pos (by omega)
  rw [Nat.div_lt_iff_lt_mul hp] at h
  rw [Nat.pow_succ]; omega

theorem small_exp {n e : Nat} (h : 10 ^ e ≤ n) (hn : n ≤ 9223372036854775807) : e ≤ 18 := by
  rcases Nat.lt_or_ge 18 e with h1 | h1
  · have := Nat.pow_le_pow_right (n := 10) (by omega) (show 19 ≤ e from h1)
    have h19 : 10 ^ 19 = 10000000000000000000 := by decide
    omega
  · exact h1

set_option maxHeartbeats 400000 in
theorem bulk_small (n : Int) (w : World) (h : n < 10) (hlo : -9223372036854775808 ≤ n) :
    Calls Try.prog 5 #[.int .i64 n] w fun e w' => e = .returned (.int .i64 (6 + n)) ∧ w = w' := by
  go_enter Try.func5, Try.ntmps5
  go_wp2
  refine wp_loop_rounds 1 ?_
  rw [rounds_succ]
  go_wp2
  go_ret
  exact ⟨rfl, rfl⟩

set_option maxHeartbeats 400000 in
theorem bulk_any (n : Nat) (w : World) (h1 : 1 ≤ n) (h2 : n ≤ 9223372036854775807) :
    Calls Try.prog 5 #[.int .i64 (n : Int)] w fun e w' => ∃ k : Nat, Dec n k ∧ e = .returned (.int .i64 (wrap64 (6 + (k : Int) + (n : Int)))) ∧ w = w' := by
  go_enter Try.func5, Try.ntmps5
  go_wp2
  go_loop [3, 4] (fun d r => ∃ e q : Nat, Hid (q = n / 10 ^ e ∧ 10 ^ e ≤ n) ∧ e ≤ 18 ∧ q ≤ n ∧ 1 ≤ q ∧ d = .int .i64 ((e : Int) + 1) ∧ r = .int .i64 (q : Int)) (fun _ r => (intOf r).toNat)
  case atStart => exact ⟨0, n, ⟨by simp, by simpa using h1⟩, by omega, by omega, h1, rfl, rfl⟩
  case round =>
    obtain ⟨e, q, hq, he, hqn, hq1, rfl, rfl⟩ := hrel
    by_cases hlt : 10 ≤ q
    · go_wp2
      go_round
      case rel =>
        have hg := left_go (n := n) (e := e) (by rw [← hq.out.1]; exact hlt)
        exact ⟨e + 1, q / 10, ⟨by rw [hq.out.1, left_step], hg⟩, small_exp hg h2, by omega, by omega, by go_num, by go_num⟩
      case measure => simp [intOf]; omega
    · go_wp2
      go_ret
      exact ⟨e, ⟨hq.out.2, left_done (by rw [← hq.out.1]; omega)⟩, congrArg (fun z => Ending.returned (.int .i64 (wrap64 z))) (by omega), rfl⟩
end Go.Proofs.Qxb6627530a
