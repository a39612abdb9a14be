import Derived.Test.Qxb6628238aChunkWalk
import Derived.OpenShut
namespace Go.Proofs.Qxb6628238a
open Go.RowKit

set_option maxRecDepth 100000 in
theorem chunk_big (a0 a1 a3 : Int) (a2 : Option Addr) (nh c2 : Nat) (a4 : Option Addr) (m c4 : Nat) (w : World) (h : 1048576 < nh + m) (h1 : nh ≤ 9223372036854775807) (h2 : m ≤ 9223372036854775807) :
    Calls Try.prog 3 #[.int .i64 a0, .int .i64 a1, .slice a2 nh c2, .int .i64 a3, .slice a4 m c4] w fun e w' => e = .returned (.bool true) ∧ Below w.heap.size w w' := by
  go_enter Try.func3, Try.ntmps3
  go_wp2_with (go_at_call 5; refine (bytes5_no _ _ _ _ _ _ _ _ _ _ h h1 h2).mono ?_; rintro e w' ⟨rfl, rfl⟩)
  go_ret
  exact ⟨rfl, Below.refl _ _⟩

set_option maxRecDepth 100000 in
set_option maxHeartbeats 1000000 in
theorem chunk_out (a0 a1 a3 : Int) (a2 : Option Addr) (nh c2 : Nat) (a4 : Option Addr) (m c4 : Nat) (w : World) (hnm : nh + m ≤ 1048576) (w0 : -9223372036854775808 ≤ a0 ∧ a0 ≤ 9223372036854775807) (w1 : -9223372036854775808 ≤ a1 ∧ a1 ≤ 9223372036854775807)
    (h : a0 < 1 ∨ 1073741824 < a0 ∨ a1 < a0 ∨ 1073741824 < a1) :
    Calls Try.prog 3 #[.int .i64 a0, .int .i64 a1, .slice a2 nh c2, .int .i64 a3, .slice a4 m c4] w fun e w' => e = .returned (.bool true) ∧ Below w.heap.size w w' := by
  have d1 : decide ((1048576 : Int) < (nh : Int)) = false := decide_eq_false (by omega)
  have d2 : decide ((1048576 : Int) < (m : Int)) = false := decide_eq_false (by omega)
  have d3 : decide ((1048576 : Int) < (nh : Int) + (m : Int)) = false := decide_eq_false (by omega)
  by_cases h1 : a0 < 1
  · have e1 : decide (a0 < 1) = true := decide_eq_true h1
    go_enter Try.func3, Try.ntmps3
    go_wp2_with (go_at_call 5; refine (bytes5_yes _ _ _ _ _ _ _ _ _ _ hnm).mono ?_; rintro e w' ⟨rfl, rfl⟩)
    go_ret
    exact ⟨rfl, Below.refl _ _⟩
  have e1 : decide (a0 < 1) = false := decide_eq_false h1
  by_cases h2 : 1073741824 < a0
  · have e2 : decide (1073741824 < a0) = true := decide_eq_true h2
    go_enter Try.func3, Try.ntmps3
    go_wp2_with (go_at_call 5; refine (bytes5_yes _ _ _ _ _ _ _ _ _ _ hnm).mono ?_; rintro e w' ⟨rfl, rfl⟩)
    go_ret
    exact ⟨rfl, Below.refl _ _⟩
  have e2 : decide (1073741824 < a0) = false := decide_eq_false h2
  by_cases h3 : a1 < a0
  · have e3 : decide (a1 < a0) = true := decide_eq_true h3
    go_enter Try.func3, Try.ntmps3
    go_wp2_with (go_at_call 5; refine (bytes5_yes _ _ _ _ _ _ _ _ _ _ hnm).mono ?_; rintro e w' ⟨rfl, rfl⟩)
    go_ret
    exact ⟨rfl, Below.refl _ _⟩
  have e3 : decide (a1 < a0) = false := decide_eq_false h3
  have h4 : 1073741824 < a1 := by omega
  · have e4 : decide (1073741824 < a1) = true := decide_eq_true h4
    go_enter Try.func3, Try.ntmps3
    go_wp2_with (go_at_call 5; refine (bytes5_yes _ _ _ _ _ _ _ _ _ _ hnm).mono ?_; rintro e w' ⟨rfl, rfl⟩)
    go_ret
    exact ⟨rfl, Below.refl _ _⟩

set_option maxRecDepth 100000 in
set_option maxHeartbeats 1000000 in
theorem chunk_mod (bs sz : Nat) (a3 : Int) (a2 : Option Addr) (nh c2 : Nat) (a4 : Option Addr) (m c4 : Nat) (w : World) (hnm : nh + m ≤ 1048576) (hbs : 1 ≤ bs) (hbs2 : bs ≤ 1073741824) (hsb : bs ≤ sz) (hsz2 : sz ≤ 1073741824) (w3 : -9223372036854775808 ≤ a3 ∧ a3 ≤ 9223372036854775807)
    (h : sz % bs ≠ 0 ∨ sz ≤ nh ∨ a3 < 0 ∨ 1073741824 < a3 ∨ a3.toNat % (sz / bs) ≠ 0) :
    Calls Try.prog 3 #[.int .i64 (bs : Int), .int .i64 (sz : Int), .slice a2 nh c2, .int .i64 a3, .slice a4 m c4] w fun e w' => e = .returned (.bool true) ∧ Below w.heap.size w w' := by
  have d1 : decide ((1048576 : Int) < (nh : Int)) = false := decide_eq_false (by omega)
  have d2 : decide ((1048576 : Int) < (m : Int)) = false := decide_eq_false (by omega)
  have d3 : decide ((1048576 : Int) < (nh : Int) + (m : Int)) = false := decide_eq_false (by omega)
  have d4 : decide ((bs : Int) < 1) = false := decide_eq_false (by omega)
  have d5 : decide ((1073741824 : Int) < (bs : Int)) = false := decide_eq_false (by omega)
  have d6 : decide (sz < bs) = false := decide_eq_false (by omega)
  have d7 : decide ((1073741824 : Int) < (sz : Int)) = false := decide_eq_false (by omega)
  by_cases h1 : sz % bs = 0
  · have d8 : ((sz : Int) % (bs : Int) != 0) = false := by rw [← Int.natCast_emod, h1]; rfl
    by_cases h2 : sz ≤ nh
    · have d9 : decide (sz ≤ nh) = true := decide_eq_true h2
      go_enter Try.func3, Try.ntmps3
      go_wp2_with (go_at_call 5; refine (bytes5_yes _ _ _ _ _ _ _ _ _ _ hnm).mono ?_; rintro e w' ⟨rfl, rfl⟩)
      go_ret
      exact ⟨rfl, Below.refl _ _⟩
    have d9 : decide (sz ≤ nh) = false := decide_eq_false h2
    obtain ⟨per, hper⟩ : ∃ per, sz / bs = per := ⟨_, rfl⟩
    have hp1 : 1 ≤ per := by rw [← hper]; exact Nat.div_pos hsb (by omega)
    have hp2 : per ≤ sz := by rw [← hper]; exact Nat.div_le_self _ _
    have hpw : wrap64 ((sz : Int) / (bs : Int)) = (per : Int) := div_wrap hper (by omega)
    rw [hper] at h
    clear hper
    by_cases h3 : a3 < 0
    · have d10 : decide (a3 < 0) = true := decide_eq_true h3
      go_enter Try.func3, Try.ntmps3
      go_wp2_with (go_at_call 5; refine (bytes5_yes _ _ _ _ _ _ _ _ _ _ hnm).mono ?_; rintro e w' ⟨rfl, rfl⟩)
      go_ret
      exact ⟨rfl, Below.refl _ _⟩
    have d10 : decide (a3 < 0) = false := decide_eq_false h3
    by_cases h4 : 1073741824 < a3
    · have d11 : decide (1073741824 < a3) = true := decide_eq_true h4
      go_enter Try.func3, Try.ntmps3
      go_wp2_with (go_at_call 5; refine (bytes5_yes _ _ _ _ _ _ _ _ _ _ hnm).mono ?_; rintro e w' ⟨rfl, rfl⟩)
      go_ret
      exact ⟨rfl, Below.refl _ _⟩
    have d11 : decide (1073741824 < a3) = false := decide_eq_false h4
    obtain ⟨bl, rfl⟩ := Int.eq_ofNat_of_zero_le (show 0 ≤ a3 by omega)
    have h5 : bl % per ≠ 0 := by
      rcases h with h | h | h | h | h
      · omega
      · omega
      · omega
      · omega
      · simpa using h
    have d12 : ((bl : Int) % (per : Int) != 0) = true := by rw [← Int.natCast_emod, bne_iff_ne]; omega
    clear h h5
    go_enter Try.func3, Try.ntmps3
    go_wp2_with (go_at_call 5; refine (bytes5_yes _ _ _ _ _ _ _ _ _ _ hnm).mono ?_; rintro e w' ⟨rfl, rfl⟩)
    go_ret
    exact ⟨rfl, Below.refl _ _⟩
  · have d8 : ((sz : Int) % (bs : Int) != 0) = true := by rw [← Int.natCast_emod, bne_iff_ne]; omega
    go_enter Try.func3, Try.ntmps3
    go_wp2_with (go_at_call 5; refine (bytes5_yes _ _ _ _ _ _ _ _ _ _ hnm).mono ?_; rintro e w' ⟨rfl, rfl⟩)
    go_ret
    exact ⟨rfl, Below.refl _ _⟩

/-- The stream: what is held, then the data. -/
theorem stream (nh : Nat) (z2 z4 : List Int) : ∃ F : Nat → Int, (∀ j, j < nh → F (0 + j) = z2.getD j 0) ∧ ∀ j, F (nh + j) = z4.getD j 0 :=
  ⟨fun j => if j < nh then z2.getD j 0 else z4.getD (j - nh) 0, fun j hj => by show (if 0 + j < nh then z2.getD (0 + j) 0 else _) = _; rw [if_pos (by omega), Nat.zero_add],
    fun j => by show (if nh + j < nh then _ else z4.getD (nh + j - nh) 0) = _; rw [if_neg (by omega), Nat.add_sub_cancel_left]⟩

theorem chunk_walk (a0 : Int) (a1 : Int) (a2 : Option Addr) (len2 cap2 : Nat) (z2 : List Int) (a3 : Int) (a4 : Option Addr) (len4 cap4 : Nat) (z4 : List Int) (w : World) (w0 : (Lit.int .i64 a0).wf = true) (w1 : (Lit.int .i64 a1).wf = true) (w2 : IsRow .u8 w a2 len2 cap2 z2) (w3 : (Lit.int .i64 a3).wf = true) (w4 : IsRow .u8 w a4 len4 cap4 z4) :
    Calls Try.prog 3 #[.int .i64 a0, .int .i64 a1, .slice a2 len2 cap2, .int .i64 a3, .slice a4 len4 cap4] w fun e w' => e = .returned (.bool true) ∧ Below w.heap.size w w' := by
  have b0 := bounds_i64 w0
  have b1 := bounds_i64 w1
  have b3 := bounds_i64 w3
  by_cases hnm : len2 + len4 ≤ 1048576
  · by_cases h1 : a0 < 1 ∨ 1073741824 < a0 ∨ a1 < a0 ∨ 1073741824 < a1
    · exact chunk_out a0 a1 a3 a2 len2 cap2 a4 len4 cap4 w hnm b0 b1 h1
    · obtain ⟨bs, rfl⟩ := Int.eq_ofNat_of_zero_le (show 0 ≤ a0 by omega)
      obtain ⟨sz, rfl⟩ := Int.eq_ofNat_of_zero_le (show 0 ≤ a1 by omega)
      by_cases h2 : sz % bs ≠ 0 ∨ sz ≤ len2 ∨ a3 < 0 ∨ 1073741824 < a3 ∨ a3.toNat % (sz / bs) ≠ 0
      · exact chunk_mod bs sz a3 a2 len2 cap2 a4 len4 cap4 w hnm (by omega) (by omega) (by omega) (by omega) b3 h2
      · obtain ⟨g1, g2, g3, g4, g5⟩ : sz % bs = 0 ∧ len2 < sz ∧ 0 ≤ a3 ∧ a3 ≤ 1073741824 ∧ a3.toNat % (sz / bs) = 0 := by
          refine ⟨?_, ?_, ?_, ?_, ?_⟩
          · exact Decidable.byContradiction fun h => h2 (.inl h)
          · exact Decidable.byContradiction fun h => h2 (.inr (.inl (by omega)))
          · exact Decidable.byContradiction fun h => h2 (.inr (.inr (.inl (by omega))))
          · exact Decidable.byContradiction fun h => h2 (.inr (.inr (.inr (.inl (by omega)))))
          · exact Decidable.byContradiction fun h => h2 (.inr (.inr (.inr (.inr h))))
        obtain ⟨bl, rfl⟩ := Int.eq_ofNat_of_zero_le g3
        obtain ⟨F, hF1, hF2⟩ := stream len2 z2 z4
        exact chunk_main bs sz bl len2 len4 a2 cap2 a4 cap4 F w (w2.src hF1) (fun hx => by subst hx; exact w2.nil.1) (w4.src (fun j _ => hF2 j)) (fun hx => by subst hx; exact w4.nil.1) hnm (by omega) (by omega) (by omega) (by omega) g1 g2 (by omega) _ rfl (by simpa using g5)
  · exact chunk_big a0 a1 a3 a2 len2 cap2 a4 len4 cap4 w (by omega) w2.le_max w4.le_max
end Go.Proofs.Qxb6628238a
