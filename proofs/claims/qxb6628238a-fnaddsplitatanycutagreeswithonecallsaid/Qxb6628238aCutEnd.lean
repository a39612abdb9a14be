import Derived.Test.Qxb6628238aCutWalk
import Derived.Test.Qxb6628238aCutOut
import Derived.Test.Qxb6628238aChunkOut
namespace Go.Proofs.Qxb6628238a
open Go.RowKit

set_option maxRecDepth 100000 in
set_option maxHeartbeats 1000000 in
theorem cut_bad (bs sz bl nh m : Nat) (a2 : Option Addr) (c2 : Nat) (a4 : Option Addr) (c4 : Nat) (a5 : Int) (w : World)
    (hnm : nh + m ≤ 1048576) (hbs : 1 ≤ bs) (hbs2 : bs ≤ 1073741824) (hsb : bs ≤ sz) (hsz2 : sz ≤ 1073741824) (hmod : sz % bs = 0) (hlt : nh < sz) (hbl : bl ≤ 1073741824) (per : Nat) (hper : sz / bs = per) (hblm : bl % per = 0)
    (w5 : -9223372036854775808 ≤ a5 ∧ a5 ≤ 9223372036854775807) (hcut : a5 < 0 ∨ (m : Int) < a5) :
    Calls Try.prog 4 #[.int .i64 (bs : Int), .int .i64 (sz : Int), .slice a2 nh c2, .int .i64 (bl : Int), .slice a4 m c4, .int .i64 a5] w fun e w' => e = .returned (.bool true) ∧ Below w.heap.size w w' := by
  have hp1 : 1 ≤ per := by rw [← hper]; exact Nat.div_pos hsb (by omega)
  have hp2 : per ≤ sz := by rw [← hper]; exact Nat.div_le_self _ _
  have d1 : decide ((1048576 : Int) < (nh : Int)) = false := decide_eq_false (by omega)
  have d2 : decide ((1048576 : Int) < (m : Int)) = false := decide_eq_false (by omega)
  have d3 : decide ((1048576 : Int) < (nh : Int) + (m : Int)) = false := decide_eq_false (by omega)
  have d4 : decide ((bs : Int) < 1) = false := decide_eq_false (by omega)
  have d5 : decide ((1073741824 : Int) < (bs : Int)) = false := decide_eq_false (by omega)
  have d6 : decide (sz < bs) = false := decide_eq_false (by omega)
  have d7 : decide ((1073741824 : Int) < (sz : Int)) = false := decide_eq_false (by omega)
  have d8 : ((sz : Int) % (bs : Int) != 0) = false := by rw [← Int.natCast_emod, hmod]; rfl
  have d9 : decide (sz ≤ nh) = false := decide_eq_false (by omega)
  have d10 : decide ((bl : Int) < 0) = false := decide_eq_false (by omega)
  have d11 : decide ((1073741824 : Int) < (bl : Int)) = false := decide_eq_false (by omega)
  have hpw : wrap64 ((sz : Int) / (bs : Int)) = (per : Int) := div_wrap hper (by omega)
  have d12 : ((bl : Int) % (per : Int) != 0) = false := by rw [← Int.natCast_emod, hblm]; rfl
  clear hper hblm hmod
  by_cases h1 : a5 < 0
  · have d13 : decide (a5 < 0) = true := decide_eq_true h1
    go_enter Try.func4, Try.ntmps4
    go_wp2_with (go_at_call 12; refine (bytes12_yes _ _ _ _ _ _ _ _ _ _ _ hnm).mono ?_; rintro e w' ⟨rfl, rfl⟩)
    go_ret
    exact ⟨rfl, Below.refl _ _⟩
  · have d13 : decide (a5 < 0) = false := decide_eq_false h1
    have d14 : decide ((m : Int) < a5) = true := decide_eq_true (by omega)
    go_enter Try.func4, Try.ntmps4
    go_wp2_with (go_at_call 12; refine (bytes12_yes _ _ _ _ _ _ _ _ _ _ _ hnm).mono ?_; rintro e w' ⟨rfl, rfl⟩)
    go_ret
    exact ⟨rfl, Below.refl _ _⟩

theorem cut_walk (a0 : Int) (a1 : Int) (a2 : Option Addr) (len2 cap2 : Nat) (z2 : List Int) (a3 : Int) (a4 : Option Addr) (len4 cap4 : Nat) (z4 : List Int) (a5 : Int) (w : World) (w0 : (Lit.int .i64 a0).wf = true) (w1 : (Lit.int .i64 a1).wf = true) (w2 : IsRow .u8 w a2 len2 cap2 z2) (w3 : (Lit.int .i64 a3).wf = true) (w4 : IsRow .u8 w a4 len4 cap4 z4) (w5 : (Lit.int .i64 a5).wf = true) :
    Calls Try.prog 4 #[.int .i64 a0, .int .i64 a1, .slice a2 len2 cap2, .int .i64 a3, .slice a4 len4 cap4, .int .i64 a5] w fun e w' => e = .returned (.bool true) ∧ Below w.heap.size w w' := by
  have b0 := bounds_i64 w0
  have b1 := bounds_i64 w1
  have b3 := bounds_i64 w3
  have b5 := bounds_i64 w5
  by_cases hnm : len2 + len4 ≤ 1048576
  · by_cases h1 : a0 < 1 ∨ 1073741824 < a0 ∨ a1 < a0 ∨ 1073741824 < a1
    · exact cut_out a0 a1 a3 a2 len2 cap2 a4 len4 cap4 a5 w hnm b0 b1 h1
    · obtain ⟨bs, rfl⟩ := Int.eq_ofNat_of_zero_le (show 0 ≤ a0 by omega)
      obtain ⟨sz, rfl⟩ := Int.eq_ofNat_of_zero_le (show 0 ≤ a1 by omega)
      by_cases h2 : sz % bs ≠ 0 ∨ sz ≤ len2 ∨ a3 < 0 ∨ 1073741824 < a3 ∨ a3.toNat % (sz / bs) ≠ 0
      · exact cut_mod bs sz a3 a2 len2 cap2 a4 len4 cap4 a5 w hnm (by omega) (by omega) (by omega) (by omega) b3 h2
      · obtain ⟨g1, g2, g3, g4, g5⟩ : sz % bs = 0 ∧ len2 < sz ∧ 0 ≤ a3 ∧ a3 ≤ 1073741824 ∧ a3.toNat % (sz / bs) = 0 := by
          refine ⟨?_, ?_, ?_, ?_, ?_⟩
          · exact Decidable.byContradiction fun h => h2 (.inl h)
          · exact Decidable.byContradiction fun h => h2 (.inr (.inl (by omega)))
          · exact Decidable.byContradiction fun h => h2 (.inr (.inr (.inl (by omega))))
          · exact Decidable.byContradiction fun h => h2 (.inr (.inr (.inr (.inl (by omega)))))
          · exact Decidable.byContradiction fun h => h2 (.inr (.inr (.inr (.inr h))))
        obtain ⟨bl, rfl⟩ := Int.eq_ofNat_of_zero_le g3
        by_cases h5 : a5 < 0 ∨ (len4 : Int) < a5
        · exact cut_bad bs sz bl len2 len4 a2 cap2 a4 cap4 a5 w hnm (by omega) (by omega) (by omega) (by omega) g1 g2 (by omega) _ rfl (by simpa using g5) b5 h5
        · obtain ⟨cut, rfl⟩ := Int.eq_ofNat_of_zero_le (show 0 ≤ a5 by omega)
          obtain ⟨F, hF1, hF2⟩ := stream len2 z2 z4
          exact cut_main bs sz bl len2 len4 cut a2 cap2 a4 cap4 F w (w2.src hF1) (fun hx => by subst hx; exact w2.nil.1) (w4.src (fun j _ => hF2 j)) (fun hx => by subst hx; exact w4.nil.1) hnm (by omega) (by omega) (by omega) (by omega) g1 g2 (by omega) _ rfl (by simpa using g5) (by omega)
  · exact cut_big a0 a1 a3 a2 len2 cap2 a4 len4 cap4 a5 w (by omega) w2.le_max w4.le_max
end Go.Proofs.Qxb6628238a
