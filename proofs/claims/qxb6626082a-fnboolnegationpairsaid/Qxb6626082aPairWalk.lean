import Derived.Test.Qxb6626082aParts
import Derived.Deep.QuietTactic
import Derived.BigQuiet
namespace Go.Proofs.Qxb6626082a
open Go.RowKit

theorem wr_new' {w : World} {B n : Nat} {a : Option Addr} {c : Nat} {bs : List Int} {fl : Bool} (hn : bs.length = n) (hB : B ≤ w.heap.size) (h : w.ownsRow B 5 1 (.slice a n c) n (bs.map (Value.int .u8))) :
    Wr (w.alloc (.cells #[.slice a n c, .bool fl] 27)) B w.heap.size bs fl := by
  subst hn
  exact wr_new hB h

theorem Wr.look_snoc {w : World} {B b n : Nat} {bs : List Int} {x : Int} {fl : Bool} (h : Wr w B b (bs ++ [x]) fl) (hn : bs.length = n) :
    ∃ g c, w.cell? ⟨b, 0, none⟩ = some (.slice (some ⟨g, 0, none⟩) (n + 1) c) ∧ w.cell? ⟨b, 1, none⟩ = some (.bool fl) ∧ (∀ j, j < n → w.cell? ⟨g, j, none⟩ = some (.int .u8 (bs.getD j 0))) ∧
      w.cell? ⟨g, n, none⟩ = some (.int .u8 x) := by
  subst hn
  obtain ⟨g, c, h0, h1, h2⟩ := h.look (by simp)
  refine ⟨g, c, by simpa using h0, h1, fun j hj => ?_, ?_⟩
  · rw [h2 j (by simp; omega)]
    simp [List.getD, List.getElem?_append_left hj]
  · rw [h2 _ (by simp)]
    simp [List.getD]

theorem row_at {w w' : World} {a : Option Addr} {len cap : Nat} {zs bs : List Int} (h : IsRow .u8 w a len cap zs) (hb : Below w.heap.size w w') (hbs : bs = zs.take len) :
    ∀ j, j < len → ∃ b off, a = some ⟨b, off, none⟩ ∧ w'.cell? ⟨b, off + j, none⟩ = some (.int .u8 (bs.getD j 0)) := by
  intro j hj
  obtain ⟨b, off, rfl, hc⟩ := (h.later hb).cell hj
  refine ⟨b, off, rfl, ?_⟩
  rw [hc, hbs]
  simp [List.getD, hj]

set_option maxHeartbeats 400000 in
theorem pair_walk_false (a0 : Option Addr) (len0 cap0 : Nat) (z0 : List Int) (a1 : Bool) (w : World) (w0 : IsRow .u8 w a0 len0 cap0 z0) :
    Calls Try.prog 3 #[.slice a0 len0 cap0, .bool a1, .bool false] w fun e w' => e = .returned (.bool true) ∧ Below w.heap.size w w' := by
  by_cases hlen : len0 ≤ 1048576
  · have hll := w0.len_le
    have hd : decide ((1048576 : Int) < (len0 : Int)) = false := by simp; omega
    have HW : Hid (IsRow .u8 w a0 len0 cap0 z0) := w0
    clear w0
    obtain ⟨bs, hbs⟩ : ∃ bs, bs = z0.take len0 := ⟨_, rfl⟩
    have hbl : bs.length = len0 := by rw [hbs]; simp; omega
    have HB : Hid (bs = z0.take len0) := hbs
    have HL : Hid (bs.length = len0) := hbl
    clear hbs hbl hll
    go_enter Try.func3, Try.ntmps3
    go_wp2_with (go_at_call 5; refine (bytes3_yes _ _ _ _ _ _ hlen).mono ?_; rintro e w' ⟨rfl, rfl⟩)
    refine (clone_any a0 len0 cap0 z0 _ HW.out hlen).mono ?_
    rintro e w1 ⟨p1, q1, rfl, hown1, hbel1⟩
    have HO1 : Hid (w1.ownsRow w.heap.size 5 1 (.slice p1 len0 q1) len0 (bs.map (Value.int .u8))) := by rw [HB.out]; exact hown1
    have HB1 : Hid (Below w.heap.size w w1) := hbel1
    clear hown1 hbel1
    go_wp2_with fail
    have HW1 : Hid (Wr (w1.alloc (.cells #[.slice p1 len0 q1, .bool a1] 27)) w.heap.size w1.heap.size bs a1) := wr_new' HL.out HB1.out.size HO1.out
    refine (bool_any _ _ bs a1 false _ HW1.out (by have := HL.out; omega)).mono ?_
    rintro e w2 ⟨rfl, hwr2, hbel2⟩
    have HB2 : Hid (Below w.heap.size w w2) := (HB1.out.alloc HB1.out.size _).trans hbel2
    have HR2 : Hid (Wr w2 w.heap.size w1.heap.size (bs ++ [bit false]) a1) := hwr2
    clear hwr2 hbel2
    go_wp2_with fail
    refine (clone_any a0 len0 cap0 z0 _ (HW.out.later HB2.out) hlen).mono ?_
    rintro e w3 ⟨p3, q3, rfl, hown3, hbel3⟩
    have HO3 : Hid (w3.ownsRow w2.heap.size 5 1 (.slice p3 len0 q3) len0 (bs.map (Value.int .u8))) := by rw [HB.out]; exact hown3
    have HB3 : Hid (Below w2.heap.size w2 w3) := hbel3
    clear hown3 hbel3
    go_wp2_with fail
    have HW3 : Hid (Wr (w3.alloc (.cells #[.slice p3 len0 q3, .bool a1] 27)) w2.heap.size w3.heap.size bs a1) := wr_new' HL.out HB3.out.size HO3.out
    refine (bool_any _ _ bs a1 true _ HW3.out (by have := HL.out; omega)).mono ?_
    rintro e w4 ⟨rfl, hwr4, hbel4⟩
    have HB4 : Hid (Below w2.heap.size w2 w4) := (HB3.out.alloc HB3.out.size _).trans hbel4
    have HR4 : Hid (Wr w4 w2.heap.size w3.heap.size (bs ++ [bit true]) a1) := hwr4
    have HR2' : Hid (Wr w4 w.heap.size w1.heap.size (bs ++ [bit false]) a1) := HR2.out.later HB4.out
    have HBE : Hid (Below w.heap.size w w4) := HB2.out.trans (HB4.out.mono HB2.out.size)
    clear hwr4 hbel4
    obtain ⟨g1, c1, r10, r11, r1, r1l⟩ := HR2'.out.look_snoc HL.out
    obtain ⟨g2, c2, r20, r21, r2, r2l⟩ := HR4.out.look_snoc HL.out
    have r1l' : w4.cell? ⟨g1, len0, none⟩ = some (.int .u8 0) := r1l
    have r2l' : w4.cell? ⟨g2, len0, none⟩ = some (.int .u8 1) := r2l
    clear r1l r2l
    have R1 : Hid (∀ j, j < len0 → w4.cell? ⟨g1, j, none⟩ = some (.int .u8 (bs.getD j 0))) := r1
    have R2 : Hid (∀ j, j < len0 → w4.cell? ⟨g2, j, none⟩ = some (.int .u8 (bs.getD j 0))) := r2
    have RA : Hid (∀ j, j < len0 → ∃ b off, a0 = some ⟨b, off, none⟩ ∧ w4.cell? ⟨b, off + j, none⟩ = some (.int .u8 (bs.getD j 0))) := row_at HW.out HBE.out HB.out
    clear r1 r2 HW HB HL HO1 HB1 HW1 HB2 HR2 HO3 HB3 HW3 HB4 HR4 HR2'
    go_wp2
    go_loopw [10] (fun i wr => ∃ k : Nat, k ≤ len0 ∧ i = .int .i64 k ∧ ∃ q, wr = w4.drewN q) (fun i _ => len0 - (intOf i).toNat)
    case atStart => exact ⟨0, Nat.zero_le _, rfl, 0, rfl⟩
    case round =>
      obtain ⟨k, hk, rfl, q, rfl⟩ := hrel
      by_cases hlt : k < len0
      · obtain ⟨b, off, rfl, hx⟩ := RA.out k hlt
        have hx1 := R1.out k hlt
        have hx2 := R2.out k hlt
        generalize bs.getD k 0 = z at *
        have i1 : (0 : Int) ≤ (k : Int) := by omega
        have i2 : (k : Int) < (len0 : Int) := by omega
        have i3 : (k : Int) < ((len0 + 1 : Nat) : Int) := by omega
        go_wp2
        go_quiet (fail)
        go_wp2
        go_roundw
        case rel => exact ⟨k + 1, by omega, by go_num, _, rfl⟩
        case measure => simp [intOf]; omega
      · go_wp2
        go_ret
        exact ⟨rfl, below_drewN HBE.out q⟩
  · go_enter Try.func3, Try.ntmps3
    go_wp2_with (go_at_call 5; refine (bytes3_no _ _ _ _ _ _ (by omega)).mono ?_; rintro e w' ⟨rfl, rfl⟩)
    go_ret
    exact ⟨rfl, Below.refl _ _⟩

set_option maxHeartbeats 400000 in
theorem pair_walk_true (a0 : Option Addr) (len0 cap0 : Nat) (z0 : List Int) (a1 : Bool) (w : World) (w0 : IsRow .u8 w a0 len0 cap0 z0) :
    Calls Try.prog 3 #[.slice a0 len0 cap0, .bool a1, .bool true] w fun e w' => e = .returned (.bool true) ∧ Below w.heap.size w w' := by
  by_cases hlen : len0 ≤ 1048576
  · have hll := w0.len_le
    have hd : decide ((1048576 : Int) < (len0 : Int)) = false := by simp; omega
    have HW : Hid (IsRow .u8 w a0 len0 cap0 z0) := w0
    clear w0
    obtain ⟨bs, hbs⟩ : ∃ bs, bs = z0.take len0 := ⟨_, rfl⟩
    have hbl : bs.length = len0 := by rw [hbs]; simp; omega
    have HB : Hid (bs = z0.take len0) := hbs
    have HL : Hid (bs.length = len0) := hbl
    clear hbs hbl hll
    go_enter Try.func3, Try.ntmps3
    go_wp2_with (go_at_call 5; refine (bytes3_yes _ _ _ _ _ _ hlen).mono ?_; rintro e w' ⟨rfl, rfl⟩)
    refine (clone_any a0 len0 cap0 z0 _ HW.out hlen).mono ?_
    rintro e w1 ⟨p1, q1, rfl, hown1, hbel1⟩
    have HO1 : Hid (w1.ownsRow w.heap.size 5 1 (.slice p1 len0 q1) len0 (bs.map (Value.int .u8))) := by rw [HB.out]; exact hown1
    have HB1 : Hid (Below w.heap.size w w1) := hbel1
    clear hown1 hbel1
    go_wp2_with fail
    have HW1 : Hid (Wr (w1.alloc (.cells #[.slice p1 len0 q1, .bool a1] 27)) w.heap.size w1.heap.size bs a1) := wr_new' HL.out HB1.out.size HO1.out
    refine (bool_any _ _ bs a1 true _ HW1.out (by have := HL.out; omega)).mono ?_
    rintro e w2 ⟨rfl, hwr2, hbel2⟩
    have HB2 : Hid (Below w.heap.size w w2) := (HB1.out.alloc HB1.out.size _).trans hbel2
    have HR2 : Hid (Wr w2 w.heap.size w1.heap.size (bs ++ [bit true]) a1) := hwr2
    clear hwr2 hbel2
    go_wp2_with fail
    refine (clone_any a0 len0 cap0 z0 _ (HW.out.later HB2.out) hlen).mono ?_
    rintro e w3 ⟨p3, q3, rfl, hown3, hbel3⟩
    have HO3 : Hid (w3.ownsRow w2.heap.size 5 1 (.slice p3 len0 q3) len0 (bs.map (Value.int .u8))) := by rw [HB.out]; exact hown3
    have HB3 : Hid (Below w2.heap.size w2 w3) := hbel3
    clear hown3 hbel3
    go_wp2_with fail
    have HW3 : Hid (Wr (w3.alloc (.cells #[.slice p3 len0 q3, .bool a1] 27)) w2.heap.size w3.heap.size bs a1) := wr_new' HL.out HB3.out.size HO3.out
    refine (bool_any _ _ bs a1 false _ HW3.out (by have := HL.out; omega)).mono ?_
    rintro e w4 ⟨rfl, hwr4, hbel4⟩
    have HB4 : Hid (Below w2.heap.size w2 w4) := (HB3.out.alloc HB3.out.size _).trans hbel4
    have HR4 : Hid (Wr w4 w2.heap.size w3.heap.size (bs ++ [bit false]) a1) := hwr4
    have HR2' : Hid (Wr w4 w.heap.size w1.heap.size (bs ++ [bit true]) a1) := HR2.out.later HB4.out
    have HBE : Hid (Below w.heap.size w w4) := HB2.out.trans (HB4.out.mono HB2.out.size)
    clear hwr4 hbel4
    obtain ⟨g1, c1, r10, r11, r1, r1l⟩ := HR2'.out.look_snoc HL.out
    obtain ⟨g2, c2, r20, r21, r2, r2l⟩ := HR4.out.look_snoc HL.out
    have r1l' : w4.cell? ⟨g1, len0, none⟩ = some (.int .u8 1) := r1l
    have r2l' : w4.cell? ⟨g2, len0, none⟩ = some (.int .u8 0) := r2l
    clear r1l r2l
    have R1 : Hid (∀ j, j < len0 → w4.cell? ⟨g1, j, none⟩ = some (.int .u8 (bs.getD j 0))) := r1
    have R2 : Hid (∀ j, j < len0 → w4.cell? ⟨g2, j, none⟩ = some (.int .u8 (bs.getD j 0))) := r2
    have RA : Hid (∀ j, j < len0 → ∃ b off, a0 = some ⟨b, off, none⟩ ∧ w4.cell? ⟨b, off + j, none⟩ = some (.int .u8 (bs.getD j 0))) := row_at HW.out HBE.out HB.out
    clear r1 r2 HW HB HL HO1 HB1 HW1 HB2 HR2 HO3 HB3 HW3 HB4 HR4 HR2'
    go_wp2
    go_loopw [10] (fun i wr => ∃ k : Nat, k ≤ len0 ∧ i = .int .i64 k ∧ ∃ q, wr = w4.drewN q) (fun i _ => len0 - (intOf i).toNat)
    case atStart => exact ⟨0, Nat.zero_le _, rfl, 0, rfl⟩
    case round =>
      obtain ⟨k, hk, rfl, q, rfl⟩ := hrel
      by_cases hlt : k < len0
      · obtain ⟨b, off, rfl, hx⟩ := RA.out k hlt
        have hx1 := R1.out k hlt
        have hx2 := R2.out k hlt
        generalize bs.getD k 0 = z at *
        have i1 : (0 : Int) ≤ (k : Int) := by omega
        have i2 : (k : Int) < (len0 : Int) := by omega
        have i3 : (k : Int) < ((len0 + 1 : Nat) : Int) := by omega
        go_wp2
        go_quiet (fail)
        go_wp2
        go_roundw
        case rel => exact ⟨k + 1, by omega, by go_num, _, rfl⟩
        case measure => simp [intOf]; omega
      · go_wp2
        go_ret
        exact ⟨rfl, below_drewN HBE.out q⟩
  · go_enter Try.func3, Try.ntmps3
    go_wp2_with (go_at_call 5; refine (bytes3_no _ _ _ _ _ _ (by omega)).mono ?_; rintro e w' ⟨rfl, rfl⟩)
    go_ret
    exact ⟨rfl, Below.refl _ _⟩

theorem pair_walk (a0 : Option Addr) (len0 cap0 : Nat) (z0 : List Int) (a1 : Bool) (a2 : Bool) (w : World) (w0 : IsRow .u8 w a0 len0 cap0 z0) :
    Calls Try.prog 3 #[.slice a0 len0 cap0, .bool a1, .bool a2] w fun e w' => e = .returned (.bool true) ∧ Below w.heap.size w w' := by
  cases a2
  · exact pair_walk_false a0 len0 cap0 z0 a1 w w0
  · exact pair_walk_true a0 len0 cap0 z0 a1 w w0

end Go.Proofs.Qxb6626082a
