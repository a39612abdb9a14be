import Derived.Test.Qxb6628238aBase
namespace Go.Proofs.Qxb6628238a
open Go.RowKit

/-- n bytes of the stream F from s on lie behind the address a. -/
def Src (w : World) (a : Option Addr) (n : Nat) (F : Nat → Int) (s : Nat) : Prop := ∀ j, j < n → ∃ b off, a = some ⟨b, off, none⟩ ∧ w.cell? ⟨b, off + j, none⟩ = some (.int .u8 (F (s + j)))

theorem Src.later {w w' : World} {a : Option Addr} {n s : Nat} {F : Nat → Int} (h : Src w a n F s) (hb : Below w.heap.size w w') : Src w' a n F s := fun j hj => by
  obtain ⟨b, off, h1, h2⟩ := h j hj
  exact ⟨b, off, h1, cell_later hb h2⟩

/-- k of n bytes are laid. -/
def fill (F : Nat → Int) (s k n : Nat) : List Value := seg F s k ++ List.replicate (n - k) (.int .u8 0)
theorem fill_length (F : Nat → Int) (s k n : Nat) (h : k ≤ n) : (fill F s k n).length = n := by simp [fill, seg_length]; omega
theorem fill_full (F : Nat → Int) (s n : Nat) : fill F s n n = seg F s n := by simp [fill]
theorem fill_zero (F : Nat → Int) (s n : Nat) : (fill F s 0 n).toArray = madeCells #[.int .u8 0] n := by
  apply Array.ext'
  rw [toList_madeCells_one]
  simp [fill, seg_zero]
theorem fill_set (F : Nat → Int) (s k n : Nat) (h : k < n) : (fill F s k n).toArray.setIfInBounds k (.int .u8 (F (s + k))) = (fill F s (k + 1) n).toArray := by
  apply Array.ext'
  simp only [Array.toList_setIfInBounds]
  unfold fill
  rw [List.set_append_right _ _ (by rw [seg_length]; omega), seg_length, Nat.sub_self, ← seg_add F s k 1, List.append_assoc]
  congr 1
  obtain ⟨m, hm⟩ : ∃ m, n - k = m + 1 := ⟨n - k - 1, by omega⟩
  rw [hm, show n - (k + 1) = m from by omega, List.replicate_succ, List.set_cons_zero]
  simp [seg]
theorem fill_get (F : Nat → Int) (s k n : Nat) (h : k < n) : (fill F s k n).toArray[k]? = some (.int .u8 0) := by
  rw [List.getElem?_toArray]
  unfold fill
  rw [List.getElem?_append_right (by rw [seg_length]; omega), seg_length, Nat.sub_self, List.getElem?_replicate, if_pos (by omega)]

/-- The new row, k of n bytes laid. -/
def Fills (w wr : World) (F : Nat → Int) (s k n : Nat) : Prop := wr.heap[w.heap.size]? = some (.cells (fill F s k n).toArray 5 (0, 0)) ∧ Below w.heap.size w wr
theorem fills_zero (w : World) (F : Nat → Int) (s n : Nat) : Fills w (w.alloc (.cells (madeCells #[.int .u8 0] n) 5)) F s 0 n := by
  refine ⟨?_, (Below.refl _ _).alloc (Nat.le_refl _) _⟩
  rw [fill_zero]
  exact heap_alloc_new _ _
theorem Fills.cell {w wr : World} {F : Nat → Int} {s k n : Nat} (h : Fills w wr F s k n) (hk : k < n) : wr.cell? ⟨w.heap.size, k, none⟩ = some (.int .u8 0) := by
  rw [cell_of_row wr _ k _ _ _ h.1, fill_get _ _ _ _ hk]
theorem Fills.fr {w wr : World} {F : Nat → Int} {s k n : Nat} (h : Fills w wr F s k n) (i : Nat) : wr.frozen? ⟨w.heap.size, i, none⟩ = false := frozen_of_row wr _ i _ _ h.1
theorem Fills.set {w wr : World} {F : Nat → Int} {s k n : Nat} (h : Fills w wr F s k n) (hk : k < n) : Fills w (wr.setCell ⟨w.heap.size, k, none⟩ (.int .u8 (F (s + k)))) F s (k + 1) n := by
  refine ⟨?_, h.2.setCell (Nat.le_refl _) _⟩
  rw [heap_setCell_same _ _ _ _ _ _ h.1, fill_set _ _ _ _ hk]

theorem clone_nil (w : World) (c : Nat) : Calls Try.prog 7 #[.slice none 0 c] w fun e w' => e = .returned (.slice none 0 0) ∧ w = w' := by
  have he := fun w => Lib.run_eql_slice_nil (P := Try.prog) w 22 5 none 0 c 0 0 Try.underlying22
  go_enter Try.func7, Try.ntmps7
  go_wp2
  go_ret
  exact ⟨rfl, rfl⟩

set_option maxHeartbeats 400000 in
theorem clone_some (x : Addr) (n c : Nat) (F : Nat → Int) (s : Nat) (w : World) (hn : n ≤ 2097152) (h : Src w (some x) n F s) :
    Calls Try.prog 7 #[.slice (some x) n c] w fun e w' => e = .returned (.slice (some ⟨w.heap.size, 0, none⟩) n n) ∧ w'.heap[w.heap.size]? = some (.cells (seg F s n).toArray 5 (0, 0)) ∧ Below w.heap.size w w' := by
  have he := fun w => Lib.run_eql_slice_nil (P := Try.prog) w 22 5 (some x) n c 0 0 Try.underlying22
  have hmk := run_make_row' (P := Try.prog) 22 5 (.int .u8 0) 1 Try.underlying22 info5 rfl .i64 .i64 n (by omega) (by omega)
  have HS : Hid (Src w (some x) n F s) := h
  have H0 : Hid (Fills w (w.alloc (.cells (madeCells #[.int .u8 0] n) 5)) F s 0 n) := fills_zero w F s n
  clear h
  go_enter Try.func7, Try.ntmps7
  go_wp2_with fail
  go_loopw [4] (fun i wr => ∃ k : Nat, k ≤ n ∧ i = .int .i64 (k : Int) ∧ Hid (Fills w wr F s k n)) (fun i _ => n - (intOf i).toNat)
  case atStart => exact ⟨0, Nat.zero_le _, rfl, H0.out⟩
  case round =>
    obtain ⟨k, hk, rfl, HK⟩ := hrel
    clear H0
    by_cases hlt : k < n
    · obtain ⟨bb, off, hx, hc⟩ := HS.out.later HK.out.2 k hlt
      obtain rfl : x = ⟨bb, off, none⟩ := by simpa using hx
      have c1 := HK.out.cell hlt
      have f1 := HK.out.fr k
      have HN : Hid (Fills w (wr.setCell ⟨w.heap.size, k, none⟩ (.int .u8 (F (s + k)))) F s (k + 1) n) := HK.out.set hlt
      clear hx
      go_wp2
      go_roundw
      case rel => exact ⟨k + 1, by omega, by go_num, HN.out⟩
      case measure => simp [intOf]; omega
    · obtain rfl : n = k := by omega
      go_wp2
      go_ret
      exact ⟨rfl, by have := HK.out.1; rw [fill_full] at this; exact this, HK.out.2⟩

set_option maxHeartbeats 400000 in
theorem concat_any (a : Option Addr) (n c : Nat) (a2 : Option Addr) (m c2 : Nat) (F : Nat → Int) (w : World) (hn : n + m ≤ 2097152) (h : Src w a n F 0) (h2 : Src w a2 m F n) :
    Calls Try.prog 6 #[.slice a n c, .slice a2 m c2] w fun e w' => e = .returned (.slice (some ⟨w.heap.size, 0, none⟩) (n + m) (n + m)) ∧ w'.heap[w.heap.size]? = some (.cells (seg F 0 (n + m)).toArray 5 (0, 0)) ∧ Below w.heap.size w w' := by
  have hmk := run_make_row' (P := Try.prog) 22 5 (.int .u8 0) 1 Try.underlying22 info5 rfl .i64 .i64 (n + m) (by omega) (by omega)
  rw [Int.natCast_add] at hmk
  have HS : Hid (Src w a n F 0) := h
  have HS2 : Hid (Src w a2 m F n) := h2
  have H0 : Hid (Fills w (w.alloc (.cells (madeCells #[.int .u8 0] (n + m)) 5)) F 0 0 (n + m)) := fills_zero w F 0 (n + m)
  clear h h2
  go_enter Try.func6, Try.ntmps6
  go_wp2_with fail
  go_loopw [6] (fun i wr => ∃ k : Nat, k ≤ n ∧ i = .int .i64 (k : Int) ∧ Hid (Fills w wr F 0 k (n + m))) (fun i _ => n - (intOf i).toNat)
  case atStart => exact ⟨0, Nat.zero_le _, rfl, H0.out⟩
  case round =>
    obtain ⟨k, hk, rfl, HK⟩ := hrel
    clear H0
    by_cases hlt : k < n
    · obtain ⟨bb, off, rfl, hc⟩ := HS.out.later HK.out.2 k hlt
      rw [Nat.zero_add] at hc
      have hltm : k < n + m := by omega
      have c1 := HK.out.cell hltm
      have f1 := HK.out.fr k
      have HN : Hid (Fills w (wr.setCell ⟨w.heap.size, k, none⟩ (.int .u8 (F k))) F 0 (k + 1) (n + m)) := by have := HK.out.set hltm; rw [Nat.zero_add] at this; exact this
      go_wp2
      go_roundw
      case rel => exact ⟨k + 1, by omega, by go_num, HN.out⟩
      case measure => simp [intOf]; omega
    · obtain rfl : n = k := by omega
      go_wp2_with fail
      go_loopw [7] (fun i wr => ∃ k : Nat, k ≤ m ∧ i = .int .i64 (k : Int) ∧ Hid (Fills w wr F 0 (n + k) (n + m))) (fun i _ => m - (intOf i).toNat)
      case atStart => exact ⟨0, Nat.zero_le _, rfl, HK.out⟩
      case round =>
        obtain ⟨k, hk2, rfl, HK2⟩ := hrel
        clear HK
        by_cases hlt2 : k < m
        · obtain ⟨bb, off, rfl, hc⟩ := HS2.out.later HK2.out.2 k hlt2
          have hltm : n + k < n + m := by omega
          have c1 := HK2.out.cell hltm
          have f1 := HK2.out.fr (n + k)
          have HN : Hid (Fills w (wr.setCell ⟨w.heap.size, n + k, none⟩ (.int .u8 (F (n + k)))) F 0 (n + (k + 1)) (n + m)) := by have := HK2.out.set hltm; rw [Nat.zero_add] at this; exact this
          go_wp2
          go_roundw
          case rel => exact ⟨k + 1, by omega, by go_num, HN.out⟩
          case measure => simp [intOf]; omega
        · obtain rfl : m = k := by omega
          go_wp2
          go_ret
          exact ⟨rfl, by have := HK2.out.1; rw [fill_full] at this; exact this, HK2.out.2⟩
end Go.Proofs.Qxb6628238a
