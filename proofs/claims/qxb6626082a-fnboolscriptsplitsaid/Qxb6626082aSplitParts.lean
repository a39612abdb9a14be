import Derived.Test.Qxb6626082aParts
import Derived.Deep.QuietTactic
import Derived.BigQuiet
namespace Go.Proofs.Qxb6626082a
open Go.RowKit

/-- n numbers of F, from s on. -/
def seg (F : Nat → Int) (s n : Nat) : List Int := (List.range n).map fun j => F (s + j)
theorem seg_length (F : Nat → Int) (s n : Nat) : (seg F s n).length = n := by simp [seg]
theorem seg_succ (F : Nat → Int) (s n : Nat) : seg F s n ++ [F (s + n)] = seg F s (n + 1) := by simp [seg, List.range_succ]
theorem seg_getD (F : Nat → Int) (s n j : Nat) (h : j < n) : (seg F s n).getD j 0 = F (s + j) := by simp [seg, List.getD, h]
theorem seg_zero (F : Nat → Int) (s : Nat) : seg F s 0 = [] := by simp [seg]
theorem take_seg (F : Nat → Int) (zs : List Int) (n : Nat) (hn : n ≤ zs.length) (h : ∀ j, j < n → F j = zs.getD j 0) : zs.take n = seg F 0 n := by
  apply List.ext_getElem?
  intro j
  by_cases hj : j < n
  · have hz : j < zs.length := by omega
    simp [seg, hj, h j hj, List.getD, hz]
  · simp [seg, hj]; omega

/-- A Writer whose Buf holds n numbers of F from s on. -/
def WS (w : World) (B b : Nat) (F : Nat → Int) (s n : Nat) (fl : Bool) : Prop := Wr w B b (seg F s n) fl

theorem WS.later {w w' : World} {B b s n : Nat} {F : Nat → Int} {fl : Bool} (h : WS w B b F s n fl) (hb : Below w.heap.size w w') : WS w' B b F s n fl := Wr.later h hb

theorem WS.look {w : World} {B b s n : Nat} {F : Nat → Int} {fl : Bool} (h : WS w B b F s n fl) :
    ∃ p c, w.cell? ⟨b, 0, none⟩ = some (.slice p n c) ∧ w.cell? ⟨b, 1, none⟩ = some (.bool fl) ∧ ∀ j, j < n → ∃ g, p = some ⟨g, 0, none⟩ ∧ w.cell? ⟨g, j, none⟩ = some (.int .u8 (F (s + j))) := by
  have h' := h
  obtain ⟨_, a, c, hb, hown⟩ := h
  rw [seg_length] at hb
  refine ⟨a, c, by rw [cell_of_row w b 0 _ _ _ hb]; rfl, by rw [cell_of_row w b 1 _ _ _ hb]; rfl, fun j hj => ?_⟩
  obtain ⟨g, c', h0, _, h2⟩ := Wr.look h' (by rw [seg_length]; omega)
  rw [cell_of_row w b 0 _ _ _ hb, seg_length] at h0
  simp at h0
  refine ⟨g, h0.1, ?_⟩
  rw [h2 j (by rw [seg_length]; omega), seg_getD _ _ _ _ hj]

theorem ws_clone {w : World} {B n : Nat} {a : Option Addr} {c : Nat} {zs : List Int} {F : Nat → Int} {fl : Bool} (hB : B ≤ w.heap.size) (hn : n ≤ zs.length) (hF : ∀ j, j < n → F j = zs.getD j 0)
    (h : w.ownsRow B 5 1 (.slice a n c) n ((zs.take n).map (Value.int .u8))) : WS (w.alloc (.cells #[.slice a n c, .bool fl] 27)) B w.heap.size F 0 n fl := by
  rw [take_seg F zs n hn hF] at h
  have hl := seg_length F 0 n
  refine ⟨hB, a, c, ?_, ?_⟩
  · rw [hl]; exact heap_alloc_new _ _
  · rw [hl]; exact h.alloc _

theorem ws_nil (w : World) (F : Nat → Int) (s : Nat) (fl : Bool) : WS (w.alloc (.cells #[.slice none 0 0, .bool fl] 27)) w.heap.size w.heap.size F s 0 fl :=
  ⟨Nat.le_refl _, none, 0, heap_alloc_new _ _, by simpa [seg] using World.ownsRow_nil _ _ _ _⟩

theorem bool_seg (B b s n : Nat) (F : Nat → Int) (fl v : Bool) (w : World) (h : WS w B b F s n fl) (hv : F (s + n) = bit v) (hn : n ≤ 2097152) :
    Calls Try.prog 7 #[.pointer (some ⟨b, 0, none⟩), .bool v] w fun e w' => e = .returned (.tuple #[]) ∧ WS w' B b F s (n + 1) fl ∧ Below B w w' := by
  refine (bool_any B b (seg F s n) fl v w h (by rw [seg_length]; exact hn)).mono ?_
  rintro e w' ⟨rfl, h1, h2⟩
  refine ⟨rfl, ?_, h2⟩
  rw [← hv, seg_succ] at h1
  exact h1

/-- What the walk is told of a slice of bools that came in. -/
def IsBools (w : World) (a : Option Addr) (len cap : Nat) (Bf : Nat → Bool) : Prop :=
  (a = none ∧ len = 0 ∧ cap = 0) ∨ ∃ x, a = some x ∧ len ≤ cap ∧ cap ≤ maxLen ∧ ∀ i, i < cap → w.cell? (x.add i) = some (.bool (Bf i))

theorem IsBools.later {w w' : World} {a : Option Addr} {len cap : Nat} {Bf : Nat → Bool} (h : IsBools w a len cap Bf) (hb : Below w.heap.size w w') : IsBools w' a len cap Bf := by
  rcases h with h | ⟨x, h1, h2, h3, h4⟩
  · exact .inl h
  · exact .inr ⟨x, h1, h2, h3, fun i hi => cell_later hb (h4 i hi)⟩

theorem IsBools.cell {w : World} {a : Option Addr} {len cap : Nat} {Bf : Nat → Bool} (h : IsBools w a len cap Bf) {j : Nat} (hj : j < len) : ∃ b off, a = some ⟨b, off, none⟩ ∧ w.cell? ⟨b, off + j, none⟩ = some (.bool (Bf j)) := by
  rcases h with ⟨_, h1, _⟩ | ⟨x, h1, h2, h3, h5⟩
  · omega
  · obtain ⟨b, off, spot⟩ := x
    have hspot : spot = none := by simpa [Addr.add] using World.cell?_spot (h5 0 (by omega))
    subst hspot
    refine ⟨b, off, h1, ?_⟩
    rw [← Go.WideShapes.add_plain]
    exact h5 j (by omega)

theorem bytes4_yes (a : Option Addr) (len cap : Nat) (f : Bool) (a2 : Option Addr) (len2 cap2 : Nat) (k : Int) (w : World) (h : len + len2 ≤ 1048576) :
    Calls Try.prog 9 #[.slice a len cap, .bool f, .slice a2 len2 cap2, .int .i64 k] w fun e w' => e = .returned (.bool true) ∧ w = w' := by
  go_enter Try.func9, Try.ntmps9
  go_wp2
  go_ret
  exact ⟨rfl, rfl⟩

theorem bytes4_no (a : Option Addr) (len cap : Nat) (f : Bool) (a2 : Option Addr) (len2 cap2 : Nat) (k : Int) (w : World) (h : 1048576 < len + len2) (h1 : len ≤ 9223372036854775807) (h2 : len2 ≤ 9223372036854775807) :
    Calls Try.prog 9 #[.slice a len cap, .bool f, .slice a2 len2 cap2, .int .i64 k] w fun e w' => e = .returned (.bool false) ∧ w = w' := by
  by_cases h3 : len ≤ 1048576
  · by_cases h4 : len2 ≤ 1048576
    all_goals
      go_enter Try.func9, Try.ntmps9
      go_wp2
      go_ret
      exact ⟨rfl, rfl⟩
  · go_enter Try.func9, Try.ntmps9
    go_wp2
    go_ret
    exact ⟨rfl, rfl⟩

theorem bit_quiet (v : Bool) (w : World) : Calls Try.prog 8 #[.bool v] w fun e w' => e = .returned (.int .u8 (bit v)) ∧ w' = w :=
  (bit_any v w).mono fun _ _ h => ⟨h.1, h.2.symm⟩

end Go.Proofs.Qxb6626082a
