import Derived.Test.Qxb6628238aAdd
import Derived.Test.Qxb6628238aClone
namespace Go.Proofs.Qxb6628238a
open Go.RowKit

theorem new_any (bs sz bl : Nat) (ha : Option Addr) (nh hc : Nat) (w : World) :
    Calls Try.prog 8 #[.int .i64 (bs : Int), .int .i64 (sz : Int), .slice ha nh hc, .int .i64 (bl : Int)] w fun e w' => e = .returned (.pointer (some ⟨w.heap.size, 0, none⟩)) ∧
      w' = w.alloc (.cells #[.int .i64 (bs : Int), .int .i64 (sz : Int), .slice ha nh hc, .slice none 0 0, .int .i64 (bl : Int), .slice none 0 0] 41) := by
  go_enter Try.func8, Try.ntmps8
  go_wp2
  go_ret
  exact ⟨rfl, rfl⟩

/-- A new Packer. -/
theorem st_new {w : World} {B : Nat} {pr : Nat → Obj → Prop} {bs sz bl : Nat} {ha : Option Addr} {nh hc : Nat} {xh : List Value} (hB : B ≤ w.heap.size) (h : w.ownsRow B 5 1 (.slice ha nh hc) nh xh)
    (hp : ∀ g O, pr g O → w.heap[g]? = some O ∧ (Value.slice ha nh hc).ownBlock ≠ some g) :
    St (w.alloc (.cells #[.int .i64 (bs : Int), .int .i64 (sz : Int), .slice ha nh hc, .slice none 0 0, .int .i64 (bl : Int), .slice none 0 0] 41)) B w.heap.size pr bs sz bl ha nh hc none 0 0 none 0 0 xh [] [] := by
  refine ⟨hB, heap_alloc_new _ _, h.alloc _, World.ownsRow_nil _ _ _ _, World.ownsRow_nil _ _ _ _, ?_, fun g O hg => ?_⟩
  · cases ha <;> simp [Value.ownBlock]
  · obtain ⟨h1, h2⟩ := hp g O hg
    exact ⟨by rw [Below.heap_alloc _ _ _ (lt_of_block h1), h1], by have := lt_of_block h1; omega, h2, by simp [Value.ownBlock], by simp [Value.ownBlock]⟩

theorem held_get (w : World) (b : Nat) (v : Value) (a : Option Addr) (n c : Nat) (hv : v = .slice a n c) (h : w.cell? ⟨b, 2, none⟩ = some v) :
    Calls Try.prog 10 #[.pointer (some ⟨b, 0, none⟩)] w fun e w' => e = .returned (.slice a n c) ∧ w = w' := by
  subst hv
  go_enter Try.func10, Try.ntmps10
  go_wp2
  go_ret
  exact ⟨rfl, rfl⟩

theorem blocks_get (w : World) (b : Nat) (n : Int) (h : w.cell? ⟨b, 4, none⟩ = some (.int .i64 n)) :
    Calls Try.prog 11 #[.pointer (some ⟨b, 0, none⟩)] w fun e w' => e = .returned (.int .i64 n) ∧ w = w' := by
  go_enter Try.func11, Try.ntmps11
  go_wp2
  go_ret
  exact ⟨rfl, rfl⟩

theorem bytes5_yes (b0 b1 b3 : Int) (a : Option Addr) (n c : Nat) (a2 : Option Addr) (m c2 : Nat) (w : World) (h : n + m ≤ 1048576) :
    Calls Try.prog 5 #[.int .i64 b0, .int .i64 b1, .slice a n c, .int .i64 b3, .slice a2 m c2] w fun e w' => e = .returned (.bool true) ∧ w = w' := by
  go_enter Try.func5, Try.ntmps5
  go_wp2
  go_ret
  exact ⟨rfl, rfl⟩

theorem bytes5_no (b0 b1 b3 : Int) (a : Option Addr) (n c : Nat) (a2 : Option Addr) (m c2 : Nat) (w : World) (h : 1048576 < n + m) (h1 : n ≤ 9223372036854775807) (h2 : m ≤ 9223372036854775807) :
    Calls Try.prog 5 #[.int .i64 b0, .int .i64 b1, .slice a n c, .int .i64 b3, .slice a2 m c2] w fun e w' => e = .returned (.bool false) ∧ w = w' := by
  by_cases h3 : n ≤ 1048576
  · by_cases h4 : m ≤ 1048576
    all_goals
      go_enter Try.func5, Try.ntmps5
      go_wp2
      go_ret
      exact ⟨rfl, rfl⟩
  · go_enter Try.func5, Try.ntmps5
    go_wp2
    go_ret
    exact ⟨rfl, rfl⟩

theorem bytes12_yes (b0 b1 b3 b5 : Int) (a : Option Addr) (n c : Nat) (a2 : Option Addr) (m c2 : Nat) (w : World) (h : n + m ≤ 1048576) :
    Calls Try.prog 12 #[.int .i64 b0, .int .i64 b1, .slice a n c, .int .i64 b3, .slice a2 m c2, .int .i64 b5] w fun e w' => e = .returned (.bool true) ∧ w = w' := by
  go_enter Try.func12, Try.ntmps12
  go_wp2
  go_ret
  exact ⟨rfl, rfl⟩

theorem bytes12_no (b0 b1 b3 b5 : Int) (a : Option Addr) (n c : Nat) (a2 : Option Addr) (m c2 : Nat) (w : World) (h : 1048576 < n + m) (h1 : n ≤ 9223372036854775807) (h2 : m ≤ 9223372036854775807) :
    Calls Try.prog 12 #[.int .i64 b0, .int .i64 b1, .slice a n c, .int .i64 b3, .slice a2 m c2, .int .i64 b5] w fun e w' => e = .returned (.bool false) ∧ w = w' := by
  by_cases h3 : n ≤ 1048576
  · by_cases h4 : m ≤ 1048576
    all_goals
      go_enter Try.func12, Try.ntmps12
      go_wp2
      go_ret
      exact ⟨rfl, rfl⟩
  · go_enter Try.func12, Try.ntmps12
    go_wp2
    go_ret
    exact ⟨rfl, rfl⟩

/-- WHAT THE WALK IS TOLD OF A SLICE OF INTEGERS THAT CAME IN (the shell's own words). -/
def IsRow (k : IntKind) (w : World) (a : Option Addr) (len cap : Nat) (zs : List Int) : Prop :=
  (a = none ∧ len = 0 ∧ cap = 0 ∧ zs = []) ∨
  ∃ x, a = some x ∧ len ≤ cap ∧ cap ≤ maxLen ∧ zs.length = cap ∧ (∀ i, i < zs.length → w.cell? (x.add i) = some (.int k (zs.getD i 0))) ∧ ∀ n ∈ zs, (Lit.int k n).wf = true

theorem IsRow.src {w : World} {a : Option Addr} {len cap : Nat} {zs : List Int} (h : IsRow .u8 w a len cap zs) {F : Nat → Int} {s : Nat} (hF : ∀ j, j < len → F (s + j) = zs.getD j 0) : Src w a len F s := by
  intro j hj
  rcases h with ⟨_, h1, _, h3⟩ | ⟨x, h1, h2, h3, h4, h5, h6⟩
  · omega
  · obtain ⟨b, off, spot⟩ := x
    have hspot : spot = none := by simpa [Addr.add] using World.cell?_spot (h5 0 (by omega))
    subst hspot
    refine ⟨b, off, h1, ?_⟩
    rw [← Go.WideShapes.add_plain, hF j hj]
    exact h5 j (by omega)
theorem IsRow.le_max {k : IntKind} {w : World} {a : Option Addr} {len cap : Nat} {zs : List Int} (h : IsRow k w a len cap zs) : len ≤ 9223372036854775807 := by
  rcases h with ⟨_, h1, _⟩ | ⟨x, h1, h2, h3, _⟩
  · omega
  · unfold maxLen at h3; omega
theorem IsRow.nil {k : IntKind} {w : World} {len cap : Nat} {zs : List Int} (h : IsRow k w none len cap zs) : len = 0 ∧ cap = 0 := by
  rcases h with ⟨_, h1, h2, _⟩ | ⟨x, h1, _⟩
  · exact ⟨h1, h2⟩
  · cases h1

/-- The clone, in one word: it owns what it was made of; its block is new or it is nil; 'pr': its block, if it has one. -/
theorem clone_any (a : Option Addr) (n c : Nat) (F : Nat → Int) (s : Nat) (w : World) (hn : n ≤ 2097152) (h : Src w a n F s) (hnil : a = none → n = 0) :
    Calls Try.prog 7 #[.slice a n c] w fun e w' => ∃ a' c', e = .returned (.slice a' n c') ∧ Below w.heap.size w w' ∧ n ≤ c' ∧
      ((a' = none ∧ n = 0 ∧ c' = 0 ∧ w' = w) ∨ (a' = some ⟨w.heap.size, 0, none⟩ ∧ c' = n ∧ w'.heap[w.heap.size]? = some (.cells (seg F s n).toArray 5 (0, 0)))) := by
  cases a with
  | none =>
    obtain rfl := hnil rfl
    refine (clone_nil w c).mono ?_
    rintro e w' ⟨rfl, rfl⟩
    exact ⟨none, 0, rfl, Below.refl _ _, Nat.le_refl _, .inl ⟨rfl, rfl, rfl, rfl⟩⟩
  | some x =>
    refine (clone_some x n c F s w hn h).mono ?_
    rintro e w' ⟨rfl, h1, h2⟩
    exact ⟨some ⟨w.heap.size, 0, none⟩, n, rfl, h2, Nat.le_refl _, .inr ⟨rfl, rfl, h1⟩⟩
end Go.Proofs.Qxb6628238a
