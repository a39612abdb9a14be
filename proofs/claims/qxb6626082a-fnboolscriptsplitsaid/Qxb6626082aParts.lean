import Derived.Test.Qxb6626082aRows
import Derived.WalkKit
import Derived.WalkSpells
import Derived.WalkLawsBesides
import Derived.Laws.CopyOwn
import Derived.Deep.AppendLies
import Derived.Deep.OwnRows
namespace Go.Proofs.Qxb6626082a
open Go.RowKit

theorem info5 : (Try.prog.info? 5).map (fun i => (i.zero, i.size, i.bytes)) = some (some (.int .u8 0), 1, 1) := by kernel_rfl

theorem clone_nil (w : World) :
    Calls Try.prog 6 #[.slice none 0 0] w fun e w' => e = .returned (.slice none 0 0) ∧ w = w' := by
  have he := fun w => Lib.run_eql_slice_nil (P := Try.prog) w 22 5 none 0 0 0 0 Try.underlying22
  go_enter Try.func6, Try.ntmps6
  go_wp2
  go_ret
  exact ⟨rfl, rfl⟩

/-- 'make' and 'copy' of a whole row of bytes: what the two leave. -/
theorem copy_run (w : World) (x : Addr) (len cap : Nat) (X : List Value) (hXl : X.length = len) (hX1 : ∀ v ∈ X, v.oneCell' = true) (hXc : ∀ j v, X[j]? = some v → w.cell? (x.add j) = some v) :
    ∃ w2, (Builtin.copy_ #[22, 22] 3 #[.slice (some ⟨w.heap.size, 0, none⟩) len len, .slice (some x) len cap]).run Try.prog (w.alloc (.cells (madeCells #[.int .u8 0] len) 5)) = .ok (.int .i64 (len : Int)) w2 ∧
      w2.heap[w.heap.size]? = some (.cells X.toArray 5 (0, 0)) ∧ Below w.heap.size w w2 := by
  have hsz : (Try.prog.info? 5).map (·.size) = some 1 := by kernel_rfl
  have hg := heap_alloc_new w (.cells (madeCells #[.int .u8 0] len) 5)
  have hsrc : ∀ j v, X[j]? = some v → (w.alloc (.cells (madeCells #[.int .u8 0] len) 5)).cell? (x.add j) = some v := fun j v hv =>
    cell_later ((Below.refl _ w).alloc (Nat.le_refl _) _) (hXc j v hv)
  have hr := run_copy_row (P := Try.prog) (w.alloc (.cells (madeCells #[.int .u8 0] len) 5)) 22 22 3 5 w.heap.size 0 len len x len cap _ 5 X Try.underlying22 hsz hg (by rw [hXl]; exact (Nat.min_self _).symm) hsrc
    (by rw [size_madeCells, hXl]; omega) hX1
  refine ⟨_, by rw [hr, hXl]; rfl, ?_, ?_⟩
  · rw [setRow_heap _ _ _ _ _ _ hg]
    simp [toList_madeCells_one]
  · exact below_setRow ((Below.refl _ w).alloc (Nat.le_refl _) _) (Nat.le_refl _) _

set_option maxHeartbeats 400000 in
theorem clone_some (x : Addr) (len cap : Nat) (zs : List Int) (w : World) (hl : len ≤ cap) (hm : len ≤ 1048576) (hz : zs.length = cap)
    (hc : ∀ i, i < zs.length → w.cell? (x.add i) = some (.int .u8 (zs.getD i 0))) :
    Calls Try.prog 6 #[.slice (some x) len cap] w fun e w' => e = .returned (.slice (some ⟨w.heap.size, 0, none⟩) len len) ∧
      w'.heap[w.heap.size]? = some (.cells ((zs.take len).map (Value.int .u8)).toArray 5 (0, 0)) ∧ Below w.heap.size w w' := by
  have he := fun w => Lib.run_eql_slice_nil (P := Try.prog) w 22 5 (some x) len cap 0 0 Try.underlying22
  have hmk := run_make_row' (P := Try.prog) 22 5 (.int .u8 0) 1 Try.underlying22 info5 rfl .i64 .i64 len (by omega) (by omega)
  obtain ⟨X, hX⟩ : ∃ X, X = (zs.take len).map (Value.int .u8) := ⟨_, rfl⟩
  have hXl : X.length = len := by rw [hX]; simp; omega
  have hX1 : ∀ v ∈ X, v.oneCell' = true := by
    intro v hv; rw [hX] at hv; obtain ⟨a, _, rfl⟩ := List.mem_map.1 hv; rfl
  have hXc : ∀ j v, X[j]? = some v → w.cell? (x.add j) = some v := by
    intro j v hv
    rw [hX] at hv
    simp only [List.getElem?_map, List.getElem?_take] at hv
    by_cases hj : j < len
    · rw [if_pos hj] at hv
      have hjz : j < zs.length := by omega
      rw [hc j hjz, ← hv]
      simp [List.getD, hjz]
    · rw [if_neg hj] at hv; simp at hv
  rw [← hX]
  obtain ⟨w2, hcp, h2, hb⟩ := copy_run w x len cap X hXl hX1 hXc
  have H2 : Hid (w2.heap[w.heap.size]? = some (.cells X.toArray 5 (0, 0))) := h2
  clear hX hXl hc hX1 hXc h2
  go_enter Try.func6, Try.ntmps6
  go_wp2
  go_ret
  exact ⟨rfl, H2.out, hb⟩

/-- A Writer at block b, all of its memory from block B on: Buf holds the bytes bs, Flexible is fl. -/
def Wr (w : World) (B b : Nat) (bs : List Int) (fl : Bool) : Prop :=
  B ≤ b ∧ ∃ a c, w.heap[b]? = some (.cells #[.slice a bs.length c, .bool fl] 27 (0, 0)) ∧ w.ownsRow B 5 1 (.slice a bs.length c) bs.length (bs.map (Value.int .u8))

/-- The byte that stands for a bool. -/
def bit (v : Bool) : Int := if v then 1 else 0

/-- The Writer's own block is not its row: their element types part. -/
theorem own_ne {w : World} {B b n : Nat} {cs : Array Value} {v : Value} {xs : List Value} (hb : w.heap[b]? = some (.cells cs 27 (0, 0))) (h : w.ownsRow B 5 1 v n xs) : v.ownBlock ≠ some b := by
  rcases h.2 with ⟨rfl, _⟩ | ⟨g, cap, cur, rfl, _, hg, _⟩
  · simp [Value.ownBlock]
  · intro e
    simp [Value.ownBlock] at e
    subst e
    rw [hb] at hg
    simp at hg

/-- What the append and the store into the field leave. -/
theorem wr_step {w w1 : World} {B b n g cap c : Nat} {a : Option Addr} {bs : List Int} {fl : Bool} {x : Int} {o : Obj} (hBb : B ≤ b) (hb : w.heap[b]? = some (.cells #[.slice a n c, .bool fl] 27 (0, 0))) (hn : bs.length = n)
    (hne : (Value.slice a n c).ownBlock ≠ some b) (hge : ∀ k, (Value.slice a n c).ownBlock = some k → B ≤ k)
    (hown1 : w1.ownsRow B 5 1 (.slice (some ⟨g, 0, none⟩) (n + 1) cap) (n + 1) (bs.map (Value.int .u8) ++ [.int .u8 x])) (hgrow : (w.alloc o).grownBy w1 (Value.slice a n c).ownBlock) (hat : (Value.slice a n c).ownBlock = some g ∨ g = w.heap.size + 1) :
    Wr (w1.setCell ⟨b, 0, none⟩ (.slice (some ⟨g, 0, none⟩) (n + 1) cap)) B b (bs ++ [x]) fl ∧ Below B w (w1.setCell ⟨b, 0, none⟩ (.slice (some ⟨g, 0, none⟩) (n + 1) cap)) := by
  have hlt := lt_of_block hb
  have hb1 : w1.heap[b]? = some (.cells #[.slice a n c, .bool fl] 27 (0, 0)) := by
    rw [hgrow.block b (by simp; omega) (Ne.symm hne), Below.heap_alloc _ _ _ hlt, hb]
  refine ⟨⟨hBb, some ⟨g, 0, none⟩, cap, ?_, ?_⟩, ?_⟩
  · rw [heap_setCell_same _ _ _ _ _ _ hb1]
    simp [hn]
  · simp only [List.length_append, List.length_cons, List.length_nil, List.map_append, List.map_cons, List.map_nil, hn]
    refine ownsRow_setCell_other hown1 ?_ _
    intro e
    simp [Value.ownBlock] at e
    rcases hat with h | h
    · exact hne (by rw [h, e])
    · omega
  · exact (((Below.refl B w).alloc (by omega) o).grown hgrow (by simp; omega) hge).setCell hBb _

/-- A cell of another block than the row, and its mark, behind the new block and the append. -/
theorem far {w w1 : World} {b : Nat} {v u : Value} {o : Obj} (hlt : b < w.heap.size) (hne : v.ownBlock ≠ some b) (c0 : w.cell? ⟨b, 0, none⟩ = some u) (hgrow : (w.alloc o).grownBy w1 v.ownBlock) : w1.cell? ⟨b, 0, none⟩ = some u := by
  rw [hgrow.cell_far ⟨b, 0, none⟩ (by simp; omega) (Ne.symm hne), ← c0]
  exact World.cell?_of_block (w := w) (Below.heap_alloc _ _ _ hlt)
theorem far_frozen {w w1 : World} {b : Nat} {v : Value} {o : Obj} (hlt : b < w.heap.size) (hne : v.ownBlock ≠ some b) (c0 : w.frozen? ⟨b, 0, none⟩ = false) (hgrow : (w.alloc o).grownBy w1 v.ownBlock) : w1.frozen? ⟨b, 0, none⟩ = false := by
  rw [hgrow.frozen_far ⟨b, 0, none⟩ (by simp; omega) (Ne.symm hne), ← c0]
  exact World.frozen?_of_block (w := w) (Below.heap_alloc _ _ _ hlt)

set_option maxHeartbeats 400000 in
theorem bool_any (B b : Nat) (bs : List Int) (fl v : Bool) (w : World) (h : Wr w B b bs fl) (hn : bs.length ≤ 2097152) :
    Calls Try.prog 7 #[.pointer (some ⟨b, 0, none⟩), .bool v] w fun e w' => e = .returned (.tuple #[]) ∧ Wr w' B b (bs ++ [bit v]) fl ∧ Below B w w' := by
  obtain ⟨hBb, a, c, hb, hown⟩ := h
  obtain ⟨i0, hi, hz0, hz1, hz2⟩ := info_parts info5
  have hne := own_ne hb hown
  have hge : ∀ k, (Value.slice a bs.length c).ownBlock = some k → B ≤ k := fun k hk => (hown.lt k hk).1
  have hlt := lt_of_block hb
  have c0 : w.cell? ⟨b, 0, none⟩ = some (.slice a bs.length c) := by rw [cell_of_row w b 0 _ _ _ hb]; rfl
  have f0 := frozen_of_row w b 0 _ _ hb
  generalize hn' : bs.length = n at *
  have HN : Hid (bs.length = n) := hn'
  clear hn'
  have hBs : B ≤ w.heap.size + 1 := by omega
  have HO : Hid (w.heap[b]? = some (.cells #[.slice a n c, .bool fl] 27 (0, 0))) := hb
  clear hb
  have HNE : Hid ((Value.slice a n c).ownBlock ≠ some b) := hne
  have HGE : Hid (∀ k, (Value.slice a n c).ownBlock = some k → B ≤ k) := hge
  clear hne hge
  cases v
  · go_enter Try.func7, Try.ntmps7
    go_wp2_with (at_builtin; go_must (refine wpList_append_lies _ rfl (.tmp 10) (.tmp 12) 22 rfl B 5 i0 (.int .u8 0) 1 1 Try.underlying22 hi hz0 hz1 hz2 rfl (by decide) (.slice a n c) n (bs.map (Value.int .u8)) rfl (hown.alloc _) ⟨w.heap.size, 0, none⟩ 1 1 [.int .u8 0] rfl rfl (cell_one_new _ _ _) (by intro u hu; simp at hu; subst hu; rfl) (by decide) (by unfold maxLen; omega) (by omega) (by simp; omega) (w.heap.size + 1) (by simp) ?_); intro g cap w1 hown1 hgrow hat hlt1; go_must (have HF : Hid _ := wr_step hBb HO.out HN.out HNE.out HGE.out hown1 hgrow hat); go_must (have c1 := far hlt HNE.out c0 hgrow); go_must (have f1 := far_frozen hlt HNE.out f0 hgrow); clear hown1 hgrow hat)
    go_end0
    exact ⟨rfl, HF.out⟩
  · go_enter Try.func7, Try.ntmps7
    go_wp2_with (at_builtin; go_must (refine wpList_append_lies _ rfl (.tmp 10) (.tmp 12) 22 rfl B 5 i0 (.int .u8 0) 1 1 Try.underlying22 hi hz0 hz1 hz2 rfl (by decide) (.slice a n c) n (bs.map (Value.int .u8)) rfl (hown.alloc _) ⟨w.heap.size, 0, none⟩ 1 1 [.int .u8 1] rfl rfl (cell_one_new _ _ _) (by intro u hu; simp at hu; subst hu; rfl) (by decide) (by unfold maxLen; omega) (by omega) (by simp; omega) (w.heap.size + 1) (by simp) ?_); intro g cap w1 hown1 hgrow hat hlt1; go_must (have HF : Hid _ := wr_step hBb HO.out HN.out HNE.out HGE.out hown1 hgrow hat); go_must (have c1 := far hlt HNE.out c0 hgrow); go_must (have f1 := far_frozen hlt HNE.out f0 hgrow); clear hown1 hgrow hat)
    go_end0
    exact ⟨rfl, HF.out⟩

/-- WHAT THE WALK IS TOLD OF A SLICE OF INTEGERS THAT CAME IN (the shell's own words): it is nil; or it leads to a row of 'cap' cells, the numbers 'zs' (the first 'len' are its elements, the rest its spare room), each fitting its kind. -/
def IsRow (k : IntKind) (w : World) (a : Option Addr) (len cap : Nat) (zs : List Int) : Prop :=
  (a = none ∧ len = 0 ∧ cap = 0 ∧ zs = []) ∨
  ∃ x, a = some x ∧ len ≤ cap ∧ cap ≤ maxLen ∧ zs.length = cap ∧ (∀ i, i < zs.length → w.cell? (x.add i) = some (.int k (zs.getD i 0))) ∧ ∀ n ∈ zs, (Lit.int k n).wf = true

theorem IsRow.later {k : IntKind} {w w' : World} {a : Option Addr} {len cap : Nat} {zs : List Int} (h : IsRow k w a len cap zs) (hb : Below w.heap.size w w') : IsRow k w' a len cap zs := by
  rcases h with h | ⟨x, h1, h2, h3, h4, h5, h6⟩
  · exact .inl h
  · exact .inr ⟨x, h1, h2, h3, h4, fun i hi => cell_later hb (h5 i hi), h6⟩

theorem IsRow.len_le {k : IntKind} {w : World} {a : Option Addr} {len cap : Nat} {zs : List Int} (h : IsRow k w a len cap zs) : len ≤ zs.length := by
  rcases h with ⟨_, h1, _, h3⟩ | ⟨x, h1, h2, h3, h4, _⟩
  · simp [h1]
  · omega

theorem IsRow.cell {k : IntKind} {w : World} {a : Option Addr} {len cap : Nat} {zs : List Int} (h : IsRow k w a len cap zs) {j : Nat} (hj : j < len) : ∃ b off, a = some ⟨b, off, none⟩ ∧ w.cell? ⟨b, off + j, none⟩ = some (.int k (zs.getD j 0)) := by
  rcases h with ⟨_, h1, _, h3⟩ | ⟨x, h1, h2, h3, h4, h5, h6⟩
  · omega
  · obtain ⟨b, off, spot⟩ := x
    have hspot : spot = none := by simpa [Addr.add] using World.cell?_spot (h5 0 (by omega))
    subst hspot
    refine ⟨b, off, h1, ?_⟩
    rw [← Go.WideShapes.add_plain]
    exact h5 j (by omega)

theorem clone_any (a : Option Addr) (len cap : Nat) (zs : List Int) (w : World) (h : IsRow .u8 w a len cap zs) (hm : len ≤ 1048576) :
    Calls Try.prog 6 #[.slice a len cap] w fun e w' => ∃ a' c', e = .returned (.slice a' len c') ∧
      w'.ownsRow w.heap.size 5 1 (.slice a' len c') len ((zs.take len).map (Value.int .u8)) ∧ Below w.heap.size w w' := by
  rcases h with ⟨rfl, rfl, rfl, rfl⟩ | ⟨x, rfl, h2, h3, h4, h5, h6⟩
  · refine (clone_nil w).mono ?_
    rintro e w' ⟨rfl, rfl⟩
    exact ⟨none, 0, rfl, World.ownsRow_nil _ _ _ _, Below.refl _ _⟩
  · refine (clone_some x len cap zs w h2 hm h4 h5).mono ?_
    rintro e w' ⟨rfl, hg, hb⟩
    refine ⟨some ⟨w.heap.size, 0, none⟩, len, rfl, ⟨?_, .inr ⟨w.heap.size, len, _, rfl, Nat.le_refl _, hg, Nat.le_refl _, by unfold maxLen at *; omega, ?_, ?_⟩⟩, hb⟩
    · simp; omega
    · simp; omega
    · rw [List.take_of_length_le (by simp; omega)]

theorem bytes3_yes (a : Option Addr) (len cap : Nat) (f v : Bool) (w : World) (h : len ≤ 1048576) :
    Calls Try.prog 5 #[.slice a len cap, .bool f, .bool v] w fun e w' => e = .returned (.bool true) ∧ w = w' := by
  go_enter Try.func5, Try.ntmps5
  go_wp2
  go_ret
  exact ⟨rfl, rfl⟩

theorem bytes3_no (a : Option Addr) (len cap : Nat) (f v : Bool) (w : World) (h : 1048576 < len) :
    Calls Try.prog 5 #[.slice a len cap, .bool f, .bool v] w fun e w' => e = .returned (.bool false) ∧ w = w' := by
  go_enter Try.func5, Try.ntmps5
  go_wp2
  go_ret
  exact ⟨rfl, rfl⟩

theorem bit_any (v : Bool) (w : World) : Calls Try.prog 8 #[.bool v] w fun e w' => e = .returned (.int .u8 (bit v)) ∧ w = w' := by
  cases v <;>
  · go_enter Try.func8, Try.ntmps8
    go_wp2
    go_ret
    exact ⟨rfl, rfl⟩

/-- A new Writer: the clone's slice and the flag, boxed. -/
theorem wr_new {w : World} {B : Nat} {a : Option Addr} {c : Nat} {bs : List Int} {fl : Bool} (hB : B ≤ w.heap.size) (h : w.ownsRow B 5 1 (.slice a bs.length c) bs.length (bs.map (Value.int .u8))) :
    Wr (w.alloc (.cells #[.slice a bs.length c, .bool fl] 27)) B w.heap.size bs fl :=
  ⟨hB, a, c, heap_alloc_new _ _, h.alloc _⟩

/-- What a Writer with at least one byte shows to a reader. -/
theorem Wr.look {w : World} {B b : Nat} {bs : List Int} {fl : Bool} (h : Wr w B b bs fl) (hp : 0 < bs.length) :
    ∃ g c, w.cell? ⟨b, 0, none⟩ = some (.slice (some ⟨g, 0, none⟩) bs.length c) ∧ w.cell? ⟨b, 1, none⟩ = some (.bool fl) ∧ ∀ j, j < bs.length → w.cell? ⟨g, j, none⟩ = some (.int .u8 (bs.getD j 0)) := by
  obtain ⟨_, a, c, hb, hown⟩ := h
  obtain ⟨g, cap, hv, _, _⟩ := hown.form hp
  simp only [Value.slice.injEq] at hv
  obtain ⟨rfl, _, rfl⟩ := hv
  refine ⟨g, c, by rw [cell_of_row w b 0 _ _ _ hb]; rfl, by rw [cell_of_row w b 1 _ _ _ hb]; rfl, fun j hj => ?_⟩
  rw [hown.cellAt j (by omega)]
  simp [List.getD, hj]

/-- A Writer below stays as it is. -/
theorem Wr.later {w w' : World} {B b : Nat} {bs : List Int} {fl : Bool} (h : Wr w B b bs fl) (hb : Below w.heap.size w w') : Wr w' B b bs fl := by
  obtain ⟨hBb, a, c, h1, hown⟩ := h
  refine ⟨hBb, a, c, by rw [hb.block b (lt_of_block h1), h1], hown.1, ?_⟩
  rcases hown.2 with h | ⟨g, cap, cur, hv, hg, hh, h5, h6⟩
  · exact .inl h
  · exact .inr ⟨g, cap, cur, hv, hg, by rw [hb.block g (lt_of_block hh), hh], h5, h6⟩

end Go.Proofs.Qxb6626082a
