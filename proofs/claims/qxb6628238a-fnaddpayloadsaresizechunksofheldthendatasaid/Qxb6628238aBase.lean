import Derived.Test.Qxb6628238aRows
import Derived.WalkKit
import Derived.WalkSpells
import Derived.WalkLawsBesides
import Derived.Deep.AppendLies
import Derived.Deep.OwnRows
import Derived.Deep.RegionHeld3
import Derived.Deep.QuietTactic
import Derived.BigQuiet
namespace Go.Proofs.Qxb6628238a
open Go.RowKit

theorem info5 : (Try.prog.info? 5).map (fun i => (i.zero, i.size, i.bytes)) = some (some (.int .u8 0), 1, 1) := by kernel_rfl
theorem info31 : (Try.prog.info? 31).map (fun i => (i.zero, i.size, i.bytes)) = some (some (.agg #[.slice none 0 0, .int .i64 0]), 2, 32) := by kernel_rfl

/-- n cells of the stream F, from s on. -/
def seg (F : Nat → Int) (s n : Nat) : List Value := (List.range n).map fun j => Value.int .u8 (F (s + j))
theorem seg_length (F : Nat → Int) (s n : Nat) : (seg F s n).length = n := by simp [seg]
theorem seg_zero (F : Nat → Int) (s : Nat) : seg F s 0 = [] := by simp [seg]
theorem seg_get (F : Nat → Int) (s n j : Nat) (h : j < n) : (seg F s n)[j]? = some (.int .u8 (F (s + j))) := by simp [seg, h]
theorem seg_get_none (F : Nat → Int) (s n j : Nat) (h : n ≤ j) : (seg F s n)[j]? = none := by simp [seg, h]
theorem seg_add (F : Nat → Int) (s n m : Nat) : seg F s n ++ seg F (s + n) m = seg F s (n + m) := by
  apply List.ext_getElem?
  intro j
  by_cases h1 : j < n
  · rw [List.getElem?_append_left (by rw [seg_length]; exact h1), seg_get _ _ _ _ h1, seg_get _ _ _ _ (by omega)]
  · rw [List.getElem?_append_right (by rw [seg_length]; omega), seg_length]
    by_cases h2 : j < n + m
    · rw [seg_get _ _ _ _ (by omega), seg_get _ _ _ _ h2, show s + n + (j - n) = s + j from by omega]
    · rw [seg_get_none _ _ _ _ (by omega), seg_get_none _ _ _ _ (by omega)]
theorem seg_one (F : Nat → Int) (s n : Nat) : ∀ u ∈ seg F s n, u.oneCell' = true := by
  intro u hu
  obtain ⟨j, _, rfl⟩ := List.mem_map.1 hu
  rfl

/-- Two blocks of different element types are two. -/
theorem own_ne {w : World} {B b n e e' s : Nat} {cs : Array Value} {v : Value} {xs : List Value} {fr : Nat × Nat} (hb : w.heap[b]? = some (.cells cs e' fr)) (h : w.ownsRow B e s v n xs) (he : e ≠ e') : v.ownBlock ≠ some b := by
  rcases h.2 with ⟨rfl, _⟩ | ⟨g, cap, cur, rfl, _, hg, _⟩
  · simp [Value.ownBlock]
  · intro hx
    simp [Value.ownBlock] at hx
    subst hx
    rw [hb] at hg
    simp only [Option.some.injEq, Obj.cells.injEq] at hg
    exact he hg.2.1.symm
theorem own_ne_own {w : World} {B B' n n' e e' s s' : Nat} {v v' : Value} {xs xs' : List Value} (h : w.ownsRow B e s v n xs) (h' : w.ownsRow B' e' s' v' n' xs') (he : e ≠ e') : v.ownBlock = none ∨ v.ownBlock ≠ v'.ownBlock := by
  rcases h'.2 with ⟨rfl, _⟩ | ⟨g, cap, cur, rfl, _, hg, _⟩
  · cases hv : v.ownBlock
    · exact .inl rfl
    · exact .inr (by simp [Value.ownBlock])
  · exact .inr (own_ne hg h he)

/-- The Packer at block b, all of its rows from block B on; 'pr': blocks that it leaves alone (the data's). -/
structure St (w : World) (B b : Nat) (pr : Nat → Obj → Prop) (bs sz bl : Nat) (ha : Option Addr) (nh hc : Nat) (wa : Option Addr) (nw wc : Nat) (da : Option Addr) (nd dc : Nat) (xh xw xd : List Value) : Prop where
  base : B ≤ b
  blk : w.heap[b]? = some (.cells #[.int .i64 (bs : Int), .int .i64 (sz : Int), .slice ha nh hc, .slice wa nw wc, .int .i64 (bl : Int), .slice da nd dc] 41 (0, 0))
  held : w.ownsRow B 5 1 (.slice ha nh hc) nh xh
  whole : w.ownsRow B 5 1 (.slice wa nw wc) nw xw
  done : w.ownsRow B 31 2 (.slice da nd dc) nd xd
  hw : (Value.slice ha nh hc).ownBlock = none ∨ (Value.slice ha nh hc).ownBlock ≠ (Value.slice wa nw wc).ownBlock
  prot : ∀ g O, pr g O → w.heap[g]? = some O ∧ g ≠ b ∧ (Value.slice ha nh hc).ownBlock ≠ some g ∧ (Value.slice wa nw wc).ownBlock ≠ some g ∧ (Value.slice da nd dc).ownBlock ≠ some g

section
variable {w w1 : World} {B b : Nat} {pr : Nat → Obj → Prop} {bs sz bl : Nat} {ha wa da : Option Addr} {nh hc nw wc nd dc : Nat} {xh xw xd : List Value}

theorem St.lt (h : St w B b pr bs sz bl ha nh hc wa nw wc da nd dc xh xw xd) : b < w.heap.size := lt_of_block h.blk
theorem St.c0 (h : St w B b pr bs sz bl ha nh hc wa nw wc da nd dc xh xw xd) : w.cell? ⟨b, 0, none⟩ = some (.int .i64 (bs : Int)) := by rw [cell_of_row w b 0 _ _ _ h.blk]; rfl
theorem St.c1 (h : St w B b pr bs sz bl ha nh hc wa nw wc da nd dc xh xw xd) : w.cell? ⟨b, 1, none⟩ = some (.int .i64 (sz : Int)) := by rw [cell_of_row w b 1 _ _ _ h.blk]; rfl
theorem St.c2 (h : St w B b pr bs sz bl ha nh hc wa nw wc da nd dc xh xw xd) : w.cell? ⟨b, 2, none⟩ = some (.slice ha nh hc) := by rw [cell_of_row w b 2 _ _ _ h.blk]; rfl
theorem St.c3 (h : St w B b pr bs sz bl ha nh hc wa nw wc da nd dc xh xw xd) : w.cell? ⟨b, 3, none⟩ = some (.slice wa nw wc) := by rw [cell_of_row w b 3 _ _ _ h.blk]; rfl
theorem St.c4 (h : St w B b pr bs sz bl ha nh hc wa nw wc da nd dc xh xw xd) : w.cell? ⟨b, 4, none⟩ = some (.int .i64 (bl : Int)) := by rw [cell_of_row w b 4 _ _ _ h.blk]; rfl
theorem St.c5 (h : St w B b pr bs sz bl ha nh hc wa nw wc da nd dc xh xw xd) : w.cell? ⟨b, 5, none⟩ = some (.slice da nd dc) := by rw [cell_of_row w b 5 _ _ _ h.blk]; rfl
theorem St.fr (h : St w B b pr bs sz bl ha nh hc wa nw wc da nd dc xh xw xd) (i : Nat) : w.frozen? ⟨b, i, none⟩ = false := frozen_of_row w b i _ _ h.blk
theorem St.hb (h : St w B b pr bs sz bl ha nh hc wa nw wc da nd dc xh xw xd) : (Value.slice ha nh hc).ownBlock ≠ some b := own_ne h.blk h.held (by decide)
theorem St.wb (h : St w B b pr bs sz bl ha nh hc wa nw wc da nd dc xh xw xd) : (Value.slice wa nw wc).ownBlock ≠ some b := own_ne h.blk h.whole (by decide)
theorem St.db (h : St w B b pr bs sz bl ha nh hc wa nw wc da nd dc xh xw xd) : (Value.slice da nd dc).ownBlock ≠ some b := own_ne h.blk h.done (by decide)

/-- A store into the Packer's own block leaves every row. -/
theorem ownsRow_set {e s n i : Nat} {v u : Value} {xs : List Value} (h : w.ownsRow B e s v n xs) (hb : v.ownBlock ≠ some b) : (w.setCell ⟨b, i, none⟩ u).ownsRow B e s v n xs := ownsRow_setCell_other h hb u

theorem prot_set {g i : Nat} {O : Obj} {u : Value} (hp : w.heap[g]? = some O) (hne : g ≠ b) : (w.setCell ⟨b, i, none⟩ u).heap[g]? = some O := by
  rw [heap_setCell_other _ _ _ _ hne, hp]

/-- An emptied row is still owned. -/
theorem own0 {e s n : Nat} {a : Option Addr} {c : Nat} {xs : List Value} (h : w.ownsRow B e s (.slice a n c) n xs) : w.ownsRow B e s (.slice a 0 c) 0 [] := by
  refine ⟨by simp, ?_⟩
  rcases h.2 with ⟨hv, _⟩ | ⟨g, cap, cur, hv, h1, h2, h3, h4, h5, _⟩
  · simp only [Value.slice.injEq] at hv
    obtain ⟨rfl, _, rfl⟩ := hv
    exact .inl ⟨rfl, rfl⟩
  · simp only [Value.slice.injEq] at hv
    obtain ⟨rfl, _, rfl⟩ := hv
    exact .inr ⟨g, c, cur, rfl, h1, h2, Nat.zero_le _, h4, h5, by simp⟩
theorem ob0 (a : Option Addr) (n m c : Nat) : (Value.slice a n c).ownBlock = (Value.slice a m c).ownBlock := by cases a <;> rfl

/-- 'p.done = p.done[:0]' -/
theorem St.done0 (h : St w B b pr bs sz bl ha nh hc wa nw wc da nd dc xh xw xd) : St (w.setCell ⟨b, 5, none⟩ (.slice da 0 dc)) B b pr bs sz bl ha nh hc wa nw wc da 0 dc xh xw [] := by
  refine ⟨h.base, ?_, ownsRow_set h.held h.hb, ownsRow_set h.whole h.wb, ownsRow_set (own0 h.done) (by rw [ob0 da 0 nd dc]; exact h.db), h.hw, fun g O hg => ?_⟩
  · rw [heap_setCell_same _ _ _ _ _ _ h.blk]; rfl
  · obtain ⟨p1, p2, p3, p4, p5⟩ := h.prot g O hg
    exact ⟨prot_set p1 p2, p2, p3, p4, by rw [ob0 da 0 nd dc]; exact p5⟩

/-- 'p.held = p.held[:0]' -/
theorem St.held0 (h : St w B b pr bs sz bl ha nh hc wa nw wc da nd dc xh xw xd) : St (w.setCell ⟨b, 2, none⟩ (.slice ha 0 hc)) B b pr bs sz bl ha 0 hc wa nw wc da nd dc [] xw xd := by
  have e := ob0 ha 0 nh hc
  refine ⟨h.base, ?_, ownsRow_set (own0 h.held) (by rw [e]; exact h.hb), ownsRow_set h.whole h.wb, ownsRow_set h.done h.db, by rw [e]; exact h.hw, fun g O hg => ?_⟩
  · rw [heap_setCell_same _ _ _ _ _ _ h.blk]; rfl
  · obtain ⟨p1, p2, p3, p4, p5⟩ := h.prot g O hg
    exact ⟨prot_set p1 p2, p2, by rw [e]; exact p3, p4, p5⟩

/-- 'p.blocks = ..' -/
theorem St.blocks (h : St w B b pr bs sz bl ha nh hc wa nw wc da nd dc xh xw xd) (k : Nat) : St (w.setCell ⟨b, 4, none⟩ (.int .i64 (k : Int))) B b pr bs sz k ha nh hc wa nw wc da nd dc xh xw xd := by
  refine ⟨h.base, ?_, ownsRow_set h.held h.hb, ownsRow_set h.whole h.wb, ownsRow_set h.done h.db, h.hw, fun g O hg => ⟨prot_set (h.prot g O hg).1 (h.prot g O hg).2.1, (h.prot g O hg).2⟩⟩
  rw [heap_setCell_same _ _ _ _ _ _ h.blk]; rfl

/-- The state in a later world whose old blocks, but for one row, are as they were. -/
theorem blk_grown {o : Option Nat} {cs : Array Value} (hb : w.heap[b]? = some (.cells cs 41 (0, 0))) (hg : w.grownBy w1 o) (hne : o ≠ some b) : w1.heap[b]? = some (.cells cs 41 (0, 0)) := by
  rw [hg.block b (lt_of_block hb) (Ne.symm hne), hb]
theorem prot_grown {o : Option Nat} {g : Nat} {O : Obj} (hb : w.heap[g]? = some O) (hg : w.grownBy w1 o) (hne : o ≠ some g) : w1.heap[g]? = some O := by
  rw [hg.block g (lt_of_block hb) (Ne.symm hne), hb]

/-- A new block leaves all as it was. -/
theorem St.alloc (h : St w B b pr bs sz bl ha nh hc wa nw wc da nd dc xh xw xd) (o : Obj) : St (w.alloc o) B b pr bs sz bl ha nh hc wa nw wc da nd dc xh xw xd :=
  ⟨h.base, by rw [Below.heap_alloc _ _ _ h.lt, h.blk], h.held.alloc o, h.whole.alloc o, h.done.alloc o, h.hw, fun g O hg => ⟨by rw [Below.heap_alloc _ _ _ (lt_of_block (h.prot g O hg).1), (h.prot g O hg).1], (h.prot g O hg).2⟩⟩

theorem St.drew (h : St w B b pr bs sz bl ha nh hc wa nw wc da nd dc xh xw xd) : St w.drew B b pr bs sz bl ha nh hc wa nw wc da nd dc xh xw xd :=
  ⟨h.base, h.blk, h.held.drew, h.whole.drew, h.done.drew, h.hw, h.prot⟩

/-- 'p.done = append(p.done, ..)' -/
theorem St.done_app (h : St w B b pr bs sz bl ha nh hc wa nw wc da nd dc xh xw xd) {g cap m : Nat} {ys : List Value} (hown : w1.ownsRow B 31 2 (.slice (some ⟨g, 0, none⟩) (nd + m) cap) (nd + m) ys)
    (hgrow : w.grownBy w1 (Value.slice da nd dc).ownBlock) (hat : (Value.slice da nd dc).ownBlock = some g ∨ g = w.heap.size) :
    St (w1.setCell ⟨b, 5, none⟩ (.slice (some ⟨g, 0, none⟩) (nd + m) cap)) B b pr bs sz bl ha nh hc wa nw wc (some ⟨g, 0, none⟩) (nd + m) cap xh xw ys ∧ Below B w (w1.setCell ⟨b, 5, none⟩ (.slice (some ⟨g, 0, none⟩) (nd + m) cap)) := by
  have hb1 := blk_grown h.blk hgrow h.db
  have k1 := h.held.kept hgrow (own_ne_own h.held h.done (by decide))
  have k2 := h.whole.kept hgrow (own_ne_own h.whole h.done (by decide))
  refine ⟨⟨h.base, ?_, ownsRow_set k1 h.hb, ownsRow_set k2 h.wb, ownsRow_set hown ?_, h.hw, fun g' O hg => ?_⟩, ?_⟩
  · rw [heap_setCell_same _ _ _ _ _ _ hb1]; rfl
  · exact own_ne hb1 hown (by decide)
  · obtain ⟨p1, p2, p3, p4, p5⟩ := h.prot g' O hg
    refine ⟨prot_set (prot_grown p1 hgrow p5) p2, p2, p3, p4, fun e => ?_⟩
    simp [Value.ownBlock] at e
    subst e
    rcases hat with h1 | h1
    · exact p5 h1
    · have := lt_of_block p1; omega
  · exact (((Below.refl B w).grown hgrow (by have := h.lt; have := h.base; omega) (fun k hk => (h.done.lt k hk).1)).setCell h.base _)

/-- 'p.held = append(p.held, ..)' -/
theorem St.held_app (h : St w B b pr bs sz bl ha nh hc wa nw wc da nd dc xh xw xd) {g cap m : Nat} {ys : List Value} (hown : w1.ownsRow B 5 1 (.slice (some ⟨g, 0, none⟩) (nh + m) cap) (nh + m) ys)
    (hgrow : w.grownBy w1 (Value.slice ha nh hc).ownBlock) (hat : (Value.slice ha nh hc).ownBlock = some g ∨ g = w.heap.size) :
    St (w1.setCell ⟨b, 2, none⟩ (.slice (some ⟨g, 0, none⟩) (nh + m) cap)) B b pr bs sz bl (some ⟨g, 0, none⟩) (nh + m) cap wa nw wc da nd dc ys xw xd ∧ Below B w (w1.setCell ⟨b, 2, none⟩ (.slice (some ⟨g, 0, none⟩) (nh + m) cap)) := by
  have hb1 := blk_grown h.blk hgrow h.hb
  have hwh : (Value.slice wa nw wc).ownBlock = none ∨ (Value.slice wa nw wc).ownBlock ≠ (Value.slice ha nh hc).ownBlock := by
    rcases h.hw with h1 | h1
    · rw [h1]; cases (Value.slice wa nw wc).ownBlock <;> simp
    · exact .inr (Ne.symm h1)
  have k1 := h.whole.kept hgrow hwh
  have k2 := h.done.kept hgrow (own_ne_own h.done h.held (by decide))
  have hgne : ∀ k, k < w.heap.size → (Value.slice ha nh hc).ownBlock ≠ some k → g ≠ k := fun k hk hn e => by
    subst e
    rcases hat with h1 | h1
    · exact hn h1
    · omega
  refine ⟨⟨h.base, ?_, ownsRow_set hown ?_, ownsRow_set k1 h.wb, ownsRow_set k2 h.db, ?_, fun g' O hg => ?_⟩, ?_⟩
  · rw [heap_setCell_same _ _ _ _ _ _ hb1]; rfl
  · exact own_ne hb1 hown (by decide)
  · right
    intro e
    have e' : (Value.slice wa nw wc).ownBlock = some g := by simpa [Value.ownBlock] using e.symm
    have hlt := (h.whole.lt g e').2
    refine hgne g hlt (fun e2 => ?_) rfl
    rcases h.hw with h1 | h1
    · rw [h1] at e2; cases e2
    · exact h1 (e2.trans e'.symm)
  · obtain ⟨p1, p2, p3, p4, p5⟩ := h.prot g' O hg
    refine ⟨prot_set (prot_grown p1 hgrow p3) p2, p2, fun e => ?_, p4, p5⟩
    simp [Value.ownBlock] at e
    exact hgne g' (lt_of_block p1) p3 e
  · exact (((Below.refl B w).grown hgrow (by have := h.lt; have := h.base; omega) (fun k hk => (h.held.lt k hk).1)).setCell h.base _)

/-- 'p.whole = append(p.whole[:0], ..)' -/
theorem St.whole_app (h : St w B b pr bs sz bl ha nh hc wa nw wc da nd dc xh xw xd) {g cap m : Nat} {ys : List Value} (hown : w1.ownsRow B 5 1 (.slice (some ⟨g, 0, none⟩) m cap) m ys)
    (hgrow : w.grownBy w1 (Value.slice wa nw wc).ownBlock) (hat : (Value.slice wa nw wc).ownBlock = some g ∨ g = w.heap.size) :
    St (w1.setCell ⟨b, 3, none⟩ (.slice (some ⟨g, 0, none⟩) m cap)) B b pr bs sz bl ha nh hc (some ⟨g, 0, none⟩) m cap da nd dc xh ys xd ∧ Below B w (w1.setCell ⟨b, 3, none⟩ (.slice (some ⟨g, 0, none⟩) m cap)) := by
  have hb1 := blk_grown h.blk hgrow h.wb
  have k1 := h.held.kept hgrow h.hw
  have k2 := h.done.kept hgrow (own_ne_own h.done h.whole (by decide))
  have hgne : ∀ k, k < w.heap.size → (Value.slice wa nw wc).ownBlock ≠ some k → g ≠ k := fun k hk hn e => by
    subst e
    rcases hat with h1 | h1
    · exact hn h1
    · omega
  refine ⟨⟨h.base, ?_, ownsRow_set k1 h.hb, ownsRow_set hown ?_, ownsRow_set k2 h.db, ?_, fun g' O hg => ?_⟩, ?_⟩
  · rw [heap_setCell_same _ _ _ _ _ _ hb1]; rfl
  · exact own_ne hb1 hown (by decide)
  · right
    intro e
    have e' : (Value.slice ha nh hc).ownBlock = some g := by simpa [Value.ownBlock] using e
    have hlt := (h.held.lt g e').2
    refine hgne g hlt (fun e2 => ?_) rfl
    rcases h.hw with h1 | h1
    · rw [h1] at e'; cases e'
    · exact h1 (e'.trans e2.symm)
  · obtain ⟨p1, p2, p3, p4, p5⟩ := h.prot g' O hg
    refine ⟨prot_set (prot_grown p1 hgrow p4) p2, p2, p3, fun e => ?_, p5⟩
    simp [Value.ownBlock] at e
    exact hgne g' (lt_of_block p1) p4 e
  · exact (((Below.refl B w).grown hgrow (by have := h.lt; have := h.base; omega) (fun k hk => (h.whole.lt k hk).1)).setCell h.base _)


/-- New blocks leave all as it was. -/
theorem St.later {w' : World} (h : St w B b pr bs sz bl ha nh hc wa nw wc da nd dc xh xw xd) (hb : Below w.heap.size w w') : St w' B b pr bs sz bl ha nh hc wa nw wc da nd dc xh xw xd := by
  have row : ∀ {e s n : Nat} {v : Value} {xs : List Value}, w.ownsRow B e s v n xs → w'.ownsRow B e s v n xs := fun h => by
    refine ⟨h.1, ?_⟩
    rcases h.2 with h | ⟨g, cap, cur, hv, hg, hh, h5, h6⟩
    · exact .inl h
    · exact .inr ⟨g, cap, cur, hv, hg, by rw [hb.block g (lt_of_block hh), hh], h5, h6⟩
  exact ⟨h.base, by rw [hb.block b h.lt, h.blk], row h.held, row h.whole, row h.done, h.hw, fun g O hg => ⟨by rw [hb.block g (lt_of_block (h.prot g O hg).1), (h.prot g O hg).1], (h.prot g O hg).2⟩⟩

/-- Blocks that are newer than the state are left alone too. -/
theorem St.reprot {w' : World} (h : St w B b pr bs sz bl ha nh hc wa nw wc da nd dc xh xw xd) (hb : Below w.heap.size w w') :
    St w' B b (fun g O => pr g O ∨ (w.heap.size ≤ g ∧ w'.heap[g]? = some O)) bs sz bl ha nh hc wa nw wc da nd dc xh xw xd := by
  have hl := h.later hb
  refine ⟨hl.base, hl.blk, hl.held, hl.whole, hl.done, hl.hw, fun g O hg => ?_⟩
  rcases hg with hg | ⟨h1, h2⟩
  · exact hl.prot g O hg
  · exact ⟨h2, fun e => by have := h.lt; omega, fun e => by have := (h.held.lt g e).2; omega, fun e => by have := (h.whole.lt g e).2; omega, fun e => by have := (h.done.lt g e).2; omega⟩
end
end Go.Proofs.Qxb6628238a
