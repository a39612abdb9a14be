import Derived.Test.Qxb6628238aBase
import Derived.Deep.RegionLaw
namespace Go.Proofs.Qxb6628238a
open Go.RowKit

/-- A cell of another block than the row, and its mark, behind the new block, the draw and the append. -/
theorem far {w w1 : World} {b i : Nat} {v u : Value} {o : Obj} (hlt : b < w.heap.size) (hne : v.ownBlock ≠ some b) (c0 : w.cell? ⟨b, i, none⟩ = some u) (hgrow : (w.alloc o).drew.grownBy w1 v.ownBlock) : w1.cell? ⟨b, i, none⟩ = some u := by
  rw [hgrow.cell_far ⟨b, i, none⟩ (by show b < (w.alloc o).heap.size; simp; omega) (Ne.symm hne), ← c0]
  exact World.cell?_of_block (w := w) (Below.heap_alloc _ _ _ hlt)
theorem far_frozen {w w1 : World} {b i : Nat} {v : Value} {o : Obj} (hlt : b < w.heap.size) (hne : v.ownBlock ≠ some b) (c0 : w.frozen? ⟨b, i, none⟩ = false) (hgrow : (w.alloc o).drew.grownBy w1 v.ownBlock) : w1.frozen? ⟨b, i, none⟩ = false := by
  rw [hgrow.frozen_far ⟨b, i, none⟩ (by show b < (w.alloc o).heap.size; simp; omega) (Ne.symm hne), ← c0]
  exact World.frozen?_of_block (w := w) (Below.heap_alloc _ _ _ hlt)

/-- What the first statement of 'packet' leaves. -/
theorem packet_mid {w w1 : World} {B b : Nat} {pr : Nat → Obj → Prop} {bs sz bl : Nat} {ha wa da : Option Addr} {nh hc nw wc nd dc g cap : Nat} {xh xw xd ys : List Value} {o : Obj} (h : St w B b pr bs sz bl ha nh hc wa nw wc da nd dc xh xw xd)
    (hown : w1.ownsRow B 31 2 (.slice (some ⟨g, 0, none⟩) (nd + 1) cap) (nd + 1) ys) (hgrow : (w.alloc o).drew.grownBy w1 (Value.slice da nd dc).ownBlock) (hat : (Value.slice da nd dc).ownBlock = some g ∨ g = w.heap.size + 1) :
    St (w1.setCell ⟨b, 5, none⟩ (.slice (some ⟨g, 0, none⟩) (nd + 1) cap)) B b pr bs sz bl ha nh hc wa nw wc (some ⟨g, 0, none⟩) (nd + 1) cap xh xw ys ∧ Below B w (w1.setCell ⟨b, 5, none⟩ (.slice (some ⟨g, 0, none⟩) (nd + 1) cap)) := by
  obtain ⟨h1, h2⟩ := (h.alloc o).drew.done_app hown hgrow (by rcases hat with h1 | h1; exact .inl h1; exact .inr (by show g = (w.alloc o).heap.size; simp [h1]))
  exact ⟨h1, (((Below.refl B w).alloc (by have := h.lt; have := h.base; omega) o).drew).trans h2⟩

theorem blocks_wrap {bl pl bs : Nat} (hbl : bl ≤ 1099511627776) (hpl : pl ≤ 4294967296) : wrap64 ((bl : Int) + wrap64 ((pl : Int) / (bs : Int))) = ((bl + pl / bs : Nat) : Int) := by
  have h := Nat.div_le_self pl bs
  rw [← Int.natCast_ediv]
  generalize pl / bs = q at *
  rw [IntWalk.wrap64_in (q : Int) (by omega), ← Int.natCast_add]
  exact IntWalk.wrap64_in _ (by omega)

set_option maxRecDepth 100000 in
set_option maxHeartbeats 1000000 in
theorem packet_any (w : World) (B b : Nat) (pr : Nat → Obj → Prop) (bs sz bl : Nat) (ha : Option Addr) (nh hc : Nat) (wa : Option Addr) (nw wc : Nat) (da : Option Addr) (nd dc : Nat) (xh xw xd : List Value)
    (pa : Option Addr) (pl pc : Nat) (h : St w B b pr bs sz bl ha nh hc wa nw wc da nd dc xh xw xd) (hbs : 1 ≤ bs) (hnd : nd ≤ 2097152) (hbl : bl ≤ 1099511627776) (hpl : pl ≤ 4294967296) :
    Calls Try.prog 15 #[.pointer (some ⟨b, 0, none⟩), .slice pa pl pc] w fun e w' => e = .returned (.tuple #[]) ∧
      ∃ g c, St w' B b pr bs sz (bl + pl / bs) ha nh hc wa nw wc (some ⟨g, 0, none⟩) (nd + 1) c xh xw (xd ++ [.slice pa pl pc, .int .i64 (bl : Int)]) ∧ Below B w w' := by
  obtain ⟨i0, hi, hz0, hz1, hz2⟩ := info_parts info31
  have c0 := h.c0
  have c4 := h.c4
  have c5 := h.c5
  have lb := h.lt
  have f5 := h.fr 5
  have f4 := h.fr 4
  have hfa : ∀ o, (w.alloc o).frozen? ⟨b, 5, none⟩ = false := fun o => (World.frozen?_of_block (w := w) (Below.heap_alloc _ _ _ lb)).trans f5
  have hbs' : (1 : Int) ≤ (bs : Int) := by omega
  have hne := h.db
  have hown := h.done
  have hba := h.base
  have HST : Hid (St w B b pr bs sz bl ha nh hc wa nw wc da nd dc xh xw xd) := h
  have HNE : Hid ((Value.slice da nd dc).ownBlock ≠ some b) := hne
  clear h hne
  go_enter Try.func15, Try.ntmps15
  go_wp2_with fail
  go_region_law ((refine step_append_lies _ (by rfl) _ _ _ (by rfl) B 31 i0 _ 2 32 Try.underlying28 hi hz0 hz1 hz2 rfl (by omega) (.slice da nd dc) nd xd (by simp [Act.eval]) ((hown.alloc _).drew) ⟨w.heap.size, 0, none⟩ 1 1 [.slice pa pl pc, .int .i64 (bl : Int)] (by simp [Act.eval]) (by rfl) (World.news_of_block (cs := #[.slice pa pl pc, .int .i64 (bl : Int)]) (t := 31) (fr := (0, 0)) (heap_alloc_new w _)) (by simp [Value.oneCell']) (by omega) (by unfold maxLen; omega) (by omega) (by simp; omega) (w.heap.size + 1) (by simp) ?_; intro g cap w1 hown1 hgrow hat hlt; have c51 := far lb HNE.out c5 hgrow; have f51 := far_frozen lb HNE.out f5 hgrow))
  all_goals
    clear c51 f51
    have HF : Hid _ := packet_mid HST.out hown1 hgrow hat
    clear hown1 hgrow hat hlt c0 c4 c5 f5 f4 hfa hown
    generalize w1.setCell ⟨b, 5, none⟩ (.slice (some ⟨g, 0, none⟩) (nd + 1) cap) = w2 at *
    have c0 := HF.out.1.c0
    have c4 := HF.out.1.c4
    have f4 := HF.out.1.fr 4
    go_wp2_with fail
    go_region
  all_goals
    rw [blocks_wrap hbl hpl]
    go_end0
    exact ⟨rfl, g, cap, (HF.out.1.blocks (bl + pl / bs)).drew, (HF.out.2.setCell hba _).drew⟩
end Go.Proofs.Qxb6628238a
