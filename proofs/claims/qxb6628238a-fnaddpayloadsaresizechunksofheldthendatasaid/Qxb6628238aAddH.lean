import Derived.Test.Qxb6628238aAddT
namespace Go.Proofs.Qxb6628238a
open Go.RowKit

theorem St.drewN {w : World} {B b : Nat} {pr : Nat → Obj → Prop} {bs sz bl : Nat} {ha wa da : Option Addr} {nh hc nw wc nd dc : Nat} {xh xw xd : List Value} (h : St w B b pr bs sz bl ha nh hc wa nw wc da nd dc xh xw xd) (k : Nat) :
    St (w.drewN k) B b pr bs sz bl ha nh hc wa nw wc da nd dc xh xw xd := ⟨h.base, h.blk, h.held, h.whole, h.done, h.hw, h.prot⟩

/-- The data's cells, as an append asks for them. -/
theorem data_cells {w : World} {B b : Nat} {pr : Nat → Obj → Prop} {bs sz bl : Nat} {ha wa da : Option Addr} {nh hc nw wc nd dc : Nat} {xh xw xd : List Value} (h : St w B b pr bs sz bl ha nh hc wa nw wc da nd dc xh xw xd)
    {g o r p : Nat} {A : Array Value} {F : Nat → Int} {X : List Value} (hpr : pr g (.cells A 5 (0, 0))) (hA : ∀ j, j < r → A[o + j]? = some (.int .u8 (F (p + j)))) (hX : X = seg F p r) :
    X.length = r * 1 ∧ (∀ j u, X[j]? = some u → w.cell? ((⟨g, o, none⟩ : Addr).add j) = some u) ∧ ∀ u ∈ X, u.oneCell' = true := by
  subst hX
  refine ⟨by rw [seg_length]; omega, fun j u hu => ?_, seg_one _ _ _⟩
  by_cases hj : j < r
  · rw [seg_get _ _ _ _ hj] at hu
    rw [Go.WideShapes.add_plain, cell_of_row w g (o + j) _ _ _ (h.prot g _ hpr).1, hA j hj, hu]
  · rw [seg_get_none _ _ _ _ (by omega)] at hu; cases hu

set_option maxRecDepth 100000 in
set_option maxHeartbeats 1000000 in
theorem add_short (w : World) (B b : Nat) (pr : Nat → Obj → Prop) (bs sz bl per : Nat) (ha : Option Addr) (nh hc : Nat) (wa : Option Addr) (nw wc : Nat) (da : Option Addr) (nd dc : Nat) (xw xd : List Value)
    (a : Option Addr) (n c : Nat) (F : Nat → Int) (h : St w B b pr bs sz bl ha nh hc wa nw wc da nd dc (seg F 0 nh) xw xd) (g o0 : Nat) (A : Array Value) (hl : Left pr g o0 A F nh n a c) (hn : n ≤ 2097152) (hnh : 1 ≤ nh) (hlt : nh + n < sz) (hsz2 : sz ≤ 1073741824)
    (hn0 : 1 ≤ n) :
    Calls Try.prog 9 #[.pointer (some ⟨b, 0, none⟩), .slice a n c] w fun e w' => AddPost w w' e B b pr bs sz bl per F (nh + n) := by
  have c5 := h.c5
  have c2 := h.c2
  have f5 := h.fr 5
  have lb := h.lt
  have hnc := hl.1
  have hba := h.base
  have HB0 : Hid (Below B w (w.setCell ⟨b, 5, none⟩ (.slice da 0 dc))) := (Below.refl _ _).setCell h.base _
  have HST : Hid (St (w.setCell ⟨b, 5, none⟩ (.slice da 0 dc)) B b pr bs sz bl ha nh hc wa nw wc da 0 dc (seg F 0 nh) xw []) := h.done0
  have HL : Hid (Left pr g o0 A F nh n a c) := hl
  have d0 : decide ((0 : Int) < (nh : Int)) = true := decide_eq_true (by omega)
  clear h hl
  go_enter Try.func9, Try.ntmps9
  go_wp2_with fail
  generalize w.setCell ⟨b, 5, none⟩ (.slice da 0 dc) = w0 at *
  clear c5 c2 f5
  have c1 := HST.out.c1
  have c2 := HST.out.c2
  go_quiet (fail)
  go_wp2_with fail
  have HST1 : Hid (St (w0.drewN nq) B b pr bs sz bl ha nh hc wa nw wc da 0 dc (seg F 0 nh) xw []) := HST.out.drewN nq
  have HB1 : Hid (Below B w (w0.drewN nq)) := below_drewN HB0.out nq
  generalize w0.drewN nq = w1 at *
  clear c1 c2 HST HB0
  obtain ⟨hpr, rfl, hA⟩ := HL.out.2 (by omega)
  obtain ⟨X, hX⟩ : ∃ X, X = seg F nh n := ⟨_, rfl⟩
  obtain ⟨hXl, hXc, hX1⟩ := data_cells HST1.out hpr hA hX
  obtain ⟨Y, hY⟩ : ∃ Y, Y = seg F 0 nh := ⟨_, rfl⟩
  have hown := HST1.out.held
  rw [← hY] at hown
  have HXY : Hid (Y ++ X = seg F 0 (nh + n)) := by show _ = _; rw [hX, hY]; have := seg_add F 0 nh n; rw [Nat.zero_add] at this; exact this
  have HNE : Hid ((Value.slice ha nh hc).ownBlock ≠ some b) := HST1.out.hb
  obtain ⟨i0, hi, hz0, hz1, hz2⟩ := info_parts info5
  have lb1 := HST1.out.lt
  have hBs : B ≤ w1.heap.size := by omega
  have c1 := HST1.out.c1
  have c2 := HST1.out.c2
  have c5 := HST1.out.c5
  have f2 := HST1.out.fr 2
  have HST2 : Hid (St w1 B b pr bs sz bl ha nh hc wa nw wc da 0 dc Y xw []) := by rw [hY]; exact HST1.out
  have i1 : (0 : Int) ≤ (n : Int) := by omega
  have i2 : (n : Int) ≤ (c : Int) := by omega
  clear hX hY hA hpr HST1
  by_cases hcn : n = c
  · subst hcn
    go_region_law ((refine step_append_lies _ (by rfl) _ _ _ (by rfl) B 5 i0 (.int .u8 0) 1 1 Try.underlying22 hi hz0 hz1 hz2 rfl (by omega) (.slice ha nh hc) nh Y (by simp [Act.eval]) hown.drew ⟨g, o0, none⟩ n n X (by simp [Act.eval]) hXl hXc hX1 (by omega) (by unfold maxLen; omega) (by omega) hBs w1.heap.size rfl ?_; intro g3 cap w2 hown2 hgrow hat hlt2; have HF : Hid _ := HST2.out.drew.held_app hown2 hgrow hat; have c21 := (hgrow.cell_far ⟨b, 2, none⟩ lb1 (Ne.symm HNE.out)).trans c2; have c51 := (hgrow.cell_far ⟨b, 5, none⟩ lb1 (Ne.symm HNE.out)).trans c5; have c11 := (hgrow.cell_far ⟨b, 1, none⟩ lb1 (Ne.symm HNE.out)).trans c1; have f21 := (hgrow.frozen_far ⟨b, 2, none⟩ lb1 (Ne.symm HNE.out)).trans f2; clear hown2 hgrow hat hlt2))
    clear c21 c51 c11 f21 c1 c2 c5 f2 hown
    generalize w2.setCell ⟨b, 2, none⟩ (.slice (some ⟨g3, 0, none⟩) (nh + n) cap) = w3 at *
    have c1 := HF.out.1.c1
    have c2 := HF.out.1.c2
    have c5 := HF.out.1.c5
    go_wp2_with fail
    go_quiet (fail)
    go_wp2
    go_ret
    exact ⟨0, nh + n, some ⟨g3, 0, none⟩, cap, wa, nw, wc, xw, da, dc, fun _ => undef, by omega, hlt, rfl, by rw [Nat.zero_mul, Nat.zero_mul, Nat.add_zero, packs_zero, ← HXY.out]; exact HF.out.1.drewN nq, below_drewN (HB1.out.drew.trans HF.out.2) nq, fun i hi => by omega⟩
  · go_region_law ((refine step_append_lies _ (by rfl) _ _ _ (by rfl) B 5 i0 (.int .u8 0) 1 1 Try.underlying22 hi hz0 hz1 hz2 rfl (by omega) (.slice ha nh hc) nh Y (by simp [Act.eval]) hown.drew ⟨g, o0, none⟩ n c X (by simp [Act.eval]) hXl hXc hX1 (by omega) (by unfold maxLen; omega) (by omega) hBs w1.heap.size rfl ?_; intro g3 cap w2 hown2 hgrow hat hlt2; have HF : Hid _ := HST2.out.drew.held_app hown2 hgrow hat; have c21 := (hgrow.cell_far ⟨b, 2, none⟩ lb1 (Ne.symm HNE.out)).trans c2; have c51 := (hgrow.cell_far ⟨b, 5, none⟩ lb1 (Ne.symm HNE.out)).trans c5; have c11 := (hgrow.cell_far ⟨b, 1, none⟩ lb1 (Ne.symm HNE.out)).trans c1; have f21 := (hgrow.frozen_far ⟨b, 2, none⟩ lb1 (Ne.symm HNE.out)).trans f2; clear hown2 hgrow hat hlt2))
    clear c21 c51 c11 f21 c1 c2 c5 f2 hown
    generalize w2.setCell ⟨b, 2, none⟩ (.slice (some ⟨g3, 0, none⟩) (nh + n) cap) = w3 at *
    have c1 := HF.out.1.c1
    have c2 := HF.out.1.c2
    have c5 := HF.out.1.c5
    go_wp2_with fail
    go_quiet (fail)
    go_wp2
    go_ret
    exact ⟨0, nh + n, some ⟨g3, 0, none⟩, cap, wa, nw, wc, xw, da, dc, fun _ => undef, by omega, hlt, rfl, by rw [Nat.zero_mul, Nat.zero_mul, Nat.add_zero, packs_zero, ← HXY.out]; exact HF.out.1.drewN nq, below_drewN (HB1.out.drew.trans HF.out.2) nq, fun i hi => by omega⟩

theorem St.held_same {w : World} {B b : Nat} {pr : Nat → Obj → Prop} {bs sz bl : Nat} {ha wa da : Option Addr} {nh hc nw wc nd dc : Nat} {xh xw xd : List Value} (h : St w B b pr bs sz bl ha nh hc wa nw wc da nd dc xh xw xd) :
    St (w.setCell ⟨b, 2, none⟩ (.slice ha nh hc)) B b pr bs sz bl ha nh hc wa nw wc da nd dc xh xw xd := by
  refine ⟨h.base, ?_, ownsRow_set h.held h.hb, ownsRow_set h.whole h.wb, ownsRow_set h.done h.db, h.hw, fun g O hg => ⟨prot_set (h.prot g O hg).1 (h.prot g O hg).2.1, (h.prot g O hg).2⟩⟩
  rw [heap_setCell_same _ _ _ _ _ _ h.blk]; rfl

theorem St.held_cap {w : World} {B b : Nat} {pr : Nat → Obj → Prop} {bs sz bl : Nat} {ha wa da : Option Addr} {nh hc nw wc nd dc : Nat} {xh xw xd : List Value} (h : St w B b pr bs sz bl ha nh hc wa nw wc da nd dc xh xw xd) : nh ≤ hc := by
  rcases h.held.2 with ⟨hv, h0⟩ | ⟨g, cap, cur, hv, _, _, h1, _⟩
  · omega
  · simp only [Value.slice.injEq] at hv
    omega

set_option maxRecDepth 100000 in
set_option maxHeartbeats 1000000 in
theorem add_empty (w : World) (B b : Nat) (pr : Nat → Obj → Prop) (bs sz bl per : Nat) (ha : Option Addr) (nh hc : Nat) (wa : Option Addr) (nw wc : Nat) (da : Option Addr) (nd dc : Nat) (xw xd : List Value)
    (a : Option Addr) (c : Nat) (F : Nat → Int) (h : St w B b pr bs sz bl ha nh hc wa nw wc da nd dc (seg F 0 nh) xw xd) (hnh : 1 ≤ nh) (hlt : nh < sz) (hsz2 : sz ≤ 1073741824) :
    Calls Try.prog 9 #[.pointer (some ⟨b, 0, none⟩), .slice a 0 c] w fun e w' => AddPost w w' e B b pr bs sz bl per F nh := by
  have c5 := h.c5
  have c2 := h.c2
  have f5 := h.fr 5
  have lb := h.lt
  have hba := h.base
  have HB0 : Hid (Below B w (w.setCell ⟨b, 5, none⟩ (.slice da 0 dc))) := (Below.refl _ _).setCell h.base _
  have HST : Hid (St (w.setCell ⟨b, 5, none⟩ (.slice da 0 dc)) B b pr bs sz bl ha nh hc wa nw wc da 0 dc (seg F 0 nh) xw []) := h.done0
  have d0 : decide ((0 : Int) < (nh : Int)) = true := decide_eq_true (by omega)
  clear h
  go_enter Try.func9, Try.ntmps9
  go_wp2_with fail
  generalize w.setCell ⟨b, 5, none⟩ (.slice da 0 dc) = w0 at *
  clear c5 c2 f5
  have c1 := HST.out.c1
  have c2 := HST.out.c2
  go_quiet (fail)
  go_wp2_with fail
  have HST1 : Hid (St (w0.drewN nq) B b pr bs sz bl ha nh hc wa nw wc da 0 dc (seg F 0 nh) xw []) := HST.out.drewN nq
  have HB1 : Hid (Below B w (w0.drewN nq)) := below_drewN HB0.out nq
  generalize w0.drewN nq = w1 at *
  clear c1 c2 HST HB0
  have c2 := HST1.out.c2
  have f2 := HST1.out.fr 2
  have hcap := HST1.out.held_cap
  have HF : Hid (St (w1.setCell ⟨b, 2, none⟩ (.slice ha nh hc)) B b pr bs sz bl ha nh hc wa nw wc da 0 dc (seg F 0 nh) xw []) := HST1.out.held_same
  go_region_law ((refine step_append_zero _ (by rfl) _ _ (by rfl) ha nh hc a 0 c (by simp [Act.eval]) (by simp [Act.eval]) (by rfl) hcap ?_))
  clear c2 f2
  have HB3 : Hid (Below B w (w1.setCell ⟨b, 2, none⟩ (.slice ha nh hc))) := HB1.out.setCell hba _
  generalize w1.setCell ⟨b, 2, none⟩ (.slice ha nh hc) = w3 at *
  have c1 := HF.out.c1
  have c2 := HF.out.c2
  have c5 := HF.out.c5
  go_wp2_with fail
  go_quiet (fail)
  go_wp2
  go_ret
  exact ⟨0, nh, ha, hc, wa, nw, wc, xw, da, dc, fun _ => undef, by omega, hlt, rfl, by rw [Nat.zero_mul, Nat.zero_mul, Nat.add_zero, packs_zero]; exact HF.out.drewN _, below_drewN HB3.out _, fun i hi => by omega⟩
end Go.Proofs.Qxb6628238a
