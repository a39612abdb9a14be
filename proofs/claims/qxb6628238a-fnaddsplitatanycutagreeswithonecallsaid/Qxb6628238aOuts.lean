import Derived.Test.Qxb6628238aChunkWalk
namespace Go.Proofs.Qxb6628238a
open Go.RowKit

theorem info22 : (Try.prog.info? 22).map (fun i => (i.zero, i.size, i.bytes)) = some (some (.slice none 0 0), 1, 24) := by kernel_rfl
theorem info3 : (Try.prog.info? 3).map (fun i => (i.zero, i.size, i.bytes)) = some (some (.int .i64 0), 1, 8) := by kernel_rfl

set_option maxHeartbeats 400000 in
theorem same_any (a : Option Addr) (n c : Nat) (a2 : Option Addr) (c2 : Nat) (F : Nat → Int) (s : Nat) (w : World) (hn : n ≤ 1073741824) (h : Src w a n F s) (h2 : Src w a2 n F s) :
    Calls Try.prog 14 #[.slice a n c, .slice a2 n c2] w fun e w' => e = .returned (.bool true) ∧ ∃ z, w' = w.drewN z := by
  have H : Hid (Src w a n F s) := h
  have H2 : Hid (Src w a2 n F s) := h2
  clear h h2
  go_enter Try.func14, Try.ntmps14
  go_wp2_with fail
  go_loopw [5] (fun i wr => ∃ k : Nat, k ≤ n ∧ i = .int .i64 (k : Int) ∧ ∃ z, wr = w.drewN z) (fun i _ => n - (intOf i).toNat)
  case atStart => exact ⟨0, Nat.zero_le _, rfl, 0, rfl⟩
  case round =>
    obtain ⟨k, hk, rfl, z, rfl⟩ := hrel
    by_cases hlt : k < n
    · obtain ⟨b1, o1, rfl, e1⟩ := H.out k hlt
      obtain ⟨b2, o2, rfl, e2⟩ := H2.out k hlt
      generalize F (s + k) = x at *
      have i1 : (0 : Int) ≤ (k : Int) := by omega
      have i2 : (k : Int) < (n : Int) := by omega
      go_wp2
      go_quiet (fail)
      go_wp2
      go_roundw
      case rel => exact ⟨k + 1, by omega, by go_num, _, rfl⟩
      case measure => simp [intOf]; omega
    · go_wp2
      go_ret
      exact ⟨rfl, z, rfl⟩

/-- The packets, as 'done_look' reads them. -/
def Pks (w : World) (da : Option Addr) (q sz bl per : Nat) (F : Nat → Int) : Prop :=
  ∀ i, i < q → ∃ dg pg po pc, da = some ⟨dg, 0, none⟩ ∧ w.cell? ⟨dg, i * 2, none⟩ = some (.slice (some ⟨pg, po, none⟩) sz pc) ∧ w.cell? ⟨dg, i * 2 + 1, none⟩ = some (.int .i64 ((bl + i * per : Nat) : Int)) ∧ sz ≤ pc ∧
      ∀ j, j < sz → w.cell? ⟨pg, po + j, none⟩ = some (.int .u8 (F (i * sz + j)))

theorem Pks.later {w w' : World} {da : Option Addr} {q sz bl per : Nat} {F : Nat → Int} (h : Pks w da q sz bl per F) (hb : Below w.heap.size w w') : Pks w' da q sz bl per F := fun i hi => by
  obtain ⟨dg, pg, po, pc, h1, h2, h3, h4, h5⟩ := h i hi
  exact ⟨dg, pg, po, pc, h1, cell_later hb h2, cell_later hb h3, h4, fun j hj => cell_later hb (h5 j hj)⟩

/-- The payloads copied out: a row of slices at block P. -/
def PL (w : World) (P q sz : Nat) (F : Nat → Int) : Prop := ∀ i, i < q → ∃ g, P ≤ g ∧ w.cell? ⟨P, i, none⟩ = some (.slice (some ⟨g, 0, none⟩) sz sz) ∧ ∀ j, j < sz → w.cell? ⟨g, j, none⟩ = some (.int .u8 (F (i * sz + j)))
def FB (w : World) (P q bl per : Nat) : Prop := ∀ i, i < q → w.cell? ⟨P, i, none⟩ = some (.int .i64 ((bl + i * per : Nat) : Int))
theorem PL.later {w w' : World} {P q sz : Nat} {F : Nat → Int} (h : PL w P q sz F) (hb : Below w.heap.size w w') : PL w' P q sz F := fun i hi => by
  obtain ⟨g, h0, h1, h2⟩ := h i hi
  exact ⟨g, h0, cell_later hb h1, fun j hj => cell_later hb (h2 j hj)⟩
theorem FB.later {w w' : World} {P q bl per : Nat} (h : FB w P q bl per) (hb : Below w.heap.size w w') : FB w' P q bl per := fun i hi => cell_later hb (h i hi)

/-- Every block from P on stays. -/
def KeptFrom (P : Nat) (w w' : World) : Prop := ∀ g O, P ≤ g → w.heap[g]? = some O → w'.heap[g]? = some O
theorem KeptFrom.cell {P : Nat} {w w' : World} (h : KeptFrom P w w') {g i : Nat} {v : Value} (hg : P ≤ g) (hc : w.cell? ⟨g, i, none⟩ = some v) : w'.cell? ⟨g, i, none⟩ = some v := by
  have hlt : g < w.heap.size := World.block_lt_of_cell? _ _ hc
  have h1 : w.heap[g]? = some w.heap[g] := Array.getElem?_eq_getElem hlt
  rw [← hc]
  exact World.cell?_of_block (w := w) (by show w'.heap[g]? = w.heap[g]?; rw [h g _ hg h1, h1])
theorem PL.kept {w w' : World} {P q sz : Nat} {F : Nat → Int} (h : PL w P q sz F) (hk : KeptFrom P w w') : PL w' P q sz F := fun i hi => by
  obtain ⟨g, h0, h1, h2⟩ := h i hi
  exact ⟨g, h0, hk.cell (Nat.le_refl _) h1, fun j hj => hk.cell h0 (h2 j hj)⟩
theorem FB.kept {w w' : World} {P P' q bl per : Nat} (h : FB w P q bl per) (hk : KeptFrom P' w w') (hp : P' ≤ P) : FB w' P q bl per := fun i hi => hk.cell hp (h i hi)

/-- What the loop of 'payloadsOut' keeps: k of q are copied out; the two rows lie at P and P + 1. -/
structure OI (w wr : World) (q sz bl per : Nat) (F : Nat → Int) (k : Nat) : Prop where
  be : Below w.heap.size w wr
  pl : ∃ X : Array Value, wr.heap[w.heap.size]? = some (.cells X 22 (0, 0)) ∧ X.size = q ∧ ∀ i, i < k → ∃ g, w.heap.size ≤ g ∧ X[i]? = some (.slice (some ⟨g, 0, none⟩) sz sz) ∧ wr.heap[g]? = some (.cells (seg F (i * sz) sz).toArray 5 (0, 0))
  fb : ∃ Y : Array Value, wr.heap[w.heap.size + 1]? = some (.cells Y 3 (0, 0)) ∧ Y.size = q ∧ ∀ i, i < k → Y[i]? = some (.int .i64 ((bl + i * per : Nat) : Int))

theorem oi_zero (w : World) (q sz bl per : Nat) (F : Nat → Int) : OI w ((w.alloc (.cells (madeCells #[.slice none 0 0] q) 22)).alloc (.cells (madeCells #[.int .i64 0] q) 3)) q sz bl per F 0 := by
  refine ⟨((Below.refl _ _).alloc (Nat.le_refl _) _).alloc (by simp) _, ⟨_, heap_alloc2_old _ _ _, size_madeCells _ _, fun i hi => by omega⟩, ⟨_, heap_alloc2_new _ _ _, size_madeCells _ _, fun i hi => by omega⟩⟩

theorem OI.c1 {w wr : World} {q sz bl per : Nat} {F : Nat → Int} {k : Nat} (h : OI w wr q sz bl per F k) (hk : k < q) : ∃ v, wr.cell? ⟨w.heap.size, k, none⟩ = some v := by
  obtain ⟨X, h1, h2, _⟩ := h.pl
  exact ⟨X[k], by rw [cell_of_row wr _ k _ _ _ h1]; simp⟩
theorem OI.c2 {w wr : World} {q sz bl per : Nat} {F : Nat → Int} {k : Nat} (h : OI w wr q sz bl per F k) (hk : k < q) : ∃ v, wr.cell? ⟨w.heap.size + 1, k, none⟩ = some v := by
  obtain ⟨X, h1, h2, _⟩ := h.fb
  exact ⟨X[k], by rw [cell_of_row wr _ k _ _ _ h1]; simp⟩
theorem OI.f1 {w wr : World} {q sz bl per : Nat} {F : Nat → Int} {k : Nat} (h : OI w wr q sz bl per F k) (i : Nat) : wr.frozen? ⟨w.heap.size, i, none⟩ = false := by
  obtain ⟨X, h1, _⟩ := h.pl
  exact frozen_of_row wr _ i _ _ h1
theorem OI.f2 {w wr : World} {q sz bl per : Nat} {F : Nat → Int} {k : Nat} (h : OI w wr q sz bl per F k) (i : Nat) : wr.frozen? ⟨w.heap.size + 1, i, none⟩ = false := by
  obtain ⟨X, h1, _⟩ := h.fb
  exact frozen_of_row wr _ i _ _ h1
theorem OI.later {w wr w2 : World} {q sz bl per : Nat} {F : Nat → Int} {k : Nat} (h : OI w wr q sz bl per F k) (hb : Below wr.heap.size wr w2) : OI w w2 q sz bl per F k := by
  obtain ⟨X, h1, h2, h3⟩ := h.pl
  obtain ⟨Y, g1, g2, g3⟩ := h.fb
  refine ⟨h.be.trans (hb.mono h.be.size), ⟨X, by rw [hb.block _ (lt_of_block h1), h1], h2, fun i hi => ?_⟩, ⟨Y, by rw [hb.block _ (lt_of_block g1), g1], g2, g3⟩⟩
  obtain ⟨g, e0, e1, e2⟩ := h3 i hi
  exact ⟨g, e0, e1, by rw [hb.block _ (lt_of_block e2), e2]⟩

/-- A round: one payload and one first block more. -/
theorem OI.step {w w2 : World} {q sz bl per : Nat} {F : Nat → Int} {k g : Nat} (h : OI w w2 q sz bl per F k) (hk : k < q) (hge : w.heap.size ≤ g) (hg : w2.heap[g]? = some (.cells (seg F (k * sz) sz).toArray 5 (0, 0))) :
    OI w ((w2.setCell ⟨w.heap.size, k, none⟩ (.slice (some ⟨g, 0, none⟩) sz sz)).setCell ⟨w.heap.size + 1, k, none⟩ (.int .i64 ((bl + k * per : Nat) : Int))) q sz bl per F (k + 1) := by
  obtain ⟨X, h1, h2, h3⟩ := h.pl
  obtain ⟨Y, g1, g2, g3⟩ := h.fb
  have n1 : ∀ (k' : Nat) (A : Array Value), w2.heap[k']? = some (.cells A 5 (0, 0)) → k' ≠ w.heap.size ∧ k' ≠ w.heap.size + 1 := fun k' A hk' =>
    ⟨fun e => by subst e; rw [h1] at hk'; simp at hk', fun e => by subst e; rw [g1] at hk'; simp at hk'⟩
  have keep : ∀ (k' : Nat) (A : Array Value), w2.heap[k']? = some (.cells A 5 (0, 0)) → ((w2.setCell ⟨w.heap.size, k, none⟩ (.slice (some ⟨g, 0, none⟩) sz sz)).setCell ⟨w.heap.size + 1, k, none⟩ (.int .i64 ((bl + k * per : Nat) : Int))).heap[k']? = some (.cells A 5 (0, 0)) := fun k' A hk' => by
    rw [heap_setCell_other _ _ _ _ (n1 k' A hk').2, heap_setCell_other _ _ _ _ (n1 k' A hk').1, hk']
  refine ⟨(h.be.setCell (Nat.le_refl _) _).setCell (by show w.heap.size ≤ w.heap.size + 1; omega) _, ⟨X.setIfInBounds k (.slice (some ⟨g, 0, none⟩) sz sz), ?_, by simp [h2], fun i hi => ?_⟩, ⟨Y.setIfInBounds k (.int .i64 ((bl + k * per : Nat) : Int)), ?_, by simp [g2], fun i hi => ?_⟩⟩
  · rw [heap_setCell_other _ _ _ _ (by show w.heap.size ≠ w.heap.size + 1; omega), heap_setCell_same _ _ _ _ _ _ h1]
  · by_cases hi2 : i = k
    · subst hi2
      exact ⟨g, hge, by rw [Array.getElem?_setIfInBounds_self_of_lt (by omega)], keep g _ hg⟩
    · obtain ⟨g', e0, e1, e2⟩ := h3 i (by omega)
      exact ⟨g', e0, by rw [Array.getElem?_setIfInBounds_ne (Ne.symm hi2), e1], keep g' _ e2⟩
  · have : (w2.setCell ⟨w.heap.size, k, none⟩ (.slice (some ⟨g, 0, none⟩) sz sz)).heap[w.heap.size + 1]? = some (.cells Y 3 (0, 0)) := by
      rw [heap_setCell_other _ _ _ _ (by show w.heap.size + 1 ≠ w.heap.size; omega), g1]
    rw [heap_setCell_same _ _ _ _ _ _ this]
  · by_cases hi2 : i = k
    · subst hi2
      rw [Array.getElem?_setIfInBounds_self_of_lt (by omega)]
    · rw [Array.getElem?_setIfInBounds_ne (Ne.symm hi2), g3 i (by omega)]

theorem OI.fin {w wr : World} {q sz bl per : Nat} {F : Nat → Int} (h : OI w wr q sz bl per F q) : PL wr w.heap.size q sz F ∧ FB wr (w.heap.size + 1) q bl per := by
  obtain ⟨X, h1, h2, h3⟩ := h.pl
  obtain ⟨Y, g1, g2, g3⟩ := h.fb
  refine ⟨fun i hi => ?_, fun i hi => by rw [cell_of_row wr _ i _ _ _ g1, g3 i hi]⟩
  obtain ⟨g, e0, e1, e2⟩ := h3 i hi
  refine ⟨g, e0, by rw [cell_of_row wr _ i _ _ _ h1, e1], fun j hj => ?_⟩
  rw [cell_of_row wr g j _ _ _ e2, List.getElem?_toArray, seg_get _ _ _ _ hj]

set_option maxRecDepth 100000 in
set_option maxHeartbeats 1000000 in
theorem outs_any (da : Option Addr) (q dc sz bl per : Nat) (F : Nat → Int) (w : World) (hq : q ≤ 2097152) (hsz : 0 < q → sz ≤ 2097152) (h : Pks w da q sz bl per F) :
    Calls Try.prog 13 #[.slice da q dc] w fun e w' => e = .returned (.tuple #[.slice (some ⟨w.heap.size, 0, none⟩) q q, .slice (some ⟨w.heap.size + 1, 0, none⟩) q q]) ∧
      PL w' w.heap.size q sz F ∧ FB w' (w.heap.size + 1) q bl per ∧ Below w.heap.size w w' := by
  have hm1 := run_make_row' (P := Try.prog) 35 22 (.slice none 0 0) 24 Try.underlying35 info22 rfl .i64 .i64 q (by omega) (by omega)
  have hm2 := run_make_row' (P := Try.prog) 36 3 (.int .i64 0) 8 Try.underlying36 info3 rfl .i64 .i64 q (by omega) (by omega)
  have HP : Hid (Pks w da q sz bl per F) := h
  have H0 : Hid (OI w ((w.alloc (.cells (madeCells #[.slice none 0 0] q) 22)).alloc (.cells (madeCells #[.int .i64 0] q) 3)) q sz bl per F 0) := oi_zero w q sz bl per F
  clear h
  go_enter Try.func13, Try.ntmps13
  go_wp2_with fail
  go_loopw [6] (fun i wr => ∃ k : Nat, k ≤ q ∧ i = .int .i64 (k : Int) ∧ Hid (OI w wr q sz bl per F k)) (fun i _ => q - (intOf i).toNat)
  case atStart => exact ⟨0, Nat.zero_le _, rfl, H0.out⟩
  case round =>
    obtain ⟨k, hk, rfl, HK⟩ := hrel
    clear H0
    by_cases hlt : k < q
    · obtain ⟨dg, pg, po, pc, rfl, e0, e1, hpc, hP⟩ := HP.out.later HK.out.be k hlt
      have HC : Hid (Src wr (some ⟨pg, po, none⟩) sz F (k * sz)) := fun j hj => ⟨pg, po, rfl, hP j hj⟩
      obtain ⟨kp, hkp⟩ : ∃ kp, kp = bl + k * per := ⟨_, rfl⟩
      rw [← hkp] at e1
      have HKP : Hid (kp = bl + k * per) := hkp
      have i1 : (0 : Int) ≤ (k : Int) := by omega
      have i2 : (k : Int) < (q : Int) := by omega
      clear hP hkp hm1 hm2
      go_wp2_with fail
      refine (clone_some ⟨pg, po, none⟩ sz pc F (k * sz) _ (hsz (by omega)) HC.out).mono ?_
      rintro e w2 ⟨rfl, hg2, hb2⟩
      have HO : Hid (OI w w2 q sz bl per F k) := HK.out.later hb2
      have HS : Hid _ := HO.out.step (per := per) hlt HK.out.be.size hg2
      have e1' := cell_later hb2 e1
      obtain ⟨v1, c1⟩ := HO.out.c1 hlt
      obtain ⟨v2, c2⟩ := HO.out.c2 hlt
      have f1 := HO.out.f1 k
      have f2 := HO.out.f2 k
      rw [← HKP.out] at HS
      clear hg2 hb2 e0 e1
      go_wp2
      go_roundw
      case rel => exact ⟨k + 1, by omega, by go_num, HS.out⟩
      case measure => simp [intOf]; omega
    · obtain rfl : q = k := by omega
      go_wp2
      go_ret2
      exact ⟨rfl, HK.out.fin.1, HK.out.fin.2, HK.out.be⟩
end Go.Proofs.Qxb6628238a
