import Derived.Test.Qxb6628238aZero
namespace Go.Proofs.Qxb6628238a
open Go.RowKit

/-- The cells of q packets: payload PV i, first block bl + i * per. -/
def packs (PV : Nat → Value) (bl per q : Nat) : List Value := (List.range q).flatMap fun i => [PV i, .int .i64 ((bl + i * per : Nat) : Int)]
theorem packs_zero (PV : Nat → Value) (bl per : Nat) : packs PV bl per 0 = [] := by simp [packs]
theorem packs_succ (PV : Nat → Value) (bl per q : Nat) : packs PV bl per (q + 1) = packs PV bl per q ++ [PV q, .int .i64 ((bl + q * per : Nat) : Int)] := by simp [packs, List.range_succ]

/-- What is left of the data: r bytes of the stream F from p on, in block g (whose cells are A), from place o on. -/
def Left (pr : Nat → Obj → Prop) (g o : Nat) (A : Array Value) (F : Nat → Int) (p r : Nat) (a : Option Addr) (c : Nat) : Prop :=
  r ≤ c ∧ (0 < r → pr g (.cells A 5 (0, 0)) ∧ a = some ⟨g, o, none⟩ ∧ ∀ j, j < r → A[o + j]? = some (.int .u8 (F (p + j))))

theorem Left.drop {pr : Nat → Obj → Prop} {g o p r c k : Nat} {A : Array Value} {F : Nat → Int} {a : Option Addr} (h : Left pr g o A F p r a c) (hk : k ≤ r) (a' : Option Addr) (ha : k < r → a' = some ⟨g, o + k, none⟩) :
    Left pr g (o + k) A F (p + k) (r - k) a' (c - k) := by
  refine ⟨by have := h.1; omega, fun hr => ?_⟩
  obtain ⟨h1, h2, h3⟩ := h.2 (by omega)
  refine ⟨h1, ha (by omega), fun j hj => ?_⟩
  rw [show o + k + j = o + (k + j) from by omega, h3 (k + j) (by omega), show p + k + j = p + (k + j) from by omega]

/-- A payload: sz bytes of the stream F from s on. -/
def PayOk (w : World) (sz : Nat) (F : Nat → Int) (s : Nat) (v : Value) : Prop := ∃ pg po pc, v = .slice (some ⟨pg, po, none⟩) sz pc ∧ sz ≤ pc ∧ ∀ j, j < sz → w.cell? ⟨pg, po + j, none⟩ = some (.int .u8 (F (s + j)))

/-- How a payload lies: it is the row 'whole', or a cut of the data. -/
def Lies (pr : Nat → Obj → Prop) (wv : Value) (xw : List Value) (sz : Nat) (F : Nat → Int) (s : Nat) (v : Value) : Prop :=
  (v = wv ∧ (∃ wg wc, wv = .slice (some ⟨wg, 0, none⟩) sz wc) ∧ xw = seg F s sz) ∨
  ∃ g o A, pr g (.cells A 5 (0, 0)) ∧ v = .slice (some ⟨g, o, none⟩) sz sz ∧ ∀ j, j < sz → A[o + j]? = some (.int .u8 (F (s + j)))

theorem Lies.pay {w : World} {B b : Nat} {pr : Nat → Obj → Prop} {bs sz bl : Nat} {ha wa da : Option Addr} {nh hc nw wc nd dc : Nat} {xh xw xd : List Value} (h : St w B b pr bs sz bl ha nh hc wa nw wc da nd dc xh xw xd) {F : Nat → Int} {s : Nat} {v : Value}
    (hl : Lies pr (.slice wa nw wc) xw sz F s v) : PayOk w sz F s v := by
  rcases hl with ⟨rfl, ⟨wg, wc', hv⟩, rfl⟩ | ⟨g, o, A, hpr, rfl, hA⟩
  · have hwh := h.whole
    rw [hv] at hwh ⊢
    simp only [Value.slice.injEq] at hv
    obtain ⟨_, rfl, rfl⟩ := hv
    refine ⟨wg, 0, wc, rfl, ?_, fun j hj => ?_⟩
    · rcases hwh.2 with ⟨h1, _⟩ | ⟨g, cap, cur, h1, _, _, h2, _⟩
      · simp at h1
      · simp only [Value.slice.injEq] at h1
        obtain ⟨_, _, rfl⟩ := h1
        exact h2
    · rw [Nat.zero_add, hwh.cellAt j (by omega), seg_get _ _ _ _ hj]
  · refine ⟨g, o, sz, rfl, Nat.le_refl _, fun j hj => ?_⟩
    rw [cell_of_row w g (o + j) _ _ _ (h.prot g _ hpr).1, hA j hj]

/-- What the loop of 'Add' keeps: q packets are made, r bytes of data are left, from place o of their block on. -/
structure LI (w wr : World) (B b : Nat) (pr : Nat → Obj → Prop) (bs sz bl per : Nat) (ha : Option Addr) (hc : Nat) (wa : Option Addr) (nw wc : Nat) (xw : List Value) (F : Nat → Int) (g tot : Nat) (A : Array Value)
    (q r o : Nat) (a : Option Addr) (c : Nat) (da : Option Addr) (dc : Nat) : Prop where
  be : Below B w wr
  left : Left pr g o A F (q * sz) r a c
  sum : q * sz + r = tot
  st : ∃ PV, St wr B b pr bs sz (bl + q * per) ha 0 hc wa nw wc da q dc [] xw (packs PV bl per q) ∧ ∀ i, i < q → Lies pr (.slice wa nw wc) xw sz F (i * sz) (PV i)

theorem packs_congr {PV PV' : Nat → Value} {bl per q : Nat} (h : ∀ i, i < q → PV i = PV' i) : packs PV bl per q = packs PV' bl per q := by
  unfold packs
  rw [List.flatMap_def, List.flatMap_def, List.map_congr_left (fun i hi => by rw [h i (List.mem_range.1 hi)])]

/-- A round: one packet more. -/
theorem LI.next {w wr w2 : World} {B b : Nat} {pr : Nat → Obj → Prop} {bs sz bl per : Nat} {ha : Option Addr} {hc : Nat} {wa : Option Addr} {nw wc : Nat} {xw xd : List Value} {F : Nat → Int} {g tot : Nat} {A : Array Value}
    {q r o : Nat} {c : Nat} {da : Option Addr} {dc g2 c2 : Nat} (h : LI w wr B b pr bs sz bl per ha hc wa nw wc xw F g tot A q r o (some ⟨g, o, none⟩) c da dc) (hsz : 1 ≤ sz) (hr : sz ≤ r) (hper : sz / bs = per)
    (PV : Nat → Value) (hPV : ∀ i, i < q → Lies pr (.slice wa nw wc) xw sz F (i * sz) (PV i)) (hx : xd = packs PV bl per q)
    (hst : St w2 B b pr bs sz (bl + q * per + sz / bs) ha 0 hc wa nw wc (some ⟨g2, 0, none⟩) (q + 1) c2 [] xw (xd ++ [.slice (some ⟨g, o, none⟩) sz sz, .int .i64 ((bl + q * per : Nat) : Int)])) (hb : Below B wr w2)
    (a' : Option Addr) (ha' : sz < r → a' = some ⟨g, o + sz, none⟩) :
    LI w w2 B b pr bs sz bl per ha hc wa nw wc xw F g tot A (q + 1) (r - sz) (o + sz) a' (c - sz) (some ⟨g2, 0, none⟩) c2 := by
  subst hper
  have hs : (q + 1) * sz = q * sz + sz := by rw [Nat.add_mul, Nat.one_mul]
  have hp : (q + 1) * (sz / bs) = q * (sz / bs) + sz / bs := by rw [Nat.add_mul, Nat.one_mul]
  have hsum := h.sum
  obtain ⟨h1, _, h3⟩ := h.left.2 (by omega)
  refine ⟨h.be.trans hb, ?_, by rw [hs]; omega, fun i => if i = q then .slice (some ⟨g, o, none⟩) sz sz else PV i, ?_, fun i hi => ?_⟩
  · rw [hs]; exact h.left.drop hr a' ha'
  · rw [hp, packs_succ, if_pos rfl, packs_congr (PV' := PV) (fun i hi => if_neg (by omega)), ← hx, ← Nat.add_assoc]
    exact hst
  · show Lies pr (.slice wa nw wc) xw sz F (i * sz) (if i = q then .slice (some ⟨g, o, none⟩) sz sz else PV i)
    by_cases hi2 : i = q
    · subst hi2
      rw [if_pos rfl]
      exact .inr ⟨g, o, A, h1, rfl, fun j hj => h3 j (by omega)⟩
    · rw [if_neg hi2]
      exact hPV i (by omega)

/-- What 'Add' leaves: e comes back in w'. -/
def AddPost (w w' : World) (e : Ending) (B b : Nat) (pr : Nat → Obj → Prop) (bs sz bl per : Nat) (F : Nat → Int) (tot : Nat) : Prop :=
  ∃ (q r : Nat) (ha : Option Addr) (hc : Nat) (wa : Option Addr) (nw wc : Nat) (xw : List Value) (da : Option Addr) (dc : Nat) (PV : Nat → Value), q * sz + r = tot ∧ r < sz ∧ e = .returned (.slice da q dc) ∧
    St w' B b pr bs sz (bl + q * per) ha r hc wa nw wc da q dc (seg F (q * sz) r) xw (packs PV bl per q) ∧ Below B w w' ∧ ∀ i, i < q → PayOk w' sz F (i * sz) (PV i)

theorem LI.fin {w wr w' : World} {B b : Nat} {pr : Nat → Obj → Prop} {bs sz bl bl' per : Nat} {ha ha' : Option Addr} {hc hc' : Nat} {wa : Option Addr} {nw wc : Nat} {xw xd X : List Value} {F : Nat → Int} {g tot : Nat} {A : Array Value}
    {q r o : Nat} {a : Option Addr} {c : Nat} {da : Option Addr} {dc : Nat} (h : LI w wr B b pr bs sz bl per ha hc wa nw wc xw F g tot A q r o a c da dc) (hr : r < sz) (PV : Nat → Value) (hPV : ∀ i, i < q → Lies pr (.slice wa nw wc) xw sz F (i * sz) (PV i))
    (hx : xd = packs PV bl per q) (hX : X = seg F (q * sz) r) (hbl : bl' = bl + q * per) (hst : St w' B b pr bs sz bl' ha' r hc' wa nw wc da q dc X xw xd) (hb : Below B wr w') : AddPost w w' (.returned (.slice da q dc)) B b pr bs sz bl per F tot := by
  subst hx; subst hX; subst hbl
  exact ⟨q, r, ha', hc', wa, nw, wc, xw, da, dc, PV, h.sum, hr, rfl, hst, h.be.trans hb, fun i hi => (hPV i hi).pay hst⟩
end Go.Proofs.Qxb6628238a
