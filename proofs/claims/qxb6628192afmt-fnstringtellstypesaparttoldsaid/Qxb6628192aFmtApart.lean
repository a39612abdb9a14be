import Derived.Test.Qxb6628192aFmtParse
namespace Go.Proofs.Qxb6628192aFmt
open Go.RowKit Go.Kit
open Go.Extern.Stop Go.Stop Go.Extern

/-! ### A label tells its type, plainly -/
def decL (l : List UInt8) : Nat :=
  if l = [112, 117, 116] then 146 else if l = [103, 101, 116] then 147 else if l = [114, 101, 115, 117, 108, 116] then 148 else if l = [104, 101, 108, 108, 111] then 157 else valOf (l.drop 6)

theorem long_ne (u : Nat) (c : List UInt8) (hc : c.length ≤ 6) : ¬ mtype ++ Lib.decDigits u = c := by
  intro h
  have h1 := congrArg List.length h
  have h2 : 0 < (Lib.decDigits u).length := List.length_pos_iff.2 (dec_ne _)
  rw [List.length_append, len_mtype] at h1
  omega

theorem decL_label (t : Nat) : decL (labelL t) = t := by
  unfold labelL
  by_cases h1 : t = 146
  · subst h1; rfl
  · by_cases h2 : t = 147
    · subst h2; rfl
    · by_cases h3 : t = 148
      · subst h3; rfl
      · by_cases h4 : t = 157
        · subst h4; rfl
        · rw [if_neg h1, if_neg h2, if_neg h3, if_neg h4]
          unfold decL
          rw [if_neg (long_ne t _ (by decide)), if_neg (long_ne t _ (by decide)), if_neg (long_ne t _ (by decide)), if_neg (long_ne t _ (by decide))]
          have : (mtype ++ Lib.decDigits t).drop 6 = Lib.decDigits t := by simp [mtype]
          rw [this, val_dec]

theorem label_inj {a b : Nat} (h : labelL a = labelL b) : a = b := by
  rw [← decL_label a, ← decL_label b, h]

/-! ### The walks -/
set_option maxHeartbeats 400000 in
theorem lower_any (s : ByteArray) (w : World) (hp : 0 < s.size) (hm : s.size ≤ 100) (h : ∀ k (hk : k < s.size), 97 ≤ (s[k]'hk).toNat ∧ (s[k]'hk).toNat ≤ 122) :
    Calls Tryf.prog 10 #[.string s] w fun e w' => e = .returned (.bool true) ∧ w = w' := by
  have b0 : ((s.size : Int) == 0) = false := beq_eq_false_iff_ne.2 (by omega)
  have H : Hid (∀ k (hk : k < s.size), 97 ≤ (s[k]'hk).toNat ∧ (s[k]'hk).toNat ≤ 122) := h
  clear h
  go_enter Tryf.func10, Tryf.ntmps10
  go_wp2_with fail
  go_loop [3] (fun i => ∃ k : Nat, k ≤ s.size ∧ i = .int .i64 (k : Int)) (fun i => s.size - (intOf i).toNat)
  case atStart => exact ⟨0, Nat.zero_le _, rfl⟩
  case round =>
    obtain ⟨k, hk, rfl⟩ := hrel
    by_cases hlt : k < s.size
    · obtain ⟨hc1, hc2⟩ := H.out k hlt
      have d1 : decide (((s[k]'hlt).toNat : Int) < 97) = false := decide_eq_false (by omega)
      have d2 : decide ((122 : Int) < ((s[k]'hlt).toNat : Int)) = false := decide_eq_false (by omega)
      go_wp2
      go_round
      case rel => exact ⟨k + 1, by omega, by go_num⟩
      case measure => simp [intOf]; omega
    · go_wp2
      go_ret
      exact ⟨rfl, rfl⟩

theorem decl_146 (w : World) : Calls Tryf.prog 9 #[.int .u16 146] w fun e w' => e = .returned (.bool true) ∧ w = w' := by
  go_enter Tryf.func9, Tryf.ntmps9
  go_wp2
  go_ret
  exact ⟨rfl, rfl⟩
theorem decl_147 (w : World) : Calls Tryf.prog 9 #[.int .u16 147] w fun e w' => e = .returned (.bool true) ∧ w = w' := by
  go_enter Tryf.func9, Tryf.ntmps9
  go_wp2
  go_ret
  exact ⟨rfl, rfl⟩
theorem decl_148 (w : World) : Calls Tryf.prog 9 #[.int .u16 148] w fun e w' => e = .returned (.bool true) ∧ w = w' := by
  go_enter Tryf.func9, Tryf.ntmps9
  go_wp2
  go_ret
  exact ⟨rfl, rfl⟩
theorem decl_157 (w : World) : Calls Tryf.prog 9 #[.int .u16 157] w fun e w' => e = .returned (.bool true) ∧ w = w' := by
  go_enter Tryf.func9, Tryf.ntmps9
  go_wp2
  go_ret
  exact ⟨rfl, rfl⟩

/-- A declared type's label is a word of lower-case letters. -/
theorem shape_word (t : Int) (l : List UInt8) (w : World) (hdecl : ∀ w, Calls Tryf.prog 9 #[.int .u16 t] w fun e w' => e = .returned (.bool true) ∧ w = w') (hp : 0 < l.length) (hm : l.length ≤ 100) (hl : ∀ c ∈ l, 97 ≤ c.toNat ∧ c.toNat ≤ 122) :
    Calls Tryf.prog 7 #[.int .u16 t, .string ⟨l.toArray⟩] w fun e w' => e = .returned (.bool true) ∧ w = w' := by
  obtain ⟨s, hs⟩ : ∃ s : ByteArray, s = ⟨l.toArray⟩ := ⟨_, rfl⟩
  have hz : s.size = l.length := by rw [hs, mk_size]
  have hw := fun w => lower_any s w (by omega) (by omega) (fun k hk => by
    have hkl : k < l.length := by omega
    subst hs
    exact hl (l[k]'hkl) (List.getElem_mem _))
  rw [← hs]
  have HD : Hid (∀ w, Calls Tryf.prog 9 #[.int .u16 t] w fun e w' => e = .returned (.bool true) ∧ w = w') := hdecl
  have HW : Hid (∀ w, Calls Tryf.prog 10 #[.string s] w fun e w' => e = .returned (.bool true) ∧ w = w') := hw
  clear hdecl hw hs hz hl hp hm
  go_enter Tryf.func7, Tryf.ntmps7
  go_wp2_with fail
  refine (HD.out _).mono ?_
  rintro e w1 ⟨rfl, rfl⟩
  go_wp2_with fail
  refine (HW.out _).mono ?_
  rintro e w1 ⟨rfl, rfl⟩
  go_wp2
  go_ret
  exact ⟨rfl, rfl⟩

set_option maxHeartbeats 400000 in
theorem shape_other (t : Nat) (s : ByteArray) (w : World) (h1 : t ≠ 146) (h2 : t ≠ 147) (h3 : t ≠ 148) (h4 : t ≠ 157) (hs1 : 7 ≤ s.size) (hs2 : s.size ≤ 100)
    (hx0 : ((s.extract 0 6).toList == [77, 84, 89, 80, 69, 32]) = true) :
    Calls Tryf.prog 7 #[.int .u16 (t : Int), .string s] w fun e w' => e = .returned (.bool true) ∧ w = w' := by
  have b2 : decide ((6 : Int) < (s.size : Int)) = true := decide_eq_true (by omega)
  go_enter Tryf.func7, Tryf.ntmps7
  go_wp2_with (go_at_call 9; refine (decl_no t _ h1 h2 h3 h4).mono ?_; rintro e w' ⟨rfl, rfl⟩)
  go_ret
  exact ⟨rfl, rfl⟩

theorem shape_any (t : Nat) (w : World) (ht : t ≤ 65535) :
    Calls Tryf.prog 7 #[.int .u16 (t : Int), .string (label t)] w fun e w' => e = .returned (.bool true) ∧ w = w' := by
  unfold label labelL
  by_cases h1 : t = 146
  · subst h1; exact shape_word 146 _ w decl_146 (by decide) (by decide) (by decide)
  · by_cases h2 : t = 147
    · subst h2; exact shape_word 147 _ w decl_147 (by decide) (by decide) (by decide)
    · by_cases h3 : t = 148
      · subst h3; exact shape_word 148 _ w decl_148 (by decide) (by decide) (by decide)
      · by_cases h4 : t = 157
        · subst h4; exact shape_word 157 _ w decl_157 (by decide) (by decide) (by decide)
        · rw [if_neg h1, if_neg h2, if_neg h3, if_neg h4]
          have hl : 0 < (Lib.decDigits t).length := List.length_pos_iff.2 (dec_ne _)
          have hl5 := len_dec ht
          exact shape_other t _ w h1 h2 h3 h4 (by rw [mk_size, List.length_append, len_mtype]; omega) (by rw [mk_size, List.length_append, len_mtype]; omega) (by rw [head_mk, ByteArray.toList_mk]; rfl)

set_option maxHeartbeats 400000 in
theorem apart_walk (F : Interp) (a b : Nat) (w : World) (hF : F.told.answers w.tape) (ha : a ≤ 65535) (hb : b ≤ 65535) :
    Calls Tryf.prog 4 #[.int .u16 (a : Int), .int .u16 (b : Int)] w fun e w' => e = .returned (.bool true) ∧ Below w.heap.size w w' := by
  have hsa := fun w => shape_any a w ha
  have hsb := fun w => shape_any b w hb
  have HA : Hid (∀ w, Calls Tryf.prog 7 #[.int .u16 (a : Int), .string (label a)] w fun e w' => e = .returned (.bool true) ∧ w = w') := hsa
  have HB : Hid (∀ w, Calls Tryf.prog 7 #[.int .u16 (b : Int), .string (label b)] w fun e w' => e = .returned (.bool true) ∧ w = w') := hsb
  clear hsa hsb
  go_enter Tryf.func4, Tryf.ntmps4
  go_wp2_with fail
  refine (string_any F a _ hF ha).mono ?_
  rintro e w1 ⟨rfl, hb1⟩
  have HB1 : Hid (Below w.heap.size w w1) := hb1
  have HF1 : Hid (F.told.answers w1.tape) := by show F.told.answers w1.tape; rw [hb1.tape]; exact hF
  clear hb1
  go_wp2_with fail
  refine (string_any F b _ HF1.out hb).mono ?_
  rintro e w2 ⟨rfl, hb2⟩
  have HB2 : Hid (Below w.heap.size w w2) := HB1.out.trans (hb2.mono HB1.out.size)
  clear hb2
  have hll : ((label a).toList == (label b).toList) = ((a : Int) == (b : Int)) := by
    unfold label
    rw [ByteArray.toList_mk, ByteArray.toList_mk]
    by_cases h : a = b
    · subst h; simp
    · rw [beq_eq_false_iff_ne.2 (fun e => h (label_inj e)), beq_eq_false_iff_ne.2 (by omega)]
  generalize label a = la at *
  generalize label b = lb at *
  have hne : (!((la.toList == lb.toList) == ((a : Int) == (b : Int)))) = false := by rw [hll]; simp
  have HLL : Hid ((la.toList == lb.toList) = ((a : Int) == (b : Int))) := hll
  clear hll
  go_wp2_with fail
  refine (HA.out _).mono ?_
  rintro e w3 ⟨rfl, rfl⟩
  go_wp2_with fail
  refine (HB.out _).mono ?_
  rintro e w3 ⟨rfl, rfl⟩
  go_wp2
  go_ret
  exact ⟨rfl, HB2.out⟩
end Go.Proofs.Qxb6628192aFmt
