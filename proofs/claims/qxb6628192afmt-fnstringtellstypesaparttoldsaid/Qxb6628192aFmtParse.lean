import Derived.Test.Qxb6628192aFmtLabel
import Derived.WalkLawsBesides
import Derived.Lib.IndexBytes
namespace Go.Proofs.Qxb6628192aFmt
open Go.RowKit Go.Kit
open Go.Extern.Stop Go.Stop Go.Extern

theorem decl_no (t : Nat) (w : World) (h1 : t ≠ 146) (h2 : t ≠ 147) (h3 : t ≠ 148) (h4 : t ≠ 157) :
    Calls Tryf.prog 9 #[.int .u16 (t : Int)] w fun e w' => e = .returned (.bool false) ∧ w = w' := by
  have e1 : ((t : Int) == 146) = false := beq_eq_false_iff_ne.2 (by omega)
  have e2 : ((t : Int) == 147) = false := beq_eq_false_iff_ne.2 (by omega)
  have e3 : ((t : Int) == 148) = false := beq_eq_false_iff_ne.2 (by omega)
  have e4 : ((t : Int) == 157) = false := beq_eq_false_iff_ne.2 (by omega)
  go_enter Tryf.func9, Tryf.ntmps9
  go_wp2
  go_ret
  exact ⟨rfl, rfl⟩

theorem parse_put (w : World) : Calls Tryf.prog 6 #[.string ⟨#[112, 117, 116]⟩] w fun e w' => e = .returned (.tuple #[.int .u16 146, .bool true]) ∧ w = w' := by
  go_enter Tryf.func6, Tryf.ntmps6
  go_wp2
  go_ret2
  exact ⟨rfl, rfl⟩
theorem parse_get (w : World) : Calls Tryf.prog 6 #[.string ⟨#[103, 101, 116]⟩] w fun e w' => e = .returned (.tuple #[.int .u16 147, .bool true]) ∧ w = w' := by
  go_enter Tryf.func6, Tryf.ntmps6
  go_wp2
  go_ret2
  exact ⟨rfl, rfl⟩
theorem parse_result (w : World) : Calls Tryf.prog 6 #[.string ⟨#[114, 101, 115, 117, 108, 116]⟩] w fun e w' => e = .returned (.tuple #[.int .u16 148, .bool true]) ∧ w = w' := by
  go_enter Tryf.func6, Tryf.ntmps6
  go_wp2
  go_ret2
  exact ⟨rfl, rfl⟩
theorem parse_hello (w : World) : Calls Tryf.prog 6 #[.string ⟨#[104, 101, 108, 108, 111]⟩] w fun e w' => e = .returned (.tuple #[.int .u16 157, .bool true]) ∧ w = w' := by
  go_enter Tryf.func6, Tryf.ntmps6
  go_wp2
  go_ret2
  exact ⟨rfl, rfl⟩

theorem pow_le4 {k V : Nat} (h : V < 10 ^ k) (hk : k ≤ 4) : V ≤ 9999 := by
  have := Nat.pow_le_pow_right (n := 10) (by omega) hk
  omega

set_option maxHeartbeats 400000 in
theorem parse_walk (s d : ByteArray) (t : Nat) (w : World) (ht : t ≤ 65535) (h1 : t ≠ 146) (h2 : t ≠ 147) (h3 : t ≠ 148) (h4 : t ≠ 157) (hs1 : 7 ≤ s.size) (hs2 : s.size ≤ 11)
    (e1 : (s.toList == [112, 117, 116]) = false) (e2 : (s.toList == [103, 101, 116]) = false) (e3 : (s.toList == [114, 101, 115, 117, 108, 116]) = false) (e4 : (s.toList == [104, 101, 108, 108, 111]) = false)
    (hx0 : (!(s.extract 0 6).toList == [77, 84, 89, 80, 69, 32]) = false) (hx6 : s.extract 6 s.size = d) (hp : 0 < d.size) (hd5 : d.size ≤ 5)
    (hd : d.size ≤ 1 ∨ (1 < d.size ∧ (((d[0]'hp).toNat : Int) == 48) = false)) (hdig : ∀ c ∈ d.data.toList, 48 ≤ c.toNat ∧ c.toNat ≤ 57) (hval : valOf d.data.toList = t) :
    Calls Tryf.prog 6 #[.string s] w fun e w' => e = .returned (.tuple #[.int .u16 (t : Int), .bool true]) ∧ w = w' := by
  have b1 : decide ((s.size : Int) ≤ 6) = false := decide_eq_false (by omega)
  have b2 : decide ((11 : Int) < (s.size : Int)) = false := decide_eq_false (by omega)
  have HV : Hid (valOf d.data.toList = t) := hval
  have HD : Hid (∀ c ∈ d.data.toList, 48 ≤ c.toNat ∧ c.toNat ≤ 57) := hdig
  have HL : Hid (d.data.toList.length = d.size) := Array.length_toList (xs := d.data)
  clear hval hdig
  rcases hd with hd | ⟨hd1, hd0⟩
  · have b3 : decide ((1 : Int) < (d.size : Int)) = false := decide_eq_false (by omega)
    go_enter Tryf.func6, Tryf.ntmps6
    go_wp2_with fail
    go_loop [5, 6] (fun v i => ∃ k V : Nat, Hid (V = valOf (d.data.toList.take k)) ∧ k ≤ d.size ∧ v = .int .u32 (V : Int) ∧ i = .int .i64 (k : Int)) (fun _ i => d.size - (intOf i).toNat)
    case atStart => exact ⟨0, 0, rfl, Nat.zero_le _, rfl, rfl⟩
    case round =>
      obtain ⟨k, V, HK, hk, rfl, rfl⟩ := hrel
      by_cases hlt : k < d.size
      · have hV := pow_le4 (HK.out ▸ val_take_lt _ HD.out k (by rw [HL.out]; exact hk)) (by omega)
        have hkl : k < d.data.toList.length := by rw [HL.out]; exact hlt
        have hc : 48 ≤ (d[k]'hlt).toNat ∧ (d[k]'hlt).toNat ≤ 57 := HD.out _ (List.getElem_mem (h := hkl))
        have hs : valOf (d.data.toList.take (k + 1)) = V * 10 + ((d[k]'hlt).toNat - 48) := by rw [HK.out]; exact val_take_succ _ k hkl
        have HS : Hid (valOf (d.data.toList.take (k + 1)) = V * 10 + ((d[k]'hlt).toNat - 48)) := hs
        obtain ⟨hc1, hc2⟩ := hc
        clear hs
        go_wp2
        go_round
        case rel => exact ⟨k + 1, V * 10 + ((d[k]'hlt).toNat - 48), HS.out.symm, by omega, by go_num, by go_num⟩
        case measure => simp [intOf]; omega
      · have hV : V = t := by rw [HK.out, List.take_of_length_le (by rw [HL.out]; omega)]; exact HV.out
        subst hV
        go_wp2_with (go_at_call 9; refine (decl_no V _ h1 h2 h3 h4).mono ?_; rintro e w' ⟨rfl, rfl⟩)
        go_ret2
        exact ⟨rfl, rfl⟩
  · have b3 : decide ((1 : Int) < (d.size : Int)) = true := decide_eq_true (by omega)
    go_enter Tryf.func6, Tryf.ntmps6
    go_wp2_with fail
    go_loop [5, 6] (fun v i => ∃ k V : Nat, Hid (V = valOf (d.data.toList.take k)) ∧ k ≤ d.size ∧ v = .int .u32 (V : Int) ∧ i = .int .i64 (k : Int)) (fun _ i => d.size - (intOf i).toNat)
    case atStart => exact ⟨0, 0, rfl, Nat.zero_le _, rfl, rfl⟩
    case round =>
      obtain ⟨k, V, HK, hk, rfl, rfl⟩ := hrel
      by_cases hlt : k < d.size
      · have hV := pow_le4 (HK.out ▸ val_take_lt _ HD.out k (by rw [HL.out]; exact hk)) (by omega)
        have hkl : k < d.data.toList.length := by rw [HL.out]; exact hlt
        have hc : 48 ≤ (d[k]'hlt).toNat ∧ (d[k]'hlt).toNat ≤ 57 := HD.out _ (List.getElem_mem (h := hkl))
        have hs : valOf (d.data.toList.take (k + 1)) = V * 10 + ((d[k]'hlt).toNat - 48) := by rw [HK.out]; exact val_take_succ _ k hkl
        have HS : Hid (valOf (d.data.toList.take (k + 1)) = V * 10 + ((d[k]'hlt).toNat - 48)) := hs
        obtain ⟨hc1, hc2⟩ := hc
        clear hs
        go_wp2
        go_round
        case rel => exact ⟨k + 1, V * 10 + ((d[k]'hlt).toNat - 48), HS.out.symm, by omega, by go_num, by go_num⟩
        case measure => simp [intOf]; omega
      · have hV : V = t := by rw [HK.out, List.take_of_length_le (by rw [HL.out]; omega)]; exact HV.out
        subst hV
        go_wp2_with (go_at_call 9; refine (decl_no V _ h1 h2 h3 h4).mono ?_; rintro e w' ⟨rfl, rfl⟩)
        go_ret2
        exact ⟨rfl, rfl⟩

/-! ### The label's parts -/
theorem mk_size (l : List UInt8) : (ByteArray.mk l.toArray).size = l.length := by simp [ByteArray.size]
theorem len_mtype : mtype.length = 6 := rfl
theorem ext_list {a b : ByteArray} (h : a.data.toList = b.data.toList) : a = b := by
  apply ByteArray.ext
  apply Array.ext'
  exact h
theorem head_mk (l : List UInt8) : (ByteArray.mk (mtype ++ l).toArray).extract 0 6 = ⟨mtype.toArray⟩ := by
  apply ext_list
  rw [Lib.extract_data]
  simp [mtype]
theorem tail_mk (l : List UInt8) : (ByteArray.mk (mtype ++ l).toArray).extract 6 (ByteArray.mk (mtype ++ l).toArray).size = ⟨l.toArray⟩ := by
  apply ext_list
  rw [Lib.extract_to_end]
  simp [mtype]
theorem ne_short (l c : List UInt8) (hc : c.length ≤ 6) (hl : 0 < l.length) : ((ByteArray.mk (mtype ++ l).toArray).toList == c) = false := by
  rw [ByteArray.toList_mk, beq_eq_false_iff_ne]
  intro h
  have := congrArg List.length h
  rw [List.length_append, len_mtype] at this
  omega
theorem zero_not (u : Nat) (hp : 0 < (ByteArray.mk (Lib.decDigits u).toArray).size) (h : 1 < (Lib.decDigits u).length) : ((((ByteArray.mk (Lib.decDigits u).toArray)[0]'hp).toNat : Int) == 48) = false := by
  have hu : 1 ≤ u := by
    by_cases h1 : u < 10
    · rw [dec_small h1] at h; simp at h
    · omega
  have hl : 0 < (Lib.decDigits u).length := by omega
  have := head_dec u hu _ (List.getElem?_eq_getElem hl)
  rw [beq_eq_false_iff_ne]
  show (((Lib.decDigits u)[0]'hl).toNat : Int) ≠ 48
  omega

/-- zzParseLabel reads each label back to its type. -/
theorem parse_any (t : Nat) (w : World) (ht : t ≤ 65535) :
    Calls Tryf.prog 6 #[.string (label t)] w fun e w' => e = .returned (.tuple #[.int .u16 (t : Int), .bool true]) ∧ w = w' := by
  unfold label labelL
  by_cases h1 : t = 146
  · subst h1; exact parse_put w
  · by_cases h2 : t = 147
    · subst h2; exact parse_get w
    · by_cases h3 : t = 148
      · subst h3; exact parse_result w
      · by_cases h4 : t = 157
        · subst h4; exact parse_hello w
        · rw [if_neg h1, if_neg h2, if_neg h3, if_neg h4]
          have hl : 0 < (Lib.decDigits t).length := List.length_pos_iff.2 (dec_ne _)
          have hl5 := len_dec ht
          have hp : 0 < (ByteArray.mk (Lib.decDigits t).toArray).size := by rw [mk_size]; exact hl
          refine parse_walk _ ⟨(Lib.decDigits t).toArray⟩ t w ht h1 h2 h3 h4 (by rw [mk_size, List.length_append, len_mtype]; omega) (by rw [mk_size, List.length_append, len_mtype]; omega)
            (ne_short _ _ (by decide) hl) (ne_short _ _ (by decide) hl) (ne_short _ _ (by decide) hl) (ne_short _ _ (by decide) hl) (by rw [head_mk, ByteArray.toList_mk]; rfl) (tail_mk _) hp (by rw [mk_size]; exact hl5) ?_ (by simpa using digits_dec t) (by simpa using val_dec t)
          by_cases h5 : 1 < (Lib.decDigits t).length
          · exact .inr ⟨by rw [mk_size]; exact h5, zero_not t hp h5⟩
          · exact .inl (by rw [mk_size]; omega)

set_option maxHeartbeats 400000 in
theorem back_walk (F : Interp) (t : Nat) (w : World) (hF : F.told.answers w.tape) (ht : t ≤ 65535) :
    Calls Tryf.prog 3 #[.int .u16 (t : Int)] w fun e w' => e = .returned (.bool true) ∧ Below w.heap.size w w' := by
  go_enter Tryf.func3, Tryf.ntmps3
  go_wp2_with fail
  refine (string_any F t _ hF ht).mono ?_
  rintro e w1 ⟨rfl, hb⟩
  have HB : Hid (Below w.heap.size w w1) := hb
  clear hb
  go_wp2_with fail
  refine (parse_any t _ ht).mono ?_
  rintro e w2 ⟨rfl, rfl⟩
  go_wp2
  go_ret
  exact ⟨rfl, HB.out⟩
end Go.Proofs.Qxb6628192aFmt
