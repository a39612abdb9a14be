import Derived.Test.Qxb6628192aFmtFacts
import Derived.WalkKit
import Derived.WalkSpells
import Derived.Stop.Texts
import Derived.Stop.JoinedTold
import Derived.Stop.FmtTextKit
import Derived.Lib.ItoaLen
namespace Go.Proofs.Qxb6628192aFmt
open Go.RowKit Go.Kit
open Go.Extern.Stop Go.Stop Go.Extern

/-! ### The label -/
/-- The bytes that open every other label. -/
def mtype : List UInt8 := [77, 84, 89, 80, 69, 32]
def declared (t : Nat) : Bool := t == 146 || t == 147 || t == 148 || t == 157
def labelL (t : Nat) : List UInt8 :=
  if t = 146 then [112, 117, 116] else if t = 147 then [103, 101, 116] else if t = 148 then [114, 101, 115, 117, 108, 116] else if t = 157 then [104, 101, 108, 108, 111] else mtype ++ Lib.decDigits t
def label (t : Nat) : ByteArray := ⟨(labelL t).toArray⟩

/-- What fmt is asked. -/
def reading (t : Int) : List (List UInt8) := [[77, 84, 89, 80, 69, 32, 37, 100], shape22, digits 8 (t % 18446744073709551616).toNat]

theorem t_parse : (FmtText.parse [77, 84, 89, 80, 69, 32, 37, 100]).map FmtText.glue = some [.lit [77, 84, 89, 80, 69, 32], .verb {} 100] := by rfl

theorem t_text (t : Nat) (hw : (Lit.int .u16 (t : Int)).wf = true) : FmtText.text "fmt.Sprintf" (reading t) = some (mtype ++ Lib.decDigits t) := by
  have hi := FmtText.operand_int_at (sh := shape22) (k := .u16) rfl rfl (t : Int) hw
  rw [reading, FmtText.text_sprintf_glued t_parse (FmtText.operands_cons hi FmtText.operands_nil)]
  simp [FmtText.render, FmtText.printArg_d _ _ hw, Lib.itoa_nonneg, mtype]

theorem text_len (t : Nat) (ht : t ≤ 65535) : (mtype ++ Lib.decDigits t).length ≤ 30 := by
  have := Lib.nDigits_le20 t (by omega)
  simp [mtype, Lib.decDigits_length]; omega

theorem told_eq (F : Interp) (t : Nat) (ht : t ≤ 65535) (hw : (Lit.int .u16 (t : Int)).wf = true) : FmtStop.textOf (F.told "fmt.Sprintf" (reading t) 0) = ⟨(mtype ++ Lib.decDigits t).toArray⟩ := by
  have h := textOf_list F.told "fmt.Sprintf" (reading t)
  rw [told_string F (t_text t hw) (by have := text_len t ht; omega)] at h
  apply ByteArray.ext
  apply Array.ext'
  simpa using h

set_option maxHeartbeats 400000 in
theorem string_walk (F : Interp) (t : Int) (w : World) (hF : F.answers w.tape) (h1 : (t == 146) = false) (h2 : (t == 147) = false) (h3 : (t == 148) = false) (h4 : (t == 157) = false) :
    Calls Tryf.prog 5 #[.int .u16 t] w fun e w' => e = .returned (.string (FmtStop.textOf (F "fmt.Sprintf" (reading t) 0))) ∧ Below w.heap.size w w' := by
  have hF' := answers_open hF
  go_enter Tryf.func5, Tryf.ntmps5
  go_wp2
  go_ret
  exact ⟨rfl, ((Below.refl _ _).alloc (Nat.le_refl _) _).drew⟩

theorem string_put (w : World) : Calls Tryf.prog 5 #[.int .u16 146] w fun e w' => e = .returned (.string ⟨#[112, 117, 116]⟩) ∧ Below w.heap.size w w' := by
  go_enter Tryf.func5, Tryf.ntmps5
  go_wp2
  go_ret
  exact ⟨rfl, Below.refl _ _⟩
theorem string_get (w : World) : Calls Tryf.prog 5 #[.int .u16 147] w fun e w' => e = .returned (.string ⟨#[103, 101, 116]⟩) ∧ Below w.heap.size w w' := by
  go_enter Tryf.func5, Tryf.ntmps5
  go_wp2
  go_ret
  exact ⟨rfl, Below.refl _ _⟩
theorem string_result (w : World) : Calls Tryf.prog 5 #[.int .u16 148] w fun e w' => e = .returned (.string ⟨#[114, 101, 115, 117, 108, 116]⟩) ∧ Below w.heap.size w w' := by
  go_enter Tryf.func5, Tryf.ntmps5
  go_wp2
  go_ret
  exact ⟨rfl, Below.refl _ _⟩
theorem string_hello (w : World) : Calls Tryf.prog 5 #[.int .u16 157] w fun e w' => e = .returned (.string ⟨#[104, 101, 108, 108, 111]⟩) ∧ Below w.heap.size w w' := by
  go_enter Tryf.func5, Tryf.ntmps5
  go_wp2
  go_ret
  exact ⟨rfl, Below.refl _ _⟩

/-- (MessageType).String: the label, fmt's text told. -/
theorem string_any (F : Interp) (t : Nat) (w : World) (hF : F.told.answers w.tape) (ht : t ≤ 65535) :
    Calls Tryf.prog 5 #[.int .u16 (t : Int)] w fun e w' => e = .returned (.string (label t)) ∧ Below w.heap.size w w' := by
  unfold label labelL
  by_cases h1 : t = 146
  · subst h1; exact string_put w
  · by_cases h2 : t = 147
    · subst h2; exact string_get w
    · by_cases h3 : t = 148
      · subst h3; exact string_result w
      · by_cases h4 : t = 157
        · subst h4; exact string_hello w
        · rw [if_neg h1, if_neg h2, if_neg h3, if_neg h4, ← told_eq F t ht (WalkArith.wf_u16 (by omega))]
          exact string_walk F.told (t : Int) w hF (beq_eq_false_iff_ne.2 (by omega)) (beq_eq_false_iff_ne.2 (by omega)) (beq_eq_false_iff_ne.2 (by omega)) (beq_eq_false_iff_ne.2 (by omega))

/-! ### Decimal digits, plainly -/
def valOf (l : List UInt8) : Nat := l.foldl (fun a c => a * 10 + (c.toNat - 48)) 0
theorem valOf_snoc (l : List UInt8) (c : UInt8) : valOf (l ++ [c]) = valOf l * 10 + (c.toNat - 48) := by simp [valOf]

theorem dec_small {u : Nat} (h : u < 10) : Lib.decDigits u = [UInt8.ofNat (48 + u)] := by rw [Lib.decDigits, dif_pos h]
theorem dec_big {u : Nat} (h : ¬ u < 10) : Lib.decDigits u = Lib.decDigits (u / 10) ++ [UInt8.ofNat (48 + u % 10)] := by rw [Lib.decDigits, dif_neg h]

theorem digit_toNat {d : Nat} (h : d < 10) : (UInt8.ofNat (48 + d)).toNat = 48 + d := by simp; omega

theorem val_dec (u : Nat) : valOf (Lib.decDigits u) = u := by
  induction u using Nat.strongRecOn with
  | _ u ih =>
    by_cases h : u < 10
    · rw [dec_small h]; simp [valOf]; omega
    · rw [dec_big h, valOf_snoc, ih (u / 10) (by omega), digit_toNat (by omega)]; omega

theorem digits_dec (u : Nat) : ∀ c ∈ Lib.decDigits u, 48 ≤ c.toNat ∧ c.toNat ≤ 57 := by
  induction u using Nat.strongRecOn with
  | _ u ih =>
    intro c hc
    by_cases h : u < 10
    · rw [dec_small h, List.mem_singleton] at hc
      subst hc; rw [digit_toNat h]; omega
    · rw [dec_big h, List.mem_append, List.mem_singleton] at hc
      rcases hc with hc | hc
      · exact ih (u / 10) (by omega) c hc
      · subst hc; rw [digit_toNat (by omega)]; omega

theorem dec_ne (u : Nat) : Lib.decDigits u ≠ [] := by
  by_cases h : u < 10
  · rw [dec_small h]; simp
  · rw [dec_big h]; simp

theorem head_dec (u : Nat) (h1 : 1 ≤ u) : ∀ c, (Lib.decDigits u)[0]? = some c → c.toNat ≠ 48 := by
  induction u using Nat.strongRecOn with
  | _ u ih =>
    intro c hc
    by_cases h : u < 10
    · rw [dec_small h] at hc
      simp only [List.getElem?_cons_zero, Option.some.injEq] at hc
      subst hc
      rw [digit_toNat h]; omega
    · rw [dec_big h, List.getElem?_append_left (List.length_pos_iff.2 (dec_ne _))] at hc
      exact ih (u / 10) (by omega) (by omega) c hc

theorem len_dec {u : Nat} (h : u ≤ 65535) : (Lib.decDigits u).length ≤ 5 := by
  rw [Lib.decDigits_length]
  by_cases h1 : u < 10
  · rw [Lib.nDigits_small h1]; omega
  · rw [Lib.nDigits_big h1]
    by_cases h2 : u / 10 < 10
    · rw [Lib.nDigits_small h2]; omega
    · rw [Lib.nDigits_big h2]
      by_cases h3 : u / 10 / 10 < 10
      · rw [Lib.nDigits_small h3]; omega
      · rw [Lib.nDigits_big h3]
        by_cases h4 : u / 10 / 10 / 10 < 10
        · rw [Lib.nDigits_small h4]; omega
        · rw [Lib.nDigits_big h4, Lib.nDigits_small (by omega)]; omega

theorem val_take_succ (l : List UInt8) (k : Nat) (h : k < l.length) : valOf (l.take (k + 1)) = valOf (l.take k) * 10 + (l[k].toNat - 48) := by
  rw [List.take_succ_eq_append_getElem h, valOf_snoc]

theorem val_take_lt (l : List UInt8) (h : ∀ c ∈ l, 48 ≤ c.toNat ∧ c.toNat ≤ 57) : ∀ k, k ≤ l.length → valOf (l.take k) < 10 ^ k
  | 0, _ => by simp [valOf]
  | k + 1, hk => by
    rw [val_take_succ l k (by omega), Nat.pow_succ]
    have h1 := val_take_lt l h k (by omega)
    have h2 := h l[k] (List.getElem_mem _)
    omega

theorem dec_inj {a b : Nat} (h : Lib.decDigits a = Lib.decDigits b) : a = b := by
  rw [← val_dec a, ← val_dec b, h]
end Go.Proofs.Qxb6628192aFmt
