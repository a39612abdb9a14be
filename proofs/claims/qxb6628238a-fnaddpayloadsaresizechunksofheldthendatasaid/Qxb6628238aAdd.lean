import Derived.Test.Qxb6628238aAddL
namespace Go.Proofs.Qxb6628238a
open Go.RowKit

/-- 'Add', whatever is held and given. -/
theorem add_any (w : World) (B b : Nat) (pr : Nat → Obj → Prop) (bs sz bl per : Nat) (ha : Option Addr) (nh hc : Nat) (wa : Option Addr) (nw wc : Nat) (da : Option Addr) (nd dc : Nat) (xw xd : List Value)
    (a : Option Addr) (n c : Nat) (F : Nat → Int) (h : St w B b pr bs sz bl ha nh hc wa nw wc da nd dc (seg F 0 nh) xw xd) (g o0 : Nat) (A : Array Value) (hl : Left pr g o0 A F nh n a c) (hlt : nh < sz) (hsz2 : sz ≤ 1073741824)
    (hbs : 1 ≤ bs) (hper : sz / bs = per) (hbl : bl ≤ 1090921693184) (hnn : nh + n ≤ 2097152) :
    Calls Try.prog 9 #[.pointer (some ⟨b, 0, none⟩), .slice a n c] w fun e w' => AddPost w w' e B b pr bs sz bl per F (nh + n) := by
  by_cases h0 : nh = 0
  · subst h0
    rw [Nat.zero_add]
    rw [seg_zero] at h
    exact add_t w B b pr bs sz bl per ha hc wa nw wc da nd dc xw xd a n c h F g o0 A hl (by omega) (by omega) hsz2 hbs hper hbl
  · by_cases h1 : n = 0
    · subst h1
      exact add_empty w B b pr bs sz bl per ha nh hc wa nw wc da nd dc xw xd a c F h (by omega) hlt hsz2
    · by_cases h2 : nh + n < sz
      · exact add_short w B b pr bs sz bl per ha nh hc wa nw wc da nd dc xw xd a n c F h g o0 A hl (by omega) (by omega) h2 hsz2 (by omega)
      · obtain ⟨k, rfl⟩ : ∃ k, sz = nh + k := ⟨sz - nh, by omega⟩
        have hnc := hl.1
        by_cases h3 : k = c
        · obtain rfl : n = k := by omega
          subst h3
          exact add_exact w B b pr bs n bl per ha nh hc wa nw wc da nd dc xw xd a F h g o0 A hl (by omega) hnn (by omega) hbs hper hbl
        · exact add_long w B b pr bs k bl per ha nh hc wa nw wc da nd dc xw xd a n c F h g o0 A hl (by omega) (by omega) hnn (by omega) (by omega) h3 hbs hper hbl
end Go.Proofs.Qxb6628238a
