/-
  OF NO PROGRAM: THE ARITHMETIC BEHIND plainBytes: eight bytes at a time.
-/
import Derived.Lib.TrailingZeros
namespace Go.Proofs.YbulkxxiDoor

def wMod : Nat := 18446744073709551616
def wSub (a c : Nat) : Nat := (a + (18446744073709551616 - c)) % 18446744073709551616
def wNot (a : Nat) : Nat := 18446744073709551615 - a
def quoteC : Nat := 2459565876494606882
def slashC : Nat := 6655295901103053916
def onesC : Nat := 72340172838076673
def blankC : Nat := 2314885530818453536
def topsC : Nat := 9259542123273814144
def found (X : Nat) : Nat := ((wSub (X ^^^ quoteC) onesC &&& wNot (X ^^^ quoteC)) ||| (wSub (X ^^^ slashC) onesC &&& wNot (X ^^^ slashC))) ||| (wSub X blankC &&& wNot X)
def marks (X : Nat) : Nat := found X &&& topsC

theorem bit_div (n i : Nat) : n.testBit i = decide (n / 2 ^ i % 2 = 1) := Nat.testBit_eq_decide_div_mod_eq

theorem wNot_bit (a i : Nat) (ha : a < 18446744073709551616) (hi : i < 64) : (wNot a).testBit i = !a.testBit i := by
  have h := Nat.testBit_two_pow_sub_succ (n := 64) (x := a) (by simpa using ha) i
  have e : 2 ^ 64 - (a + 1) = wNot a := by unfold wNot; omega
  rw [e] at h
  rw [h]; simp [hi]

/-- A byte below K: taking K from each byte borrows there. -/
theorem sub_top1 (Y m : Nat) (hm : m < 8) (_hY : Y < 18446744073709551616) (hb : Y / 2 ^ (8 * m) % 256 < 1) : (wSub Y onesC).testBit (8 * m + 7) = true := by
  rw [bit_div, decide_eq_true_iff]
  unfold wSub onesC
  rcases (show m = 0 ∨ m = 1 ∨ m = 2 ∨ m = 3 ∨ m = 4 ∨ m = 5 ∨ m = 6 ∨ m = 7 from by omega) with rfl | rfl | rfl | rfl | rfl | rfl | rfl | rfl <;> simp only [Nat.reduceMul, Nat.reduceAdd, Nat.reducePow, Nat.reduceSub] at hb ⊢ <;> omega

theorem sub_top32 (Y m : Nat) (hm : m < 8) (hY : Y < 18446744073709551616) (hb : Y / 2 ^ (8 * m) % 256 < 32) : (wSub Y blankC).testBit (8 * m + 7) = true := by
  rw [bit_div, decide_eq_true_iff]
  unfold wSub blankC
  rcases (show m = 0 ∨ m = 1 ∨ m = 2 ∨ m = 3 ∨ m = 4 ∨ m = 5 ∨ m = 6 ∨ m = 7 from by omega) with rfl | rfl | rfl | rfl | rfl | rfl | rfl | rfl <;> simp only [Nat.reduceMul, Nat.reduceAdd, Nat.reducePow, Nat.reduceSub] at hb ⊢ <;> omega

/-- The top bit of a byte below 128. -/
theorem top_clear (Y m : Nat) (hm : m < 8) (hb : Y / 2 ^ (8 * m) % 256 < 128) : Y.testBit (8 * m + 7) = false := by
  rw [bit_div, decide_eq_false_iff_not]
  rcases (show m = 0 ∨ m = 1 ∨ m = 2 ∨ m = 3 ∨ m = 4 ∨ m = 5 ∨ m = 6 ∨ m = 7 from by omega) with rfl | rfl | rfl | rfl | rfl | rfl | rfl | rfl <;> simp only [Nat.reduceMul, Nat.reduceAdd, Nat.reducePow] at hb ⊢ <;> omega

theorem xor_byte (X C m : Nat) (h : X / 2 ^ (8 * m) % 256 = C / 2 ^ (8 * m) % 256) : (X ^^^ C) / 2 ^ (8 * m) % 256 = 0 := by
  rw [← Nat.shiftRight_eq_div_pow, Nat.shiftRight_xor_distrib, show (256 : Nat) = 2 ^ 8 from rfl, Nat.xor_mod_two_pow, Nat.shiftRight_eq_div_pow, Nat.shiftRight_eq_div_pow, show (2 ^ 8 : Nat) = 256 from rfl, h, Nat.xor_self]

theorem tops_bit : ∀ m, m < 8 → topsC.testBit (8 * m + 7) = true := by decide
theorem quote_byte : ∀ m, m < 8 → quoteC / 2 ^ (8 * m) % 256 = 34 := by decide
theorem slash_byte : ∀ m, m < 8 → slashC / 2 ^ (8 * m) % 256 = 92 := by decide

/-- A byte that may end a run of plain bytes. -/
def Special (c : Int) : Prop := c < 32 ∨ c = 34 ∨ c = 92

theorem marks_bit (X m : Nat) (hm : m < 8) (hX : X < 18446744073709551616) (hs : Special ((X / 2 ^ (8 * m) % 256 : Nat) : Int)) : (marks X).testBit (8 * m + 7) = true := by
  have hx1 : X ^^^ quoteC < 18446744073709551616 := Nat.xor_lt_two_pow (n := 64) hX (by decide)
  have hx2 : X ^^^ slashC < 18446744073709551616 := Nat.xor_lt_two_pow (n := 64) hX (by decide)
  unfold marks
  rw [Nat.testBit_and, tops_bit m hm, Bool.and_true]
  unfold found
  rw [Nat.testBit_or, Nat.testBit_or, Nat.testBit_and, Nat.testBit_and, Nat.testBit_and]
  rw [wNot_bit _ _ hx1 (by omega), wNot_bit _ _ hx2 (by omega), wNot_bit _ _ hX (by omega)]
  rcases hs with h | h | h
  · rw [sub_top32 X m hm hX (by omega), top_clear X m hm (by omega)]; simp
  · have hz := xor_byte X quoteC m (by rw [quote_byte m hm]; omega)
    rw [sub_top1 (X ^^^ quoteC) m hm hx1 (by omega), top_clear (X ^^^ quoteC) m hm (by omega)]; simp
  · have hz := xor_byte X slashC m (by rw [slash_byte m hm]; omega)
    rw [sub_top1 (X ^^^ slashC) m hm hx2 (by omega), top_clear (X ^^^ slashC) m hm (by omega)]; simp

theorem marks_lt (X : Nat) : marks X < 18446744073709551616 := by
  unfold marks
  exact Nat.and_lt_two_pow (n := 64) _ (by decide)

theorem ctz_le (F i : Nat) (hF : F < 18446744073709551616) (h : F.testBit i = true) : F ≠ 0 ∧ Lib.ctz 64 F ≤ i := by
  have h0 : F ≠ 0 := by rintro rfl; simp at h
  refine ⟨h0, ?_⟩
  obtain ⟨r, hr, _⟩ := Lib.ctzFrom_spec 64 F (by omega) hF
  have e : Lib.ctz 64 F = Lib.ctzFrom 64 F := by simp [Lib.ctz, h0]
  rw [e]
  generalize Lib.ctzFrom 64 F = c at hr
  by_cases hic : c ≤ i
  · exact hic
  · exfalso
    rw [hr, Nat.testBit_two_pow_mul] at h
    simp [show ¬ c ≤ i from hic] at h

theorem ctz_lt (F : Nat) (hF : F < 18446744073709551616) (h0 : F ≠ 0) : Lib.ctz 64 F < 64 := (Lib.lowest_bit 64 F h0 hF).2

end Go.Proofs.YbulkxxiDoor
