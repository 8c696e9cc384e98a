/-
  OF NO PROGRAM BUT ITS TEXTS: the values that the generator writes, as lists of bytes.
-/
import Derived.Test.YbulkxxiDoorStr
namespace Go.Proofs.YbulkxxiDoor
open Go.RowKit
set_option linter.unusedVariables false

def lTrue : List Int := [116, 114, 117, 101]
def lFalse : List Int := [102, 97, 108, 115, 101]
def lNull : List Int := [110, 117, 108, 108]
def lN0 : List Int := [48]
def lN1 : List Int := [45, 55]
def lN2 : List Int := [51, 46, 50, 53]
def lN3 : List Int := [49, 69, 45, 57]
def lN4 : List Int := [45, 48, 46, 53, 101, 43, 49, 48]
def lS0 : List Int := [34, 97, 92, 110, 92, 117, 48, 48, 69, 57, 98, 34]
def lS1 : List Int := [34, 112, 108, 97, 105, 110, 32, 119, 111, 114, 100, 115, 32, 104, 101, 114, 101, 44, 32, 108, 111, 110, 103, 101, 114, 33, 34]
def lS2 : List Int := [34, 34]
def lS3 : List Int := [34, 92, 47, 92, 92, 92, 34, 113, 34]

def leaves : List (List Int) := [lTrue, lFalse, lNull, lN0, lN1, lN2, lN3, lN4, lS0, lS1, lS2, lS3]

def opn (o : Bool) : Int := if o then 123 else 91
def cls (o : Bool) : Int := if o then 125 else 93
def sep (o : Bool) : Int := if o then 10 else 32
def key (o : Bool) : List Int := if o then [34, 107, 34, 58, 32] else []

def join (o : Bool) : List (List Int) → List Int
  | [] => []
  | [e] => key o ++ e
  | e :: e' :: r => key o ++ e ++ [44, sep o] ++ join o (e' :: r)
def cont (o : Bool) (els : List (List Int)) : List Int := opn o :: (join o els ++ [cls o])

/-- A value of at most f containers one inside the other; m: how many parts, or -1. -/
def Val : Nat → List Int → Int → Prop
  | 0, bs, m => bs ∈ leaves ∧ m = -1
  | f + 1, bs, m => (bs ∈ leaves ∧ m = -1) ∨ ∃ (o : Bool) (els : List (List Int)), bs = cont o els ∧ m = els.length ∧ els.length ≤ 3 ∧ ∀ e ∈ els, ∃ m', Val f e m'

theorem join_snoc (o : Bool) (e : List Int) : ∀ (els : List (List Int)), join o (els ++ [e]) = if els = [] then key o ++ e else join o els ++ [44, sep o] ++ (key o ++ e)
  | [] => by simp [join]
  | [a] => by simp [join]
  | a :: b :: r => by
    have ih := join_snoc o e (b :: r)
    rw [if_neg (by simp)] at ih
    rw [if_neg (by simp)]
    show join o (a :: b :: (r ++ [e])) = _
    rw [join]
    rw [show b :: (r ++ [e]) = (b :: r) ++ [e] from rfl, ih, join]
    simp

/-- How long a value of depth f may be. -/
def lim : Nat → Nat
  | 0 => 27
  | f + 1 => 3 * (lim f + 7) + 2
theorem lim_ge : ∀ f, 27 ≤ lim f
  | 0 => Nat.le_refl _
  | f + 1 => by have := lim_ge f; unfold lim; omega
theorem leaf_len : ∀ bs ∈ leaves, bs.length ≤ 27 := by decide
theorem join_len (o : Bool) (L : Nat) : ∀ (els : List (List Int)), (∀ e ∈ els, e.length ≤ L) → (join o els).length ≤ els.length * (L + 7)
  | [], _ => by simp [join]
  | [e], h => by
    have := h e (by simp)
    have hk : (key o).length ≤ 5 := by cases o <;> decide
    simp [join]; omega
  | e :: e' :: r, h => by
    have h1 := h e (by simp)
    have hk : (key o).length ≤ 5 := by cases o <;> decide
    have ih := join_len o L (e' :: r) (fun x hx => h x (List.mem_cons_of_mem _ hx))
    simp only [join, List.length_append, List.length_cons, List.length_nil] at ih ⊢
    rw [Nat.add_mul]
    omega
theorem val_len : ∀ (f : Nat) (bs : List Int) (m : Int), Val f bs m → bs.length ≤ lim f
  | 0, bs, m, h => leaf_len bs h.1
  | f + 1, bs, m, h => by
    rcases h with ⟨h, _⟩ | ⟨o, els, rfl, _, h3, he⟩
    · have := leaf_len bs h; have := lim_ge (f + 1); omega
    · have := join_len o (lim f) els (fun e hx => by obtain ⟨m', hv⟩ := he e hx; exact val_len f e m' hv)
      have h4 : els.length * (lim f + 7) ≤ 3 * (lim f + 7) := Nat.mul_le_mul_right _ h3
      simp only [cont, List.length_cons, List.length_append, List.length_nil, lim]
      omega

/-! ### Where a value stands -/
theorem at_append {l : List Int} {i : Nat} {a b : List Int} : At l i (a ++ b) ↔ At l i a ∧ At l (i + a.length) b := by
  constructor
  · rintro ⟨h1, h2⟩
    simp at h1
    refine ⟨⟨by omega, fun t ht => ?_⟩, ⟨by omega, fun t ht => ?_⟩⟩
    · rw [h2 t (by simp; omega)]
      simp [List.getD, List.getElem?_append_left ht]
    · rw [Nat.add_assoc, h2 (a.length + t) (by simp; omega)]
      simp [List.getD, List.getElem?_append_right]
  · rintro ⟨⟨h1, h2⟩, ⟨h3, h4⟩⟩
    refine ⟨by simp; omega, fun t ht => ?_⟩
    simp at ht
    by_cases h : t < a.length
    · rw [h2 t h]; simp [List.getD, List.getElem?_append_left h]
    · have := h4 (t - a.length) (by omega)
      rw [show i + a.length + (t - a.length) = i + t by omega] at this
      rw [this]
      simp [List.getD, List.getElem?_append_right (show a.length ≤ t by omega)]
theorem at_cons {l : List Int} {i : Nat} {c : Int} {b : List Int} : At l i (c :: b) ↔ (i < l.length ∧ l.getD i 0 = c) ∧ At l (i + 1) b := by
  rw [show c :: b = [c] ++ b from rfl, at_append]
  constructor
  · rintro ⟨⟨h1, h2⟩, h3⟩
    exact ⟨⟨by simp at h1; omega, by simpa using h2 0 (by simp)⟩, h3⟩
  · rintro ⟨⟨h1, h2⟩, h3⟩
    exact ⟨⟨by simp; omega, fun t ht => by simp at ht; subst ht; simpa using h2⟩, h3⟩
theorem at_seg {l : List Int} {i : Nat} : ∀ {b : List Int}, At l i b → seg l i (i + b.length) = b
  | [], _ => by rw [List.length_nil, Nat.add_zero, seg_end]
  | c :: b, h => by
    have hle := h.1
    obtain ⟨⟨h1, h2⟩, h3⟩ := at_cons.1 h
    have ih := at_seg h3
    rw [seg_cons l i _ (by simp) (by simpa using hle), h2]
    rw [show i + (c :: b).length = i + 1 + b.length by simp; omega, ih]

/-- The first byte of a value. -/
def headOf (e : List Int) : Int := e.getD 0 0
def GoodHead (c : Int) : Prop := ¬ Blank c ∧ c ≠ 93 ∧ c ≠ 125
theorem leaf_head : ∀ bs ∈ leaves, 0 < bs.length ∧ GoodHead (headOf bs) := by
  have h : ∀ bs ∈ leaves, 0 < bs.length ∧ decide (headOf bs ≠ 32 ∧ headOf bs ≠ 9 ∧ headOf bs ≠ 13 ∧ headOf bs ≠ 10 ∧ headOf bs ≠ 93 ∧ headOf bs ≠ 125) = true := by decide
  intro bs hb
  obtain ⟨h1, h2⟩ := h bs hb
  simp at h2
  refine ⟨h1, ?_, h2.2.2.2.2.1, h2.2.2.2.2.2⟩
  unfold Blank
  omega
theorem val_head : ∀ (f : Nat) (bs : List Int) (m : Int), Val f bs m → 0 < bs.length ∧ GoodHead (headOf bs)
  | 0, bs, m, h => leaf_head bs h.1
  | f + 1, bs, m, h => by
    rcases h with ⟨h, _⟩ | ⟨o, els, rfl, _⟩
    · exact leaf_head bs h
    · refine ⟨by simp [cont], ?_⟩
      cases o <;> simp [cont, headOf, opn, GoodHead, Blank]
/-- A value that opens with a quote is a string. -/
theorem leaf_str : ∀ bs ∈ leaves, headOf bs = 34 → tailOK bs.tail = true := by
  have h : ∀ bs ∈ leaves, (decide (headOf bs = 34) = true → tailOK bs.tail = true) := by decide
  intro bs hb he
  exact h bs hb (decide_eq_true he)
theorem val_str : ∀ (f : Nat) (bs : List Int) (m : Int), Val f bs m → headOf bs = 34 → tailOK bs.tail = true
  | 0, bs, m, h, e => leaf_str bs h.1 e
  | f + 1, bs, m, h, e => by
    rcases h with ⟨h, _⟩ | ⟨o, els, rfl, _⟩
    · exact leaf_str bs h e
    · cases o <;> simp [cont, headOf, opn] at e

theorem at_head {l : List Int} {i : Nat} {bs : List Int} (h : At l i bs) (h0 : 0 < bs.length) : i < l.length ∧ l.getD i 0 = headOf bs := by
  have := h.1
  refine ⟨by omega, ?_⟩
  have := h.2 0 h0
  simpa [headOf] using this

theorem at_tail_ok {l : List Int} {i : Nat} {bs : List Int} (h : At l i bs) (h0 : 0 < bs.length) (ht : tailOK bs.tail = true) : tailOK (seg l (i + 1) (i + bs.length)) = true := by
  match bs, h0 with
  | c :: b, _ =>
    have := at_seg (at_cons.1 h).2
    rw [show i + (c :: b).length = i + 1 + b.length by simp; omega, this]
    exact ht
end Go.Proofs.YbulkxxiDoor
