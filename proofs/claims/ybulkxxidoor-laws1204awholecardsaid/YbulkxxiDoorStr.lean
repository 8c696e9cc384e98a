/-
  skipString.
-/
import Derived.Test.YbulkxxiDoorPlain2
namespace Go.Proofs.YbulkxxiDoor
open Go.RowKit
set_option linter.unusedVariables false

def hexB (c : Int) : Bool := decide ((48 ≤ c ∧ c ≤ 57) ∨ (97 ≤ c ∧ c ≤ 102) ∨ (65 ≤ c ∧ c ≤ 70))
def escB (c : Int) : Bool := decide (c = 34 ∨ c = 92 ∨ c = 47 ∨ c = 98 ∨ c = 102 ∨ c = 110 ∨ c = 114 ∨ c = 116)

/-- What stands behind a string's opening quote, the closing quote its last byte. -/
def tailOK : List Int → Bool
  | [] => false
  | c :: r =>
    if c = 34 then r.isEmpty
    else if c = 92 then
      match r with
      | [] => false
      | e :: r1 =>
        if e = 117 then
          match r1 with
          | x1 :: x2 :: x3 :: x4 :: r2 => hexB x1 && hexB x2 && hexB x3 && hexB x4 && tailOK r2
          | _ => false
        else escB e && tailOK r1
    else decide (32 ≤ c) && tailOK r

/-- The text from q to E. -/
def seg (l : List Int) (q E : Nat) : List Int := (l.drop q).take (E - q)
theorem seg_end (l : List Int) (E : Nat) : seg l E E = [] := by simp [seg]
theorem seg_cons (l : List Int) (q E : Nat) (h : q < E) (hE : E ≤ l.length) : seg l q E = l.getD q 0 :: seg l (q + 1) E := by
  unfold seg
  rw [List.drop_eq_getElem_cons (show q < l.length by omega), show E - q = (E - (q + 1)) + 1 by omega, List.take_succ_cons]
  simp [List.getD, show q < l.length by omega]
theorem seg_length (l : List Int) (q E : Nat) (hE : E ≤ l.length) (h : q ≤ E) : (seg l q E).length = E - q := by simp [seg]; omega

theorem tail_lt {l : List Int} {q E : Nat} (hE : E ≤ l.length) (hq : q ≤ E) (h : tailOK (seg l q E) = true) : q < E := by
  by_cases e : q = E
  · subst e; rw [seg_end] at h; simp [tailOK] at h
  · omega

theorem tail_plain {l : List Int} {q E : Nat} (hE : E ≤ l.length) (hq : q ≤ E) (h : tailOK (seg l q E) = true) (hs : ¬ Special (l.getD q 0)) : tailOK (seg l (q + 1) E) = true := by
  rw [seg_cons l q E (tail_lt hE hq h) hE] at h
  unfold Special at hs
  unfold tailOK at h
  rw [if_neg (by omega), if_neg (by omega)] at h
  simp at h
  exact h.2

theorem tail_skip {l : List Int} {E : Nat} (hE : E ≤ l.length) : ∀ (d q : Nat), q ≤ E → tailOK (seg l q E) = true → (∀ t, q ≤ t → t < q + d → ¬ Special (l.getD t 0)) → q + d < E ∧ tailOK (seg l (q + d) E) = true
  | 0, q, hq, h, _ => ⟨tail_lt hE hq h, h⟩
  | d + 1, q, hq, h, hs => by
    have h1 := tail_plain hE hq h (hs q (Nat.le_refl _) (by omega))
    have hlt := tail_lt hE hq h
    have := tail_skip hE d (q + 1) (by omega) h1 (fun t a b => hs t (by omega) (by omega))
    rw [show q + (d + 1) = q + 1 + d by omega]
    exact this

theorem tail_quote {l : List Int} {q E : Nat} (hE : E ≤ l.length) (hq : q ≤ E) (h : tailOK (seg l q E) = true) (hc : l.getD q 0 = 34) : q + 1 = E := by
  have hlt := tail_lt hE hq h
  rw [seg_cons l q E hlt hE, hc] at h
  unfold tailOK at h
  simp at h
  have := seg_length l (q + 1) E hE (by omega)
  rw [h] at this
  simp at this
  omega

theorem tail_small {l : List Int} {q E : Nat} (hE : E ≤ l.length) (hq : q ≤ E) (h : tailOK (seg l q E) = true) : 32 ≤ l.getD q 0 := by
  have hlt := tail_lt hE hq h
  rw [seg_cons l q E hlt hE] at h
  unfold tailOK at h
  by_cases h1 : l.getD q 0 = 34
  · omega
  · by_cases h2 : l.getD q 0 = 92
    · omega
    · rw [if_neg h1, if_neg h2] at h
      simp at h
      simpa using h.1

theorem hexB_hex {c : Int} (h : hexB c = true) : Hex c := by unfold hexB at h; simp at h; exact h

theorem seg_nil {l : List Int} {q E : Nat} (hE : E ≤ l.length) (hq : q ≤ E) (h : seg l q E = []) : q = E := by
  have := seg_length l q E hE hq
  rw [h] at this
  simp at this
  omega

theorem tail_esc {l : List Int} {q E : Nat} (hE : E ≤ l.length) (hq : q ≤ E) (h : tailOK (seg l q E) = true) (hc : l.getD q 0 = 92) :
    q + 2 < E ∧ ((escB (l.getD (q + 1) 0) = true ∧ l.getD (q + 1) 0 ≠ 117 ∧ tailOK (seg l (q + 2) E) = true) ∨
      (l.getD (q + 1) 0 = 117 ∧ q + 6 < E ∧ Hex (l.getD (q + 2) 0) ∧ Hex (l.getD (q + 3) 0) ∧ Hex (l.getD (q + 4) 0) ∧ Hex (l.getD (q + 5) 0) ∧ tailOK (seg l (q + 6) E) = true)) := by
  have hlt := tail_lt hE hq h
  rw [seg_cons l q E hlt hE, hc] at h
  unfold tailOK at h
  rw [if_neg (by decide), if_pos rfl] at h
  by_cases e1 : q + 1 = E
  · subst e1; rw [seg_end] at h; simp at h
  rw [seg_cons l (q + 1) E (by omega) hE] at h
  simp only [Nat.add_assoc, Nat.reduceAdd] at h
  by_cases e : l.getD (q + 1) 0 = 117
  · rw [if_pos e] at h
    by_cases e2 : q + 6 ≤ E
    · rw [seg_cons l (q + 2) E (by omega) hE, seg_cons l (q + 2 + 1) E (by omega) hE, seg_cons l (q + 2 + 1 + 1) E (by omega) hE, seg_cons l (q + 2 + 1 + 1 + 1) E (by omega) hE] at h
      simp only [Nat.add_assoc, Nat.reduceAdd, Bool.and_eq_true] at h
      obtain ⟨⟨⟨⟨a, b⟩, c⟩, d⟩, f⟩ := h
      have := tail_lt hE e2 f
      exact ⟨by omega, .inr ⟨e, this, hexB_hex a, hexB_hex b, hexB_hex c, hexB_hex d, f⟩⟩
    · exfalso
      have hl := seg_length l (q + 2) E hE (by omega)
      match hm : seg l (q + 2) E, h with
      | x1 :: x2 :: x3 :: x4 :: r2, _ => rw [hm] at hl; simp at hl; omega
      | [], h => simp at h
      | [_], h => simp at h
      | [_, _], h => simp at h
      | [_, _, _], h => simp at h
  · rw [if_neg e] at h
    simp only [Bool.and_eq_true] at h
    have := tail_lt hE (by omega) h.2
    exact ⟨this, .inl ⟨h.1, e, h.2⟩⟩

/-- The table of special bytes, in its variable. -/
def spB (c : Nat) : Bool := decide (c < 32 ∨ c = 34 ∨ c = 92)
theorem spB_yes {c : Nat} (h : Special (c : Int)) : spB c = true := by unfold Special at h; unfold spB; simp; omega
theorem spB_no {c : Nat} (h : ¬ Special (c : Int)) : spB c = false := by unfold Special at h; unfold spB; simp; omega
def Sp (w : World) : Prop := ∀ c : Nat, c < 256 → w.cell? ⟨0, c, none⟩ = some (.bool (spB c))

theorem Tab.below {w w' : World} (h : Tab w) (hb : Below w.heap.size w w') (hg : 2 < w.heap.size) : Tab w' := fun j hj => (hb.cell (p := ⟨2, j, none⟩) hg).trans (h j hj)
theorem Sp.below {w w' : World} (h : Sp w) (hb : Below w.heap.size w w') (hg : 0 < w.heap.size) : Sp w' := fun j hj => (hb.cell (p := ⟨0, j, none⟩) hg).trans (h j hj)
theorem Txt.below {w w' : World} {g n : Nat} {l : List Int} (h : Txt w g n l) (hb : Below w.heap.size w w') (hg : g < w.heap.size) : Txt w' g n l :=
  ⟨h.len, fun j hj => (hb.cell (p := ⟨g, j, none⟩) hg).trans (h.cell j hj), h.byte, h.big⟩

set_option maxHeartbeats 4000000 in
set_option maxRecDepth 100000 in
theorem string_any (g n cap i E : Nat) (x : Int) (hx : x = i) (l : List Int) (w : World) (ht : Txt w g n l) (hcap : n ≤ cap) (hg : g < w.heap.size) (hg2 : 2 < w.heap.size) (hT : Tab w) (hS : Sp w)
    (hi : i + 1 ≤ E) (hE : E ≤ n) (hok : tailOK (seg l (i + 1) E) = true) :
    Calls Ybad.prog 7 #[.slice (some ⟨g, 0, none⟩) n cap, .int .i64 x] w fun e w' => e = .returned (.tuple #[.int .i64 E, .bool true]) ∧ Below w.heap.size w w' := by
  subst hx
  have hbig := ht.big
  have hEl : E ≤ l.length := by rw [ht.len]; exact hE
  have HT : Hid (Txt w g n l) := ht
  have HTab : Hid (Tab w) := hT
  have HS : Hid (Sp w) := hS
  have HOK : Hid (tailOK (seg l (i + 1) E) = true) := hok
  clear ht hT hS hok
  go_enter Ybad.func7, Ybad.ntmps7
  go_wp2
  go_loopw [1] (fun s wr => ∃ k : Nat, i < k ∧ k ≤ E ∧ s = .int .i64 k ∧ tailOK (seg l k E) = true ∧ Below w.heap.size w wr) (fun s _ => n + 1 - (intOf s).toNat)
  case atStart => exact ⟨i + 1, by omega, hi, by go_num, HOK.out, Below.refl _ _⟩
  case round =>
    obtain ⟨k, hik, hkE, rfl, hok, hbx⟩ := hrel
    have hkE' := tail_lt hEl hkE hok
    have HK : Hid (tailOK (seg l k E) = true) := hok
    clear hok HOK
    have hkI : (k : Int) < (n : Int) := by omega
    go_wp2_with fail
    refine (plain_any g n cap k _ rfl l _ (HT.out.below hbx hg) hcap (Nat.lt_of_lt_of_le hg hbx.size) (Nat.lt_of_lt_of_le hg2 hbx.size) (HTab.out.below hbx hg2) (by omega)).mono ?_
    rintro e w1 ⟨j, rfl, hkj, hjn, hpl, hb1⟩
    obtain ⟨hjE, hokj⟩ := tail_skip hEl (j - k) k hkE HK.out (fun t a b => hpl t a (by omega))
    rw [show k + (j - k) = j by omega] at hjE hokj
    have hbw : Below w.heap.size w w1 := hbx.trans (hb1.mono hbx.size)
    have ht1 := HT.out.below hbw hg
    have hs1 := HS.out.below hbw (by omega)
    have hc := ht1.cell j (by omega)
    have hby := ht1.byte j
    have hneq : ((j : Int) == (n : Int)) = false := by simp; omega
    have hjI : (j : Int) < (n : Int) := by omega
    have h32 := tail_small hEl (Nat.le_of_lt hjE) hokj
    obtain ⟨c, hcd⟩ : ∃ c, c = l.getD j 0 := ⟨_, rfl⟩
    have hsc := hs1 (l.getD j 0).toNat (by omega)
    rw [← hcd] at hc hby h32 hsc
    obtain ⟨cn, rfl⟩ := Int.eq_ofNat_of_zero_le hby.1
    rw [Int.toNat_natCast] at hsc
    have hcn : cn < 256 := by omega
    have HJ : Hid (tailOK (seg l j E) = true) := hokj
    have HCD : Hid ((cn : Int) = l.getD j 0) := hcd
    have HT1 : Hid (Txt w1 g n l) := ht1
    clear hpl hokj hcd hb1 hs1 ht1 hbx
    by_cases hsp : Special (cn : Int)
    · rw [spB_yes hsp] at hsc
      by_cases h34 : cn = 34
      · subst h34
        have hjE1 := tail_quote hEl (Nat.le_of_lt hjE) HJ.out HCD.out.symm
        clear hsp
        go_wp2
        go_ret2
        exact ⟨ret_two (by omega), hbw⟩
      · have h92 : cn = 92 := by unfold Special at hsp; omega
        subst h92
        clear hsp h34
        obtain ⟨hj2, hesc⟩ := tail_esc hEl (Nat.le_of_lt hjE) HJ.out HCD.out.symm
        have hneq1 : (((j : Int) + 1) == (n : Int)) = false := by simp; omega
        have hj1I : ((j : Int) + 1) < (n : Int) := by omega
        have hc1 := HT1.out.cell (j + 1) (by omega)
        rcases hesc with ⟨h1, h2, h3⟩ | ⟨h1, h2, h3, h4, h5, h6, h7⟩
        · have HN : Hid (tailOK (seg l (j + 2) E) = true) := h3
          obtain ⟨d, hdd⟩ : ∃ d, d = l.getD (j + 1) 0 := ⟨_, rfl⟩
          rw [← hdd] at hc1 h1 h2
          have h1' : d = 34 ∨ d = 92 ∨ d = 47 ∨ d = 98 ∨ d = 102 ∨ d = 110 ∨ d = 114 ∨ d = 116 := by unfold escB at h1; simpa using h1
          clear h1 h2 h3 hdd
          rcases h1' with rfl | rfl | rfl | rfl | rfl | rfl | rfl | rfl
          all_goals
            go_wp2
            go_roundw
            case rel => exact ⟨j + 2, by omega, by omega, by go_num, HN.out, hbw⟩
            case measure => simp [intOf]; omega
        · have HN : Hid (tailOK (seg l (j + 6) E) = true) := h7
          rw [h1] at hc1
          have k2 := HT1.out.cell (j + 2) (by omega)
          have k3 := HT1.out.cell (j + 3) (by omega)
          have k4 := HT1.out.cell (j + 4) (by omega)
          have k5 := HT1.out.cell (j + 5) (by omega)
          obtain ⟨d2, hd2⟩ : ∃ d, d = l.getD (j + 2) 0 := ⟨_, rfl⟩
          obtain ⟨d3, hd3⟩ : ∃ d, d = l.getD (j + 3) 0 := ⟨_, rfl⟩
          obtain ⟨d4, hd4⟩ : ∃ d, d = l.getD (j + 4) 0 := ⟨_, rfl⟩
          obtain ⟨d5, hd5⟩ : ∃ d, d = l.getD (j + 5) 0 := ⟨_, rfl⟩
          rw [← hd2] at k2 h3
          rw [← hd3] at k3 h4
          rw [← hd4] at k4 h5
          rw [← hd5] at k5 h6
          have i1 : decide ((n : Int) - ((j : Int) + 1) ≤ 4) = false := decide_eq_false (by omega)
          have i2 : (j : Int) + 2 < (n : Int) := by omega
          have i3 : (j : Int) + 3 < (n : Int) := by omega
          have i4 : (j : Int) + 4 < (n : Int) := by omega
          have i5 : (j : Int) + 5 < (n : Int) := by omega
          clear h1 h7 hd2 hd3 hd4 hd5
          go_wp2_with (go_at_call 12; refine (hex_any _ (by assumption) _).mono ?_; rintro e w' ⟨rfl, rfl⟩)
          go_roundw
          case rel => exact ⟨j + 6, by omega, by omega, by go_num, HN.out, hbw⟩
          case measure => simp [intOf]; omega
    · rw [spB_no hsp] at hsc
      have HN : Hid (tailOK (seg l (j + 1) E) = true) := tail_plain hEl (Nat.le_of_lt hjE) HJ.out (by rw [← HCD.out]; exact hsp)
      clear hsp
      go_wp2
      go_roundw
      case rel => exact ⟨j + 1, by omega, by omega, by go_num, HN.out, hbw⟩
      case measure => simp [intOf]; omega
end Go.Proofs.YbulkxxiDoor
