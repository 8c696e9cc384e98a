/-
  THE SMALL READERS: skipBlanks, skipDigits, hex.
-/
import Derived.Test.YbulkxxiDoorRows
import Derived.WalkKit
import Derived.ProofKit
import Derived.OpenShut
import Derived.WalkSmall
import Derived.Deep.QuietTactic
import Derived.BigQuiet
namespace Go.Proofs.YbulkxxiDoor
open Go.RowKit

/-- THE TEXT l LIES IN BLOCK g. -/
structure Txt (w : World) (g n : Nat) (l : List Int) : Prop where
  len : l.length = n
  cell : ∀ j, j < n → w.cell? ⟨g, j, none⟩ = some (.int .u8 (l.getD j 0))
  byte : ∀ j, 0 ≤ l.getD j 0 ∧ l.getD j 0 ≤ 255
  big : n ≤ 100000

def Blank (c : Int) : Prop := c = 32 ∨ c = 9 ∨ c = 13 ∨ c = 10
def Digit (c : Int) : Prop := 48 ≤ c ∧ c ≤ 57

set_option maxHeartbeats 800000 in
theorem blanks_any (g n cap i j : Nat) (x : Int) (hx : x = i) (l : List Int) (w : World) (ht : Txt w g n l) (hij : i ≤ j) (hjn : j ≤ n)
    (hbl : ∀ t, i ≤ t → t < j → Blank (l.getD t 0)) (hend : j < n → ¬ Blank (l.getD j 0)) :
    Calls Ybad.prog 13 #[.slice (some ⟨g, 0, none⟩) n cap, .int .i64 x] w fun e w' => e = .returned (.int .i64 j) ∧ w' = w := by
  subst hx
  have hbig := ht.big
  have HT : Hid (Txt w g n l) := ht
  have HB : Hid (∀ t, i ≤ t → t < j → Blank (l.getD t 0)) := hbl
  have HE : Hid (j < n → ¬ Blank (l.getD j 0)) := hend
  clear ht hbl hend
  go_enter Ybad.func13, Ybad.ntmps13
  go_wp2
  go_loop [1] (fun s => ∃ k : Nat, i ≤ k ∧ k ≤ j ∧ s = .int .i64 k) (fun s => n - (intOf s).toNat)
  case atStart => exact ⟨i, Nat.le_refl _, hij, rfl⟩
  case round =>
    obtain ⟨k, hik, hkj, rfl⟩ := hrel
    by_cases hlt : k < j
    · have hkn : k < n := by omega
      have hI : (k : Int) < (n : Int) := by omega
      have hc := HT.out.cell k hkn
      have hb := HB.out k hik hlt
      obtain ⟨c, hcd⟩ : ∃ c, c = l.getD k 0 := ⟨_, rfl⟩
      rw [← hcd] at hc hb
      clear hcd
      rcases hb with rfl | rfl | rfl | rfl
      all_goals
        go_wp2
        go_round
        case rel => exact ⟨k + 1, by omega, by omega, by go_num⟩
        case measure => simp [intOf]; omega
    · obtain rfl : k = j := by omega
      by_cases hn : k < n
      · have hI : (k : Int) < (n : Int) := by omega
        have hc := HT.out.cell k hn
        have hb := HE.out hn
        obtain ⟨c, hcd⟩ : ∃ c, c = l.getD k 0 := ⟨_, rfl⟩
        rw [← hcd] at hc hb
        clear hcd
        have e1 : (c == 32) = false := by simpa using fun h => hb (.inl h)
        have e2 : (c == 9) = false := by simpa using fun h => hb (.inr (.inl h))
        have e3 : (c == 13) = false := by simpa using fun h => hb (.inr (.inr (.inl h)))
        have e4 : (c == 10) = false := by simpa using fun h => hb (.inr (.inr (.inr h)))
        clear hb
        go_wp2
        go_ret
        exact ⟨rfl, rfl⟩
      · have hd : decide ((k : Int) < (n : Int)) = false := decide_eq_false (by omega)
        go_wp2
        go_ret
        exact ⟨rfl, rfl⟩

set_option maxHeartbeats 800000 in
theorem digits_any (g n cap i j : Nat) (x : Int) (hx : x = i) (l : List Int) (w : World) (ht : Txt w g n l) (hij : i ≤ j) (hjn : j ≤ n)
    (hbl : ∀ t, i ≤ t → t < j → Digit (l.getD t 0)) (hend : j < n → ¬ Digit (l.getD j 0)) :
    Calls Ybad.prog 14 #[.slice (some ⟨g, 0, none⟩) n cap, .int .i64 x] w fun e w' => e = .returned (.int .i64 j) ∧ w' = w := by
  subst hx
  have hbig := ht.big
  have HT : Hid (Txt w g n l) := ht
  have HB : Hid (∀ t, i ≤ t → t < j → Digit (l.getD t 0)) := hbl
  have HE : Hid (j < n → ¬ Digit (l.getD j 0)) := hend
  clear ht hbl hend
  go_enter Ybad.func14, Ybad.ntmps14
  go_wp2
  go_loop [1] (fun s => ∃ k : Nat, i ≤ k ∧ k ≤ j ∧ s = .int .i64 k) (fun s => n - (intOf s).toNat)
  case atStart => exact ⟨i, Nat.le_refl _, hij, rfl⟩
  case round =>
    obtain ⟨k, hik, hkj, rfl⟩ := hrel
    by_cases hlt : k < j
    · have hkn : k < n := by omega
      have hI : (k : Int) < (n : Int) := by omega
      have hc := HT.out.cell k hkn
      obtain ⟨hb1, hb2⟩ := HB.out k hik hlt
      obtain ⟨c, hcd⟩ : ∃ c, c = l.getD k 0 := ⟨_, rfl⟩
      rw [← hcd] at hc hb1 hb2
      clear hcd
      go_wp2
      go_round
      case rel => exact ⟨k + 1, by omega, by omega, by go_num⟩
      case measure => simp [intOf]; omega
    · obtain rfl : k = j := by omega
      by_cases hn : k < n
      · have hI : (k : Int) < (n : Int) := by omega
        have hc := HT.out.cell k hn
        have hb := HE.out hn
        obtain ⟨c, hcd⟩ : ∃ c, c = l.getD k 0 := ⟨_, rfl⟩
        rw [← hcd] at hc hb
        clear hcd
        by_cases h48 : 48 ≤ c
        · have e2 : decide (c ≤ 57) = false := decide_eq_false (fun h => hb ⟨h48, h⟩)
          clear hb
          go_wp2
          go_ret
          exact ⟨rfl, rfl⟩
        · have e1 : decide (48 ≤ c) = false := decide_eq_false h48
          clear hb
          go_wp2
          go_ret
          exact ⟨rfl, rfl⟩
      · have hd : decide ((k : Int) < (n : Int)) = false := decide_eq_false (by omega)
        go_wp2
        go_ret
        exact ⟨rfl, rfl⟩

def Hex (c : Int) : Prop := (48 ≤ c ∧ c ≤ 57) ∨ (97 ≤ c ∧ c ≤ 102) ∨ (65 ≤ c ∧ c ≤ 70)

theorem hex_any (c : Int) (h : Hex c) (w : World) : Calls Ybad.prog 12 #[.int .u8 c] w fun e w' => e = .returned (.bool true) ∧ w' = w := by
  rcases h with ⟨h1, h2⟩ | ⟨h1, h2⟩ | ⟨h1, h2⟩
  · go_enter Ybad.func12, Ybad.ntmps12
    go_wp2
    go_ret
    exact ⟨rfl, rfl⟩
  · have d1 : decide (48 ≤ c) = true := decide_eq_true (by omega)
    have d2 : decide (c ≤ 57) = false := decide_eq_false (by omega)
    go_enter Ybad.func12, Ybad.ntmps12
    go_wp2
    go_ret
    exact ⟨rfl, rfl⟩
  · have d1 : decide (48 ≤ c) = true := decide_eq_true (by omega)
    have d2 : decide (c ≤ 57) = false := decide_eq_false (by omega)
    have d3 : decide (97 ≤ c) = false := decide_eq_false (by omega)
    go_enter Ybad.func12, Ybad.ntmps12
    go_wp2
    go_ret
    exact ⟨rfl, rfl⟩
end Go.Proofs.YbulkxxiDoor
