/-
  skipWord AND skipNumber at the words and numbers that the generator writes.
-/
import Derived.Test.YbulkxxiDoorSmall
import Derived.Laws.BytesArg
namespace Go.Proofs.YbulkxxiDoor
open Go.RowKit

/-- bs STANDS IN l FROM i ON. -/
def At (l : List Int) (i : Nat) (bs : List Int) : Prop := i + bs.length ≤ l.length ∧ ∀ t, t < bs.length → l.getD (i + t) 0 = bs.getD t 0
def Delim (c : Int) : Prop := c = 44 ∨ c = 32 ∨ c = 93 ∨ c = 125 ∨ c = 10
/-- What stands at j ends a value. -/
def Ends (l : List Int) (j : Nat) : Prop := j < l.length → Delim (l.getD j 0)

theorem At.cell {w : World} {g n : Nat} {l : List Int} {i : Nat} {bs : List Int} (ha : At l i bs) (ht : Txt w g n l) (t : Nat) (h : t < bs.length) : w.cell? ⟨g, i + t, none⟩ = some (.int .u8 (bs.getD t 0)) := by
  have := ha.1
  have := ht.len
  rw [ht.cell (i + t) (by omega), ha.2 t h]

theorem ret_two {a b : Int} {p : Bool} (h : a = b) : Ending.returned (.tuple #[.int .i64 a, .bool p]) = .returned (.tuple #[.int .i64 b, .bool p]) := by rw [h]

set_option maxHeartbeats 800000 in
theorem num_0 (g n cap i : Nat) (x : Int) (hx : x = i) (l : List Int) (w : World) (ht : Txt w g n l) (ha : At l i [48]) (hf : Ends l (i + 1)) :
    Calls Ybad.prog 10 #[.slice (some ⟨g, 0, none⟩) n cap, .int .i64 x] w fun e w' => e = .returned (.tuple #[.int .i64 (i + 1 : Nat), .bool true]) ∧ w' = w := by
  subst hx
  have hbig := ht.big
  have hlen : l.length = n := ht.len
  have hin : i + 1 ≤ n := by have := ha.1; simp at this; omega
  have c0 : w.cell? ⟨g, i, none⟩ = some (.int .u8 48) := ha.cell ht 0 (by decide)
  have l0 : l.getD (i + 0) 0 = 48 := ha.2 0 (by decide)
  clear l0 ha
  have n0 : (i : Int) < (n : Int) := by omega
  by_cases hn : i + 1 < n
  · have hd := hf (by omega)
    have cE := ht.cell (i + 1) hn
    obtain ⟨d, hdd⟩ : ∃ d, d = l.getD (i + 1) 0 := ⟨_, rfl⟩
    rw [← hdd] at hd cE
    have e1 : (d == 46) = false := by unfold Delim at hd; simp; omega
    have e2 : (d == 101) = false := by unfold Delim at hd; simp; omega
    have e3 : (d == 69) = false := by unfold Delim at hd; simp; omega
    have nE : ((i : Int) + 1) < (n : Int) := by omega
    clear hd hdd hf ht
    go_enter Ybad.func10, Ybad.ntmps10
    go_wp2
    go_ret2
    exact ⟨ret_two (by omega), rfl⟩
  · have nE : decide (((i : Int) + 1) < (n : Int)) = false := decide_eq_false (by omega)
    clear hf ht
    go_enter Ybad.func10, Ybad.ntmps10
    go_wp2
    go_ret2
    exact ⟨ret_two (by omega), rfl⟩

set_option maxHeartbeats 800000 in
theorem num_m7 (g n cap i : Nat) (x : Int) (hx : x = i) (l : List Int) (w : World) (ht : Txt w g n l) (ha : At l i [45, 55]) (hf : Ends l (i + 2)) :
    Calls Ybad.prog 10 #[.slice (some ⟨g, 0, none⟩) n cap, .int .i64 x] w fun e w' => e = .returned (.tuple #[.int .i64 (i + 2 : Nat), .bool true]) ∧ w' = w := by
  subst hx
  have hbig := ht.big
  have hlen : l.length = n := ht.len
  have hin : i + 2 ≤ n := by have := ha.1; simp at this; omega
  have c0 : w.cell? ⟨g, i, none⟩ = some (.int .u8 45) := ha.cell ht 0 (by decide)
  have c1 : w.cell? ⟨g, i + 1, none⟩ = some (.int .u8 55) := ha.cell ht 1 (by decide)
  have l0 : l.getD (i + 0) 0 = 45 := ha.2 0 (by decide)
  have l1 : l.getD (i + 1) 0 = 55 := ha.2 1 (by decide)
  have D1 : ∀ (x : Int), x = ((i + 1 : Nat) : Int) → Calls Ybad.prog 14 #[.slice (some ⟨g, 0, none⟩) n cap, .int .i64 x] w fun e w' => e = .returned (.int .i64 (i + 2 : Nat)) ∧ w' = w := fun x hx => digits_any g n cap (i + 1) (i + 2) x hx l w ht (by omega) (by omega)
    (fun t h1 h2 => by
      by_cases h1 : t = i + 1
      · rw [h1, l1]; unfold Digit; omega
      omega)
    (fun h => by have hd := hf (by omega); unfold Delim at hd; unfold Digit; omega)
  have HD1 : Hid (∀ (x : Int), x = ((i + 1 : Nat) : Int) → Calls Ybad.prog 14 #[.slice (some ⟨g, 0, none⟩) n cap, .int .i64 x] w fun e w' => e = .returned (.int .i64 (i + 2 : Nat)) ∧ w' = w) := D1
  clear D1
  clear l0 l1 ha
  have n0 : (i : Int) < (n : Int) := by omega
  have n1 : ((i : Int) + 1) < (n : Int) := by omega
  by_cases hn : i + 2 < n
  · have hd := hf (by omega)
    have cE := ht.cell (i + 2) hn
    obtain ⟨d, hdd⟩ : ∃ d, d = l.getD (i + 2) 0 := ⟨_, rfl⟩
    rw [← hdd] at hd cE
    have e1 : (d == 46) = false := by unfold Delim at hd; simp; omega
    have e2 : (d == 101) = false := by unfold Delim at hd; simp; omega
    have e3 : (d == 69) = false := by unfold Delim at hd; simp; omega
    have nE : ((i : Int) + 2) < (n : Int) := by omega
    clear hd hdd hf ht
    go_enter Ybad.func10, Ybad.ntmps10
    go_wp2_with (first | (go_at_call 14; refine (HD1.out _ (by omega)).mono ?_; rintro e w' ⟨rfl, rfl⟩))
    go_ret2
    exact ⟨ret_two (by omega), rfl⟩
  · have nE : decide (((i : Int) + 2) < (n : Int)) = false := decide_eq_false (by omega)
    clear hf ht
    go_enter Ybad.func10, Ybad.ntmps10
    go_wp2_with (first | (go_at_call 14; refine (HD1.out _ (by omega)).mono ?_; rintro e w' ⟨rfl, rfl⟩))
    go_ret2
    exact ⟨ret_two (by omega), rfl⟩

set_option maxHeartbeats 800000 in
theorem num_325 (g n cap i : Nat) (x : Int) (hx : x = i) (l : List Int) (w : World) (ht : Txt w g n l) (ha : At l i [51, 46, 50, 53]) (hf : Ends l (i + 4)) :
    Calls Ybad.prog 10 #[.slice (some ⟨g, 0, none⟩) n cap, .int .i64 x] w fun e w' => e = .returned (.tuple #[.int .i64 (i + 4 : Nat), .bool true]) ∧ w' = w := by
  subst hx
  have hbig := ht.big
  have hlen : l.length = n := ht.len
  have hin : i + 4 ≤ n := by have := ha.1; simp at this; omega
  have c0 : w.cell? ⟨g, i, none⟩ = some (.int .u8 51) := ha.cell ht 0 (by decide)
  have c1 : w.cell? ⟨g, i + 1, none⟩ = some (.int .u8 46) := ha.cell ht 1 (by decide)
  have c2 : w.cell? ⟨g, i + 2, none⟩ = some (.int .u8 50) := ha.cell ht 2 (by decide)
  have c3 : w.cell? ⟨g, i + 3, none⟩ = some (.int .u8 53) := ha.cell ht 3 (by decide)
  have l0 : l.getD (i + 0) 0 = 51 := ha.2 0 (by decide)
  have l1 : l.getD (i + 1) 0 = 46 := ha.2 1 (by decide)
  have l2 : l.getD (i + 2) 0 = 50 := ha.2 2 (by decide)
  have l3 : l.getD (i + 3) 0 = 53 := ha.2 3 (by decide)
  have D0 : ∀ (x : Int), x = ((i + 0 : Nat) : Int) → Calls Ybad.prog 14 #[.slice (some ⟨g, 0, none⟩) n cap, .int .i64 x] w fun e w' => e = .returned (.int .i64 (i + 1 : Nat)) ∧ w' = w := fun x hx => digits_any g n cap (i + 0) (i + 1) x hx l w ht (by omega) (by omega)
    (fun t h1 h2 => by
      by_cases h0 : t = i + 0
      · rw [h0, l0]; unfold Digit; omega
      omega)
    (fun _ => by rw [l1]; unfold Digit; omega)
  have HD0 : Hid (∀ (x : Int), x = ((i + 0 : Nat) : Int) → Calls Ybad.prog 14 #[.slice (some ⟨g, 0, none⟩) n cap, .int .i64 x] w fun e w' => e = .returned (.int .i64 (i + 1 : Nat)) ∧ w' = w) := D0
  clear D0
  have D2 : ∀ (x : Int), x = ((i + 2 : Nat) : Int) → Calls Ybad.prog 14 #[.slice (some ⟨g, 0, none⟩) n cap, .int .i64 x] w fun e w' => e = .returned (.int .i64 (i + 4 : Nat)) ∧ w' = w := fun x hx => digits_any g n cap (i + 2) (i + 4) x hx l w ht (by omega) (by omega)
    (fun t h1 h2 => by
      by_cases h2 : t = i + 2
      · rw [h2, l2]; unfold Digit; omega
      by_cases h3 : t = i + 3
      · rw [h3, l3]; unfold Digit; omega
      omega)
    (fun h => by have hd := hf (by omega); unfold Delim at hd; unfold Digit; omega)
  have HD2 : Hid (∀ (x : Int), x = ((i + 2 : Nat) : Int) → Calls Ybad.prog 14 #[.slice (some ⟨g, 0, none⟩) n cap, .int .i64 x] w fun e w' => e = .returned (.int .i64 (i + 4 : Nat)) ∧ w' = w) := D2
  clear D2
  clear l0 l1 l2 l3 ha
  have n0 : (i : Int) < (n : Int) := by omega
  have n1 : ((i : Int) + 1) < (n : Int) := by omega
  have n2 : ((i : Int) + 2) < (n : Int) := by omega
  have n3 : ((i : Int) + 3) < (n : Int) := by omega
  by_cases hn : i + 4 < n
  · have hd := hf (by omega)
    have cE := ht.cell (i + 4) hn
    obtain ⟨d, hdd⟩ : ∃ d, d = l.getD (i + 4) 0 := ⟨_, rfl⟩
    rw [← hdd] at hd cE
    have e1 : (d == 46) = false := by unfold Delim at hd; simp; omega
    have e2 : (d == 101) = false := by unfold Delim at hd; simp; omega
    have e3 : (d == 69) = false := by unfold Delim at hd; simp; omega
    have nE : ((i : Int) + 4) < (n : Int) := by omega
    clear hd hdd hf ht
    go_enter Ybad.func10, Ybad.ntmps10
    go_wp2_with (first | (go_at_call 14; refine (HD0.out _ (by omega)).mono ?_; rintro e w' ⟨rfl, rfl⟩) | (go_at_call 14; refine (HD2.out _ (by omega)).mono ?_; rintro e w' ⟨rfl, rfl⟩))
    go_ret2
    exact ⟨ret_two (by omega), rfl⟩
  · have nE : decide (((i : Int) + 4) < (n : Int)) = false := decide_eq_false (by omega)
    clear hf ht
    go_enter Ybad.func10, Ybad.ntmps10
    go_wp2_with (first | (go_at_call 14; refine (HD0.out _ (by omega)).mono ?_; rintro e w' ⟨rfl, rfl⟩) | (go_at_call 14; refine (HD2.out _ (by omega)).mono ?_; rintro e w' ⟨rfl, rfl⟩))
    go_ret2
    exact ⟨ret_two (by omega), rfl⟩

set_option maxHeartbeats 800000 in
theorem num_1e (g n cap i : Nat) (x : Int) (hx : x = i) (l : List Int) (w : World) (ht : Txt w g n l) (ha : At l i [49, 69, 45, 57]) (hf : Ends l (i + 4)) :
    Calls Ybad.prog 10 #[.slice (some ⟨g, 0, none⟩) n cap, .int .i64 x] w fun e w' => e = .returned (.tuple #[.int .i64 (i + 4 : Nat), .bool true]) ∧ w' = w := by
  subst hx
  have hbig := ht.big
  have hlen : l.length = n := ht.len
  have hin : i + 4 ≤ n := by have := ha.1; simp at this; omega
  have c0 : w.cell? ⟨g, i, none⟩ = some (.int .u8 49) := ha.cell ht 0 (by decide)
  have c1 : w.cell? ⟨g, i + 1, none⟩ = some (.int .u8 69) := ha.cell ht 1 (by decide)
  have c2 : w.cell? ⟨g, i + 2, none⟩ = some (.int .u8 45) := ha.cell ht 2 (by decide)
  have c3 : w.cell? ⟨g, i + 3, none⟩ = some (.int .u8 57) := ha.cell ht 3 (by decide)
  have l0 : l.getD (i + 0) 0 = 49 := ha.2 0 (by decide)
  have l1 : l.getD (i + 1) 0 = 69 := ha.2 1 (by decide)
  have l2 : l.getD (i + 2) 0 = 45 := ha.2 2 (by decide)
  have l3 : l.getD (i + 3) 0 = 57 := ha.2 3 (by decide)
  have D0 : ∀ (x : Int), x = ((i + 0 : Nat) : Int) → Calls Ybad.prog 14 #[.slice (some ⟨g, 0, none⟩) n cap, .int .i64 x] w fun e w' => e = .returned (.int .i64 (i + 1 : Nat)) ∧ w' = w := fun x hx => digits_any g n cap (i + 0) (i + 1) x hx l w ht (by omega) (by omega)
    (fun t h1 h2 => by
      by_cases h0 : t = i + 0
      · rw [h0, l0]; unfold Digit; omega
      omega)
    (fun _ => by rw [l1]; unfold Digit; omega)
  have HD0 : Hid (∀ (x : Int), x = ((i + 0 : Nat) : Int) → Calls Ybad.prog 14 #[.slice (some ⟨g, 0, none⟩) n cap, .int .i64 x] w fun e w' => e = .returned (.int .i64 (i + 1 : Nat)) ∧ w' = w) := D0
  clear D0
  have D3 : ∀ (x : Int), x = ((i + 3 : Nat) : Int) → Calls Ybad.prog 14 #[.slice (some ⟨g, 0, none⟩) n cap, .int .i64 x] w fun e w' => e = .returned (.int .i64 (i + 4 : Nat)) ∧ w' = w := fun x hx => digits_any g n cap (i + 3) (i + 4) x hx l w ht (by omega) (by omega)
    (fun t h1 h2 => by
      by_cases h3 : t = i + 3
      · rw [h3, l3]; unfold Digit; omega
      omega)
    (fun h => by have hd := hf (by omega); unfold Delim at hd; unfold Digit; omega)
  have HD3 : Hid (∀ (x : Int), x = ((i + 3 : Nat) : Int) → Calls Ybad.prog 14 #[.slice (some ⟨g, 0, none⟩) n cap, .int .i64 x] w fun e w' => e = .returned (.int .i64 (i + 4 : Nat)) ∧ w' = w) := D3
  clear D3
  clear l0 l1 l2 l3 ha
  have n0 : (i : Int) < (n : Int) := by omega
  have n1 : ((i : Int) + 1) < (n : Int) := by omega
  have n2 : ((i : Int) + 2) < (n : Int) := by omega
  have n3 : ((i : Int) + 3) < (n : Int) := by omega
  by_cases hn : i + 4 < n
  · have hd := hf (by omega)
    have cE := ht.cell (i + 4) hn
    obtain ⟨d, hdd⟩ : ∃ d, d = l.getD (i + 4) 0 := ⟨_, rfl⟩
    rw [← hdd] at hd cE
    have e1 : (d == 46) = false := by unfold Delim at hd; simp; omega
    have e2 : (d == 101) = false := by unfold Delim at hd; simp; omega
    have e3 : (d == 69) = false := by unfold Delim at hd; simp; omega
    have nE : ((i : Int) + 4) < (n : Int) := by omega
    clear hd hdd hf ht
    go_enter Ybad.func10, Ybad.ntmps10
    go_wp2_with (first | (go_at_call 14; refine (HD0.out _ (by omega)).mono ?_; rintro e w' ⟨rfl, rfl⟩) | (go_at_call 14; refine (HD3.out _ (by omega)).mono ?_; rintro e w' ⟨rfl, rfl⟩))
    go_ret2
    exact ⟨ret_two (by omega), rfl⟩
  · have nE : decide (((i : Int) + 4) < (n : Int)) = false := decide_eq_false (by omega)
    clear hf ht
    go_enter Ybad.func10, Ybad.ntmps10
    go_wp2_with (first | (go_at_call 14; refine (HD0.out _ (by omega)).mono ?_; rintro e w' ⟨rfl, rfl⟩) | (go_at_call 14; refine (HD3.out _ (by omega)).mono ?_; rintro e w' ⟨rfl, rfl⟩))
    go_ret2
    exact ⟨ret_two (by omega), rfl⟩

set_option maxHeartbeats 800000 in
theorem num_05 (g n cap i : Nat) (x : Int) (hx : x = i) (l : List Int) (w : World) (ht : Txt w g n l) (ha : At l i [45, 48, 46, 53, 101, 43, 49, 48]) (hf : Ends l (i + 8)) :
    Calls Ybad.prog 10 #[.slice (some ⟨g, 0, none⟩) n cap, .int .i64 x] w fun e w' => e = .returned (.tuple #[.int .i64 (i + 8 : Nat), .bool true]) ∧ w' = w := by
  subst hx
  have hbig := ht.big
  have hlen : l.length = n := ht.len
  have hin : i + 8 ≤ n := by have := ha.1; simp at this; omega
  have c0 : w.cell? ⟨g, i, none⟩ = some (.int .u8 45) := ha.cell ht 0 (by decide)
  have c1 : w.cell? ⟨g, i + 1, none⟩ = some (.int .u8 48) := ha.cell ht 1 (by decide)
  have c2 : w.cell? ⟨g, i + 2, none⟩ = some (.int .u8 46) := ha.cell ht 2 (by decide)
  have c3 : w.cell? ⟨g, i + 3, none⟩ = some (.int .u8 53) := ha.cell ht 3 (by decide)
  have c4 : w.cell? ⟨g, i + 4, none⟩ = some (.int .u8 101) := ha.cell ht 4 (by decide)
  have c5 : w.cell? ⟨g, i + 5, none⟩ = some (.int .u8 43) := ha.cell ht 5 (by decide)
  have c6 : w.cell? ⟨g, i + 6, none⟩ = some (.int .u8 49) := ha.cell ht 6 (by decide)
  have c7 : w.cell? ⟨g, i + 7, none⟩ = some (.int .u8 48) := ha.cell ht 7 (by decide)
  have l0 : l.getD (i + 0) 0 = 45 := ha.2 0 (by decide)
  have l1 : l.getD (i + 1) 0 = 48 := ha.2 1 (by decide)
  have l2 : l.getD (i + 2) 0 = 46 := ha.2 2 (by decide)
  have l3 : l.getD (i + 3) 0 = 53 := ha.2 3 (by decide)
  have l4 : l.getD (i + 4) 0 = 101 := ha.2 4 (by decide)
  have l5 : l.getD (i + 5) 0 = 43 := ha.2 5 (by decide)
  have l6 : l.getD (i + 6) 0 = 49 := ha.2 6 (by decide)
  have l7 : l.getD (i + 7) 0 = 48 := ha.2 7 (by decide)
  have D3 : ∀ (x : Int), x = ((i + 3 : Nat) : Int) → Calls Ybad.prog 14 #[.slice (some ⟨g, 0, none⟩) n cap, .int .i64 x] w fun e w' => e = .returned (.int .i64 (i + 4 : Nat)) ∧ w' = w := fun x hx => digits_any g n cap (i + 3) (i + 4) x hx l w ht (by omega) (by omega)
    (fun t h1 h2 => by
      by_cases h3 : t = i + 3
      · rw [h3, l3]; unfold Digit; omega
      omega)
    (fun _ => by rw [l4]; unfold Digit; omega)
  have HD3 : Hid (∀ (x : Int), x = ((i + 3 : Nat) : Int) → Calls Ybad.prog 14 #[.slice (some ⟨g, 0, none⟩) n cap, .int .i64 x] w fun e w' => e = .returned (.int .i64 (i + 4 : Nat)) ∧ w' = w) := D3
  clear D3
  have D6 : ∀ (x : Int), x = ((i + 6 : Nat) : Int) → Calls Ybad.prog 14 #[.slice (some ⟨g, 0, none⟩) n cap, .int .i64 x] w fun e w' => e = .returned (.int .i64 (i + 8 : Nat)) ∧ w' = w := fun x hx => digits_any g n cap (i + 6) (i + 8) x hx l w ht (by omega) (by omega)
    (fun t h1 h2 => by
      by_cases h6 : t = i + 6
      · rw [h6, l6]; unfold Digit; omega
      by_cases h7 : t = i + 7
      · rw [h7, l7]; unfold Digit; omega
      omega)
    (fun h => by have hd := hf (by omega); unfold Delim at hd; unfold Digit; omega)
  have HD6 : Hid (∀ (x : Int), x = ((i + 6 : Nat) : Int) → Calls Ybad.prog 14 #[.slice (some ⟨g, 0, none⟩) n cap, .int .i64 x] w fun e w' => e = .returned (.int .i64 (i + 8 : Nat)) ∧ w' = w) := D6
  clear D6
  clear l0 l1 l2 l3 l4 l5 l6 l7 ha
  have n0 : (i : Int) < (n : Int) := by omega
  have n1 : ((i : Int) + 1) < (n : Int) := by omega
  have n2 : ((i : Int) + 2) < (n : Int) := by omega
  have n3 : ((i : Int) + 3) < (n : Int) := by omega
  have n4 : ((i : Int) + 4) < (n : Int) := by omega
  have n5 : ((i : Int) + 5) < (n : Int) := by omega
  have n6 : ((i : Int) + 6) < (n : Int) := by omega
  have n7 : ((i : Int) + 7) < (n : Int) := by omega
  by_cases hn : i + 8 < n
  · have hd := hf (by omega)
    have cE := ht.cell (i + 8) hn
    obtain ⟨d, hdd⟩ : ∃ d, d = l.getD (i + 8) 0 := ⟨_, rfl⟩
    rw [← hdd] at hd cE
    have e1 : (d == 46) = false := by unfold Delim at hd; simp; omega
    have e2 : (d == 101) = false := by unfold Delim at hd; simp; omega
    have e3 : (d == 69) = false := by unfold Delim at hd; simp; omega
    have nE : ((i : Int) + 8) < (n : Int) := by omega
    clear hd hdd hf ht
    go_enter Ybad.func10, Ybad.ntmps10
    go_wp2_with (first | (go_at_call 14; refine (HD3.out _ (by omega)).mono ?_; rintro e w' ⟨rfl, rfl⟩) | (go_at_call 14; refine (HD6.out _ (by omega)).mono ?_; rintro e w' ⟨rfl, rfl⟩))
    go_ret2
    exact ⟨ret_two (by omega), rfl⟩
  · have nE : decide (((i : Int) + 8) < (n : Int)) = false := decide_eq_false (by omega)
    clear hf ht
    go_enter Ybad.func10, Ybad.ntmps10
    go_wp2_with (first | (go_at_call 14; refine (HD3.out _ (by omega)).mono ?_; rintro e w' ⟨rfl, rfl⟩) | (go_at_call 14; refine (HD6.out _ (by omega)).mono ?_; rintro e w' ⟨rfl, rfl⟩))
    go_ret2
    exact ⟨ret_two (by omega), rfl⟩

set_option maxHeartbeats 800000 in
theorem word_any (g n cap i : Nat) (x : Int) (hx : x = i) (l : List Int) (w : World) (ht : Txt w g n l) (hcap : n ≤ cap) (bs : List Int) (m : Nat) (hm : bs.length = m) (hm0 : 0 < m) (ha : At l i bs) :
    Calls Ybad.prog 9 #[.slice (some ⟨g, 0, none⟩) n cap, .int .i64 x, .string (strOfNums bs)] w fun e w' => e = .returned (.tuple #[.int .i64 (i + m : Nat), .bool true]) ∧ w' = w := by
  subst hx
  have hbig := ht.big
  have hlen : l.length = n := ht.len
  have hin : i + m ≤ n := by have := ha.1; omega
  have hsz : (strOfNums bs).size = m := by rw [strOfNums_size]; exact hm
  have hconv := run_convert_bytes_arg (P := Ybad.prog) w 22 5 Ybad.underlying22 Ybad.underlying5 g i m (cap - i) bs hm (fun t h => ha.cell ht t (by omega)) 9 Ybad.underlying9
  obtain ⟨s, hs⟩ : ∃ s, strOfNums bs = s := ⟨_, rfl⟩
  rw [hs] at hconv hsz ⊢
  have hne : ¬ cap = i := by omega
  have d1 : decide ((n : Int) < (i : Int) + (m : Int)) = false := decide_eq_false (by omega)
  have hi1 : (i : Int) ≤ (i : Int) + (m : Int) := by omega
  have hi2 : (i : Int) + (m : Int) ≤ (cap : Int) := by omega
  clear hs ht ha hm
  go_enter Ybad.func9, Ybad.ntmps9
  go_wp2
  go_ret2
  exact ⟨ret_two (by omega), rfl⟩

end Go.Proofs.YbulkxxiDoor
