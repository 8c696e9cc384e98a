/-
  THE LAW's WALK: action.LawS1204CModel.
-/
import Derived.Test.YbulkxxiFold
namespace Go.Proofs.Ybulkxxi
open Go.RowKit

theorem bool_of {r : Bool} {p : Prop} (h : r = true ↔ p) (hp : p) : r = true := h.2 hp
theorem bool_not {r : Bool} {p : Prop} (h : r = true ↔ p) (hp : ¬ p) : r = false := by
  cases r
  · rfl
  · exact absurd (h.1 rfl) hp

set_option maxHeartbeats 800000 in
theorem model_in (a b : ByteArray) (ha : a.size ≤ 1024) (hb : b.size ≤ 1024) (w : World) :
    Calls Yba.prog 3 #[.string a, .string b] w fun e w' => e = .returned (.bool true) ∧ ∃ n, w' = w.drewN n := by
  have da : decide ((1024 : Int) < a.size) = false := decide_eq_false (by omega)
  have db : decide ((1024 : Int) < b.size) = false := decide_eq_false (by omega)
  by_cases hs : a.size = b.size
  · have hne : ((a.size : Int) == (b.size : Int)) = true := by simp [hs]
    have HS : Hid (a.size = b.size) := hs
    clear hs
    go_enter Yba.func3, Yba.ntmps3
    go_wp2_with fail
    go_loopw [5, 6] (fun want i wr => ∃ k : Nat, k ≤ a.size ∧ i = .int .i64 k ∧ want = .bool true ∧ (∀ j, j < k → low (bt a j) = low (bt b j)) ∧ ∃ m, wr = w.drewN m) (fun _ i _ => a.size - (intOf i).toNat)
    case atStart => exact ⟨0, Nat.zero_le _, rfl, rfl, fun j hj => by omega, 0, rfl⟩
    case round =>
      obtain ⟨k, hk, rfl, rfl, hj, m, hm⟩ := hrel
      have HM : Hid (wr = w.drewN m) := hm
      have HJ : Hid (∀ j, j < k → low (bt a j) = low (bt b j)) := hj
      clear hj hm
      by_cases hlt : k < a.size
      · have hlb : k < b.size := by have := HS.out; omega
        have hI : (k : Int) < (a.size : Int) := by omega
        have hI2 : (k : Int) < (b.size : Int) := by omega
        have ea := bt_eq a k hlt
        have eb := bt_eq b k hlb
        have ra := bt_range a k
        have rb := bt_range b k
        go_wp2_with fail
        go_quiet ((go_at_call 5; exact Calls.quiet_of_same (same_any _ _ (by omega) (by omega) (by omega) (by omega) _)))
        by_cases he : low (bt a k) = low (bt b k)
        · have hd : decide (low (bt a k) = low (bt b k)) = true := decide_eq_true he
          rw [hd]
          have HE : Hid (low (bt a k) = low (bt b k)) := he
          clear he hd
          go_wp2
          go_roundw
          case rel => exact ⟨k + 1, by omega, by go_num, rfl, fun j hj => by
            by_cases h : j < k
            · exact HJ.out j h
            · obtain rfl : j = k := by omega
              exact HE.out, m + nq, by rw [HM.out, World.drewN_drewN]⟩
          case measure => simp [intOf]; omega
        · have hd : decide (low (bt a k) = low (bt b k)) = false := decide_eq_false he
          rw [hd]
          have HE : Hid (¬ low (bt a k) = low (bt b k)) := he
          clear he hd
          go_wp2_with (go_at_call 6; refine (fold_any a b ha _).mono ?_; rintro e w' ⟨r, rfl, hr, n, rfl⟩; obtain rfl := bool_not hr (fun h => HE.out (h.2 k hlt)); clear hr)
          go_ret
          exact ⟨rfl, m + (nq + n), by rw [HM.out, World.drewN_drewN]⟩
      · have hSame : Same a b := ⟨HS.out, fun i hi => HJ.out i (by omega)⟩
        have HE : Hid (Same a b) := hSame
        clear hSame
        go_wp2_with (go_at_call 6; refine (fold_any a b ha _).mono ?_; rintro e w' ⟨r, rfl, hr, n, rfl⟩; obtain rfl := bool_of hr HE.out; clear hr)
        go_ret
        exact ⟨rfl, m + n, by rw [HM.out, World.drewN_drewN]⟩
  · have hne : ((a.size : Int) == (b.size : Int)) = false := by simp; omega
    have HS : Hid (¬ a.size = b.size) := hs
    clear hs
    go_enter Yba.func3, Yba.ntmps3
    go_wp2_with (go_at_call 6; refine (fold_any a b ha _).mono ?_; rintro e w' ⟨r, rfl, hr, n, rfl⟩; obtain rfl := bool_not hr (fun h => HS.out h.1); clear hr)
    go_ret
    exact ⟨rfl, n, rfl⟩
end Go.Proofs.Ybulkxxi
