/-
  THE CALLEES: action.lower, zzs1204cletter, zzs1204csame, equalFold.
-/
import Derived.Test.YbulkxxiRows
import Derived.WalkKit
import Derived.ProofKit
import Derived.OpenShut
import Derived.ShutString
import Derived.Deep.QuietTactic
import Derived.BigQuiet
import Derived.WalkSmall
namespace Go.Proofs.Ybulkxxi
open Go.RowKit

def low (c : Int) : Int := if 65 ≤ c ∧ c ≤ 90 then c + 32 else c

theorem low_any (c : Int) (h0 : 0 ≤ c) (h1 : c ≤ 255) (w : World) :
    Calls Yba.prog 8 #[.int .u8 c] w fun e w' => e = .returned (.int .u8 (low c)) ∧ w' = w := by
  by_cases h : 65 ≤ c
  · by_cases h' : c ≤ 90
    · have e : low c = c + 97 - 65 := by unfold low; rw [if_pos ⟨h, h'⟩]; omega
      rw [e]
      clear e
      go_enter Yba.func8, Yba.ntmps8
      go_wp2
      go_ret
      exact ⟨rfl, rfl⟩
    · have e : low c = c := by unfold low; rw [if_neg (by omega)]
      rw [e]
      clear e
      go_enter Yba.func8, Yba.ntmps8
      go_wp2
      go_ret
      exact ⟨rfl, rfl⟩
  · have e : low c = c := by unfold low; rw [if_neg (by omega)]
    rw [e]
    clear e
    have hd : decide (65 ≤ c) = false := decide_eq_false h
    go_enter Yba.func8, Yba.ntmps8
    go_wp2
    go_ret
    exact ⟨rfl, rfl⟩

def letB (c : Int) : Bool := decide ((97 ≤ c ∧ c ≤ 122) ∨ (65 ≤ c ∧ c ≤ 90))

theorem let_any (c : Int) (h0 : 0 ≤ c) (h1 : c ≤ 255) (w : World) :
    Calls Yba.prog 7 #[.int .u8 c] w fun e w' => e = .returned (.bool (letB c)) ∧ w' = w := by
  by_cases h : 97 ≤ c
  · by_cases h' : c ≤ 122
    · have e : letB c = true := decide_eq_true (by omega)
      rw [e]; clear e
      go_enter Yba.func7, Yba.ntmps7
      go_wp2
      go_ret
      exact ⟨rfl, rfl⟩
    · have e : letB c = false := decide_eq_false (by omega)
      rw [e]; clear e
      have d1 : decide (c ≤ 122) = false := decide_eq_false h'
      have d2 : decide (65 ≤ c) = true := decide_eq_true (by omega)
      have d3 : decide (c ≤ 90) = false := decide_eq_false (by omega)
      go_enter Yba.func7, Yba.ntmps7
      go_wp2
      go_ret
      exact ⟨rfl, rfl⟩
  · have d0 : decide (97 ≤ c) = false := decide_eq_false h
    by_cases h' : 65 ≤ c
    · by_cases h'' : c ≤ 90
      · have e : letB c = true := decide_eq_true (by omega)
        rw [e]; clear e
        go_enter Yba.func7, Yba.ntmps7
        go_wp2
        go_ret
        exact ⟨rfl, rfl⟩
      · have e : letB c = false := decide_eq_false (by omega)
        rw [e]; clear e
        have d3 : decide (c ≤ 90) = false := decide_eq_false (by omega)
        go_enter Yba.func7, Yba.ntmps7
        go_wp2
        go_ret
        exact ⟨rfl, rfl⟩
    · have e : letB c = false := decide_eq_false (by omega)
      rw [e]; clear e
      have d2 : decide (65 ≤ c) = false := decide_eq_false (by omega)
      go_enter Yba.func7, Yba.ntmps7
      go_wp2
      go_ret
      exact ⟨rfl, rfl⟩

/-- Byte i of a string. -/
def bt (s : ByteArray) (i : Nat) : Int := ((s.data.toList.getD i 0).toNat : Int)
theorem bt_eq (s : ByteArray) (i : Nat) (h : i < s.size) : (s[i].toNat : Int) = bt s i := by
  unfold bt
  have h' : i < s.data.toList.length := by simpa using h
  rw [List.getD_eq_getElem?_getD, List.getElem?_eq_getElem h']
  rfl
theorem bt_range (s : ByteArray) (i : Nat) : 0 ≤ bt s i ∧ bt s i ≤ 255 := by
  unfold bt
  have := (s.data.toList.getD i 0).toNat_lt
  omega

/-- What equalFold answers. -/
def Same (a b : ByteArray) : Prop := a.size = b.size ∧ ∀ i, i < a.size → low (bt a i) = low (bt b i)

set_option maxHeartbeats 800000 in
theorem fold_any (a b : ByteArray) (ha : a.size ≤ 1024) (w : World) :
    Calls Yba.prog 6 #[.string a, .string b] w fun e w' => ∃ r : Bool, e = .returned (.bool r) ∧ (r = true ↔ Same a b) ∧ ∃ n, w' = w.drewN n := by
  by_cases hs : a.size = b.size
  · have hne : ((a.size : Int) != (b.size : Int)) = false := by simp [hs]
    have HS : Hid (a.size = b.size) := hs
    clear hs
    go_enter Yba.func6, Yba.ntmps6
    go_wp2
    go_loopw [5] (fun i wr => ∃ k : Nat, k ≤ a.size ∧ i = .int .i64 k ∧ (∀ j, j < k → low (bt a j) = low (bt b j)) ∧ ∃ m, wr = w.drewN m) (fun i _ => a.size - (intOf i).toNat)
    case atStart => exact ⟨0, Nat.zero_le _, rfl, fun j hj => by omega, 0, rfl⟩
    case round =>
      obtain ⟨k, hk, rfl, hj, m, hm⟩ := hrel
      have HM : Hid (wr = w.drewN m) := hm
      clear hm
      have HJ : Hid (∀ j, j < k → low (bt a j) = low (bt b j)) := hj
      clear hj
      by_cases hlt : k < a.size
      · have hlb : k < b.size := by have := HS.out; omega
        have hI : (k : Int) < (a.size : Int) := by omega
        have hI2 : (k : Int) < (b.size : Int) := by omega
        have ea := bt_eq a k hlt
        have eb := bt_eq b k hlb
        have ra := bt_range a k
        have rb := bt_range b k
        go_wp2
        go_quiet ((go_at_call 8; exact Calls.quiet_of_same (low_any _ (by omega) (by omega) _)))
        obtain ⟨x, hx⟩ : ∃ x, x = low (bt a k) := ⟨_, rfl⟩
        obtain ⟨y, hy⟩ : ∃ y, y = low (bt b k) := ⟨_, rfl⟩
        rw [← hx, ← hy]
        have HX : Hid (x = low (bt a k)) := hx
        have HY : Hid (y = low (bt b k)) := hy
        clear hx hy
        cases hxy : (x != y)
        · have he : x = y := by simpa using hxy
          have HE : Hid (low (bt a k) = low (bt b k)) := by rw [← HX.out, ← HY.out]; exact he
          clear he
          go_wp2
          go_roundw
          case rel => exact ⟨k + 1, by omega, by go_num, fun j hj => by
            by_cases h : j < k
            · exact HJ.out j h
            · obtain rfl : j = k := by omega
              exact HE.out, m + nq, by rw [HM.out, World.drewN_drewN]⟩
          case measure => simp [intOf]; omega
        · have he : x ≠ y := by simpa using hxy
          have HE : Hid (¬ low (bt a k) = low (bt b k)) := by rw [← HX.out, ← HY.out]; exact he
          clear he
          go_wp2
          go_ret
          exact ⟨false, rfl, ⟨fun h => by simp at h, fun h => absurd (h.2 k hlt) HE.out⟩, m + nq, by rw [HM.out, World.drewN_drewN]⟩
      · go_wp2
        go_ret
        have : k = a.size := by omega
        exact ⟨true, rfl, ⟨fun _ => ⟨HS.out, fun i hi => HJ.out i (by omega)⟩, fun _ => rfl⟩, m, HM.out⟩
  · have hne : ((a.size : Int) != (b.size : Int)) = true := by simp; omega
    have HS : Hid (¬ a.size = b.size) := hs
    clear hs
    go_enter Yba.func6, Yba.ntmps6
    go_wp2
    go_ret
    exact ⟨false, rfl, ⟨fun h => by simp at h, fun h => absurd h.1 HS.out⟩, 0, rfl⟩

/-- 'c ^ 32' of a letter: the other case. -/
theorem xor_let (c : Int) (h0 : 0 ≤ c) (h1 : c ≤ 255) (hl : letB c = true) : bits .xor .u8 c 32 = if c ≤ 90 then c + 32 else c - 32 := by
  have key : ∀ n : Nat, n < 256 → letB (n : Int) = true → bits .xor .u8 (n : Int) 32 = if (n : Int) ≤ 90 then (n : Int) + 32 else (n : Int) - 32 := by decide +kernel
  obtain ⟨n, rfl⟩ := Int.eq_ofNat_of_zero_le h0
  exact key n (by omega) hl

theorem letB_iff (c : Int) : letB c = true ↔ (97 ≤ c ∧ c ≤ 122) ∨ (65 ≤ c ∧ c ≤ 90) := by unfold letB; simp

theorem same_iff (c d : Int) (h0 : 0 ≤ c) (h1 : c ≤ 255) (hne : c ≠ d) : (bits .xor .u8 c 32 = d ∧ letB c = true ∧ letB d = true) ↔ low c = low d := by
  constructor
  · rintro ⟨e, hc, hd⟩
    rw [xor_let c h0 h1 hc] at e
    rw [letB_iff] at hc hd
    unfold low
    split at e <;> split <;> split <;> omega
  · intro e
    have hc : letB c = true := by
      rw [letB_iff]; unfold low at e; split at e <;> split at e <;> omega
    have hd : letB d = true := by
      rw [letB_iff]; unfold low at e; split at e <;> split at e <;> omega
    refine ⟨?_, hc, hd⟩
    rw [xor_let c h0 h1 hc]
    rw [letB_iff] at hc hd
    unfold low at e
    split at e <;> split at e <;> split <;> omega

theorem same_any (c d : Int) (h0 : 0 ≤ c) (h1 : c ≤ 255) (k0 : 0 ≤ d) (k1 : d ≤ 255) (w : World) :
    Calls Yba.prog 5 #[.int .u8 c, .int .u8 d] w fun e w' => e = .returned (.bool (decide (low c = low d))) ∧ w' = w := by
  by_cases hcd : c = d
  · subst hcd
    rw [decide_eq_true rfl]
    go_enter Yba.func5, Yba.ntmps5
    go_wp2
    go_ret
    exact ⟨rfl, rfl⟩
  · have HI := same_iff c d h0 h1 hcd
    have hb : (c == d) = false := by simpa using hcd
    have HH : Hid ((bits .xor .u8 c 32 = d ∧ letB c = true ∧ letB d = true) ↔ low c = low d) := HI
    clear HI hcd
    obtain ⟨x, hx⟩ : ∃ x, bits .xor .u8 c 32 = x := ⟨_, rfl⟩
    have HX : Hid (bits .xor .u8 c 32 = x) := hx
    have HR : Hid (∀ r : Bool, (r = true ↔ low c = low d) → r = decide (low c = low d)) := fun r hr => by
      cases r
      · exact (decide_eq_false (fun h => by simpa using hr.2 h)).symm
      · exact (decide_eq_true (hr.1 rfl)).symm
    cases hxd : (x == d)
    · have e : decide (low c = low d) = false := decide_eq_false (fun h => by have := (HH.out.2 h).1; rw [HX.out] at this; simp [this] at hxd)
      rw [e]; clear e
      go_enter Yba.func5, Yba.ntmps5
      go_wp2
      go_ret
      exact ⟨rfl, rfl⟩
    · have hxe : x = d := by simpa using hxd
      cases hlc : letB c
      · have e : decide (low c = low d) = false := decide_eq_false (fun h => by have := (HH.out.2 h).2.1; rw [hlc] at this; simp at this)
        rw [e]; clear e hxe
        go_enter Yba.func5, Yba.ntmps5
        go_wp2_with (go_at_call 7; refine (let_any _ (by omega) (by omega) _).mono ?_; rintro e w' ⟨rfl, rfl⟩)
        go_ret
        exact ⟨rfl, rfl⟩
      · cases hld : letB d
        · have e : decide (low c = low d) = false := decide_eq_false (fun h => by have := (HH.out.2 h).2.2; rw [hld] at this; simp at this)
          rw [e]; clear e hxe
          go_enter Yba.func5, Yba.ntmps5
          go_wp2_with (go_at_call 7; refine (let_any _ (by omega) (by omega) _).mono ?_; rintro e w' ⟨rfl, rfl⟩)
          go_ret
          exact ⟨rfl, rfl⟩
        · have e : decide (low c = low d) = true := decide_eq_true (HH.out.1 ⟨by rw [HX.out]; exact hxe, hlc, hld⟩)
          rw [e]; clear e hxe
          go_enter Yba.func5, Yba.ntmps5
          go_wp2_with (go_at_call 7; refine (let_any _ (by omega) (by omega) _).mono ?_; rintro e w' ⟨rfl, rfl⟩)
          go_ret
          exact ⟨rfl, rfl⟩
end Go.Proofs.Ybulkxxi
