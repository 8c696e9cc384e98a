/-
  THE CALLEES: (encoding/binary.bigEndian).Uint16 and pcap.ethernetPayload.
-/
import Derived.Test.YbulkxwuRows
import Derived.WalkKit
import Derived.RegionTactic
import Derived.Deep.RegionWith
import Derived.Deep.Cut
import Derived.Deep.CutRange
import Derived.Lib.EndianBits
import Derived.Deep.Draws
namespace Go.Proofs.Ybulkxwu
open Go.RowKit

theorem cellAlloc {W : World} {a : Addr} {v : Value} (o : Obj) (h : W.cell? a = some v) : (W.alloc o).cell? a = some v := by
  rw [World.cell?_alloc_old _ _ _ (Nat.ne_of_lt (World.block_lt_of_cell? _ _ h))]; exact h

theorem u16_any (g o n c : Nat) (x y : Int) (hx : 0 ≤ x ∧ x ≤ 255) (hy : 0 ≤ y ∧ y ≤ 255) (w : World) (hn : 2 ≤ n)
    (c0 : w.cell? ⟨g, o, none⟩ = some (.int .u8 x)) (c1 : w.cell? ⟨g, o + 1, none⟩ = some (.int .u8 y)) :
    Calls Yba.prog 7 #[.agg #[], .slice (some ⟨g, o, none⟩) n c] w fun e w' => e = .returned (.int .u16 (x * 256 + y)) ∧ Below w.heap.size w w' := by
  obtain ⟨x, rfl⟩ := Int.eq_ofNat_of_zero_le hx.1
  obtain ⟨y, rfl⟩ := Int.eq_ofNat_of_zero_le hy.1
  have hx1 : x < 256 := by omega
  have hy1 : y < 256 := by omega
  have d0 := cellAlloc (.cells #[] 34) c0
  have e0 : (w.alloc (.cells #[] 34)).drew.cell? ⟨g, o, none⟩ = some (.int .u8 x) := d0
  have d1 := cellAlloc (.cells #[] 34) c1
  have e1 : (w.alloc (.cells #[] 34)).drew.cell? ⟨g, o + 1, none⟩ = some (.int .u8 y) := d1
  have hl0 : (0 : Int) < n := by omega
  have hl1 : (1 : Int) < n := by omega
  go_enter Yba.func7, Yba.ntmps7
  go_wp2
  go_region
  go_wp2
  go_ret
  refine ⟨?_, Below.drew ((Below.refl _ w).alloc (Nat.le_refl _) _)⟩
  simp (disch := omega) only [u16_or8]
  exact congrArg (fun z => Ending.returned (.int .u16 z)) (by omega)

def lenV : Value → Nat | .slice _ n _ => n | _ => 0

set_option maxHeartbeats 1600000 in
theorem eth_any (g cap n T P : Nat) (l : List Int) (fin : Int) (w : World) (hn : n = 14 + 4 * T + P) (hcap : n ≤ cap) (hg : g < w.heap.size)
    (hc : ∀ j, j < n → w.cell? ⟨g, j, none⟩ = some (.int .u8 (l.getD j 0)))
    (hr : ∀ j, 0 ≤ l.getD j 0 ∧ l.getD j 0 ≤ 255)
    (htag : ∀ k, k < T → l.getD (12 + 4 * k) 0 * 256 + l.getD (12 + 4 * k + 1) 0 = 33024 ∨ l.getD (12 + 4 * k) 0 * 256 + l.getD (12 + 4 * k + 1) 0 = 34984)
    (hfin : l.getD (12 + 4 * T) 0 * 256 + l.getD (12 + 4 * T + 1) 0 = fin) (hf1 : fin ≠ 33024) (hf2 : fin ≠ 34984) :
    Calls Yba.prog 5 #[.slice (some ⟨g, 0, none⟩) n cap] w fun e w' => Below w.heap.size w w' ∧ (fin ≠ 2048 → e = .returned (.slice none 0 0)) ∧
      (fin = 2048 → ∃ o, e = .returned (.slice (some ⟨g, o, none⟩) P (cap - (14 + 4 * T))) ∧ (0 < P → o = 14 + 4 * T)) := by
  have hnT : 14 + 4 * T ≤ n := by omega
  have HN : Hid (n = 14 + 4 * T + P) := hn
  have HF : Hid (l.getD (12 + 4 * T) 0 * 256 + l.getD (12 + 4 * T + 1) 0 = fin) := hfin
  have HC : Hid (∀ j, j < n → w.cell? ⟨g, j, none⟩ = some (.int .u8 (l.getD j 0))) := hc
  have HR : Hid (∀ j, 0 ≤ l.getD j 0 ∧ l.getD j 0 ≤ 255) := hr
  have HT : Hid (∀ k, k < T → l.getD (12 + 4 * k) 0 * 256 + l.getD (12 + 4 * k + 1) 0 = 33024 ∨ l.getD (12 + 4 * k) 0 * 256 + l.getD (12 + 4 * k + 1) 0 = 34984) := htag
  obtain ⟨ty, hty⟩ : ∃ ty : Nat → Int, ∀ k, ty k = l.getD (12 + 4 * k) 0 * 256 + l.getD (12 + 4 * k + 1) 0 := ⟨_, fun _ => rfl⟩
  have HY : Hid (∀ k, ty k = l.getD (12 + 4 * k) 0 * 256 + l.getD (12 + 4 * k + 1) 0) := hty
  have hU : ∀ k o c (wx : World) m, 2 ≤ m → 12 + 4 * k + 2 ≤ n → Below w.heap.size w wx → o = 12 + 4 * k → Calls Yba.prog 7 #[.agg #[], .slice (some ⟨g, o, none⟩) m c] wx fun e w' => e = .returned (.int .u16 (ty k)) ∧ Below wx.heap.size wx w' := by
    intro k o c wx m hm hk hb ho
    subst ho
    rw [hty]
    exact u16_any g (12 + 4 * k) m c _ _ (hr _) (hr _) wx hm ((hb.cell (p := ⟨g, _, none⟩) hg).trans (hc _ (by omega))) ((hb.cell (p := ⟨g, _, none⟩) hg).trans (hc _ (by omega)))
  have HU : Hid (∀ k o c (wx : World) m, 2 ≤ m → 12 + 4 * k + 2 ≤ n → Below w.heap.size w wx → o = 12 + 4 * k → Calls Yba.prog 7 #[.agg #[], .slice (some ⟨g, o, none⟩) m c] wx fun e w' => e = .returned (.int .u16 (ty k)) ∧ Below wx.heap.size wx w') := hU
  clear hn hfin hc hr htag hty hU
  have h14 : ¬ (n : Int) < 14 := by omega
  have h12a : (12 : Int) ≤ n := by omega
  have h14a : (14 : Int) ≤ n := by omega
  have hcI : (n : Int) ≤ cap := by omega
  have hne12 : ¬ cap = 12 := by omega
  obtain ⟨o14, hA14, hO14⟩ : ∃ o, (if cap = 14 then some (⟨g, 0, none⟩ : Addr) else some ⟨g, 14, none⟩) = some ⟨g, o, none⟩ ∧ Hid (14 < cap → o = 14) := by
    by_cases h : cap = 14
    · exact ⟨0, by simp [h], fun h' => by omega⟩
    · exact ⟨14, by simp [h], fun _ => rfl⟩
  go_enter Yba.func5, Yba.ntmps5
  go_wp2_with fail
  go_cut [3, 4] from 5 to 13 (fun et rest wx => et = .int .u16 (ty 0) ∧ (∃ o, rest = .slice (some ⟨g, o, none⟩) (n - 14) (cap - 14) ∧ (14 < cap → o = 14)) ∧ Below w.heap.size w wx)
  case first =>
    go_region_with (go_at_call 7; refine (HU.out 0 _ _ _ _ (by omega) (by omega) (by exact (Below.refl _ _).drew) rfl).mono ?_; rintro e w1 ⟨rfl, hb1⟩)
    all_goals (try go_wp2_with fail)
    all_goals go_meet
    all_goals exact ⟨rfl, ⟨o14, rfl, hO14.out⟩, (Below.refl _ _).drew.trans hb1⟩
  case rest =>
    obtain ⟨rfl, ⟨o, rfl, ho⟩, hb0⟩ := hcut
    have HO : Hid (14 < cap → o = 14) := ho
    clear ho hA14 hO14
    go_wp2_with fail
    go_loopw [3, 4] (fun et rest wr => ∃ k o, k ≤ T ∧ et = .int .u16 (ty k) ∧ rest = .slice (some ⟨g, o, none⟩) (n - (14 + 4 * k)) (cap - (14 + 4 * k)) ∧ (14 + 4 * k < cap → o = 14 + 4 * k) ∧ Below w.heap.size w wr) (fun _ rest _ => lenV rest)
    case atStart => exact ⟨0, o, Nat.zero_le _, rfl, rfl, HO.out, hb0⟩
    case round =>
      obtain ⟨k, o, hk, rfl, rfl, ho, hb⟩ := hrel
      have HO : Hid (14 + 4 * k < cap → o = 14 + 4 * k) := ho
      clear ho
      by_cases hkT : k < T
      · have hlen : ¬ ((n - (14 + 4 * k) : Nat) : Int) < 4 := by omega
        have hoe := HO.out (by omega)
        have h4 : (4 : Int) ≤ ((n - (14 + 4 * k) : Nat) : Int) := by omega
        have h4c : ((n - (14 + 4 * k) : Nat) : Int) ≤ ((cap - (14 + 4 * k) : Nat) : Int) := by omega
        obtain ⟨o4, hA4, hO4⟩ : ∃ o', (if cap - (14 + 4 * k) = 4 then some (⟨g, o, none⟩ : Addr) else some ⟨g, o + 4, none⟩) = some ⟨g, o', none⟩ ∧ Hid (14 + 4 * (k + 1) < cap → o' = 14 + 4 * (k + 1)) := by
          by_cases h : cap - (14 + 4 * k) = 4
          · exact ⟨o, by simp [h], fun h' => by omega⟩
          · exact ⟨o + 4, by simp [h], fun _ => by omega⟩
        have HO2 : Hid (o = 14 + 4 * k) := hoe
        clear hoe
        have hne2 : ¬ cap - (14 + 4 * k) = 2 := by omega
        have hTy : ty k = 33024 ∨ ty k = 34984 := by rw [HY.out]; exact HT.out k hkT
        rcases hTy with h | h
        all_goals
          rw [h]
          clear h
          go_wp2_with fail
          go_region_with (go_at_call 7; refine (HU.out (k + 1) _ _ _ _ (by omega) (by omega) (by exact hb.drew) (by rw [HO2.out]; omega)).mono ?_; rintro e w1 ⟨rfl, hb1⟩)
          all_goals go_simp
          all_goals (try go_wp2)
          all_goals
            go_roundw
            case rel => exact ⟨k + 1, o4, by omega, rfl, by rw [show n - (14 + 4 * (k + 1)) = n - (14 + 4 * k) - 4 from by omega, show cap - (14 + 4 * (k + 1)) = cap - (14 + 4 * k) - 4 from by omega], hO4.out, hb.drew.trans (hb1.mono (by exact hb.size))⟩
            case measure => simp [lenV]; omega
      · obtain rfl : k = T := by omega
        have hTy : ty k = fin := by rw [HY.out]; exact HF.out
        rw [hTy]
        clear hTy
        have hne1 : (fin == 33024) = false := by simpa using hf1
        have hne2 : (fin == 34984) = false := by simpa using hf2
        by_cases h8 : fin = 2048
        · have hne3 : (fin != 2048) = false := by simpa using h8
          have H8 : Hid (fin = 2048) := h8
          clear h8
          go_wp2
          go_ret
          refine ⟨hb, fun h => absurd H8.out h, fun _ => ⟨o, ?_, fun hP => HO.out (by have := HN.out; omega)⟩⟩
          have := HN.out
          exact congrArg (fun z => Ending.returned (.slice (some ⟨g, o, none⟩) z (cap - (14 + 4 * k)))) (by omega)
        · have hne3 : (fin != 2048) = true := by simpa using h8
          have H8 : Hid (¬ fin = 2048) := h8
          clear h8
          go_wp2
          go_ret
          exact ⟨hb, fun _ => rfl, fun h => absurd h H8.out⟩
end Go.Proofs.Ybulkxwu
