/-
  zzs1204agen.
-/
import Derived.Test.YbulkxxiDoorGen0
namespace Go.Proofs.YbulkxxiDoor
open Go.RowKit
set_option linter.unusedVariables false

set_option maxHeartbeats 8000000 in
set_option maxRecDepth 100000 in
theorem gen_core (f : Nat) (ih : ∀ f', f = f' + 1 → GenOK f') : GenOK f := by
  intro a len cap z K base nb bv xs d w hops hlen hK hbase hkc hown hnb hd0 hdf
  obtain ⟨i0, hi5, hz0, hz1, hz2⟩ := info_parts Ybad.info5
  have HIH : Hid (∀ f', f = f' + 1 → GenOK f') := ih
  have HOPS : Hid (Ops w K base a len z) := hops
  have HOWN : Hid (w.ownsRow base 5 1 bv nb (xs.map (Value.int .u8))) := hown
  have hKS0 : KS w w K base len := ⟨rfl, rfl, rfl, Nat.le_refl _, fun _ _ _ => rfl, hkc⟩
  have HKS0 : Hid (KS w w K base len) := hKS0
  obtain ⟨y, hy, hyc⟩ := hkc
  have hcK := cell_of_one hyc
  have hfK := free_of_one hyc
  have hyI : (y : Int) ≤ (len : Int) := by omega
  clear ih hops hown hKS0 hyc
  go_enter Ybad.func5, Ybad.ntmps5
  go_upto_if 23 with fail
  go_cut [11] from 18 (fun op wx => ∃ x : Int, op = .int .i64 x ∧ 0 ≤ x ∧ x ≤ 255 ∧ KS w wx K base len ∧ wx.ownsRow base 5 1 bv nb (xs.map (Value.int .u8)) ∧ base ≤ wx.heap.size)
  case first =>
    by_cases hlt : y < len
    · obtain ⟨b, off, rfl, hb, hbK, hc⟩ := HOPS.out (by omega)
      obtain ⟨hc1, hc2, hc3⟩ := hc y hlt
      have hltI : (y : Int) < (len : Int) := by omega
      obtain ⟨x, hx⟩ : ∃ x, x = z.getD y 0 := ⟨_, rfl⟩
      rw [← hx] at hc1 hc2 hc3
      clear hx hc
      have hbK' : ¬ K = b := fun h => hbK h.symm
      go_wp2_with fail
      go_meet
      have e1 : ((y : Int) + 1) = ((y + 1 : Nat) : Int) := by omega
      exact ⟨x, rfl, hc2, hc3, by rw [e1]; exact HKS0.out.setK (by omega), ownsRow_setCell_below HOWN.out hK _, by simpa [World.setCell] using hbase⟩
    · have hltI : decide ((y : Int) < (len : Int)) = false := decide_eq_false (by omega)
      go_wp2_with fail
      go_meet
      exact ⟨0, rfl, by omega, by omega, HKS0.out, HOWN.out, hbase⟩
  case rest =>
    obtain ⟨x, rfl, hx0, hx1, hks, hown, hbase'⟩ := hcut
    have HKS : Hid (KS w wc K base len) := hks
    have HOWN1 : Hid (wc.ownsRow base 5 1 bv nb (xs.map (Value.int .u8))) := hown
    clear hks hown HKS0 HOWN hcK hfK hyI
    obtain ⟨B, hB⟩ : ∃ B : Bool, B = (decide (4 ≤ d) && decide (6 ≤ x % 8)) := ⟨_, rfl⟩
    have HB : Hid (B = (decide (4 ≤ d) && decide (6 ≤ x % 8))) := hB
    clear hB
    go_upto_region 6 with fail
    go_cut [44] from 18 (fun t wx => t = .bool B ∧ wx = wc)
    case first =>
      by_cases h4 : 4 ≤ d
      · go_wp2_with fail
        go_meet
        exact ⟨by rw [HB.out]; simp [h4], rfl⟩
      · have h4' : decide (4 ≤ d) = false := decide_eq_false h4
        go_wp2_with fail
        go_meet
        exact ⟨by rw [HB.out, decide_eq_false (show ¬ 4 ≤ d from by omega)]; rfl, rfl⟩
    case rest =>
      obtain ⟨rfl, rfl⟩ := hcut
      go_upto_if 44 with fail
      go_cut [12] from 18 (fun c wx => ∃ c' : Int, c = .int .i64 c' ∧ 0 ≤ c' ∧ c' ≤ 7 ∧ (4 ≤ d → c' ≤ 5) ∧ wx = wc)
      case first =>
        cases hBc : B
        · have hb := HB.out
          rw [hBc] at hb
          have hb' : 4 ≤ d → x % 8 ≤ 5 := fun h => by simp [h] at hb; omega
          have HB' : Hid (4 ≤ d → x % 8 ≤ 5) := hb'
          clear hb hb' HB
          go_wp2_with fail
          go_meet
          exact ⟨x % 8, rfl, by omega, by omega, HB'.out, rfl⟩
        · have hb := HB.out
          rw [hBc] at hb
          have hb' : 6 ≤ x % 8 := by simp at hb; omega
          clear hb HB
          go_wp2_with fail
          go_meet
          exact ⟨x % 8 - 6, rfl, by omega, by omega, fun _ => by omega, rfl⟩
      case rest =>
        obtain ⟨c, rfl, hc0, hc7, hc5, rfl⟩ := hcut
        obtain ⟨vn, hvn⟩ : ∃ vn : Nat, x / 8 % 4 = (vn : Int) := ⟨(x / 8 % 4).toNat, by omega⟩
        have hv4 : vn < 4 := by omega
        have hnb2 : nb ≤ 1000000 := by omega
        rcases (show c = 0 ∨ c = 1 ∨ c = 2 ∨ c = 3 ∨ c = 4 ∨ c = 5 ∨ c = 6 ∨ c = 7 from by omega) with rfl | rfl | rfl | rfl | rfl | rfl | rfl | rfl
        · skip
          have hsz : (⟨#[116, 114, 117, 101]⟩ : ByteArray).size = 4 := rfl
          have HSZ : Hid ((⟨#[116, 114, 117, 101]⟩ : ByteArray).size = 4) := hsz
          clear hsz
          go_wp2_with (at_builtin; refine Lib.wpList_append_own_string _ rfl (.tmp 53) (.const (.string ⟨#[116, 114, 117, 101]⟩)) 22 9 rfl base 5 i0 Ybad.underlying22 Ybad.underlying9 hi5 hz0 hz1 hz2 _ nb _ rfl HOWN1.out ⟨#[116, 114, 117, 101]⟩ rfl (by have := HSZ.out; unfold maxLen; omega) (by have := HSZ.out; omega) hbase' ?_; intro v' w1 hown1 hgrow1 hnil1)
          go_ret3
          exact ⟨v', lTrue, -1, false, rfl, val_leaf (by decide), own_str hown1 (by decide), HKS.out.below hK (grown_below HOWN1.out hgrow1 hbase')⟩
        · skip
          have hsz : (⟨#[102, 97, 108, 115, 101]⟩ : ByteArray).size = 5 := rfl
          have HSZ : Hid ((⟨#[102, 97, 108, 115, 101]⟩ : ByteArray).size = 5) := hsz
          clear hsz
          go_wp2_with (at_builtin; refine Lib.wpList_append_own_string _ rfl (.tmp 57) (.const (.string ⟨#[102, 97, 108, 115, 101]⟩)) 22 9 rfl base 5 i0 Ybad.underlying22 Ybad.underlying9 hi5 hz0 hz1 hz2 _ nb _ rfl HOWN1.out ⟨#[102, 97, 108, 115, 101]⟩ rfl (by have := HSZ.out; unfold maxLen; omega) (by have := HSZ.out; omega) hbase' ?_; intro v' w1 hown1 hgrow1 hnil1)
          go_ret3
          exact ⟨v', lFalse, -1, false, rfl, val_leaf (by decide), own_str hown1 (by decide), HKS.out.below hK (grown_below HOWN1.out hgrow1 hbase')⟩
        · skip
          have hsz : (⟨#[110, 117, 108, 108]⟩ : ByteArray).size = 4 := rfl
          have HSZ : Hid ((⟨#[110, 117, 108, 108]⟩ : ByteArray).size = 4) := hsz
          clear hsz
          go_wp2_with (at_builtin; refine Lib.wpList_append_own_string _ rfl (.tmp 61) (.const (.string ⟨#[110, 117, 108, 108]⟩)) 22 9 rfl base 5 i0 Ybad.underlying22 Ybad.underlying9 hi5 hz0 hz1 hz2 _ nb _ rfl HOWN1.out ⟨#[110, 117, 108, 108]⟩ rfl (by have := HSZ.out; unfold maxLen; omega) (by have := HSZ.out; omega) hbase' ?_; intro v' w1 hown1 hgrow1 hnil1)
          go_ret3
          exact ⟨v', lNull, -1, false, rfl, val_leaf (by decide), own_str hown1 (by decide), HKS.out.below hK (grown_below HOWN1.out hgrow1 hbase')⟩
        · rcases (show vn = 0 ∨ vn = 1 ∨ vn = 2 ∨ vn = 3 from by omega) with rfl | rfl | rfl | rfl
          · have hvq : x / 8 % 4 = 0 := hvn
            clear hvn
            have hsz : (⟨#[48]⟩ : ByteArray).size = 1 := rfl
            have HSZ : Hid ((⟨#[48]⟩ : ByteArray).size = 1) := hsz
            clear hsz
            go_wp2_with (at_builtin; refine Lib.wpList_append_own_string _ rfl (.tmp 66) (.tmp 69) 22 9 rfl base 5 i0 Ybad.underlying22 Ybad.underlying9 hi5 hz0 hz1 hz2 _ nb _ rfl (HOWN1.out.alloc _) ⟨#[48]⟩ rfl (by have := HSZ.out; unfold maxLen; omega) (by have := HSZ.out; omega) (by simp; omega) ?_; intro v' w1 hown1 hgrow1 hnil1)
            go_ret3
            exact ⟨v', lN0, -1, true, rfl, val_leaf (by decide), own_str hown1 (by decide), HKS.out.below hK (((Below.refl _ _).alloc hbase' _).trans (grown_below (HOWN1.out.alloc _) hgrow1 (by simp; omega)))⟩
          · have hvq : x / 8 % 4 = 1 := hvn
            clear hvn
            have hsz : (⟨#[45, 55]⟩ : ByteArray).size = 2 := rfl
            have HSZ : Hid ((⟨#[45, 55]⟩ : ByteArray).size = 2) := hsz
            clear hsz
            go_wp2_with (at_builtin; refine Lib.wpList_append_own_string _ rfl (.tmp 66) (.tmp 69) 22 9 rfl base 5 i0 Ybad.underlying22 Ybad.underlying9 hi5 hz0 hz1 hz2 _ nb _ rfl (HOWN1.out.alloc _) ⟨#[45, 55]⟩ rfl (by have := HSZ.out; unfold maxLen; omega) (by have := HSZ.out; omega) (by simp; omega) ?_; intro v' w1 hown1 hgrow1 hnil1)
            go_ret3
            exact ⟨v', lN1, -1, true, rfl, val_leaf (by decide), own_str hown1 (by decide), HKS.out.below hK (((Below.refl _ _).alloc hbase' _).trans (grown_below (HOWN1.out.alloc _) hgrow1 (by simp; omega)))⟩
          · have hvq : x / 8 % 4 = 2 := hvn
            clear hvn
            have hsz : (⟨#[51, 46, 50, 53]⟩ : ByteArray).size = 4 := rfl
            have HSZ : Hid ((⟨#[51, 46, 50, 53]⟩ : ByteArray).size = 4) := hsz
            clear hsz
            go_wp2_with (at_builtin; refine Lib.wpList_append_own_string _ rfl (.tmp 66) (.tmp 69) 22 9 rfl base 5 i0 Ybad.underlying22 Ybad.underlying9 hi5 hz0 hz1 hz2 _ nb _ rfl (HOWN1.out.alloc _) ⟨#[51, 46, 50, 53]⟩ rfl (by have := HSZ.out; unfold maxLen; omega) (by have := HSZ.out; omega) (by simp; omega) ?_; intro v' w1 hown1 hgrow1 hnil1)
            go_ret3
            exact ⟨v', lN2, -1, true, rfl, val_leaf (by decide), own_str hown1 (by decide), HKS.out.below hK (((Below.refl _ _).alloc hbase' _).trans (grown_below (HOWN1.out.alloc _) hgrow1 (by simp; omega)))⟩
          · have hvq : x / 8 % 4 = 3 := hvn
            clear hvn
            have hsz : (⟨#[49, 69, 45, 57]⟩ : ByteArray).size = 4 := rfl
            have HSZ : Hid ((⟨#[49, 69, 45, 57]⟩ : ByteArray).size = 4) := hsz
            clear hsz
            go_wp2_with (at_builtin; refine Lib.wpList_append_own_string _ rfl (.tmp 66) (.tmp 69) 22 9 rfl base 5 i0 Ybad.underlying22 Ybad.underlying9 hi5 hz0 hz1 hz2 _ nb _ rfl (HOWN1.out.alloc _) ⟨#[49, 69, 45, 57]⟩ rfl (by have := HSZ.out; unfold maxLen; omega) (by have := HSZ.out; omega) (by simp; omega) ?_; intro v' w1 hown1 hgrow1 hnil1)
            go_ret3
            exact ⟨v', lN3, -1, true, rfl, val_leaf (by decide), own_str hown1 (by decide), HKS.out.below hK (((Below.refl _ _).alloc hbase' _).trans (grown_below (HOWN1.out.alloc _) hgrow1 (by simp; omega)))⟩
        · rcases (show vn = 0 ∨ vn = 1 ∨ vn = 2 ∨ vn = 3 from by omega) with rfl | rfl | rfl | rfl
          · have hvq : x / 8 % 4 = 0 := hvn
            clear hvn
            have hsz : (⟨#[34, 97, 92, 110, 92, 117, 48, 48, 69, 57, 98, 34]⟩ : ByteArray).size = 12 := rfl
            have HSZ : Hid ((⟨#[34, 97, 92, 110, 92, 117, 48, 48, 69, 57, 98, 34]⟩ : ByteArray).size = 12) := hsz
            clear hsz
            go_wp2_with (at_builtin; refine Lib.wpList_append_own_string _ rfl (.tmp 74) (.tmp 77) 22 9 rfl base 5 i0 Ybad.underlying22 Ybad.underlying9 hi5 hz0 hz1 hz2 _ nb _ rfl (HOWN1.out.alloc _) ⟨#[34, 97, 92, 110, 92, 117, 48, 48, 69, 57, 98, 34]⟩ rfl (by have := HSZ.out; unfold maxLen; omega) (by have := HSZ.out; omega) (by simp; omega) ?_; intro v' w1 hown1 hgrow1 hnil1)
            go_ret3
            exact ⟨v', lS0, -1, false, rfl, val_leaf (by decide), own_str hown1 (by decide), HKS.out.below hK (((Below.refl _ _).alloc hbase' _).trans (grown_below (HOWN1.out.alloc _) hgrow1 (by simp; omega)))⟩
          · have hvq : x / 8 % 4 = 1 := hvn
            clear hvn
            have hsz : (⟨#[34, 112, 108, 97, 105, 110, 32, 119, 111, 114, 100, 115, 32, 104, 101, 114, 101, 44, 32, 108, 111, 110, 103, 101, 114, 33, 34]⟩ : ByteArray).size = 27 := rfl
            have HSZ : Hid ((⟨#[34, 112, 108, 97, 105, 110, 32, 119, 111, 114, 100, 115, 32, 104, 101, 114, 101, 44, 32, 108, 111, 110, 103, 101, 114, 33, 34]⟩ : ByteArray).size = 27) := hsz
            clear hsz
            go_wp2_with (at_builtin; refine Lib.wpList_append_own_string _ rfl (.tmp 74) (.tmp 77) 22 9 rfl base 5 i0 Ybad.underlying22 Ybad.underlying9 hi5 hz0 hz1 hz2 _ nb _ rfl (HOWN1.out.alloc _) ⟨#[34, 112, 108, 97, 105, 110, 32, 119, 111, 114, 100, 115, 32, 104, 101, 114, 101, 44, 32, 108, 111, 110, 103, 101, 114, 33, 34]⟩ rfl (by have := HSZ.out; unfold maxLen; omega) (by have := HSZ.out; omega) (by simp; omega) ?_; intro v' w1 hown1 hgrow1 hnil1)
            go_ret3
            exact ⟨v', lS1, -1, false, rfl, val_leaf (by decide), own_str hown1 (by decide), HKS.out.below hK (((Below.refl _ _).alloc hbase' _).trans (grown_below (HOWN1.out.alloc _) hgrow1 (by simp; omega)))⟩
          · have hvq : x / 8 % 4 = 2 := hvn
            clear hvn
            have hsz : (⟨#[34, 34]⟩ : ByteArray).size = 2 := rfl
            have HSZ : Hid ((⟨#[34, 34]⟩ : ByteArray).size = 2) := hsz
            clear hsz
            go_wp2_with (at_builtin; refine Lib.wpList_append_own_string _ rfl (.tmp 74) (.tmp 77) 22 9 rfl base 5 i0 Ybad.underlying22 Ybad.underlying9 hi5 hz0 hz1 hz2 _ nb _ rfl (HOWN1.out.alloc _) ⟨#[34, 34]⟩ rfl (by have := HSZ.out; unfold maxLen; omega) (by have := HSZ.out; omega) (by simp; omega) ?_; intro v' w1 hown1 hgrow1 hnil1)
            go_ret3
            exact ⟨v', lS2, -1, false, rfl, val_leaf (by decide), own_str hown1 (by decide), HKS.out.below hK (((Below.refl _ _).alloc hbase' _).trans (grown_below (HOWN1.out.alloc _) hgrow1 (by simp; omega)))⟩
          · have hvq : x / 8 % 4 = 3 := hvn
            clear hvn
            have hsz : (⟨#[34, 92, 47, 92, 92, 92, 34, 113, 34]⟩ : ByteArray).size = 9 := rfl
            have HSZ : Hid ((⟨#[34, 92, 47, 92, 92, 92, 34, 113, 34]⟩ : ByteArray).size = 9) := hsz
            clear hsz
            go_wp2_with (at_builtin; refine Lib.wpList_append_own_string _ rfl (.tmp 74) (.tmp 77) 22 9 rfl base 5 i0 Ybad.underlying22 Ybad.underlying9 hi5 hz0 hz1 hz2 _ nb _ rfl (HOWN1.out.alloc _) ⟨#[34, 92, 47, 92, 92, 92, 34, 113, 34]⟩ rfl (by have := HSZ.out; unfold maxLen; omega) (by have := HSZ.out; omega) (by simp; omega) ?_; intro v' w1 hown1 hgrow1 hnil1)
            go_ret3
            exact ⟨v', lS3, -1, false, rfl, val_leaf (by decide), own_str hown1 (by decide), HKS.out.below hK (((Below.refl _ _).alloc hbase' _).trans (grown_below (HOWN1.out.alloc _) hgrow1 (by simp; omega)))⟩
        · skip
          have hsz : (⟨#[45, 48, 46, 53, 101, 43, 49, 48]⟩ : ByteArray).size = 8 := rfl
          have HSZ : Hid ((⟨#[45, 48, 46, 53, 101, 43, 49, 48]⟩ : ByteArray).size = 8) := hsz
          clear hsz
          go_wp2_with (at_builtin; refine Lib.wpList_append_own_string _ rfl (.tmp 81) (.const (.string ⟨#[45, 48, 46, 53, 101, 43, 49, 48]⟩)) 22 9 rfl base 5 i0 Ybad.underlying22 Ybad.underlying9 hi5 hz0 hz1 hz2 _ nb _ rfl HOWN1.out ⟨#[45, 48, 46, 53, 101, 43, 49, 48]⟩ rfl (by have := HSZ.out; unfold maxLen; omega) (by have := HSZ.out; omega) hbase' ?_; intro v' w1 hown1 hgrow1 hnil1)
          go_ret3
          exact ⟨v', lN4, -1, true, rfl, val_leaf (by decide), own_str hown1 (by decide), HKS.out.below hK (grown_below HOWN1.out hgrow1 hbase')⟩
        · -- a container
          obtain ⟨f', rfl⟩ : ∃ f', f = f' + 1 := ⟨f - 1, by omega⟩
          have hG := HIH.out f' rfl
          have HG : Hid (GenOK f') := hG
          obtain ⟨LL, hLL⟩ : ∃ LL, LL = lim f' := ⟨_, rfl⟩
          have hl1 : nb + (3 * (LL + 7) + 2) ≤ 1000000 := by rw [hLL]; exact hnb
          have HLL : Hid (LL = lim f') := hLL
          have hd4 : d + 1 + f' = 4 := by omega
          have hd3 : d ≤ 3 := by omega
          have HD : Hid (d + 1 + f' = 4) := hd4
          clear hG hnb hc5 HIH hLL hdf hd4
          go_wp2_with (at_builtin; refine wpList_append_own _ rfl (.tmp 85) (.tmp 86) 22 rfl base 5 i0 (.int .u8 0) 1 1 Ybad.underlying22 hi5 hz0 hz1 hz2 rfl (by decide) _ nb _ rfl (HOWN1.out.alloc _) ⟨wc.heap.size, 0, none⟩ 1 1 [.int .u8 91] rfl rfl (cell_newG _ _ _) (by intro u hu; simp at hu; subst hu; rfl) (by unfold maxLen; omega) (by omega) (by simp; omega) ?_; intro v1 w1 hown1 hgrow1 hnil1)
          have hks1 : KS w w1 K base len := HKS.out.below hK (((Below.refl _ _).alloc hbase' _).trans (grown_below (HOWN1.out.alloc _) hgrow1 (by simp; omega)))
          have hb1 : base ≤ w1.heap.size := by have := hgrow1.size; simp at this; omega
          have HOWN2 : Hid (w1.ownsRow base 5 1 v1 (nb + 1) ((xs ++ [91]).map (Value.int .u8))) := own_one hown1
          clear hown1 hgrow1 hnil1 HKS HOWN1 hbase'
          go_loopw [3, 16] (fun b j wr => ∃ (t : Nat) (els : List (List Int)) (bq : Value), bq = b ∧ j = .int .i64 t ∧ t = els.length ∧ t ≤ vn ∧ (∀ e ∈ els, ∃ m, Val f' e m) ∧ wr.ownsRow base 5 1 b (nb + 1 + (join false els).length) ((xs ++ 91 :: join false els).map (Value.int .u8)) ∧ KS w wr K base len ∧ base ≤ wr.heap.size) (fun _ j _ => vn - (intOf j).toNat)
          case atStart => exact ⟨0, [], _, rfl, rfl, rfl, Nat.zero_le _, fun e he => by simp at he, HOWN2.out, hks1, hb1⟩
          case round =>
            obtain ⟨t, els, bq, rfl, rfl, hte, htv, hel, hown, hks, hbr⟩ := hrel
            clear HOWN2 hks1 hb1
            have HTE : Hid (t = els.length) := hte
            have HEL : Hid (∀ e ∈ els, ∃ m, Val f' e m) := hel
            have HOWN3 : Hid (wr.ownsRow base 5 1 bq (nb + 1 + (join false els).length) ((xs ++ 91 :: join false els).map (Value.int .u8))) := hown
            have HKS3 : Hid (KS w wr K base len) := hks
            by_cases htlt : t < vn
            · have hjl := join_bound false f' els hel 2 (by omega)
              rw [← HLL.out] at hjl
              have htI : (t : Int) < (vn : Int) := by omega
              obtain ⟨J, hJ⟩ : ∃ J, J = (join false els).length := ⟨_, rfl⟩
              have HJ : Hid (J = (join false els).length) := hJ
              rw [← hJ] at hjl
              clear hte hel hown hks hJ
              have hcall : ∀ (wx : World) (nb' : Nat) (bv' : Value) (xs' : List Int) (d' : Int), KS w wx K base len → base ≤ wx.heap.size → wx.ownsRow base 5 1 bv' nb' (xs'.map (Value.int .u8)) → nb' + LL ≤ 1000000 → d' = d + 1 →
                  Calls Ybad.prog 5 #[.slice a len cap, .pointer (some ⟨K, 0, none⟩), .int .i64 d', bv'] wx fun e w' => ∃ v' bs m num, e = .returned (.tuple #[v', .int .i64 m, .bool num]) ∧ Val f' bs m ∧ w'.ownsRow base 5 1 v' (nb' + bs.length) ((xs' ++ bs).map (Value.int .u8)) ∧ KS wx w' K base len := by
                intro wx nb' bv' xs' d' h1 h2 h3 h4 h5
                exact HG.out a len cap z K base nb' bv' xs' d' wx (HOPS.out.ks h1) hlen hK h2 h1.cell h3 (by rw [← HLL.out]; exact h4) (by omega) (by rw [h5]; exact HD.out)
              have HC : Hid (∀ (wx : World) (nb' : Nat) (bv' : Value) (xs' : List Int) (d' : Int), KS w wx K base len → base ≤ wx.heap.size → wx.ownsRow base 5 1 bv' nb' (xs'.map (Value.int .u8)) → nb' + LL ≤ 1000000 → d' = d + 1 →
                  Calls Ybad.prog 5 #[.slice a len cap, .pointer (some ⟨K, 0, none⟩), .int .i64 d', bv'] wx fun e w' => ∃ v' bs m num, e = .returned (.tuple #[v', .int .i64 m, .bool num]) ∧ Val f' bs m ∧ w'.ownsRow base 5 1 v' (nb' + bs.length) ((xs' ++ bs).map (Value.int .u8)) ∧ KS wx w' K base len) := hcall
              clear hcall
              have HSS : Hid ((⟨#[44, 32]⟩ : ByteArray).size = 2) := rfl
              have HKY : Hid ((⟨#[34, 107, 34, 58, 32]⟩ : ByteArray).size = 5) := rfl
              by_cases ht0 : t = 0
              · subst ht0
                obtain rfl : els = [] := List.eq_nil_of_length_eq_zero HTE.out.symm
                have HOWNZ : Hid (wr.ownsRow base 5 1 bq (nb + 1) ((xs ++ [91]).map (Value.int .u8))) := HOWN3.out
                have htz : decide ((0 : Int) < ((0 : Nat) : Int)) = false := by decide
                go_wp2_with (first
                  | (go_at_call 5; refine (HC.out _ (nb + 1) _ (xs ++ [91]) _ HKS3.out hbr HOWNZ.out (by have := HJ.out; omega) (by omega)).mono ?_; rintro e w4 ⟨v4, bs, m, num, rfl, hval, hown4, hks4⟩))
                go_roundw
                case rel => exact ⟨0 + 1, ([] ++ [bs]), _, rfl, by go_num, rfl, by omega, fun e he => by simp at he; subst he; exact ⟨m, hval⟩, own_first_arr hown4, HKS3.out.trans hks4, Nat.le_trans hbr hks4.size⟩
                case measure => simp [intOf]; omega
              · have htz : (0 : Int) < (t : Int) := by omega
                have HNE : Hid (els ≠ []) := fun h => by have := HTE.out; rw [h] at this; simp at this; omega
                clear ht0
                go_wp2_with (first
                  | (at_builtin; refine Lib.wpList_append_own_string _ rfl (.tmp 95) (.const (.string ⟨#[44, 32]⟩)) 22 9 rfl base 5 i0 Ybad.underlying22 Ybad.underlying9 hi5 hz0 hz1 hz2 _ (nb + 1 + (join false els).length) _ rfl HOWN3.out ⟨#[44, 32]⟩ rfl (by have := HSS.out; have := HJ.out; unfold maxLen; omega) (by have := HSS.out; have := HJ.out; omega) hbr ?_; intro v2 w2 hown2 hgrow2 hnil2; have hks2 : KS w w2 K base len := HKS3.out.below hK (grown_below HOWN3.out hgrow2 hbr); have hb2 : base ≤ w2.heap.size := Nat.le_trans hbr hgrow2.size; have hown2' := own_str (bs := [44, 32]) hown2 (by decide))
                  | (go_at_call 5; refine (HC.out _ ((nb + 1 + (join false els).length) + 2) _ ((xs ++ 91 :: join false els) ++ [44, 32]) _ hks2 hb2 hown2' (by have := HJ.out; omega) (by omega)).mono ?_; rintro e w4 ⟨v4, bs, m, num, rfl, hval, hown4, hks4⟩))
                go_roundw
                case rel => exact ⟨t + 1, (els ++ [bs]), _, rfl, by go_num, by rw [List.length_append, ← HTE.out]; rfl, by omega, fun e he => (List.mem_append.1 he).elim (fun h => HEL.out e h) (fun h => by simp at h; subst h; exact ⟨m, hval⟩), own_more_arr HNE.out hown4, hks2.trans hks4, Nat.le_trans hb2 hks4.size⟩
                case measure => simp [intOf]; omega
            · have hvt : vn = t := by omega
              have hjl := join_bound false f' els hel 3 (by omega)
              rw [← HLL.out] at hjl
              have HV : Hid (vn = els.length) := by rw [hvt]; exact hte
              have htI : decide ((t : Int) < (vn : Int)) = false := decide_eq_false (by omega)
              have hjb : (join false els).length ≤ 1000000 := by omega
              clear hte hel hown hks hvt hjl
              obtain ⟨J, hJ⟩ : ∃ J, J = (join false els).length := ⟨_, rfl⟩
              have HJ : Hid (J = (join false els).length) := hJ
              rw [← hJ] at hjb
              have HVA : Hid (Val (f' + 1) (cont false els) (vn : Int)) := by rw [HV.out]; exact val_cont HEL.out (by rw [← HV.out]; omega)
              clear hJ
              go_wp2_with (at_builtin; refine wpList_append_own _ rfl (.tmp 107) (.tmp 108) 22 rfl base 5 i0 (.int .u8 0) 1 1 Ybad.underlying22 hi5 hz0 hz1 hz2 rfl (by decide) _ (nb + 1 + (join false els).length) _ rfl (HOWN3.out.alloc _) ⟨wr.heap.size, 0, none⟩ 1 1 [.int .u8 93] rfl rfl (cell_newG _ _ _) (by intro u hu; simp at hu; subst hu; rfl) (by have := HJ.out; unfold maxLen; omega) (by have := HJ.out; omega) (by simp; omega) ?_; intro v5 w5 hown5 hgrow5 hnil5)
              go_ret3
              exact ⟨v5, cont false els, (vn : Int), false, rfl, HVA.out, own_close (o := false) (own_one hown5), HKS3.out.below hK (((Below.refl _ _).alloc hbr _).trans (grown_below (HOWN3.out.alloc _) hgrow5 (by simp; omega)))⟩
        · -- a container
          obtain ⟨f', rfl⟩ : ∃ f', f = f' + 1 := ⟨f - 1, by omega⟩
          have hG := HIH.out f' rfl
          have HG : Hid (GenOK f') := hG
          obtain ⟨LL, hLL⟩ : ∃ LL, LL = lim f' := ⟨_, rfl⟩
          have hl1 : nb + (3 * (LL + 7) + 2) ≤ 1000000 := by rw [hLL]; exact hnb
          have HLL : Hid (LL = lim f') := hLL
          have hd4 : d + 1 + f' = 4 := by omega
          have hd3 : d ≤ 3 := by omega
          have HD : Hid (d + 1 + f' = 4) := hd4
          clear hG hnb hc5 HIH hLL hdf hd4
          go_wp2_with (at_builtin; refine wpList_append_own _ rfl (.tmp 111) (.tmp 112) 22 rfl base 5 i0 (.int .u8 0) 1 1 Ybad.underlying22 hi5 hz0 hz1 hz2 rfl (by decide) _ nb _ rfl (HOWN1.out.alloc _) ⟨wc.heap.size, 0, none⟩ 1 1 [.int .u8 123] rfl rfl (cell_newG _ _ _) (by intro u hu; simp at hu; subst hu; rfl) (by unfold maxLen; omega) (by omega) (by simp; omega) ?_; intro v1 w1 hown1 hgrow1 hnil1)
          have hks1 : KS w w1 K base len := HKS.out.below hK (((Below.refl _ _).alloc hbase' _).trans (grown_below (HOWN1.out.alloc _) hgrow1 (by simp; omega)))
          have hb1 : base ≤ w1.heap.size := by have := hgrow1.size; simp at this; omega
          have HOWN2 : Hid (w1.ownsRow base 5 1 v1 (nb + 1) ((xs ++ [123]).map (Value.int .u8))) := own_one hown1
          clear hown1 hgrow1 hnil1 HKS HOWN1 hbase'
          go_loopw [3, 17] (fun b j wr => ∃ (t : Nat) (els : List (List Int)) (bq : Value), bq = b ∧ j = .int .i64 t ∧ t = els.length ∧ t ≤ vn ∧ (∀ e ∈ els, ∃ m, Val f' e m) ∧ wr.ownsRow base 5 1 b (nb + 1 + (join true els).length) ((xs ++ 123 :: join true els).map (Value.int .u8)) ∧ KS w wr K base len ∧ base ≤ wr.heap.size) (fun _ j _ => vn - (intOf j).toNat)
          case atStart => exact ⟨0, [], _, rfl, rfl, rfl, Nat.zero_le _, fun e he => by simp at he, HOWN2.out, hks1, hb1⟩
          case round =>
            obtain ⟨t, els, bq, rfl, rfl, hte, htv, hel, hown, hks, hbr⟩ := hrel
            clear HOWN2 hks1 hb1
            have HTE : Hid (t = els.length) := hte
            have HEL : Hid (∀ e ∈ els, ∃ m, Val f' e m) := hel
            have HOWN3 : Hid (wr.ownsRow base 5 1 bq (nb + 1 + (join true els).length) ((xs ++ 123 :: join true els).map (Value.int .u8))) := hown
            have HKS3 : Hid (KS w wr K base len) := hks
            by_cases htlt : t < vn
            · have hjl := join_bound true f' els hel 2 (by omega)
              rw [← HLL.out] at hjl
              have htI : (t : Int) < (vn : Int) := by omega
              obtain ⟨J, hJ⟩ : ∃ J, J = (join true els).length := ⟨_, rfl⟩
              have HJ : Hid (J = (join true els).length) := hJ
              rw [← hJ] at hjl
              clear hte hel hown hks hJ
              have hcall : ∀ (wx : World) (nb' : Nat) (bv' : Value) (xs' : List Int) (d' : Int), KS w wx K base len → base ≤ wx.heap.size → wx.ownsRow base 5 1 bv' nb' (xs'.map (Value.int .u8)) → nb' + LL ≤ 1000000 → d' = d + 1 →
                  Calls Ybad.prog 5 #[.slice a len cap, .pointer (some ⟨K, 0, none⟩), .int .i64 d', bv'] wx fun e w' => ∃ v' bs m num, e = .returned (.tuple #[v', .int .i64 m, .bool num]) ∧ Val f' bs m ∧ w'.ownsRow base 5 1 v' (nb' + bs.length) ((xs' ++ bs).map (Value.int .u8)) ∧ KS wx w' K base len := by
                intro wx nb' bv' xs' d' h1 h2 h3 h4 h5
                exact HG.out a len cap z K base nb' bv' xs' d' wx (HOPS.out.ks h1) hlen hK h2 h1.cell h3 (by rw [← HLL.out]; exact h4) (by omega) (by rw [h5]; exact HD.out)
              have HC : Hid (∀ (wx : World) (nb' : Nat) (bv' : Value) (xs' : List Int) (d' : Int), KS w wx K base len → base ≤ wx.heap.size → wx.ownsRow base 5 1 bv' nb' (xs'.map (Value.int .u8)) → nb' + LL ≤ 1000000 → d' = d + 1 →
                  Calls Ybad.prog 5 #[.slice a len cap, .pointer (some ⟨K, 0, none⟩), .int .i64 d', bv'] wx fun e w' => ∃ v' bs m num, e = .returned (.tuple #[v', .int .i64 m, .bool num]) ∧ Val f' bs m ∧ w'.ownsRow base 5 1 v' (nb' + bs.length) ((xs' ++ bs).map (Value.int .u8)) ∧ KS wx w' K base len) := hcall
              clear hcall
              have HSS : Hid ((⟨#[44, 10]⟩ : ByteArray).size = 2) := rfl
              have HKY : Hid ((⟨#[34, 107, 34, 58, 32]⟩ : ByteArray).size = 5) := rfl
              by_cases ht0 : t = 0
              · subst ht0
                obtain rfl : els = [] := List.eq_nil_of_length_eq_zero HTE.out.symm
                have HOWNZ : Hid (wr.ownsRow base 5 1 bq (nb + 1) ((xs ++ [123]).map (Value.int .u8))) := HOWN3.out
                have htz : decide ((0 : Int) < ((0 : Nat) : Int)) = false := by decide
                go_wp2_with (first
                  | (at_builtin; refine Lib.wpList_append_own_string _ rfl (.tmp 123) (.const (.string ⟨#[34, 107, 34, 58, 32]⟩)) 22 9 rfl base 5 i0 Ybad.underlying22 Ybad.underlying9 hi5 hz0 hz1 hz2 _ (nb + 1) _ rfl HOWNZ.out ⟨#[34, 107, 34, 58, 32]⟩ rfl (by have := HKY.out; have := HJ.out; unfold maxLen; omega) (by have := HKY.out; have := HJ.out; omega) hbr ?_; intro v3 w3 hown3 hgrow3 hnil3; have hks3 : KS w w3 K base len := HKS3.out.below hK (grown_below HOWNZ.out hgrow3 hbr); have hb3 : base ≤ w3.heap.size := Nat.le_trans hbr hgrow3.size; have hown3' := own_str (bs := [34, 107, 34, 58, 32]) hown3 (by decide))
                  | (go_at_call 5; refine (HC.out _ ((nb + 1) + 5) _ ((xs ++ [123]) ++ [34, 107, 34, 58, 32]) _ hks3 hb3 hown3' (by have := HJ.out; omega) (by omega)).mono ?_; rintro e w4 ⟨v4, bs, m, num, rfl, hval, hown4, hks4⟩))
                go_roundw
                case rel => exact ⟨0 + 1, ([] ++ [bs]), _, rfl, by go_num, rfl, by omega, fun e he => by simp at he; subst he; exact ⟨m, hval⟩, own_first (o := true) hown4, hks3.trans hks4, Nat.le_trans hb3 hks4.size⟩
                case measure => simp [intOf]; omega
              · have htz : (0 : Int) < (t : Int) := by omega
                have HNE : Hid (els ≠ []) := fun h => by have := HTE.out; rw [h] at this; simp at this; omega
                clear ht0
                go_wp2_with (first
                  | (at_builtin; refine Lib.wpList_append_own_string _ rfl (.tmp 121) (.const (.string ⟨#[44, 10]⟩)) 22 9 rfl base 5 i0 Ybad.underlying22 Ybad.underlying9 hi5 hz0 hz1 hz2 _ (nb + 1 + (join true els).length) _ rfl HOWN3.out ⟨#[44, 10]⟩ rfl (by have := HSS.out; have := HJ.out; unfold maxLen; omega) (by have := HSS.out; have := HJ.out; omega) hbr ?_; intro v2 w2 hown2 hgrow2 hnil2; have hks2 : KS w w2 K base len := HKS3.out.below hK (grown_below HOWN3.out hgrow2 hbr); have hb2 : base ≤ w2.heap.size := Nat.le_trans hbr hgrow2.size; have hown2' := own_str (bs := [44, 10]) hown2 (by decide))
                  | (at_builtin; refine Lib.wpList_append_own_string _ rfl (.tmp 123) (.const (.string ⟨#[34, 107, 34, 58, 32]⟩)) 22 9 rfl base 5 i0 Ybad.underlying22 Ybad.underlying9 hi5 hz0 hz1 hz2 _ ((nb + 1 + (join true els).length) + 2) _ rfl hown2' ⟨#[34, 107, 34, 58, 32]⟩ rfl (by have := HKY.out; have := HJ.out; unfold maxLen; omega) (by have := HKY.out; have := HJ.out; omega) hb2 ?_; intro v3 w3 hown3 hgrow3 hnil3; have hks3 : KS w w3 K base len := hks2.below hK (grown_below hown2' hgrow3 hb2); have hb3 : base ≤ w3.heap.size := Nat.le_trans hb2 hgrow3.size; have hown3' := own_str (bs := [34, 107, 34, 58, 32]) hown3 (by decide))
                  | (go_at_call 5; refine (HC.out _ (((nb + 1 + (join true els).length) + 2) + 5) _ (((xs ++ 123 :: join true els) ++ [44, 10]) ++ [34, 107, 34, 58, 32]) _ hks3 hb3 hown3' (by have := HJ.out; omega) (by omega)).mono ?_; rintro e w4 ⟨v4, bs, m, num, rfl, hval, hown4, hks4⟩))
                go_roundw
                case rel => exact ⟨t + 1, (els ++ [bs]), _, rfl, by go_num, by rw [List.length_append, ← HTE.out]; rfl, by omega, fun e he => (List.mem_append.1 he).elim (fun h => HEL.out e h) (fun h => by simp at h; subst h; exact ⟨m, hval⟩), own_more (o := true) HNE.out hown4, hks3.trans hks4, Nat.le_trans hb3 hks4.size⟩
                case measure => simp [intOf]; omega
            · have hvt : vn = t := by omega
              have hjl := join_bound true f' els hel 3 (by omega)
              rw [← HLL.out] at hjl
              have HV : Hid (vn = els.length) := by rw [hvt]; exact hte
              have htI : decide ((t : Int) < (vn : Int)) = false := decide_eq_false (by omega)
              have hjb : (join true els).length ≤ 1000000 := by omega
              clear hte hel hown hks hvt hjl
              obtain ⟨J, hJ⟩ : ∃ J, J = (join true els).length := ⟨_, rfl⟩
              have HJ : Hid (J = (join true els).length) := hJ
              rw [← hJ] at hjb
              have HVA : Hid (Val (f' + 1) (cont true els) (vn : Int)) := by rw [HV.out]; exact val_cont HEL.out (by rw [← HV.out]; omega)
              clear hJ
              go_wp2_with (at_builtin; refine wpList_append_own _ rfl (.tmp 135) (.tmp 136) 22 rfl base 5 i0 (.int .u8 0) 1 1 Ybad.underlying22 hi5 hz0 hz1 hz2 rfl (by decide) _ (nb + 1 + (join true els).length) _ rfl (HOWN3.out.alloc _) ⟨wr.heap.size, 0, none⟩ 1 1 [.int .u8 125] rfl rfl (cell_newG _ _ _) (by intro u hu; simp at hu; subst hu; rfl) (by have := HJ.out; unfold maxLen; omega) (by have := HJ.out; omega) (by simp; omega) ?_; intro v5 w5 hown5 hgrow5 hnil5)
              go_ret3
              exact ⟨v5, cont true els, (vn : Int), false, rfl, HVA.out, own_close (o := true) (own_one hown5), HKS3.out.below hK (((Below.refl _ _).alloc hbr _).trans (grown_below (HOWN3.out.alloc _) hgrow5 (by simp; omega)))⟩

theorem gen_ok : ∀ f, GenOK f
  | 0 => gen_core 0 (fun f' h => by omega)
  | f + 1 => gen_core (f + 1) (fun f' h => by
    obtain rfl : f = f' := by omega
    exact gen_ok f)
end Go.Proofs.YbulkxxiDoor
