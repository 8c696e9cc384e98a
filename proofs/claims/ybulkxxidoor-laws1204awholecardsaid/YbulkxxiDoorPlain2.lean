/-
  plainBytes.
-/
import Derived.Test.YbulkxxiDoorPlain
import Derived.Laws.BitsAllLaws
namespace Go.Proofs.YbulkxxiDoor
open Go.RowKit
set_option linter.unusedVariables false

theorem le8_lt (b0 b1 b2 b3 b4 b5 b6 b7 : Nat) (h0 : b0 < 256) (h1 : b1 < 256) (h2 : b2 < 256) (h3 : b3 < 256) (h4 : b4 < 256) (h5 : b5 < 256) (h6 : b6 < 256) (h7 : b7 < 256) : le8 b0 b1 b2 b3 b4 b5 b6 b7 < 18446744073709551616 := by unfold le8; omega

/-- The eight bytes of the text from k on, as one number. -/
def word (l : List Int) (k : Nat) : Nat := le8 (l.getD k 0).toNat (l.getD (k + 1) 0).toNat (l.getD (k + 2) 0).toNat (l.getD (k + 3) 0).toNat (l.getD (k + 4) 0).toNat (l.getD (k + 5) 0).toNat (l.getD (k + 6) 0).toNat (l.getD (k + 7) 0).toNat

theorem le8_b0 (b0 b1 b2 b3 b4 b5 b6 b7 : Nat) (h0 : b0 < 256) (h1 : b1 < 256) (h2 : b2 < 256) (h3 : b3 < 256) (h4 : b4 < 256) (h5 : b5 < 256) (h6 : b6 < 256) (h7 : b7 < 256) : le8 b0 b1 b2 b3 b4 b5 b6 b7 / 1 % 256 = b0 := by
  unfold le8
  omega
theorem le8_b1 (b0 b1 b2 b3 b4 b5 b6 b7 : Nat) (h0 : b0 < 256) (h1 : b1 < 256) (h2 : b2 < 256) (h3 : b3 < 256) (h4 : b4 < 256) (h5 : b5 < 256) (h6 : b6 < 256) (h7 : b7 < 256) : le8 b0 b1 b2 b3 b4 b5 b6 b7 / 256 % 256 = b1 := by
  unfold le8
  omega
theorem le8_b2 (b0 b1 b2 b3 b4 b5 b6 b7 : Nat) (h0 : b0 < 256) (h1 : b1 < 256) (h2 : b2 < 256) (h3 : b3 < 256) (h4 : b4 < 256) (h5 : b5 < 256) (h6 : b6 < 256) (h7 : b7 < 256) : le8 b0 b1 b2 b3 b4 b5 b6 b7 / 65536 % 256 = b2 := by
  unfold le8
  omega
theorem le8_b3 (b0 b1 b2 b3 b4 b5 b6 b7 : Nat) (h0 : b0 < 256) (h1 : b1 < 256) (h2 : b2 < 256) (h3 : b3 < 256) (h4 : b4 < 256) (h5 : b5 < 256) (h6 : b6 < 256) (h7 : b7 < 256) : le8 b0 b1 b2 b3 b4 b5 b6 b7 / 16777216 % 256 = b3 := by
  unfold le8
  omega
theorem le8_b4 (b0 b1 b2 b3 b4 b5 b6 b7 : Nat) (h0 : b0 < 256) (h1 : b1 < 256) (h2 : b2 < 256) (h3 : b3 < 256) (h4 : b4 < 256) (h5 : b5 < 256) (h6 : b6 < 256) (h7 : b7 < 256) : le8 b0 b1 b2 b3 b4 b5 b6 b7 / 4294967296 % 256 = b4 := by
  unfold le8
  omega
theorem le8_b5 (b0 b1 b2 b3 b4 b5 b6 b7 : Nat) (h0 : b0 < 256) (h1 : b1 < 256) (h2 : b2 < 256) (h3 : b3 < 256) (h4 : b4 < 256) (h5 : b5 < 256) (h6 : b6 < 256) (h7 : b7 < 256) : le8 b0 b1 b2 b3 b4 b5 b6 b7 / 1099511627776 % 256 = b5 := by
  unfold le8
  omega
theorem le8_b6 (b0 b1 b2 b3 b4 b5 b6 b7 : Nat) (h0 : b0 < 256) (h1 : b1 < 256) (h2 : b2 < 256) (h3 : b3 < 256) (h4 : b4 < 256) (h5 : b5 < 256) (h6 : b6 < 256) (h7 : b7 < 256) : le8 b0 b1 b2 b3 b4 b5 b6 b7 / 281474976710656 % 256 = b6 := by
  unfold le8
  omega
theorem le8_b7 (b0 b1 b2 b3 b4 b5 b6 b7 : Nat) (h0 : b0 < 256) (h1 : b1 < 256) (h2 : b2 < 256) (h3 : b3 < 256) (h4 : b4 < 256) (h5 : b5 < 256) (h6 : b6 < 256) (h7 : b7 < 256) : le8 b0 b1 b2 b3 b4 b5 b6 b7 / 72057594037927936 % 256 = b7 := by
  unfold le8
  omega
theorem word_spec {w : World} {g n : Nat} {l : List Int} (ht : Txt w g n l) (k : Nat) : word l k < 18446744073709551616 ∧ ∀ m, m < 8 → ((word l k / 2 ^ (8 * m) % 256 : Nat) : Int) = l.getD (k + m) 0 := by
  have z : ∀ t, (l.getD t 0).toNat < 256 := fun t => by have := ht.byte t; omega
  have y : ∀ t, (((l.getD t 0).toNat : Nat) : Int) = l.getD t 0 := fun t => Int.toNat_of_nonneg (ht.byte t).1
  unfold word
  refine ⟨le8_lt _ _ _ _ _ _ _ _ (z _) (z _) (z _) (z _) (z _) (z _) (z _) (z _), fun m hm => ?_⟩
  rcases (show m = 0 ∨ m = 1 ∨ m = 2 ∨ m = 3 ∨ m = 4 ∨ m = 5 ∨ m = 6 ∨ m = 7 from by omega) with rfl | rfl | rfl | rfl | rfl | rfl | rfl | rfl <;> simp only [Nat.reduceMul, Nat.reducePow]
  · rw [le8_b0 _ _ _ _ _ _ _ _ (z _) (z _) (z _) (z _) (z _) (z _) (z _) (z _)]; exact y _
  · rw [le8_b1 _ _ _ _ _ _ _ _ (z _) (z _) (z _) (z _) (z _) (z _) (z _) (z _)]; exact y _
  · rw [le8_b2 _ _ _ _ _ _ _ _ (z _) (z _) (z _) (z _) (z _) (z _) (z _) (z _)]; exact y _
  · rw [le8_b3 _ _ _ _ _ _ _ _ (z _) (z _) (z _) (z _) (z _) (z _) (z _) (z _)]; exact y _
  · rw [le8_b4 _ _ _ _ _ _ _ _ (z _) (z _) (z _) (z _) (z _) (z _) (z _) (z _)]; exact y _
  · rw [le8_b5 _ _ _ _ _ _ _ _ (z _) (z _) (z _) (z _) (z _) (z _) (z _) (z _)]; exact y _
  · rw [le8_b6 _ _ _ _ _ _ _ _ (z _) (z _) (z _) (z _) (z _) (z _) (z _) (z _)]; exact y _
  · rw [le8_b7 _ _ _ _ _ _ _ _ (z _) (z _) (z _) (z _) (z _) (z _) (z _) (z _)]; exact y _

/-- Where the eight bytes are scanned: nothing special is passed over. -/
theorem word_plain {w : World} {g n : Nat} {l : List Int} (ht : Txt w g n l) (k : Nat) :
    (marks (word l k) = 0 → ∀ t, k ≤ t → t < k + 8 → ¬ Special (l.getD t 0)) ∧
    (marks (word l k) ≠ 0 → Lib.ctz 64 (marks (word l k)) / 8 < 8 ∧ ∀ t, k ≤ t → t < k + Lib.ctz 64 (marks (word l k)) / 8 → ¬ Special (l.getD t 0)) := by
  obtain ⟨hX, hb⟩ := word_spec ht k
  have key : ∀ m, m < 8 → Special (l.getD (k + m) 0) → marks (word l k) ≠ 0 ∧ Lib.ctz 64 (marks (word l k)) ≤ 8 * m + 7 := fun m hm hs =>
    ctz_le _ _ (marks_lt _) (marks_bit _ m hm hX (by rw [hb m hm]; exact hs))
  refine ⟨fun h0 t h1 h2 hs => ?_, fun h0 => ⟨?_, fun t h1 h2 hs => ?_⟩⟩
  · exact (key (t - k) (by omega) (by rw [show k + (t - k) = t by omega]; exact hs)).1 h0
  · have := ctz_lt _ (marks_lt (word l k)) h0; omega
  · have hc := ctz_lt _ (marks_lt (word l k)) h0
    have := (key (t - k) (by omega) (by rw [show k + (t - k) = t by omega]; exact hs)).2
    omega

theorem wSub_lt (a c : Nat) : wSub a c < 18446744073709551616 := Nat.mod_lt _ (by decide)
theorem wrap_wSub (a c : Nat) (hc : c ≤ 18446744073709551616) : IntKind.u64.wrap ((a : Int) - (c : Int)) = ((wSub a c : Nat) : Int) := by
  unfold wSub
  exact wrap_sub_u64_nat a c (18446744073709551616 - c) (by omega)
theorem andNot_wNot (a b : Nat) (ha : a < 18446744073709551616) (hb : b < 18446744073709551616) : bits .andNot .u64 (a : Int) (b : Int) = ((a &&& wNot b : Nat) : Int) := u64_andNot_nat a b ha hb
/-- What the Go text reckons is 'marks'. -/
theorem marks_eq (X : Nat) (hX : X < 18446744073709551616) : bits BinOp.and IntKind.u64 (bits BinOp.or IntKind.u64 (bits BinOp.or IntKind.u64 (bits BinOp.andNot IntKind.u64 (IntKind.u64.wrap (bits BinOp.xor IntKind.u64 (X : Int) 2459565876494606882 - 72340172838076673)) (bits BinOp.xor IntKind.u64 (X : Int) 2459565876494606882)) (bits BinOp.andNot IntKind.u64 (IntKind.u64.wrap (bits BinOp.xor IntKind.u64 (X : Int) 6655295901103053916 - 72340172838076673)) (bits BinOp.xor IntKind.u64 (X : Int) 6655295901103053916))) (bits BinOp.andNot IntKind.u64 (IntKind.u64.wrap ((X : Int) - 2314885530818453536)) (X : Int))) 9259542123273814144 = ((marks X : Nat) : Int) := by
  have hx1 : X ^^^ quoteC < 18446744073709551616 := Nat.xor_lt_two_pow (n := 64) hX (by decide)
  have hx2 : X ^^^ slashC < 18446744073709551616 := Nat.xor_lt_two_pow (n := 64) hX (by decide)
  have e1 : bits BinOp.xor IntKind.u64 (X : Int) 2459565876494606882 = ((X ^^^ quoteC : Nat) : Int) := u64_xor_nat X quoteC hX (by decide)
  have e2 : bits BinOp.xor IntKind.u64 (X : Int) 6655295901103053916 = ((X ^^^ slashC : Nat) : Int) := u64_xor_nat X slashC hX (by decide)
  have e3 : IntKind.u64.wrap (((X ^^^ quoteC : Nat) : Int) - 72340172838076673) = ((wSub (X ^^^ quoteC) onesC : Nat) : Int) := wrap_wSub _ onesC (by decide)
  have e4 : IntKind.u64.wrap (((X ^^^ slashC : Nat) : Int) - 72340172838076673) = ((wSub (X ^^^ slashC) onesC : Nat) : Int) := wrap_wSub _ onesC (by decide)
  have e5 : IntKind.u64.wrap ((X : Int) - 2314885530818453536) = ((wSub X blankC : Nat) : Int) := wrap_wSub _ blankC (by decide)
  rw [e1, e2, e3, e4, e5, andNot_wNot _ _ (wSub_lt _ _) hx1, andNot_wNot _ _ (wSub_lt _ _) hx2, andNot_wNot _ _ (wSub_lt _ _) hX]
  have l1 : wSub (X ^^^ quoteC) onesC &&& wNot (X ^^^ quoteC) < 18446744073709551616 := Nat.and_lt_two_pow (n := 64) _ (by unfold wNot; omega)
  have l2 : wSub (X ^^^ slashC) onesC &&& wNot (X ^^^ slashC) < 18446744073709551616 := Nat.and_lt_two_pow (n := 64) _ (by unfold wNot; omega)
  have l3 : wSub X blankC &&& wNot X < 18446744073709551616 := Nat.and_lt_two_pow (n := 64) _ (by unfold wNot; omega)
  rw [u64_or_nat _ _ l1 l2, u64_or_nat _ _ (Nat.or_lt_two_pow (n := 64) l1 l2) l3]
  exact u64_and_nat _ topsC (Nat.or_lt_two_pow (n := 64) (Nat.or_lt_two_pow (n := 64) l1 l2) l3) (by decide)

set_option maxHeartbeats 4000000 in
theorem plain_any (g n cap i : Nat) (x : Int) (hx : x = i) (l : List Int) (w : World) (ht : Txt w g n l) (hcap : n ≤ cap) (hg : g < w.heap.size) (hg2 : 2 < w.heap.size) (hT : Tab w) (hin : i ≤ n) :
    Calls Ybad.prog 11 #[.slice (some ⟨g, 0, none⟩) n cap, .int .i64 x] w fun e w' => ∃ j : Nat, e = .returned (.int .i64 j) ∧ i ≤ j ∧ j ≤ n ∧ (∀ t, i ≤ t → t < j → ¬ Special (l.getD t 0)) ∧ Below w.heap.size w w' := by
  subst hx
  have hbig := ht.big
  have HT : Hid (Txt w g n l) := ht
  have HTab : Hid (Tab w) := hT
  clear ht hT
  go_enter Ybad.func11, Ybad.ntmps11
  go_wp2
  go_loopw [1] (fun s wr => ∃ k : Nat, i ≤ k ∧ k ≤ n ∧ s = .int .i64 k ∧ (∀ t, i ≤ t → t < k → ¬ Special (l.getD t 0)) ∧ Below w.heap.size w wr) (fun s _ => n - (intOf s).toNat)
  case atStart => exact ⟨i, Nat.le_refl _, hin, rfl, fun t h1 h2 => by omega, Below.refl _ _⟩
  case round =>
    obtain ⟨k, hik, hkn, rfl, hpl, hbx⟩ := hrel
    have HP : Hid (∀ t, i ≤ t → t < k → ¬ Special (l.getD t 0)) := hpl
    clear hpl
    by_cases h8 : k + 8 ≤ n
    · have h8I : (8 : Int) ≤ (n : Int) - (k : Int) := by omega
      have hkI : (k : Int) ≤ (n : Int) := by omega
      have hnI : (n : Int) ≤ (cap : Int) := by omega
      have hne : ¬ cap = k := by omega
      obtain ⟨X, hXd⟩ : ∃ X, X = word l k := ⟨_, rfl⟩
      have hU : ∀ (wx : World) m c, 8 ≤ m → Below w.heap.size w wx → Calls Ybad.prog 15 #[.agg #[], .slice (some ⟨g, k, none⟩) m c] wx fun e w' => e = .returned (.int .u64 X) ∧ Below wx.heap.size wx w' := by
        intro wx m c hm hb
        have q : ∀ t, t < 8 → wx.cell? ⟨g, k + t, none⟩ = some (.int .u8 (((l.getD (k + t) 0).toNat : Nat) : Int)) := fun t ht => by
          rw [hb.cell (p := ⟨g, k + t, none⟩) hg, HT.out.cell (k + t) (by omega)]
          have := HT.out.byte (k + t)
          rw [Int.toNat_of_nonneg this.1]
        have z : ∀ t, (l.getD (k + t) 0).toNat < 256 := fun t => by have := HT.out.byte (k + t); omega
        rw [hXd]
        exact le64_any g k m c _ _ _ _ _ _ _ _ wx hm (z 0) (z 1) (z 2) (z 3) (z 4) (z 5) (z 6) (z 7) (q 0 (by omega)) (q 1 (by omega)) (q 2 (by omega)) (q 3 (by omega)) (q 4 (by omega)) (q 5 (by omega)) (q 6 (by omega)) (q 7 (by omega))
      have HU : Hid (∀ (wx : World) m c, 8 ≤ m → Below w.heap.size w wx → Calls Ybad.prog 15 #[.agg #[], .slice (some ⟨g, k, none⟩) m c] wx fun e w' => e = .returned (.int .u64 X) ∧ Below wx.heap.size wx w') := hU
      have hW := word_plain HT.out k
      have hXlt := (word_spec HT.out k).1
      rw [← hXd] at hW hXlt
      have HW : Hid ((marks X = 0 → ∀ t, k ≤ t → t < k + 8 → ¬ Special (l.getD t 0)) ∧ (marks X ≠ 0 → Lib.ctz 64 (marks X) / 8 < 8 ∧ ∀ t, k ≤ t → t < k + Lib.ctz 64 (marks X) / 8 → ¬ Special (l.getD t 0))) := hW
      clear hU hW hXd
      go_wp2_with fail
      go_cut [5] from 9 to 47 (fun v wx => v = .int .u64 X ∧ Below w.heap.size w wx)
      case first =>
        go_region_with (go_at_call 15; refine (HU.out _ _ _ (by omega) (by exact hbx.drew)).mono ?_; rintro e w1 ⟨rfl, hb1⟩)
        all_goals (try go_wp2_with fail)
        all_goals go_meet
        all_goals exact ⟨rfl, hbx.drew.trans (hb1.mono (by exact hbx.size))⟩
      case rest =>
        obtain ⟨rfl, hbc⟩ := hcut
        clear hbx
        have hE := marks_eq X hXlt
        have hFlt := marks_lt X
        obtain ⟨F, hFd⟩ : ∃ F, F = marks X := ⟨_, rfl⟩
        rw [← hFd] at hE hFlt
        have HW2 := HW.out
        rw [← hFd] at HW2
        have HW3 : Hid ((F = 0 → ∀ t, k ≤ t → t < k + 8 → ¬ Special (l.getD t 0)) ∧ (F ≠ 0 → Lib.ctz 64 F / 8 < 8 ∧ ∀ t, k ≤ t → t < k + Lib.ctz 64 F / 8 → ¬ Special (l.getD t 0))) := HW2
        have HFL : Hid (F < 18446744073709551616) := hFlt
        clear hFlt HW2 hFd HW hXlt HU
        have hTabC : Tab wc := fun j hj => (hbc.cell (p := ⟨2, j, none⟩) hg2).trans (HTab.out j hj)
        have HTC : Hid (Tab wc) := hTabC
        clear hTabC
        by_cases hF0 : F = 0
        · have hz : ((F : Int) != 0) = false := by simp [hF0]
          have HF0 : Hid (F = 0) := hF0
          clear hF0
          go_wp2_with fail
          go_roundw
          case rel => exact ⟨k + 8, by omega, by omega, by go_num, fun t h1 h2 => by
            by_cases h : t < k
            · exact HP.out t h1 h
            · exact HW3.out.1 HF0.out t (by omega) h2, hbc⟩
          case measure => simp [intOf]; omega
        · have hz : ((F : Int) != 0) = true := by simp [hF0]
          obtain ⟨c, hcd⟩ : ∃ c, c = Lib.ctz 64 F := ⟨_, rfl⟩
          have hC := HW3.out.2 hF0
          rw [← hcd] at hC
          have hTZ := tz_any F HFL.out hF0 wc HTC.out
          rw [← hcd] at hTZ
          have HTZ : Hid (Calls Ybad.prog 16 #[.int .u64 F] wc fun e w' => e = .returned (.int .i64 c) ∧ w' = wc) := hTZ
          have hc8 : c / 8 < 8 := hC.1
          have HC2 : Hid (∀ t, k ≤ t → t < k + c / 8 → ¬ Special (l.getD t 0)) := hC.2
          clear hcd hC hTZ hF0
          go_wp2_with (go_at_call 16; refine HTZ.out.mono ?_; rintro e w' ⟨rfl, rfl⟩)
          go_ret
          exact ⟨k + c / 8, congrArg (fun z => Ending.returned (.int .i64 z)) (by omega), by omega, by omega, fun t h1 h2 => by
            by_cases h : t < k
            · exact HP.out t h1 h
            · exact HC2.out t (by omega) h2, hbc⟩
    · have h8I : decide ((8 : Int) ≤ (n : Int) - (k : Int)) = false := decide_eq_false (by omega)
      go_wp2
      go_ret
      exact ⟨k, rfl, hik, hkn, HP.out, hbx⟩
end Go.Proofs.YbulkxxiDoor
