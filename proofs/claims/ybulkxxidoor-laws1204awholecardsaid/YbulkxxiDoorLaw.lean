/-
  THE LAW's WALK: inputfile.LawS1204AWhole.
-/
import Derived.Test.YbulkxxiDoorEnds
namespace Go.Proofs.YbulkxxiDoor
open Go.RowKit
set_option linter.unusedVariables false

/-- A row of bytes that is owned is a text. -/
theorem txt_of_own {w : World} {base g n cap : Nat} {l : List Int} (h : w.ownsRow base 5 1 (.slice (some ⟨g, 0, none⟩) n cap) n (l.map (Value.int .u8))) (hb : ∀ b ∈ l, 0 ≤ b ∧ b ≤ 255) (hn : n ≤ 100000) : Txt w g n l := by
  have hl : l.length = n := by have := h.1; simpa using this
  refine ⟨hl, fun j hj => ?_, bytes_getD hb, hn⟩
  rw [h.cellAt j (by omega)]
  simp [List.getD, show j < l.length by omega]

theorem own_parts {w : World} {base e size n cap g : Nat} {xs : List Value} (h : w.ownsRow base e size (.slice (some ⟨g, 0, none⟩) n cap) n xs) : base ≤ g ∧ g < w.heap.size ∧ n ≤ cap := by
  rcases h.2 with ⟨h', _⟩ | ⟨g', cap', cur, h', hb, hg, hc, _⟩
  · simp at h'
  · simp only [Value.slice.injEq, Option.some.injEq, Addr.mk.injEq, and_true, true_and] at h'
    obtain ⟨rfl, rfl⟩ := h'
    exact ⟨hb, (Array.getElem?_eq_some_iff.1 hg).1, hc⟩

theorem at_self (l : List Int) : At l 0 l := ⟨by simp, fun t ht => by simp⟩
theorem ends_self (l : List Int) : Ends l l.length := fun h => by omega
theorem at_prefix (l r : List Int) : At (l ++ r) 0 l := ⟨by simp, fun t ht => by simp [List.getD, List.getElem?_append_left ht]⟩
theorem ends_tail (l : List Int) (c : Int) (h : Delim c) : Ends (l ++ [c]) l.length := fun _ => by
  simp [List.getD]; exact h
theorem at_suffix (l r : List Int) : At (r ++ l) r.length l := ⟨by simp, fun t ht => by simp [List.getD, List.getElem?_append_right]⟩
theorem ends_suffix (l r : List Int) : Ends (r ++ l) (r.length + l.length) := fun h => by simp at h

theorem cell_newT (w : World) (v u : Value) (t : TypeId) : ∀ j x, [v, u][j]? = some x → (w.alloc (.cells #[v, u] t)).cell? ((⟨w.heap.size, 0, none⟩ : Addr).add j) = some x := by
  intro j x hj
  match j, hj with
  | 0, hj => simp at hj; subst hj; simp [Addr.add]
  | 1, hj => simp at hj; subst hj; simp [Addr.add]
  | j + 2, hj => simp at hj

def tails : List Int := [44, 32, 93, 125, 10]

set_option maxHeartbeats 8000000 in
set_option maxRecDepth 100000 in
theorem law_in (a : Option Addr) (len cap : Nat) (z : List Int) (tail : Int) (w : World) (hops : 0 < len → ∃ b off, a = some ⟨b, off, none⟩ ∧ b < w.heap.size ∧ ∀ j, j < len → w.cell? ⟨b, off + j, none⟩ = some (.int .u8 (z.getD j 0)) ∧ 0 ≤ z.getD j 0 ∧ z.getD j 0 ≤ 255)
    (hlen : len ≤ 9223372036854775807) (ht0 : 0 ≤ tail) (ht1 : tail ≤ 255) (hT : Tab w) (hS : Sp w) (hg2 : 2 < w.heap.size) :
    Calls Ybad.prog 3 #[.slice a len cap, .int .u8 tail] w fun e w' => e = .returned (.bool true) ∧ Below w.heap.size w w' := by
  obtain ⟨i0, hi5, hz0, hz1, hz2⟩ := info_parts Ybad.info5
  obtain ⟨B, hB⟩ : ∃ B, B = w.heap.size := ⟨_, rfl⟩
  have hgen := gen_ok 4 a len cap z w.heap.size (w.heap.size + 1) 0 (.slice none 0 0) [] 0 (w.alloc (.cells #[.int .i64 0] 3)) (fun hl => by
      obtain ⟨b, off, ha, hb, hc⟩ := hops hl
      exact ⟨b, off, ha, by omega, by omega, fun j hj => ⟨by rw [World.cell?_alloc_past _ _ _ hb]; exact (hc j hj).1, (hc j hj).2⟩⟩)
    hlen (by omega) (by simp) ⟨0, Nat.zero_le _, by show (w.heap.push _)[w.heap.size]? = _; simp⟩ (World.ownsRow_nil _ _ _ _) (by decide) (by omega) (by omega)
  have HGEN : Hid (Calls Ybad.prog 5 #[.slice a len cap, .pointer (some ⟨w.heap.size, 0, none⟩), .int .i64 0, .slice none 0 0] (w.alloc (.cells #[.int .i64 0] 3)) fun e w' => ∃ v' bs m num, e = .returned (.tuple #[v', .int .i64 m, .bool num]) ∧ Val 4 bs m ∧ w'.ownsRow (w.heap.size + 1) 5 1 v' (0 + bs.length) (([] ++ bs).map (Value.int .u8)) ∧ KS (w.alloc (.cells #[.int .i64 0] 3)) w' w.heap.size (w.heap.size + 1) len) := hgen
  clear hgen hops
  go_enter Ybad.func3, Ybad.ntmps3
  go_wp2_with fail
  refine HGEN.out.mono ?_
  rintro e w1 ⟨v1, bs, m, num, rfl, hval, hown, hks⟩
  have hlb := val_len 4 bs m hval
  have hpos := (val_head 4 bs m hval).1
  have hby := val_bytes 4 bs m hval
  rw [Nat.zero_add, List.nil_append] at hown
  obtain ⟨g, cp, rfl⟩ := own_shape hown hpos
  obtain ⟨hgB, hgw, hncp⟩ := own_parts hown
  obtain ⟨n, hn⟩ : ∃ n, n = bs.length := ⟨_, rfl⟩
  rw [← hn] at hown hncp hlb hpos ⊢
  have hn4 : n ≤ 5000 := Nat.le_trans hlb (by decide)
  have hb1 : Below w.heap.size w w1 := by
    refine ⟨hks.os, hks.tape, hks.output, ?_, fun k hk => ?_⟩
    · have := hks.size; simp at this; omega
    · rw [hks.block k (by omega) (by omega)]; exact Below.heap_alloc w _ k hk
  have HN : Hid (n = bs.length) := hn
  have HVAL : Hid (Val 4 bs m) := hval
  have HBY : Hid (∀ b ∈ bs, 0 ≤ b ∧ b ≤ 255) := hby
  have HOWN : Hid (w1.ownsRow (w.heap.size + 1) 5 1 (.slice (some ⟨g, 0, none⟩) n cp) n (bs.map (Value.int .u8))) := hown
  have HT : Hid (Tab w) := hT
  have HS : Hid (Sp w) := hS
  clear hks HGEN hn hval hby hown hT hS hlb hB
  go_wp2_with fail
  -- THE FIRST READING
  have hzp : (w1.alloc (.cells #[.int .i64 0, .int .i64 0, .int .i64 0, .int .i64 0, .slice none 0 0, .slice none 0 0] 29)).heap[w1.heap.size]? = some (.cells #[.int .i64 0, .int .i64 0, .int .i64 0, .int .i64 0, .slice none 0 0, .slice none 0 0] 29 (0, 0)) := by show (w1.heap.push _)[w1.heap.size]? = _; simp
  have hbA : Below w1.heap.size w1 (w1.alloc (.cells #[.int .i64 0, .int .i64 0, .int .i64 0, .int .i64 0, .slice none 0 0, .slice none 0 0] 29)) := (Below.refl _ _).alloc (Nat.le_refl _) _
  have hw1 : w.heap.size + 1 ≤ w1.heap.size := by omega
  have hEnv1 : Env w1 g n bs := ⟨txt_of_own HOWN.out HBY.out (by omega), hgw, by omega, HT.out.below hb1 hg2, HS.out.below hb1 (by omega)⟩
  have hP0 : Part0 (w1.alloc (.cells #[.int .i64 0, .int .i64 0, .int .i64 0, .int .i64 0, .slice none 0 0, .slice none 0 0] 29)) w1.heap.size 0 6 := ⟨⟨_, hzp, rfl⟩, by omega, by rw [cell_of_row _ _ _ _ _ _ hzp]; rfl, by rw [cell_of_row _ _ _ _ _ _ hzp]; rfl, by rw [cell_of_row _ _ _ _ _ _ hzp]; rfl⟩
  have hcA := top_ok 4 bs m HVAL.out (by omega) g n cp bs _ w1.heap.size 6 (hEnv1.below hbA) (by omega) (by omega) hP0 hncp (at_self bs) (ends_self bs)
  rw [← HN.out] at hcA
  refine hcA.mono ?_
  clear hcA
  rintro e w2 ⟨rfl, hps2, pl, hpl, hpl1, hpl2⟩
  have hb2 : Below w1.heap.size w1 w2 := by
    refine ⟨hps2.os, hps2.tape, hps2.output, ?_, fun k hk => ?_⟩
    · have := hps2.size; simp at this; omega
    · rw [hps2.block k (by simp; omega) (by omega)]; exact Below.heap_alloc w1 _ k hk
  have HE2 : Hid (Env w2 g n bs) := hEnv1.below hb2
  have hw2 : w1.heap.size < w2.heap.size := by have := hps2.size; simp at this; omega
  have HPL1 : Hid (m < 0 → pl = 0) := hpl1
  have HPL2 : Hid (0 ≤ m → pl = m) := hpl2
  clear hps2 hP0 hzp hbA HOWN hEnv1 hpl1 hpl2 HT HS
  have hnn : ((n : Int) != (n : Int)) = false := by simp
  -- THE TAIL
  obtain ⟨kt, hkt⟩ : ∃ kt : Nat, tail % 5 = (kt : Int) := ⟨(tail % 5).toNat, by omega⟩
  have hk5 : kt < 5 := by omega
  have hk5I : (kt : Int) < 5 := by omega
  obtain ⟨tc, htc⟩ : ∃ tc, tc = tails.getD kt 0 := ⟨_, rfl⟩
  have HDL : Hid (Delim tc ∧ 0 ≤ tc ∧ tc ≤ 255) := by
    rw [htc]
    rcases (show kt = 0 ∨ kt = 1 ∨ kt = 2 ∨ kt = 3 ∨ kt = 4 from by omega) with rfl | rfl | rfl | rfl | rfl <;> refine ⟨?_, ?_, ?_⟩ <;> simp [tails, Delim]
  have HTC : Hid (∀ wx, Below (w2.heap.size + 1) (w2.alloc (.cells #[.int .u8 44, .int .u8 32, .int .u8 93, .int .u8 125, .int .u8 10] 33)) wx → wx.cell? ⟨w2.heap.size, kt, none⟩ = some (.int .u8 tc)) := fun wx hb => by
    rw [hb.cell (p := ⟨w2.heap.size, kt, none⟩) (Nat.lt_succ_self _), htc]
    rcases (show kt = 0 ∨ kt = 1 ∨ kt = 2 ∨ kt = 3 ∨ kt = 4 from by omega) with rfl | rfl | rfl | rfl | rfl <;> simp [tails]
  have HTX : Hid (∀ wx, Below (w2.heap.size + 1) (w2.alloc (.cells #[.int .u8 44, .int .u8 32, .int .u8 93, .int .u8 125, .int .u8 10] 33)) wx → ∀ j u, (bs.map (Value.int .u8))[j]? = some u → wx.cell? ((⟨g, 0, none⟩ : Addr).add j) = some u) := fun wx hb j u hu => by
    have hj : j < bs.length := by
      have := (List.getElem?_eq_some_iff.1 hu).1
      simpa using this
    have hgw2 := HE2.out.hg
    rw [Addr.add_lit, Nat.zero_add, hb.cell (p := ⟨g, j, none⟩) (Nat.lt_succ_of_lt hgw2), World.cell?_alloc_past _ _ _ hgw2, HE2.out.txt.cell j (by rw [HN.out]; exact hj), ← hu]
    simp [List.getD, hj]
  clear htc
  by_cases hm : 0 ≤ m
  · skip
    obtain rfl := HPL2.out hm
    have hm1 : decide (0 ≤ pl) = true := decide_eq_true hm
    have hm2 : decide (pl < 0) = false := decide_eq_false (by omega)
    have hm3 : (pl != pl) = false := by simp
    clear HPL1 HPL2
    go_wp2_with (first
      | (at_make; refine wpList_make_own _ rfl _ _ 22 rfl w2.heap.size 5 i0 (.int .u8 0) 1 Ybad.underlying22 hi5 hz0 hz1 _ _ _ (n + 1) rfl rfl (by omega) (by rw [hz2]; omega) (by unfold maxLen; omega) (by simp) ?_; intro w4 hown4 hgrow4; have hb4 : Below (w2.heap.size + 1) (w2.alloc (.cells #[.int .u8 44, .int .u8 32, .int .u8 93, .int .u8 125, .int .u8 10] 33)) w4 := (Below.refl _ _).grown hgrow4 (by simp) (fun k h => by cases h))
      | (at_builtin; refine wpList_append_fits _ rfl (.tmp 60) (.tmp 61) 22 rfl w2.heap.size 5 i0 1 Ybad.underlying22 hi5 hz1 (w2.heap.size + 1) 0 (n + 1) _ rfl (by simpa using hown4) ⟨g, 0, none⟩ n cp (bs.map (Value.int .u8)) rfl (by simp [HN.out]) (HTX.out _ hb4) (ints_oneCell _ _) (by omega) ?_; intro w5 hown5 hgrow5; have hb5 : Below (w2.heap.size + 1) (w2.alloc (.cells #[.int .u8 44, .int .u8 32, .int .u8 93, .int .u8 125, .int .u8 10] 33)) w5 := hb4.grown hgrow5 (by have := hb4.size; simpa using this) (fun k h => by cases h; exact Nat.le_refl _); have hct := HTC.out w5 hb5)
      | (at_builtin; refine wpList_append_fits _ rfl (.tmp 63) (.tmp 69) 22 rfl w2.heap.size 5 i0 1 Ybad.underlying22 hi5 hz1 (w2.heap.size + 1) n (n + 1) _ rfl (by simpa using hown5.alloc _) ⟨w5.heap.size, 0, none⟩ 1 1 [.int .u8 tc] rfl rfl (cell_newG _ _ _) (by intro u hu; simp at hu; subst hu; rfl) (by omega) ?_; intro w6 hown6 hgrow6))
    have hb6 : Below w2.heap.size w2 w6 := (((Below.refl _ _).alloc (Nat.le_refl _) _).trans (hb5.mono (Nat.le_succ _))).trans (((Below.refl _ _).alloc (by have := hb5.size; simp at this; omega) _).grown hgrow6 (by have := hb5.size; simp at this ⊢; omega) (fun k h => by cases h; exact Nat.le_succ _))
    have hgB2 : g < w2.heap.size := HE2.out.hg
    have hown6' : w6.ownsRow w2.heap.size 5 1 (.slice (some ⟨w2.heap.size + 1, 0, none⟩) (n + 1) (n + 1)) (n + 1) ((bs ++ [tc]).map (Value.int .u8)) := by simpa using hown6
    have hE6 : Env w6 g n bs := HE2.out.below hb6
    have hE6t : Env w6 (w2.heap.size + 1) (n + 1) (bs ++ [tc]) := ⟨txt_of_own hown6' (fun b hb => (List.mem_append.1 hb).elim (HBY.out b) (fun h => by simp at h; subst h; exact HDL.out.2)) (by omega), (own_parts hown6').2.1, hE6.hg2, hE6.tab, hE6.sp⟩
    have hcB := (nil_ok 4 bs pl HVAL.out).ok (w2.heap.size + 1) (n + 1) (n + 1) 0 0 0 (bs ++ [tc]) w6 hE6t (Nat.le_refl _) rfl (by omega) (by omega) (at_prefix _ _) (by rw [Nat.zero_add]; exact ends_tail _ _ HDL.out.1)
    rw [Nat.zero_add, ← HN.out] at hcB
    refine hcB.mono ?_
    clear hcB
    rintro e w7 ⟨rfl, hb7⟩
    have HE7 : Hid (Env w7 g n bs) := hE6.below hb7
    have hb27 : Below w2.heap.size w2 w7 := hb6.trans (hb7.mono hb6.size)
    have HTX7 : Hid (∀ wx, Below w7.heap.size w7 wx → ∀ j u, (bs.map (Value.int .u8))[j]? = some u → wx.cell? ((⟨g, 0, none⟩ : Addr).add j) = some u) := fun wx hb j u hu => by
      have hj : j < bs.length := by
        have := (List.getElem?_eq_some_iff.1 hu).1
        simpa using this
      rw [Addr.add_lit, Nat.zero_add, hb.cell (p := ⟨g, j, none⟩) HE7.out.hg, HE7.out.txt.cell j (by rw [HN.out]; exact hj), ← hu]
      simp [List.getD, hj]
    clear hE6t hown6' hown6 hgrow6 hown5 hgrow5 hown4 hgrow4 hb4 hb5 hct HTC HTX hb6 hE6 hb7
    go_wp2_with (first
      | (at_make; refine wpList_make_own _ rfl _ _ 22 rfl w7.heap.size 5 i0 (.int .u8 0) 1 Ybad.underlying22 hi5 hz0 hz1 _ _ _ (n + 2) rfl rfl (by omega) (by rw [hz2]; omega) (by unfold maxLen; omega) (Nat.le_refl _) ?_; intro w8 hown8 hgrow8; have hb8 : Below w7.heap.size w7 w8 := (Below.refl _ _).grown hgrow8 (Nat.le_refl _) (fun k h => by cases h))
      | (at_builtin; refine wpList_append_fits _ rfl (.tmp 88) (.tmp 89) 22 rfl w7.heap.size 5 i0 1 Ybad.underlying22 hi5 hz1 w7.heap.size 0 (n + 2) _ rfl (hown8.alloc _) ⟨w8.heap.size, 0, none⟩ 2 2 [.int .u8 32, .int .u8 32] rfl rfl (cell_newT _ _ _ _) (by intro u hu; simp at hu; subst hu; rfl) (by omega) ?_; intro w9 hown9 hgrow9; have hb9 : Below w7.heap.size w7 w9 := (hb8.alloc hb8.size _).grown hgrow9 (by have := hb8.size; simp; omega) (fun k h => by cases h; exact Nat.le_refl _))
      | (at_builtin; refine wpList_append_fits _ rfl (.tmp 91) (.tmp 92) 22 rfl w7.heap.size 5 i0 1 Ybad.underlying22 hi5 hz1 w7.heap.size 2 (n + 2) _ rfl (by simpa using hown9) ⟨g, 0, none⟩ n cp (bs.map (Value.int .u8)) rfl (by simp [HN.out]) (HTX7.out _ hb9) (ints_oneCell _ _) (by omega) ?_; intro w10 hown10 hgrow10))
    have hb10 : Below w7.heap.size w7 w10 := hb9.grown hgrow10 hb9.size (fun k h => by cases h; exact Nat.le_refl _)
    have hown10' : w10.ownsRow w7.heap.size 5 1 (.slice (some ⟨w7.heap.size, 0, none⟩) (2 + n) (n + 2)) (2 + n) (([32, 32] ++ bs).map (Value.int .u8)) := by simpa using hown10
    have hE10 : Env w10 g n bs := HE7.out.below hb10
    have hE10t : Env w10 w7.heap.size (2 + n) ([32, 32] ++ bs) := ⟨txt_of_own hown10' (fun b hb => (List.mem_append.1 hb).elim (fun h => by simp at h; subst h; decide) (HBY.out b)) (by omega), (own_parts hown10').2.1, hE10.hg2, hE10.tab, hE10.sp⟩
    have hcC := (nil_ok 4 bs pl HVAL.out).ok w7.heap.size (2 + n) (n + 2) 2 2 0 ([32, 32] ++ bs) w10 hE10t (by omega) rfl (by omega) (by omega) (at_suffix bs [32, 32]) (ends_suffix bs [32, 32])
    rw [← HN.out] at hcC
    refine hcC.mono ?_
    clear hcC
    rintro e w11 ⟨rfl, hb11⟩
    have HE11 : Hid (Env w11 g n bs) := hE10.below hb11
    have hb211 : Below w.heap.size w w11 := (hb1.trans (hb2.mono hb1.size)).trans ((hb27.mono (by omega)).trans ((hb10.mono (by have := hb27.size; omega)).trans (hb11.mono (by have := hb27.size; have := hb10.size; omega))))
    clear hE10t hown10' hown10 hgrow10 hown9 hgrow9 hown8 hgrow8 hb8 hb9 HTX7 hb10 hE10 hb11 hb27
    have hn2 : ((2 + (n : Int)) != ((n : Int) + 2)) = false := by simp; omega
    obtain ⟨o, els, hcont⟩ : ∃ o els, bs = cont o els := by
      rcases HVAL.out with ⟨_, h⟩ | ⟨o, els, h, _⟩
      · omega
      · exact ⟨o, els, h⟩
    have hcD := deep_no o els g n cp bs w11 HE11.out (by rw [hcont]; exact at_self _)
    have HD : Hid (Calls Ybad.prog 6 #[.slice (some ⟨g, 0, none⟩) n cp, .int .i64 0, .int .i64 10000, .pointer none] w11 fun e' w' => e' = .returned (.tuple #[.int .i64 0, .bool false]) ∧ w' = w11) := hcD
    clear hcD hcont
    go_wp2_with (go_at_call 6; refine HD.out.mono ?_; rintro e w12 ⟨rfl, rfl⟩)
    go_ret
    exact ⟨rfl, hb211⟩
  · skip
    obtain rfl := HPL1.out (by omega)
    have hm1 : decide (0 ≤ m) = false := decide_eq_false hm
    have hm2 : decide (m < 0) = true := decide_eq_true (by omega)
    clear HPL1 HPL2
    go_wp2_with (first
      | (at_make; refine wpList_make_own _ rfl _ _ 22 rfl w2.heap.size 5 i0 (.int .u8 0) 1 Ybad.underlying22 hi5 hz0 hz1 _ _ _ (n + 1) rfl rfl (by omega) (by rw [hz2]; omega) (by unfold maxLen; omega) (by simp) ?_; intro w4 hown4 hgrow4; have hb4 : Below (w2.heap.size + 1) (w2.alloc (.cells #[.int .u8 44, .int .u8 32, .int .u8 93, .int .u8 125, .int .u8 10] 33)) w4 := (Below.refl _ _).grown hgrow4 (by simp) (fun k h => by cases h))
      | (at_builtin; refine wpList_append_fits _ rfl (.tmp 60) (.tmp 61) 22 rfl w2.heap.size 5 i0 1 Ybad.underlying22 hi5 hz1 (w2.heap.size + 1) 0 (n + 1) _ rfl (by simpa using hown4) ⟨g, 0, none⟩ n cp (bs.map (Value.int .u8)) rfl (by simp [HN.out]) (HTX.out _ hb4) (ints_oneCell _ _) (by omega) ?_; intro w5 hown5 hgrow5; have hb5 : Below (w2.heap.size + 1) (w2.alloc (.cells #[.int .u8 44, .int .u8 32, .int .u8 93, .int .u8 125, .int .u8 10] 33)) w5 := hb4.grown hgrow5 (by have := hb4.size; simpa using this) (fun k h => by cases h; exact Nat.le_refl _); have hct := HTC.out w5 hb5)
      | (at_builtin; refine wpList_append_fits _ rfl (.tmp 63) (.tmp 69) 22 rfl w2.heap.size 5 i0 1 Ybad.underlying22 hi5 hz1 (w2.heap.size + 1) n (n + 1) _ rfl (by simpa using hown5.alloc _) ⟨w5.heap.size, 0, none⟩ 1 1 [.int .u8 tc] rfl rfl (cell_newG _ _ _) (by intro u hu; simp at hu; subst hu; rfl) (by omega) ?_; intro w6 hown6 hgrow6))
    have hb6 : Below w2.heap.size w2 w6 := (((Below.refl _ _).alloc (Nat.le_refl _) _).trans (hb5.mono (Nat.le_succ _))).trans (((Below.refl _ _).alloc (by have := hb5.size; simp at this; omega) _).grown hgrow6 (by have := hb5.size; simp at this ⊢; omega) (fun k h => by cases h; exact Nat.le_succ _))
    have hgB2 : g < w2.heap.size := HE2.out.hg
    have hown6' : w6.ownsRow w2.heap.size 5 1 (.slice (some ⟨w2.heap.size + 1, 0, none⟩) (n + 1) (n + 1)) (n + 1) ((bs ++ [tc]).map (Value.int .u8)) := by simpa using hown6
    have hE6 : Env w6 g n bs := HE2.out.below hb6
    have hE6t : Env w6 (w2.heap.size + 1) (n + 1) (bs ++ [tc]) := ⟨txt_of_own hown6' (fun b hb => (List.mem_append.1 hb).elim (HBY.out b) (fun h => by simp at h; subst h; exact HDL.out.2)) (by omega), (own_parts hown6').2.1, hE6.hg2, hE6.tab, hE6.sp⟩
    have hcB := (nil_ok 4 bs m HVAL.out).ok (w2.heap.size + 1) (n + 1) (n + 1) 0 0 0 (bs ++ [tc]) w6 hE6t (Nat.le_refl _) rfl (by omega) (by omega) (at_prefix _ _) (by rw [Nat.zero_add]; exact ends_tail _ _ HDL.out.1)
    rw [Nat.zero_add, ← HN.out] at hcB
    refine hcB.mono ?_
    clear hcB
    rintro e w7 ⟨rfl, hb7⟩
    have HE7 : Hid (Env w7 g n bs) := hE6.below hb7
    have hb27 : Below w2.heap.size w2 w7 := hb6.trans (hb7.mono hb6.size)
    have HTX7 : Hid (∀ wx, Below w7.heap.size w7 wx → ∀ j u, (bs.map (Value.int .u8))[j]? = some u → wx.cell? ((⟨g, 0, none⟩ : Addr).add j) = some u) := fun wx hb j u hu => by
      have hj : j < bs.length := by
        have := (List.getElem?_eq_some_iff.1 hu).1
        simpa using this
      rw [Addr.add_lit, Nat.zero_add, hb.cell (p := ⟨g, j, none⟩) HE7.out.hg, HE7.out.txt.cell j (by rw [HN.out]; exact hj), ← hu]
      simp [List.getD, hj]
    clear hE6t hown6' hown6 hgrow6 hown5 hgrow5 hown4 hgrow4 hb4 hb5 hct HTC HTX hb6 hE6 hb7
    go_wp2_with (first
      | (at_make; refine wpList_make_own _ rfl _ _ 22 rfl w7.heap.size 5 i0 (.int .u8 0) 1 Ybad.underlying22 hi5 hz0 hz1 _ _ _ (n + 2) rfl rfl (by omega) (by rw [hz2]; omega) (by unfold maxLen; omega) (Nat.le_refl _) ?_; intro w8 hown8 hgrow8; have hb8 : Below w7.heap.size w7 w8 := (Below.refl _ _).grown hgrow8 (Nat.le_refl _) (fun k h => by cases h))
      | (at_builtin; refine wpList_append_fits _ rfl (.tmp 88) (.tmp 89) 22 rfl w7.heap.size 5 i0 1 Ybad.underlying22 hi5 hz1 w7.heap.size 0 (n + 2) _ rfl (hown8.alloc _) ⟨w8.heap.size, 0, none⟩ 2 2 [.int .u8 32, .int .u8 32] rfl rfl (cell_newT _ _ _ _) (by intro u hu; simp at hu; subst hu; rfl) (by omega) ?_; intro w9 hown9 hgrow9; have hb9 : Below w7.heap.size w7 w9 := (hb8.alloc hb8.size _).grown hgrow9 (by have := hb8.size; simp; omega) (fun k h => by cases h; exact Nat.le_refl _))
      | (at_builtin; refine wpList_append_fits _ rfl (.tmp 91) (.tmp 92) 22 rfl w7.heap.size 5 i0 1 Ybad.underlying22 hi5 hz1 w7.heap.size 2 (n + 2) _ rfl (by simpa using hown9) ⟨g, 0, none⟩ n cp (bs.map (Value.int .u8)) rfl (by simp [HN.out]) (HTX7.out _ hb9) (ints_oneCell _ _) (by omega) ?_; intro w10 hown10 hgrow10))
    have hb10 : Below w7.heap.size w7 w10 := hb9.grown hgrow10 hb9.size (fun k h => by cases h; exact Nat.le_refl _)
    have hown10' : w10.ownsRow w7.heap.size 5 1 (.slice (some ⟨w7.heap.size, 0, none⟩) (2 + n) (n + 2)) (2 + n) (([32, 32] ++ bs).map (Value.int .u8)) := by simpa using hown10
    have hE10 : Env w10 g n bs := HE7.out.below hb10
    have hE10t : Env w10 w7.heap.size (2 + n) ([32, 32] ++ bs) := ⟨txt_of_own hown10' (fun b hb => (List.mem_append.1 hb).elim (fun h => by simp at h; subst h; decide) (HBY.out b)) (by omega), (own_parts hown10').2.1, hE10.hg2, hE10.tab, hE10.sp⟩
    have hcC := (nil_ok 4 bs m HVAL.out).ok w7.heap.size (2 + n) (n + 2) 2 2 0 ([32, 32] ++ bs) w10 hE10t (by omega) rfl (by omega) (by omega) (at_suffix bs [32, 32]) (ends_suffix bs [32, 32])
    rw [← HN.out] at hcC
    refine hcC.mono ?_
    clear hcC
    rintro e w11 ⟨rfl, hb11⟩
    have HE11 : Hid (Env w11 g n bs) := hE10.below hb11
    have hb211 : Below w.heap.size w w11 := (hb1.trans (hb2.mono hb1.size)).trans ((hb27.mono (by omega)).trans ((hb10.mono (by have := hb27.size; omega)).trans (hb11.mono (by have := hb27.size; have := hb10.size; omega))))
    clear hE10t hown10' hown10 hgrow10 hown9 hgrow9 hown8 hgrow8 hb8 hb9 HTX7 hb10 hE10 hb11 hb27
    have hn2 : ((2 + (n : Int)) != ((n : Int) + 2)) = false := by simp; omega
    go_wp2
    go_ret
    exact ⟨rfl, hb211⟩
end Go.Proofs.YbulkxxiDoor
