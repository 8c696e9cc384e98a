/-
  THE LAW's WALK.
-/
import Derived.Test.YbulkxwuEth
import Derived.ProofKit
import Derived.OpenShut
import Derived.ChangeOld
import Derived.Below
import Derived.OwnWalk
import Derived.Deep.QuietTactic
import Derived.BigQuiet
import Derived.WalkSmall
namespace Go.Proofs.Ybulkxwu
open Go.RowKit

theorem Yba.info5 : (Yba.prog.info? 5).map (fun i => (i.zero, i.size, i.bytes)) = some (some (.int .u8 0), 1, 1) := by kernel_rfl

/-- A slice of integers that came in. -/
def IsRow (k : IntKind) (w : World) (a : Option Addr) (len cap : Nat) (zs : List Int) : Prop :=
  (a = none ∧ len = 0 ∧ cap = 0 ∧ zs = []) ∨
  ∃ x, a = some x ∧ len ≤ cap ∧ cap ≤ maxLen ∧ zs.length = cap ∧ (∀ i, i < zs.length → w.cell? (x.add i) = some (.int k (zs.getD i 0))) ∧ ∀ n ∈ zs, (Lit.int k n).wf = true

/-- What the walk uses of it: the cells of its elements, at plain addresses. -/
theorem IsRow.use {k : IntKind} {w : World} {a : Option Addr} {len cap : Nat} {zs : List Int} (h : IsRow k w a len cap zs) :
    (a = none → len = 0 ∧ cap = 0) ∧ len ≤ cap ∧ zs.length = cap ∧ (∀ n ∈ zs, (Lit.int k n).wf = true) ∧
    (0 < len → ∃ b off, a = some ⟨b, off, none⟩ ∧ b < w.heap.size ∧ ∀ j, j < len → w.cell? ⟨b, off + j, none⟩ = some (.int k (zs.getD j 0))) := by
  rcases h with ⟨rfl, rfl, rfl, rfl⟩ | ⟨x, rfl, hl, hm, hz, hc, hw⟩
  · exact ⟨fun _ => ⟨rfl, rfl⟩, Nat.le_refl _, rfl, fun n hn => by simp at hn, fun h => by omega⟩
  · refine ⟨fun h => by simp at h, hl, hz, hw, fun h => ?_⟩
    obtain ⟨b, off, spot⟩ := x
    have hspot : spot = none := by simpa [Addr.add] using World.cell?_spot (hc 0 (by omega))
    subst hspot
    exact ⟨b, off, rfl, World.block_lt_of_cell? _ _ (hc 0 (by omega)), fun j hj => by rw [← Addr.add_lit]; exact hc j (by omega)⟩

/-- A list of bytes. -/
def Bytes (xs : List Int) : Prop := ∀ x ∈ xs, 0 ≤ x ∧ x ≤ 255
theorem Bytes.getD {xs : List Int} (h : Bytes xs) (j : Nat) : 0 ≤ xs.getD j 0 ∧ xs.getD j 0 ≤ 255 := by
  by_cases hj : j < xs.length
  · rw [List.getD_eq_getElem?_getD, List.getElem?_eq_getElem hj]; exact h _ (List.getElem_mem hj)
  · rw [List.getD_eq_getElem?_getD, List.getElem?_eq_none (by omega)]; decide
theorem Bytes.append {xs ys : List Int} (h : Bytes xs) (k : Bytes ys) : Bytes (xs ++ ys) := fun x hx => (List.mem_append.1 hx).elim (h x) (k x)
theorem Bytes.of_wf {zs : List Int} (h : ∀ n ∈ zs, (Lit.int .u8 n).wf = true) : Bytes zs := fun x hx => by
  have := bounds_u8 (h x hx)
  omega

/-- The cells of a new block. -/
theorem cell_new (w : World) (vs : List Value) (t : TypeId) : ∀ j u, vs[j]? = some u → (w.alloc (.cells vs.toArray t)).cell? ((⟨w.heap.size, 0, none⟩ : Addr).add j) = some u := by
  intro j u hj
  rw [Addr.add_lit]
  simp [hj]

theorem cells_of_own {w : World} {B C n g : Nat} {xs : List Int} (h : w.ownsRow B 5 1 (.slice (some ⟨g, 0, none⟩) n C) n (xs.map (Value.int .u8))) : ∀ j, j < n → w.cell? ⟨g, j, none⟩ = some (.int .u8 (xs.getD j 0)) := by
  intro j hj
  have hl := h.1
  simp at hl
  rw [h.cellAt j (by omega)]
  simp [List.getD, show j < xs.length by omega]

/-- The first k tags of a frame. -/
def Tags (xs : List Int) (k : Nat) : Prop := ∀ j, j < k → xs.getD (12 + 4 * j) 0 * 256 + xs.getD (12 + 4 * j + 1) 0 = 33024 ∨ xs.getD (12 + 4 * j) 0 * 256 + xs.getD (12 + 4 * j + 1) 0 = 34984
theorem getD_left (xs ys : List Int) (j : Nat) (h : j < xs.length) : (xs ++ ys).getD j 0 = xs.getD j 0 := by
  simp [List.getD, List.getElem?_append_left h]
theorem getD_right (xs ys : List Int) (j : Nat) : (xs ++ ys).getD (xs.length + j) 0 = ys.getD j 0 := by
  simp [List.getD, List.getElem?_append_right]
theorem Tags.append {xs : List Int} {k : Nat} (h : Tags xs k) (hl : 12 + 4 * k ≤ xs.length) (ys : List Int) : Tags (xs ++ ys) k := by
  intro j hj
  rw [getD_left _ _ _ (by omega), getD_left _ _ _ (by omega)]
  exact h j hj
theorem Tags.snoc {xs : List Int} {k : Nat} (h : Tags xs k) (hl : xs.length = 12 + 4 * k) (p q r s : Int) (hp : p * 256 + q = 33024 ∨ p * 256 + q = 34984) : Tags (xs ++ [p, q, r, s]) (k + 1) := by
  intro j hj
  by_cases hjk : j < k
  · exact h.append (by omega) _ j hjk
  · obtain rfl : j = k := by omega
    have e0 := getD_right xs [p, q, r, s] 0
    have e1 := getD_right xs [p, q, r, s] 1
    rw [hl] at e0 e1
    rw [show 12 + 4 * j + 0 = 12 + 4 * j from rfl] at e0
    rw [e0, e1]
    exact hp

/-- What the law's last steps read of the frame. -/
theorem frame_end {xs zs : List Int} {T P : Nat} (hl : xs.length = 12 + 4 * T) (ht : Tags xs T) (hb : Bytes xs) (hz : Bytes zs) (p q : Int) (hp : 0 ≤ p ∧ p ≤ 255) (hq : 0 ≤ q ∧ q ≤ 255) :
    Tags (xs ++ [p, q] ++ zs.take P) T ∧ Bytes (xs ++ [p, q] ++ zs.take P) ∧ (xs ++ [p, q] ++ zs.take P).getD (12 + 4 * T) 0 = p ∧ (xs ++ [p, q] ++ zs.take P).getD (12 + 4 * T + 1) 0 = q ∧ ∀ j, j < P → (xs ++ [p, q] ++ zs.take P).getD (14 + 4 * T + j) 0 = zs.getD j 0 := by
  refine ⟨(ht.append (by omega) _).append (by simp only [List.length_append, hl]; omega) _, (hb.append (fun y hy => by simp at hy; omega)).append (fun y hy => hz y (List.mem_of_mem_take hy)), ?_, ?_, ?_⟩
  · have := getD_right xs ([p, q] ++ zs.take P) 0
    rw [List.append_assoc, ← hl]; exact this
  · have := getD_right xs ([p, q] ++ zs.take P) 1
    rw [List.append_assoc, ← hl]; exact this
  · intro j hj
    have := getD_right (xs ++ [p, q]) (zs.take P) j
    rw [show (xs ++ [p, q]).length = 14 + 4 * T by simp only [List.length_append, hl, List.length_cons, List.length_nil]; omega] at this
    rw [this]
    simp [List.getD, hj]

set_option maxHeartbeats 1600000 in
theorem walk_in (a0 : Option Addr) (len0 cap0 : Nat) (z0 : List Int) (a1 : Option Addr) (len1 cap1 : Nat) (z1 : List Int) (a2 : Int) (a3 : Option Addr) (len3 cap3 : Nat) (z3 : List Int) (w : World) (w0 : IsRow .u8 w a0 len0 cap0 z0) (w1 : IsRow .u32 w a1 len1 cap1 z1) (w2 : 0 ≤ a2 ∧ a2 ≤ 255) (w3 : IsRow .u8 w a3 len3 cap3 z3)
    (b1 : len1 ≤ 1024) (b3 : len3 ≤ 4096) (b0 : len0 ≤ 4096) :
    Calls Yba.prog 4 #[.slice a0 len0 cap0, .slice a1 len1 cap1, .int .u8 a2, .slice a3 len3 cap3] w fun e w' => e = .returned (.bool true) ∧ Below w.heap.size w w' := by
  obtain ⟨i0, hi, hz0, hz1, hz2⟩ := info_parts Yba.info5
  obtain ⟨p0, q0, r0, s0, t0⟩ := w0.use
  obtain ⟨p1, q1, r1, s1, t1⟩ := w1.use
  obtain ⟨p3, q3, r3, s3, t3⟩ := w3.use
  have B0 := Bytes.of_wf s0
  have B3 := Bytes.of_wf s3
  have P3 : Hid (a3 = none → len3 = 0 ∧ cap3 = 0) := p3
  have T0 : Hid (0 < len0 → ∃ b off, a0 = some ⟨b, off, none⟩ ∧ b < w.heap.size ∧ ∀ j, j < len0 → w.cell? ⟨b, off + j, none⟩ = some (.int .u8 (z0.getD j 0))) := t0
  have T1 : Hid (0 < len1 → ∃ b off, a1 = some ⟨b, off, none⟩ ∧ b < w.heap.size ∧ ∀ j, j < len1 → w.cell? ⟨b, off + j, none⟩ = some (.int .u32 (z1.getD j 0))) := t1
  have T3 : Hid (0 < len3 → ∃ b off, a3 = some ⟨b, off, none⟩ ∧ b < w.heap.size ∧ ∀ j, j < len3 → w.cell? ⟨b, off + j, none⟩ = some (.int .u8 (z3.getD j 0))) := t3
  have S0 : Hid (Bytes z0) := B0
  have S3 : Hid (Bytes z3) := B3
  have R3 : Hid (z3.length = cap3) := r3
  clear p0 p1 p3 t0 t1 t3 s0 s1 s3 B0 B3 r0 r1 r3 w0 w1 w3
  have HPAY : Hid (∀ (wx : World), Below w.heap.size w wx → ∀ ad, a3 = some ad → ∀ j u, ((z3.take len3).map (Value.int .u8))[j]? = some u → wx.cell? (ad.add j) = some u) := by
    intro wx hwx ad had j u hu
    have hj : j < len3 := by
      have := (List.getElem?_eq_some_iff.1 hu).1
      simp at this; omega
    obtain ⟨b, off, he, hb, hcell⟩ := T3.out (by omega)
    rw [he] at had
    obtain rfl := Option.some.inj had
    rw [Addr.add_lit, hwx.cell (p := ⟨b, off + j, none⟩) hb, hcell j hj, ← hu]
    have hr3 : z3.length = cap3 := R3.out
    simp [List.getD, hj, show j < z3.length by omega]
  obtain ⟨C, hC⟩ : ∃ C, C = 14 + 4 * len1 + len3 := ⟨_, rfl⟩
  have HC : Hid (C = 14 + 4 * len1 + len3) := hC
  have hC1 : 14 + 4 * len1 + len3 ≤ C := by omega
  have hC2 : C ≤ 14 + 4 * len1 + len3 := by omega
  clear hC
  have d1 : decide ((1024 : Int) < len1) = false := decide_eq_false (by omega)
  have d3 : decide ((4096 : Int) < len3) = false := decide_eq_false (by omega)
  have d0 : decide ((4096 : Int) < len0) = false := decide_eq_false (by omega)
  go_enter Yba.func4, Yba.ntmps4
  go_wp2_with (at_make; refine wpList_make_own _ rfl _ _ 22 rfl w.heap.size 5 i0 (.int .u8 0) 1 Yba.underlying22 hi hz0 hz1 _ _ _ C rfl rfl (by omega) (by rw [hz2]; omega) (by unfold maxLen; omega) (Nat.le_refl _) ?_; intro w0 hown0 hgrow0)
  go_loopw [9, 10] (fun f i wr => ∃ (k : Nat) (xs : List Int), k ≤ 12 ∧ i = .int .i64 k ∧ f = .slice (some ⟨w.heap.size, 0, none⟩) k C ∧ xs.length = k ∧ Bytes xs ∧ wr.ownsRow w.heap.size 5 1 (.slice (some ⟨w.heap.size, 0, none⟩) k C) k (xs.map (Value.int .u8)) ∧ Below w.heap.size w wr)
    (fun _ i _ => 12 - (intOf i).toNat)
  case atStart => exact ⟨0, [], Nat.zero_le _, rfl, rfl, rfl, fun x hx => by simp at hx, hown0, (Below.refl _ _).grown hgrow0 (Nat.le_refl _) (fun k h => by cases h)⟩
  case round =>
    obtain ⟨k, xs, hk, rfl, rfl, hxl, hxb, hown, hnx⟩ := hrel
    have HL : Hid (xs.length = k) := hxl
    have HX : Hid (Bytes xs) := hxb
    clear hxl hxb hown0 hgrow0
    by_cases hk12 : k < 12
    · by_cases hm : k < len0
      · obtain ⟨b, off, rfl, hb, hcell⟩ := T0.out (by omega)
        have hce := (hnx.cell (p := ⟨b, off + k, none⟩) hb).trans (hcell k hm)
        clear hcell
        obtain ⟨x, hx⟩ : ∃ x, x = z0.getD k 0 := ⟨_, rfl⟩
        rw [← hx] at hce
        have HXX : Hid (x = z0.getD k 0) := hx
        clear hx
        go_wp2_with (at_builtin; refine wpList_append_fits _ rfl (.tmp 53) (.tmp 55) 22 rfl w.heap.size 5 i0 1 Yba.underlying22 hi hz1 w.heap.size k C _ rfl (hown.alloc _) ⟨wr.heap.size, 0, none⟩ 1 1 [.int .u8 x] rfl rfl (by intro t u ht; match t, ht with | 0, ht => simp at ht; subst ht; simp [Addr.add]) (by intro u hu; simp at hu; subst hu; rfl) (by omega) ?_; intro w1 hown1 hgrow1)
        go_roundw
        case rel => exact ⟨k + 1, xs ++ [x], by omega, by go_num, rfl, by simp [HL.out], HX.out.append (fun y hy => by simp at hy; subst hy; rw [HXX.out]; exact S0.out.getD k), by simpa using hown1, (hnx.alloc hnx.size _).grown hgrow1 (by simp; have := hnx.size; omega) (fun k hk => by cases hk; exact Nat.le_refl _)⟩
        case measure => simp [intOf]; omega
      · go_wp2_with (at_builtin; refine wpList_append_fits _ rfl (.tmp 53) (.tmp 55) 22 rfl w.heap.size 5 i0 1 Yba.underlying22 hi hz1 w.heap.size k C _ rfl (hown.alloc _) ⟨wr.heap.size, 0, none⟩ 1 1 [.int .u8 0] rfl rfl (by intro t u ht; match t, ht with | 0, ht => simp at ht; subst ht; simp [Addr.add]) (by intro u hu; simp at hu; subst hu; rfl) (by omega) ?_; intro w1 hown1 hgrow1)
        go_roundw
        case rel => exact ⟨k + 1, xs ++ [0], by omega, by go_num, rfl, by simp [HL.out], HX.out.append (fun y hy => by simp at hy; subst hy; decide), by simpa using hown1, (hnx.alloc hnx.size _).grown hgrow1 (by simp; have := hnx.size; omega) (fun k hk => by cases hk; exact Nat.le_refl _)⟩
        case measure => simp [intOf]; omega
    · obtain rfl : k = 12 := by omega
      rw [show ((12 : Nat) : Int) = 12 from rfl]
      go_wp2_with fail
      go_loopw [9, 59] (fun f i wr => ∃ (k : Nat) (xs : List Int), k ≤ len1 ∧ i = .int .i64 k ∧ f = .slice (some ⟨w.heap.size, 0, none⟩) (12 + 4 * k) C ∧ xs.length = 12 + 4 * k ∧ Bytes xs ∧ Tags xs k ∧ wr.ownsRow w.heap.size 5 1 (.slice (some ⟨w.heap.size, 0, none⟩) (12 + 4 * k) C) (12 + 4 * k) (xs.map (Value.int .u8)) ∧ Below w.heap.size w wr)
        (fun _ i _ => len1 - (intOf i).toNat)
      case atStart => exact ⟨0, xs, Nat.zero_le _, rfl, rfl, HL.out, HX.out, fun j hj => by omega, hown, hnx⟩
      case round =>
        clear hown hnx HL HX hk hk12
        obtain ⟨k, xs, hk, rfl, rfl, hxl, hxb, hxt, hown, hnx⟩ := hrel
        have HL : Hid (xs.length = 12 + 4 * k) := hxl
        have HX : Hid (Bytes xs) := hxb
        have HT : Hid (Tags xs k) := hxt
        clear hxl hxb hxt
        by_cases hk1 : k < len1
        · obtain ⟨b, off, rfl, hb, hcell⟩ := T1.out (by omega)
          have hce := (hnx.cell (p := ⟨b, off + k, none⟩) hb).trans (hcell k hk1)
          clear hcell
          obtain ⟨x, hx⟩ : ∃ x, x = z1.getD k 0 := ⟨_, rfl⟩
          rw [← hx] at hce
          have HXX : Hid (x = z1.getD k 0) := hx
          clear hx
          have hy1 : 0 ≤ IntKind.u16.wrap x / 256 % 256 ∧ IntKind.u16.wrap x / 256 % 256 ≤ 255 := by omega
          have hy2 : 0 ≤ IntKind.u16.wrap x % 256 ∧ IntKind.u16.wrap x % 256 ≤ 255 := by omega
          cases hbit : (bits BinOp.and IntKind.u32 x 2147483648 != 0)
          · go_wp2_with (at_builtin; refine wpList_append_fits _ rfl (.tmp 68) (.tmp 79) 22 rfl w.heap.size 5 i0 1 Yba.underlying22 hi hz1 w.heap.size (12 + 4 * k) C _ rfl (hown.alloc _) ⟨wr.heap.size, 0, none⟩ 4 4 [.int .u8 129, .int .u8 0, .int .u8 (IntKind.u16.wrap x / 256 % 256), .int .u8 (IntKind.u16.wrap x % 256)] rfl rfl (cell_new _ _ _) (by intro u hu; simp at hu; rcases hu with rfl | rfl | rfl | rfl <;> rfl) (by omega) ?_; intro w1 hown1 hgrow1)
            go_roundw
            case rel => exact ⟨k + 1, xs ++ [129, 0, IntKind.u16.wrap x / 256 % 256, IntKind.u16.wrap x % 256], by omega, by go_num, rfl, by simp [HL.out]; omega, HX.out.append (fun y hy => by simp at hy; omega), HT.out.snoc HL.out _ _ _ _ (by omega), by simpa [Nat.mul_add, ← Nat.add_assoc] using hown1, (hnx.alloc hnx.size _).grown hgrow1 (by simp; have := hnx.size; omega) (fun k hk => by cases hk; exact Nat.le_refl _)⟩
            case measure => simp [intOf]; omega
          · go_wp2_with (at_builtin; refine wpList_append_fits _ rfl (.tmp 68) (.tmp 79) 22 rfl w.heap.size 5 i0 1 Yba.underlying22 hi hz1 w.heap.size (12 + 4 * k) C _ rfl (hown.alloc _) ⟨wr.heap.size, 0, none⟩ 4 4 [.int .u8 136, .int .u8 168, .int .u8 (IntKind.u16.wrap x / 256 % 256), .int .u8 (IntKind.u16.wrap x % 256)] rfl rfl (cell_new _ _ _) (by intro u hu; simp at hu; rcases hu with rfl | rfl | rfl | rfl <;> rfl) (by omega) ?_; intro w1 hown1 hgrow1)
            go_roundw
            case rel => exact ⟨k + 1, xs ++ [136, 168, IntKind.u16.wrap x / 256 % 256, IntKind.u16.wrap x % 256], by omega, by go_num, rfl, by simp [HL.out]; omega, HX.out.append (fun y hy => by simp at hy; omega), HT.out.snoc HL.out _ _ _ _ (by omega), by simpa [Nat.mul_add, ← Nat.add_assoc] using hown1, (hnx.alloc hnx.size _).grown hgrow1 (by simp; have := hnx.size; omega) (fun k hk => by cases hk; exact Nat.le_refl _)⟩
            case measure => simp [intOf]; omega
        · have hke : k = len1 := by omega
          subst hke
          have hTG := fun p q hp hq => frame_end (P := len3) HL.out HT.out HX.out S3.out p q hp hq
          rcases (show a2 % 3 = 0 ∨ a2 % 3 = 1 ∨ a2 % 3 = 2 from by omega) with h3 | h3 | h3
          · have hTG := hTG 8 0 (by decide) (by decide)
            have HTG : Hid _ := hTG
            clear hTG
            go_wp2_with (first
              | (at_builtin; refine wpList_append_fits _ rfl (.tmp 89) (.tmp 95) 22 rfl w.heap.size 5 i0 1 Yba.underlying22 hi hz1 w.heap.size (12 + 4 * k) C _ rfl (hown.alloc _) ⟨wr.heap.size, 0, none⟩ 2 2 [.int .u8 8, .int .u8 0] rfl rfl (cell_new _ _ _) (by intro u hu; simp at hu; rcases hu with rfl | rfl <;> rfl) (by omega) ?_; intro w1 hown1 hgrow1; have hb1 : Below w.heap.size w w1 := (hnx.alloc hnx.size _).grown hgrow1 (by simp; have := hnx.size; omega) (fun k hk => by cases hk; exact Nat.le_refl _))
              | (at_builtin; refine wpList_append_fits_any _ rfl (.tmp 97) (.tmp 98) 22 rfl w.heap.size 5 i0 1 Yba.underlying22 hi hz1 w.heap.size (12 + 4 * k + 2) C _ rfl hown1 a3 len3 cap3 ((z3.take len3).map (Value.int .u8)) rfl (by simp [R3.out]; omega) P3.out (HPAY.out _ hb1) (ints_oneCell _ _) (by omega) ?_; intro w2 hown2 hgrow2; have hb2 : Below w.heap.size w w2 := hb1.grown hgrow2 hb1.size (fun k hk => by cases hk; exact Nat.le_refl _)))
            have hsz : w.heap.size < w2.heap.size := by
              rcases hown2.2 with ⟨h, _⟩ | ⟨g, _, _, h, _, hg, _⟩
              · simp at h
              · simp at h; rw [← h.1] at hg; exact (Array.getElem?_eq_some_iff.1 hg).1
            have hcells := cells_of_own (by simpa using hown2 : w2.ownsRow w.heap.size 5 1 (.slice (some ⟨w.heap.size, 0, none⟩) (12 + 4 * k + 2 + len3) C) (12 + 4 * k + 2 + len3) ((xs ++ [8, 0] ++ z3.take len3).map (Value.int .u8)))
            obtain ⟨g1, g2, g3, g4, g5⟩ := HTG.out
            refine (eth_any w.heap.size C (12 + 4 * k + 2 + len3) k len3 (xs ++ [8, 0] ++ z3.take len3) 2048 w2 (by omega) (by omega) hsz hcells g2.getD g1 (by rw [g3, g4]; rfl) (by decide) (by decide)).mono ?_
            rintro e w4 ⟨hb4, _, hE⟩
            obtain ⟨o, rfl, ho⟩ := hE rfl
            have hb5 : Below w.heap.size w w4 := hb2.trans (hb4.mono (by omega))
            have he : ∀ (A : Addr) n c (w : World), (binOp .eql 22 (.slice (some A) n c) (.slice none 0 0)).run Yba.prog w = .ok (.bool false) w := fun _ _ _ _ => rfl
            have HO : Hid (0 < len3 → o = 14 + 4 * k) := ho
            have HCE : Hid (∀ j, j < len3 → w4.cell? ⟨w.heap.size, 14 + 4 * k + j, none⟩ = some (.int .u8 (z3.getD j 0))) := by
              intro j hj
              rw [hb4.cell (p := ⟨w.heap.size, _, none⟩) hsz, hcells _ (by omega), g5 j hj]
            have hs4 : w.heap.size < w4.heap.size := Nat.lt_of_lt_of_le hsz hb4.size
            clear hcells g1 g2 g3 g4 g5 HTG hown1 hown2 hown hgrow1 hgrow2 ho
            go_wp2_with fail
            go_loopw [117] (fun i wx => ∃ (m : Nat), m ≤ len3 ∧ i = .int .i64 m ∧ Below w4.heap.size w4 wx) (fun i _ => len3 - (intOf i).toNat)
            case atStart => exact ⟨0, Nat.zero_le _, rfl, Below.refl _ _⟩
            case round =>
              obtain ⟨m, hm, rfl, hbx⟩ := hrel
              by_cases hmlt : m < len3
              · obtain rfl := HO.out (by omega)
                obtain ⟨b, off, rfl, hb, hcell⟩ := T3.out (by omega)
                have e1 := (hbx.cell (p := ⟨w.heap.size, 14 + 4 * k + m, none⟩) hs4).trans (HCE.out m hmlt)
                have e2 := (hbx.cell (p := ⟨b, off + m, none⟩) (by exact Nat.lt_of_lt_of_le hb hb5.size)).trans ((hb5.cell (p := ⟨b, off + m, none⟩) hb).trans (hcell m hmlt))
                obtain ⟨y, hy⟩ : ∃ y, y = z3.getD m 0 := ⟨_, rfl⟩
                rw [← hy] at e1 e2
                have hI : (m : Int) < (len3 : Int) := by omega
                clear hy hcell
                go_wp2
                go_quiet (fail)
                go_wp2
                go_roundw
                case rel => exact ⟨m + 1, by omega, by go_num, below_drewN hbx _⟩
                case measure => simp [intOf]; omega
              · go_wp2
                go_ret
                exact ⟨rfl, hb5.trans (hbx.mono hb5.size)⟩
          · have hTG := hTG 8 6 (by decide) (by decide)
            have HTG : Hid _ := hTG
            clear hTG
            go_wp2_with (first
              | (at_builtin; refine wpList_append_fits _ rfl (.tmp 89) (.tmp 95) 22 rfl w.heap.size 5 i0 1 Yba.underlying22 hi hz1 w.heap.size (12 + 4 * k) C _ rfl (hown.alloc _) ⟨wr.heap.size, 0, none⟩ 2 2 [.int .u8 8, .int .u8 6] rfl rfl (cell_new _ _ _) (by intro u hu; simp at hu; rcases hu with rfl | rfl <;> rfl) (by omega) ?_; intro w1 hown1 hgrow1; have hb1 : Below w.heap.size w w1 := (hnx.alloc hnx.size _).grown hgrow1 (by simp; have := hnx.size; omega) (fun k hk => by cases hk; exact Nat.le_refl _))
              | (at_builtin; refine wpList_append_fits_any _ rfl (.tmp 97) (.tmp 98) 22 rfl w.heap.size 5 i0 1 Yba.underlying22 hi hz1 w.heap.size (12 + 4 * k + 2) C _ rfl hown1 a3 len3 cap3 ((z3.take len3).map (Value.int .u8)) rfl (by simp [R3.out]; omega) P3.out (HPAY.out _ hb1) (ints_oneCell _ _) (by omega) ?_; intro w2 hown2 hgrow2; have hb2 : Below w.heap.size w w2 := hb1.grown hgrow2 hb1.size (fun k hk => by cases hk; exact Nat.le_refl _)))
            have hsz : w.heap.size < w2.heap.size := by
              rcases hown2.2 with ⟨h, _⟩ | ⟨g, _, _, h, _, hg, _⟩
              · simp at h
              · simp at h; rw [← h.1] at hg; exact (Array.getElem?_eq_some_iff.1 hg).1
            have hcells := cells_of_own (by simpa using hown2 : w2.ownsRow w.heap.size 5 1 (.slice (some ⟨w.heap.size, 0, none⟩) (12 + 4 * k + 2 + len3) C) (12 + 4 * k + 2 + len3) ((xs ++ [8, 6] ++ z3.take len3).map (Value.int .u8)))
            obtain ⟨g1, g2, g3, g4, g5⟩ := HTG.out
            refine (eth_any w.heap.size C (12 + 4 * k + 2 + len3) k len3 (xs ++ [8, 6] ++ z3.take len3) 2054 w2 (by omega) (by omega) hsz hcells g2.getD g1 (by rw [g3, g4]; rfl) (by decide) (by decide)).mono ?_
            rintro e w4 ⟨hb4, hE, _⟩
            obtain rfl := hE (by decide)
            have hb5 : Below w.heap.size w w4 := hb2.trans (hb4.mono (by omega))
            have he : ∀ (w : World), (binOp .eql 22 (.slice none 0 0) (.slice none 0 0)).run Yba.prog w = .ok (.bool true) w := fun _ => rfl
            clear hcells g1 g2 g3 g4 g5 HTG hown1 hown2 hown hgrow1 hgrow2
            go_wp2
            go_ret
            exact ⟨rfl, hb5⟩
          · have hTG := hTG 134 221 (by decide) (by decide)
            have HTG : Hid _ := hTG
            clear hTG
            go_wp2_with (first
              | (at_builtin; refine wpList_append_fits _ rfl (.tmp 89) (.tmp 95) 22 rfl w.heap.size 5 i0 1 Yba.underlying22 hi hz1 w.heap.size (12 + 4 * k) C _ rfl (hown.alloc _) ⟨wr.heap.size, 0, none⟩ 2 2 [.int .u8 134, .int .u8 221] rfl rfl (cell_new _ _ _) (by intro u hu; simp at hu; rcases hu with rfl | rfl <;> rfl) (by omega) ?_; intro w1 hown1 hgrow1; have hb1 : Below w.heap.size w w1 := (hnx.alloc hnx.size _).grown hgrow1 (by simp; have := hnx.size; omega) (fun k hk => by cases hk; exact Nat.le_refl _))
              | (at_builtin; refine wpList_append_fits_any _ rfl (.tmp 97) (.tmp 98) 22 rfl w.heap.size 5 i0 1 Yba.underlying22 hi hz1 w.heap.size (12 + 4 * k + 2) C _ rfl hown1 a3 len3 cap3 ((z3.take len3).map (Value.int .u8)) rfl (by simp [R3.out]; omega) P3.out (HPAY.out _ hb1) (ints_oneCell _ _) (by omega) ?_; intro w2 hown2 hgrow2; have hb2 : Below w.heap.size w w2 := hb1.grown hgrow2 hb1.size (fun k hk => by cases hk; exact Nat.le_refl _)))
            have hsz : w.heap.size < w2.heap.size := by
              rcases hown2.2 with ⟨h, _⟩ | ⟨g, _, _, h, _, hg, _⟩
              · simp at h
              · simp at h; rw [← h.1] at hg; exact (Array.getElem?_eq_some_iff.1 hg).1
            have hcells := cells_of_own (by simpa using hown2 : w2.ownsRow w.heap.size 5 1 (.slice (some ⟨w.heap.size, 0, none⟩) (12 + 4 * k + 2 + len3) C) (12 + 4 * k + 2 + len3) ((xs ++ [134, 221] ++ z3.take len3).map (Value.int .u8)))
            obtain ⟨g1, g2, g3, g4, g5⟩ := HTG.out
            refine (eth_any w.heap.size C (12 + 4 * k + 2 + len3) k len3 (xs ++ [134, 221] ++ z3.take len3) 34525 w2 (by omega) (by omega) hsz hcells g2.getD g1 (by rw [g3, g4]; rfl) (by decide) (by decide)).mono ?_
            rintro e w4 ⟨hb4, hE, _⟩
            obtain rfl := hE (by decide)
            have hb5 : Below w.heap.size w w4 := hb2.trans (hb4.mono (by omega))
            have he : ∀ (w : World), (binOp .eql 22 (.slice none 0 0) (.slice none 0 0)).run Yba.prog w = .ok (.bool true) w := fun _ => rfl
            clear hcells g1 g2 g3 g4 g5 HTG hown1 hown2 hown hgrow1 hgrow2
            go_wp2
            go_ret
            exact ⟨rfl, hb5⟩
end Go.Proofs.Ybulkxwu
