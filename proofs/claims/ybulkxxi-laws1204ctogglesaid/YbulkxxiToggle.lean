/-
  THE LAW's WALK: action.LawS1204CToggle.
-/
import Derived.Test.YbulkxxiModel
import Derived.Laws.IdiomStrings
import Derived.Laws.BytesArg
import Derived.Laws.CopyOwn
import Derived.OwnWalk
namespace Go.Proofs.Ybulkxxi
open Go.RowKit

theorem Yba.info5 : (Yba.prog.info? 5).map (fun i => (i.zero, i.size, i.bytes)) = some (some (.int .u8 0), 1, 1) := by kernel_rfl

/-- THE BYTES xs LIE AT THE HEAD OF BLOCK g, and may be written. -/
structure Lies (w : World) (g : Nat) (xs : List Int) : Prop where
  cell : ∀ j, j < xs.length → w.cell? ⟨g, j, none⟩ = some (.int .u8 (xs.getD j 0))
  free : ∀ j, j < xs.length → w.frozen? ⟨g, j, none⟩ = false
  byte : ∀ j, 0 ≤ xs.getD j 0 ∧ xs.getD j 0 ≤ 255

theorem getD_set (xs : List Int) (k j : Nat) (v : Int) (hk : k < xs.length) : (xs.set k v).getD j 0 = if j = k then v else xs.getD j 0 := by
  by_cases h : j = k
  · subst h; simp [List.getD, hk]
  · rw [if_neg h]; simp [List.getD, Ne.symm h]

theorem Lies.set {w : World} {g : Nat} {xs : List Int} (h : Lies w g xs) {k : Nat} (hk : k < xs.length) {v : Int} (hv : 0 ≤ v ∧ v ≤ 255) : Lies (w.setCell ⟨g, k, none⟩ (.int .u8 v)) g (xs.set k v) := by
  refine ⟨fun j hj => ?_, fun j hj => ?_, fun j => ?_⟩
  · rw [getD_set xs k j v hk]
    by_cases e : j = k
    · subst e
      rw [World.cell?_setCell_same _ _ _ (h.cell j hk), if_pos rfl]
    · rw [World.cell?_setCell_other _ _ _ _ (fun h => e (by simpa using h.symm)), if_neg e]
      exact h.cell j (by simpa using hj)
  · rw [World.frozen?_setCell]
    exact h.free j (by simpa using hj)
  · rw [getD_set xs k j v hk]
    split
    · exact hv
    · exact h.byte j

theorem Lies.below {w w' : World} {g : Nat} {xs : List Int} (h : Lies w g xs) {B : Nat} (hb : Below B w w') (hg : g < B) : Lies w' g xs :=
  ⟨fun j hj => (hb.cell (p := ⟨g, j, none⟩) hg).trans (h.cell j hj), fun j hj => (hb.frozen (p := ⟨g, j, none⟩) hg).trans (h.free j hj), h.byte⟩

/-- The bytes of a string, as numbers. -/
def nums (s : ByteArray) : List Int := s.data.toList.map fun b => (b.toNat : Int)
theorem nums_length (s : ByteArray) : (nums s).length = s.size := by simp [nums]
theorem nums_getD (s : ByteArray) (j : Nat) : (nums s).getD j 0 = bt s j := by
  unfold nums bt
  by_cases h : j < s.data.toList.length
  · simp only [List.getD_eq_getElem?_getD, List.getElem?_map, List.getElem?_eq_getElem h]; rfl
  · simp only [List.getD_eq_getElem?_getD, List.getElem?_map, List.getElem?_eq_none (Nat.le_of_not_lt h)]; rfl

/-- '[]byte(s)'. -/
theorem bytes_of (s : ByteArray) (w : World) : ∃ cp W1, (convert 9 26 (.string s)).run Yba.prog w = .ok (.slice (some ⟨w.heap.size, 0, none⟩) s.size cp) W1 ∧
    Lies W1 w.heap.size (nums s) ∧ Below w.heap.size w W1 ∧ w.heap.size < W1.heap.size := by
  refine ⟨_, _, run_bytes_of_string w 9 26 5 s Yba.underlying9 Yba.underlying26 Yba.underlying5, ⟨fun j hj => ?_, fun j hj => ?_, fun j => ?_⟩, (Below.refl _ _).drew.alloc (Nat.le_refl _) _, ?_⟩
  · rw [nums_length] at hj
    have hh : ∀ C f, (w.drew.alloc (.cells C 5 f)).heap[w.heap.size]? = some (.cells C 5 f) := fun C f => by show (w.heap.push _)[w.heap.size]? = _; simp
    rw [cell_of_row _ _ _ _ _ _ (hh _ _), nums_getD]
    unfold bytesRow
    rw [Array.getElem?_append_left (by simpa using hj)]
    simp only [Array.getElem?_map]
    rw [Array.getElem?_eq_getElem (by simpa using hj)]
    rw [← bt_eq s j hj]
    rfl
  · rw [nums_length] at hj
    have hh : ∀ C f, (w.drew.alloc (.cells C 5 f)).heap[w.heap.size]? = some (.cells C 5 f) := fun C f => by show (w.heap.push _)[w.heap.size]? = _; simp
    unfold World.frozen?
    rw [hh]
    simp [bytesRow]
    intro h
    have : s.data.size = s.size := rfl
    omega
  · rw [nums_getD]; exact bt_range s j
  · simp

/-- 'string(t)'. -/
theorem string_of {w : World} {g : Nat} {xs : List Int} (h : Lies w g xs) (cp : Nat) : (convert 26 9 (.slice (some ⟨g, 0, none⟩) xs.length cp)).run Yba.prog w = .ok (.string (strOfNums xs)) w :=
  run_convert_bytes_arg w 26 5 Yba.underlying26 Yba.underlying5 g 0 xs.length cp xs rfl (fun i hi => by rw [Nat.zero_add]; exact h.cell i hi) 9 Yba.underlying9

theorem bt_str {xs : List Int} (h : ∀ j, 0 ≤ xs.getD j 0 ∧ xs.getD j 0 ≤ 255) (j : Nat) : bt (strOfNums xs) j = xs.getD j 0 := by
  unfold bt
  rw [strOfNums_data]
  by_cases hj : j < xs.length
  · have := h j
    simp only [List.getD_eq_getElem?_getD, List.getElem?_map, List.getElem?_eq_getElem hj, Option.map_some, Option.getD_some] at this ⊢
    rw [UInt8.toNat_ofNat']
    omega
  · simp only [List.getD_eq_getElem?_getD, List.getElem?_map, List.getElem?_eq_none (Nat.le_of_not_lt hj)]; rfl

theorem low_step (x : Int) (_h0 : 0 ≤ x) (_h1 : x ≤ 255) : low x ≠ low ((x + 1) % 256) := by
  unfold low
  split <;> split <;> omega

theorem low_xor (c : Int) (h0 : 0 ≤ c) (h1 : c ≤ 255) (hl : letB c = true) : low (bits .xor .u8 c 32) = low c ∧ 0 ≤ bits .xor .u8 c 32 ∧ bits .xor .u8 c 32 ≤ 255 := by
  rw [xor_let c h0 h1 hl]
  rw [letB_iff] at hl
  unfold low
  split <;> split <;> split <;> omega

/-- 'copy(u, t)' into the row that make has just made. -/
theorem copy_in {w : World} {B g h n cp : Nat} {xs : List Int} {ys : List Value} (hown : w.ownsRow B 5 1 (.slice (some ⟨h, 0, none⟩) n n) n ys) (hl : Lies w g xs) (hn : xs.length = n) :
    ∃ w3, (Builtin.copy_ #[26, 26] 3 #[.slice (some ⟨h, 0, none⟩) n n, .slice (some ⟨g, 0, none⟩) n cp]).run Yba.prog w = .ok (goInt n) w3 ∧ Lies w3 h xs ∧ Below h w w3 ∧ w3.heap.size = w.heap.size := by
  rcases hown.2 with ⟨h', _⟩ | ⟨g', cap', cur, h', _, hg, _, _, hsz, _⟩
  · simp at h'
  simp only [Value.slice.injEq, Option.some.injEq, Addr.mk.injEq, and_true, true_and] at h'
  obtain ⟨rfl, rfl⟩ := h'
  have hrun := run_copy_row (P := Yba.prog) w 26 26 3 5 h 0 n n ⟨g, 0, none⟩ n cp cur 5 (xs.map (Value.int .u8)) Yba.underlying26 (by kernel_rfl) hg (by simp [hn]) (fun j v hj => by
    have hjl : j < xs.length := by
      have := (List.getElem?_eq_some_iff.1 hj).1
      simpa using this
    rw [Addr.add_lit, Nat.zero_add, hl.cell j hjl, ← hj]
    simp [List.getD, hjl]) (by simp; omega) (ints_oneCell _ _)
  have he : cur.toList.take 0 ++ xs.map (Value.int .u8) ++ cur.toList.drop (0 + (xs.map (Value.int .u8)).length) = xs.map (Value.int .u8) := by
    rw [List.drop_eq_nil_of_le (by simp; omega)]; simp
  rw [he] at hrun
  have hg3 := setRow_heap w h cur (xs.map (Value.int .u8)).toArray 5 (0, 0) hg
  refine ⟨w.setRow h (xs.map (Value.int .u8)).toArray, ?_, ⟨fun j hj => ?_, fun j _ => frozen_of_row _ _ _ _ _ hg3, hl.byte⟩, below_setRow (Below.refl _ _) (Nat.le_refl _) _, setRow_size _ _ _⟩
  · rw [hrun]; simp [hn]
  · rw [cell_of_row _ _ _ _ _ _ hg3]
    simp [List.getD, hj]

set_option maxHeartbeats 1600000 in
theorem toggle_in (s : ByteArray) (mask k2 : Int) (hs : s.size ≤ 1024) (_hm0 : 0 ≤ mask) (hk0 : 0 ≤ k2) (hk1 : k2 ≤ 18446744073709551615) (w : World) :
    Calls Yba.prog 4 #[.string s, .int .u64 mask, .int .u64 k2] w fun e w' => e = .returned (.bool true) ∧ Below w.heap.size w w' := by
  have ds : decide ((1024 : Int) < s.size) = false := decide_eq_false (by omega)
  obtain ⟨i0, hi, hz0, hz1, hz2⟩ := info_parts Yba.info5
  obtain ⟨cp, W1, hconv, hlies, hb1, hs1⟩ := bytes_of s w
  have HL1 : Hid (Lies W1 w.heap.size (nums s)) := hlies
  clear hlies
  go_enter Yba.func4, Yba.ntmps4
  go_wp2_with fail
  go_loopw [8] (fun i wr => ∃ (k : Nat) (xs : List Int), k ≤ s.size ∧ i = .int .i64 k ∧ xs.length = s.size ∧ (∀ j, low (xs.getD j 0) = low (bt s j)) ∧ Lies wr w.heap.size xs ∧ Below w.heap.size w wr ∧ w.heap.size < wr.heap.size) (fun i _ => s.size - (intOf i).toNat)
  case atStart => exact ⟨0, nums s, Nat.zero_le _, rfl, nums_length s, fun j => by rw [nums_getD], HL1.out, hb1, hs1⟩
  case round =>
    clear hconv HL1 hb1 hs1
    obtain ⟨k, xs, hk, rfl, hxl, hlow, hlies, hbx, hsx⟩ := hrel
    have HX : Hid (xs.length = s.size) := hxl
    have HW : Hid (∀ j, low (xs.getD j 0) = low (bt s j)) := hlow
    have HL : Hid (Lies wr w.heap.size xs) := hlies
    clear hxl hlow hlies
    by_cases hlt : k < s.size
    · have hc := HL.out.cell k (by rw [HX.out]; exact hlt)
      have hf := HL.out.free k (by rw [HX.out]; exact hlt)
      have hby := HL.out.byte k
      obtain ⟨c, hcd⟩ : ∃ c, c = xs.getD k 0 := ⟨_, rfl⟩
      rw [← hcd] at hc hby
      have HC : Hid (c = xs.getD k 0) := hcd
      clear hcd
      cases hl : letB c
      · go_wp2_with (go_at_call 7; refine (let_any _ (by omega) (by omega) _).mono ?_; rintro e w' ⟨rfl, rfl⟩)
        go_roundw
        case rel => exact ⟨k + 1, xs, by omega, by go_num, HX.out, HW.out, HL.out, hbx, hsx⟩
        case measure => simp [intOf]; omega
      · obtain ⟨q1, q2, q3⟩ := low_xor c hby.1 hby.2 hl
        obtain ⟨c', hc'⟩ : ∃ c', bits .xor .u8 c 32 = c' := ⟨_, rfl⟩
        rw [hc'] at q1 q2 q3
        have HQ : Hid (low c' = low c) := q1
        clear q1
        go_wp2_with (go_at_call 7; refine (let_any _ (by omega) (by omega) _).mono ?_; rintro e w' ⟨rfl, rfl⟩)
        · go_roundw
          case rel => exact ⟨k + 1, xs.set k c', by omega, by go_num, by rw [List.length_set]; exact HX.out, fun j => by
              rw [getD_set xs k j c' (by rw [HX.out]; exact hlt)]
              split
              · next e => rw [HQ.out, HC.out, e]; exact HW.out k
              · exact HW.out j, HL.out.set (by rw [HX.out]; exact hlt) ⟨q2, q3⟩, hbx.setCell (Nat.le_refl _) _, by simpa [World.setCell] using hsx⟩
          case measure => simp [intOf]; omega
        · go_roundw
          case rel => exact ⟨k + 1, xs, by omega, by go_num, HX.out, HW.out, HL.out, hbx, hsx⟩
          case measure => simp [intOf]; omega
    · have hconv := string_of HL.out cp
      rw [HX.out] at hconv
      obtain ⟨ts, hts⟩ : ∃ ts, strOfNums xs = ts := ⟨_, rfl⟩
      rw [hts] at hconv
      have hsz : ts.size = s.size := by rw [← hts, strOfNums_size]; exact HX.out
      have hbt : ∀ j, bt ts j = xs.getD j 0 := fun j => by rw [← hts]; exact bt_str HL.out.byte j
      have hS1 : Same s ts := ⟨hsz.symm, fun i _ => by rw [hbt]; exact (HW.out i).symm⟩
      have hS2 : Same ts s := ⟨hsz, fun i _ => by rw [hbt]; exact HW.out i⟩
      have HS1 : Hid (Same s ts) := hS1
      have HS2 : Hid (Same ts s) := hS2
      have hts2 : ts.size ≤ 1024 := by omega
      clear hts hsz hbt hS1 hS2
      by_cases hz : s.size = 0
      · have hz' : ((s.size : Int) == 0) = true := by simp [hz]
        clear hz
        go_wp2_with (go_at_call 6; refine (fold_any _ _ (by assumption) _).mono ?_; rintro e w' ⟨r, rfl, hr, n, rfl⟩; obtain rfl := bool_of hr (by first | exact HS1.out | exact HS2.out); clear hr)
        go_ret
        exact ⟨rfl, below_drewN hbx _⟩
      · have hz' : ((s.size : Int) == 0) = false := by simp [hz]
        have hzI : (0 : Int) < s.size := by omega
        obtain ⟨j, hj, hjlt⟩ : ∃ j : Nat, k2 % (s.size : Int) = (j : Int) ∧ j < s.size := by
          have h1 := Int.emod_nonneg k2 (show (s.size : Int) ≠ 0 by omega)
          have h2 := Int.emod_lt_of_pos k2 hzI
          exact ⟨(k2 % (s.size : Int)).toNat, by omega, by omega⟩
        clear hz
        go_wp2_with (first
          | (go_at_call 6; refine (fold_any _ _ (by assumption) _).mono ?_; rintro e w' ⟨r, rfl, hr, n, rfl⟩; obtain rfl := bool_of hr (by first | exact HS1.out | exact HS2.out); clear hr)
          | (at_make; refine wpList_make_full _ rfl _ _ 26 rfl wr.heap.size 5 i0 (.int .u8 0) 1 Yba.underlying26 hi hz0 hz1 _ _ _ _ s.size rfl rfl rfl rfl (by rw [hz2]; omega) (by unfold maxLen; omega) (by simp) ?_; intro w2 hown2 hgrow2))
        have hbw2 : Below wr.heap.size wr w2 := (below_drewN (Below.refl _ _) _).grown hgrow2 (Nat.le_refl _) (fun k h => by cases h)
        obtain ⟨w3, hcopy, hl3, hb3, hz3⟩ := copy_in (cp := cp) hown2 (HL.out.below hbw2 hsx) HX.out
        simp only [World.heap_drewN] at hcopy hl3 hb3
        have hbw3 : Below w.heap.size w w3 := (hbx.trans (hbw2.mono (Nat.le_of_lt hsx))).trans (hb3.mono (Nat.le_of_lt hsx))
        have hc := hl3.cell j (by rw [HX.out]; exact hjlt)
        have hf := hl3.free j (by rw [HX.out]; exact hjlt)
        have hby := hl3.byte j
        obtain ⟨c, hcd⟩ : ∃ c, c = xs.getD j 0 := ⟨_, rfl⟩
        rw [← hcd] at hc hby
        have HC : Hid (c = xs.getD j 0) := hcd
        have hset := hl3.set (k := j) (v := (c + 1) % 256) (by rw [HX.out]; exact hjlt) (by omega)
        have hconv3 := string_of hset s.size
        rw [List.length_set, HX.out] at hconv3
        obtain ⟨us, hus⟩ : ∃ us, strOfNums (xs.set j ((c + 1) % 256)) = us := ⟨_, rfl⟩
        rw [hus] at hconv3
        have husz : us.size = s.size := by rw [← hus, strOfNums_size, List.length_set]; exact HX.out
        have hubt : bt us j = (c + 1) % 256 := by rw [← hus, bt_str hset.byte, getD_set _ _ _ _ (by rw [HX.out]; exact hjlt), if_pos rfl]
        have hne : low (bt s j) ≠ low (bt us j) := by
          rw [hubt, ← HW.out j, ← hcd]
          exact low_step c hby.1 hby.2
        have hD1 : ¬ Same s us := fun h => hne (h.2 j hjlt)
        have hD2 : ¬ Same us s := fun h => hne (h.2 j (by omega)).symm
        have HD1 : Hid (¬ Same s us) := hD1
        have HD2 : Hid (¬ Same us s) := hD2
        have husz2 : us.size ≤ 1024 := by omega
        clear hcd hset hus husz hubt hne hD1 hD2 hown2 hgrow2 hbw2 hl3 hb3 hz3 hconv HS1 HS2 hts2
        rw [hcopy]
        go_wp2_with (go_at_call 6; refine (fold_any _ _ (by assumption) _).mono ?_; rintro e w' ⟨r, rfl, hr, n, rfl⟩; obtain rfl := bool_not hr (by first | exact HD1.out | exact HD2.out); clear hr)
        go_ret
        exact ⟨rfl, below_drewN (hbw3.setCell (Nat.le_of_lt hsx) _) _⟩
end Go.Proofs.Ybulkxxi
