/-
  skipContainer over an array: its first mark and its length are recorded.
-/
import Derived.Test.YbulkxxiDoorPart
import Derived.OwnWalk
namespace Go.Proofs.YbulkxxiDoor
open Go.RowKit
set_option linter.unusedVariables false

theorem Ybad.info3 : (Ybad.prog.info? 3).map (fun i => (i.zero, i.size, i.bytes)) = some (some (.int .i64 0), 1, 8) := by kernel_rfl
theorem own_shape {w : World} {B e size n : Nat} {v : Value} {xs : List Value} (h : w.ownsRow B e size v n xs) (hn : 0 < n) : ∃ g cap, v = .slice (some ⟨g, 0, none⟩) n cap := by
  rcases h.2 with ⟨_, h⟩ | ⟨g, cap, _, h, _⟩
  · omega
  · exact ⟨g, cap, h⟩
theorem cell_new1 (w : World) (v : Value) (t : TypeId) : ∀ j u, [v][j]? = some u → (w.alloc (.cells #[v] t)).cell? ((⟨w.heap.size, 0, none⟩ : Addr).add j) = some u := by
  intro j u hj
  match j, hj with
  | 0, hj => simp at hj; subst hj; simp [Addr.add]

set_option maxHeartbeats 16000000 in
set_option maxRecDepth 100000 in
theorem arr_ptr (f : Nat) (els : List (List Int)) (hel : ∀ e ∈ els, ElemOK f e) (hlen : els.length ≤ 3) (g n cap i : Nat) (x d : Int) (l : List Int) (w : World) (he : Env w g n l) (P off N : Nat) (hP : P ≠ g) (hP3 : 3 ≤ P) (hpart : Part0 w P off N) (hcap : n ≤ cap) (hx : x = i) (hd0 : 0 ≤ d) (hd : d + (f + 1) ≤ 100)
    (hat : At l i (cont false els)) :
    Calls Ybad.prog 8 #[.slice (some ⟨g, 0, none⟩) n cap, .int .i64 x, .int .i64 d, .pointer (some ⟨P, off, none⟩)] w fun e' w' => e' = .returned (.tuple #[.int .i64 (i + (cont false els).length : Nat), .bool true]) ∧ PS w w' P N ∧ w'.cell? ⟨P, off + 3, none⟩ = some (.int .i64 els.length) := by
  subst hx
  obtain ⟨i0, hi3, hz0, hz1, hz2⟩ := info_parts Ybad.info3
  have hbig := he.txt.big
  have hln := he.txt.len
  obtain ⟨⟨hi, hi0⟩, hat1⟩ := at_cons.1 hat
  have c0 := he.txt.cell i (by omega)
  rw [hi0] at c0
  have c0' : w.cell? ⟨g, i, none⟩ = some (.int .u8 91) := c0
  have hiI : (i : Int) < (n : Int) := by omega
  have hd1 : (d == 10000) = false := by simp; omega
  have hps0 : PS w w P N := hpart.refl
  have HP0 : Hid (Part0 w P off N) := hpart
  clear hpart
  have HE : Hid (Env w g n l) := he
  have HL : Hid (l.length = n) := hln
  obtain ⟨E, hE⟩ : ∃ E, E = i + (cont false els).length := ⟨_, rfl⟩
  rw [← hE]
  have HEq : Hid (E = i + (cont false els).length) := hE
  have HAT : Hid (At l (i + 1) (join false els ++ [93])) := hat1
  have HEL : Hid (∀ e ∈ els, ElemOK f e) := hel
  clear he hln hat hat1 hi0 hE hi c0 hel
  obtain ⟨R, hRd⟩ : ∃ R : World → Prop, ∀ wx, R wx ↔ (PS w wx P N ∧ ∃ z, wx.cell? ⟨P, off + 3, none⟩ = some (.int .i64 z)) := ⟨_, fun _ => Iff.rfl⟩
  have HRE : Hid (∀ wx, R wx → Env wx g n l) := fun wx h => ((hRd wx).1 h).1.env HE.out hP hP3
  have HRB : Hid (∀ wx wy, R wx → Below wx.heap.size wx wy → R wy) := fun wx wy h hb => (hRd wy).2 ⟨((hRd wx).1 h).1.below hb, by
    obtain ⟨z, hz⟩ := ((hRd wx).1 h).2
    exact ⟨z, (hb.cell (p := ⟨P, off + 3, none⟩) (World.block_lt_of_cell? _ _ hz)).trans hz⟩⟩
  have HR0 : Hid (R w) := (hRd w).2 ⟨hps0, 0, HP0.out.len⟩
  have HRF : Hid (∀ wx, R wx → (∃ z, wx.cell? ⟨P, off + 3, none⟩ = some (.int .i64 z)) ∧ wx.frozen? ⟨P, off + 3, none⟩ = false ∧ ∀ z, PS w (wx.setCell ⟨P, off + 3, none⟩ (.int .i64 z)) P N) := fun wx h => by
    obtain ⟨h1, z, hz⟩ := (hRd wx).1 h
    exact ⟨⟨z, hz⟩, h1.free _, fun y => h1.setCell rfl⟩
  have HRM : Hid (∀ wx a m c, R wx → wx.frozen? ⟨P, off + 4, none⟩ = false ∧ R (wx.setCell ⟨P, off + 4, none⟩ (.slice a m c))) := fun wx a m c h => by
    obtain ⟨h1, z, hz⟩ := (hRd wx).1 h
    exact ⟨h1.free _, (hRd _).2 ⟨h1.setCell rfl, z, by rw [World.cell?_setCell_other _ _ _ _ (by simp)]; exact hz⟩⟩
  have HRZ : Hid (∀ wx, R wx → P < wx.heap.size) := fun wx h => ((hRd wx).1 h).1.lt
  clear hRd hps0
  match els, hlen, HAT, HEL, HEq with
  | [], _, HAT, HEL, HEq =>
    obtain ⟨⟨h1, h2⟩, _⟩ := at_cons.1 HAT.out
    have hl := HL.out
    have c1 := HE.out.txt.cell (i + 1) (by omega)
    rw [h2] at c1
    have hb1 := blank_here (cap := cap) HE.out (i + 1) (by omega) (by rw [h2]; simp [Blank])
    have HB1 : Hid (∀ (x : Int), x = ((i + 1 : Nat) : Int) → Calls Ybad.prog 13 #[.slice (some ⟨g, 0, none⟩) n cap, .int .i64 x] w fun e w' => e = .returned (.int .i64 (i + 1 : Nat)) ∧ w' = w) := hb1
    have hiI1 : (i : Int) + 1 < (n : Int) := by omega
    have hEe : E = i + 2 := HEq.out
    have HEe : Hid (E = i + 2) := hEe
    clear h1 h2 hl hb1 hEe HEq
    go_enter Ybad.func8, Ybad.ntmps8
    go_wp2_with (go_at_call 13; refine (HB1.out _ (by omega)).mono ?_; rintro e w' ⟨rfl, rfl⟩)
    go_ret2
    exact ⟨ret_two (by rw [HEe.out]; omega), ⟨HP0.out.refl, HP0.out.len⟩⟩
  | e0 :: r0, hlen, HAT, HEL, HEq =>
    have hl := HL.out
    obtain ⟨_, hat0, _⟩ := at_rest (o := false) HAT.out
    have hat0' : At l (i + 1) e0 := hat0
    obtain ⟨hi1, hh1⟩ := at_head hat0' (HEL.out e0 (by simp)).pos
    have hgh := (HEL.out e0 (by simp)).head
    rw [← hh1] at hgh
    have c1 := HE.out.txt.cell (i + 1) (by omega)
    have hb1 := blank_here (cap := cap) HE.out (i + 1) (by omega) hgh.1
    have HB1 : Hid (∀ (x : Int), x = ((i + 1 : Nat) : Int) → Calls Ybad.prog 13 #[.slice (some ⟨g, 0, none⟩) n cap, .int .i64 x] w fun e w' => e = .returned (.int .i64 (i + 1 : Nat)) ∧ w' = w) := hb1
    have hiI1 : (i : Int) + 1 < (n : Int) := by omega
    obtain ⟨c, hcd⟩ : ∃ c, c = l.getD (i + 1) 0 := ⟨_, rfl⟩
    rw [← hcd] at c1 hgh
    have hc93 : (c == 93) = false := by simpa using hgh.2.1
    clear hat0 hat0' hi1 hh1 hgh hb1 hcd hl
    go_enter Ybad.func8, Ybad.ntmps8
    go_wp2_with (go_at_call 13; refine (HB1.out _ (by omega)).mono ?_; rintro e w' ⟨rfl, hw'⟩; rw [hw']; clear hw')
    go_loopw [1, 12] (fun si sn wr => ∃ (s t : Nat) (rest : List (List Int)), si = .int .i64 s ∧ sn = .int .i64 t ∧ t + rest.length = (e0 :: r0).length ∧ rest ≠ [] ∧ (∀ e ∈ rest, ElemOK f e) ∧ At l s (join false rest ++ [93]) ∧ s + (join false rest).length + 1 = E ∧ R wr ∧ (t = 0 → wr.cell? ⟨P, off + 4, none⟩ = some (.slice none 0 0)))
      (fun si _ _ => n + 1 - (intOf si).toNat)
    case atStart => exact ⟨i + 1, 0, e0 :: r0, by go_num, rfl, by simp, by simp, HEL.out, HAT.out, by rw [HEq.out]; simp [cont]; omega, HR0.out, fun _ => HP0.out.marks⟩
    case round =>
      clear HB1 c1 hc93 hiI1 HEL HAT HEq
      obtain ⟨s, t, rest, rfl, rfl, htl, hne, hel, hat, hse, hRx, hmk⟩ := hrel
      match rest, hne, htl, hel, hat, hse with
      | e :: r, _, htl, hel, hat, hse =>
        have hEl := hel e (by simp)
        obtain ⟨_, hate, hrest⟩ := at_rest (o := false) hat
        have hkl : (key false).length = 0 := rfl
        rw [hkl] at hate hrest
        simp only [Nat.add_zero, Nat.zero_add] at hate hrest
        obtain ⟨hs1, hh⟩ := at_head hate hEl.pos
        have hl := HL.out
        have hpos := hEl.pos
        have hsn : s + e.length < n := by
          rcases hrest with ⟨_, _, h, _⟩ | ⟨_, _, _, h, _⟩
          · omega
          · have h' := h.1
            simp at h'
            omega
        have hsI : (s : Int) < (n : Int) := by omega
        have hends : Ends l (s + e.length) := by
          intro _
          rcases hrest with ⟨_, h, _⟩ | ⟨_, h, _⟩
          · rw [h]; exact delim_cls false
          · rw [h]; exact delim_comma
        obtain ⟨q, hq⟩ : ∃ q, q = s + e.length := ⟨_, rfl⟩
        rw [← hq] at hends hsn hrest
        obtain ⟨c, hcd⟩ : ∃ c, c = headOf e := ⟨_, rfl⟩
        -- the element itself
        have hread : ∀ (wx : World), R wx → (c = 34 → ∀ (x : Int), x = s → Calls Ybad.prog 7 #[.slice (some ⟨g, 0, none⟩) n cap, .int .i64 x] wx fun e' w' => e' = .returned (.tuple #[.int .i64 q, .bool true]) ∧ Below wx.heap.size wx w') ∧
            (∀ (x d' : Int), x = s → d' = d + 1 → Calls Ybad.prog 6 #[.slice (some ⟨g, 0, none⟩) n cap, .int .i64 x, .int .i64 d', .pointer none] wx fun e' w' => e' = .returned (.tuple #[.int .i64 q, .bool true]) ∧ Below wx.heap.size wx w') := fun wx hR => by
          have hev := HRE.out wx hR
          refine ⟨fun h34 x hx => ?_, fun x d' hx hd' => ?_⟩
          · exact string_any g n cap s q x hx l wx hev.txt hcap hev.hg hev.hg2 hev.tab hev.sp (by omega) (by omega) (by rw [hq]; exact at_tail_ok hate hpos (hEl.str (by rw [← hcd]; exact h34)))
          · rw [hq]
            exact hEl.ok g n cap s x d' l wx hev hcap hx (by omega) (by omega) hate (by rw [← hq]; exact hends)
        have HRD : Hid (∀ (wx : World), R wx → (c = 34 → ∀ (x : Int), x = s → Calls Ybad.prog 7 #[.slice (some ⟨g, 0, none⟩) n cap, .int .i64 x] wx fun e' w' => e' = .returned (.tuple #[.int .i64 q, .bool true]) ∧ Below wx.heap.size wx w') ∧
            (∀ (x d' : Int), x = s → d' = d + 1 → Calls Ybad.prog 6 #[.slice (some ⟨g, 0, none⟩) n cap, .int .i64 x, .int .i64 d', .pointer none] wx fun e' w' => e' = .returned (.tuple #[.int .i64 q, .bool true]) ∧ Below wx.heap.size wx w')) := hread
        have hcl : ∀ (wx : World), R wx → wx.cell? ⟨g, s, none⟩ = some (.int .u8 c) := fun wx hR => by
          rw [hcd, ← hh]; exact (HRE.out wx hR).txt.cell s (by omega)
        have HCL : Hid (∀ (wx : World), R wx → wx.cell? ⟨g, s, none⟩ = some (.int .u8 c)) := hcl
        have hsq : s < q := by omega
        have hqn : (q : Int) < (n : Int) := by omega
        have d4 : decide ((n : Int) ≤ (q : Int)) = false := decide_eq_false (by omega)
        -- the mark: behind it the world is some wm
        have HMK : Hid (t = 0 → wr.cell? ⟨P, off + 4, none⟩ = some (.slice none 0 0)) := hmk
        clear hread hcl hkl hate hs1 hh hends hcd hmk
        rcases hrest with ⟨hr, hq1, _, hjl⟩ | ⟨hr, hq1, hq2, hq3, hjl⟩
        · -- the last element
          have hEq : E = q + 1 := by rw [← hse, hjl, hq]
          have htN : ((t : Int) + 1) = ((e0 :: r0).length : Nat) := by subst hr; simp at htl ⊢; omega
          have hblk : ∀ (wx : World), R wx → ∀ (x : Int), x = q → Calls Ybad.prog 13 #[.slice (some ⟨g, 0, none⟩) n cap, .int .i64 x] wx fun e' w'' => e' = .returned (.int .i64 q) ∧ w'' = wx := fun wx hb x hx => blank_here (HRE.out wx hb) q hsn (by rw [hq1]; exact cls_notblank false) x hx
          have HBK : Hid (∀ (wx : World), R wx → ∀ (x : Int), x = q → Calls Ybad.prog 13 #[.slice (some ⟨g, 0, none⟩) n cap, .int .i64 x] wx fun e' w'' => e' = .returned (.int .i64 q) ∧ w'' = wx) := hblk
          have hcq : ∀ (wx : World), R wx → wx.cell? ⟨g, q, none⟩ = some (.int .u8 93) := fun wx hb => by
            have := (HRE.out wx hb).txt.cell q hsn
            rw [hq1] at this; exact this
          have HCQ : Hid (∀ (wx : World), R wx → wx.cell? ⟨g, q, none⟩ = some (.int .u8 93)) := hcq
          have HEQ : Hid (E = q + 1) := hEq
          have HTN : Hid (((t : Int) + 1) = ((e0 :: r0).length : Nat)) := htN
          have ht3 : t ≤ 3 := by simp at htl hlen; omega
          clear hblk hcq hEq hq1 hjl hse hat hel hEl hl hq hr htl hpos htN
          by_cases ht0 : t = 0
          · subst ht0
            have hmk := HMK.out rfl
            clear HMK
            by_cases h34 : c = 34
            · subst h34
              go_wp2_with (first
                | (at_builtin; refine wpList_append_own _ rfl (.tmp 122) (.tmp 124) 26 rfl 0 3 i0 (.int .i64 0) 1 8 Ybad.underlying26 hi3 hz0 hz1 hz2 rfl (by decide) _ 0 [] rfl (World.ownsRow_nil _ _ _ _) ⟨wr.heap.size, 0, none⟩ 1 1 [.int .i64 s] rfl rfl (cell_new1 _ _ _) (by intro u hu; simp at hu; subst hu; rfl) (by unfold maxLen; omega) (by omega) (Nat.zero_le _) ?_; intro v' w1 hown1 hgrow1 hnil1; obtain ⟨g1, cap1, rfl⟩ := own_shape hown1 (by omega); have hb0 : Below wr.heap.size wr w1 := ((Below.refl _ _).alloc (Nat.le_refl _) _).grown hgrow1 (by simp) (fun k h => by cases h); have hR0' : R w1 := HRB.out _ _ hRx hb0; have hm1 := (hb0.cell (p := ⟨P, off + 4, none⟩) (by exact HRZ.out _ hRx)).trans hmk; obtain ⟨hfm, hR1⟩ := HRM.out w1 (some ⟨g1, 0, none⟩) 1 cap1 hR0'; have hcs := HCL.out _ hR1)
                | (go_at_call 7; refine ((HRD.out _ hR1).1 (by simp) _ (by omega)).mono ?_; rintro e' w3 ⟨rfl, hb3⟩; have hR3 : R w3 := HRB.out _ _ hR1 hb3; have hcq3 := HCQ.out w3 hR3; obtain ⟨⟨z3, hz3⟩, hf3, hps3⟩ := HRF.out w3 hR3)
                | (go_at_call 13; refine (HBK.out _ hR3 _ (by omega)).mono ?_; rintro e' w4 ⟨rfl, rfl⟩))
              go_ret2
              exact ⟨ret_two (by rw [HEQ.out]; omega), hps3 _, by rw [World.cell?_setCell_same _ _ _ hz3]; exact congrArg (fun z => some (Value.int .i64 z)) HTN.out⟩
            · have h34' : (c == 34) = false := by simpa using h34
              clear h34
              go_wp2_with (first
                | (at_builtin; refine wpList_append_own _ rfl (.tmp 122) (.tmp 124) 26 rfl 0 3 i0 (.int .i64 0) 1 8 Ybad.underlying26 hi3 hz0 hz1 hz2 rfl (by decide) _ 0 [] rfl (World.ownsRow_nil _ _ _ _) ⟨wr.heap.size, 0, none⟩ 1 1 [.int .i64 s] rfl rfl (cell_new1 _ _ _) (by intro u hu; simp at hu; subst hu; rfl) (by unfold maxLen; omega) (by omega) (Nat.zero_le _) ?_; intro v' w1 hown1 hgrow1 hnil1; obtain ⟨g1, cap1, rfl⟩ := own_shape hown1 (by omega); have hb0 : Below wr.heap.size wr w1 := ((Below.refl _ _).alloc (Nat.le_refl _) _).grown hgrow1 (by simp) (fun k h => by cases h); have hR0' : R w1 := HRB.out _ _ hRx hb0; have hm1 := (hb0.cell (p := ⟨P, off + 4, none⟩) (by exact HRZ.out _ hRx)).trans hmk; obtain ⟨hfm, hR1⟩ := HRM.out w1 (some ⟨g1, 0, none⟩) 1 cap1 hR0'; have hcs := HCL.out _ hR1)
                | (go_at_call 6; refine ((HRD.out _ hR1).2 _ _ (by omega) (by omega)).mono ?_; rintro e' w3 ⟨rfl, hb3⟩; have hR3 : R w3 := HRB.out _ _ hR1 hb3; have hcq3 := HCQ.out w3 hR3; obtain ⟨⟨z3, hz3⟩, hf3, hps3⟩ := HRF.out w3 hR3)
                | (go_at_call 13; refine (HBK.out _ hR3 _ (by omega)).mono ?_; rintro e' w4 ⟨rfl, rfl⟩))
              go_ret2
              exact ⟨ret_two (by rw [HEQ.out]; omega), hps3 _, by rw [World.cell?_setCell_same _ _ _ hz3]; exact congrArg (fun z => some (Value.int .i64 z)) HTN.out⟩
          · have htm : (((t : Int) % 1024) == 0) = false := by simp; omega
            have hR1 := hRx
            have hcs := HCL.out _ hR1
            clear HMK
            by_cases h34 : c = 34
            · subst h34
              go_wp2_with (first
                | (go_at_call 7; refine ((HRD.out _ hR1).1 (by simp) _ (by omega)).mono ?_; rintro e' w3 ⟨rfl, hb3⟩; have hR3 : R w3 := HRB.out _ _ hR1 hb3; have hcq3 := HCQ.out w3 hR3; obtain ⟨⟨z3, hz3⟩, hf3, hps3⟩ := HRF.out w3 hR3)
                | (go_at_call 13; refine (HBK.out _ hR3 _ (by omega)).mono ?_; rintro e' w4 ⟨rfl, rfl⟩))
              go_ret2
              exact ⟨ret_two (by rw [HEQ.out]; omega), hps3 _, by rw [World.cell?_setCell_same _ _ _ hz3]; exact congrArg (fun z => some (Value.int .i64 z)) HTN.out⟩
            · have h34' : (c == 34) = false := by simpa using h34
              clear h34
              go_wp2_with (first
                | (go_at_call 6; refine ((HRD.out _ hR1).2 _ _ (by omega) (by omega)).mono ?_; rintro e' w3 ⟨rfl, hb3⟩; have hR3 : R w3 := HRB.out _ _ hR1 hb3; have hcq3 := HCQ.out w3 hR3; obtain ⟨⟨z3, hz3⟩, hf3, hps3⟩ := HRF.out w3 hR3)
                | (go_at_call 13; refine (HBK.out _ hR3 _ (by omega)).mono ?_; rintro e' w4 ⟨rfl, rfl⟩))
              go_ret2
              exact ⟨ret_two (by rw [HEQ.out]; omega), hps3 _, by rw [World.cell?_setCell_same _ _ _ hz3]; exact congrArg (fun z => some (Value.int .i64 z)) HTN.out⟩
        · -- another follows
          match r, hr, htl, hel, hq3, hjl, hse with
          | e' :: r', _, htl, hel, hq3, hjl, hse =>
            obtain ⟨_, hate2, _⟩ := at_rest (o := false) hq3
            have hate2' : At l (q + 2) e' := hate2
            have hEl2 := hel e' (by simp)
            obtain ⟨hs2, hh2⟩ := at_head hate2' hEl2.pos
            have hEq : q + 2 + (join false (e' :: r')).length + 1 = E := by rw [← hse, hjl, hq]; omega
            have hblk : ∀ (wx : World), R wx → (∀ (x : Int), x = q → Calls Ybad.prog 13 #[.slice (some ⟨g, 0, none⟩) n cap, .int .i64 x] wx fun e' w'' => e' = .returned (.int .i64 q) ∧ w'' = wx) ∧
                (∀ (x : Int), x = ((q + 1 : Nat) : Int) → Calls Ybad.prog 13 #[.slice (some ⟨g, 0, none⟩) n cap, .int .i64 x] wx fun e' w'' => e' = .returned (.int .i64 (q + 1 + 1 : Nat)) ∧ w'' = wx) := fun wx hb =>
              ⟨fun x hx => blank_here (HRE.out wx hb) q hsn (by rw [hq1]; simp [Blank]) x hx, fun x hx => blank_one (HRE.out wx hb) (q + 1) (by omega) (by rw [hq2]; exact sep_blank false) (by rw [show q + 1 + 1 = q + 2 from rfl, hh2]; exact hEl2.head.1) x hx⟩
            have HBK : Hid (∀ (wx : World), R wx → (∀ (x : Int), x = q → Calls Ybad.prog 13 #[.slice (some ⟨g, 0, none⟩) n cap, .int .i64 x] wx fun e' w'' => e' = .returned (.int .i64 q) ∧ w'' = wx) ∧
                (∀ (x : Int), x = ((q + 1 : Nat) : Int) → Calls Ybad.prog 13 #[.slice (some ⟨g, 0, none⟩) n cap, .int .i64 x] wx fun e' w'' => e' = .returned (.int .i64 (q + 1 + 1 : Nat)) ∧ w'' = wx)) := hblk
            have hcq : ∀ (wx : World), R wx → wx.cell? ⟨g, q, none⟩ = some (.int .u8 44) := fun wx hb => by
              have := (HRE.out wx hb).txt.cell q hsn
              rw [hq1] at this; exact this
            have HCQ : Hid (∀ (wx : World), R wx → wx.cell? ⟨g, q, none⟩ = some (.int .u8 44)) := hcq
            have HNX : Hid (t + 1 + (e' :: r').length = (e0 :: r0).length ∧ (∀ e ∈ e' :: r', ElemOK f e) ∧ At l (q + 2) (join false (e' :: r') ++ [93]) ∧ q + 2 + (join false (e' :: r')).length + 1 = E) :=
              ⟨by simp at htl ⊢; omega, fun z hz => hel z (List.mem_cons_of_mem _ hz), hq3, hEq⟩
            have ht3 : t ≤ 3 := by simp at htl hlen; omega
            have hq2n : q + 2 < n := by omega
            clear hblk hcq hEq hq1 hjl hse hat hel hEl hl hq hr htl hpos hq2 hq3 hate2 hate2' hEl2 hs2 hh2
            by_cases ht0 : t = 0
            · subst ht0
              have hmk := HMK.out rfl
              clear HMK
              by_cases h34 : c = 34
              · subst h34
                go_wp2_with (first
                  | (at_builtin; refine wpList_append_own _ rfl (.tmp 122) (.tmp 124) 26 rfl 0 3 i0 (.int .i64 0) 1 8 Ybad.underlying26 hi3 hz0 hz1 hz2 rfl (by decide) _ 0 [] rfl (World.ownsRow_nil _ _ _ _) ⟨wr.heap.size, 0, none⟩ 1 1 [.int .i64 s] rfl rfl (cell_new1 _ _ _) (by intro u hu; simp at hu; subst hu; rfl) (by unfold maxLen; omega) (by omega) (Nat.zero_le _) ?_; intro v' w1 hown1 hgrow1 hnil1; obtain ⟨g1, cap1, rfl⟩ := own_shape hown1 (by omega); have hb0 : Below wr.heap.size wr w1 := ((Below.refl _ _).alloc (Nat.le_refl _) _).grown hgrow1 (by simp) (fun k h => by cases h); have hR0' : R w1 := HRB.out _ _ hRx hb0; have hm1 := (hb0.cell (p := ⟨P, off + 4, none⟩) (by exact HRZ.out _ hRx)).trans hmk; obtain ⟨hfm, hR1⟩ := HRM.out w1 (some ⟨g1, 0, none⟩) 1 cap1 hR0'; have hcs := HCL.out _ hR1)
                  | (go_at_call 7; refine ((HRD.out _ hR1).1 (by simp) _ (by omega)).mono ?_; rintro e' w3 ⟨rfl, hb3⟩; have hR3 : R w3 := HRB.out _ _ hR1 hb3; have hcq3 := HCQ.out w3 hR3)
                  | (go_at_call 13; refine ((HBK.out _ hR3).1 _ (by omega)).mono ?_; rintro e' w4 ⟨rfl, rfl⟩)
                  | (go_at_call 13; refine ((HBK.out _ hR3).2 _ (by omega)).mono ?_; rintro e' w4 ⟨rfl, rfl⟩))
                go_roundw
                case rel => exact ⟨q + 2, 0 + 1, _, by go_num, by go_num, HNX.out.1, by simp, HNX.out.2.1, HNX.out.2.2.1, HNX.out.2.2.2, hR3, fun h => by omega⟩
                case measure => simp [intOf]; omega
              · have h34' : (c == 34) = false := by simpa using h34
                clear h34
                go_wp2_with (first
                  | (at_builtin; refine wpList_append_own _ rfl (.tmp 122) (.tmp 124) 26 rfl 0 3 i0 (.int .i64 0) 1 8 Ybad.underlying26 hi3 hz0 hz1 hz2 rfl (by decide) _ 0 [] rfl (World.ownsRow_nil _ _ _ _) ⟨wr.heap.size, 0, none⟩ 1 1 [.int .i64 s] rfl rfl (cell_new1 _ _ _) (by intro u hu; simp at hu; subst hu; rfl) (by unfold maxLen; omega) (by omega) (Nat.zero_le _) ?_; intro v' w1 hown1 hgrow1 hnil1; obtain ⟨g1, cap1, rfl⟩ := own_shape hown1 (by omega); have hb0 : Below wr.heap.size wr w1 := ((Below.refl _ _).alloc (Nat.le_refl _) _).grown hgrow1 (by simp) (fun k h => by cases h); have hR0' : R w1 := HRB.out _ _ hRx hb0; have hm1 := (hb0.cell (p := ⟨P, off + 4, none⟩) (by exact HRZ.out _ hRx)).trans hmk; obtain ⟨hfm, hR1⟩ := HRM.out w1 (some ⟨g1, 0, none⟩) 1 cap1 hR0'; have hcs := HCL.out _ hR1)
                  | (go_at_call 6; refine ((HRD.out _ hR1).2 _ _ (by omega) (by omega)).mono ?_; rintro e' w3 ⟨rfl, hb3⟩; have hR3 : R w3 := HRB.out _ _ hR1 hb3; have hcq3 := HCQ.out w3 hR3)
                  | (go_at_call 13; refine ((HBK.out _ hR3).1 _ (by omega)).mono ?_; rintro e' w4 ⟨rfl, rfl⟩)
                  | (go_at_call 13; refine ((HBK.out _ hR3).2 _ (by omega)).mono ?_; rintro e' w4 ⟨rfl, rfl⟩))
                go_roundw
                case rel => exact ⟨q + 2, 0 + 1, _, by go_num, by go_num, HNX.out.1, by simp, HNX.out.2.1, HNX.out.2.2.1, HNX.out.2.2.2, hR3, fun h => by omega⟩
                case measure => simp [intOf]; omega
            · have htm : (((t : Int) % 1024) == 0) = false := by simp; omega
              have hR1 := hRx
              have hcs := HCL.out _ hR1
              clear HMK
              by_cases h34 : c = 34
              · subst h34
                go_wp2_with (first
                  | (go_at_call 7; refine ((HRD.out _ hR1).1 (by simp) _ (by omega)).mono ?_; rintro e' w3 ⟨rfl, hb3⟩; have hR3 : R w3 := HRB.out _ _ hR1 hb3; have hcq3 := HCQ.out w3 hR3)
                  | (go_at_call 13; refine ((HBK.out _ hR3).1 _ (by omega)).mono ?_; rintro e' w4 ⟨rfl, rfl⟩)
                  | (go_at_call 13; refine ((HBK.out _ hR3).2 _ (by omega)).mono ?_; rintro e' w4 ⟨rfl, rfl⟩))
                go_roundw
                case rel => exact ⟨q + 2, t + 1, _, by go_num, by go_num, HNX.out.1, by simp, HNX.out.2.1, HNX.out.2.2.1, HNX.out.2.2.2, hR3, fun h => by omega⟩
                case measure => simp [intOf]; omega
              · have h34' : (c == 34) = false := by simpa using h34
                clear h34
                go_wp2_with (first
                  | (go_at_call 6; refine ((HRD.out _ hR1).2 _ _ (by omega) (by omega)).mono ?_; rintro e' w3 ⟨rfl, hb3⟩; have hR3 : R w3 := HRB.out _ _ hR1 hb3; have hcq3 := HCQ.out w3 hR3)
                  | (go_at_call 13; refine ((HBK.out _ hR3).1 _ (by omega)).mono ?_; rintro e' w4 ⟨rfl, rfl⟩)
                  | (go_at_call 13; refine ((HBK.out _ hR3).2 _ (by omega)).mono ?_; rintro e' w4 ⟨rfl, rfl⟩))
                go_roundw
                case rel => exact ⟨q + 2, t + 1, _, by go_num, by go_num, HNX.out.1, by simp, HNX.out.2.1, HNX.out.2.2.1, HNX.out.2.2.2, hR3, fun h => by omega⟩
                case measure => simp [intOf]; omega
end Go.Proofs.YbulkxxiDoor
