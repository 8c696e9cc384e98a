/-
  skipContainer over an object that is not the top-level one: its length is recorded.
-/
import Derived.Test.YbulkxxiDoorPart
namespace Go.Proofs.YbulkxxiDoor
open Go.RowKit
set_option linter.unusedVariables false

set_option maxHeartbeats 8000000 in
set_option maxRecDepth 100000 in
theorem obj_ptr (f : Nat) (els : List (List Int)) (hel : ∀ e ∈ els, ElemOK f e) (hlen : els.length ≤ 3) (g n cap i : Nat) (x d : Int) (l : List Int) (w : World) (he : Env w g n l) (P off N : Nat) (hP : P ≠ g) (hP3 : 3 ≤ P) (hpart : Part0 w P off N) (hcap : n ≤ cap) (hx : x = i) (hd0 : 1 ≤ d) (hd : d + (f + 1) ≤ 100)
    (hat : At l i (cont true els)) :
    Calls Ybad.prog 8 #[.slice (some ⟨g, 0, none⟩) n cap, .int .i64 x, .int .i64 d, .pointer (some ⟨P, off, none⟩)] w fun e' w' => e' = .returned (.tuple #[.int .i64 (i + (cont true els).length : Nat), .bool true]) ∧ PS w w' P N ∧ w'.cell? ⟨P, off + 3, none⟩ = some (.int .i64 els.length) := by
  subst hx
  have hbig := he.txt.big
  have hln := he.txt.len
  obtain ⟨⟨hi, hi0⟩, hat1⟩ := at_cons.1 hat
  have c0 := he.txt.cell i (by omega)
  rw [hi0] at c0
  have c0' : w.cell? ⟨g, i, none⟩ = some (.int .u8 123) := c0
  have hiI : (i : Int) < (n : Int) := by omega
  have hd1 : (d == 10000) = false := by simp; omega
  have hdz : (d == 0) = false := by simp; omega
  have hps0 : PS w w P N := hpart.refl
  have HP0 : Hid (Part0 w P off N) := hpart
  clear hpart
  have HE : Hid (Env w g n l) := he
  have HL : Hid (l.length = n) := hln
  obtain ⟨E, hE⟩ : ∃ E, E = i + (cont true els).length := ⟨_, rfl⟩
  rw [← hE]
  have HEq : Hid (E = i + (cont true els).length) := hE
  have HAT : Hid (At l (i + 1) (join true els ++ [125])) := hat1
  have HEL : Hid (∀ e ∈ els, ElemOK f e) := hel
  clear he hln hat hat1 hi0 hE hi c0 hel
  obtain ⟨R, hRd⟩ : ∃ R : World → Prop, ∀ wx, R wx ↔ (PS w wx P N ∧ ∃ z, wx.cell? ⟨P, off + 3, none⟩ = some (.int .i64 z)) := ⟨_, fun _ => Iff.rfl⟩
  have HRE : Hid (∀ wx, R wx → Env wx g n l) := fun wx h => ((hRd wx).1 h).1.env HE.out hP hP3
  have HRB : Hid (∀ wx wy, R wx → Below wx.heap.size wx wy → R wy) := fun wx wy h hb => (hRd wy).2 ⟨((hRd wx).1 h).1.below hb, by
    obtain ⟨z, hz⟩ := ((hRd wx).1 h).2
    exact ⟨z, (hb.cell (p := ⟨P, off + 3, none⟩) (World.block_lt_of_cell? _ _ hz)).trans hz⟩⟩
  have HR0 : Hid (R w) := (hRd w).2 ⟨hps0, 0, HP0.out.len⟩
  have HRF : Hid (∀ wx, R wx → (∃ z, wx.cell? ⟨P, off + 3, none⟩ = some (.int .i64 z)) ∧ wx.frozen? ⟨P, off + 3, none⟩ = false ∧ ∀ z, PS w (wx.setCell ⟨P, off + 3, none⟩ (.int .i64 z)) P N) := fun wx h => by
    obtain ⟨h1, z, hz⟩ := (hRd wx).1 h
    exact ⟨⟨z, hz⟩, h1.free _, fun y => h1.setCell rfl⟩
  clear hRd hps0
  match els, hlen, HAT, HEL, HEq with
  | [], _, HAT, HEL, HEq =>
    obtain ⟨⟨h1, h2⟩, _⟩ := at_cons.1 HAT.out
    have hl := HL.out
    have c1 := HE.out.txt.cell (i + 1) (by omega)
    rw [h2] at c1
    have hb1 := blank_here (cap := cap) HE.out (i + 1) (by omega) (by rw [h2]; simp [Blank])
    have HB1 : Hid (∀ (x : Int), x = ((i + 1 : Nat) : Int) → Calls Ybad.prog 13 #[.slice (some ⟨g, 0, none⟩) n cap, .int .i64 x] w fun e w' => e = .returned (.int .i64 (i + 1 : Nat)) ∧ w' = w) := hb1
    have hiI1 : (i : Int) + 1 < (n : Int) := by omega
    have hEe : E = i + 2 := HEq.out
    have HEe : Hid (E = i + 2) := hEe
    clear h1 h2 hl hb1 hEe HEq
    go_enter Ybad.func8, Ybad.ntmps8
    go_wp2_with (go_at_call 13; refine (HB1.out _ (by omega)).mono ?_; rintro e w' ⟨rfl, rfl⟩)
    go_ret2
    exact ⟨ret_two (by rw [HEe.out]; omega), ⟨HP0.out.refl, HP0.out.len⟩⟩
  | e0 :: r0, hlen, HAT, HEL, HEq =>
    have hl := HL.out
    obtain ⟨hk0, hat0, _⟩ := at_rest (o := true) HAT.out
    have hi34 : l.getD (i + 1) 0 = 34 := by simpa [key] using hk0.2 0 (by simp [key])
    have hi1 : i + 1 < l.length := by have := hk0.1; simp [key] at this; omega
    have c1 := HE.out.txt.cell (i + 1) (by omega)
    rw [hi34] at c1
    have hb1 := blank_here (cap := cap) HE.out (i + 1) (by omega) (by rw [hi34]; simp [Blank])
    have HB1 : Hid (∀ (x : Int), x = ((i + 1 : Nat) : Int) → Calls Ybad.prog 13 #[.slice (some ⟨g, 0, none⟩) n cap, .int .i64 x] w fun e w' => e = .returned (.int .i64 (i + 1 : Nat)) ∧ w' = w) := hb1
    have hiI1 : (i : Int) + 1 < (n : Int) := by omega
    clear hat0 hk0 hi34 hi1 hb1 hl
    go_enter Ybad.func8, Ybad.ntmps8
    go_wp2_with (go_at_call 13; refine (HB1.out _ (by omega)).mono ?_; rintro e w' ⟨rfl, hw'⟩; rw [hw']; clear hw')
    go_loopw [1, 12] (fun si sn wr => ∃ (s t : Nat) (rest : List (List Int)), si = .int .i64 s ∧ sn = .int .i64 t ∧ t + rest.length = (e0 :: r0).length ∧ rest ≠ [] ∧ (∀ e ∈ rest, ElemOK f e) ∧ At l s (join true rest ++ [125]) ∧ s + (join true rest).length + 1 = E ∧ R wr)
      (fun si _ _ => n + 1 - (intOf si).toNat)
    case atStart => exact ⟨i + 1, 0, e0 :: r0, by go_num, rfl, by simp, by simp, HEL.out, HAT.out, by rw [HEq.out]; simp [cont]; omega, HR0.out⟩
    case round =>
      clear HB1 c1 hiI1 HEL HAT HEq
      obtain ⟨s, t, rest, rfl, rfl, htl, hne, hel, hat, hse, hRx⟩ := hrel
      match rest, hne, htl, hel, hat, hse with
      | e :: r, _, htl, hel, hat, hse =>
        have hEl := hel e (by simp)
        obtain ⟨hkey, hate, hrest⟩ := at_rest (o := true) hat
        have hkl : (key true).length = 5 := rfl
        rw [hkl] at hate hrest
        obtain ⟨hs1, hh⟩ := at_head hate hEl.pos
        have hl := HL.out
        have hpos := hEl.pos
        have hk0 : l.getD s 0 = 34 := by simpa [key] using hkey.2 0 (by simp [key])
        have hk1 : l.getD (s + 1) 0 = 107 := by simpa [key] using hkey.2 1 (by simp [key])
        have hk2 : l.getD (s + 2) 0 = 34 := by simpa [key] using hkey.2 2 (by simp [key])
        have hk3 : l.getD (s + 3) 0 = 58 := by simpa [key] using hkey.2 3 (by simp [key])
        have hk4 : l.getD (s + 4) 0 = 32 := by simpa [key] using hkey.2 4 (by simp [key])
        obtain ⟨v, hv⟩ : ∃ v, v = s + 5 := ⟨_, rfl⟩
        rw [← hv] at hate hrest hs1 hh
        have hsn : v + e.length < n := by
          rcases hrest with ⟨_, _, h, _⟩ | ⟨_, _, _, h, _⟩
          · omega
          · have h' := h.1
            simp at h'
            omega
        have hev := HRE.out wr hRx
        have cs := hev.txt.cell s (by omega)
        rw [hk0] at cs
        have hsI : (s : Int) < (n : Int) := by omega
        have d2 : decide ((n : Int) ≤ (s : Int)) = false := decide_eq_false (by omega)
        have hends : Ends l (v + e.length) := by
          intro _
          rcases hrest with ⟨_, h, _⟩ | ⟨_, h, _⟩
          · rw [h]; exact delim_cls true
          · rw [h]; exact delim_comma
        obtain ⟨q, hq⟩ : ∃ q, q = v + e.length := ⟨_, rfl⟩
        rw [← hq] at hends hsn hrest
        obtain ⟨c, hcd⟩ : ∃ c, c = headOf e := ⟨_, rfl⟩
        -- the key
        have hkeyr : ∀ (wx : World), R wx → (∀ (x : Int), x = s → Calls Ybad.prog 7 #[.slice (some ⟨g, 0, none⟩) n cap, .int .i64 x] wx fun e' w' => e' = .returned (.tuple #[.int .i64 (s + 3 : Nat), .bool true]) ∧ Below wx.heap.size wx w') ∧
            (∀ (x : Int), x = ((s + 3 : Nat) : Int) → Calls Ybad.prog 13 #[.slice (some ⟨g, 0, none⟩) n cap, .int .i64 x] wx fun e' w'' => e' = .returned (.int .i64 (s + 3 : Nat)) ∧ w'' = wx) ∧
            (∀ (x : Int), x = ((s + 4 : Nat) : Int) → Calls Ybad.prog 13 #[.slice (some ⟨g, 0, none⟩) n cap, .int .i64 x] wx fun e' w'' => e' = .returned (.int .i64 v) ∧ w'' = wx) := fun wx hR => by
          have hev := HRE.out wx hR
          refine ⟨fun x hx => ?_, fun x hx => ?_, fun x hx => ?_⟩
          · refine string_any g n cap s (s + 3) x hx l wx hev.txt hcap hev.hg hev.hg2 hev.tab hev.sp (by omega) (by omega) ?_
            rw [seg_cons l (s + 1) (s + 3) (by omega) (by omega), seg_cons l (s + 1 + 1) (s + 3) (by omega) (by omega), hk1, show s + 1 + 1 = s + 2 from rfl, hk2, show s + 2 + 1 = s + 3 from rfl, seg_end]
            decide
          · exact blank_here hev (s + 3) (by omega) (by rw [hk3]; simp [Blank]) x hx
          · have := blank_one (cap := cap) hev (s + 4) (by omega) (by rw [hk4]; simp [Blank]) (by rw [show s + 4 + 1 = v by omega, hh]; exact hEl.head.1) x hx
            rw [show s + 4 + 1 = v by omega] at this
            exact this
        have HKR : Hid (∀ (wx : World), R wx → (∀ (x : Int), x = s → Calls Ybad.prog 7 #[.slice (some ⟨g, 0, none⟩) n cap, .int .i64 x] wx fun e' w' => e' = .returned (.tuple #[.int .i64 (s + 3 : Nat), .bool true]) ∧ Below wx.heap.size wx w') ∧
            (∀ (x : Int), x = ((s + 3 : Nat) : Int) → Calls Ybad.prog 13 #[.slice (some ⟨g, 0, none⟩) n cap, .int .i64 x] wx fun e' w'' => e' = .returned (.int .i64 (s + 3 : Nat)) ∧ w'' = wx) ∧
            (∀ (x : Int), x = ((s + 4 : Nat) : Int) → Calls Ybad.prog 13 #[.slice (some ⟨g, 0, none⟩) n cap, .int .i64 x] wx fun e' w'' => e' = .returned (.int .i64 v) ∧ w'' = wx)) := hkeyr
        -- the element itself
        have hread : ∀ (wx : World), R wx → (c = 34 → ∀ (x : Int), x = v → Calls Ybad.prog 7 #[.slice (some ⟨g, 0, none⟩) n cap, .int .i64 x] wx fun e' w' => e' = .returned (.tuple #[.int .i64 q, .bool true]) ∧ Below wx.heap.size wx w') ∧
            (∀ (x d' : Int), x = v → d' = d + 1 → Calls Ybad.prog 6 #[.slice (some ⟨g, 0, none⟩) n cap, .int .i64 x, .int .i64 d', .pointer none] wx fun e' w' => e' = .returned (.tuple #[.int .i64 q, .bool true]) ∧ Below wx.heap.size wx w') := fun wx hR => by
          have hev := HRE.out wx hR
          refine ⟨fun h34 x hx => ?_, fun x d' hx hd' => ?_⟩
          · exact string_any g n cap v q x hx l wx hev.txt hcap hev.hg hev.hg2 hev.tab hev.sp (by omega) (by omega) (by rw [hq]; exact at_tail_ok hate hpos (hEl.str (by rw [← hcd]; exact h34)))
          · rw [hq]
            exact hEl.ok g n cap v x d' l wx hev hcap hx (by omega) (by omega) hate (by rw [← hq]; exact hends)
        have HRD : Hid (∀ (wx : World), R wx → (c = 34 → ∀ (x : Int), x = v → Calls Ybad.prog 7 #[.slice (some ⟨g, 0, none⟩) n cap, .int .i64 x] wx fun e' w' => e' = .returned (.tuple #[.int .i64 q, .bool true]) ∧ Below wx.heap.size wx w') ∧
            (∀ (x d' : Int), x = v → d' = d + 1 → Calls Ybad.prog 6 #[.slice (some ⟨g, 0, none⟩) n cap, .int .i64 x, .int .i64 d', .pointer none] wx fun e' w' => e' = .returned (.tuple #[.int .i64 q, .bool true]) ∧ Below wx.heap.size wx w')) := hread
        -- what is read of the text in whatever world stands there
        have hcl : ∀ (wx : World), R wx → wx.cell? ⟨g, s + 3, none⟩ = some (.int .u8 58) ∧ wx.cell? ⟨g, v, none⟩ = some (.int .u8 c) := fun wx hR => by
          have hev := HRE.out wx hR
          refine ⟨?_, ?_⟩
          · rw [← hk3]; exact hev.txt.cell (s + 3) (by omega)
          · rw [hcd, ← hh]; exact hev.txt.cell v (by omega)
        have HCL : Hid (∀ (wx : World), R wx → wx.cell? ⟨g, s + 3, none⟩ = some (.int .u8 58) ∧ wx.cell? ⟨g, v, none⟩ = some (.int .u8 c)) := hcl
        have hsq : v < q := by omega
        have hvs : v = s + 5 := hv
        have d3 : decide ((n : Int) ≤ (s : Int) + 3) = false := decide_eq_false (by omega)
        have hvI : (v : Int) < (n : Int) := by omega
        have hs3I : (s : Int) + 3 < (n : Int) := by omega
        have HVS : Hid (v = s + 5) := hvs
        have hvs1 : s + 5 ≤ v := by omega
        have hvs2 : v ≤ s + 5 := by omega
        have hqn : (q : Int) < (n : Int) := by omega
        have d4 : decide ((n : Int) ≤ (q : Int)) = false := decide_eq_false (by omega)
        clear hkeyr hread hcl hvs hv hk0 hk1 hk2 hk3 hk4 hkl hkey hate hs1 hh hends hev hcd
        rcases hrest with ⟨hr, hq1, _, hjl⟩ | ⟨hr, hq1, hq2, hq3, hjl⟩
        · -- the last element
          have hEq : E = q + 1 := by rw [← hse, hjl, hq]; simp; have := HVS.out; omega
          have htN : ((t : Int) + 1) = ((e0 :: r0).length : Nat) := by subst hr; simp at htl ⊢; omega
          have hblk : ∀ (wx : World), R wx → ∀ (x : Int), x = q → Calls Ybad.prog 13 #[.slice (some ⟨g, 0, none⟩) n cap, .int .i64 x] wx fun e' w'' => e' = .returned (.int .i64 q) ∧ w'' = wx := fun wx hb x hx => blank_here (HRE.out wx hb) q hsn (by rw [hq1]; exact cls_notblank true) x hx
          have HBK : Hid (∀ (wx : World), R wx → ∀ (x : Int), x = q → Calls Ybad.prog 13 #[.slice (some ⟨g, 0, none⟩) n cap, .int .i64 x] wx fun e' w'' => e' = .returned (.int .i64 q) ∧ w'' = wx) := hblk
          have hcq : ∀ (wx : World), R wx → wx.cell? ⟨g, q, none⟩ = some (.int .u8 125) := fun wx hb => by
            have := (HRE.out wx hb).txt.cell q hsn
            rw [hq1] at this; exact this
          have HCQ : Hid (∀ (wx : World), R wx → wx.cell? ⟨g, q, none⟩ = some (.int .u8 125)) := hcq
          have HEQ : Hid (E = q + 1) := hEq
          have HTN : Hid (((t : Int) + 1) = ((e0 :: r0).length : Nat)) := htN
          have ht3 : t ≤ 3 := by simp at htl hlen; omega
          clear hblk hcq hEq hq1 hjl hse hat hel hEl hl hq hr htl hpos htN
          by_cases h34 : c = 34
          · subst h34
            go_wp2_with (first
              | (go_at_call 7; refine ((HKR.out _ hRx).1 _ (by omega)).mono ?_; rintro e' w1 ⟨rfl, hb1⟩; have hR1 : R w1 := HRB.out _ _ hRx hb1; obtain ⟨hc3, hcv⟩ := HCL.out w1 hR1)
              | (go_at_call 13; refine ((HKR.out _ hR1).2.1 _ (by omega)).mono ?_; rintro e' w2 ⟨rfl, rfl⟩)
              | (go_at_call 13; refine ((HKR.out _ hR1).2.2 _ (by omega)).mono ?_; rintro e' w2 ⟨rfl, rfl⟩)
              | (go_at_call 7; refine ((HRD.out _ hR1).1 (by simp) _ (by omega)).mono ?_; rintro e' w3 ⟨rfl, hb3⟩; have hR3 : R w3 := HRB.out _ _ hR1 hb3; have hcq3 := HCQ.out w3 hR3; obtain ⟨⟨z3, hz3⟩, hf3, hps3⟩ := HRF.out w3 hR3)
              | (go_at_call 13; refine (HBK.out _ hR3 _ (by omega)).mono ?_; rintro e' w4 ⟨rfl, rfl⟩))
            go_ret2
            exact ⟨ret_two (by rw [HEQ.out]; omega), hps3 _, by rw [World.cell?_setCell_same _ _ _ hz3]; exact congrArg (fun z => some (Value.int .i64 z)) HTN.out⟩
          · have h34' : (c == 34) = false := by simpa using h34
            clear h34
            go_wp2_with (first
              | (go_at_call 7; refine ((HKR.out _ hRx).1 _ (by omega)).mono ?_; rintro e' w1 ⟨rfl, hb1⟩; have hR1 : R w1 := HRB.out _ _ hRx hb1; obtain ⟨hc3, hcv⟩ := HCL.out w1 hR1)
              | (go_at_call 13; refine ((HKR.out _ hR1).2.1 _ (by omega)).mono ?_; rintro e' w2 ⟨rfl, rfl⟩)
              | (go_at_call 13; refine ((HKR.out _ hR1).2.2 _ (by omega)).mono ?_; rintro e' w2 ⟨rfl, rfl⟩)
              | (go_at_call 6; refine ((HRD.out _ hR1).2 _ _ (by omega) (by omega)).mono ?_; rintro e' w3 ⟨rfl, hb3⟩; have hR3 : R w3 := HRB.out _ _ hR1 hb3; have hcq3 := HCQ.out w3 hR3; obtain ⟨⟨z3, hz3⟩, hf3, hps3⟩ := HRF.out w3 hR3)
              | (go_at_call 13; refine (HBK.out _ hR3 _ (by omega)).mono ?_; rintro e' w4 ⟨rfl, rfl⟩))
            go_ret2
            exact ⟨ret_two (by rw [HEQ.out]; omega), hps3 _, by rw [World.cell?_setCell_same _ _ _ hz3]; exact congrArg (fun z => some (Value.int .i64 z)) HTN.out⟩
        · -- another follows
          match r, hr, htl, hel, hq3, hjl, hse with
          | e' :: r', _, htl, hel, hq3, hjl, hse =>
            obtain ⟨hk2, _, _⟩ := at_rest (o := true) hq3
            have hnk : l.getD (q + 2) 0 = 34 := by simpa [key] using hk2.2 0 (by simp [key])
            have hnl : q + 2 < l.length := by have := hk2.1; simp [key] at this; omega
            have hEq : q + 2 + (join true (e' :: r')).length + 1 = E := by rw [← hse, hjl, hq]; simp; have := HVS.out; omega
            have hblk : ∀ (wx : World), R wx → (∀ (x : Int), x = q → Calls Ybad.prog 13 #[.slice (some ⟨g, 0, none⟩) n cap, .int .i64 x] wx fun e' w'' => e' = .returned (.int .i64 q) ∧ w'' = wx) ∧
                (∀ (x : Int), x = ((q + 1 : Nat) : Int) → Calls Ybad.prog 13 #[.slice (some ⟨g, 0, none⟩) n cap, .int .i64 x] wx fun e' w'' => e' = .returned (.int .i64 (q + 1 + 1 : Nat)) ∧ w'' = wx) := fun wx hb =>
              ⟨fun x hx => blank_here (HRE.out wx hb) q hsn (by rw [hq1]; simp [Blank]) x hx, fun x hx => blank_one (HRE.out wx hb) (q + 1) (by omega) (by rw [hq2]; exact sep_blank true) (by rw [show q + 1 + 1 = q + 2 from rfl, hnk]; simp [Blank]) x hx⟩
            have HBK : Hid (∀ (wx : World), R wx → (∀ (x : Int), x = q → Calls Ybad.prog 13 #[.slice (some ⟨g, 0, none⟩) n cap, .int .i64 x] wx fun e' w'' => e' = .returned (.int .i64 q) ∧ w'' = wx) ∧
                (∀ (x : Int), x = ((q + 1 : Nat) : Int) → Calls Ybad.prog 13 #[.slice (some ⟨g, 0, none⟩) n cap, .int .i64 x] wx fun e' w'' => e' = .returned (.int .i64 (q + 1 + 1 : Nat)) ∧ w'' = wx)) := hblk
            have hcq : ∀ (wx : World), R wx → wx.cell? ⟨g, q, none⟩ = some (.int .u8 44) := fun wx hb => by
              have := (HRE.out wx hb).txt.cell q hsn
              rw [hq1] at this; exact this
            have HCQ : Hid (∀ (wx : World), R wx → wx.cell? ⟨g, q, none⟩ = some (.int .u8 44)) := hcq
            have HNX : Hid (t + 1 + (e' :: r').length = (e0 :: r0).length ∧ (∀ e ∈ e' :: r', ElemOK f e) ∧ At l (q + 2) (join true (e' :: r') ++ [125]) ∧ q + 2 + (join true (e' :: r')).length + 1 = E) :=
              ⟨by simp at htl ⊢; omega, fun z hz => hel z (List.mem_cons_of_mem _ hz), hq3, hEq⟩
            have ht3 : t ≤ 3 := by simp at htl hlen; omega
            have hq2n : q + 2 < n := by omega
            clear hblk hcq hEq hq1 hjl hse hat hel hEl hl hq hr htl hpos hq2 hq3 hk2 hnk hnl
            by_cases h34 : c = 34
            · subst h34
              go_wp2_with (first
                | (go_at_call 7; refine ((HKR.out _ hRx).1 _ (by omega)).mono ?_; rintro e' w1 ⟨rfl, hb1⟩; have hR1 : R w1 := HRB.out _ _ hRx hb1; obtain ⟨hc3, hcv⟩ := HCL.out w1 hR1)
                | (go_at_call 13; refine ((HKR.out _ hR1).2.1 _ (by omega)).mono ?_; rintro e' w2 ⟨rfl, rfl⟩)
                | (go_at_call 13; refine ((HKR.out _ hR1).2.2 _ (by omega)).mono ?_; rintro e' w2 ⟨rfl, rfl⟩)
                | (go_at_call 7; refine ((HRD.out _ hR1).1 (by simp) _ (by omega)).mono ?_; rintro e' w3 ⟨rfl, hb3⟩; have hR3 : R w3 := HRB.out _ _ hR1 hb3; have hcq3 := HCQ.out w3 hR3)
                | (go_at_call 13; refine ((HBK.out _ hR3).1 _ (by omega)).mono ?_; rintro e' w4 ⟨rfl, rfl⟩)
                | (go_at_call 13; refine ((HBK.out _ hR3).2 _ (by omega)).mono ?_; rintro e' w4 ⟨rfl, rfl⟩))
              go_roundw
              case rel => exact ⟨q + 2, t + 1, _, by go_num, by go_num, HNX.out.1, by simp, HNX.out.2.1, HNX.out.2.2.1, HNX.out.2.2.2, hR3⟩
              case measure => simp [intOf]; omega
            · have h34' : (c == 34) = false := by simpa using h34
              clear h34
              go_wp2_with (first
                | (go_at_call 7; refine ((HKR.out _ hRx).1 _ (by omega)).mono ?_; rintro e' w1 ⟨rfl, hb1⟩; have hR1 : R w1 := HRB.out _ _ hRx hb1; obtain ⟨hc3, hcv⟩ := HCL.out w1 hR1)
                | (go_at_call 13; refine ((HKR.out _ hR1).2.1 _ (by omega)).mono ?_; rintro e' w2 ⟨rfl, rfl⟩)
                | (go_at_call 13; refine ((HKR.out _ hR1).2.2 _ (by omega)).mono ?_; rintro e' w2 ⟨rfl, rfl⟩)
                | (go_at_call 6; refine ((HRD.out _ hR1).2 _ _ (by omega) (by omega)).mono ?_; rintro e' w3 ⟨rfl, hb3⟩; have hR3 : R w3 := HRB.out _ _ hR1 hb3; have hcq3 := HCQ.out w3 hR3)
                | (go_at_call 13; refine ((HBK.out _ hR3).1 _ (by omega)).mono ?_; rintro e' w4 ⟨rfl, rfl⟩)
                | (go_at_call 13; refine ((HBK.out _ hR3).2 _ (by omega)).mono ?_; rintro e' w4 ⟨rfl, rfl⟩))
              go_roundw
              case rel => exact ⟨q + 2, t + 1, _, by go_num, by go_num, HNX.out.1, by simp, HNX.out.2.1, HNX.out.2.2.1, HNX.out.2.2.2, hR3⟩
              case measure => simp [intOf]; omega
end Go.Proofs.YbulkxxiDoor
