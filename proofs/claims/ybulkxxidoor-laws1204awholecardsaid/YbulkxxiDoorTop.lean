/-
  skipContainer over the top-level object: its members and its length are recorded.
-/
import Derived.Test.YbulkxxiDoorTop0
namespace Go.Proofs.YbulkxxiDoor
open Go.RowKit
set_option linter.unusedVariables false

set_option maxHeartbeats 40000000 in
set_option maxRecDepth 100000 in
theorem obj_top (f : Nat) (els : List (List Int)) (hel : ∀ e ∈ els, ElemOK f e ∧ PtrOK f e) (hlen : els.length ≤ 3) (g n cap i : Nat) (x : Int) (l : List Int) (w : World) (he : Env w g n l) (P off N : Nat) (hP : P ≠ g) (hP3 : 3 ≤ P) (hpart : Part0 w P off N) (hcap : n ≤ cap) (hx : x = i) (hd : f + 1 ≤ 100)
    (hat : At l i (cont true els)) :
    Calls Ybad.prog 8 #[.slice (some ⟨g, 0, none⟩) n cap, .int .i64 x, .int .i64 0, .pointer (some ⟨P, off, none⟩)] w fun e' w' => e' = .returned (.tuple #[.int .i64 (i + (cont true els).length : Nat), .bool true]) ∧ PS w w' P N ∧ w'.cell? ⟨P, off + 3, none⟩ = some (.int .i64 els.length) := by
  subst hx
  have hbig := he.txt.big
  have hln := he.txt.len
  obtain ⟨⟨hi, hi0⟩, hat1⟩ := at_cons.1 hat
  have c0 := he.txt.cell i (by omega)
  rw [hi0] at c0
  have c0' : w.cell? ⟨g, i, none⟩ = some (.int .u8 123) := c0
  have hiI : (i : Int) < (n : Int) := by omega
  obtain ⟨i0, hi9, hz0, hz1, hz2⟩ := info_parts Ybad.info29
  have hps0 : PS w w P N := hpart.refl
  have HP0 : Hid (Part0 w P off N) := hpart
  clear hpart
  have HE : Hid (Env w g n l) := he
  have HL : Hid (l.length = n) := hln
  obtain ⟨E, hE⟩ : ∃ E, E = i + (cont true els).length := ⟨_, rfl⟩
  rw [← hE]
  have HEq : Hid (E = i + (cont true els).length) := hE
  have HAT : Hid (At l (i + 1) (join true els ++ [125])) := hat1
  have HEL : Hid (∀ e ∈ els, ElemOK f e ∧ PtrOK f e) := hel
  clear he hln hat hat1 hi0 hE hi c0 hel
  have hPlt : P < w.heap.size := HP0.out.lt
  have HPE : Hid (∀ wx, PS w wx P N → Env wx g n l) := fun wx h => h.env HE.out hP hP3
  have HM0 : Hid (Mem w w P off N 0 none 0) := ⟨hps0, ⟨0, HP0.out.len⟩, HP0.out.members, ⟨[], World.ownsRow_nil _ _ _ _⟩⟩
  clear hps0
  match els, hlen, HAT, HEL, HEq with
  | [], _, HAT, HEL, HEq =>
    obtain ⟨⟨h1, h2⟩, _⟩ := at_cons.1 HAT.out
    have hl := HL.out
    have c1 := HE.out.txt.cell (i + 1) (by omega)
    rw [h2] at c1
    have hb1 := blank_here (cap := cap) HE.out (i + 1) (by omega) (by rw [h2]; simp [Blank])
    have HB1 : Hid (∀ (x : Int), x = ((i + 1 : Nat) : Int) → Calls Ybad.prog 13 #[.slice (some ⟨g, 0, none⟩) n cap, .int .i64 x] w fun e w' => e = .returned (.int .i64 (i + 1 : Nat)) ∧ w' = w) := hb1
    have hiI1 : (i : Int) + 1 < (n : Int) := by omega
    have hEe : E = i + 2 := HEq.out
    have HEe : Hid (E = i + 2) := hEe
    clear h1 h2 hl hb1 hEe HEq
    go_enter Ybad.func8, Ybad.ntmps8
    go_wp2_with (go_at_call 13; refine (HB1.out _ (by omega)).mono ?_; rintro e w' ⟨rfl, rfl⟩)
    go_ret2
    exact ⟨ret_two (by rw [HEe.out]; omega), ⟨HP0.out.refl, HP0.out.len⟩⟩
  | e0 :: r0, hlen, HAT, HEL, HEq =>
    have hl := HL.out
    obtain ⟨hk0, hat0, _⟩ := at_rest (o := true) HAT.out
    have hi34 : l.getD (i + 1) 0 = 34 := by simpa [key] using hk0.2 0 (by simp [key])
    have hi1 : i + 1 < l.length := by have := hk0.1; simp [key] at this; omega
    have c1 := HE.out.txt.cell (i + 1) (by omega)
    rw [hi34] at c1
    have hb1 := blank_here (cap := cap) HE.out (i + 1) (by omega) (by rw [hi34]; simp [Blank])
    have HB1 : Hid (∀ (x : Int), x = ((i + 1 : Nat) : Int) → Calls Ybad.prog 13 #[.slice (some ⟨g, 0, none⟩) n cap, .int .i64 x] w fun e w' => e = .returned (.int .i64 (i + 1 : Nat)) ∧ w' = w) := hb1
    have hiI1 : (i : Int) + 1 < (n : Int) := by omega
    clear hat0 hk0 hi34 hi1 hb1 hl
    go_enter Ybad.func8, Ybad.ntmps8
    go_wp2_with (go_at_call 13; refine (HB1.out _ (by omega)).mono ?_; rintro e w' ⟨rfl, hw'⟩; rw [hw']; clear hw')
    go_loopw [1, 12] (fun si sn wr => ∃ (s t : Nat) (rest : List (List Int)), si = .int .i64 s ∧ sn = .int .i64 t ∧ t + rest.length = (e0 :: r0).length ∧ rest ≠ [] ∧ (∀ e ∈ rest, ElemOK f e ∧ PtrOK f e) ∧ At l s (join true rest ++ [125]) ∧ s + (join true rest).length + 1 = E ∧ ∃ ao cp, Mem w wr P off N t ao cp)
      (fun si _ _ => n + 1 - (intOf si).toNat)
    case atStart => exact ⟨i + 1, 0, e0 :: r0, by go_num, rfl, by simp, by simp, HEL.out, HAT.out, by rw [HEq.out]; simp [cont]; omega, none, 0, HM0.out⟩
    case round =>
      clear HB1 c1 hiI1 HEL HAT HEq
      obtain ⟨s, t, rest, rfl, rfl, htl, hne, hel, hat, hse, ao, cp, hmem⟩ := hrel
      match rest, hne, htl, hel, hat, hse with
      | e :: r, _, htl, hel, hat, hse =>
        have hElP := hel e (by simp)
        have hEl := hElP.1
        obtain ⟨hkey, hate, hrest⟩ := at_rest (o := true) hat
        have hkl : (key true).length = 5 := rfl
        rw [hkl] at hate hrest
        obtain ⟨hs1, hh⟩ := at_head hate hEl.pos
        have hl := HL.out
        have hpos := hEl.pos
        have hk0 : l.getD s 0 = 34 := by simpa [key] using hkey.2 0 (by simp [key])
        have hk1 : l.getD (s + 1) 0 = 107 := by simpa [key] using hkey.2 1 (by simp [key])
        have hk2 : l.getD (s + 2) 0 = 34 := by simpa [key] using hkey.2 2 (by simp [key])
        have hk3 : l.getD (s + 3) 0 = 58 := by simpa [key] using hkey.2 3 (by simp [key])
        have hk4 : l.getD (s + 4) 0 = 32 := by simpa [key] using hkey.2 4 (by simp [key])
        obtain ⟨v, hv⟩ : ∃ v, v = s + 5 := ⟨_, rfl⟩
        rw [← hv] at hate hrest hs1 hh
        have hsn : v + e.length < n := by
          rcases hrest with ⟨_, _, h, _⟩ | ⟨_, _, _, h, _⟩
          · omega
          · have h' := h.1
            simp at h'
            omega
        have hev := HPE.out wr hmem.ps
        have cs := hev.txt.cell s (by omega)
        rw [hk0] at cs
        have hsI : (s : Int) < (n : Int) := by omega
        have d2 : decide ((n : Int) ≤ (s : Int)) = false := decide_eq_false (by omega)
        have hends : Ends l (v + e.length) := by
          intro _
          rcases hrest with ⟨_, h, _⟩ | ⟨_, h, _⟩
          · rw [h]; exact delim_cls true
          · rw [h]; exact delim_comma
        obtain ⟨q, hq⟩ : ∃ q, q = v + e.length := ⟨_, rfl⟩
        rw [← hq] at hends hsn hrest
        obtain ⟨c, hcd⟩ : ∃ c, c = headOf e := ⟨_, rfl⟩
        -- the key
        have hkeyr : ∀ (wx : World), PS w wx P N → (∀ (x : Int), x = s → Calls Ybad.prog 7 #[.slice (some ⟨g, 0, none⟩) n cap, .int .i64 x] wx fun e' w' => e' = .returned (.tuple #[.int .i64 (s + 3 : Nat), .bool true]) ∧ Below wx.heap.size wx w') ∧
            (∀ (x : Int), x = ((s + 3 : Nat) : Int) → Calls Ybad.prog 13 #[.slice (some ⟨g, 0, none⟩) n cap, .int .i64 x] wx fun e' w'' => e' = .returned (.int .i64 (s + 3 : Nat)) ∧ w'' = wx) ∧
            (∀ (x : Int), x = ((s + 4 : Nat) : Int) → Calls Ybad.prog 13 #[.slice (some ⟨g, 0, none⟩) n cap, .int .i64 x] wx fun e' w'' => e' = .returned (.int .i64 v) ∧ w'' = wx) := fun wx hR => by
          have hev := HPE.out wx hR
          refine ⟨fun x hx => ?_, fun x hx => ?_, fun x hx => ?_⟩
          · refine string_any g n cap s (s + 3) x hx l wx hev.txt hcap hev.hg hev.hg2 hev.tab hev.sp (by omega) (by omega) ?_
            rw [seg_cons l (s + 1) (s + 3) (by omega) (by omega), seg_cons l (s + 1 + 1) (s + 3) (by omega) (by omega), hk1, show s + 1 + 1 = s + 2 from rfl, hk2, show s + 2 + 1 = s + 3 from rfl, seg_end]
            decide
          · exact blank_here hev (s + 3) (by omega) (by rw [hk3]; simp [Blank]) x hx
          · have := blank_one (cap := cap) hev (s + 4) (by omega) (by rw [hk4]; simp [Blank]) (by rw [show s + 4 + 1 = v by omega, hh]; exact hEl.head.1) x hx
            rw [show s + 4 + 1 = v by omega] at this
            exact this
        have HKR : Hid (∀ (wx : World), PS w wx P N → (∀ (x : Int), x = s → Calls Ybad.prog 7 #[.slice (some ⟨g, 0, none⟩) n cap, .int .i64 x] wx fun e' w' => e' = .returned (.tuple #[.int .i64 (s + 3 : Nat), .bool true]) ∧ Below wx.heap.size wx w') ∧
            (∀ (x : Int), x = ((s + 3 : Nat) : Int) → Calls Ybad.prog 13 #[.slice (some ⟨g, 0, none⟩) n cap, .int .i64 x] wx fun e' w'' => e' = .returned (.int .i64 (s + 3 : Nat)) ∧ w'' = wx) ∧
            (∀ (x : Int), x = ((s + 4 : Nat) : Int) → Calls Ybad.prog 13 #[.slice (some ⟨g, 0, none⟩) n cap, .int .i64 x] wx fun e' w'' => e' = .returned (.int .i64 v) ∧ w'' = wx)) := hkeyr
        -- the element itself
        have hread : ∀ (wx : World), PS w wx P N → (c = 34 → ∀ (x : Int), x = v → Calls Ybad.prog 7 #[.slice (some ⟨g, 0, none⟩) n cap, .int .i64 x] wx fun e' w' => e' = .returned (.tuple #[.int .i64 q, .bool true]) ∧ Below wx.heap.size wx w') ∧
            (∀ (M o K : Nat), M ≠ g → 3 ≤ M → Part0 wx M o K → ∀ (x : Int), x = v → Calls Ybad.prog 6 #[.slice (some ⟨g, 0, none⟩) n cap, .int .i64 x, .int .i64 1, .pointer (some ⟨M, o, none⟩)] wx fun e' w' => e' = .returned (.tuple #[.int .i64 q, .bool true]) ∧ PS wx w' M K) := fun wx hR => by
          have hev := HPE.out wx hR
          refine ⟨fun h34 x hx => ?_, fun M o K hMg hM3 hpt x hx => ?_⟩
          · exact string_any g n cap v q x hx l wx hev.txt hcap hev.hg hev.hg2 hev.tab hev.sp (by omega) (by omega) (by rw [hq]; exact at_tail_ok hate hpos (hEl.str (by rw [← hcd]; exact h34)))
          · rw [hq]
            exact hElP.2 g n cap v x 1 l wx M o K hev hMg hM3 hpt hcap hx (by omega) (by omega) hate (by rw [← hq]; exact hends)
        have HRD : Hid (∀ (wx : World), PS w wx P N → (c = 34 → ∀ (x : Int), x = v → Calls Ybad.prog 7 #[.slice (some ⟨g, 0, none⟩) n cap, .int .i64 x] wx fun e' w' => e' = .returned (.tuple #[.int .i64 q, .bool true]) ∧ Below wx.heap.size wx w') ∧
            (∀ (M o K : Nat), M ≠ g → 3 ≤ M → Part0 wx M o K → ∀ (x : Int), x = v → Calls Ybad.prog 6 #[.slice (some ⟨g, 0, none⟩) n cap, .int .i64 x, .int .i64 1, .pointer (some ⟨M, o, none⟩)] wx fun e' w' => e' = .returned (.tuple #[.int .i64 q, .bool true]) ∧ PS wx w' M K)) := hread
        -- what is read of the text in whatever world stands there
        have hcl : ∀ (wx : World), PS w wx P N → wx.cell? ⟨g, s + 3, none⟩ = some (.int .u8 58) ∧ wx.cell? ⟨g, v, none⟩ = some (.int .u8 c) := fun wx hR => by
          have hev := HPE.out wx hR
          refine ⟨?_, ?_⟩
          · rw [← hk3]; exact hev.txt.cell (s + 3) (by omega)
          · rw [hcd, ← hh]; exact hev.txt.cell v (by omega)
        have HCL : Hid (∀ (wx : World), PS w wx P N → wx.cell? ⟨g, s + 3, none⟩ = some (.int .u8 58) ∧ wx.cell? ⟨g, v, none⟩ = some (.int .u8 c)) := hcl
        have hsq : v < q := by omega
        have hvs : v = s + 5 := hv
        have d3 : decide ((n : Int) ≤ (s : Int) + 3) = false := decide_eq_false (by omega)
        have hvI : (v : Int) < (n : Int) := by omega
        have hs3I : (s : Int) + 3 < (n : Int) := by omega
        have HVS : Hid (v = s + 5) := hvs
        have hvs1 : s + 5 ≤ v := by omega
        have hvs2 : v ≤ s + 5 := by omega
        have hqn : (q : Int) < (n : Int) := by omega
        have d4 : decide ((n : Int) ≤ (q : Int)) = false := decide_eq_false (by omega)
        clear hkeyr hread hcl hvs hv hk0 hk1 hk2 hk3 hk4 hkl hkey hate hs1 hh hends hev hcd
        have ht3 : t < 3 := by simp at htl hlen; omega
        have htI : (t : Int) < (t : Int) + 1 := by omega
        have hPw : P < wr.heap.size := hmem.ps.lt
        have hcm := hmem.cell
        have hfm := hmem.ps.free (off + 5)
        have HMEM : Hid (Mem w wr P off N t ao cp) := hmem
        clear hmem
        have HMG : Hid (∀ M, w.heap.size ≤ M → M ≠ g ∧ 3 ≤ M) := fun M hM => by have := HE.out.hg; exact ⟨by omega, by omega⟩
        go_wp2_with fail
        go_cut [14] from 43 to 199 (fun m wx => m = .pointer none ∧ ∃ M cp', Row w wx P off N M (t + 1) cp' ∧ wx.cell? ⟨P, off + 5, none⟩ = some (.slice (some ⟨M, 0, none⟩) (t + 1) cp') ∧ wx.cell? ⟨M, t * 6 + 3, none⟩ = some (.int .i64 0) ∧ wx.cell? ⟨M, t * 6 + 4, none⟩ = some (.slice none 0 0) ∧ wx.cell? ⟨M, t * 6 + 5, none⟩ = some (.slice none 0 0))
        case first =>
          obtain ⟨xs, hown⟩ := HMEM.out.own
          have HOWN : Hid (wr.ownsRow w.heap.size 29 6 (.slice ao t cp) t xs) := hown
          have HXL : Hid (xs.length = t * 6) := hown.1
          have hwsz := HMEM.out.ps.size
          clear hown HKR HRD HCL HVS hrest
          rcases (show t = 0 ∨ t = 1 ∨ t = 2 from by omega) with rfl | rfl | rfl
          · skip
            go_region_law ((refine step_append_lies _ (by rfl) (.tmp 67) (.tmp 71) 27 (by rfl) w.heap.size 29 i0 (.agg #[.int .i64 0, .int .i64 0, .int .i64 0, .int .i64 0, .slice none 0 0, .slice none 0 0]) 6 80 Ybad.underlying27 hi9 hz0 hz1 hz2 (by rfl) (by decide) (.slice ao 0 cp) 0 xs (by rfl) (by exact HOWN.out.drew.alloc _) ⟨wr.heap.size, 0, none⟩ 1 1 zeroPart (by rfl) (by rfl) (by exact cell_newN _ _ _) (by decide) (by decide) (by unfold maxLen; omega) (by omega) (by simp; omega) (wr.heap.size + 1) (by simp) ?_; intro M cp' w1 hown1 hgrow1 hat1 hlt1; obtain ⟨hrow1, hcp1, hfp1, hk⟩ := row_made HMEM.out hown1 HXL.out hgrow1 hPlt HOWN.out; have k0 : w1.cell? ⟨M, 0, none⟩ = some (.int .i64 0) := hk 0 (by decide); have k1 : w1.cell? ⟨M, 1, none⟩ = some (.int .i64 0) := hk 1 (by decide); have k2 : w1.cell? ⟨M, 2, none⟩ = some (.int .i64 0) := hk 2 (by decide); have k3 : w1.cell? ⟨M, 3, none⟩ = some (.int .i64 0) := hk 3 (by decide); have k4 : w1.cell? ⟨M, 4, none⟩ = some (.slice none 0 0) := hk 4 (by decide); have k5 : w1.cell? ⟨M, 5, none⟩ = some (.slice none 0 0) := hk 5 (by decide); have kf := hrow1.free; have hMP := hrow1.hPM; have hMP' := Ne.symm hrow1.hPM; have HR1 : Hid (Row w w1 P off N M (0 + 1) cp') := hrow1; clear hrow1 hk hown1 hgrow1 hat1 hlt1))
            all_goals (try go_wp2_with fail)
            all_goals go_meet
            all_goals refine ⟨rfl, M, cp', Row.set (Row.set (Row.set (Row.set (Row.set (Row.set (Row.set (HR1.out) (by first | exact Or.inl ⟨_, rfl⟩ | exact Or.inr rfl)) (by first | exact Or.inl ⟨_, rfl⟩ | exact Or.inr rfl)) (by first | exact Or.inl ⟨_, rfl⟩ | exact Or.inr rfl)) (by first | exact Or.inl ⟨_, rfl⟩ | exact Or.inr rfl)) (by first | exact Or.inl ⟨_, rfl⟩ | exact Or.inr rfl)) (by first | exact Or.inl ⟨_, rfl⟩ | exact Or.inr rfl)) (by first | exact Or.inl ⟨_, rfl⟩ | exact Or.inr rfl), (by go_simp), (by go_simp), (by go_simp), (by go_simp)⟩
          · skip
            go_region_law ((refine step_append_lies _ (by rfl) (.tmp 67) (.tmp 71) 27 (by rfl) w.heap.size 29 i0 (.agg #[.int .i64 0, .int .i64 0, .int .i64 0, .int .i64 0, .slice none 0 0, .slice none 0 0]) 6 80 Ybad.underlying27 hi9 hz0 hz1 hz2 (by rfl) (by decide) (.slice ao 1 cp) 1 xs (by rfl) (by exact HOWN.out.drew.alloc _) ⟨wr.heap.size, 0, none⟩ 1 1 zeroPart (by rfl) (by rfl) (by exact cell_newN _ _ _) (by decide) (by decide) (by unfold maxLen; omega) (by omega) (by simp; omega) (wr.heap.size + 1) (by simp) ?_; intro M cp' w1 hown1 hgrow1 hat1 hlt1; obtain ⟨hrow1, hcp1, hfp1, hk⟩ := row_made HMEM.out hown1 HXL.out hgrow1 hPlt HOWN.out; have k0 : w1.cell? ⟨M, 6, none⟩ = some (.int .i64 0) := hk 0 (by decide); have k1 : w1.cell? ⟨M, 7, none⟩ = some (.int .i64 0) := hk 1 (by decide); have k2 : w1.cell? ⟨M, 8, none⟩ = some (.int .i64 0) := hk 2 (by decide); have k3 : w1.cell? ⟨M, 9, none⟩ = some (.int .i64 0) := hk 3 (by decide); have k4 : w1.cell? ⟨M, 10, none⟩ = some (.slice none 0 0) := hk 4 (by decide); have k5 : w1.cell? ⟨M, 11, none⟩ = some (.slice none 0 0) := hk 5 (by decide); have kf := hrow1.free; have hMP := hrow1.hPM; have hMP' := Ne.symm hrow1.hPM; have HR1 : Hid (Row w w1 P off N M (1 + 1) cp') := hrow1; clear hrow1 hk hown1 hgrow1 hat1 hlt1))
            all_goals (try go_wp2_with fail)
            all_goals go_meet
            all_goals refine ⟨rfl, M, cp', Row.set (Row.set (Row.set (Row.set (Row.set (Row.set (Row.set (HR1.out) (by first | exact Or.inl ⟨_, rfl⟩ | exact Or.inr rfl)) (by first | exact Or.inl ⟨_, rfl⟩ | exact Or.inr rfl)) (by first | exact Or.inl ⟨_, rfl⟩ | exact Or.inr rfl)) (by first | exact Or.inl ⟨_, rfl⟩ | exact Or.inr rfl)) (by first | exact Or.inl ⟨_, rfl⟩ | exact Or.inr rfl)) (by first | exact Or.inl ⟨_, rfl⟩ | exact Or.inr rfl)) (by first | exact Or.inl ⟨_, rfl⟩ | exact Or.inr rfl), (by go_simp), (by go_simp), (by go_simp), (by go_simp)⟩
          · skip
            go_region_law ((refine step_append_lies _ (by rfl) (.tmp 67) (.tmp 71) 27 (by rfl) w.heap.size 29 i0 (.agg #[.int .i64 0, .int .i64 0, .int .i64 0, .int .i64 0, .slice none 0 0, .slice none 0 0]) 6 80 Ybad.underlying27 hi9 hz0 hz1 hz2 (by rfl) (by decide) (.slice ao 2 cp) 2 xs (by rfl) (by exact HOWN.out.drew.alloc _) ⟨wr.heap.size, 0, none⟩ 1 1 zeroPart (by rfl) (by rfl) (by exact cell_newN _ _ _) (by decide) (by decide) (by unfold maxLen; omega) (by omega) (by simp; omega) (wr.heap.size + 1) (by simp) ?_; intro M cp' w1 hown1 hgrow1 hat1 hlt1; obtain ⟨hrow1, hcp1, hfp1, hk⟩ := row_made HMEM.out hown1 HXL.out hgrow1 hPlt HOWN.out; have k0 : w1.cell? ⟨M, 12, none⟩ = some (.int .i64 0) := hk 0 (by decide); have k1 : w1.cell? ⟨M, 13, none⟩ = some (.int .i64 0) := hk 1 (by decide); have k2 : w1.cell? ⟨M, 14, none⟩ = some (.int .i64 0) := hk 2 (by decide); have k3 : w1.cell? ⟨M, 15, none⟩ = some (.int .i64 0) := hk 3 (by decide); have k4 : w1.cell? ⟨M, 16, none⟩ = some (.slice none 0 0) := hk 4 (by decide); have k5 : w1.cell? ⟨M, 17, none⟩ = some (.slice none 0 0) := hk 5 (by decide); have kf := hrow1.free; have hMP := hrow1.hPM; have hMP' := Ne.symm hrow1.hPM; have HR1 : Hid (Row w w1 P off N M (2 + 1) cp') := hrow1; clear hrow1 hk hown1 hgrow1 hat1 hlt1))
            all_goals (try go_wp2_with fail)
            all_goals go_meet
            all_goals refine ⟨rfl, M, cp', Row.set (Row.set (Row.set (Row.set (Row.set (Row.set (Row.set (HR1.out) (by first | exact Or.inl ⟨_, rfl⟩ | exact Or.inr rfl)) (by first | exact Or.inl ⟨_, rfl⟩ | exact Or.inr rfl)) (by first | exact Or.inl ⟨_, rfl⟩ | exact Or.inr rfl)) (by first | exact Or.inl ⟨_, rfl⟩ | exact Or.inr rfl)) (by first | exact Or.inl ⟨_, rfl⟩ | exact Or.inr rfl)) (by first | exact Or.inl ⟨_, rfl⟩ | exact Or.inr rfl)) (by first | exact Or.inl ⟨_, rfl⟩ | exact Or.inr rfl), (by go_simp), (by go_simp), (by go_simp), (by go_simp)⟩
        case rest =>
          obtain ⟨rfl, M, cp', hrow, hmc, hm3, hm4, hm5⟩ := hcut
          have HROW : Hid (Row w wc P off N M (t + 1) cp') := hrow
          have HPT : Hid (Part0 wc M (t * 6) (cp' * 6)) := ⟨hrow.row, by have := hrow.fit.1; omega, hm3, hm4, hm5⟩
          have hRx := hrow.ps
          clear hcm hfm HMEM hrow hm3 hm4 hm5 hPw
          rcases hrest with ⟨hr, hq1, _, hjl⟩ | ⟨hr, hq1, hq2, hq3, hjl⟩
          · -- the last element
            have hEq : E = q + 1 := by rw [← hse, hjl, hq]; simp; have := HVS.out; omega
            have htN : ((t : Int) + 1) = ((e0 :: r0).length : Nat) := by subst hr; simp at htl ⊢; omega
            have hblk : ∀ (wx : World), PS w wx P N → ∀ (x : Int), x = q → Calls Ybad.prog 13 #[.slice (some ⟨g, 0, none⟩) n cap, .int .i64 x] wx fun e' w'' => e' = .returned (.int .i64 q) ∧ w'' = wx := fun wx hb x hx => blank_here (HPE.out wx hb) q hsn (by rw [hq1]; exact cls_notblank true) x hx
            have HBK : Hid (∀ (wx : World), PS w wx P N → ∀ (x : Int), x = q → Calls Ybad.prog 13 #[.slice (some ⟨g, 0, none⟩) n cap, .int .i64 x] wx fun e' w'' => e' = .returned (.int .i64 q) ∧ w'' = wx) := hblk
            have hcq : ∀ (wx : World), PS w wx P N → wx.cell? ⟨g, q, none⟩ = some (.int .u8 125) := fun wx hb => by
              have := (HPE.out wx hb).txt.cell q hsn
              rw [hq1] at this; exact this
            have HCQ : Hid (∀ (wx : World), PS w wx P N → wx.cell? ⟨g, q, none⟩ = some (.int .u8 125)) := hcq
            have HEQ : Hid (E = q + 1) := hEq
            have HTN : Hid (((t : Int) + 1) = ((e0 :: r0).length : Nat)) := htN
            clear hblk hcq hEq hq1 hjl hse hat hel hEl hElP hl hq hr htl hpos htN
            by_cases h34 : c = 34
            · subst h34
              go_wp2_with (first
                | (go_at_call 7; refine ((HKR.out _ hRx).1 _ (by omega)).mono ?_; rintro e' w1 ⟨rfl, hb1⟩; have HROW1 : Hid (Row w w1 P off N M (t + 1) cp') := HROW.out.below hb1; have hR1 := HROW1.out.ps; have HPT1 : Hid (Part0 w1 M (t * 6) (cp' * 6)) := HPT.out.below hb1; have hmc1 := (hb1.cell (p := ⟨P, off + 5, none⟩) HROW.out.ps.lt).trans hmc; obtain ⟨hc3, hcv⟩ := HCL.out w1 hR1)
                | (go_at_call 13; refine ((HKR.out _ hR1).2.1 _ (by omega)).mono ?_; rintro e' w2 ⟨rfl, rfl⟩)
                | (go_at_call 13; refine ((HKR.out _ hR1).2.2 _ (by omega)).mono ?_; rintro e' w2 ⟨rfl, rfl⟩)
                | (go_at_call 7; refine ((HRD.out _ hR1).1 (by simp) _ (by omega)).mono ?_; rintro e' w3 ⟨rfl, hb3⟩; have HROW3 : Hid (Row w w3 P off N M (t + 1) cp') := HROW1.out.below hb3; have hmc3 := (hb3.cell (p := ⟨P, off + 5, none⟩) HROW1.out.ps.lt).trans hmc1; have hz31 := HROW3.out.cellAt (t * 6 + 1) (by have := HROW3.out.fit.1; omega); obtain ⟨y1, hy1⟩ := hz31; have hz32 := HROW3.out.cellAt (t * 6 + 2) (by have := HROW3.out.fit.1; omega); obtain ⟨y2, hy2⟩ := hz32; have hf31 := HROW3.out.free (t * 6 + 1); have hf32 := HROW3.out.free (t * 6 + 2); have HROW5 : Hid (Row w ((w3.setCell ⟨M, t * 6 + 1, none⟩ (.int .i64 v)).setCell ⟨M, t * 6 + 2, none⟩ (.int .i64 q)) P off N M (t + 1) cp') := HROW3.out.setM.setM; have hR3 := HROW5.out.ps; have hcq3 := HCQ.out _ hR3; obtain ⟨z3, hz3⟩ := HROW5.out.len; have hf3 := hR3.free (off + 3))
                | (go_at_call 13; refine (HBK.out _ hR3 _ (by omega)).mono ?_; rintro e' w4 ⟨rfl, rfl⟩))
              go_ret2
              exact ⟨ret_two (by rw [HEQ.out]; omega), hR3.setCell rfl, by rw [World.cell?_setCell_same _ _ _ hz3]; exact congrArg (fun z => some (Value.int .i64 z)) HTN.out⟩
            · have h34' : (c == 34) = false := by simpa using h34
              clear h34
              go_wp2_with (first
                | (go_at_call 7; refine ((HKR.out _ hRx).1 _ (by omega)).mono ?_; rintro e' w1 ⟨rfl, hb1⟩; have HROW1 : Hid (Row w w1 P off N M (t + 1) cp') := HROW.out.below hb1; have hR1 := HROW1.out.ps; have HPT1 : Hid (Part0 w1 M (t * 6) (cp' * 6)) := HPT.out.below hb1; have hmc1 := (hb1.cell (p := ⟨P, off + 5, none⟩) HROW.out.ps.lt).trans hmc; obtain ⟨hc3, hcv⟩ := HCL.out w1 hR1)
                | (go_at_call 13; refine ((HKR.out _ hR1).2.1 _ (by omega)).mono ?_; rintro e' w2 ⟨rfl, rfl⟩)
                | (go_at_call 13; refine ((HKR.out _ hR1).2.2 _ (by omega)).mono ?_; rintro e' w2 ⟨rfl, rfl⟩)
                | (go_at_call 6; refine ((HRD.out _ hR1).2 M (t * 6) (cp' * 6) (HMG.out M HROW.out.hM).1 (HMG.out M HROW.out.hM).2 HPT1.out _ (by omega)).mono ?_; rintro e' w3 ⟨rfl, hb3⟩; have HROW3 : Hid (Row w w3 P off N M (t + 1) cp') := HROW1.out.inner hb3; have hmc3 := (World.cell?_of_block (a := ⟨P, off + 5, none⟩) (hb3.block P HROW1.out.ps.lt HROW.out.hPM)).trans hmc1; have hz31 := HROW3.out.cellAt (t * 6 + 1) (by have := HROW3.out.fit.1; omega); obtain ⟨y1, hy1⟩ := hz31; have hz32 := HROW3.out.cellAt (t * 6 + 2) (by have := HROW3.out.fit.1; omega); obtain ⟨y2, hy2⟩ := hz32; have hf31 := HROW3.out.free (t * 6 + 1); have hf32 := HROW3.out.free (t * 6 + 2); have HROW5 : Hid (Row w ((w3.setCell ⟨M, t * 6 + 1, none⟩ (.int .i64 v)).setCell ⟨M, t * 6 + 2, none⟩ (.int .i64 q)) P off N M (t + 1) cp') := HROW3.out.setM.setM; have hR3 := HROW5.out.ps; have hcq3 := HCQ.out _ hR3; obtain ⟨z3, hz3⟩ := HROW5.out.len; have hf3 := hR3.free (off + 3))
                | (go_at_call 13; refine (HBK.out _ hR3 _ (by omega)).mono ?_; rintro e' w4 ⟨rfl, rfl⟩))
              go_ret2
              exact ⟨ret_two (by rw [HEQ.out]; omega), hR3.setCell rfl, by rw [World.cell?_setCell_same _ _ _ hz3]; exact congrArg (fun z => some (Value.int .i64 z)) HTN.out⟩
          · -- another follows
            match r, hr, htl, hel, hq3, hjl, hse with
            | e' :: r', _, htl, hel, hq3, hjl, hse =>
              obtain ⟨hk2, _, _⟩ := at_rest (o := true) hq3
              have hnk : l.getD (q + 2) 0 = 34 := by simpa [key] using hk2.2 0 (by simp [key])
              have hnl : q + 2 < l.length := by have := hk2.1; simp [key] at this; omega
              have hEq : q + 2 + (join true (e' :: r')).length + 1 = E := by rw [← hse, hjl, hq]; simp; have := HVS.out; omega
              have hblk : ∀ (wx : World), PS w wx P N → (∀ (x : Int), x = q → Calls Ybad.prog 13 #[.slice (some ⟨g, 0, none⟩) n cap, .int .i64 x] wx fun e' w'' => e' = .returned (.int .i64 q) ∧ w'' = wx) ∧
                  (∀ (x : Int), x = ((q + 1 : Nat) : Int) → Calls Ybad.prog 13 #[.slice (some ⟨g, 0, none⟩) n cap, .int .i64 x] wx fun e' w'' => e' = .returned (.int .i64 (q + 1 + 1 : Nat)) ∧ w'' = wx) := fun wx hb =>
                ⟨fun x hx => blank_here (HPE.out wx hb) q hsn (by rw [hq1]; simp [Blank]) x hx, fun x hx => blank_one (HPE.out wx hb) (q + 1) (by omega) (by rw [hq2]; exact sep_blank true) (by rw [show q + 1 + 1 = q + 2 from rfl, hnk]; simp [Blank]) x hx⟩
              have HBK : Hid (∀ (wx : World), PS w wx P N → (∀ (x : Int), x = q → Calls Ybad.prog 13 #[.slice (some ⟨g, 0, none⟩) n cap, .int .i64 x] wx fun e' w'' => e' = .returned (.int .i64 q) ∧ w'' = wx) ∧
                  (∀ (x : Int), x = ((q + 1 : Nat) : Int) → Calls Ybad.prog 13 #[.slice (some ⟨g, 0, none⟩) n cap, .int .i64 x] wx fun e' w'' => e' = .returned (.int .i64 (q + 1 + 1 : Nat)) ∧ w'' = wx)) := hblk
              have hcq : ∀ (wx : World), PS w wx P N → wx.cell? ⟨g, q, none⟩ = some (.int .u8 44) := fun wx hb => by
                have := (HPE.out wx hb).txt.cell q hsn
                rw [hq1] at this; exact this
              have HCQ : Hid (∀ (wx : World), PS w wx P N → wx.cell? ⟨g, q, none⟩ = some (.int .u8 44)) := hcq
              have HNX : Hid (t + 1 + (e' :: r').length = (e0 :: r0).length ∧ (∀ e ∈ e' :: r', ElemOK f e ∧ PtrOK f e) ∧ At l (q + 2) (join true (e' :: r') ++ [125]) ∧ q + 2 + (join true (e' :: r')).length + 1 = E) :=
                ⟨by simp at htl ⊢; omega, fun z hz => hel z (List.mem_cons_of_mem _ hz), hq3, hEq⟩
              have hq2n : q + 2 < n := by omega
              clear hblk hcq hEq hq1 hjl hse hat hel hEl hElP hl hq hr htl hpos hq2 hq3 hk2 hnk hnl
              by_cases h34 : c = 34
              · subst h34
                go_wp2_with (first
                  | (go_at_call 7; refine ((HKR.out _ hRx).1 _ (by omega)).mono ?_; rintro e' w1 ⟨rfl, hb1⟩; have HROW1 : Hid (Row w w1 P off N M (t + 1) cp') := HROW.out.below hb1; have hR1 := HROW1.out.ps; have HPT1 : Hid (Part0 w1 M (t * 6) (cp' * 6)) := HPT.out.below hb1; have hmc1 := (hb1.cell (p := ⟨P, off + 5, none⟩) HROW.out.ps.lt).trans hmc; obtain ⟨hc3, hcv⟩ := HCL.out w1 hR1)
                  | (go_at_call 13; refine ((HKR.out _ hR1).2.1 _ (by omega)).mono ?_; rintro e' w2 ⟨rfl, rfl⟩)
                  | (go_at_call 13; refine ((HKR.out _ hR1).2.2 _ (by omega)).mono ?_; rintro e' w2 ⟨rfl, rfl⟩)
                  | (go_at_call 7; refine ((HRD.out _ hR1).1 (by simp) _ (by omega)).mono ?_; rintro e' w3 ⟨rfl, hb3⟩; have HROW3 : Hid (Row w w3 P off N M (t + 1) cp') := HROW1.out.below hb3; have hmc3 := (hb3.cell (p := ⟨P, off + 5, none⟩) HROW1.out.ps.lt).trans hmc1; have hz31 := HROW3.out.cellAt (t * 6 + 1) (by have := HROW3.out.fit.1; omega); obtain ⟨y1, hy1⟩ := hz31; have hz32 := HROW3.out.cellAt (t * 6 + 2) (by have := HROW3.out.fit.1; omega); obtain ⟨y2, hy2⟩ := hz32; have hf31 := HROW3.out.free (t * 6 + 1); have hf32 := HROW3.out.free (t * 6 + 2); have HROW5 : Hid (Row w ((w3.setCell ⟨M, t * 6 + 1, none⟩ (.int .i64 v)).setCell ⟨M, t * 6 + 2, none⟩ (.int .i64 q)) P off N M (t + 1) cp') := HROW3.out.setM.setM; have hR3 := HROW5.out.ps; have hcq3 := HCQ.out _ hR3; have hmc5 : ((w3.setCell ⟨M, t * 6 + 1, none⟩ (.int .i64 v)).setCell ⟨M, t * 6 + 2, none⟩ (.int .i64 q)).cell? ⟨P, off + 5, none⟩ = some (.slice (some ⟨M, 0, none⟩) (t + 1) cp') := by rw [World.cell?_setCell_other _ _ _ _ (by simp [Ne.symm HROW.out.hPM]), World.cell?_setCell_other _ _ _ _ (by simp [Ne.symm HROW.out.hPM])]; exact hmc3)
                  | (go_at_call 13; refine ((HBK.out _ hR3).1 _ (by omega)).mono ?_; rintro e' w4 ⟨rfl, rfl⟩)
                  | (go_at_call 13; refine ((HBK.out _ hR3).2 _ (by omega)).mono ?_; rintro e' w4 ⟨rfl, rfl⟩))
                go_roundw
                case rel => exact ⟨q + 2, t + 1, _, by go_num, by go_num, HNX.out.1, by simp, HNX.out.2.1, HNX.out.2.2.1, HNX.out.2.2.2, _, _, HROW5.out.mem hmc5⟩
                case measure => simp [intOf]; omega
              · have h34' : (c == 34) = false := by simpa using h34
                clear h34
                go_wp2_with (first
                  | (go_at_call 7; refine ((HKR.out _ hRx).1 _ (by omega)).mono ?_; rintro e' w1 ⟨rfl, hb1⟩; have HROW1 : Hid (Row w w1 P off N M (t + 1) cp') := HROW.out.below hb1; have hR1 := HROW1.out.ps; have HPT1 : Hid (Part0 w1 M (t * 6) (cp' * 6)) := HPT.out.below hb1; have hmc1 := (hb1.cell (p := ⟨P, off + 5, none⟩) HROW.out.ps.lt).trans hmc; obtain ⟨hc3, hcv⟩ := HCL.out w1 hR1)
                  | (go_at_call 13; refine ((HKR.out _ hR1).2.1 _ (by omega)).mono ?_; rintro e' w2 ⟨rfl, rfl⟩)
                  | (go_at_call 13; refine ((HKR.out _ hR1).2.2 _ (by omega)).mono ?_; rintro e' w2 ⟨rfl, rfl⟩)
                  | (go_at_call 6; refine ((HRD.out _ hR1).2 M (t * 6) (cp' * 6) (HMG.out M HROW.out.hM).1 (HMG.out M HROW.out.hM).2 HPT1.out _ (by omega)).mono ?_; rintro e' w3 ⟨rfl, hb3⟩; have HROW3 : Hid (Row w w3 P off N M (t + 1) cp') := HROW1.out.inner hb3; have hmc3 := (World.cell?_of_block (a := ⟨P, off + 5, none⟩) (hb3.block P HROW1.out.ps.lt HROW.out.hPM)).trans hmc1; have hz31 := HROW3.out.cellAt (t * 6 + 1) (by have := HROW3.out.fit.1; omega); obtain ⟨y1, hy1⟩ := hz31; have hz32 := HROW3.out.cellAt (t * 6 + 2) (by have := HROW3.out.fit.1; omega); obtain ⟨y2, hy2⟩ := hz32; have hf31 := HROW3.out.free (t * 6 + 1); have hf32 := HROW3.out.free (t * 6 + 2); have HROW5 : Hid (Row w ((w3.setCell ⟨M, t * 6 + 1, none⟩ (.int .i64 v)).setCell ⟨M, t * 6 + 2, none⟩ (.int .i64 q)) P off N M (t + 1) cp') := HROW3.out.setM.setM; have hR3 := HROW5.out.ps; have hcq3 := HCQ.out _ hR3; have hmc5 : ((w3.setCell ⟨M, t * 6 + 1, none⟩ (.int .i64 v)).setCell ⟨M, t * 6 + 2, none⟩ (.int .i64 q)).cell? ⟨P, off + 5, none⟩ = some (.slice (some ⟨M, 0, none⟩) (t + 1) cp') := by rw [World.cell?_setCell_other _ _ _ _ (by simp [Ne.symm HROW.out.hPM]), World.cell?_setCell_other _ _ _ _ (by simp [Ne.symm HROW.out.hPM])]; exact hmc3)
                  | (go_at_call 13; refine ((HBK.out _ hR3).1 _ (by omega)).mono ?_; rintro e' w4 ⟨rfl, rfl⟩)
                  | (go_at_call 13; refine ((HBK.out _ hR3).2 _ (by omega)).mono ?_; rintro e' w4 ⟨rfl, rfl⟩))
                go_roundw
                case rel => exact ⟨q + 2, t + 1, _, by go_num, by go_num, HNX.out.1, by simp, HNX.out.2.1, HNX.out.2.2.1, HNX.out.2.2.2, _, _, HROW5.out.mem hmc5⟩
                case measure => simp [intOf]; omega
end Go.Proofs.YbulkxxiDoor
