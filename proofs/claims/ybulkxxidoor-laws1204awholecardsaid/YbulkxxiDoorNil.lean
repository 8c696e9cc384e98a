/-
  skipContainer where nothing is recorded (p is nil).
-/
import Derived.Test.YbulkxxiDoorVal
namespace Go.Proofs.YbulkxxiDoor
open Go.RowKit
set_option linter.unusedVariables false

/-- What every reader asks of the world: the text, the two tables. -/
structure Env (w : World) (g n : Nat) (l : List Int) : Prop where
  txt : Txt w g n l
  hg : g < w.heap.size
  hg2 : 2 < w.heap.size
  tab : Tab w
  sp : Sp w
theorem Env.below {w w' : World} {g n : Nat} {l : List Int} (h : Env w g n l) (hb : Below w.heap.size w w') : Env w' g n l :=
  ⟨h.txt.below hb h.hg, Nat.lt_of_lt_of_le h.hg hb.size, Nat.lt_of_lt_of_le h.hg2 hb.size, h.tab.below hb h.hg2, h.sp.below hb (by have := h.hg2; omega)⟩

/-- skipValue reads e whole, wherever it stands; nothing is recorded. -/
def NilOK (f : Nat) (e : List Int) : Prop := ∀ (g n cap v : Nat) (x d : Int) (l : List Int) (w : World), Env w g n l → n ≤ cap → x = v → 0 ≤ d → d + f ≤ 100 → At l v e → Ends l (v + e.length) →
  Calls Ybad.prog 6 #[.slice (some ⟨g, 0, none⟩) n cap, .int .i64 x, .int .i64 d, .pointer none] w fun e' w' => e' = .returned (.tuple #[.int .i64 (v + e.length : Nat), .bool true]) ∧ Below w.heap.size w w'

structure ElemOK (f : Nat) (e : List Int) : Prop where
  pos : 0 < e.length
  head : GoodHead (headOf e)
  str : headOf e = 34 → tailOK e.tail = true
  ok : NilOK f e

theorem blank_here {w : World} {g n cap : Nat} {l : List Int} (h : Env w g n l) (j : Nat) (hj : j < n) (hb : ¬ Blank (l.getD j 0)) (x : Int) (hx : x = j) :
    Calls Ybad.prog 13 #[.slice (some ⟨g, 0, none⟩) n cap, .int .i64 x] w fun e w' => e = .returned (.int .i64 j) ∧ w' = w :=
  blanks_any g n cap j j x hx l w h.txt (Nat.le_refl _) (by omega) (fun t a b => by omega) (fun _ => hb)
theorem blank_one {w : World} {g n cap : Nat} {l : List Int} (h : Env w g n l) (j : Nat) (hj : j + 1 < n) (h1 : Blank (l.getD j 0)) (hb : ¬ Blank (l.getD (j + 1) 0)) (x : Int) (hx : x = j) :
    Calls Ybad.prog 13 #[.slice (some ⟨g, 0, none⟩) n cap, .int .i64 x] w fun e w' => e = .returned (.int .i64 (j + 1 : Nat)) ∧ w' = w :=
  blanks_any g n cap j (j + 1) x hx l w h.txt (by omega) (by omega) (fun t a b => by rw [show t = j by omega]; exact h1) (fun _ => hb)

/-- What stands behind an element. -/
theorem at_rest {o : Bool} {l : List Int} {s : Nat} {e : List Int} {r : List (List Int)} (h : At l s (join o (e :: r) ++ [cls o])) :
    At l s (key o) ∧ At l (s + (key o).length) e ∧
    ((r = [] ∧ l.getD (s + (key o).length + e.length) 0 = cls o ∧ s + (key o).length + e.length < l.length ∧ (join o (e :: r)).length = (key o).length + e.length) ∨
     (r ≠ [] ∧ l.getD (s + (key o).length + e.length) 0 = 44 ∧ l.getD (s + (key o).length + e.length + 1) 0 = sep o ∧ At l (s + (key o).length + e.length + 2) (join o r ++ [cls o]) ∧ (join o (e :: r)).length = (key o).length + e.length + 2 + (join o r).length)) := by
  match r with
  | [] =>
    rw [join, List.append_assoc, at_append, at_append] at h
    obtain ⟨h1, h2, h3⟩ := h
    obtain ⟨⟨h4, h5⟩, _⟩ := at_cons.1 h3
    exact ⟨h1, h2, .inl ⟨rfl, h5, h4, by simp [join]⟩⟩
  | e' :: r =>
    rw [join, List.append_assoc, List.append_assoc, List.append_assoc, at_append, at_append] at h
    obtain ⟨h1, h2, h3⟩ := h
    rw [List.cons_append, List.cons_append, List.nil_append] at h3
    obtain ⟨⟨h4, h5⟩, h6⟩ := at_cons.1 h3
    obtain ⟨⟨h7, h8⟩, h9⟩ := at_cons.1 h6
    refine ⟨h1, h2, .inr ⟨by simp, h5, h8, h9, ?_⟩⟩
    simp only [join, List.length_append, List.length_cons, List.length_nil]

theorem sep_blank (o : Bool) : Blank (sep o) := by cases o <;> simp [sep, Blank]
theorem delim_cls (o : Bool) : Delim (cls o) := by cases o <;> simp [cls, Delim]
theorem delim_comma : Delim 44 := .inl rfl
theorem cls_notblank (o : Bool) : ¬ Blank (cls o) := by cases o <;> simp [cls, Blank]

set_option maxHeartbeats 8000000 in
set_option maxRecDepth 100000 in
theorem arr_nil (f : Nat) (els : List (List Int)) (hel : ∀ e ∈ els, ElemOK f e) (hlen : els.length ≤ 3) (g n cap i : Nat) (x d : Int) (l : List Int) (w : World) (he : Env w g n l) (hcap : n ≤ cap) (hx : x = i) (hd0 : 0 ≤ d) (hd : d + (f + 1) ≤ 100)
    (hat : At l i (cont false els)) :
    Calls Ybad.prog 8 #[.slice (some ⟨g, 0, none⟩) n cap, .int .i64 x, .int .i64 d, .pointer none] w fun e' w' => e' = .returned (.tuple #[.int .i64 (i + (cont false els).length : Nat), .bool true]) ∧ Below w.heap.size w w' := by
  subst hx
  have hbig := he.txt.big
  have hln := he.txt.len
  obtain ⟨⟨hi, hi0⟩, hat1⟩ := at_cons.1 hat
  have c0 := he.txt.cell i (by omega)
  rw [hi0] at c0
  have c0' : w.cell? ⟨g, i, none⟩ = some (.int .u8 91) := c0
  have hiI : (i : Int) < (n : Int) := by omega
  have hd1 : (d == 10000) = false := by simp; omega
  have HE : Hid (Env w g n l) := he
  have HL : Hid (l.length = n) := hln
  obtain ⟨E, hE⟩ : ∃ E, E = i + (cont false els).length := ⟨_, rfl⟩
  rw [← hE]
  have HEq : Hid (E = i + (cont false els).length) := hE
  have HAT : Hid (At l (i + 1) (join false els ++ [93])) := hat1
  have HEL : Hid (∀ e ∈ els, ElemOK f e) := hel
  clear he hln hat hat1 hi0 hE hi c0 hel
  match els, hlen, HAT, HEL, HEq with
  | [], _, HAT, HEL, HEq =>
    obtain ⟨⟨h1, h2⟩, _⟩ := at_cons.1 HAT.out
    have hl := HL.out
    have c1 := HE.out.txt.cell (i + 1) (by omega)
    rw [h2] at c1
    have hb1 := blank_here (cap := cap) HE.out (i + 1) (by omega) (by rw [h2]; simp [Blank])
    have HB1 : Hid (∀ (x : Int), x = ((i + 1 : Nat) : Int) → Calls Ybad.prog 13 #[.slice (some ⟨g, 0, none⟩) n cap, .int .i64 x] w fun e w' => e = .returned (.int .i64 (i + 1 : Nat)) ∧ w' = w) := hb1
    have hiI1 : (i : Int) + 1 < (n : Int) := by omega
    have hEe : E = i + 2 := HEq.out
    have HEe : Hid (E = i + 2) := hEe
    clear h1 h2 hl hb1 hEe HEq
    go_enter Ybad.func8, Ybad.ntmps8
    go_wp2_with (go_at_call 13; refine (HB1.out _ (by omega)).mono ?_; rintro e w' ⟨rfl, rfl⟩)
    go_ret2
    exact ⟨ret_two (by rw [HEe.out]; omega), Below.refl _ _⟩
  | e0 :: r0, hlen, HAT, HEL, HEq =>
    have hl := HL.out
    obtain ⟨_, hat0, _⟩ := at_rest (o := false) HAT.out
    have hat0' : At l (i + 1) e0 := hat0
    obtain ⟨hi1, hh1⟩ := at_head hat0' (HEL.out e0 (by simp)).pos
    have hgh := (HEL.out e0 (by simp)).head
    rw [← hh1] at hgh
    have c1 := HE.out.txt.cell (i + 1) (by omega)
    have hb1 := blank_here (cap := cap) HE.out (i + 1) (by omega) hgh.1
    have HB1 : Hid (∀ (x : Int), x = ((i + 1 : Nat) : Int) → Calls Ybad.prog 13 #[.slice (some ⟨g, 0, none⟩) n cap, .int .i64 x] w fun e w' => e = .returned (.int .i64 (i + 1 : Nat)) ∧ w' = w) := hb1
    have hiI1 : (i : Int) + 1 < (n : Int) := by omega
    obtain ⟨c, hcd⟩ : ∃ c, c = l.getD (i + 1) 0 := ⟨_, rfl⟩
    rw [← hcd] at c1 hgh
    have hc93 : (c == 93) = false := by simpa using hgh.2.1
    clear hat0 hat0' hi1 hh1 hgh hb1 hcd hl
    go_enter Ybad.func8, Ybad.ntmps8
    go_wp2_with (go_at_call 13; refine (HB1.out _ (by omega)).mono ?_; rintro e w' ⟨rfl, rfl⟩)
    go_loopw [1, 12] (fun si sn wr => ∃ (s t : Nat) (rest : List (List Int)), si = .int .i64 s ∧ sn = .int .i64 t ∧ t + rest.length ≤ 3 ∧ rest ≠ [] ∧ (∀ e ∈ rest, ElemOK f e) ∧ At l s (join false rest ++ [93]) ∧ s + (join false rest).length + 1 = E ∧ Below w'.heap.size w' wr)
      (fun si _ _ => n + 1 - (intOf si).toNat)
    case atStart => exact ⟨i + 1, 0, e0 :: r0, by go_num, rfl, by simpa using hlen, by simp, HEL.out, HAT.out, by rw [HEq.out]; simp [cont]; omega, Below.refl _ _⟩
    case round =>
      clear HB1 c1 hc93 hiI1 hlen HEL HAT HEq
      obtain ⟨s, t, rest, rfl, rfl, htl, hne, hel, hat, hse, hbx⟩ := hrel
      match rest, hne, htl, hel, hat, hse with
      | e :: r, _, htl, hel, hat, hse =>
        have hEl := hel e (by simp)
        obtain ⟨_, hate, hrest⟩ := at_rest (o := false) hat
        have hate' : At l s e := hate
        obtain ⟨hs1, hh⟩ := at_head hate' hEl.pos
        have hl := HL.out
        have hsn : s + e.length < n := by
          rcases hrest with ⟨_, _, h, _⟩ | ⟨_, _, _, h, _⟩
          · have h' : s + e.length < l.length := h
            omega
          · have h' := h.1
            simp at h'
            have h'' : s + e.length + 2 ≤ l.length := by
              have : (key false).length = 0 := rfl
              omega
            omega
        have hpos := hEl.pos
        have hev := HE.out.below hbx
        have cs := hev.txt.cell s (by omega)
        rw [hh] at cs
        have hsI : (s : Int) < (n : Int) := by omega
        have hqI : (s : Int) + (e.length : Int) < (n : Int) := by omega
        have hends : Ends l (s + e.length) := by
          intro _
          rcases hrest with ⟨_, h, _⟩ | ⟨_, h, _⟩
          · have h' : l.getD (s + e.length) 0 = 93 := h
            rw [h']; exact delim_cls false
          · have h' : l.getD (s + e.length) 0 = 44 := h
            rw [h']; exact delim_comma
        have HEV : Hid (Env wr g n l) := hev
        obtain ⟨q, hq⟩ : ∃ q, q = s + e.length := ⟨_, rfl⟩
        rw [← hq] at hends hsn
        -- the element itself
        obtain ⟨c, hcd⟩ : ∃ c, c = headOf e := ⟨_, rfl⟩
        rw [← hcd] at cs
        have hread : (c = 34 → ∀ (x : Int), x = s → Calls Ybad.prog 7 #[.slice (some ⟨g, 0, none⟩) n cap, .int .i64 x] wr fun e' w' => e' = .returned (.tuple #[.int .i64 q, .bool true]) ∧ Below wr.heap.size wr w') ∧
            (∀ (x d' : Int), x = s → d' = d + 1 → Calls Ybad.prog 6 #[.slice (some ⟨g, 0, none⟩) n cap, .int .i64 x, .int .i64 d', .pointer none] wr fun e' w' => e' = .returned (.tuple #[.int .i64 q, .bool true]) ∧ Below wr.heap.size wr w') := by
          refine ⟨fun h34 x hx => ?_, fun x d' hx hd' => ?_⟩
          · have hev := HEV.out
            exact string_any g n cap s q x hx l wr hev.txt hcap hev.hg hev.hg2 hev.tab hev.sp (by omega) (by omega) (by rw [hq]; exact at_tail_ok hate' hpos (hEl.str (by rw [← hcd]; exact h34)))
          · rw [hq]
            exact hEl.ok g n cap s x d' l wr HEV.out hcap hx (by omega) (by omega) hate' (by rw [← hq]; exact hends)
        have HRD : Hid ((c = 34 → ∀ (x : Int), x = s → Calls Ybad.prog 7 #[.slice (some ⟨g, 0, none⟩) n cap, .int .i64 x] wr fun e' w' => e' = .returned (.tuple #[.int .i64 q, .bool true]) ∧ Below wr.heap.size wr w') ∧
            (∀ (x d' : Int), x = s → d' = d + 1 → Calls Ybad.prog 6 #[.slice (some ⟨g, 0, none⟩) n cap, .int .i64 x, .int .i64 d', .pointer none] wr fun e' w' => e' = .returned (.tuple #[.int .i64 q, .bool true]) ∧ Below wr.heap.size wr w')) := hread
        have hsq : s < q := by omega
        rcases hrest with ⟨hr, hq1, _, hjl⟩ | ⟨hr, hq1, hq2, hq3, hjl⟩
        · -- the last element
          have hqc : l.getD q 0 = 93 := by rw [hq]; exact hq1
          have hEq : E = q + 1 := by rw [← hse, hjl, hq]; simp [key]
          have hblk : ∀ (wx : World), Below w'.heap.size w' wx → ∀ (x : Int), x = q → Calls Ybad.prog 13 #[.slice (some ⟨g, 0, none⟩) n cap, .int .i64 x] wx fun e' w'' => e' = .returned (.int .i64 q) ∧ w'' = wx := fun wx hb x hx => blank_here (HE.out.below hb) q hsn (by rw [hqc]; exact cls_notblank false) x hx
          have HBK : Hid (∀ (wx : World), Below w'.heap.size w' wx → ∀ (x : Int), x = q → Calls Ybad.prog 13 #[.slice (some ⟨g, 0, none⟩) n cap, .int .i64 x] wx fun e' w'' => e' = .returned (.int .i64 q) ∧ w'' = wx) := hblk
          have hcq : ∀ (wx : World), Below w'.heap.size w' wx → wx.cell? ⟨g, q, none⟩ = some (.int .u8 93) := fun wx hb => by rw [← hqc]; exact (HE.out.below hb).txt.cell q hsn
          have HCQ : Hid (∀ (wx : World), Below w'.heap.size w' wx → wx.cell? ⟨g, q, none⟩ = some (.int .u8 93)) := hcq
          have HEQ : Hid (E = q + 1) := hEq
          have hqn : (q : Int) < (n : Int) := by omega
          clear hread hblk hcq hEq hqc hq1 hjl hse hat hel hEl hate hate' hs1 hh hl hev hends hcd hq HEV hr htl hqI hpos
          by_cases h34 : c = 34
          · subst h34
            go_wp2_with (first
              | (go_at_call 7; refine (HRD.out.1 rfl _ rfl).mono ?_; rintro e' w1 ⟨rfl, hb1⟩; have hbw : Below w'.heap.size w' w1 := hbx.trans (hb1.mono hbx.size); have hcq1 := HCQ.out w1 hbw)
              | (go_at_call 13; refine (HBK.out _ hbw _ rfl).mono ?_; rintro e' w2 ⟨rfl, rfl⟩))
            go_ret2
            exact ⟨ret_two (by rw [HEQ.out]; omega), hbw⟩
          · have h34' : (c == 34) = false := by simpa using h34
            clear h34
            go_wp2_with (first
              | (go_at_call 6; refine (HRD.out.2 _ _ rfl rfl).mono ?_; rintro e' w1 ⟨rfl, hb1⟩; have hbw : Below w'.heap.size w' w1 := hbx.trans (hb1.mono hbx.size); have hcq1 := HCQ.out w1 hbw)
              | (go_at_call 13; refine (HBK.out _ hbw _ rfl).mono ?_; rintro e' w2 ⟨rfl, rfl⟩))
            go_ret2
            exact ⟨ret_two (by rw [HEQ.out]; omega), hbw⟩
        · -- another follows
          match r, hr, htl, hel, hq3, hjl, hse with
          | e' :: r', _, htl, hel, hq3, hjl, hse =>
            have hqc : l.getD q 0 = 44 := by rw [hq]; exact hq1
            have hqs : l.getD (q + 1) 0 = 32 := by rw [hq]; exact hq2
            have hq3' : At l (q + 2) (join false (e' :: r') ++ [93]) := by rw [hq]; exact hq3
            obtain ⟨_, hate2, _⟩ := at_rest (o := false) hq3'
            have hate2' : At l (q + 2) e' := hate2
            have hEl2 := hel e' (by simp)
            obtain ⟨hs2, hh2⟩ := at_head hate2' hEl2.pos
            have hEq : q + 2 + (join false (e' :: r')).length + 1 = E := by rw [← hse, hjl, hq]; simp [key]; omega
            have hblk : ∀ (wx : World), Below w'.heap.size w' wx → (∀ (x : Int), x = q → Calls Ybad.prog 13 #[.slice (some ⟨g, 0, none⟩) n cap, .int .i64 x] wx fun e' w'' => e' = .returned (.int .i64 q) ∧ w'' = wx) ∧
                (∀ (x : Int), x = ((q + 1 : Nat) : Int) → Calls Ybad.prog 13 #[.slice (some ⟨g, 0, none⟩) n cap, .int .i64 x] wx fun e' w'' => e' = .returned (.int .i64 (q + 1 + 1 : Nat)) ∧ w'' = wx) := fun wx hb =>
              ⟨fun x hx => blank_here (HE.out.below hb) q hsn (by rw [hqc]; simp [Blank]) x hx, fun x hx => blank_one (HE.out.below hb) (q + 1) (by omega) (by rw [hqs]; simp [Blank]) (by rw [show q + 1 + 1 = q + 2 from rfl, hh2]; exact hEl2.head.1) x hx⟩
            have HBK : Hid (∀ (wx : World), Below w'.heap.size w' wx → (∀ (x : Int), x = q → Calls Ybad.prog 13 #[.slice (some ⟨g, 0, none⟩) n cap, .int .i64 x] wx fun e' w'' => e' = .returned (.int .i64 q) ∧ w'' = wx) ∧
                (∀ (x : Int), x = ((q + 1 : Nat) : Int) → Calls Ybad.prog 13 #[.slice (some ⟨g, 0, none⟩) n cap, .int .i64 x] wx fun e' w'' => e' = .returned (.int .i64 (q + 1 + 1 : Nat)) ∧ w'' = wx)) := hblk
            have hcq : ∀ (wx : World), Below w'.heap.size w' wx → wx.cell? ⟨g, q, none⟩ = some (.int .u8 44) := fun wx hb => by rw [← hqc]; exact (HE.out.below hb).txt.cell q hsn
            have HCQ : Hid (∀ (wx : World), Below w'.heap.size w' wx → wx.cell? ⟨g, q, none⟩ = some (.int .u8 44)) := hcq
            have HNX : Hid (t + 1 + (e' :: r').length ≤ 3 ∧ (∀ e ∈ e' :: r', ElemOK f e) ∧ At l (q + 2) (join false (e' :: r') ++ [93]) ∧ q + 2 + (join false (e' :: r')).length + 1 = E) :=
              ⟨by simp at htl ⊢; omega, fun z hz => hel z (List.mem_cons_of_mem _ hz), hq3', hEq⟩
            have hqn : (q : Int) < (n : Int) := by omega
            have ht3 : t ≤ 3 := by simp at htl; omega
            have hq2n : q + 2 < n := by omega
            clear hread hblk hcq hEq hqc hq1 hjl hse hat hel hEl hate hate' hs1 hh hl hev hends hcd hq HEV hr htl hqI hpos hqs hq2 hq3 hq3' hate2 hate2' hEl2 hs2 hh2
            by_cases h34 : c = 34
            · subst h34
              go_wp2_with (first
                | (go_at_call 7; refine (HRD.out.1 rfl _ rfl).mono ?_; rintro e' w1 ⟨rfl, hb1⟩; have hbw : Below w'.heap.size w' w1 := hbx.trans (hb1.mono hbx.size); have hcq1 := HCQ.out w1 hbw)
                | (go_at_call 13; refine ((HBK.out _ hbw).1 _ (by omega)).mono ?_; rintro e' w2 ⟨rfl, rfl⟩)
                | (go_at_call 13; refine ((HBK.out _ hbw).2 _ (by omega)).mono ?_; rintro e' w2 ⟨rfl, rfl⟩))
              go_roundw
              case rel => exact ⟨q + 2, t + 1, _, by go_num, by go_num, HNX.out.1, by simp, HNX.out.2.1, HNX.out.2.2.1, HNX.out.2.2.2, hbw⟩
              case measure => simp [intOf]; omega
            · have h34' : (c == 34) = false := by simpa using h34
              clear h34
              go_wp2_with (first
                | (go_at_call 6; refine (HRD.out.2 _ _ rfl rfl).mono ?_; rintro e' w1 ⟨rfl, hb1⟩; have hbw : Below w'.heap.size w' w1 := hbx.trans (hb1.mono hbx.size); have hcq1 := HCQ.out w1 hbw)
                | (go_at_call 13; refine ((HBK.out _ hbw).1 _ (by omega)).mono ?_; rintro e' w2 ⟨rfl, rfl⟩)
                | (go_at_call 13; refine ((HBK.out _ hbw).2 _ (by omega)).mono ?_; rintro e' w2 ⟨rfl, rfl⟩))
              go_roundw
              case rel => exact ⟨q + 2, t + 1, _, by go_num, by go_num, HNX.out.1, by simp, HNX.out.2.1, HNX.out.2.2.1, HNX.out.2.2.2, hbw⟩
              case measure => simp [intOf]; omega
end Go.Proofs.YbulkxxiDoor
