/-
  THE LAW's WALK.
-/
import Derived.Test.YbulkxyyAfter
import Derived.Test.YbulkxyyEq
import Derived.OwnWalk
import Derived.Below
namespace Go.Proofs.Ybulkxyy
open Go.RowKit Go.Maps Go.WideMaps Go.WideElems
set_option linter.unusedVariables false

/-- Key number j. -/
def keyN (ss : List ByteArray) (j : Nat) : Lit := .string (ss.getD j ByteArray.empty).data.toList
/-- The first t keys stand in the map. -/
def Filled (ss : List ByteArray) (t : Nat) (D : DataW Unit) : Prop := ∀ j, j < t → Maps.has D (keyN ss j) = true
theorem Filled.put {ss : List ByteArray} {t : Nat} {D : DataW Unit} (h : Filled ss t D) (hD : IsMap D) (d : DataW Unit) : Filled ss (t + 1) (D.put (keyN ss t) d) := fun j hj => by
  by_cases he : keyN ss j = keyN ss t
  · rw [he]; exact has_put_same hD (by simp [WideAt.IsKeyLit, keyN]) d
  · rw [has_put_other he]
    refine h j ?_
    rcases Nat.lt_or_ge j t with h1 | h1
    · exact h1
    · exact absurd (congrArg (keyN ss) (show j = t by omega)) he

theorem ptrOf_pointer (d : DataW Unit) : ∃ x, ptrOf d = .pointer x := by
  unfold ptrOf
  split <;> exact ⟨_, rfl⟩
/-- The first u values are those in the map. -/
def Vals (ss : List ByteArray) (D : DataW Unit) (u : Nat) (xs : List Value) : Prop := ∀ j, j < u → xs[j]? = some (ptrOf (D.atKey (keyN ss j) .nil))
theorem Vals.set {ss : List ByteArray} {D : DataW Unit} {u : Nat} {xs : List Value} (h : Vals ss D u xs) (hu : u < xs.length) : Vals ss D (u + 1) (xs.set u (ptrOf (D.atKey (keyN ss u) .nil))) := fun j hj => by
  rw [List.getElem?_set]
  split
  · rename_i e
    subst e
    simp
  · exact h j (by omega)
theorem gone (D : DataW Unit) (k0 k1 k : Lit) (h : k = k0 ∨ k = k1) : Maps.has ((D.del k0).del k1) k = false := by
  by_cases h1 : k = k1
  · rw [h1]; exact has_del_same
  · rw [has_del_other h1]
    rcases h with h | h
    · rw [h]; exact has_del_same
    · exact absurd h h1
theorem kept_has (D : DataW Unit) (k0 k1 k : Lit) (h0 : k ≠ k0) (h1 : k ≠ k1) : Maps.has ((D.del k0).del k1) k = Maps.has D k := by rw [has_del_other h1, has_del_other h0]
theorem kept_at (D : DataW Unit) (k0 k1 k : Lit) (h0 : k ≠ k0) (h1 : k ≠ k1) : ((D.del k0).del k1).atKey k .nil = D.atKey k .nil := by rw [atKey_del_other h1, atKey_del_other h0]
theorem key_ne {s t : ByteArray} (h : (s.toList == t.toList) = false) : (Lit.string s.data.toList) ≠ .string t.data.toList := by
  intro e
  rw [ByteArray.toList_eq, ByteArray.toList_eq] at h
  simp at e
  rw [e] at h
  simp at h
theorem key_eq {s t : ByteArray} (h : (s.toList == t.toList) = true) : s = t := by
  rw [ByteArray.toList_eq, ByteArray.toList_eq] at h
  exact WideShapes.bytes_inj (by simpa using h)
theorem info24 : (Yba.prog.info? 24).map (fun i => (i.zero, i.size, i.bytes)) = some (some (.pointer none), 1, 8) := by kernel_rfl

set_option maxHeartbeats 8000000 in
set_option maxRecDepth 100000 in
theorem walk_in (a : Option Addr) (n cap : Nat) (ss : List ByteArray) (p0 p1 : Int) (o0 o1 : ByteArray) (ut : Bool) (w : World) (hk : Keys w w.heap.size a n ss) (hn : n ≤ 1024) (hp0 : 0 ≤ p0) (hp0' : p0 ≤ 255) (hp1 : 0 ≤ p1) (hp1' : p1 ≤ 255) (ho0 : o0.size ≤ maxLen) (ho1 : o1.size ≤ maxLen) :
    Calls Yba.prog 3 #[.slice a n cap, .int .u8 p0, .int .u8 p1, .string o0, .string o1, .bool ut] w fun e w' => e = .returned (.bool true) ∧ Below w.heap.size w w' := by
  obtain ⟨N, hN⟩ : ∃ N, w.heap.size = N := ⟨_, rfl⟩
  have d1 : decide ((1024 : Int) < n) = false := decide_eq_false (by omega)
  have HK : Hid (Keys w N a n ss) := by rw [← hN]; exact hk
  have hmm := @run_makeMap Yba.prog
  have HB : Hid (Below N w (w.alloc (.map #[] 0))) := (Below.refl N w).alloc (Nat.le_of_eq hN.symm) _
  have HM : Hid (Own (w.alloc (.map #[] 0)) N 0 (.map [])) := by rw [← hN]; exact World.ownsMap_made w Yba.prog 9 ptrElem
  have HS0 : Hid (N < (w.alloc (.map #[] 0)).heap.size) := by rw [← hN]; show _ < (w.heap.push _).size; rw [Array.size_push]; exact Nat.lt_succ_self _
  rw [hN]
  clear hk
  go_enter Yba.func3, Yba.ntmps3
  go_wp2_with fail
  go_loopw [39] (fun i wr => ∃ (t : Nat) (D : DataW Unit), t ≤ n ∧ i = .int .i64 t ∧ Own wr N t D ∧ Below N w wr ∧ N < wr.heap.size ∧ Filled ss t D) (fun i _ => n - (intOf i).toNat)
  case atStart => exact ⟨0, .map [], by omega, rfl, HM.out, HB.out, HS0.out, fun j hj => absurd hj (Nat.not_lt_zero j)⟩
  case round =>
    obtain ⟨t, D, ht, rfl, hown, hbel, hsz, hfil⟩ := hrel
    have HO : Hid (Own wr N t D) := hown
    have HBr : Hid (Below N w wr) := hbel
    have HF : Hid (Filled ss t D) := hfil
    clear hown hbel hfil
    by_cases htn : t < n
    · obtain ⟨kb, off, rfl, hbB, hc⟩ := (HK.out.below HBr.out).2 (by omega)
      have hcj := hc t htn
      have hs := HK.out.1 t
      obtain ⟨s, hsd⟩ : ∃ s, s = ss.getD t ByteArray.empty := ⟨_, rfl⟩
      rw [← hsd] at hcj hs
      have HSD : Hid (s = ss.getD t ByteArray.empty) := hsd
      have HZ : Hid (s.size ≤ maxLen) := hs
      have htI : (t : Int) < (n : Int) := by omega
      clear hc hsd hs
      go_wp2_with (at_mapUpdate; refine put _ rfl (.tmp 43) (.tmp 44) (.tmp 47) rfl N t D rfl (HO.out.alloc _) (by unfold maxLen; omega) s rfl HZ.out _ rfl ?_; intro w1 hown1 hgrow1)
      go_roundw
      case rel => exact ⟨t + 1, _, by omega, by go_num, hown1, (HBr.out.alloc (by omega) _).grown hgrow1 (by simp; omega) (fun k hk => by cases hk; exact Nat.le_refl _), Nat.lt_of_lt_of_le (by simp; omega) hgrow1.size, by rw [HSD.out]; exact HF.out.put HO.out.isMap _⟩
      case measure => simp [intOf]; omega
    · obtain rfl : t = n := by omega
      obtain ⟨V, hV⟩ : ∃ V, wr.heap.size = V := ⟨_, rfl⟩
      obtain ⟨i0, hi, hz0, hz1, hz2⟩ := info_parts info24
      rw [hV] at hsz
      go_wp2_with (at_make; refine wpList_make_full _ rfl _ _ 35 rfl V 24 i0 (.pointer none) 1 Yba.underlying35 hi hz0 hz1 _ _ _ _ t rfl rfl rfl rfl (by rw [hz2]; omega) (by unfold maxLen; omega) (Nat.le_of_eq hV.symm) ?_; intro w2 hown2 hgrow2)
      rw [hV] at hown2
      have hbel2 : Below N w w2 := HBr.out.grown hgrow2 (by omega) (fun k hk => by cases hk)
      have hownm2 : Own w2 N t D := HO.out.kept hgrow2 (by simp)
      have hsz2 : V < w2.heap.size := by
        rcases hown2.2 with ⟨h, _⟩ | ⟨g, _, _, h, _, hg, _⟩
        · simp at h
        · simp at h; rw [← h.1] at hg; exact (Array.getElem?_eq_some_iff.1 hg).1
      clear HO HBr hgrow2 hV hi hz0 hz1 hz2 htn
      go_loopw [54] (fun i wr => ∃ (u : Nat) (xs : List Value), u ≤ t ∧ i = .int .i64 u ∧ Own wr N t D ∧ Below N w wr ∧ V < wr.heap.size ∧ wr.ownsRow V 24 1 (.slice (some ⟨V, 0, none⟩) t t) t xs ∧ Vals ss D u xs) (fun i _ => t - (intOf i).toNat)
      case atStart => exact ⟨0, _, by omega, rfl, hownm2, hbel2, hsz2, hown2, fun j hj => absurd hj (Nat.not_lt_zero j)⟩
      case round =>
        clear hown2 hownm2 hbel2 hsz2
        obtain ⟨u, xs, hu, rfl, hown, hbel, hszr, hrow, hvals⟩ := hrel
        have HO : Hid (Own wr N t D) := hown
        have HBr : Hid (Below N w wr) := hbel
        have HR : Hid (wr.ownsRow V 24 1 (.slice (some ⟨V, 0, none⟩) t t) t xs) := hrow
        have HV : Hid (Vals ss D u xs) := hvals
        clear hown hbel hrow hvals
        by_cases hut : u < t
        · obtain ⟨kb, off, rfl, hbB, hc⟩ := (HK.out.below HBr.out).2 (by omega)
          have hcj := hc u hut
          have hs := HK.out.1 u
          obtain ⟨s, hsd⟩ : ∃ s, s = ss.getD u ByteArray.empty := ⟨_, rfl⟩
          rw [← hsd] at hcj hs
          have HSD : Hid (s = ss.getD u ByteArray.empty) := hsd
          have HZ : Hid (s.size ≤ maxLen) := hs
          have hutI : (u : Int) < (t : Int) := by omega
          obtain ⟨x, hx⟩ := ptrOf_pointer (D.atKey (.string s.data.toList) .nil)
          have hxl : xs.length = t := by simpa using HR.out.1
          obtain ⟨old, hold⟩ : ∃ old, wr.cell? ⟨V, u, none⟩ = some old := ⟨xs[u]'(by omega), by rw [HR.out.cellAt u (by omega)]; exact List.getElem?_eq_getElem _⟩
          have hfr := HR.out.frozenAt u
          have HX : Hid (ptrOf (D.atKey (.string s.data.toList) .nil) = .pointer x) := hx
          have HXL : Hid (xs.length = t) := hxl
          clear hc hsd hs hxl hx
          go_wp2_with (at_lookup; refine look _ rfl (.tmp 61) (.tmp 62) rfl N t D rfl HO.out s rfl HZ.out ?_; rw [HX.out])
          go_roundw
          case rel => exact ⟨u + 1, _, by omega, by go_num, HO.out.setCell (by simp; omega) _, HBr.out.setCell (by simp; omega) _, by simpa using hszr, (HR.out.stored u _).1, by have := HV.out.set (by rw [HXL.out]; exact hut); unfold keyN at this; rw [← HSD.out, HX.out] at this; exact this⟩
          case measure => simp [intOf]; omega
        · obtain rfl : u = t := by omega
          have HKr : Hid (Keys wr N a u ss) := HK.out.below HBr.out
          clear hut hu
          go_wp2_with fail
          refine (id_any N a u cap ss p0 o0 wr HKr.out hn hp0 hp0' ho0).mono ?_
          rintro e w' ⟨⟨s0, rfl, hs0⟩, rfl⟩
          go_wp2_with fail
          refine (id_any N a u cap ss p1 o1 w' HKr.out hn hp1 hp1' ho1).mono ?_
          rintro e w' ⟨⟨s1, rfl, hs1⟩, rfl⟩
          have HS0 : Hid (s0.size ≤ maxLen) := hs0
          have HS1 : Hid (s1.size ≤ maxLen) := hs1
          clear hs0 hs1
          have hxl : xs.length = u := by simpa using HR.out.1
          have HXL : Hid (xs.length = u) := hxl
          clear hxl
          have HCL := fun (j : Nat) (hj : j < u) => HR.out.cellAt j (by omega)
          have HCV : Hid (∀ j, j < u → w'.cell? ⟨V, j, none⟩ = xs[j]?) := HCL
          have HTD : Hid (Tidy D) := HO.out.tidy
          have HFL : Hid (Filled ss u D) := HF.out
          clear HCL HKr
          cases he : (s1.toList == s0.toList)
          · have HNE : Hid _ := key_ne he
            have HS : Hid _ := size_two HTD.out HNE.out
            cases ut
            · cases hh0 : Maps.has D (.string s0.data.toList) <;> cases hh1 : Maps.has D (.string s1.data.toList)
              all_goals
                go_wp2_with (first
                  | (at_len; refine lenM _ rfl _ rfl N u D rfl HO.out ?_)
                  | (at_lookup; refine look_ok _ rfl _ _ rfl N u D rfl HO.out s0 rfl HS0.out ?_)
                  | (at_lookup; refine look_ok _ rfl _ _ rfl N u D rfl HO.out s1 rfl HS1.out ?_))
                refine (close_two w w' N u V D xs s0 s1 _ _ HO.out HBr.out (by omega) hszr HCV.out HXL.out HS0.out HS1.out rfl rfl rfl rfl rfl).mono ?_
                rintro e w2 ⟨rfl, hown2, hbel2, hcl, hid0, hid1, hpx, hrow⟩
                have HO2 : Hid _ := hown2
                have HRW : Hid _ := hrow
                have HB2 : Hid _ := hbel2
                clear hown2 hrow hbel2 HO HR HCV
                have hagg := agg_eq s0 s1
                have hptr := ptr_neq
                have hSu := HO2.out.size_le
                have hz := HS.out
                rw [hh0, hh1] at hz
                obtain ⟨S, hS⟩ : ∃ S, Maps.size ((D.del (.string s0.data.toList)).del (.string s1.data.toList)) = S := ⟨_, rfl⟩
                obtain ⟨Z, hZ⟩ : ∃ Z, Maps.size D = Z := ⟨_, rfl⟩
                rw [hS] at hSu hz
                rw [hZ] at hz
                rw [hZ]
                simp only [if_true, if_false, Bool.false_eq_true, Nat.add_zero] at hz
                have hz1 := Nat.le_of_eq hz
                have hz2 := Nat.le_of_eq hz.symm
                clear hz HS hZ
                go_wp2_with (at_len; refine lenM _ rfl _ rfl N u _ rfl HO2.out ?_)
                first
                  | rw [show ((S : Int) != (Z : Int) - 1) = false by rw [bne_eq_false_iff_eq]; omega]
                  | rw [show ((S : Int) != (Z : Int) - 2) = false by rw [bne_eq_false_iff_eq]; omega]
                  | rw [show ((S : Int) != (Z : Int)) = false by rw [bne_eq_false_iff_eq]; omega]
                  | skip
                go_loopw [138] (fun i wx => ∃ m : Nat, m ≤ u ∧ i = .int .i64 m ∧ wx = w2) (fun i _ => u - (intOf i).toNat)
                case atStart => exact ⟨0, Nat.zero_le _, rfl, rfl⟩
                case round =>
                  obtain ⟨m, hm, rfl, rfl⟩ := hrel
                  by_cases hmu : m < u
                  · obtain ⟨kb, off, rfl, hbB, hc⟩ := (HK.out.below HB2.out).2 (by omega)
                    have hcj := hc m hmu
                    have hs := HK.out.1 m
                    have hfm := HFL.out m hmu
                    have hvm := (HRW.out m hmu).trans (HV.out m hmu)
                    unfold keyN at hfm hvm
                    obtain ⟨s, hsd⟩ : ∃ s, s = ss.getD m ByteArray.empty := ⟨_, rfl⟩
                    rw [← hsd] at hcj hs hfm hvm
                    have HZ : Hid (s.size ≤ maxLen) := hs
                    have hmI : (m : Int) < (u : Int) := by omega
                    clear hc hsd hs
                    cases e0 : (s.toList == s0.toList)
                    · cases e1 : (s.toList == s1.toList)
                      · obtain ⟨x, hx⟩ := ptrOf_pointer (D.atKey (.string s.data.toList) .nil)
                        have hg := (kept_has D _ _ _ (key_ne e0) (key_ne e1)).trans hfm
                        have hx2 : ptrOf _ = _ := (congrArg ptrOf (kept_at D _ _ _ (key_ne e0) (key_ne e1))).trans hx
                        rw [hx] at hvm
                        have HX2 : Hid _ := hx2
                        have HG : Hid _ := hg
                        clear hx hx2 hg hfm
                        go_wp2_with (at_lookup; refine look_ok _ rfl _ _ rfl N u _ rfl HO2.out s rfl HZ.out ?_; rw [HX2.out, HG.out])
                        go_roundw
                        case rel => exact ⟨m + 1, by omega, by go_num, trivial⟩
                        case measure => simp [intOf]; omega
                      · have hg := gone D (.string s0.data.toList) (.string s1.data.toList) (.string s.data.toList) (.inr (by rw [key_eq e1]))
                        have HG : Hid _ := hg
                        clear hg hfm hvm
                        go_wp2_with (at_lookup; refine look_ok _ rfl _ _ rfl N u _ rfl HO2.out s rfl HZ.out ?_; rw [HG.out])
                        go_roundw
                        case rel => exact ⟨m + 1, by omega, by go_num, trivial⟩
                        case measure => simp [intOf]; omega
                    · have hg := gone D (.string s0.data.toList) (.string s1.data.toList) (.string s.data.toList) (.inl (by rw [key_eq e0]))
                      have HG : Hid _ := hg
                      clear hg hfm hvm
                      go_wp2_with (at_lookup; refine look_ok _ rfl _ _ rfl N u _ rfl HO2.out s rfl HZ.out ?_; rw [HG.out])
                      go_roundw
                      case rel => exact ⟨m + 1, by omega, by go_num, trivial⟩
                      case measure => simp [intOf]; omega
                  · obtain rfl : m = u := by omega
                    go_wp2
                    go_ret
                    exact ⟨rfl, HB2.out⟩
            · cases hh0 : Maps.has D (.string s0.data.toList) <;> cases hh1 : Maps.has D (.string s1.data.toList)
              all_goals
                go_wp2_with (first
                  | (at_len; refine lenM _ rfl _ rfl N u D rfl HO.out ?_)
                  | (at_lookup; refine look_ok _ rfl _ _ rfl N u D rfl HO.out s0 rfl HS0.out ?_)
                  | (at_lookup; refine look_ok _ rfl _ _ rfl N u D rfl HO.out s1 rfl HS1.out ?_))
                refine (close_three w w' N u V D xs s0 s1 _ _ _ HO.out HBr.out (by omega) hszr HCV.out HXL.out HS0.out HS1.out rfl rfl rfl rfl rfl rfl).mono ?_
                rintro e w2 ⟨rfl, hown2, hbel2, hcl, hid0, hid1, hpx, hrow⟩
                have HO2 : Hid _ := hown2
                have HRW : Hid _ := hrow
                have HB2 : Hid _ := hbel2
                clear hown2 hrow hbel2 HO HR HCV
                have hagg := agg_eq s0 s1
                have hptr := ptr_neq
                have hSu := HO2.out.size_le
                have hz := HS.out
                rw [hh0, hh1] at hz
                obtain ⟨S, hS⟩ : ∃ S, Maps.size ((D.del (.string s0.data.toList)).del (.string s1.data.toList)) = S := ⟨_, rfl⟩
                obtain ⟨Z, hZ⟩ : ∃ Z, Maps.size D = Z := ⟨_, rfl⟩
                rw [hS] at hSu hz
                rw [hZ] at hz
                rw [hZ]
                simp only [if_true, if_false, Bool.false_eq_true, Nat.add_zero] at hz
                have hz1 := Nat.le_of_eq hz
                have hz2 := Nat.le_of_eq hz.symm
                clear hz HS hZ
                go_wp2_with (at_len; refine lenM _ rfl _ rfl N u _ rfl HO2.out ?_)
                first
                  | rw [show ((S : Int) != (Z : Int) - 1) = false by rw [bne_eq_false_iff_eq]; omega]
                  | rw [show ((S : Int) != (Z : Int) - 2) = false by rw [bne_eq_false_iff_eq]; omega]
                  | rw [show ((S : Int) != (Z : Int)) = false by rw [bne_eq_false_iff_eq]; omega]
                  | skip
                go_loopw [138] (fun i wx => ∃ m : Nat, m ≤ u ∧ i = .int .i64 m ∧ wx = w2) (fun i _ => u - (intOf i).toNat)
                case atStart => exact ⟨0, Nat.zero_le _, rfl, rfl⟩
                case round =>
                  obtain ⟨m, hm, rfl, rfl⟩ := hrel
                  by_cases hmu : m < u
                  · obtain ⟨kb, off, rfl, hbB, hc⟩ := (HK.out.below HB2.out).2 (by omega)
                    have hcj := hc m hmu
                    have hs := HK.out.1 m
                    have hfm := HFL.out m hmu
                    have hvm := (HRW.out m hmu).trans (HV.out m hmu)
                    unfold keyN at hfm hvm
                    obtain ⟨s, hsd⟩ : ∃ s, s = ss.getD m ByteArray.empty := ⟨_, rfl⟩
                    rw [← hsd] at hcj hs hfm hvm
                    have HZ : Hid (s.size ≤ maxLen) := hs
                    have hmI : (m : Int) < (u : Int) := by omega
                    clear hc hsd hs
                    cases e0 : (s.toList == s0.toList)
                    · cases e1 : (s.toList == s1.toList)
                      · obtain ⟨x, hx⟩ := ptrOf_pointer (D.atKey (.string s.data.toList) .nil)
                        have hg := (kept_has D _ _ _ (key_ne e0) (key_ne e1)).trans hfm
                        have hx2 : ptrOf _ = _ := (congrArg ptrOf (kept_at D _ _ _ (key_ne e0) (key_ne e1))).trans hx
                        rw [hx] at hvm
                        have HX2 : Hid _ := hx2
                        have HG : Hid _ := hg
                        clear hx hx2 hg hfm
                        go_wp2_with (at_lookup; refine look_ok _ rfl _ _ rfl N u _ rfl HO2.out s rfl HZ.out ?_; rw [HX2.out, HG.out])
                        go_roundw
                        case rel => exact ⟨m + 1, by omega, by go_num, trivial⟩
                        case measure => simp [intOf]; omega
                      · have hg := gone D (.string s0.data.toList) (.string s1.data.toList) (.string s.data.toList) (.inr (by rw [key_eq e1]))
                        have HG : Hid _ := hg
                        clear hg hfm hvm
                        go_wp2_with (at_lookup; refine look_ok _ rfl _ _ rfl N u _ rfl HO2.out s rfl HZ.out ?_; rw [HG.out])
                        go_roundw
                        case rel => exact ⟨m + 1, by omega, by go_num, trivial⟩
                        case measure => simp [intOf]; omega
                    · have hg := gone D (.string s0.data.toList) (.string s1.data.toList) (.string s.data.toList) (.inl (by rw [key_eq e0]))
                      have HG : Hid _ := hg
                      clear hg hfm hvm
                      go_wp2_with (at_lookup; refine look_ok _ rfl _ _ rfl N u _ rfl HO2.out s rfl HZ.out ?_; rw [HG.out])
                      go_roundw
                      case rel => exact ⟨m + 1, by omega, by go_num, trivial⟩
                      case measure => simp [intOf]; omega
                  · obtain rfl : m = u := by omega
                    go_wp2
                    go_ret
                    exact ⟨rfl, HB2.out⟩
          · have HS : Hid (Maps.size D = Maps.size ((D.del (.string s0.data.toList)).del (.string s1.data.toList)) + (if Maps.has D (.string s0.data.toList) then 1 else 0)) := by
              rw [key_eq he]
              exact size_one HTD.out _
            cases ut
            · cases hh0 : Maps.has D (.string s0.data.toList)
              all_goals
                go_wp2_with (first
                  | (at_len; refine lenM _ rfl _ rfl N u D rfl HO.out ?_)
                  | (at_lookup; refine look_ok _ rfl _ _ rfl N u D rfl HO.out s0 rfl HS0.out ?_)
                  | (at_lookup; refine look_ok _ rfl _ _ rfl N u D rfl HO.out s1 rfl HS1.out ?_))
                refine (close_two w w' N u V D xs s0 s1 _ _ HO.out HBr.out (by omega) hszr HCV.out HXL.out HS0.out HS1.out rfl rfl rfl rfl rfl).mono ?_
                rintro e w2 ⟨rfl, hown2, hbel2, hcl, hid0, hid1, hpx, hrow⟩
                have HO2 : Hid _ := hown2
                have HRW : Hid _ := hrow
                have HB2 : Hid _ := hbel2
                clear hown2 hrow hbel2 HO HR HCV
                have hagg := agg_eq s0 s1
                have hptr := ptr_neq
                have hSu := HO2.out.size_le
                have hz := HS.out
                rw [hh0] at hz
                obtain ⟨S, hS⟩ : ∃ S, Maps.size ((D.del (.string s0.data.toList)).del (.string s1.data.toList)) = S := ⟨_, rfl⟩
                obtain ⟨Z, hZ⟩ : ∃ Z, Maps.size D = Z := ⟨_, rfl⟩
                rw [hS] at hSu hz
                rw [hZ] at hz
                rw [hZ]
                simp only [if_true, if_false, Bool.false_eq_true, Nat.add_zero] at hz
                have hz1 := Nat.le_of_eq hz
                have hz2 := Nat.le_of_eq hz.symm
                clear hz HS hZ
                go_wp2_with (at_len; refine lenM _ rfl _ rfl N u _ rfl HO2.out ?_)
                first
                  | rw [show ((S : Int) != (Z : Int) - 1) = false by rw [bne_eq_false_iff_eq]; omega]
                  | rw [show ((S : Int) != (Z : Int) - 2) = false by rw [bne_eq_false_iff_eq]; omega]
                  | rw [show ((S : Int) != (Z : Int)) = false by rw [bne_eq_false_iff_eq]; omega]
                  | skip
                go_loopw [138] (fun i wx => ∃ m : Nat, m ≤ u ∧ i = .int .i64 m ∧ wx = w2) (fun i _ => u - (intOf i).toNat)
                case atStart => exact ⟨0, Nat.zero_le _, rfl, rfl⟩
                case round =>
                  obtain ⟨m, hm, rfl, rfl⟩ := hrel
                  by_cases hmu : m < u
                  · obtain ⟨kb, off, rfl, hbB, hc⟩ := (HK.out.below HB2.out).2 (by omega)
                    have hcj := hc m hmu
                    have hs := HK.out.1 m
                    have hfm := HFL.out m hmu
                    have hvm := (HRW.out m hmu).trans (HV.out m hmu)
                    unfold keyN at hfm hvm
                    obtain ⟨s, hsd⟩ : ∃ s, s = ss.getD m ByteArray.empty := ⟨_, rfl⟩
                    rw [← hsd] at hcj hs hfm hvm
                    have HZ : Hid (s.size ≤ maxLen) := hs
                    have hmI : (m : Int) < (u : Int) := by omega
                    clear hc hsd hs
                    cases e0 : (s.toList == s0.toList)
                    · cases e1 : (s.toList == s1.toList)
                      · obtain ⟨x, hx⟩ := ptrOf_pointer (D.atKey (.string s.data.toList) .nil)
                        have hg := (kept_has D _ _ _ (key_ne e0) (key_ne e1)).trans hfm
                        have hx2 : ptrOf _ = _ := (congrArg ptrOf (kept_at D _ _ _ (key_ne e0) (key_ne e1))).trans hx
                        rw [hx] at hvm
                        have HX2 : Hid _ := hx2
                        have HG : Hid _ := hg
                        clear hx hx2 hg hfm
                        go_wp2_with (at_lookup; refine look_ok _ rfl _ _ rfl N u _ rfl HO2.out s rfl HZ.out ?_; rw [HX2.out, HG.out])
                        go_roundw
                        case rel => exact ⟨m + 1, by omega, by go_num, trivial⟩
                        case measure => simp [intOf]; omega
                      · have hg := gone D (.string s0.data.toList) (.string s1.data.toList) (.string s.data.toList) (.inr (by rw [key_eq e1]))
                        have HG : Hid _ := hg
                        clear hg hfm hvm
                        go_wp2_with (at_lookup; refine look_ok _ rfl _ _ rfl N u _ rfl HO2.out s rfl HZ.out ?_; rw [HG.out])
                        go_roundw
                        case rel => exact ⟨m + 1, by omega, by go_num, trivial⟩
                        case measure => simp [intOf]; omega
                    · have hg := gone D (.string s0.data.toList) (.string s1.data.toList) (.string s.data.toList) (.inl (by rw [key_eq e0]))
                      have HG : Hid _ := hg
                      clear hg hfm hvm
                      go_wp2_with (at_lookup; refine look_ok _ rfl _ _ rfl N u _ rfl HO2.out s rfl HZ.out ?_; rw [HG.out])
                      go_roundw
                      case rel => exact ⟨m + 1, by omega, by go_num, trivial⟩
                      case measure => simp [intOf]; omega
                  · obtain rfl : m = u := by omega
                    go_wp2
                    go_ret
                    exact ⟨rfl, HB2.out⟩
            · cases hh0 : Maps.has D (.string s0.data.toList)
              all_goals
                go_wp2_with (first
                  | (at_len; refine lenM _ rfl _ rfl N u D rfl HO.out ?_)
                  | (at_lookup; refine look_ok _ rfl _ _ rfl N u D rfl HO.out s0 rfl HS0.out ?_)
                  | (at_lookup; refine look_ok _ rfl _ _ rfl N u D rfl HO.out s1 rfl HS1.out ?_))
                refine (close_three w w' N u V D xs s0 s1 _ _ _ HO.out HBr.out (by omega) hszr HCV.out HXL.out HS0.out HS1.out rfl rfl rfl rfl rfl rfl).mono ?_
                rintro e w2 ⟨rfl, hown2, hbel2, hcl, hid0, hid1, hpx, hrow⟩
                have HO2 : Hid _ := hown2
                have HRW : Hid _ := hrow
                have HB2 : Hid _ := hbel2
                clear hown2 hrow hbel2 HO HR HCV
                have hagg := agg_eq s0 s1
                have hptr := ptr_neq
                have hSu := HO2.out.size_le
                have hz := HS.out
                rw [hh0] at hz
                obtain ⟨S, hS⟩ : ∃ S, Maps.size ((D.del (.string s0.data.toList)).del (.string s1.data.toList)) = S := ⟨_, rfl⟩
                obtain ⟨Z, hZ⟩ : ∃ Z, Maps.size D = Z := ⟨_, rfl⟩
                rw [hS] at hSu hz
                rw [hZ] at hz
                rw [hZ]
                simp only [if_true, if_false, Bool.false_eq_true, Nat.add_zero] at hz
                have hz1 := Nat.le_of_eq hz
                have hz2 := Nat.le_of_eq hz.symm
                clear hz HS hZ
                go_wp2_with (at_len; refine lenM _ rfl _ rfl N u _ rfl HO2.out ?_)
                first
                  | rw [show ((S : Int) != (Z : Int) - 1) = false by rw [bne_eq_false_iff_eq]; omega]
                  | rw [show ((S : Int) != (Z : Int) - 2) = false by rw [bne_eq_false_iff_eq]; omega]
                  | rw [show ((S : Int) != (Z : Int)) = false by rw [bne_eq_false_iff_eq]; omega]
                  | skip
                go_loopw [138] (fun i wx => ∃ m : Nat, m ≤ u ∧ i = .int .i64 m ∧ wx = w2) (fun i _ => u - (intOf i).toNat)
                case atStart => exact ⟨0, Nat.zero_le _, rfl, rfl⟩
                case round =>
                  obtain ⟨m, hm, rfl, rfl⟩ := hrel
                  by_cases hmu : m < u
                  · obtain ⟨kb, off, rfl, hbB, hc⟩ := (HK.out.below HB2.out).2 (by omega)
                    have hcj := hc m hmu
                    have hs := HK.out.1 m
                    have hfm := HFL.out m hmu
                    have hvm := (HRW.out m hmu).trans (HV.out m hmu)
                    unfold keyN at hfm hvm
                    obtain ⟨s, hsd⟩ : ∃ s, s = ss.getD m ByteArray.empty := ⟨_, rfl⟩
                    rw [← hsd] at hcj hs hfm hvm
                    have HZ : Hid (s.size ≤ maxLen) := hs
                    have hmI : (m : Int) < (u : Int) := by omega
                    clear hc hsd hs
                    cases e0 : (s.toList == s0.toList)
                    · cases e1 : (s.toList == s1.toList)
                      · obtain ⟨x, hx⟩ := ptrOf_pointer (D.atKey (.string s.data.toList) .nil)
                        have hg := (kept_has D _ _ _ (key_ne e0) (key_ne e1)).trans hfm
                        have hx2 : ptrOf _ = _ := (congrArg ptrOf (kept_at D _ _ _ (key_ne e0) (key_ne e1))).trans hx
                        rw [hx] at hvm
                        have HX2 : Hid _ := hx2
                        have HG : Hid _ := hg
                        clear hx hx2 hg hfm
                        go_wp2_with (at_lookup; refine look_ok _ rfl _ _ rfl N u _ rfl HO2.out s rfl HZ.out ?_; rw [HX2.out, HG.out])
                        go_roundw
                        case rel => exact ⟨m + 1, by omega, by go_num, trivial⟩
                        case measure => simp [intOf]; omega
                      · have hg := gone D (.string s0.data.toList) (.string s1.data.toList) (.string s.data.toList) (.inr (by rw [key_eq e1]))
                        have HG : Hid _ := hg
                        clear hg hfm hvm
                        go_wp2_with (at_lookup; refine look_ok _ rfl _ _ rfl N u _ rfl HO2.out s rfl HZ.out ?_; rw [HG.out])
                        go_roundw
                        case rel => exact ⟨m + 1, by omega, by go_num, trivial⟩
                        case measure => simp [intOf]; omega
                    · have hg := gone D (.string s0.data.toList) (.string s1.data.toList) (.string s.data.toList) (.inl (by rw [key_eq e0]))
                      have HG : Hid _ := hg
                      clear hg hfm hvm
                      go_wp2_with (at_lookup; refine look_ok _ rfl _ _ rfl N u _ rfl HO2.out s rfl HZ.out ?_; rw [HG.out])
                      go_roundw
                      case rel => exact ⟨m + 1, by omega, by go_num, trivial⟩
                      case measure => simp [intOf]; omega
                  · obtain rfl : m = u := by omega
                    go_wp2
                    go_ret
                    exact ⟨rfl, HB2.out⟩
end Go.Proofs.Ybulkxyy
