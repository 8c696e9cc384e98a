/-
  'Rows.LawS1204AWholeSaid', and its card: after the guide's Derived/Test/MapyProofs.lean and MapyCard.lean.
-/
import Derived.Test.YbulkxxiDoorLaw
import Derived.Test.YbulkxxiDoorTie
import Derived.Test.YbulkxxiDoorCards
import Derived.ProofKit
import Derived.LaidMore
import Derived.OpenShut
import Derived.OpenVars
import Derived.Stop.Joined
import Derived.Lib.LaidTab
import Derived.SevenTiedAt
namespace Go.Proofs.YbulkxxiDoor.lawS1204AWhole
open Go.ChangeShapes Go.WideShapes Go.ChangeAt Go.RowKit
set_option linter.unusedVariables false

theorem own : ownKnob Ybad.prog.godebug = none := by kernel_rfl
theorem laidOut : laidOutB Ybad.prog = true := by kernel_rfl
/-- The two listed variables' names, off the given row. -/
def nameTab : String := Rows.lawS1204AWholeRow.named.getD 2 ""
def nameSp : String := Rows.lawS1204AWholeRow.named.getD 0 ""
theorem gTab : Ybad.prog.globalNamed nameTab = some 2 := by kernel_rfl
theorem gSp : Ybad.prog.globalNamed nameSp = some 0 := by kernel_rfl
theorem tTab : (Ybad.prog.globals[2]?).map (·.type) = some 49 := by kernel_rfl
theorem tSp : (Ybad.prog.globals[0]?).map (·.type) = some 41 := by kernel_rfl
theorem c4 : Ybad.prog.cellsOf 4 = 1 := by kernel_rfl
theorem c5 : Ybad.prog.cellsOf 5 = 1 := by kernel_rfl
theorem c49 : Ybad.prog.cellsOf 49 = 64 := by kernel_rfl

/-- The door's own heap meets the condition. -/
theorem door_met (os : Os) (args : Array Value) : laidMetH Ybad.prog Rows.lawS1204AWholeRow.laid ((World.doorLaid Ybad.prog 851 os).forCall (fun _ _ => 0) ⟨#[], args, []⟩).memory :=
  laidMetH_of_parts3 (fuel := 8) (laidMet_of_run' 8 (by kernel_rfl) (by kernel_rfl)) (by kernel_rfl) (by kernel_rfl)

/-- An array of bools that reads as a list holds it, cell for cell. -/
theorem cells_of_bools {H : Type} {enc : TypeId × Value → H} {P : Program} {w : World} {base : Nat} {sp : Nat → Bool} {held : Bool} {fuel : Nat} {t e : TypeId} {n : Nat} {cs : List Value} {bs : List Bool} {p : List MemPlace}
    (ht : P.underlying t = some (.array n e)) (he : P.underlying e = some .bool) (hce : P.cellsOf e = 1)
    (h : DataW.trod enc P w base sp held fuel t cs = some (.agg (bs.map fun b => .lit (.bool b)), p)) : ∀ i, i < n → cs[i]? = (bs[i]?).map Value.bool := by
  intro i hi
  obtain ⟨xs, m, rfl, hx, _, hn, hel⟩ := DataW.trod_array ht h
  simp only [Prod.mk.injEq, DataW.agg.injEq] at hx
  have h1 := hel i hi
  rw [hce, Nat.mul_one, List.getElem?_eq_getElem (by omega)] at h1
  obtain ⟨b, hb1, hb2⟩ := DataW.trod_bool he h1
  have h2 : (xs.map (·.1))[i]? = some (DataW.lit (.bool b) : DataW H) := by
    rw [List.getElem?_map, List.getElem?_eq_getElem (by omega), hb2]; rfl
  rw [← hx.1, List.getElem?_map] at h2
  obtain ⟨b', hb', hbb⟩ := Option.map_eq_some_iff.1 h2
  have hbb' : b' = b := by simpa using hbb
  rw [hb', hbb']
  have := congrArg (·[0]?) hb1
  simpa [List.getElem?_take, List.getElem?_drop] using this

theorem tabList : (Rows.laid_math_bits_deBruijn64tab : DataW Unit) = Lib.tabData .u8 (Lib.deBruijn64tab.map fun n : Nat => (n : Int)) := by kernel_rfl
theorem spList : (Rows.laid_example_com_permlint_permlint_inputfile_stringByte : DataW Unit) = .agg (((List.range 256).map spB).map fun b => .lit (.bool b)) := by kernel_rfl

/-- What the condition gives the walk: the two tables. -/
theorem of_laid {W : World} (h : laidMetH Ybad.prog Rows.lawS1204AWholeRow.laid W) : Tab W ∧ Sp W ∧ 2 < W.heap.size := by
  rw [MakeChecks.laidMetH_plain _ _ _ (by kernel_rfl)] at h
  obtain ⟨ps, ⟨g0, t0, cs0, f0, p0, q0, hg0, ht0, hv0, hd0, ⟨g1, t1, cs1, f1, p1, q1, hg1, ht1, hv1, hd1, _, _⟩, _⟩, _, _⟩ := h
  obtain rfl := Option.some.inj (gTab.symm.trans hg0)
  obtain rfl := Option.some.inj (gSp.symm.trans hg1)
  obtain rfl := Option.some.inj (tTab.symm.trans ht0)
  obtain rfl := Option.some.inj (tSp.symm.trans ht1)
  rw [tabList] at hd0
  rw [spList] at hd1
  have hc0 := Lib.cells_of_tab Ybad.underlying49 Ybad.underlying5 c5 c49 hd0
  have hc1 := cells_of_bools Ybad.underlying41 Ybad.underlying4 c4 hd1
  have hT : Tab W := fun j hj => by
    have := World.var?_cell hg0 hv0 j
    rw [this, ← Array.getElem?_toList, hc0]
    have hl : Lib.deBruijn64tab.length = 64 := by decide
    simp [List.getElem?_map, List.getElem?_eq_getElem (show j < Lib.deBruijn64tab.length by omega), List.getD]
  refine ⟨hT, fun c hc => ?_, World.block_lt_of_cell? _ _ (hT 0 (by omega))⟩
  have := World.var?_cell hg1 hv1 c
  rw [this, ← Array.getElem?_toList, hc1 c hc]
  simp [hc]

set_option maxRecDepth 100000 in
theorem lifted (os : Os) (started : os.Started) (H : Type) (enc : TypeId × Value → H) :
    ReturnsInHanded {} Ybad.checked os 3 .any (fun w args => (Rows.lawS1204AWholeSpec.pre enc Ybad.prog Ybad.f3 [] false w args ∧ laidMetH Ybad.prog Rows.lawS1204AWholeRow.laid w) ∧ sizedMet enc Ybad.prog Ybad.f3 (OpenSpec.ofChange Rows.lawS1204AWholeSpec) false w args)
      (Rows.lawS1204AWholeSpec.post enc Ybad.prog Ybad.f3 false true false false) := by
  refine returnsInHanded_of_change_and (C := Ybad.checked) (X := fun w _ => laidMetH Ybad.prog Rows.lawS1204AWholeRow.laid w) (fun _ _ _ hh h => h.of_heap hh) own started (by kernel_rfl) Ybad.func3
    (ChangeSpec.witness_shaped (enc := enc) (C := Ybad.checked) (os := os) (X := fun w _ => laidMetH Ybad.prog Rows.lawS1204AWholeRow.laid w) false (World.doorLaid Ybad.prog 851 os) #[.slice none 0 0, .int .u8 0] 8 rfl (World.shaped_of_RefB (by kernel_rfl) (by kernel_rfl)) (by kernel_rfl) (by kernel_rfl) (by kernel_rfl) (door_met os _)) ?_
  intro W base args ds gs before hval0 hW _ _ hL _
  have hval : ∀ (j : Nat) t v, Ybad.f3.params[j]? = some t → args[j]? = some v → Value.okWide Ybad.prog W .any base t v := hval0
  have hW' := hW
  obtain ⟨p, q, hA0, hV0, rfl, hfz, hnd⟩ := hW
  have hA : DataW.TrodAll enc Ybad.prog W 0 (fun _ => true) true Ybad.f3.params.toList args.toList ds p := hA0
  have hV : DataW.TrodVars enc Ybad.prog W (fun _ => true) [nameSp] gs q := hV0
  rw [Ybad.params3] at hA hval
  obtain ⟨v0, v1, d0, d1, p0, p1, rfl, rfl, rfl, h0, h1⟩ := trodAll_two hA
  obtain ⟨g, t, cs, fuel, dg, pg, rfl, hg, ht, hvar, hdg, hq⟩ := trodVars_one hV
  obtain ⟨a0, len0, cap0, rfl⟩ := okWide_slice Ybad.underlying22 (hval 0 22 v0 rfl rfl)
  have k0 := h0
  have lt0 : ∀ x ∈ p0, x.block < W.heap.size := by obtain ⟨m, hm⟩ := k0; exact DataW.trod_lt m _ _ _ hm
  obtain ⟨z0, hops, hcap⟩ : ∃ z : List Int, (0 < len0 → ∃ b off, a0 = some ⟨b, off, none⟩ ∧ b < W.heap.size ∧ ∀ j, j < len0 → W.cell? ⟨b, off + j, none⟩ = some (.int .u8 (z.getD j 0)) ∧ 0 ≤ z.getD j 0 ∧ z.getD j 0 ≤ 255) ∧ len0 ≤ 9223372036854775807 := by
    obtain ⟨fuel, hf⟩ := h0
    rcases open_ints Ybad.underlying22 Ybad.underlying5 (by kernel_rfl) hf with ⟨hcs, _⟩ | ⟨x, l, c, zs, hcs, _, hl, hm, hz, _, hcell, hwz⟩
    · simp [Value.cells] at hcs
      obtain ⟨rfl, rfl, rfl⟩ := hcs
      exact ⟨[], fun h => by omega, by omega⟩
    · simp [Value.cells] at hcs
      obtain ⟨rfl, rfl, rfl⟩ := hcs
      have hz' : zs.length = cap0 := by simpa using hz
      refine ⟨zs, fun hpos => ?_, by unfold maxLen at hm; omega⟩
      obtain ⟨b, off, spot⟩ := x
      have hspot : spot = none := by simpa [Addr.add] using World.cell?_spot (hcell 0 (by omega))
      subst hspot
      refine ⟨b, off, rfl, World.block_lt_of_cell? _ _ (hcell 0 (by omega)), fun j hj => ⟨by rw [← Addr.add_lit]; exact hcell j (by omega), ?_⟩⟩
      exact bytes_getD (fun n hn => bounds_u8 (hwz n hn)) j
  obtain ⟨a1, rfl, rfl, rfl, w1⟩ := open_int Ybad.underlying5 (hval 1 5 v1 rfl rfl) h1
  obtain ⟨hT, hS, hg2⟩ := of_laid hL
  have b1 := bounds_u8 w1
  clear hA0 hval0 hV0
  refine (law_in a0 len0 cap0 z0 a1 W hops hcap b1.1 b1.2 hT hS hg2).mono fun e W' ⟨he, bel⟩ => ?_
  subst he
  exact ⟨_, rfl, _, _, _, [], _, _, hW', trodAll_mk1 (shut_bool Ybad.underlying4 _), trodAll_mk2 (Below.trod laidOut (by kernel_rfl) (of_decide_eq_true (by kernel_rfl)) k0 bel lt0) (shut_int Ybad.underlying5 w1), Below.trodVars laidOut bel (by kernel_rfl) hV, bel.frame _, fun h => by cases h⟩

theorem holds : Rows.LawS1204AWholeSaid :=
  OpenClaim.holds_of_wide 3 Ybad.f3 rfl rfl rfl rfl rfl rfl rfl ⟨rfl, rfl, rfl, rfl, rfl⟩ rfl rfl rfl rfl rfl (by kernel_rfl) Ybad.func3 (by kernel_rfl)
    (of_decide_eq_true (by kernel_rfl)) (by unfold Func.isWrapper; first | (rw [if_pos (by decide +kernel)]; kernel_rfl) | (rw [if_neg (by decide +kernel)]; exact ⟨rfl, rfl⟩))
    (fun os started H enc _ => lifted os started H enc)

/-- The card. -/
theorem proved : Rows.LawS1204AWholeCardSaid :=
  Claim7.holds_tied_plain_at .later [] [.data, .called] true (true, "f209ddf6f6a0a5c1bad324d4f1fd06e685898d7b9f8e94aa09f158bbb83a2c69") false
    holds (fun _ h => by cases h) (by kernel_rfl) (fun _ h => by cases h) lawS1204AWhole_row_tie rfl ⟨rfl, rfl⟩ (by kernel_rfl) rfl
    (fun f fn hf hfn => by
      obtain rfl : f = 3 := Option.some.inj ((show Ybad.prog.funcNamed Rows.lawS1204AWholeRow.func = some 3 by kernel_rfl).symm.trans hf) |>.symm
      obtain rfl : fn = Ybad.f3 := (Option.some.inj (Ybad.func3.symm.trans hfn)).symm
      exact ⟨by kernel_rfl, fun j t ht => by
        rw [Ybad.params3] at ht
        have hm : t ∈ [22, 5] := by simpa using Array.mem_of_getElem? ht
        have hall : ([22, 5].all fun u => !Ybad.prog.wantsStandIn u) = true := by kernel_rfl
        exact (show Ybad.prog.wantsStandIn t = false by simpa using List.all_eq_true.1 hall t hm)⟩)
    (by kernel_rfl)
end Go.Proofs.YbulkxxiDoor.lawS1204AWhole
