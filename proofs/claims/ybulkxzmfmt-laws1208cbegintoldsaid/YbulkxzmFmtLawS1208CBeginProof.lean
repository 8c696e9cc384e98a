/-
  'Rows.LawS1208CBeginToldSaid': the card, after the guide's Derived/Test/PortSeven.lean.
-/
import Derived.Test.YbulkxzmFmtWalk
import Derived.Test.YbulkxzmFmtLaid
import Derived.Stop.LaidErr
import Derived.Carry
import Derived.SevenTiedAt
namespace Go.Proofs.YbulkxzmFmt.lawS1208CBegin
open Go.ChangeShapes Go.WideShapes Go.ChangeAt Go.RowKit
set_option linter.unusedVariables false

/-- The dynamic type's name, off the given row. -/
def starName : String := match Rows.lawS1208CBeginRow.laid with
  | (_, .iface n _) :: _ => n
  | _ => ""
theorem row148 (u : TypeId) (h : Ybaf.prog.typeName? 3 u = some starName) : u = 148 :=
  typeName_ptr_named (nm := "errors.errorString") (by
    rw [(?e : _ ++ "errors.errorString" = starName)]
    · kernel_rfl
    · decide) (by kernel_rfl) (by decide) u (by
    rw [(?e2 : _ ++ "errors.errorString" = starName), h]
    decide)

/-- The three variables' names, off the given row. -/
def name0 : String := Rows.lawS1208CBeginRow.named.getD 0 ""
def name1 : String := Rows.lawS1208CBeginRow.named.getD 1 ""
def name2 : String := Rows.lawS1208CBeginRow.named.getD 2 ""
theorem g0 : Ybaf.prog.globalNamed name0 = some 0 := by kernel_rfl
theorem g1 : Ybaf.prog.globalNamed name1 = some 1 := by kernel_rfl
theorem g2 : Ybaf.prog.globalNamed name2 = some 2 := by kernel_rfl

theorem sent_of {W : World} {n : String} {g : Nat} {a : Addr} {s : ByteArray} (hg : Ybaf.prog.globalNamed n = some g) (hv : W.var? Ybaf.prog n = some #[.iface 148 (.pointer (some a))]) (hc : W.cell? a = some (.string s)) : Sent W g a := by
  have h0 : W.cell? ⟨g, 0, none⟩ = some (.iface 148 (.pointer (some a))) := by
    rw [World.var?_cell hg hv 0]; rfl
  exact ⟨h0, World.block_lt_of_cell? _ _ h0, s, hc⟩

theorem of_laid {W : World} (h : laidMetH Ybaf.prog Rows.lawS1208CBeginRow.laid W) : ∃ s0 s1 s2, Sent W 0 s0 ∧ Sent W 1 s1 ∧ Sent W 2 s2 := by
  rw [MakeChecks.laidMetH_plain _ _ _ (by kernel_rfl)] at h
  obtain ⟨a1, t1, hv1, hc1, _, _⟩ := laid_sentinel (n := name1) (g := 1) h g1 (by kernel_rfl) Ybaf.underlying103 row148 Ybaf.underlying148 Ybaf.underlying150 rfl rfl Ybaf.underlying9 (by kernel_rfl) (by kernel_rfl)
  obtain ⟨a0, t0, hv0, hc0, _, _⟩ := laid_sentinel (n := name0) (g := 0) h.tail g0 (by kernel_rfl) Ybaf.underlying103 row148 Ybaf.underlying148 Ybaf.underlying150 rfl rfl Ybaf.underlying9 (by kernel_rfl) (by kernel_rfl)
  obtain ⟨a2, t2, hv2, hc2, _, _⟩ := laid_sentinel (n := name2) (g := 2) h.tail.tail g2 (by kernel_rfl) Ybaf.underlying103 row148 Ybaf.underlying148 Ybaf.underlying150 rfl rfl Ybaf.underlying9 (by kernel_rfl) (by kernel_rfl)
  exact ⟨a0, a1, a2, sent_of g0 hv0 hc0, sent_of g1 hv1 hc1, sent_of g2 hv2 hc2⟩

theorem witness_begin (os : Os) {H : Type} (enc : TypeId × Value → H) :
    (OpenSpec.ofChange Rows.lawS1208CBeginSpec).preRow enc Ybaf.prog Ybaf.f4 [] false Rows.lawS1208CBeginRow.laid ((World.doorLaid Ybaf.prog 66 os).forCall (fun _ _ => 0) ⟨#[], #[.slice none 0 0, .slice none 0 0, .int .u8 0, .int .u8 0], []⟩).memory #[.slice none 0 0, .slice none 0 0, .int .u8 0, .int .u8 0] := by
  have hw : (DataW.whole enc Ybaf.prog ((World.doorLaid Ybaf.prog 66 os).forCall (fun _ _ => 0) ⟨#[], #[.slice none 0 0, .slice none 0 0, .int .u8 0, .int .u8 0], []⟩).memory Ybaf.f4.params.toList (OpenSpec.ofChange Rows.lawS1208CBeginSpec).vars false #[Value.slice none 0 0, .slice none 0 0, .int .u8 0, .int .u8 0].toList 8).isSome = true := by kernel_rfl
  obtain ⟨x, hx⟩ := Option.isSome_iff_exists.1 hw
  exact OpenSpec.preRow_of_cond 8 hx (by kernel_rfl) (fun k hk => by cases hk) (by kernel_rfl) (door_met os _)

theorem trodVars_three {H : Type} {enc : TypeId × Value → H} {P : Program} {w : World} {spare : Nat → Bool} {n0 n1 n2 : String} {gs : List (DataW H)} {ps : List MemPlace} (h : DataW.TrodVars enc P w spare [n0, n1, n2] gs ps) : ∃ g0 g1 g2, gs = [g0, g1, g2] := by
  match gs, h with
  | [g0, g1, g2], _ => exact ⟨g0, g1, g2, rfl⟩

/-- A slice of integers, as the walk reads it. -/
theorem cells_of {H : Type} {enc : TypeId × Value → H} {W : World} {k : IntKind} {t e : TypeId} {a0 : Option Addr} {len0 cap0 : Nat} {d : DataW H} {p : List MemPlace}
    (ht : Ybaf.prog.underlying t = some (.slice e)) (he : Ybaf.prog.underlying e = some (.int k)) (hc : Ybaf.prog.cellsOf e = 1)
    (h : DataW.Trod enc Ybaf.prog W 0 (fun _ => true) true t (.slice a0 len0 cap0) d p) :
    ∃ z : List Int, Cells W W.heap.size k a0 len0 (fun j => z.getD j 0) ∧ len0 ≤ 9223372036854775807 ∧ ∀ n ∈ z, (Lit.int k n).wf = true := by
  obtain ⟨fuel, hf⟩ := h
  rcases open_ints ht he hc hf with ⟨hcs, _⟩ | ⟨x, l, c, zs, hcs, _, hl, hm, hz, _, hcell, hwz⟩
  · simp [Value.cells] at hcs
    obtain ⟨rfl, rfl, rfl⟩ := hcs
    exact ⟨[], fun h => by omega, by omega, fun n hn => by cases hn⟩
  · simp [Value.cells] at hcs
    obtain ⟨rfl, rfl, rfl⟩ := hcs
    have hz' : zs.length = cap0 := by simpa using hz
    refine ⟨zs, fun hpos => ?_, by unfold maxLen at hm; omega, hwz⟩
    obtain ⟨bk, off, spot⟩ := x
    have hspot : spot = none := by simpa [Addr.add] using World.cell?_spot (hcell 0 (by omega))
    subst hspot
    exact ⟨bk, off, rfl, World.block_lt_of_cell? _ _ (hcell 0 (by omega)), fun j hj => by rw [← Addr.add_lit]; exact hcell j (by omega)⟩
theorem bytes_getD {z : List Int} (h : ∀ n ∈ z, (Lit.int .u8 n).wf = true) (j : Nat) : 0 ≤ z.getD j 0 ∧ z.getD j 0 ≤ 255 := by
  rw [List.getD_eq_getElem?_getD]
  rcases Nat.lt_or_ge j z.length with hj | hj
  · rw [List.getElem?_eq_getElem hj]
    exact bounds_u8 (h _ (List.getElem_mem hj))
  · rw [List.getElem?_eq_none hj]
    simp

set_option maxRecDepth 100000 in
theorem lifted (os : Os) (started : os.Started) (H : Type) (enc : TypeId × Value → H) :
    ReturnsInTold none {} Ybaf.checked os 4 .any Input.okWide ((OpenSpec.ofChange Rows.lawS1208CBeginSpec).preRow enc Ybaf.prog Ybaf.f4 [] false Rows.lawS1208CBeginRow.laid) (fun F => ((OpenSpec.ofChange Rows.lawS1208CBeginSpec).at F).post enc Ybaf.prog Ybaf.f4 false true false false) (aloneAtReturn Ybaf.prog) nothingAlways := by
  refine returnsInTold_of_row (C := Ybaf.checked) (s := OpenSpec.ofChange Rows.lawS1208CBeginSpec) (by kernel_rfl) own started (by kernel_rfl) Ybaf.func4
    (OpenSpec.witness_stopped_atRef (enc := enc) (C := Ybaf.checked) false (World.doorLaid Ybaf.prog 66 os) #[.slice none 0 0, .slice none 0 0, .int .u8 0, .int .u8 0] rfl (by kernel_rfl) (by kernel_rfl) (by kernel_rfl) (witness_begin os enc)) ?_
  intro F W base args ds gs before _ hF hval0 hW _ _ hsz hL _
  have hval : ∀ (j : Nat) t v, Ybaf.f4.params[j]? = some t → args[j]? = some v → Value.okWide Ybaf.prog W .any base t v := hval0
  have hW' := hW
  obtain ⟨p, q, hA0, hV0, rfl, hfz, hnd⟩ := hW
  have hA : DataW.TrodAll enc Ybaf.prog W 0 (fun _ => true) true Ybaf.f4.params.toList args.toList ds p := hA0
  have hV : DataW.TrodVars enc Ybaf.prog W (fun _ => true) Rows.lawS1208CBeginSpec.vars gs q := hV0
  rw [Ybaf.params4] at hA hval
  obtain ⟨v0, v1, v2, v3, d0, d1, d2, d3, p0, p1, p2, p3, rfl, rfl, rfl, h0, h1, h2, h3⟩ := trodAll_four hA
  obtain ⟨e0, e1, e2, rfl⟩ : ∃ g0 g1 g2, gs = [g0, g1, g2] := trodVars_three hV
  obtain ⟨a0, len0, cap0, rfl⟩ := okWide_slice Ybaf.underlying61 (hval 0 61 v0 rfl rfl)
  obtain ⟨a1, len1, cap1, rfl⟩ := okWide_slice Ybaf.underlying62 (hval 1 62 v1 rfl rfl)
  have k0 := h0
  have k1 := h1
  have lt0 : ∀ x ∈ p0, x.block < W.heap.size := by obtain ⟨m, hm⟩ := k0; exact DataW.trod_lt m _ _ _ hm
  have lt1 : ∀ x ∈ p1, x.block < W.heap.size := by obtain ⟨m, hm⟩ := k1; exact DataW.trod_lt m _ _ _ hm
  obtain ⟨z0, hz0, hl0, hw0⟩ := cells_of (k := .u8) Ybaf.underlying61 Ybaf.underlying5 (by kernel_rfl) h0
  obtain ⟨z1, hz1, hl1, hw1⟩ := cells_of (k := .u64) Ybaf.underlying62 Ybaf.underlying28 (by kernel_rfl) h1
  obtain ⟨x2, rfl, rfl, rfl, w2⟩ := open_int Ybaf.underlying5 (hval 2 5 v2 rfl rfl) h2
  obtain ⟨x3, rfl, rfl, rfl, w3⟩ := open_int Ybaf.underlying5 (hval 3 5 v3 rfl rfl) h3
  obtain ⟨s0, s1, s2, hs0, hs1, hs2⟩ := of_laid hL
  have b2 := bounds_u8 w2
  have b3 := bounds_u8 w3
  clear hA0 hval0 hV0
  refine (begin_walk F.told a0 len0 cap0 (fun j => z0.getD j 0) a1 len1 cap1 (fun j => z1.getD j 0) x2 x3 W hF hz0 (bytes_getD hw0) hz1 hl0 hl1 b2.1 b2.2 b3.1 b3.2 s0 s1 s2 hs0 hs1 hs2).mono fun e W' ⟨he, bel⟩ => ?_
  subst he
  exact ⟨_, rfl, _, _, _, [], _, _, hW', trodAll_mk1 (shut_bool Ybaf.underlying4 _), trodAll_mk4 (Below.trod laidOut (by kernel_rfl) (of_decide_eq_true (by kernel_rfl)) k0 bel lt0) (Below.trod laidOut (by kernel_rfl) (of_decide_eq_true (by kernel_rfl)) k1 bel lt1) (shut_int Ybaf.underlying5 w2) (shut_int Ybaf.underlying5 w3), Below.trodVars laidOut bel (by kernel_rfl) hV, bel.frame _, fun h => by cases h⟩

/-- The card. -/
theorem proved : Rows.LawS1208CBeginToldSaid :=
  Claim7.holds_of_told_tied_any_at .later 4 Ybaf.f4 "fmt.errorf" [] [] _ _ _ _ _ (by kernel_rfl) rfl rfl rfl laidOut (by kernel_rfl) rfl ⟨rfl, rfl, rfl, rfl, rfl, rfl, rfl⟩ rfl rfl (by kernel_rfl) (by kernel_rfl) Ybaf.func4 (by kernel_rfl)
    (of_decide_eq_true (by kernel_rfl)) (of_decide_eq_true (by kernel_rfl)) stops.symm rfl stopKnobs.symm (by kernel_rfl)
    (by kernel_rfl) (by kernel_rfl) (by kernel_rfl) (by kernel_rfl) (by kernel_rfl) (by kernel_rfl) (by kernel_rfl) (by kernel_rfl) (by kernel_rfl) rfl (by kernel_rfl) rfl rfl
    rfl rfl
    rfl (by kernel_rfl) (by kernel_rfl) (by kernel_rfl) (by decide) (by kernel_rfl) lawS1208CBegin_row_tie
    (OpenClaim.moreEntering_of (by kernel_rfl) (by kernel_rfl) (by kernel_rfl) (by kernel_rfl) (by kernel_rfl) (by kernel_rfl) (by kernel_rfl) (by kernel_rfl) (by kernel_rfl) (by kernel_rfl))
    ⟨_, WideRow.started_initial, quiet _⟩
    (fun os started _ H enc _ => lifted os started H enc)
end Go.Proofs.YbulkxzmFmt.lawS1208CBegin
