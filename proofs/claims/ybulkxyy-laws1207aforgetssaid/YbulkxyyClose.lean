/-
  THE CALLEES: zzs1207aid, closeDialog (with Timer.Stop).
-/
import Derived.Test.YbulkxyyMap
import Derived.Maps.AppendAt
namespace Go.Proofs.Ybulkxyy
open Go.RowKit Go.Maps
set_option linter.unusedVariables false

/-- The keys, as the walk reads them. -/
def Keys (w : World) (B : Nat) (a : Option Addr) (n : Nat) (ss : List ByteArray) : Prop :=
  (∀ j, (ss.getD j ByteArray.empty).size ≤ maxLen) ∧ (0 < n → ∃ b off, a = some ⟨b, off, none⟩ ∧ b < B ∧ ∀ j, j < n → w.cell? ⟨b, off + j, none⟩ = some (.string (ss.getD j ByteArray.empty)))
theorem Keys.below {w w' : World} {B : Nat} {a : Option Addr} {n : Nat} {ss : List ByteArray} (h : Keys w B a n ss) (hb : Below B w w') : Keys w' B a n ss :=
  ⟨h.1, fun hn => by
    obtain ⟨b, off, ha, hbB, hc⟩ := h.2 hn
    exact ⟨b, off, ha, hbB, fun j hj => (hb.cell (p := ⟨b, off + j, none⟩) hbB).trans (hc j hj)⟩⟩

set_option maxHeartbeats 800000 in
set_option maxRecDepth 100000 in
theorem id_any (B : Nat) (a : Option Addr) (n cap : Nat) (ss : List ByteArray) (pick : Int) (own : ByteArray) (w : World) (hk : Keys w B a n ss) (hn : n ≤ 1024) (hp0 : 0 ≤ pick) (hp1 : pick ≤ 255) (ho : own.size ≤ maxLen) :
    Calls Yba.prog 4 #[.slice a n cap, .int .u8 pick, .string own] w fun e w' => (∃ s : ByteArray, e = .returned (.string s) ∧ s.size ≤ maxLen) ∧ w' = w := by
  cases h3 : (pick % 3 != 0)
  · go_enter Yba.func4, Yba.ntmps4
    go_wp2
    go_ret
    exact ⟨⟨own, rfl, ho⟩, rfl⟩
  · by_cases hz : n = 0
    · subst hz
      go_enter Yba.func4, Yba.ntmps4
      go_wp2
      go_ret
      exact ⟨⟨own, rfl, ho⟩, rfl⟩
    · obtain ⟨b, off, rfl, hbB, hc⟩ := hk.2 (by omega)
      have hpos : (0 : Int) < (n : Int) := by omega
      obtain ⟨j, hj, hjn⟩ : ∃ j : Nat, pick % (n : Int) = (j : Int) ∧ j < n := by
        have h1 := Int.emod_nonneg pick (show (n : Int) ≠ 0 by omega)
        have h2 := Int.emod_lt_of_pos pick hpos
        exact ⟨(pick % (n : Int)).toNat, by omega, by omega⟩
      have hcj := hc j hjn
      have hs := hk.1 j
      obtain ⟨s, hsd⟩ : ∃ s, s = ss.getD j ByteArray.empty := ⟨_, rfl⟩
      rw [← hsd] at hcj hs
      have HS : Hid (s.size ≤ maxLen) := hs
      have hjI : (j : Int) < (n : Int) := by omega
      clear hc hk hsd hs
      go_enter Yba.func4, Yba.ntmps4
      go_wp2
      go_ret
      exact ⟨⟨s, rfl, HS.out⟩, rfl⟩

/-- The map behind t rounds. -/
def dels (D : DataW Unit) (k0 k1 : Lit) : Nat → DataW Unit
  | 0 => D
  | 1 => D.del k0
  | _ => (D.del k0).del k1

set_option maxHeartbeats 800000 in
set_option maxRecDepth 100000 in
/-- closeDialog. -/
theorem close_any (PB DB b n : Nat) (D : DataW Unit) (id0 id1 : ByteArray) (tm : Value) (w : World) (hown : Own w b n D) (hDb : b ≠ DB) (hp : w.cell? ⟨PB, 9, none⟩ = some (.map (some b))) (hPD : PB ≠ DB) (hPb : PB ≠ b)
    (h0 : w.cell? ⟨DB, 0, none⟩ = some (.string id0)) (h1 : w.cell? ⟨DB, 1, none⟩ = some (.string id1)) (hi : w.cell? ⟨DB, 13, none⟩ = some tm) (htm : tm = .pointer none ∨ ∃ TB, tm = .pointer (some ⟨TB, 0, none⟩) ∧ w.cell? ⟨TB, 0, none⟩ = some (.pointer none))
    (hc : w.cell? ⟨DB, 14, none⟩ = some (.bool false)) (hf : w.frozen? ⟨DB, 14, none⟩ = false) (hs0 : id0.size ≤ maxLen) (hs1 : id1.size ≤ maxLen) :
    Calls Yba.prog 5 #[.pointer (some ⟨PB, 0, none⟩), .pointer (some ⟨DB, 0, none⟩)] w fun e w' => e = .returned (.tuple #[]) ∧ Own w' b n ((D.del (.string id0.data.toList)).del (.string id1.data.toList)) ∧ (w.setCell ⟨DB, 14, none⟩ (.bool true)).grownBy w' (some b) := by
  have HOWN : Hid (Own w b n D) := hown
  have hbDB : ¬ DB = b := fun h => hDb h.symm
  clear hown
  have HM : Hid (∀ wx, (w.setCell ⟨DB, 14, none⟩ (.bool true)).grownBy wx (some b) → wx.cell? ⟨PB, 9, none⟩ = some (.map (some b))) := fun wx h =>
    h.cell (by rw [World.cell?_setCell_other _ _ _ _ (by simp)]; exact hp) (by simpa using hPb)
  have hix0 : ∀ w, (Instr.index 25 (.agg #[.string id0, .string id1]) (.int .i64 0)).run Yba.prog w = .ok (.string id0) w := fun w => by kernel_rfl
  have hix1 : ∀ w, (Instr.index 25 (.agg #[.string id0, .string id1]) (.int .i64 1)).run Yba.prog w = .ok (.string id1) w := fun w => by kernel_rfl
  rcases htm with rfl | ⟨TB, rfl, hT⟩
  all_goals
    go_enter Yba.func5, Yba.ntmps5
    go_wp2_with go_in
    go_end0
    go_wp2_with fail
    go_loopw [18] (fun i wr => ∃ t : Nat, t ≤ 2 ∧ i = .int .i64 t ∧ Own wr b n (dels D (.string id0.data.toList) (.string id1.data.toList) t) ∧ (w.setCell ⟨DB, 14, none⟩ (.bool true)).grownBy wr (some b)) (fun i _ => 2 - (intOf i).toNat)
    case atStart => exact ⟨0, by omega, rfl, HOWN.out.setCell hDb _, World.grownBy.refl _ _⟩
    case round =>
      obtain ⟨t, ht, rfl, hown, hgr⟩ := hrel
      have hm := HM.out wr hgr
      rcases (show t = 0 ∨ t = 1 ∨ t = 2 from by omega) with rfl | rfl | rfl
      · have HO : Hid (Own wr b n D) := hown
        clear hown
        rw [show ((0 : Nat) : Int) = 0 from rfl]
        go_wp2_with (at_delete; refine del _ rfl (.tmp 24) (.tmp 25) rfl b n D rfl HO.out id0 rfl hs0 ?_; intro w1 hown1 hgrow1)
        go_roundw
        case rel => exact ⟨1, by omega, by go_num, hown1, hgr.trans hgrow1⟩
        case measure => simp [intOf]
      · have HO : Hid (Own wr b n (D.del (.string id0.data.toList))) := hown
        clear hown
        rw [show ((1 : Nat) : Int) = 1 from rfl]
        go_wp2_with (at_delete; refine del _ rfl (.tmp 24) (.tmp 25) rfl b n _ rfl HO.out id1 rfl hs1 ?_; intro w1 hown1 hgrow1)
        go_roundw
        case rel => exact ⟨2, by omega, by go_num, hown1, hgr.trans hgrow1⟩
        case measure => simp [intOf]
      · go_wp2
        go_end0
        exact ⟨rfl, hown, hgr⟩
end Go.Proofs.Ybulkxyy
