/-
  THE FOUR READINGS OF THE LAW.
-/
import Derived.Test.YbulkxxiDoorTop
import Derived.Test.YbulkxxiDoorGen
namespace Go.Proofs.YbulkxxiDoor
open Go.RowKit
set_option linter.unusedVariables false

/-- The first reading: at the top, with a part to record in. -/
theorem top_ok (f : Nat) (bs : List Int) (m : Int) (h : Val f bs m) (hf : f ≤ 50) (g n cap : Nat) (l : List Int) (w : World) (P N : Nat) (he : Env w g n l) (hP : P ≠ g) (hP3 : 3 ≤ P) (hp : Part0 w P 0 N) (hcap : n ≤ cap) (ha : At l 0 bs) (hE : Ends l bs.length) :
    Calls Ybad.prog 6 #[.slice (some ⟨g, 0, none⟩) n cap, .int .i64 0, .int .i64 0, .pointer (some ⟨P, 0, none⟩)] w fun e' w' => e' = .returned (.tuple #[.int .i64 bs.length, .bool true]) ∧ PS w w' P N ∧ ∃ pl : Int, w'.cell? ⟨P, 3, none⟩ = some (.int .i64 pl) ∧ (m < 0 → pl = 0) ∧ (0 ≤ m → pl = m) := by
  have hleaf : bs ∈ leaves → m = -1 → Calls Ybad.prog 6 #[.slice (some ⟨g, 0, none⟩) n cap, .int .i64 0, .int .i64 0, .pointer (some ⟨P, 0, none⟩)] w fun e' w' => e' = .returned (.tuple #[.int .i64 bs.length, .bool true]) ∧ PS w w' P N ∧ ∃ pl : Int, w'.cell? ⟨P, 3, none⟩ = some (.int .i64 pl) ∧ (m < 0 → pl = 0) ∧ (0 ≤ m → pl = m) := by
    intro hl hm
    refine (skip_leaf bs hl g n cap 0 0 0 _ l w he hcap rfl ha (by rw [Nat.zero_add]; exact hE)).mono ?_
    rintro e' w' ⟨rfl, hb⟩
    refine ⟨by rw [Nat.zero_add], hp.refl.below hb, 0, (hb.cell (p := ⟨P, 3, none⟩) hp.lt).trans hp.len, fun _ => rfl, fun h => by omega⟩
  cases f with
  | zero => exact hleaf h.1 h.2
  | succ f =>
    rcases h with ⟨h, hm⟩ | ⟨o, els, rfl, rfl, h3, hel⟩
    · exact hleaf h hm
    · have hall : ∀ e ∈ els, ElemOK f e ∧ PtrOK f e := fun e hx => by obtain ⟨m', hv⟩ := hel e hx; exact ⟨nil_ok f e m' hv, ptr_ok f e m' hv⟩
      refine (skip_cont o els g n cap 0 0 0 (.pointer (some ⟨P, 0, none⟩)) l w he rfl ha (fun r w' => r = .tuple #[.int .i64 (cont o els).length, .bool true] ∧ PS w w' P N ∧ w'.cell? ⟨P, 0 + 3, none⟩ = some (.int .i64 els.length)) ?_).mono ?_
      · cases o
        · refine (arr_ptr f els (fun e hx => (hall e hx).1) h3 g n cap 0 0 0 l w he P 0 N hP hP3 hp hcap rfl (by omega) (by omega) ha).mono ?_
          rintro e' w' ⟨h1, h2, h4⟩
          exact ⟨_, _, h1, by rw [Nat.zero_add], h2, h4⟩
        · refine (obj_top f els hall h3 g n cap 0 0 l w he P 0 N hP hP3 hp hcap rfl (by omega) ha).mono ?_
          rintro e' w' ⟨h1, h2, h4⟩
          exact ⟨_, _, h1, by rw [Nat.zero_add], h2, h4⟩
      · rintro e' w' ⟨r, rfl, rfl, h2, h4⟩
        exact ⟨rfl, h2, els.length, h4, fun h => by omega, fun _ => rfl⟩

set_option maxHeartbeats 1600000 in
set_option maxRecDepth 100000 in
/-- The last reading: too deep. -/
theorem deep_no (o : Bool) (els : List (List Int)) (g n cap : Nat) (l : List Int) (w : World) (he : Env w g n l) (ha : At l 0 (cont o els)) :
    Calls Ybad.prog 6 #[.slice (some ⟨g, 0, none⟩) n cap, .int .i64 0, .int .i64 10000, .pointer none] w fun e' w' => e' = .returned (.tuple #[.int .i64 0, .bool false]) ∧ w' = w := by
  refine (skip_cont o els g n cap 0 0 10000 (.pointer none) l w he rfl ha (fun r w' => r = .tuple #[.int .i64 0, .bool false] ∧ w' = w) ?_).mono ?_
  · have hbig := he.txt.big
    obtain ⟨⟨hv, hh⟩, _⟩ := at_cons.1 ha
    have hln := he.txt.len
    have c0 := he.txt.cell 0 (by omega)
    rw [hh] at c0
    have hI : (0 : Int) < (n : Int) := by omega
    clear he ha hh hln hv
    cases o
    · have c1 : w.cell? ⟨g, 0, none⟩ = some (.int .u8 91) := c0
      clear c0
      go_enter Ybad.func8, Ybad.ntmps8
      go_wp2
      go_ret2
      exact ⟨0, false, rfl, rfl, rfl⟩
    · have c1 : w.cell? ⟨g, 0, none⟩ = some (.int .u8 123) := c0
      clear c0
      go_enter Ybad.func8, Ybad.ntmps8
      go_wp2
      go_ret2
      exact ⟨0, false, rfl, rfl, rfl⟩
  · rintro e' w' ⟨r, rfl, rfl, h2⟩
    exact ⟨rfl, h2⟩

theorem leaf_bytes : ∀ bs ∈ leaves, ∀ b ∈ bs, 0 ≤ b ∧ b ≤ 255 := by decide
theorem join_bytes (o : Bool) : ∀ (els : List (List Int)), (∀ e ∈ els, ∀ b ∈ e, 0 ≤ b ∧ b ≤ 255) → ∀ b ∈ join o els, 0 ≤ b ∧ b ≤ 255
  | [], _, b, hb => by simp [join] at hb
  | [e], h, b, hb => by
    have hk : ∀ c ∈ key o, 0 ≤ c ∧ c ≤ 255 := by cases o <;> decide
    simp only [join, List.mem_append] at hb
    exact hb.elim (hk b) (h e (by simp) b)
  | e :: e' :: r, h, b, hb => by
    have hk : ∀ c ∈ key o, 0 ≤ c ∧ c ≤ 255 := by cases o <;> decide
    have hs : ∀ c ∈ [44, sep o], 0 ≤ c ∧ c ≤ 255 := by cases o <;> decide
    simp only [join, List.mem_append] at hb
    rcases hb with ((hb | hb) | hb) | hb
    · exact hk b hb
    · exact h e (by simp) b hb
    · exact hs b hb
    · exact join_bytes o (e' :: r) (fun x hx => h x (List.mem_cons_of_mem _ hx)) b hb
theorem val_bytes : ∀ (f : Nat) (bs : List Int) (m : Int), Val f bs m → ∀ b ∈ bs, 0 ≤ b ∧ b ≤ 255
  | 0, bs, m, h => leaf_bytes bs h.1
  | f + 1, bs, m, h => by
    rcases h with ⟨h, _⟩ | ⟨o, els, rfl, _, _, hel⟩
    · exact leaf_bytes bs h
    · intro b hb
      have ho : 0 ≤ opn o ∧ opn o ≤ 255 := by cases o <;> decide
      have hc : 0 ≤ cls o ∧ cls o ≤ 255 := by cases o <;> decide
      simp only [cont, List.mem_cons, List.mem_append, List.not_mem_nil, or_false] at hb
      rcases hb with rfl | hb | rfl
      · exact ho
      · exact join_bytes o els (fun e he => by obtain ⟨m', hv⟩ := hel e he; exact val_bytes f e m' hv) b hb
      · exact hc
theorem bytes_getD {l : List Int} (h : ∀ b ∈ l, 0 ≤ b ∧ b ≤ 255) (j : Nat) : 0 ≤ l.getD j 0 ∧ l.getD j 0 ≤ 255 := by
  by_cases hj : j < l.length
  · rw [List.getD_eq_getElem?_getD, List.getElem?_eq_getElem hj]; exact h _ (List.getElem_mem hj)
  · rw [List.getD_eq_getElem?_getD, List.getElem?_eq_none (by omega)]; decide
end Go.Proofs.YbulkxxiDoor
