/-
  skipValue.
-/
import Derived.Test.YbulkxxiDoorNil2
namespace Go.Proofs.YbulkxxiDoor
open Go.RowKit
set_option linter.unusedVariables false

set_option maxHeartbeats 1600000 in
theorem skip_lTrue (g n cap v : Nat) (x d : Int) (pv : Value) (l : List Int) (w : World) (he : Env w g n l) (hcap : n ≤ cap) (hx : x = v) (ha : At l v lTrue) (hf : Ends l (v + 4)) :
    Calls Ybad.prog 6 #[.slice (some ⟨g, 0, none⟩) n cap, .int .i64 x, .int .i64 d, pv] w fun e' w' => e' = .returned (.tuple #[.int .i64 (v + 4 : Nat), .bool true]) ∧ Below w.heap.size w w' := by
  subst hx
  have hbig := he.txt.big
  have hin : v + 4 ≤ n := by have := ha.1; have := he.txt.len; simp [lTrue] at *; omega
  have c0 : w.cell? ⟨g, v, none⟩ = some (.int .u8 116) := ha.cell he.txt 0 (by decide)
  have hI : (v : Int) < (n : Int) := by omega
  have d1 : decide ((n : Int) ≤ (v : Int)) = false := decide_eq_false (by omega)
  have hw := word_any g n cap v _ rfl l w he.txt hcap lTrue 4 rfl (by decide) ha
  rw [show strOfNums lTrue = ⟨#[116, 114, 117, 101]⟩ from by decide] at hw
  have HW : Hid (Calls Ybad.prog 9 #[.slice (some ⟨g, 0, none⟩) n cap, .int .i64 (v : Int), .string ⟨#[116, 114, 117, 101]⟩] w fun e w' => e = .returned (.tuple #[.int .i64 (v + 4 : Nat), .bool true]) ∧ w' = w) := hw
  clear hw he ha hf
  go_enter Ybad.func6, Ybad.ntmps6
  go_wp2_with (go_at_call 9; refine HW.out.mono ?_; rintro e w' ⟨rfl, rfl⟩)
  go_ret2
  exact ⟨ret_two (by omega), Below.refl _ _⟩
set_option maxHeartbeats 1600000 in
theorem skip_lFalse (g n cap v : Nat) (x d : Int) (pv : Value) (l : List Int) (w : World) (he : Env w g n l) (hcap : n ≤ cap) (hx : x = v) (ha : At l v lFalse) (hf : Ends l (v + 5)) :
    Calls Ybad.prog 6 #[.slice (some ⟨g, 0, none⟩) n cap, .int .i64 x, .int .i64 d, pv] w fun e' w' => e' = .returned (.tuple #[.int .i64 (v + 5 : Nat), .bool true]) ∧ Below w.heap.size w w' := by
  subst hx
  have hbig := he.txt.big
  have hin : v + 5 ≤ n := by have := ha.1; have := he.txt.len; simp [lFalse] at *; omega
  have c0 : w.cell? ⟨g, v, none⟩ = some (.int .u8 102) := ha.cell he.txt 0 (by decide)
  have hI : (v : Int) < (n : Int) := by omega
  have d1 : decide ((n : Int) ≤ (v : Int)) = false := decide_eq_false (by omega)
  have hw := word_any g n cap v _ rfl l w he.txt hcap lFalse 5 rfl (by decide) ha
  rw [show strOfNums lFalse = ⟨#[102, 97, 108, 115, 101]⟩ from by decide] at hw
  have HW : Hid (Calls Ybad.prog 9 #[.slice (some ⟨g, 0, none⟩) n cap, .int .i64 (v : Int), .string ⟨#[102, 97, 108, 115, 101]⟩] w fun e w' => e = .returned (.tuple #[.int .i64 (v + 5 : Nat), .bool true]) ∧ w' = w) := hw
  clear hw he ha hf
  go_enter Ybad.func6, Ybad.ntmps6
  go_wp2_with (go_at_call 9; refine HW.out.mono ?_; rintro e w' ⟨rfl, rfl⟩)
  go_ret2
  exact ⟨ret_two (by omega), Below.refl _ _⟩
set_option maxHeartbeats 1600000 in
theorem skip_lNull (g n cap v : Nat) (x d : Int) (pv : Value) (l : List Int) (w : World) (he : Env w g n l) (hcap : n ≤ cap) (hx : x = v) (ha : At l v lNull) (hf : Ends l (v + 4)) :
    Calls Ybad.prog 6 #[.slice (some ⟨g, 0, none⟩) n cap, .int .i64 x, .int .i64 d, pv] w fun e' w' => e' = .returned (.tuple #[.int .i64 (v + 4 : Nat), .bool true]) ∧ Below w.heap.size w w' := by
  subst hx
  have hbig := he.txt.big
  have hin : v + 4 ≤ n := by have := ha.1; have := he.txt.len; simp [lNull] at *; omega
  have c0 : w.cell? ⟨g, v, none⟩ = some (.int .u8 110) := ha.cell he.txt 0 (by decide)
  have hI : (v : Int) < (n : Int) := by omega
  have d1 : decide ((n : Int) ≤ (v : Int)) = false := decide_eq_false (by omega)
  have hw := word_any g n cap v _ rfl l w he.txt hcap lNull 4 rfl (by decide) ha
  rw [show strOfNums lNull = ⟨#[110, 117, 108, 108]⟩ from by decide] at hw
  have HW : Hid (Calls Ybad.prog 9 #[.slice (some ⟨g, 0, none⟩) n cap, .int .i64 (v : Int), .string ⟨#[110, 117, 108, 108]⟩] w fun e w' => e = .returned (.tuple #[.int .i64 (v + 4 : Nat), .bool true]) ∧ w' = w) := hw
  clear hw he ha hf
  go_enter Ybad.func6, Ybad.ntmps6
  go_wp2_with (go_at_call 9; refine HW.out.mono ?_; rintro e w' ⟨rfl, rfl⟩)
  go_ret2
  exact ⟨ret_two (by omega), Below.refl _ _⟩
set_option maxHeartbeats 1600000 in
theorem skip_lN0 (g n cap v : Nat) (x d : Int) (pv : Value) (l : List Int) (w : World) (he : Env w g n l) (hcap : n ≤ cap) (hx : x = v) (ha : At l v lN0) (hf : Ends l (v + 1)) :
    Calls Ybad.prog 6 #[.slice (some ⟨g, 0, none⟩) n cap, .int .i64 x, .int .i64 d, pv] w fun e' w' => e' = .returned (.tuple #[.int .i64 (v + 1 : Nat), .bool true]) ∧ Below w.heap.size w w' := by
  subst hx
  have hbig := he.txt.big
  have hin : v + 1 ≤ n := by have := ha.1; have := he.txt.len; simp [lN0] at *; omega
  have c0 : w.cell? ⟨g, v, none⟩ = some (.int .u8 48) := ha.cell he.txt 0 (by decide)
  have hI : (v : Int) < (n : Int) := by omega
  have d1 : decide ((n : Int) ≤ (v : Int)) = false := decide_eq_false (by omega)
  have hw := num_0 g n cap v _ rfl l w he.txt ha hf
  have HW : Hid (Calls Ybad.prog 10 #[.slice (some ⟨g, 0, none⟩) n cap, .int .i64 (v : Int)] w fun e w' => e = .returned (.tuple #[.int .i64 (v + 1 : Nat), .bool true]) ∧ w' = w) := hw
  clear hw he ha hf
  go_enter Ybad.func6, Ybad.ntmps6
  go_wp2_with (go_at_call 10; refine HW.out.mono ?_; rintro e w' ⟨rfl, rfl⟩)
  go_ret2
  exact ⟨ret_two (by omega), Below.refl _ _⟩
set_option maxHeartbeats 1600000 in
theorem skip_lN1 (g n cap v : Nat) (x d : Int) (pv : Value) (l : List Int) (w : World) (he : Env w g n l) (hcap : n ≤ cap) (hx : x = v) (ha : At l v lN1) (hf : Ends l (v + 2)) :
    Calls Ybad.prog 6 #[.slice (some ⟨g, 0, none⟩) n cap, .int .i64 x, .int .i64 d, pv] w fun e' w' => e' = .returned (.tuple #[.int .i64 (v + 2 : Nat), .bool true]) ∧ Below w.heap.size w w' := by
  subst hx
  have hbig := he.txt.big
  have hin : v + 2 ≤ n := by have := ha.1; have := he.txt.len; simp [lN1] at *; omega
  have c0 : w.cell? ⟨g, v, none⟩ = some (.int .u8 45) := ha.cell he.txt 0 (by decide)
  have hI : (v : Int) < (n : Int) := by omega
  have d1 : decide ((n : Int) ≤ (v : Int)) = false := decide_eq_false (by omega)
  have hw := num_m7 g n cap v _ rfl l w he.txt ha hf
  have HW : Hid (Calls Ybad.prog 10 #[.slice (some ⟨g, 0, none⟩) n cap, .int .i64 (v : Int)] w fun e w' => e = .returned (.tuple #[.int .i64 (v + 2 : Nat), .bool true]) ∧ w' = w) := hw
  clear hw he ha hf
  go_enter Ybad.func6, Ybad.ntmps6
  go_wp2_with (go_at_call 10; refine HW.out.mono ?_; rintro e w' ⟨rfl, rfl⟩)
  go_ret2
  exact ⟨ret_two (by omega), Below.refl _ _⟩
set_option maxHeartbeats 1600000 in
theorem skip_lN2 (g n cap v : Nat) (x d : Int) (pv : Value) (l : List Int) (w : World) (he : Env w g n l) (hcap : n ≤ cap) (hx : x = v) (ha : At l v lN2) (hf : Ends l (v + 4)) :
    Calls Ybad.prog 6 #[.slice (some ⟨g, 0, none⟩) n cap, .int .i64 x, .int .i64 d, pv] w fun e' w' => e' = .returned (.tuple #[.int .i64 (v + 4 : Nat), .bool true]) ∧ Below w.heap.size w w' := by
  subst hx
  have hbig := he.txt.big
  have hin : v + 4 ≤ n := by have := ha.1; have := he.txt.len; simp [lN2] at *; omega
  have c0 : w.cell? ⟨g, v, none⟩ = some (.int .u8 51) := ha.cell he.txt 0 (by decide)
  have hI : (v : Int) < (n : Int) := by omega
  have d1 : decide ((n : Int) ≤ (v : Int)) = false := decide_eq_false (by omega)
  have hw := num_325 g n cap v _ rfl l w he.txt ha hf
  have HW : Hid (Calls Ybad.prog 10 #[.slice (some ⟨g, 0, none⟩) n cap, .int .i64 (v : Int)] w fun e w' => e = .returned (.tuple #[.int .i64 (v + 4 : Nat), .bool true]) ∧ w' = w) := hw
  clear hw he ha hf
  go_enter Ybad.func6, Ybad.ntmps6
  go_wp2_with (go_at_call 10; refine HW.out.mono ?_; rintro e w' ⟨rfl, rfl⟩)
  go_ret2
  exact ⟨ret_two (by omega), Below.refl _ _⟩
set_option maxHeartbeats 1600000 in
theorem skip_lN3 (g n cap v : Nat) (x d : Int) (pv : Value) (l : List Int) (w : World) (he : Env w g n l) (hcap : n ≤ cap) (hx : x = v) (ha : At l v lN3) (hf : Ends l (v + 4)) :
    Calls Ybad.prog 6 #[.slice (some ⟨g, 0, none⟩) n cap, .int .i64 x, .int .i64 d, pv] w fun e' w' => e' = .returned (.tuple #[.int .i64 (v + 4 : Nat), .bool true]) ∧ Below w.heap.size w w' := by
  subst hx
  have hbig := he.txt.big
  have hin : v + 4 ≤ n := by have := ha.1; have := he.txt.len; simp [lN3] at *; omega
  have c0 : w.cell? ⟨g, v, none⟩ = some (.int .u8 49) := ha.cell he.txt 0 (by decide)
  have hI : (v : Int) < (n : Int) := by omega
  have d1 : decide ((n : Int) ≤ (v : Int)) = false := decide_eq_false (by omega)
  have hw := num_1e g n cap v _ rfl l w he.txt ha hf
  have HW : Hid (Calls Ybad.prog 10 #[.slice (some ⟨g, 0, none⟩) n cap, .int .i64 (v : Int)] w fun e w' => e = .returned (.tuple #[.int .i64 (v + 4 : Nat), .bool true]) ∧ w' = w) := hw
  clear hw he ha hf
  go_enter Ybad.func6, Ybad.ntmps6
  go_wp2_with (go_at_call 10; refine HW.out.mono ?_; rintro e w' ⟨rfl, rfl⟩)
  go_ret2
  exact ⟨ret_two (by omega), Below.refl _ _⟩
set_option maxHeartbeats 1600000 in
theorem skip_lN4 (g n cap v : Nat) (x d : Int) (pv : Value) (l : List Int) (w : World) (he : Env w g n l) (hcap : n ≤ cap) (hx : x = v) (ha : At l v lN4) (hf : Ends l (v + 8)) :
    Calls Ybad.prog 6 #[.slice (some ⟨g, 0, none⟩) n cap, .int .i64 x, .int .i64 d, pv] w fun e' w' => e' = .returned (.tuple #[.int .i64 (v + 8 : Nat), .bool true]) ∧ Below w.heap.size w w' := by
  subst hx
  have hbig := he.txt.big
  have hin : v + 8 ≤ n := by have := ha.1; have := he.txt.len; simp [lN4] at *; omega
  have c0 : w.cell? ⟨g, v, none⟩ = some (.int .u8 45) := ha.cell he.txt 0 (by decide)
  have hI : (v : Int) < (n : Int) := by omega
  have d1 : decide ((n : Int) ≤ (v : Int)) = false := decide_eq_false (by omega)
  have hw := num_05 g n cap v _ rfl l w he.txt ha hf
  have HW : Hid (Calls Ybad.prog 10 #[.slice (some ⟨g, 0, none⟩) n cap, .int .i64 (v : Int)] w fun e w' => e = .returned (.tuple #[.int .i64 (v + 8 : Nat), .bool true]) ∧ w' = w) := hw
  clear hw he ha hf
  go_enter Ybad.func6, Ybad.ntmps6
  go_wp2_with (go_at_call 10; refine HW.out.mono ?_; rintro e w' ⟨rfl, rfl⟩)
  go_ret2
  exact ⟨ret_two (by omega), Below.refl _ _⟩
set_option maxHeartbeats 1600000 in
theorem skip_str (bs : List Int) (hpos : 0 < bs.length) (hhead : headOf bs = 34) (htail : tailOK bs.tail = true) (g n cap v : Nat) (x d : Int) (pv : Value) (l : List Int) (w : World) (he : Env w g n l) (hcap : n ≤ cap) (hx : x = v) (ha : At l v bs) :
    Calls Ybad.prog 6 #[.slice (some ⟨g, 0, none⟩) n cap, .int .i64 x, .int .i64 d, pv] w fun e' w' => e' = .returned (.tuple #[.int .i64 (v + bs.length : Nat), .bool true]) ∧ Below w.heap.size w w' := by
  subst hx
  have hbig := he.txt.big
  obtain ⟨hv, hh⟩ := at_head ha hpos
  have hln := he.txt.len
  have hin := ha.1
  have c0 := he.txt.cell v (by omega)
  rw [hh, hhead] at c0
  have hI : (v : Int) < (n : Int) := by omega
  have d1 : decide ((n : Int) ≤ (v : Int)) = false := decide_eq_false (by omega)
  have hw := string_any g n cap v (v + bs.length) _ rfl l w he.txt hcap he.hg he.hg2 he.tab he.sp (by omega) (by omega) (at_tail_ok ha hpos htail)
  obtain ⟨E, hE⟩ : ∃ E, E = v + bs.length := ⟨_, rfl⟩
  rw [← hE] at hw ⊢
  have HW : Hid (Calls Ybad.prog 7 #[.slice (some ⟨g, 0, none⟩) n cap, .int .i64 (v : Int)] w fun e w' => e = .returned (.tuple #[.int .i64 E, .bool true]) ∧ Below w.heap.size w w') := hw
  clear hw he ha hh hin hln hE
  go_enter Ybad.func6, Ybad.ntmps6
  go_wp2_with (go_at_call 7; refine HW.out.mono ?_; rintro e w' ⟨rfl, hb⟩)
  go_ret2
  exact ⟨rfl, hb⟩

/-- A leaf, whatever is handed in for p. -/
theorem skip_leaf (bs : List Int) (hb : bs ∈ leaves) (g n cap v : Nat) (x d : Int) (pv : Value) (l : List Int) (w : World) (he : Env w g n l) (hcap : n ≤ cap) (hx : x = v) (ha : At l v bs) (hf : Ends l (v + bs.length)) :
    Calls Ybad.prog 6 #[.slice (some ⟨g, 0, none⟩) n cap, .int .i64 x, .int .i64 d, pv] w fun e' w' => e' = .returned (.tuple #[.int .i64 (v + bs.length : Nat), .bool true]) ∧ Below w.heap.size w w' := by
  by_cases h34 : headOf bs = 34
  · exact skip_str bs (leaf_head bs hb).1 h34 (leaf_str bs hb h34) g n cap v x d pv l w he hcap hx ha
  · simp only [leaves, List.mem_cons, List.not_mem_nil, or_false] at hb
    rcases hb with rfl | rfl | rfl | rfl | rfl | rfl | rfl | rfl | rfl | rfl | rfl | rfl
    · exact skip_lTrue g n cap v x d pv l w he hcap hx ha hf
    · exact skip_lFalse g n cap v x d pv l w he hcap hx ha hf
    · exact skip_lNull g n cap v x d pv l w he hcap hx ha hf
    · exact skip_lN0 g n cap v x d pv l w he hcap hx ha hf
    · exact skip_lN1 g n cap v x d pv l w he hcap hx ha hf
    · exact skip_lN2 g n cap v x d pv l w he hcap hx ha hf
    · exact skip_lN3 g n cap v x d pv l w he hcap hx ha hf
    · exact skip_lN4 g n cap v x d pv l w he hcap hx ha hf
    · exact absurd rfl h34
    · exact absurd rfl h34
    · exact absurd rfl h34
    · exact absurd rfl h34

set_option maxHeartbeats 1600000 in
/-- A container: skipValue hands it to skipContainer. -/
theorem skip_cont (o : Bool) (els : List (List Int)) (g n cap v : Nat) (x d : Int) (pv : Value) (l : List Int) (w : World) (he : Env w g n l) (hx : x = v) (ha : At l v (cont o els)) (Q : Value → World → Prop)
    (hC : Calls Ybad.prog 8 #[.slice (some ⟨g, 0, none⟩) n cap, .int .i64 x, .int .i64 d, pv] w fun e' w' => ∃ (j : Nat) (b : Bool), e' = .returned (.tuple #[.int .i64 j, .bool b]) ∧ Q (.tuple #[.int .i64 j, .bool b]) w') :
    Calls Ybad.prog 6 #[.slice (some ⟨g, 0, none⟩) n cap, .int .i64 x, .int .i64 d, pv] w fun e' w' => ∃ r, e' = .returned r ∧ Q r w' := by
  subst hx
  have hbig := he.txt.big
  obtain ⟨⟨hv, hh⟩, _⟩ := at_cons.1 ha
  have hln := he.txt.len
  have c0 := he.txt.cell v (by omega)
  rw [hh] at c0
  have hI : (v : Int) < (n : Int) := by omega
  have d1 : decide ((n : Int) ≤ (v : Int)) = false := decide_eq_false (by omega)
  have HC : Hid (Calls Ybad.prog 8 #[.slice (some ⟨g, 0, none⟩) n cap, .int .i64 (v : Int), .int .i64 d, pv] w fun e' w' => ∃ (j : Nat) (b : Bool), e' = .returned (.tuple #[.int .i64 j, .bool b]) ∧ Q (.tuple #[.int .i64 j, .bool b]) w') := hC
  clear hC he ha hh hln hv
  cases o
  · have c1 : w.cell? ⟨g, v, none⟩ = some (.int .u8 91) := c0
    clear c0
    go_enter Ybad.func6, Ybad.ntmps6
    go_wp2_with (go_at_call 8; refine HC.out.mono ?_; rintro e w' ⟨j, b, rfl, hq⟩)
    go_ret2
    exact ⟨_, rfl, hq⟩
  · have c1 : w.cell? ⟨g, v, none⟩ = some (.int .u8 123) := c0
    clear c0
    go_enter Ybad.func6, Ybad.ntmps6
    go_wp2_with (go_at_call 8; refine HC.out.mono ?_; rintro e w' ⟨j, b, rfl, hq⟩)
    go_ret2
    exact ⟨_, rfl, hq⟩

/-- EVERY VALUE OF THE GENERATOR's IS READ WHOLE. -/
theorem nil_ok : ∀ (f : Nat) (bs : List Int) (m : Int), Val f bs m → ElemOK f bs
  | 0, bs, m, h => ⟨(val_head 0 bs m h).1, (val_head 0 bs m h).2, val_str 0 bs m h, fun g n cap v x d l w he hcap hx _ _ ha hf => skip_leaf bs h.1 g n cap v x d _ l w he hcap hx ha hf⟩
  | f + 1, bs, m, h => by
    refine ⟨(val_head _ bs m h).1, (val_head _ bs m h).2, val_str _ bs m h, fun g n cap v x d l w he hcap hx hd0 hd ha hf => ?_⟩
    rcases h with ⟨h, _⟩ | ⟨o, els, rfl, _, h3, hel⟩
    · exact skip_leaf bs h g n cap v x d _ l w he hcap hx ha hf
    · have hall : ∀ e ∈ els, ElemOK f e := fun e hx => by obtain ⟨m', hv⟩ := hel e hx; exact nil_ok f e m' hv
      refine (skip_cont o els g n cap v x d (.pointer none) l w he hx ha (fun r w' => r = .tuple #[.int .i64 (v + (cont o els).length : Nat), .bool true] ∧ Below w.heap.size w w') ?_).mono ?_
      · cases o
        · exact (arr_nil f els hall h3 g n cap v x d l w he hcap hx hd0 (by simpa using hd) ha).mono fun e' w' ⟨h1, h2⟩ => ⟨_, _, h1, rfl, h2⟩
        · exact (obj_nil f els hall h3 g n cap v x d l w he hcap hx hd0 (by simpa using hd) ha).mono fun e' w' ⟨h1, h2⟩ => ⟨_, _, h1, rfl, h2⟩
      · rintro e' w' ⟨r, rfl, rfl, h2⟩
        exact ⟨rfl, h2⟩
end Go.Proofs.YbulkxxiDoor
