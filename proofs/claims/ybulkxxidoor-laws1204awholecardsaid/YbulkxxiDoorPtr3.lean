/-
  skipValue with a part to record in, not at the top.
-/
import Derived.Test.YbulkxxiDoorPtr
import Derived.Test.YbulkxxiDoorPtr2
namespace Go.Proofs.YbulkxxiDoor
open Go.RowKit
set_option linter.unusedVariables false

def PtrOK (f : Nat) (e : List Int) : Prop := ∀ (g n cap v : Nat) (x d : Int) (l : List Int) (w : World) (P off N : Nat), Env w g n l → P ≠ g → 3 ≤ P → Part0 w P off N → n ≤ cap → x = v → 1 ≤ d → d + f ≤ 100 → At l v e → Ends l (v + e.length) →
  Calls Ybad.prog 6 #[.slice (some ⟨g, 0, none⟩) n cap, .int .i64 x, .int .i64 d, .pointer (some ⟨P, off, none⟩)] w fun e' w' => e' = .returned (.tuple #[.int .i64 (v + e.length : Nat), .bool true]) ∧ PS w w' P N

theorem ptr_ok : ∀ (f : Nat) (bs : List Int) (m : Int), Val f bs m → PtrOK f bs
  | 0, bs, m, h => fun g n cap v x d l w P off N he hP hP3 hp hcap hx _ _ ha hf => (skip_leaf bs h.1 g n cap v x d _ l w he hcap hx ha hf).mono fun e' w' ⟨h1, h2⟩ => ⟨h1, hp.refl.below h2⟩
  | f + 1, bs, m, h => fun g n cap v x d l w P off N he hP hP3 hp hcap hx hd0 hd ha hf => by
    rcases h with ⟨h, _⟩ | ⟨o, els, rfl, _, h3, hel⟩
    · exact (skip_leaf bs h g n cap v x d _ l w he hcap hx ha hf).mono fun e' w' ⟨h1, h2⟩ => ⟨h1, hp.refl.below h2⟩
    · have hall : ∀ e ∈ els, ElemOK f e := fun e hx => by obtain ⟨m', hv⟩ := hel e hx; exact nil_ok f e m' hv
      refine (skip_cont o els g n cap v x d (.pointer (some ⟨P, off, none⟩)) l w he hx ha (fun r w' => r = .tuple #[.int .i64 (v + (cont o els).length : Nat), .bool true] ∧ PS w w' P N) ?_).mono ?_
      · cases o
        · exact (arr_ptr f els hall h3 g n cap v x d l w he P off N hP hP3 hp hcap hx (by omega) (by simpa using hd) ha).mono fun e' w' ⟨h1, h2, _⟩ => ⟨_, _, h1, rfl, h2⟩
        · exact (obj_ptr f els hall h3 g n cap v x d l w he P off N hP hP3 hp hcap hx hd0 (by simpa using hd) ha).mono fun e' w' ⟨h1, h2, _⟩ => ⟨_, _, h1, rfl, h2⟩
      · rintro e' w' ⟨r, rfl, rfl, h2⟩
        exact ⟨rfl, h2⟩
end Go.Proofs.YbulkxxiDoor
