/-
  WHAT STANDS BEHIND closeDialog, at the two worlds that the law hands to it.
-/
import Derived.Test.YbulkxyyClose
import Derived.OwnWalk
import Derived.Below
namespace Go.Proofs.Ybulkxyy
open Go.RowKit Go.Maps
set_option linter.unusedVariables false

/-- Behind the call. -/
def After (w : World) (N u V DB PB : Nat) (D : DataW Unit) (xs : List Value) (s0 s1 : ByteArray) (w2 : World) : Prop :=
  Own w2 N u ((D.del (.string s0.data.toList)).del (.string s1.data.toList)) ∧ Below N w w2 ∧ w2.cell? ⟨DB, 14, none⟩ = some (.bool true) ∧ w2.cell? ⟨DB, 0, none⟩ = some (.string s0) ∧ w2.cell? ⟨DB, 1, none⟩ = some (.string s1)
    ∧ w2.cell? ⟨PB, 9, none⟩ = some (.map (some N)) ∧ ∀ j, j < u → w2.cell? ⟨V, j, none⟩ = xs[j]?

theorem close_after (w W1 : World) (N u V DB PB : Nat) (D : DataW Unit) (xs : List Value) (s0 s1 : ByteArray) (tm : Value) (hown : Own W1 N u D) (hbel : Below N w W1) (hNV : N < V) (hVD : V < DB) (hDP : DB < PB) (hPs : PB < W1.heap.size) (hrow : ∀ j, j < u → W1.cell? ⟨V, j, none⟩ = xs[j]?) (hxs : xs.length = u)
    (h0 : W1.cell? ⟨DB, 0, none⟩ = some (.string s0)) (h1 : W1.cell? ⟨DB, 1, none⟩ = some (.string s1)) (hi : W1.cell? ⟨DB, 13, none⟩ = some tm) (htm : tm = .pointer none ∨ ∃ TB, tm = .pointer (some ⟨TB, 0, none⟩) ∧ W1.cell? ⟨TB, 0, none⟩ = some (.pointer none))
    (hc : W1.cell? ⟨DB, 14, none⟩ = some (.bool false)) (hf : W1.frozen? ⟨DB, 14, none⟩ = false) (hp : W1.cell? ⟨PB, 9, none⟩ = some (.map (some N))) (hs0 : s0.size ≤ maxLen) (hs1 : s1.size ≤ maxLen) :
    Calls Yba.prog 5 #[.pointer (some ⟨PB, 0, none⟩), .pointer (some ⟨DB, 0, none⟩)] W1 fun e w2 => e = .returned (.tuple #[]) ∧ After w N u V DB PB D xs s0 s1 w2 := by
  refine (close_any PB DB N u D s0 s1 tm W1 hown (by omega) hp (by omega) (by omega) h0 h1 hi htm hc hf hs0 hs1).mono ?_
  rintro e w2 ⟨he, hown2, hgr⟩
  have hk : ∀ (b o : Nat) (v : Value), W1.cell? ⟨b, o, none⟩ = some v → (b ≠ DB ∨ o ≠ 14) → b ≠ N → w2.cell? ⟨b, o, none⟩ = some v := fun b o v h hne hbN =>
    hgr.cell (by rw [World.cell?_setCell_other _ _ _ _ (by intro e; cases e; simp at hne)]; exact h) (by simpa using hbN)
  refine ⟨he, hown2, (hbel.setCell (by simp; omega) _).grown hgr (by simp; omega) (fun k hk => by cases hk; exact Nat.le_refl _), ?_, hk _ _ _ h0 (.inr (by decide)) (by omega), hk _ _ _ h1 (.inr (by decide)) (by omega), hk _ _ _ hp (.inl (by omega)) (by omega), ?_⟩
  · exact hgr.cell (World.cell?_setCell_same' _ _ _ (by rw [hc]; rfl)) (by simp; omega)
  · intro j hj
    have := hrow j hj
    rw [List.getElem?_eq_getElem (by omega)] at this ⊢
    exact hk _ _ _ this (.inl (by omega)) (by omega)

theorem close_two (w w' : World) (N u V : Nat) (D : DataW Unit) (xs : List Value) (s0 s1 : ByteArray) (A PX : Array Value) (hown : Own w' N u D) (hbel : Below N w w') (hNV : N < V) (hVs : V < w'.heap.size) (hrow : ∀ j, j < u → w'.cell? ⟨V, j, none⟩ = xs[j]?) (hxs : xs.length = u) (hs0 : s0.size ≤ maxLen) (hs1 : s1.size ≤ maxLen)
    (hA0 : A[0]? = some (.string s0)) (hA1 : A[1]? = some (.string s1)) (hA13 : A[13]? = some (.pointer none)) (hA14 : A[14]? = some (.bool false)) (hP : PX[9]? = some (.map (some N))) :
    Calls Yba.prog 5 #[.pointer (some ⟨w'.heap.size + 1, 0, none⟩), .pointer (some ⟨w'.heap.size, 0, none⟩)] ((w'.alloc (.cells A 34)).alloc (.cells PX 58)) fun e w2 => e = .returned (.tuple #[]) ∧ After w N u V w'.heap.size (w'.heap.size + 1) D xs s0 s1 w2 := by
  have c1 : ∀ i, ((w'.alloc (.cells A 34)).alloc (.cells PX 58)).cell? ⟨w'.heap.size, i, none⟩ = A[i]? := fun i => by
    rw [World.cell?_alloc_past _ _ _ (by simp), World.cell?_alloc_at _ _ _ _ rfl]
  refine close_after w _ N u V _ _ D xs s0 s1 (.pointer none) ((hown.alloc _).alloc _) ((hbel.alloc (by omega) _).alloc (by simp; omega) _) hNV hVs (by omega) (by simp) ?_ hxs ((c1 0).trans hA0) ((c1 1).trans hA1) ((c1 13).trans hA13) (.inl rfl) ((c1 14).trans hA14) ?_ ?_ hs0 hs1
  · intro j hj
    rw [World.cell?_alloc_past _ _ _ (by simp; omega), World.cell?_alloc_past _ _ _ hVs]
    exact hrow j hj
  · rw [World.frozen?_alloc_past _ _ _ (by simp), World.frozen?_alloc_at _ _ _ _ rfl]
  · rw [World.cell?_alloc_at _ _ _ _ (by simp)]
    exact hP

theorem close_three (w w' : World) (N u V : Nat) (D : DataW Unit) (xs : List Value) (s0 s1 : ByteArray) (A T PX : Array Value) (hown : Own w' N u D) (hbel : Below N w w') (hNV : N < V) (hVs : V < w'.heap.size) (hrow : ∀ j, j < u → w'.cell? ⟨V, j, none⟩ = xs[j]?) (hxs : xs.length = u) (hs0 : s0.size ≤ maxLen) (hs1 : s1.size ≤ maxLen)
    (hA0 : A[0]? = some (.string s0)) (hA1 : A[1]? = some (.string s1)) (hA13 : A[13]? = some (.pointer (some ⟨w'.heap.size + 1, 0, none⟩))) (hA14 : A[14]? = some (.bool false)) (hT : T[0]? = some (.pointer none)) (hP : PX[9]? = some (.map (some N))) :
    Calls Yba.prog 5 #[.pointer (some ⟨w'.heap.size + 1 + 1, 0, none⟩), .pointer (some ⟨w'.heap.size, 0, none⟩)] (((w'.alloc (.cells A 34)).alloc (.cells T 40)).alloc (.cells PX 58)) fun e w2 => e = .returned (.tuple #[]) ∧ After w N u V w'.heap.size (w'.heap.size + 1 + 1) D xs s0 s1 w2 := by
  have c1 : ∀ i, (((w'.alloc (.cells A 34)).alloc (.cells T 40)).alloc (.cells PX 58)).cell? ⟨w'.heap.size, i, none⟩ = A[i]? := fun i => by
    rw [World.cell?_alloc_past _ _ _ (by simp; omega), World.cell?_alloc_past _ _ _ (by simp), World.cell?_alloc_at _ _ _ _ rfl]
  refine close_after w _ N u V _ _ D xs s0 s1 (.pointer (some ⟨w'.heap.size + 1, 0, none⟩)) (((hown.alloc _).alloc _).alloc _) (((hbel.alloc (by omega) _).alloc (by simp; omega) _).alloc (by simp; omega) _) hNV hVs (by omega) (by simp) ?_ hxs ((c1 0).trans hA0) ((c1 1).trans hA1) ((c1 13).trans hA13) (.inr ⟨_, rfl, ?_⟩) ((c1 14).trans hA14) ?_ ?_ hs0 hs1
  · intro j hj
    rw [World.cell?_alloc_past _ _ _ (by simp; omega), World.cell?_alloc_past _ _ _ (by simp; omega), World.cell?_alloc_past _ _ _ hVs]
    exact hrow j hj
  · rw [World.cell?_alloc_past _ _ _ (by simp), World.cell?_alloc_at _ _ _ _ (by simp)]
    exact hT
  · rw [World.frozen?_alloc_past _ _ _ (by simp; omega), World.frozen?_alloc_past _ _ _ (by simp), World.frozen?_alloc_at _ _ _ _ rfl]
  · rw [World.cell?_alloc_at _ _ _ _ (by simp)]
    exact hP

/-! ### The plain laws -/
theorem tidy_del {D : DataW Unit} (h : Tidy D) (k : Lit) : Tidy (D.del k) := by
  obtain ⟨es, rfl, hp⟩ := h
  exact ⟨_, rfl, hp.filter _⟩
theorem size_two {D : DataW Unit} (h : Tidy D) {k0 k1 : Lit} (hne : k1 ≠ k0) : size D = size ((D.del k0).del k1) + (if Maps.has D k1 then 1 else 0) + (if Maps.has D k0 then 1 else 0) := by
  have h1 := size_del (k := k0) h
  have h2 := size_del (k := k1) (tidy_del h k0)
  rw [has_del_other hne] at h2
  omega
theorem size_one {D : DataW Unit} (h : Tidy D) (k : Lit) : size D = size ((D.del k).del k) + (if Maps.has D k then 1 else 0) := by
  have h1 := size_del (k := k) h
  have h2 := size_del (k := k) (tidy_del h k)
  rw [has_del_same] at h2
  simp at h2
  omega
end Go.Proofs.Ybulkxyy
