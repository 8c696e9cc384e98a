/-
  PLAIN: the tables that scripts come to.
-/
import Derived.Test.YbulkxzmFmtPlain
namespace Go.Proofs.YbulkxzmFmt
open Go.RowKit Go.Maps
set_option linter.unusedVariables false

/-- A name stands for no transaction, or for one. -/
def KeyOk (st : LT) (k : Lit) : Prop := (Maps.has st.D k = false ∧ st.D.atKey k .nil = .nil) ∨ ∃ T r, Maps.has st.D k = true ∧ st.D.atKey k .nil = .lit (.int .i64 ((T : Nat) : Int)) ∧ st.S T = some r

structure Good (st : LT) : Prop where
  key : ∀ k, KeyOk st k
  last : ∀ B r C, st.S B = some r → r.last = some C → C ≠ B ∧ ∃ r', st.S C = some r'
  sb : 0 ≤ st.stamps ∧ st.stamps ≤ st.n
  bb : 0 ≤ st.begun ∧ st.begun ≤ st.n
  ab : 0 ≤ st.active ∧ st.active ≤ st.n
  tb : ∀ B r, st.S B = some r → 0 ≤ r.begun ∧ r.begun ≤ st.n ∧ 0 ≤ r.depth ∧ r.depth ≤ st.n

theorem good_empty : Good emptyS where
  key := fun k => .inl ⟨rfl, rfl⟩
  last := fun B r C h => by simp [emptyS] at h
  sb := ⟨by decide, by decide⟩
  bb := ⟨by decide, by decide⟩
  ab := ⟨by decide, by decide⟩
  tb := fun B r h => by simp [emptyS] at h

theorem keyOk_put {st st' : LT} {nm : ByteArray} {T : Nat} (h : ∀ k, KeyOk st k) (hD : IsMap st.D) (e : st'.D = st.D.put (.string nm.data.toList) (.lit (.int .i64 T))) (hT : ∃ r, st'.S T = some r) (hS : ∀ x r, st.S x = some r → ∃ r', st'.S x = some r') (k : Lit) : KeyOk st' k := by
  unfold KeyOk
  rw [e]
  by_cases hk : k = .string nm.data.toList
  · subst hk
    obtain ⟨r, hr⟩ := hT
    exact .inr ⟨T, r, has_put_same hD (by simp [WideAt.IsKeyLit]) _, atKey_put_same hD (by simp [WideAt.IsKeyLit]) _ _, hr⟩
  · rw [has_put_other hk, atKey_put_other hk]
    rcases h k with h | ⟨T', r, h1, h2, h3⟩
    · exact .inl h
    · obtain ⟨r', hr'⟩ := hS T' r h3
      exact .inr ⟨T', r', h1, h2, hr'⟩

theorem Good.top {st : LT} (h : Good st) (hD : IsMap st.D) (T : Nat) (hT : st.S T = none) (nm : ByteArray) (ts : Int) (d : Bool) : Good (enterTop (begunS st) T nm ts d) := by
  have hS : ∀ x, (enterTop (begunS st) T nm ts d).S x = if x = T then some (mkTx nm none (some T) 0 ts d 0) else st.S x := fun x => rfl
  have hn : (enterTop (begunS st) T nm ts d).n = st.n + 1 := rfl
  exact {
    key := keyOk_put h.key hD rfl ⟨_, by rw [hS, if_pos rfl]⟩ fun x r hx => by
      rw [hS]
      by_cases e : x = T
      · rw [if_pos e]; exact ⟨_, rfl⟩
      · rw [if_neg e]; exact ⟨r, hx⟩
    last := fun B r C hB hC => by
      rw [hS] at hB
      by_cases e : B = T
      · rw [if_pos e] at hB
        cases hB
        simp [mkTx] at hC
      · rw [if_neg e] at hB
        obtain ⟨h1, r', h2⟩ := h.last B r C hB hC
        refine ⟨h1, ?_⟩
        rw [hS]
        by_cases e' : C = T
        · rw [if_pos e']; exact ⟨_, rfl⟩
        · rw [if_neg e']; exact ⟨r', h2⟩
    sb := by have := h.sb; rw [hn]; show 0 ≤ st.stamps + 1 ∧ st.stamps + 1 ≤ _; omega
    bb := by have := h.bb; rw [hn]; show 0 ≤ st.begun + 1 ∧ st.begun + 1 ≤ _; omega
    ab := by have := h.ab; rw [hn]; show 0 ≤ st.active + 1 ∧ st.active + 1 ≤ _; omega
    tb := fun B r hB => by
      rw [hn]
      rw [hS] at hB
      by_cases e : B = T
      · rw [if_pos e] at hB
        cases hB
        simp [mkTx]
        omega
      · rw [if_neg e] at hB
        have := h.tb B r hB
        omega }

theorem Good.sub {st : LT} (h : Good st) (hD : IsMap st.D) (T : Nat) (hT : st.S T = none) (nm : ByteArray) (P : Nat) (rp : Tx) (hP : st.S P = some rp) (ts : Int) (d : Bool) : Good (enterSub (begunS st) T nm P rp ts d) := by
  have hPT : P ≠ T := fun e => by rw [e, hT] at hP; cases hP
  have hl : ∀ C, rp.last = some C → C ≠ P ∧ C ≠ T := fun C hC => by
    obtain ⟨h1, r', h2⟩ := h.last P rp C hP hC
    exact ⟨h1, fun e => by rw [e, hT] at h2; cases h2⟩
  have hS := enterSub_S (begunS st) T nm P rp ts d hP hPT hl
  obtain ⟨f1, f2, f3, f4, f5⟩ := enterSub_flat (begunS st) T nm P rp ts d
  have hST : ∃ r, (enterSub (begunS st) T nm P rp ts d).S T = some r := ⟨_, by rw [hS, if_pos rfl]⟩
  have hSx : ∀ x r, st.S x = some r → ∃ r', (enterSub (begunS st) T nm P rp ts d).S x = some r' := fun x r hx => by
    rw [hS]
    by_cases e : x = T
    · rw [if_pos e]; exact ⟨_, rfl⟩
    · rw [if_neg e]
      by_cases e2 : x = P
      · rw [if_pos e2]; exact ⟨_, rfl⟩
      · rw [if_neg e2]
        by_cases e3 : rp.last = some x
        · rw [if_pos e3, show (begunS st).S x = st.S x from rfl, hx]; exact ⟨_, rfl⟩
        · rw [if_neg e3]; exact ⟨r, hx⟩
  exact {
    key := keyOk_put h.key hD f2 hST hSx
    last := fun B r C hB hC => by
      rw [hS] at hB
      by_cases e : B = T
      · rw [if_pos e] at hB
        cases hB
        simp [mkTx] at hC
      · rw [if_neg e] at hB
        by_cases e2 : B = P
        · rw [if_pos e2] at hB
          cases hB
          simp at hC
          subst hC
          exact ⟨fun e' => e e'.symm, hST⟩
        · rw [if_neg e2] at hB
          have key : ∃ r0, st.S B = some r0 ∧ r0.last = r.last := by
            by_cases e3 : rp.last = some B
            · rw [if_pos e3] at hB
              obtain ⟨r0, h0, h1⟩ := Option.map_eq_some_iff.1 hB
              exact ⟨r0, h0, by rw [← h1]⟩
            · rw [if_neg e3] at hB
              exact ⟨r, hB, rfl⟩
          obtain ⟨r0, h0, hr0⟩ := key
          obtain ⟨h1, r', h2⟩ := h.last B r0 C h0 (by rw [hr0]; exact hC)
          exact ⟨h1, hSx C r' h2⟩
    sb := by have := h.sb; rw [f1, f3]; show 0 ≤ st.stamps + 1 ∧ st.stamps + 1 ≤ ((st.n + 1 : Nat) : Int); omega
    bb := by have := h.bb; rw [f1, f4]; show 0 ≤ st.begun + 1 ∧ st.begun + 1 ≤ ((st.n + 1 : Nat) : Int); omega
    ab := by have := h.ab; rw [f1, f5]; show 0 ≤ st.active + 1 ∧ st.active + 1 ≤ ((st.n + 1 : Nat) : Int); omega
    tb := fun B r hB => by
      have tP := h.tb P rp hP
      rw [f1]
      show _ ∧ _ ≤ ((st.n + 1 : Nat) : Int) ∧ _ ∧ _ ≤ ((st.n + 1 : Nat) : Int)
      rw [hS] at hB
      by_cases e : B = T
      · rw [if_pos e] at hB
        cases hB
        simp [mkTx]
        omega
      · rw [if_neg e] at hB
        by_cases e2 : B = P
        · rw [if_pos e2] at hB
          cases hB
          simp
          omega
        · rw [if_neg e2] at hB
          by_cases e3 : rp.last = some B
          · rw [if_pos e3] at hB
            obtain ⟨r0, h0, h1⟩ := Option.map_eq_some_iff.1 hB
            have := h.tb B r0 h0
            subst h1
            simp
            omega
          · rw [if_neg e3] at hB
            have := h.tb B r hB
            omega }

theorem Good.mark {st : LT} (h : Good st) (T : Nat) : Good (st.set T fun r => { r with state := 2 }) := by
  have hS : ∀ x, (st.set T fun r => { r with state := 2 }).S x = if x = T then (st.S x).map (fun r => { r with state := 2 }) else st.S x := fun x => rfl
  have hSx : ∀ x r, st.S x = some r → ∃ r', (st.set T fun r => { r with state := 2 }).S x = some r' := fun x r hx => by
    rw [hS]
    by_cases e : x = T
    · rw [if_pos e, hx]; exact ⟨_, rfl⟩
    · rw [if_neg e]; exact ⟨r, hx⟩
  have hB : ∀ B r, (st.set T fun r => { r with state := 2 }).S B = some r → ∃ r0, st.S B = some r0 ∧ r0.last = r.last ∧ r0.begun = r.begun ∧ r0.depth = r.depth := fun B r hB => by
    rw [hS] at hB
    by_cases e : B = T
    · rw [if_pos e] at hB
      obtain ⟨r0, h0, h1⟩ := Option.map_eq_some_iff.1 hB
      subst h1
      exact ⟨r0, h0, rfl, rfl, rfl⟩
    · rw [if_neg e] at hB
      exact ⟨r, hB, rfl, rfl, rfl⟩
  exact {
    key := fun k => by
      rcases h.key k with h1 | ⟨T', r, h1, h2, h3⟩
      · exact .inl h1
      · obtain ⟨r', hr'⟩ := hSx T' r h3
        exact .inr ⟨T', r', h1, h2, hr'⟩
    last := fun B r C hB' hC => by
      obtain ⟨r0, h0, e0, _, _⟩ := hB B r hB'
      obtain ⟨h1, r', h2⟩ := h.last B r0 C h0 (by rw [e0]; exact hC)
      exact ⟨h1, hSx C r' h2⟩
    sb := h.sb
    bb := h.bb
    ab := h.ab
    tb := fun B r hB' => by
      obtain ⟨r0, h0, _, e1, e2⟩ := hB B r hB'
      have := h.tb B r0 h0
      rw [e1, e2] at this
      exact this }
end Go.Proofs.YbulkxzmFmt
