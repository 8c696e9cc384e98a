/-
  PLAIN: what a new transaction does to the table; the children in order.
-/
import Derived.Test.YbulkxzmFmtBegin
namespace Go.Proofs.YbulkxzmFmt
open Go.RowKit Go.Maps
set_option linter.unusedVariables false

/-- The table behind 'enter' below a parent, transaction by transaction. -/
theorem enterSub_S (st : LT) (T : Nat) (nm : ByteArray) (P : Nat) (rp : Tx) (ts : Int) (d : Bool) (hP : st.S P = some rp) (hPT : P ≠ T) (hl : ∀ C, rp.last = some C → C ≠ P ∧ C ≠ T) (x : Nat) :
    (enterSub st T nm P rp ts d).S x = if x = T then some { mkTx nm (some P) rp.root (rp.depth + 1) ts d rp.begun with prev := rp.last } else if x = P then some { rp with first := (match rp.last with | none => some T | some _ => rp.first), last := some T, begun := rp.begun + 1 } else if rp.last = some x then (st.S x).map (fun r => { r with next := some T }) else st.S x := by
  have hTP : T ≠ P := fun e => hPT e.symm
  cases h : rp.last with
  | none =>
    simp only [enterSub, activeS, putS, adoptS, h, LT.set, LT.new, stampS]
    by_cases h1 : x = T
    · subst h1; simp [hTP]
    · by_cases h2 : x = P
      · subst h2; simp [h1, hP]
      · simp [h1, h2]
  | some C =>
    obtain ⟨c1, c2⟩ := hl C h
    simp only [enterSub, activeS, putS, adoptS, h, LT.set, LT.new, stampS]
    by_cases h1 : x = T
    · subst h1
      have c3 : ¬ x = C := fun e => c2 e.symm
      simp [hTP, c3]
    · by_cases h2 : x = P
      · subst h2
        have c3 : ¬ x = C := fun e => c1 e.symm
        simp [h1, hP, c3]
      · by_cases h3 : x = C
        · subst h3; simp [h1, h2]
        · have c3 : ¬ C = x := fun e => h3 e.symm
          simp [h1, h2, h3, c3]
theorem enterSub_flat (st : LT) (T : Nat) (nm : ByteArray) (P : Nat) (rp : Tx) (ts : Int) (d : Bool) :
    (enterSub st T nm P rp ts d).n = st.n + 1 ∧ (enterSub st T nm P rp ts d).D = st.D.put (.string nm.data.toList) (.lit (.int .i64 T)) ∧ (enterSub st T nm P rp ts d).stamps = st.stamps + 1 ∧ (enterSub st T nm P rp ts d).begun = st.begun ∧ (enterSub st T nm P rp ts d).active = st.active + 1 := by
  obtain ⟨f1, f2, f3, f4, f5⟩ := adopt_flat ((stampS st).new T (mkTx nm (some P) rp.root (rp.depth + 1) ts d rp.begun)) P T rp.last
  simp only [enterSub, activeS, putS, LT.set, f1, f2, f3, f4, f5]
  exact ⟨rfl, rfl, rfl, rfl, rfl⟩

/-- The children's names. -/
def cn : Nat → ByteArray
  | 0 => ⟨#[99, 48]⟩
  | 1 => ⟨#[99, 49]⟩
  | 2 => ⟨#[99, 50]⟩
  | 3 => ⟨#[99, 51]⟩
  | 4 => ⟨#[99, 52]⟩
  | 5 => ⟨#[99, 53]⟩
  | 6 => ⟨#[99, 54]⟩
  | _ => ⟨#[99, 55]⟩
def kn (i : Nat) : Lit := .string (cn i).data.toList
def pname : ByteArray := ⟨#[112]⟩
theorem cn_ne : ∀ i, i ≤ 7 → ∀ j, j ≤ 7 → i ≠ j → (cn i).data.toList ≠ (cn j).data.toList := by decide
theorem cn_p : ∀ i, i ≤ 7 → pname.data.toList ≠ (cn i).data.toList := by decide
theorem kn_ne (i : Nat) (hi : i ≤ 7) (j : Nat) (hj : j ≤ 7) (h : i ≠ j) : kn i ≠ Lit.string (cn j).data.toList := fun e => cn_ne i hi j hj h (by simpa [kn] using e)
theorem kn_p (i : Nat) (hi : i ≤ 7) : (Lit.string pname.data.toList) ≠ Lit.string (cn i).data.toList := fun e => cn_p i hi (by simpa using e)
theorem kn_key (i : Nat) : WideAt.IsKeyLit (kn i) := by simp [WideAt.IsKeyLit, kn]
theorem cn_size (i : Nat) : (cn i).size = 2 := by unfold cn; split <;> rfl
theorem cn_isEmpty (i : Nat) : (cn i).toList.isEmpty = false := by
  rw [ByteArray.toList_eq]
  unfold cn; split <;> rfl

/-- The children begun so far. -/
structure OrdAt (ts : Int) (P : Nat) (st : LT) (cs : List Nat) : Prop where
  hn : st.n = cs.length + 1
  hst : st.stamps = cs.length + 1
  hbg : st.begun = cs.length + 1
  hac : st.active = cs.length + 1
  sz : Maps.size st.D = cs.length + 1
  hasP : Maps.has st.D (.string pname.data.toList) = true
  atP : st.D.atKey (.string pname.data.toList) .nil = .lit (.int .i64 P)
  no : ∀ i, cs.length ≤ i → i ≤ 7 → Maps.has st.D (kn i) = false
  pt : ∃ rp, st.S P = some rp ∧ rp.state = 0 ∧ rp.ts = ts ∧ rp.drawn = false ∧ rp.begun = cs.length ∧ rp.depth = 0 ∧ rp.first = cs[0]? ∧ rp.last = cs[cs.length - 1]?
  ch : ∀ (i C : Nat), cs[i]? = some C → ∃ r, st.S C = some r ∧ r.name = cn i ∧ r.nth = i ∧ r.ts = ts ∧ r.drawn = false ∧ r.parent = some P ∧ r.next = cs[i + 1]?
  np : P ∉ cs
  nd : cs.Nodup

theorem OrdAt.step {ts : Int} {P : Nat} {st : LT} {cs : List Nat} (h : OrdAt ts P st cs) (hm : Tidy st.D) (hD : IsMap st.D) (hlen : cs.length ≤ 7) (T : Nat) (hTP : P ≠ T) (hT : T ∉ cs) (rp : Tx) (hP : st.S P = some rp) :
    OrdAt ts P (enterSub (begunS st) T (cn cs.length) P rp rp.ts rp.drawn) (cs ++ [T]) := by
  obtain ⟨rp', hP', p1, p2, p3, p4, p5, p6, p7⟩ := h.pt
  rw [hP] at hP'
  cases hP'
  have hl : ∀ C, rp.last = some C → C ≠ P ∧ C ≠ T := fun C hC => by
    rw [p7] at hC
    have := List.mem_of_getElem? hC
    exact ⟨fun e => h.np (e ▸ this), fun e => hT (e ▸ this)⟩
  have hS := enterSub_S (begunS st) T (cn cs.length) P rp rp.ts rp.drawn hP hTP hl
  obtain ⟨f1, f2, f3, f4, f5⟩ := enterSub_flat (begunS st) T (cn cs.length) P rp rp.ts rp.drawn
  have hno := h.no cs.length (Nat.le_refl _) hlen
  have e2 : (begunS st).D = st.D := rfl
  rw [e2] at f2
  exact {
    hn := by rw [f1, show (begunS st).n = st.n from rfl, h.hn]; simp
    hst := by rw [f3, show (begunS st).stamps = st.stamps from rfl, h.hst]; simp
    hbg := by rw [f4, show (begunS st).begun = st.begun + 1 from rfl, h.hbg]; simp
    hac := by rw [f5, show (begunS st).active = st.active from rfl, h.hac]; simp
    sz := by rw [f2, size_put hm]; rw [show Maps.has st.D (.string (cn cs.length).data.toList) = false from hno]; simp [h.sz]
    hasP := by rw [f2, has_put_other (kn_p cs.length hlen)]; exact h.hasP
    atP := by rw [f2, atKey_put_other (kn_p cs.length hlen)]; exact h.atP
    no := fun i hi h7 => by
      simp at hi
      rw [f2, has_put_other (kn_ne i h7 cs.length hlen (by omega))]
      exact h.no i (by omega) h7
    pt := by
      refine ⟨{ rp with first := (match rp.last with | none => some T | some _ => rp.first), last := some T, begun := rp.begun + 1 }, by rw [hS P, if_neg hTP, if_pos rfl], p1, p2, p3, ?_, p5, ?_, by simp⟩
      · show rp.begun + 1 = _
        rw [p4]; simp
      · cases cs with
        | nil =>
          have : rp.last = none := by rw [p7]; rfl
          simp [this]
        | cons c cs' =>
          have : rp.last = some ((c :: cs')[cs'.length]) := by rw [p7]; simp
          simp [this, p6]
    ch := fun i C hC => by
      by_cases hi : i < cs.length
      · rw [List.getElem?_append_left hi] at hC
        obtain ⟨r, hr, q1, q2, q3, q4, q5, q6⟩ := h.ch i C hC
        have hmem := List.mem_of_getElem? hC
        have hCT : C ≠ T := fun e => hT (e ▸ hmem)
        have hCP : C ≠ P := fun e => h.np (e ▸ hmem)
        by_cases hlast : i + 1 = cs.length
        · have hl' : rp.last = some C := by rw [p7, ← hC]; congr 1; omega
          refine ⟨{ r with next := some T }, by rw [hS C, if_neg hCT, if_neg hCP, if_pos hl', show (begunS st).S C = st.S C from rfl, hr]; rfl, q1, q2, q3, q4, q5, ?_⟩
          show some T = _
          rw [hlast]; simp
        · have hl' : rp.last ≠ some C := fun e => by
            rw [p7] at e
            have a1 := (List.getElem?_eq_some_iff.1 e)
            obtain ⟨x1, y1⟩ := a1
            have hC' : cs[i] = C := by simpa [List.getElem?_eq_getElem hi] using hC
            exact List.pairwise_iff_getElem.1 h.nd i (cs.length - 1) hi x1 (by omega) (hC'.trans y1.symm)
          refine ⟨r, by rw [hS C, if_neg hCT, if_neg hCP, if_neg hl']; exact hr, q1, q2, q3, q4, q5, ?_⟩
          rw [q6, List.getElem?_append_left (by omega)]
      · have hi' : i = cs.length := by
          have := (List.getElem?_eq_some_iff.1 hC).1
          simp at this
          omega
        subst hi'
        simp at hC
        subst hC
        refine ⟨_, by rw [hS T, if_pos rfl], rfl, by simp [mkTx, p4], by simp [mkTx, p2], by simp [mkTx, p3], rfl, by simp [mkTx]⟩
    np := by simp; exact ⟨h.np, hTP⟩
    nd := by
      rw [List.nodup_append]
      exact ⟨h.nd, by simp, fun a ha c hc => by simp at hc; subst hc; exact fun e => hT (e ▸ ha)⟩ }

theorem ordAt_top (ts : Int) (T : Nat) : OrdAt ts T (enterTop (begunS emptyS) T pname ts false) [] where
  hn := rfl
  hst := rfl
  hbg := rfl
  hac := rfl
  sz := by
    show Maps.size ((DataW.map []).put _ _) = 1
    kernel_rfl
  hasP := has_put_same (D := .map []) ⟨_, rfl⟩ (by simp [WideAt.IsKeyLit]) _
  atP := atKey_put_same (D := .map []) ⟨_, rfl⟩ (by simp [WideAt.IsKeyLit]) _ _
  no := fun i _ h7 => by
    show Maps.has ((DataW.map []).put _ _) (kn i) = false
    rw [has_put_other (show kn i ≠ Lit.string pname.data.toList from fun e => kn_p i h7 e.symm)]
    rfl
  pt := ⟨mkTx pname none (some T) 0 ts false 0, by simp [enterTop, activeS, putS, LT.new], rfl, rfl, rfl, rfl, rfl, rfl, rfl⟩
  ch := fun i C h => by simp at h
  np := by simp
  nd := by simp
end Go.Proofs.YbulkxzmFmt
