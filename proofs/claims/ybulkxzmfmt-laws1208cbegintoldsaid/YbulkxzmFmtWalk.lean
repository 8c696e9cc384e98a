/-
  LawS1208CBegin: the walk.
-/
import Derived.Test.YbulkxzmFmtErrs2
import Derived.Test.YbulkxzmFmtGood
import Derived.Test.YbulkxzmFmtEq
import Derived.Test.YbulkxzmFmtLex
import Derived.Deep.QuietTactic
import Derived.BigQuiet
namespace Go.Proofs.YbulkxzmFmt
open Go.RowKit Go.Maps Go.WideMaps Go.WideElems Go.Extern.Stop Go.Stop Go.Extern
set_option linter.unusedVariables false

/-- A slice's cells, as the walk reads them. -/
def Cells (w : World) (B : Nat) (k : IntKind) (a : Option Addr) (n : Nat) (z : Nat → Int) : Prop :=
  0 < n → ∃ bk off, a = some ⟨bk, off, none⟩ ∧ bk < B ∧ ∀ j, j < n → w.cell? ⟨bk, off + j, none⟩ = some (.int k (z j))
theorem Cells.below {w w' : World} {B : Nat} {k : IntKind} {a : Option Addr} {n : Nat} {z : Nat → Int} (h : Cells w B k a n z) (hb : Below B w w') : Cells w' B k a n z := fun hn => by
  obtain ⟨bk, off, ha, hB, hc⟩ := h hn
  exact ⟨bk, off, ha, hB, fun j hj => (hb.cell (p := ⟨bk, off + j, none⟩) hB).trans (hc j hj)⟩

/-- 'm[k]', as the machine runs it. -/
theorem State.look_run {N : Nat} {w0 w : World} {L b : Nat} {st : LT} (h : State N w0 w L b st) (nm : ByteArray) (hnm : nm.size ≤ maxLen) : (Instr.lookup 67 (.map (some b)) (.string nm) false).run Ybaf.prog w = .ok (ptrOf (st.D.atKey (.string nm.data.toList) .nil)) w := by
  obtain ⟨v, ps, hrun, hv⟩ := World.ownsMap.lookup h.own law Ybaf.underlying67 (zeroE w) (zd := .nil) (zp := []) rfl (keyOf_string_mk Ybaf.underlying9 hnm)
  rw [ptrElem_inv hv] at hrun
  exact hrun
theorem State.len_run {N : Nat} {w0 w : World} {L b : Nat} {st : LT} (h : State N w0 w L b st) : (Builtin.len_ #[67] 3 #[.map (some b)]).run Ybaf.prog w = .ok (.int .i64 (Maps.size st.D)) w := World.ownsMap.len h.own Ybaf.underlying67 3

theorem wrap_i (x : Int) (h0 : 0 ≤ x) (h1 : x ≤ 6000) : IntKind.i64.wrap (x + 1) = x + 1 := by
  simp [IntKind.wrap, IntKind.bits, IntKind.signed]
  omega
theorem wrap_u (x : Int) (h0 : 0 ≤ x) (h1 : x ≤ 6000) : IntKind.u64.wrap (x + 1) = x + 1 := by
  simp [IntKind.wrap, IntKind.bits, IntKind.signed]
  omega
theorem State.fresh {N : Nat} {w0 w : World} {L b : Nat} {st : LT} (h : State N w0 w L b st) {T : Nat} (hT : w.heap.size ≤ T) : st.S T = none := by
  cases e : st.S T with
  | none => rfl
  | some r =>
    have := h.sizeT e
    omega
theorem ptrOf_pointer (d : DataW Unit) : ∃ x, ptrOf d = .pointer x := by
  unfold ptrOf
  split <;> exact ⟨_, rfl⟩

set_option maxHeartbeats 8000000 in
set_option maxRecDepth 100000 in
theorem begin_walk (F : Interp) (a0 : Option Addr) (n cap : Nat) (z : Nat → Int) (a1 : Option Addr) (m cap1 : Nat) (y : Nat → Int) (ni pi : Int) (w : World) (hF : F.answers w.tape)
    (hz : Cells w w.heap.size .u8 a0 n z) (hzb : ∀ j, 0 ≤ z j ∧ z j ≤ 255) (hy : Cells w w.heap.size .u64 a1 m y) (hn0 : n ≤ 9223372036854775807) (hm0 : m ≤ 9223372036854775807) (hni0 : 0 ≤ ni) (hni1 : ni ≤ 255) (hpi0 : 0 ≤ pi) (hpi1 : pi ≤ 255)
    (s0 s1 s2 : Addr) (hs0 : Sent w 0 s0) (hs1 : Sent w 1 s1) (hs2 : Sent w 2 s2) :
    Calls Ybaf.prog 4 #[.slice a0 n cap, .slice a1 m cap1, .int .u8 ni, .int .u8 pi] w fun e w' => e = .returned (.bool true) ∧ Below w.heap.size w w' := by
  obtain ⟨N, hN⟩ : ∃ N, w.heap.size = N := ⟨_, rfl⟩
  have HT := table_any w
  rw [hN] at HT hz hy ⊢
  have HTB : Hid (Calls Ybaf.prog 6 #[.slice none 0 0] w fun e w' => ∃ L b, e = .returned (.pointer (some ⟨L, 0, none⟩)) ∧ State N w w' L b emptyS) := HT
  have HZ : Hid (Cells w N .u8 a0 n z) := hz
  have HZB : Hid (∀ j, 0 ≤ z j ∧ z j ≤ 255) := hzb
  have HY : Hid (Cells w N .u64 a1 m y) := hy
  have HF : Hid (F.answers w.tape) := hF
  have HS0 : Hid (Sent w 0 s0) := hs0
  have HS1 : Hid (Sent w 1 s1) := hs1
  have HS2 : Hid (Sent w 2 s2) := hs2
  clear HT hz hzb hy hF hs0 hs1 hs2
  by_cases hbig : 1024 < n
  · have hbI : (1024 : Int) < n := by omega
    have HB : Hid (Below N w w) := Below.refl N w
    clear HTB HZ HZB HY HF HS0 HS1 HS2
    go_enter Ybaf.func4, Ybaf.ntmps4
    go_wp2
    go_ret
    exact ⟨rfl, HB.out⟩
  · have d1 : decide ((1024 : Int) < n) = false := decide_eq_false (by omega)
    go_enter Ybaf.func4, Ybaf.ntmps4
    go_wp2_with fail
    refine HTB.out.mono ?_
    rintro e w1 ⟨L, b, rfl, hst⟩
    have HS : Hid (State N w w1 L b emptyS) := hst
    clear HTB hst
    go_wp2_with fail
    go_loopw [35] (fun i wr => ∃ (t : Nat) (st : LT), t ≤ n ∧ i = .int .i64 t ∧ st.n ≤ t ∧ State N w wr L b st ∧ Good st) (fun i _ => n - (intOf i).toNat)
    case atStart => exact ⟨0, emptyS, Nat.zero_le _, rfl, Nat.le_refl _, HS.out, good_empty⟩
    case round =>
      clear HS
      obtain ⟨t, st, ht, rfl, hnt, hst, hgood⟩ := hrel
      have HS : Hid (State N w wr L b st) := hst
      have HG : Hid (Good st) := hgood
      clear hst hgood
      by_cases htn : t < n
      · obtain ⟨bk, off, rfl, hbB, hc⟩ := (HZ.out.below HS.out.below) (by omega)
        have hcj := hc t htn
        have hzt := HZB.out t
        obtain ⟨op, hop⟩ : ∃ op, z t = op := ⟨_, rfl⟩
        rw [hop] at hcj hzt
        obtain ⟨hop0, hop1⟩ := hzt
        have htI : (t : Int) < (n : Int) := by omega
        clear hc hop
        go_wp2_with fail
        refine (name_is wr op hop0 hop1).mono ?_
        rintro e w2 ⟨rfl, rfl⟩
        have hc0 := HS.out.cellL (j := 0) rfl
        have hsL := HS.out.sL
        by_cases htm : t < m
        · obtain ⟨bk1, off1, rfl, hbB1, hc1⟩ := (HY.out.below HS.out.below) (by omega)
          have hcy := hc1 t htm
          obtain ⟨x, hx⟩ : ∃ x, y t = x := ⟨_, rfl⟩
          rw [hx] at hcy
          have htmI : (t : Int) < (m : Int) := by omega
          have hsz : bk1 < w2.heap.size := Nat.lt_of_lt_of_le hbB1 HS.out.hN
          clear hc1 hx
          have HA : Hid (State N w (w2.alloc (.cells #[.int .u64 x, .bool false] 65)) L b st) := HS.out.alloc _
          rcases (show op / 5 % 3 = 0 ∨ op / 5 % 3 = 1 ∨ op / 5 % 3 = 2 from by omega) with hq | hq | hq
          · as_aux_lemma =>
              cases he : (nmOf op).toList.isEmpty with
              | true =>
                go_wp2_with fail
                go_roundw
                case rel => exact ⟨t + 1, st, by omega, by go_num, by omega, HA.out, HG.out⟩
                case measure => simp [intOf]; omega
              | false =>
                rcases HG.out.key (.string (nmOf op).data.toList) with ⟨hno, hnil⟩ | ⟨T, r, hyes, hat, hT⟩
                · have hlk : (Instr.lookup 67 (.map (some b)) (.string (nmOf op)) false).run Ybaf.prog (w2.alloc (.cells #[.int .u64 x, .bool false] 65)) = .ok (.pointer none) (w2.alloc (.cells #[.int .u64 x, .bool false] 65)) := by
                    have := HA.out.look_run (nmOf op) (nmOf_size op)
                    rw [hnil] at this
                    exact this
                  clear hno hnil
                  go_wp2_with fail
                  refine (start_top _ HA.out (nmOf op) (nmOf_size op) x false (by have := HG.out.sb; omega) (by have := HG.out.sb; omega) (by have := HG.out.ab; omega) (by have := HG.out.ab; omega) (by omega) (by have := HG.out.bb; omega) (by have := HG.out.bb; omega)).mono ?_
                  rintro e w3 ⟨T, rfl, hT, hst3⟩
                  have HS3 : Hid (State N w w3 L b (enterTop (begunS st) T (nmOf op) x false)) := hst3
                  have HG3 : Hid (Good (enterTop (begunS st) T (nmOf op) x false)) := HG.out.top HS.out.own.isMap T (HA.out.fresh hT) _ _ _
                  clear hst3 hT HA HS HG hlk
                  go_wp2_with fail
                  go_roundw
                  case rel => exact ⟨t + 1, _, by omega, by go_num, by show st.n + 1 ≤ t + 1; omega, HS3.out, HG3.out⟩
                  case measure => simp [intOf]; omega
                · have hlk : (Instr.lookup 67 (.map (some b)) (.string (nmOf op)) false).run Ybaf.prog (w2.alloc (.cells #[.int .u64 x, .bool false] 65)) = .ok (.pointer (some ⟨T, 0, none⟩)) (w2.alloc (.cells #[.int .u64 x, .bool false] 65)) := by
                    have := HA.out.look_run (nmOf op) (nmOf_size op)
                    rw [hat] at this
                    simpa [ptrOf] using this
                  clear hyes hat hT
                  go_wp2_with fail
                  go_roundw
                  case rel => exact ⟨t + 1, st, by omega, by go_num, by omega, HA.out, HG.out⟩
                  case measure => simp [intOf]; omega
          · as_aux_lemma =>
              obtain ⟨pv2, hpv⟩ : ∃ v, ptrOf (st.D.atKey (.string (nmOf (op / 15)).data.toList) .nil) = .pointer v := ptrOf_pointer _
              have hlp : ∀ k, (Instr.lookup 67 (.map (some b)) (.string (nmOf (op / 15))) false).run Ybaf.prog ((w2.alloc (.cells #[.int .u64 x, .bool false] 65)).drewN k) = .ok (.pointer pv2) ((w2.alloc (.cells #[.int .u64 x, .bool false] 65)).drewN k) := fun k => by
                have := (HA.out.drewN k).look_run (nmOf (op / 15)) (nmOf_size _)
                rw [hpv] at this
                exact this
              have HPV : Hid (ptrOf (st.D.atKey (.string (nmOf (op / 15)).data.toList) .nil) = .pointer pv2) := hpv
              clear hpv
              cases he : (nmOf op).toList.isEmpty with
              | true =>
                go_wp2_with fail
                go_quiet (first | (go_at_call 8; exact Calls.quiet_of_same (name_is _ (op / 15) (by omega) (by omega))))
                go_wp2_with fail
                go_roundw
                case rel => exact ⟨t + 1, st, by omega, by go_num, by omega, HA.out.drewN nq, HG.out⟩
                case measure => simp [intOf]; omega
              | false =>
                rcases HG.out.key (.string (nmOf op).data.toList) with ⟨hno, hnil⟩ | ⟨T, r, hyes, hat, hT⟩
                · have hlk : ∀ k, (Instr.lookup 67 (.map (some b)) (.string (nmOf op)) false).run Ybaf.prog ((w2.alloc (.cells #[.int .u64 x, .bool false] 65)).drewN k) = .ok (.pointer none) ((w2.alloc (.cells #[.int .u64 x, .bool false] 65)).drewN k) := fun k => by
                    have := (HA.out.drewN k).look_run (nmOf op) (nmOf_size op)
                    rw [hnil] at this
                    exact this
                  clear hno hnil
                  rcases HG.out.key (.string (nmOf (op / 15)).data.toList) with ⟨hno, hnil⟩ | ⟨P, rp, hyes, hat, hP⟩
                  · obtain rfl : pv2 = none := by have := HPV.out; rw [hnil] at this; simpa [ptrOf] using this.symm
                    clear hno hnil HPV
                    go_wp2_with fail
                    go_quiet (first | (go_at_call 8; exact Calls.quiet_of_same (name_is _ (op / 15) (by omega) (by omega))))
                    go_wp2_with fail
                    go_roundw
                    case rel => exact ⟨t + 1, st, by omega, by go_num, by omega, HA.out.drewN nq, HG.out⟩
                    case measure => simp [intOf]; omega
                  · obtain rfl : pv2 = some ⟨P, 0, none⟩ := by have := HPV.out; rw [hat] at this; simpa [ptrOf] using this.symm
                    have c1 := HS.out.cellT hP (j := 1) rfl
                    have c5 := HS.out.cellT hP (j := 5) rfl
                    have c6 := HS.out.cellT hP (j := 6) rfl
                    have sP := HS.out.sizeT hP
                    have HP : Hid (st.S P = some rp) := hP
                    clear hyes hat hP HPV
                    by_cases hs : rp.state = 0
                    · have hsb : (rp.state == 0) = true := by simp [hs]
                      rw [hs] at c1
                      clear hs hsb
                      go_wp2_with fail
                      go_quiet (first | (go_at_call 8; exact Calls.quiet_of_same (name_is _ (op / 15) (by omega) (by omega))))
                      go_wp2_with fail
                      refine (start_sub _ (HA.out.drewN nq) (nmOf op) (nmOf_size op) P rp HP.out (fun C hC => (HG.out.last P rp C HP.out hC).2) rp.ts rp.drawn (by have := HG.out.sb; omega) (by have := HG.out.sb; omega) (by have := HG.out.ab; omega) (by have := HG.out.ab; omega) (by omega) (by have := HG.out.bb; omega) (by have := HG.out.bb; omega) (by have := HG.out.tb P rp HP.out; omega) (by have := HG.out.tb P rp HP.out; omega) (by have := HG.out.tb P rp HP.out; omega) (by have := HG.out.tb P rp HP.out; omega)).mono ?_
                      rintro e w3 ⟨T, rfl, hT, hst3⟩
                      have HS3 : Hid (State N w w3 L b (enterSub (begunS st) T (nmOf op) P rp rp.ts rp.drawn)) := hst3
                      have HG3 : Hid (Good (enterSub (begunS st) T (nmOf op) P rp rp.ts rp.drawn)) := HG.out.sub HS.out.own.isMap T ((HA.out.drewN nq).fresh hT) _ P rp HP.out _ _
                      have HN3 : Hid ((enterSub (begunS st) T (nmOf op) P rp rp.ts rp.drawn).n ≤ t + 1) := by
                        show (enterSub (begunS st) T (nmOf op) P rp rp.ts rp.drawn).n ≤ t + 1
                        rw [(enterSub_flat (begunS st) T (nmOf op) P rp rp.ts rp.drawn).1]
                        show st.n + 1 ≤ t + 1
                        omega
                      clear hst3 hT HA HS HG hlk hlp HP c1 c5 c6 sP
                      go_wp2_with fail
                      go_roundw
                      case rel => exact ⟨t + 1, _, by omega, by go_num, HN3.out, HS3.out, HG3.out⟩
                      case measure => simp [intOf]; omega
                    · have hsb : (rp.state == 0) = false := by simp [hs]
                      go_wp2_with fail
                      go_quiet (first | (go_at_call 8; exact Calls.quiet_of_same (name_is _ (op / 15) (by omega) (by omega))))
                      go_wp2_with fail
                      go_roundw
                      case rel => exact ⟨t + 1, st, by omega, by go_num, by omega, HA.out.drewN nq, HG.out⟩
                      case measure => simp [intOf]; omega
                · have hlk : ∀ k, (Instr.lookup 67 (.map (some b)) (.string (nmOf op)) false).run Ybaf.prog ((w2.alloc (.cells #[.int .u64 x, .bool false] 65)).drewN k) = .ok (.pointer (some ⟨T, 0, none⟩)) ((w2.alloc (.cells #[.int .u64 x, .bool false] 65)).drewN k) := fun k => by
                    have := (HA.out.drewN k).look_run (nmOf op) (nmOf_size op)
                    rw [hat] at this
                    simpa [ptrOf] using this
                  clear hyes hat hT
                  go_wp2_with fail
                  go_quiet (first | (go_at_call 8; exact Calls.quiet_of_same (name_is _ (op / 15) (by omega) (by omega))))
                  go_wp2_with fail
                  go_roundw
                  case rel => exact ⟨t + 1, st, by omega, by go_num, by omega, HA.out.drewN nq, HG.out⟩
                  case measure => simp [intOf]; omega
          · as_aux_lemma =>
              rcases HG.out.key (.string (nmOf op).data.toList) with ⟨hno, hnil⟩ | ⟨T, r, hyes, hat, hT⟩
              · have hlk : (Instr.lookup 67 (.map (some b)) (.string (nmOf op)) false).run Ybaf.prog (w2.alloc (.cells #[.int .u64 x, .bool false] 65)) = .ok (.pointer none) (w2.alloc (.cells #[.int .u64 x, .bool false] 65)) := by
                  have := HA.out.look_run (nmOf op) (nmOf_size op)
                  rw [hnil] at this
                  exact this
                clear hno hnil
                go_wp2_with fail
                go_roundw
                case rel => exact ⟨t + 1, st, by omega, by go_num, by omega, HA.out, HG.out⟩
                case measure => simp [intOf]; omega
              · have hlk : (Instr.lookup 67 (.map (some b)) (.string (nmOf op)) false).run Ybaf.prog (w2.alloc (.cells #[.int .u64 x, .bool false] 65)) = .ok (.pointer (some ⟨T, 0, none⟩)) (w2.alloc (.cells #[.int .u64 x, .bool false] 65)) := by
                  have := HA.out.look_run (nmOf op) (nmOf_size op)
                  rw [hat] at this
                  simpa [ptrOf] using this
                have c1 := HS.out.cellT hT (j := 1) rfl
                have f1 := HS.out.frozT hT 1
                have sT := HS.out.sizeT hT
                have HSM : Hid (State N w ((w2.setCell ⟨T, 1, none⟩ (.int .u8 2)).alloc (.cells #[.int .u64 x, .bool false] 65)) L b (st.set T fun r => { r with state := 2 })) := (HS.out.setT T 1 (.int .u8 2) (fun r => { r with state := 2 }) ⟨r, hT⟩ (fun r => ⟨rfl, rfl, fun i hi => by unfold txCell; split <;> first | rfl | exact absurd rfl hi⟩)).alloc _
                have HGM : Hid (Good (st.set T fun r => { r with state := 2 })) := HG.out.mark T
                clear hyes hat hT HA HG HS
                go_wp2_with fail
                go_roundw
                case rel => exact ⟨t + 1, _, by omega, by go_num, by show st.n ≤ t + 1; omega, HSM.out, HGM.out⟩
                case measure => simp [intOf]; omega
        · have htd : decide ((t : Int) < (m : Int)) = false := decide_eq_false (by omega)
          have HA : Hid (State N w (w2.alloc (.cells #[.int .u64 0, .bool false] 65)) L b st) := HS.out.alloc _
          rcases (show op / 5 % 3 = 0 ∨ op / 5 % 3 = 1 ∨ op / 5 % 3 = 2 from by omega) with hq | hq | hq
          · as_aux_lemma =>
              cases he : (nmOf op).toList.isEmpty with
              | true =>
                go_wp2_with fail
                go_roundw
                case rel => exact ⟨t + 1, st, by omega, by go_num, by omega, HA.out, HG.out⟩
                case measure => simp [intOf]; omega
              | false =>
                rcases HG.out.key (.string (nmOf op).data.toList) with ⟨hno, hnil⟩ | ⟨T, r, hyes, hat, hT⟩
                · have hlk : (Instr.lookup 67 (.map (some b)) (.string (nmOf op)) false).run Ybaf.prog (w2.alloc (.cells #[.int .u64 0, .bool false] 65)) = .ok (.pointer none) (w2.alloc (.cells #[.int .u64 0, .bool false] 65)) := by
                    have := HA.out.look_run (nmOf op) (nmOf_size op)
                    rw [hnil] at this
                    exact this
                  clear hno hnil
                  go_wp2_with fail
                  refine (start_top _ HA.out (nmOf op) (nmOf_size op) 0 false (by have := HG.out.sb; omega) (by have := HG.out.sb; omega) (by have := HG.out.ab; omega) (by have := HG.out.ab; omega) (by omega) (by have := HG.out.bb; omega) (by have := HG.out.bb; omega)).mono ?_
                  rintro e w3 ⟨T, rfl, hT, hst3⟩
                  have HS3 : Hid (State N w w3 L b (enterTop (begunS st) T (nmOf op) 0 false)) := hst3
                  have HG3 : Hid (Good (enterTop (begunS st) T (nmOf op) 0 false)) := HG.out.top HS.out.own.isMap T (HA.out.fresh hT) _ _ _
                  clear hst3 hT HA HS HG hlk
                  go_wp2_with fail
                  go_roundw
                  case rel => exact ⟨t + 1, _, by omega, by go_num, by show st.n + 1 ≤ t + 1; omega, HS3.out, HG3.out⟩
                  case measure => simp [intOf]; omega
                · have hlk : (Instr.lookup 67 (.map (some b)) (.string (nmOf op)) false).run Ybaf.prog (w2.alloc (.cells #[.int .u64 0, .bool false] 65)) = .ok (.pointer (some ⟨T, 0, none⟩)) (w2.alloc (.cells #[.int .u64 0, .bool false] 65)) := by
                    have := HA.out.look_run (nmOf op) (nmOf_size op)
                    rw [hat] at this
                    simpa [ptrOf] using this
                  clear hyes hat hT
                  go_wp2_with fail
                  go_roundw
                  case rel => exact ⟨t + 1, st, by omega, by go_num, by omega, HA.out, HG.out⟩
                  case measure => simp [intOf]; omega
          · as_aux_lemma =>
              obtain ⟨pv2, hpv⟩ : ∃ v, ptrOf (st.D.atKey (.string (nmOf (op / 15)).data.toList) .nil) = .pointer v := ptrOf_pointer _
              have hlp : ∀ k, (Instr.lookup 67 (.map (some b)) (.string (nmOf (op / 15))) false).run Ybaf.prog ((w2.alloc (.cells #[.int .u64 0, .bool false] 65)).drewN k) = .ok (.pointer pv2) ((w2.alloc (.cells #[.int .u64 0, .bool false] 65)).drewN k) := fun k => by
                have := (HA.out.drewN k).look_run (nmOf (op / 15)) (nmOf_size _)
                rw [hpv] at this
                exact this
              have HPV : Hid (ptrOf (st.D.atKey (.string (nmOf (op / 15)).data.toList) .nil) = .pointer pv2) := hpv
              clear hpv
              cases he : (nmOf op).toList.isEmpty with
              | true =>
                go_wp2_with fail
                go_quiet (first | (go_at_call 8; exact Calls.quiet_of_same (name_is _ (op / 15) (by omega) (by omega))))
                go_wp2_with fail
                go_roundw
                case rel => exact ⟨t + 1, st, by omega, by go_num, by omega, HA.out.drewN nq, HG.out⟩
                case measure => simp [intOf]; omega
              | false =>
                rcases HG.out.key (.string (nmOf op).data.toList) with ⟨hno, hnil⟩ | ⟨T, r, hyes, hat, hT⟩
                · have hlk : ∀ k, (Instr.lookup 67 (.map (some b)) (.string (nmOf op)) false).run Ybaf.prog ((w2.alloc (.cells #[.int .u64 0, .bool false] 65)).drewN k) = .ok (.pointer none) ((w2.alloc (.cells #[.int .u64 0, .bool false] 65)).drewN k) := fun k => by
                    have := (HA.out.drewN k).look_run (nmOf op) (nmOf_size op)
                    rw [hnil] at this
                    exact this
                  clear hno hnil
                  rcases HG.out.key (.string (nmOf (op / 15)).data.toList) with ⟨hno, hnil⟩ | ⟨P, rp, hyes, hat, hP⟩
                  · obtain rfl : pv2 = none := by have := HPV.out; rw [hnil] at this; simpa [ptrOf] using this.symm
                    clear hno hnil HPV
                    go_wp2_with fail
                    go_quiet (first | (go_at_call 8; exact Calls.quiet_of_same (name_is _ (op / 15) (by omega) (by omega))))
                    go_wp2_with fail
                    go_roundw
                    case rel => exact ⟨t + 1, st, by omega, by go_num, by omega, HA.out.drewN nq, HG.out⟩
                    case measure => simp [intOf]; omega
                  · obtain rfl : pv2 = some ⟨P, 0, none⟩ := by have := HPV.out; rw [hat] at this; simpa [ptrOf] using this.symm
                    have c1 := HS.out.cellT hP (j := 1) rfl
                    have c5 := HS.out.cellT hP (j := 5) rfl
                    have c6 := HS.out.cellT hP (j := 6) rfl
                    have sP := HS.out.sizeT hP
                    have HP : Hid (st.S P = some rp) := hP
                    clear hyes hat hP HPV
                    by_cases hs : rp.state = 0
                    · have hsb : (rp.state == 0) = true := by simp [hs]
                      rw [hs] at c1
                      clear hs hsb
                      go_wp2_with fail
                      go_quiet (first | (go_at_call 8; exact Calls.quiet_of_same (name_is _ (op / 15) (by omega) (by omega))))
                      go_wp2_with fail
                      refine (start_sub _ (HA.out.drewN nq) (nmOf op) (nmOf_size op) P rp HP.out (fun C hC => (HG.out.last P rp C HP.out hC).2) rp.ts rp.drawn (by have := HG.out.sb; omega) (by have := HG.out.sb; omega) (by have := HG.out.ab; omega) (by have := HG.out.ab; omega) (by omega) (by have := HG.out.bb; omega) (by have := HG.out.bb; omega) (by have := HG.out.tb P rp HP.out; omega) (by have := HG.out.tb P rp HP.out; omega) (by have := HG.out.tb P rp HP.out; omega) (by have := HG.out.tb P rp HP.out; omega)).mono ?_
                      rintro e w3 ⟨T, rfl, hT, hst3⟩
                      have HS3 : Hid (State N w w3 L b (enterSub (begunS st) T (nmOf op) P rp rp.ts rp.drawn)) := hst3
                      have HG3 : Hid (Good (enterSub (begunS st) T (nmOf op) P rp rp.ts rp.drawn)) := HG.out.sub HS.out.own.isMap T ((HA.out.drewN nq).fresh hT) _ P rp HP.out _ _
                      have HN3 : Hid ((enterSub (begunS st) T (nmOf op) P rp rp.ts rp.drawn).n ≤ t + 1) := by
                        show (enterSub (begunS st) T (nmOf op) P rp rp.ts rp.drawn).n ≤ t + 1
                        rw [(enterSub_flat (begunS st) T (nmOf op) P rp rp.ts rp.drawn).1]
                        show st.n + 1 ≤ t + 1
                        omega
                      clear hst3 hT HA HS HG hlk hlp HP c1 c5 c6 sP
                      go_wp2_with fail
                      go_roundw
                      case rel => exact ⟨t + 1, _, by omega, by go_num, HN3.out, HS3.out, HG3.out⟩
                      case measure => simp [intOf]; omega
                    · have hsb : (rp.state == 0) = false := by simp [hs]
                      go_wp2_with fail
                      go_quiet (first | (go_at_call 8; exact Calls.quiet_of_same (name_is _ (op / 15) (by omega) (by omega))))
                      go_wp2_with fail
                      go_roundw
                      case rel => exact ⟨t + 1, st, by omega, by go_num, by omega, HA.out.drewN nq, HG.out⟩
                      case measure => simp [intOf]; omega
                · have hlk : ∀ k, (Instr.lookup 67 (.map (some b)) (.string (nmOf op)) false).run Ybaf.prog ((w2.alloc (.cells #[.int .u64 0, .bool false] 65)).drewN k) = .ok (.pointer (some ⟨T, 0, none⟩)) ((w2.alloc (.cells #[.int .u64 0, .bool false] 65)).drewN k) := fun k => by
                    have := (HA.out.drewN k).look_run (nmOf op) (nmOf_size op)
                    rw [hat] at this
                    simpa [ptrOf] using this
                  clear hyes hat hT
                  go_wp2_with fail
                  go_quiet (first | (go_at_call 8; exact Calls.quiet_of_same (name_is _ (op / 15) (by omega) (by omega))))
                  go_wp2_with fail
                  go_roundw
                  case rel => exact ⟨t + 1, st, by omega, by go_num, by omega, HA.out.drewN nq, HG.out⟩
                  case measure => simp [intOf]; omega
          · as_aux_lemma =>
              rcases HG.out.key (.string (nmOf op).data.toList) with ⟨hno, hnil⟩ | ⟨T, r, hyes, hat, hT⟩
              · have hlk : (Instr.lookup 67 (.map (some b)) (.string (nmOf op)) false).run Ybaf.prog (w2.alloc (.cells #[.int .u64 0, .bool false] 65)) = .ok (.pointer none) (w2.alloc (.cells #[.int .u64 0, .bool false] 65)) := by
                  have := HA.out.look_run (nmOf op) (nmOf_size op)
                  rw [hnil] at this
                  exact this
                clear hno hnil
                go_wp2_with fail
                go_roundw
                case rel => exact ⟨t + 1, st, by omega, by go_num, by omega, HA.out, HG.out⟩
                case measure => simp [intOf]; omega
              · have hlk : (Instr.lookup 67 (.map (some b)) (.string (nmOf op)) false).run Ybaf.prog (w2.alloc (.cells #[.int .u64 0, .bool false] 65)) = .ok (.pointer (some ⟨T, 0, none⟩)) (w2.alloc (.cells #[.int .u64 0, .bool false] 65)) := by
                  have := HA.out.look_run (nmOf op) (nmOf_size op)
                  rw [hat] at this
                  simpa [ptrOf] using this
                have c1 := HS.out.cellT hT (j := 1) rfl
                have f1 := HS.out.frozT hT 1
                have sT := HS.out.sizeT hT
                have HSM : Hid (State N w ((w2.setCell ⟨T, 1, none⟩ (.int .u8 2)).alloc (.cells #[.int .u64 0, .bool false] 65)) L b (st.set T fun r => { r with state := 2 })) := (HS.out.setT T 1 (.int .u8 2) (fun r => { r with state := 2 }) ⟨r, hT⟩ (fun r => ⟨rfl, rfl, fun i hi => by unfold txCell; split <;> first | rfl | exact absurd rfl hi⟩)).alloc _
                have HGM : Hid (Good (st.set T fun r => { r with state := 2 })) := HG.out.mark T
                clear hyes hat hT HA HG HS
                go_wp2_with fail
                go_roundw
                case rel => exact ⟨t + 1, _, by omega, by go_num, by show st.n ≤ t + 1; omega, HSM.out, HGM.out⟩
                case measure => simp [intOf]; omega
      · obtain rfl : t = n := by omega
        have hS := HS.out
        have hc0 := hS.cellL (j := 0) rfl
        have hc27 := hS.cellL (j := 27) rfl
        have hc41 := hS.cellL (j := 41) rfl
        have hlen := hS.len_run
        have hszn : Maps.size st.D ≤ 1024 := Nat.le_trans hS.own.size_le (by omega)
        obtain ⟨SZ, hSZ⟩ : ∃ z, Maps.size st.D = z := ⟨_, rfl⟩
        rw [hSZ] at hlen hszn
        have HSZ : Hid (Maps.size st.D = SZ) := hSZ
        obtain ⟨nm, hnm⟩ : ∃ s, nmOf ni = s := ⟨_, rfl⟩
        have hnz : nm.size ≤ maxLen := by rw [← hnm]; exact nmOf_size ni
        have HNM : Hid (nmOf ni = nm) := hnm
        obtain ⟨pn, hpn⟩ : ∃ s, nmOf pi = s := ⟨_, rfl⟩
        have hpz : pn.size ≤ maxLen := by rw [← hpn]; exact nmOf_size pi
        have HPN : Hid (nmOf pi = pn) := hpn
        have bs := HG.out.sb
        have bb := HG.out.bb
        have ba := HG.out.ab
        clear hSZ hnm hpn htn HZ HZB HY
        cases he : nm.toList.isEmpty with
        | true =>
          rcases HG.out.key (.string pn.data.toList) with ⟨hpno, hpnil⟩ | ⟨P, rp, hpyes, hpat, hP⟩
          · as_aux_lemma =>
              obtain ⟨vn, hvn⟩ := ptrOf_pointer (st.D.atKey (.string nm.data.toList) .nil)
              have hln : (Instr.lookup 67 (.map (some b)) (.string nm) false).run Ybaf.prog wr = .ok (.pointer vn) wr := by
                have := hS.look_run nm hnz
                rw [hvn] at this
                exact this
              clear hvn
              have hlp : (Instr.lookup 67 (.map (some b)) (.string pn) false).run Ybaf.prog wr = .ok (.pointer none) wr := by
                have := hS.look_run pn hpz
                rw [hpnil] at this
                exact this
              clear hS
              go_wp2_with fail
              refine (name_is _ ni hni0 hni1).mono ?_
              rintro e wa ⟨rfl, rfl⟩
              rw [HNM.out]
              go_wp2_with fail
              refine (name_is _ pi hpi0 hpi1).mono ?_
              rintro e wb ⟨rfl, rfl⟩
              rw [HPN.out]
              go_wp2_with fail
              refine (begin_empty wb HS.out nm pn hnz he).mono ?_
              rintro e w3 ⟨⟨X, rfl⟩, hb3⟩
              have hS3 := HS.out.above hb3
              have HB3 : Hid (Below N w w3) := hS3.below
              have hc0 := hS3.cellL (j := 0) rfl
              have hc27 := hS3.cellL (j := 27) rfl
              have hc41 := hS3.cellL (j := 41) rfl
              have hlen := hS3.len_run
              rw [HSZ.out] at hlen
              clear hS3 hb3
              go_wp2
              go_ret
              exact ⟨rfl, HB3.out⟩
          · as_aux_lemma =>
              obtain ⟨vn, hvn⟩ := ptrOf_pointer (st.D.atKey (.string nm.data.toList) .nil)
              have hln : (Instr.lookup 67 (.map (some b)) (.string nm) false).run Ybaf.prog wr = .ok (.pointer vn) wr := by
                have := hS.look_run nm hnz
                rw [hvn] at this
                exact this
              clear hvn
              have hlp : (Instr.lookup 67 (.map (some b)) (.string pn) false).run Ybaf.prog wr = .ok (.pointer (some ⟨P, 0, none⟩)) wr := by
                have := hS.look_run pn hpz
                rw [hpat] at this
                simpa [ptrOf] using this
              have c29 := hS.cellT hP (j := 29) rfl
              have c24 := hS.cellT hP (j := 24) rfl
              obtain ⟨u, hu⟩ := pv_pointer rp.last
              rw [← hu] at c24
              have HU : Hid (.pointer u = pv rp.last) := hu
              have HP : Hid (st.S P = some rp) := hP
              have bt := HG.out.tb P rp hP
              clear hu hP
              clear hS
              go_wp2_with fail
              refine (name_is _ ni hni0 hni1).mono ?_
              rintro e wa ⟨rfl, rfl⟩
              rw [HNM.out]
              go_wp2_with fail
              refine (name_is _ pi hpi0 hpi1).mono ?_
              rintro e wb ⟨rfl, rfl⟩
              rw [HPN.out]
              go_wp2_with fail
              refine (begin_empty wb HS.out nm pn hnz he).mono ?_
              rintro e w3 ⟨⟨X, rfl⟩, hb3⟩
              have hS3 := HS.out.above hb3
              have HB3 : Hid (Below N w w3) := hS3.below
              have hc0 := hS3.cellL (j := 0) rfl
              have hc27 := hS3.cellL (j := 27) rfl
              have hc41 := hS3.cellL (j := 41) rfl
              have hlen := hS3.len_run
              rw [HSZ.out] at hlen
              have c29 := hS3.cellT HP.out (j := 29) rfl
              have c24 := hS3.cellT HP.out (j := 24) rfl
              have c1 := hS3.cellT HP.out (j := 1) rfl
              rw [← HU.out] at c24
              have hpe := ptr_eql u
              clear hS3 hb3
              go_wp2
              go_ret
              exact ⟨rfl, HB3.out⟩
        | false =>
          rcases HG.out.key (.string nm.data.toList) with ⟨hnno, hnnil⟩ | ⟨Q, rq, hnyes, hnat, hQ⟩
          · rcases HG.out.key (.string pn.data.toList) with ⟨hpno, hpnil⟩ | ⟨P, rp, hpyes, hpat, hP⟩
            · as_aux_lemma =>
                have hln : (Instr.lookup 67 (.map (some b)) (.string nm) false).run Ybaf.prog wr = .ok (.pointer none) wr := by
                  have := hS.look_run nm hnz
                  rw [hnnil] at this
                  exact this
                have hlp : (Instr.lookup 67 (.map (some b)) (.string pn) false).run Ybaf.prog wr = .ok (.pointer none) wr := by
                  have := hS.look_run pn hpz
                  rw [hpnil] at this
                  exact this
                clear hS
                go_wp2_with fail
                refine (name_is _ ni hni0 hni1).mono ?_
                rintro e wa ⟨rfl, rfl⟩
                rw [HNM.out]
                go_wp2_with fail
                refine (name_is _ pi hpi0 hpi1).mono ?_
                rintro e wb ⟨rfl, rfl⟩
                rw [HPN.out]
                go_wp2_with fail
                refine (begin_refused wb HS.out nm pn hnz he hnno s1 (active_no F wb (by rw [HS.out.below.tape]; exact HF.out) HS.out pn hpz s1 (HS1.out.below HS.out.below (by rw [← hN]; exact HS1.out.2.1) (by rw [← hN]; exact HS1.out.lt)) hpno)).mono ?_
                rintro e w3 ⟨ve, rfl, hw3, hb3⟩
                obtain ⟨X, rfl, hX⟩ := hw3
                have hS3 := HS.out.above hb3
                have HB3 : Hid (Below N w w3) := hS3.below
                have hc0 := hS3.cellL (j := 0) rfl
                have hc27 := hS3.cellL (j := 27) rfl
                have hc41 := hS3.cellL (j := 41) rfl
                have hlen := hS3.len_run
                rw [HSZ.out] at hlen
                have hgl := (HS1.out.below hS3.below (by rw [← hN]; exact HS1.out.2.1) (by rw [← hN]; exact HS1.out.lt)).1
                clear hS3 hb3
                go_wp2_with fail
                refine (is_wrap_same X 0 s1 w3 hX).mono ?_
                rintro e w4 ⟨rfl, rfl⟩
                go_wp2
                go_ret
                exact ⟨rfl, HB3.out⟩
            · by_cases hs : rp.state = 0
              · cases hC : rp.last with
                | none =>
                  as_aux_lemma =>
                    have hln : (Instr.lookup 67 (.map (some b)) (.string nm) false).run Ybaf.prog wr = .ok (.pointer none) wr := by
                      have := hS.look_run nm hnz
                      rw [hnnil] at this
                      exact this
                    have hlp : (Instr.lookup 67 (.map (some b)) (.string pn) false).run Ybaf.prog wr = .ok (.pointer (some ⟨P, 0, none⟩)) wr := by
                      have := hS.look_run pn hpz
                      rw [hpat] at this
                      simpa [ptrOf] using this
                    have c29 := hS.cellT hP (j := 29) rfl
                    have c24 := hS.cellT hP (j := 24) rfl
                    obtain ⟨u, hu⟩ := pv_pointer rp.last
                    rw [← hu] at c24
                    have HU : Hid (.pointer u = pv rp.last) := hu
                    have HP : Hid (st.S P = some rp) := hP
                    have bt := HG.out.tb P rp hP
                    clear hu hP
                    have HNO : Hid (Maps.has st.D (.string nm.data.toList) = false) := hnno
                    have HTD : Hid (Tidy st.D) := hS.own.tidy
                    have HIM : Hid (Maps.IsMap st.D) := hS.own.isMap
                    clear hS
                    go_wp2_with fail
                    refine (name_is _ ni hni0 hni1).mono ?_
                    rintro e wa ⟨rfl, rfl⟩
                    rw [HNM.out]
                    go_wp2_with fail
                    refine (name_is _ pi hpi0 hpi1).mono ?_
                    rintro e wb ⟨rfl, rfl⟩
                    rw [HPN.out]
                    go_wp2_with fail
                    refine (begin_ok wb HS.out nm pn hnz hpz he HNO.out P rp HP.out hs hpat hpyes (fun C hC => (HG.out.last P rp C HP.out hC).2) (by omega) (by omega) (by omega) (by omega) (by omega) (by omega) (by omega) (by omega) (by omega) (by omega) (by omega)).mono ?_
                    rintro e w3 ⟨rfl, T, hT, hS3⟩
                    have hfr := HS.out.fresh hT
                    have hPT : P ≠ T := fun e => by have := HP.out; rw [e, hfr] at this; cases this
                    have hlc : ∀ C, rp.last = some C → C ≠ P ∧ C ≠ T := fun C hC => by
                      obtain ⟨h1, r', h2⟩ := HG.out.last P rp C HP.out hC
                      exact ⟨h1, fun e => by rw [e, hfr] at h2; cases h2⟩
                    have hSx := enterSub_S (begunS st) T nm P rp rp.ts rp.drawn HP.out hPT hlc
                    obtain ⟨f1, f2, f3, f4, f5⟩ := enterSub_flat (begunS st) T nm P rp rp.ts rp.drawn
                    have HB3 : Hid (Below N w w3) := hS3.below
                    have hP3 := hSx P
                    rw [if_neg hPT, if_pos rfl] at hP3
                    have hT3 := hSx T
                    rw [if_pos rfl] at hT3
                    have hc0 := hS3.cellL (j := 0) rfl
                    have hc27 : w3.cell? ⟨L, 27, none⟩ = some (.int .u64 (st.begun + 1)) := by have := hS3.cellL (j := 27) rfl; rw [f4] at this; exact this
                    have hc41 : w3.cell? ⟨L, 41, none⟩ = some (.int .u64 (st.active + 1)) := by have := hS3.cellL (j := 41) rfl; rw [f5] at this; exact this
                    have hsz3 : Maps.size (enterSub (begunS st) T nm P rp rp.ts rp.drawn).D = SZ + 1 := by
                      rw [f2, show (begunS st).D = st.D from rfl, size_put HTD.out, HNO.out]
                      simp [HSZ.out]
                    have hlen : ∀ k, (Builtin.len_ #[67] 3 #[.map (some b)]).run Ybaf.prog (w3.drewN k) = .ok (.int .i64 ((SZ + 1 : Nat) : Int)) (w3.drewN k) := fun k => by
                      rw [← hsz3]
                      exact (hS3.drewN k).len_run
                    have hlen0 : (Builtin.len_ #[67] 3 #[.map (some b)]).run Ybaf.prog w3 = .ok (.int .i64 ((SZ + 1 : Nat) : Int)) w3 := by
                      rw [← hsz3]
                      exact hS3.len_run
                    have hlk : (Instr.lookup 67 (.map (some b)) (.string nm) false).run Ybaf.prog w3 = .ok (.pointer (some ⟨T, 0, none⟩)) w3 := by
                      have := hS3.look_run nm hnz
                      rw [f2, atKey_put_same (D := (begunS st).D) HIM.out (by simp [WideAt.IsKeyLit])] at this
                      simpa [ptrOf] using this
                    have c1 : w3.cell? ⟨P, 1, none⟩ = some (.int .u8 0) := by have := hS3.cellT hP3 (j := 1) rfl; rw [hs] at this; exact this
                    obtain ⟨ur, hur⟩ := pv_pointer rp.root
                    have c3 : w3.cell? ⟨P, 3, none⟩ = some (.pointer ur) := by rw [hur]; exact hS3.cellT hP3 (j := 3) rfl
                    have c4 : w3.cell? ⟨P, 4, none⟩ = some (.int .i64 rp.depth) := hS3.cellT hP3 (j := 4) rfl
                    have c5 : w3.cell? ⟨P, 5, none⟩ = some (.int .u64 rp.ts) := hS3.cellT hP3 (j := 5) rfl
                    have c6 : w3.cell? ⟨P, 6, none⟩ = some (.bool rp.drawn) := hS3.cellT hP3 (j := 6) rfl
                    have c24 : w3.cell? ⟨P, 24, none⟩ = some (.pointer (some ⟨T, 0, none⟩)) := hS3.cellT hP3 (j := 24) rfl
                    have c29 : w3.cell? ⟨P, 29, none⟩ = some (.int .u64 (rp.begun + 1)) := hS3.cellT hP3 (j := 29) rfl
                    have t0 : w3.cell? ⟨T, 0, none⟩ = some (.string nm) := hS3.cellT hT3 (j := 0) rfl
                    have t1 : w3.cell? ⟨T, 1, none⟩ = some (.int .u8 0) := hS3.cellT hT3 (j := 1) rfl
                    have t2 : w3.cell? ⟨T, 2, none⟩ = some (.pointer (some ⟨P, 0, none⟩)) := hS3.cellT hT3 (j := 2) rfl
                    have t3 : w3.cell? ⟨T, 3, none⟩ = some (.pointer ur) := by rw [hur]; exact hS3.cellT hT3 (j := 3) rfl
                    have t4 : w3.cell? ⟨T, 4, none⟩ = some (.int .i64 (rp.depth + 1)) := hS3.cellT hT3 (j := 4) rfl
                    have t5 : w3.cell? ⟨T, 5, none⟩ = some (.int .u64 rp.ts) := hS3.cellT hT3 (j := 5) rfl
                    have t6 : w3.cell? ⟨T, 6, none⟩ = some (.bool rp.drawn) := hS3.cellT hT3 (j := 6) rfl
                    have t23 : w3.cell? ⟨T, 23, none⟩ = some (.pointer none) := hS3.cellT hT3 (j := 23) rfl
                    have t30 : w3.cell? ⟨T, 30, none⟩ = some (.int .u64 rp.begun) := hS3.cellT hT3 (j := 30) rfl
                    have hpe := ptr_eql (some ⟨P, 0, none⟩)
                    have hte := ptr_eql (some ⟨T, 0, none⟩)
                    have hre := ptr_eql ur
                    have w4 := wrap_i (rp.depth) (by omega) (by omega)
                    have w29 := wrap_u (rp.begun) (by omega) (by omega)
                    have w27 := wrap_u (st.begun) (by omega) (by omega)
                    have w41 := wrap_u (st.active) (by omega) (by omega)
                    have wsz := wrap_i (SZ : Int) (by omega) (by omega)
                    have t25 : w3.cell? ⟨T, 25, none⟩ = some (.pointer none) := by have := hS3.cellT hT3 (j := 25) rfl; rw [hC] at this; exact this
                    have c23 : w3.cell? ⟨P, 23, none⟩ = some (.pointer (some ⟨T, 0, none⟩)) := by have := hS3.cellT hP3 (j := 23) rfl; simp only [hC] at this; exact this
                    have hce := ptr_eql none
                    obtain rfl : u = none := by have := HU.out; rw [hC] at this; simpa [pv] using this
                    clear hC
                    have HS3 : Hid (State N w w3 L b (enterSub (begunS st) T nm P rp rp.ts rp.drawn)) := hS3
                    clear hS3 hP3 hT3 hSx f1 f2 f3 f4 f5 hlc hfr hur hsz3 hpat hpyes hnno hnnil hs hlp hln
                    go_wp2_with fail
                    dsimp only [List.append]
                    refine wp_region_quiet_lit ?hm ?hB ?hQ
                    case hm => kernel_rfl
                    case hB => exact (congrArg (Region.lexB .any) (show _ = opsOf Ybaf.f4 51 by kernel_rfl)).trans lex51
                    case hQ =>
                      repeat (go_big_quiet_step (fail))
                      refine wpQuiet_nil ?_
                      intro _ hw'
                      obtain ⟨nq, hw''⟩ := hw'
                      subst hw''
                      go_wp2
                      go_ret
                      exact ⟨rfl, (HS3.out.drewN nq).below⟩
                | some C =>
                  as_aux_lemma =>
                    have hln : (Instr.lookup 67 (.map (some b)) (.string nm) false).run Ybaf.prog wr = .ok (.pointer none) wr := by
                      have := hS.look_run nm hnz
                      rw [hnnil] at this
                      exact this
                    have hlp : (Instr.lookup 67 (.map (some b)) (.string pn) false).run Ybaf.prog wr = .ok (.pointer (some ⟨P, 0, none⟩)) wr := by
                      have := hS.look_run pn hpz
                      rw [hpat] at this
                      simpa [ptrOf] using this
                    have c29 := hS.cellT hP (j := 29) rfl
                    have c24 := hS.cellT hP (j := 24) rfl
                    obtain ⟨u, hu⟩ := pv_pointer rp.last
                    rw [← hu] at c24
                    have HU : Hid (.pointer u = pv rp.last) := hu
                    have HP : Hid (st.S P = some rp) := hP
                    have bt := HG.out.tb P rp hP
                    clear hu hP
                    have HNO : Hid (Maps.has st.D (.string nm.data.toList) = false) := hnno
                    have HTD : Hid (Tidy st.D) := hS.own.tidy
                    have HIM : Hid (Maps.IsMap st.D) := hS.own.isMap
                    clear hS
                    go_wp2_with fail
                    refine (name_is _ ni hni0 hni1).mono ?_
                    rintro e wa ⟨rfl, rfl⟩
                    rw [HNM.out]
                    go_wp2_with fail
                    refine (name_is _ pi hpi0 hpi1).mono ?_
                    rintro e wb ⟨rfl, rfl⟩
                    rw [HPN.out]
                    go_wp2_with fail
                    refine (begin_ok wb HS.out nm pn hnz hpz he HNO.out P rp HP.out hs hpat hpyes (fun C hC => (HG.out.last P rp C HP.out hC).2) (by omega) (by omega) (by omega) (by omega) (by omega) (by omega) (by omega) (by omega) (by omega) (by omega) (by omega)).mono ?_
                    rintro e w3 ⟨rfl, T, hT, hS3⟩
                    have hfr := HS.out.fresh hT
                    have hPT : P ≠ T := fun e => by have := HP.out; rw [e, hfr] at this; cases this
                    have hlc : ∀ C, rp.last = some C → C ≠ P ∧ C ≠ T := fun C hC => by
                      obtain ⟨h1, r', h2⟩ := HG.out.last P rp C HP.out hC
                      exact ⟨h1, fun e => by rw [e, hfr] at h2; cases h2⟩
                    have hSx := enterSub_S (begunS st) T nm P rp rp.ts rp.drawn HP.out hPT hlc
                    obtain ⟨f1, f2, f3, f4, f5⟩ := enterSub_flat (begunS st) T nm P rp rp.ts rp.drawn
                    have HB3 : Hid (Below N w w3) := hS3.below
                    have hP3 := hSx P
                    rw [if_neg hPT, if_pos rfl] at hP3
                    have hT3 := hSx T
                    rw [if_pos rfl] at hT3
                    have hc0 := hS3.cellL (j := 0) rfl
                    have hc27 : w3.cell? ⟨L, 27, none⟩ = some (.int .u64 (st.begun + 1)) := by have := hS3.cellL (j := 27) rfl; rw [f4] at this; exact this
                    have hc41 : w3.cell? ⟨L, 41, none⟩ = some (.int .u64 (st.active + 1)) := by have := hS3.cellL (j := 41) rfl; rw [f5] at this; exact this
                    have hsz3 : Maps.size (enterSub (begunS st) T nm P rp rp.ts rp.drawn).D = SZ + 1 := by
                      rw [f2, show (begunS st).D = st.D from rfl, size_put HTD.out, HNO.out]
                      simp [HSZ.out]
                    have hlen : ∀ k, (Builtin.len_ #[67] 3 #[.map (some b)]).run Ybaf.prog (w3.drewN k) = .ok (.int .i64 ((SZ + 1 : Nat) : Int)) (w3.drewN k) := fun k => by
                      rw [← hsz3]
                      exact (hS3.drewN k).len_run
                    have hlen0 : (Builtin.len_ #[67] 3 #[.map (some b)]).run Ybaf.prog w3 = .ok (.int .i64 ((SZ + 1 : Nat) : Int)) w3 := by
                      rw [← hsz3]
                      exact hS3.len_run
                    have hlk : (Instr.lookup 67 (.map (some b)) (.string nm) false).run Ybaf.prog w3 = .ok (.pointer (some ⟨T, 0, none⟩)) w3 := by
                      have := hS3.look_run nm hnz
                      rw [f2, atKey_put_same (D := (begunS st).D) HIM.out (by simp [WideAt.IsKeyLit])] at this
                      simpa [ptrOf] using this
                    have c1 : w3.cell? ⟨P, 1, none⟩ = some (.int .u8 0) := by have := hS3.cellT hP3 (j := 1) rfl; rw [hs] at this; exact this
                    obtain ⟨ur, hur⟩ := pv_pointer rp.root
                    have c3 : w3.cell? ⟨P, 3, none⟩ = some (.pointer ur) := by rw [hur]; exact hS3.cellT hP3 (j := 3) rfl
                    have c4 : w3.cell? ⟨P, 4, none⟩ = some (.int .i64 rp.depth) := hS3.cellT hP3 (j := 4) rfl
                    have c5 : w3.cell? ⟨P, 5, none⟩ = some (.int .u64 rp.ts) := hS3.cellT hP3 (j := 5) rfl
                    have c6 : w3.cell? ⟨P, 6, none⟩ = some (.bool rp.drawn) := hS3.cellT hP3 (j := 6) rfl
                    have c24 : w3.cell? ⟨P, 24, none⟩ = some (.pointer (some ⟨T, 0, none⟩)) := hS3.cellT hP3 (j := 24) rfl
                    have c29 : w3.cell? ⟨P, 29, none⟩ = some (.int .u64 (rp.begun + 1)) := hS3.cellT hP3 (j := 29) rfl
                    have t0 : w3.cell? ⟨T, 0, none⟩ = some (.string nm) := hS3.cellT hT3 (j := 0) rfl
                    have t1 : w3.cell? ⟨T, 1, none⟩ = some (.int .u8 0) := hS3.cellT hT3 (j := 1) rfl
                    have t2 : w3.cell? ⟨T, 2, none⟩ = some (.pointer (some ⟨P, 0, none⟩)) := hS3.cellT hT3 (j := 2) rfl
                    have t3 : w3.cell? ⟨T, 3, none⟩ = some (.pointer ur) := by rw [hur]; exact hS3.cellT hT3 (j := 3) rfl
                    have t4 : w3.cell? ⟨T, 4, none⟩ = some (.int .i64 (rp.depth + 1)) := hS3.cellT hT3 (j := 4) rfl
                    have t5 : w3.cell? ⟨T, 5, none⟩ = some (.int .u64 rp.ts) := hS3.cellT hT3 (j := 5) rfl
                    have t6 : w3.cell? ⟨T, 6, none⟩ = some (.bool rp.drawn) := hS3.cellT hT3 (j := 6) rfl
                    have t23 : w3.cell? ⟨T, 23, none⟩ = some (.pointer none) := hS3.cellT hT3 (j := 23) rfl
                    have t30 : w3.cell? ⟨T, 30, none⟩ = some (.int .u64 rp.begun) := hS3.cellT hT3 (j := 30) rfl
                    have hpe := ptr_eql (some ⟨P, 0, none⟩)
                    have hte := ptr_eql (some ⟨T, 0, none⟩)
                    have hre := ptr_eql ur
                    have w4 := wrap_i (rp.depth) (by omega) (by omega)
                    have w29 := wrap_u (rp.begun) (by omega) (by omega)
                    have w27 := wrap_u (st.begun) (by omega) (by omega)
                    have w41 := wrap_u (st.active) (by omega) (by omega)
                    have wsz := wrap_i (SZ : Int) (by omega) (by omega)
                    have t25 : w3.cell? ⟨T, 25, none⟩ = some (.pointer (some ⟨C, 0, none⟩)) := by have := hS3.cellT hT3 (j := 25) rfl; rw [hC] at this; exact this
                    obtain ⟨rc, hrc⟩ := (HG.out.last P rp C HP.out hC).2
                    have hC3 := hSx C
                    rw [if_neg (hlc C hC).2, if_neg (hlc C hC).1, if_pos hC, show (begunS st).S C = st.S C from rfl, hrc] at hC3
                    have x26 : w3.cell? ⟨C, 26, none⟩ = some (.pointer (some ⟨T, 0, none⟩)) := hS3.cellT hC3 (j := 26) rfl
                    have hce := ptr_eql (some ⟨C, 0, none⟩)
                    obtain rfl : u = some ⟨C, 0, none⟩ := by have := HU.out; rw [hC] at this; simpa [pv] using this
                    clear hC3 hrc hC
                    have HS3 : Hid (State N w w3 L b (enterSub (begunS st) T nm P rp rp.ts rp.drawn)) := hS3
                    clear hS3 hP3 hT3 hSx f1 f2 f3 f4 f5 hlc hfr hur hsz3 hpat hpyes hnno hnnil hs hlp hln
                    go_wp2_with fail
                    dsimp only [List.append]
                    refine wp_region_quiet_lit ?hm ?hB ?hQ
                    case hm => kernel_rfl
                    case hB => exact (congrArg (Region.lexB .any) (show _ = opsOf Ybaf.f4 51 by kernel_rfl)).trans lex51
                    case hQ =>
                      repeat (go_big_quiet_step (fail))
                      refine wpQuiet_nil ?_
                      intro _ hw'
                      obtain ⟨nq, hw''⟩ := hw'
                      subst hw''
                      go_wp2
                      go_ret
                      exact ⟨rfl, (HS3.out.drewN nq).below⟩
              · as_aux_lemma =>
                  have hln : (Instr.lookup 67 (.map (some b)) (.string nm) false).run Ybaf.prog wr = .ok (.pointer none) wr := by
                    have := hS.look_run nm hnz
                    rw [hnnil] at this
                    exact this
                  have hlp : (Instr.lookup 67 (.map (some b)) (.string pn) false).run Ybaf.prog wr = .ok (.pointer (some ⟨P, 0, none⟩)) wr := by
                    have := hS.look_run pn hpz
                    rw [hpat] at this
                    simpa [ptrOf] using this
                  have c29 := hS.cellT hP (j := 29) rfl
                  have c24 := hS.cellT hP (j := 24) rfl
                  obtain ⟨u, hu⟩ := pv_pointer rp.last
                  rw [← hu] at c24
                  have HU : Hid (.pointer u = pv rp.last) := hu
                  have HP : Hid (st.S P = some rp) := hP
                  have bt := HG.out.tb P rp hP
                  clear hu hP
                  have hsb : (rp.state != 0) = true := by simp [hs]
                  clear hS
                  go_wp2_with fail
                  refine (name_is _ ni hni0 hni1).mono ?_
                  rintro e wa ⟨rfl, rfl⟩
                  rw [HNM.out]
                  go_wp2_with fail
                  refine (name_is _ pi hpi0 hpi1).mono ?_
                  rintro e wb ⟨rfl, rfl⟩
                  rw [HPN.out]
                  go_wp2_with fail
                  refine (begin_refused wb HS.out nm pn hnz he hnno s2 (active_not F wb (by rw [HS.out.below.tape]; exact HF.out) HS.out pn hpz s2 (HS2.out.below HS.out.below (by rw [← hN]; exact HS2.out.2.1) (by rw [← hN]; exact HS2.out.lt)) P rp HP.out hs hpat hpyes)).mono ?_
                  rintro e w3 ⟨ve, rfl, hw3, hb3⟩
                  obtain ⟨X, rfl, hX⟩ := hw3
                  have hS3 := HS.out.above hb3
                  have HB3 : Hid (Below N w w3) := hS3.below
                  have hc0 := hS3.cellL (j := 0) rfl
                  have hc27 := hS3.cellL (j := 27) rfl
                  have hc41 := hS3.cellL (j := 41) rfl
                  have hlen := hS3.len_run
                  rw [HSZ.out] at hlen
                  have c29 := hS3.cellT HP.out (j := 29) rfl
                  have c24 := hS3.cellT HP.out (j := 24) rfl
                  have c1 := hS3.cellT HP.out (j := 1) rfl
                  rw [← HU.out] at c24
                  have hpe := ptr_eql u
                  have hgl := (HS2.out.below hS3.below (by rw [← hN]; exact HS2.out.2.1) (by rw [← hN]; exact HS2.out.lt)).1
                  clear hS3 hb3
                  go_wp2_with fail
                  refine (is_wrap_same X 0 s2 w3 hX).mono ?_
                  rintro e w4 ⟨rfl, rfl⟩
                  go_wp2
                  go_ret
                  exact ⟨rfl, HB3.out⟩
          · rcases HG.out.key (.string pn.data.toList) with ⟨hpno, hpnil⟩ | ⟨P, rp, hpyes, hpat, hP⟩
            · as_aux_lemma =>
                have hln : (Instr.lookup 67 (.map (some b)) (.string nm) false).run Ybaf.prog wr = .ok (.pointer (some ⟨Q, 0, none⟩)) wr := by
                  have := hS.look_run nm hnz
                  rw [hnat] at this
                  simpa [ptrOf] using this
                have hlp : (Instr.lookup 67 (.map (some b)) (.string pn) false).run Ybaf.prog wr = .ok (.pointer none) wr := by
                  have := hS.look_run pn hpz
                  rw [hpnil] at this
                  exact this
                clear hS
                go_wp2_with fail
                refine (name_is _ ni hni0 hni1).mono ?_
                rintro e wa ⟨rfl, rfl⟩
                rw [HNM.out]
                go_wp2_with fail
                refine (name_is _ pi hpi0 hpi1).mono ?_
                rintro e wb ⟨rfl, rfl⟩
                rw [HPN.out]
                go_wp2_with fail
                refine (begin_exists F wb (by rw [HS.out.below.tape]; exact HF.out) HS.out nm pn hnz he s0 (HS0.out.below HS.out.below (by rw [← hN]; exact HS0.out.2.1) (by rw [← hN]; exact HS0.out.lt)) hnyes).mono ?_
                rintro e w3 ⟨ve, rfl, hw3, hb3⟩
                obtain ⟨X, rfl, hX⟩ := hw3
                have hS3 := HS.out.above hb3
                have HB3 : Hid (Below N w w3) := hS3.below
                have hc0 := hS3.cellL (j := 0) rfl
                have hc27 := hS3.cellL (j := 27) rfl
                have hc41 := hS3.cellL (j := 41) rfl
                have hlen := hS3.len_run
                rw [HSZ.out] at hlen
                have hgl := (HS0.out.below hS3.below (by rw [← hN]; exact HS0.out.2.1) (by rw [← hN]; exact HS0.out.lt)).1
                clear hS3 hb3
                go_wp2_with fail
                refine (is_wrap_same X 0 s0 w3 hX).mono ?_
                rintro e w4 ⟨rfl, rfl⟩
                go_wp2
                go_ret
                exact ⟨rfl, HB3.out⟩
            · as_aux_lemma =>
                have hln : (Instr.lookup 67 (.map (some b)) (.string nm) false).run Ybaf.prog wr = .ok (.pointer (some ⟨Q, 0, none⟩)) wr := by
                  have := hS.look_run nm hnz
                  rw [hnat] at this
                  simpa [ptrOf] using this
                have hlp : (Instr.lookup 67 (.map (some b)) (.string pn) false).run Ybaf.prog wr = .ok (.pointer (some ⟨P, 0, none⟩)) wr := by
                  have := hS.look_run pn hpz
                  rw [hpat] at this
                  simpa [ptrOf] using this
                have c29 := hS.cellT hP (j := 29) rfl
                have c24 := hS.cellT hP (j := 24) rfl
                obtain ⟨u, hu⟩ := pv_pointer rp.last
                rw [← hu] at c24
                have HU : Hid (.pointer u = pv rp.last) := hu
                have HP : Hid (st.S P = some rp) := hP
                have bt := HG.out.tb P rp hP
                clear hu hP
                clear hS
                go_wp2_with fail
                refine (name_is _ ni hni0 hni1).mono ?_
                rintro e wa ⟨rfl, rfl⟩
                rw [HNM.out]
                go_wp2_with fail
                refine (name_is _ pi hpi0 hpi1).mono ?_
                rintro e wb ⟨rfl, rfl⟩
                rw [HPN.out]
                go_wp2_with fail
                refine (begin_exists F wb (by rw [HS.out.below.tape]; exact HF.out) HS.out nm pn hnz he s0 (HS0.out.below HS.out.below (by rw [← hN]; exact HS0.out.2.1) (by rw [← hN]; exact HS0.out.lt)) hnyes).mono ?_
                rintro e w3 ⟨ve, rfl, hw3, hb3⟩
                obtain ⟨X, rfl, hX⟩ := hw3
                have hS3 := HS.out.above hb3
                have HB3 : Hid (Below N w w3) := hS3.below
                have hc0 := hS3.cellL (j := 0) rfl
                have hc27 := hS3.cellL (j := 27) rfl
                have hc41 := hS3.cellL (j := 41) rfl
                have hlen := hS3.len_run
                rw [HSZ.out] at hlen
                have c29 := hS3.cellT HP.out (j := 29) rfl
                have c24 := hS3.cellT HP.out (j := 24) rfl
                have c1 := hS3.cellT HP.out (j := 1) rfl
                rw [← HU.out] at c24
                have hpe := ptr_eql u
                have hgl := (HS0.out.below hS3.below (by rw [← hN]; exact HS0.out.2.1) (by rw [← hN]; exact HS0.out.lt)).1
                clear hS3 hb3
                go_wp2_with fail
                refine (is_wrap_same X 0 s0 w3 hX).mono ?_
                rintro e w4 ⟨rfl, rfl⟩
                go_wp2
                go_ret
                exact ⟨rfl, HB3.out⟩
end Go.Proofs.YbulkxzmFmt
