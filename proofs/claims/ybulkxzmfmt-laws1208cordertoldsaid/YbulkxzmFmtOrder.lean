/-
  LawS1208COrder: the walk.
-/
import Derived.Test.YbulkxzmFmtEq
import Derived.Deep.QuietTactic
import Derived.BigQuiet
namespace Go.Proofs.YbulkxzmFmt
open Go.RowKit Go.Maps
set_option linter.unusedVariables false

set_option maxHeartbeats 1600000 in
set_option maxRecDepth 100000 in
theorem child_any (w : World) (t : Nat) (ht : t ≤ 7) : Calls Ybaf.prog 12 #[.int .i64 t] w fun e w' => e = .returned (.string (cn t)) ∧ w' = w := by
  rcases (show t = 0 ∨ t = 1 ∨ t = 2 ∨ t = 3 ∨ t = 4 ∨ t = 5 ∨ t = 6 ∨ t = 7 from by omega) with rfl | rfl | rfl | rfl | rfl | rfl | rfl | rfl
  all_goals
    clear ht
    go_enter Ybaf.func12, Ybaf.ntmps12
    go_wp2
    go_ret
    exact ⟨rfl, rfl⟩

set_option maxHeartbeats 8000000 in
set_option maxRecDepth 100000 in
theorem order_walk (k ts : Int) (hk0 : 0 ≤ k) (hk1 : k ≤ 255) (w : World) :
    Calls Ybaf.prog 5 #[.int .u8 k, .int .u64 ts] w fun e w' => e = .returned (.bool true) ∧ Below w.heap.size w w' := by
  obtain ⟨c, hc⟩ : ∃ c : Nat, k % 9 = (c : Int) := ⟨(k % 9).toNat, by omega⟩
  have hc8 : c ≤ 8 := by omega
  obtain ⟨N, hN⟩ : ∃ N, w.heap.size = N := ⟨_, rfl⟩
  have HT := table_any w
  rw [hN] at HT ⊢
  have HTB : Hid (Calls Ybaf.prog 6 #[.slice none 0 0] w fun e w' => ∃ L b, e = .returned (.pointer (some ⟨L, 0, none⟩)) ∧ State N w w' L b emptyS) := HT
  clear HT
  go_enter Ybaf.func5, Ybaf.ntmps5
  go_wp2_with fail
  refine HTB.out.mono ?_
  rintro e w1 ⟨L, b, rfl, hst⟩
  clear HTB
  have HS : Hid (State N w w1 L b emptyS) := hst
  clear hst
  go_wp2_with fail
  refine (start_top w1 HS.out pname (by unfold maxLen; decide) ts false (by decide) (by decide) (by decide) (by decide) (by decide) (by decide) (by decide)).mono ?_
  rintro e w2 ⟨P, rfl, hPV, hst⟩
  have HS2 : Hid (State N w w2 L b (enterTop (begunS emptyS) P pname ts false)) := hst
  clear hst hPV HS
  go_wp2_with fail
  go_loopw [8] (fun i wr => ∃ (cs : List Nat) (st : LT), cs.length ≤ c ∧ i = .int .i64 (cs.length : Nat) ∧ State N w wr L b st ∧ OrdAt ts P st cs) (fun i _ => c - (intOf i).toNat)
  case atStart => exact ⟨[], _, Nat.zero_le _, rfl, HS2.out, ordAt_top ts P⟩
  case round =>
    clear HS2
    obtain ⟨cs, st, hcs, rfl, hst, hord⟩ := hrel
    have HS : Hid (State N w wr L b st) := hst
    have HO : Hid (OrdAt ts P st cs) := hord
    clear hst hord
    obtain ⟨t, htl⟩ : ∃ t, t = cs.length := ⟨_, rfl⟩
    have HTL : Hid (t = cs.length) := htl
    rw [← htl] at hcs ⊢
    clear htl
    by_cases htc : t < c
    · go_wp2_with fail
      refine (child_any wr t (by omega)).mono ?_
      rintro e w' ⟨rfl, rfl⟩
      go_wp2_with fail
      have HB : Hid (Calls Ybaf.prog 10 #[.pointer (some ⟨L, 0, none⟩), .string (cn t), .string ⟨#[112]⟩] w' fun e w'' => e = .returned .nilIface ∧ ∃ (cs' : List Nat) (st' : LT), cs'.length = t + 1 ∧ State N w w'' L b st' ∧ OrdAt ts P st' cs') := by
        obtain ⟨rp, hP, p1, p2, p3, p4, p5, p6, p7⟩ := HO.out.pt
        have htl := HTL.out
        have ho := HO.out
        have hs := HS.out
        have a1 := ho.hn
        have a2 := ho.hst
        have a3 := ho.hbg
        have a4 := ho.hac
        refine (begin_ok w' hs (cn t) pname (by rw [cn_size]; unfold maxLen; decide) (by unfold maxLen; decide) (cn_isEmpty t) (ho.no t (by omega) (by omega)) P rp hP p1 ho.atP ho.hasP ?_ (by omega) (by omega) (by omega) (by omega) (by omega) (by omega) (by omega) (by omega) (by omega) (by omega) (by omega)).mono ?_
        · intro C hC
          rw [p7] at hC
          obtain ⟨r, hr, _⟩ := ho.ch _ C hC
          exact ⟨r, hr⟩
        · rintro e w2 ⟨rfl, T, hT, hst2⟩
          refine ⟨rfl, cs ++ [T], _, by simp; omega, hst2, ?_⟩
          have hPs := hs.sizeT hP
          have hcT : T ∉ cs := fun hmem => by
            obtain ⟨i, hi⟩ := List.mem_iff_getElem?.1 hmem
            obtain ⟨r, hr, _⟩ := ho.ch i T hi
            have := hs.sizeT hr
            omega
          rw [htl]
          exact ho.step hs.own.tidy hs.own.isMap (by omega) T (by omega) hcT rp hP
      refine HB.out.mono ?_
      rintro e w2 ⟨rfl, cs', st', hlen, hst', hord'⟩
      have HS' : Hid (State N w w2 L b st') := hst'
      have HO' : Hid (OrdAt ts P st' cs') := hord'
      have HLEN : Hid (cs'.length = t + 1) := hlen
      clear hst' hord' HB HS HO HTL hlen
      go_wp2_with fail
      go_roundw
      case rel => exact ⟨cs', st', by rw [HLEN.out]; omega, by rw [HLEN.out]; go_num, HS'.out, HO'.out⟩
      case measure => simp [intOf]; omega
    · obtain rfl : t = c := by omega
      obtain ⟨rp, hP, p1, p2, p3, p4, p5, p6, p7⟩ := HO.out.pt
      have hp23 := HS.out.cellT hP (j := 23) rfl
      rw [p6] at hp23
      obtain ⟨u, hu⟩ := pv_pointer cs[0]?
      rw [← hu] at hp23
      have HU : Hid (.pointer u = pv cs[0]?) := hu
      clear hu hP p1 p2 p3 p4 p5 p6 p7
      go_wp2_with fail
      go_loopw [9, 10] (fun x i wr => ∃ v : Nat, v ≤ t ∧ i = .int .i64 v ∧ x = pv cs[v]? ∧ State N w wr L b st) (fun _ i _ => t - (intOf i).toNat)
      case atStart => exact ⟨0, Nat.zero_le _, rfl, HU.out, HS.out⟩
      case round =>
        clear hp23
        obtain ⟨v, hv, rfl, rfl, hst⟩ := hrel
        have HS2 : Hid (State N w wr L b st) := hst
        clear HS HU
        by_cases hvt : v < t
        · obtain ⟨C, hC⟩ : ∃ C, cs[v]? = some C := ⟨_, List.getElem?_eq_getElem (by rw [← HTL.out]; exact hvt)⟩
          obtain ⟨r, hr, q1, q2, q3, q4, q5, q6⟩ := HO.out.ch v C hC
          obtain ⟨rp, hP, p1, p2, p3, p4, p5, p6, p7⟩ := HO.out.pt
          have c0 := hst.cellT hr (j := 0) rfl
          have c30 := hst.cellT hr (j := 30) rfl
          have c5 := hst.cellT hr (j := 5) rfl
          have c6 := hst.cellT hr (j := 6) rfl
          have c2 := hst.cellT hr (j := 2) rfl
          have c26 := hst.cellT hr (j := 26) rfl
          have d5 := hst.cellT hP (j := 5) rfl
          have d6 := hst.cellT hP (j := 6) rfl
          rw [q1] at c0
          rw [q2] at c30
          rw [q3] at c5
          rw [q4] at c6
          rw [q5] at c2
          rw [q6] at c26
          rw [p2] at d5
          rw [p3] at d6
          simp only [pv] at c2
          obtain ⟨u', hu'⟩ := pv_pointer cs[v + 1]?
          rw [← hu'] at c26
          have HU' : Hid (.pointer u' = pv cs[v + 1]?) := hu'
          have hvI : (v : Int) < (t : Int) := by omega
          rw [hC]
          simp only [pv]
          clear hu' hst hr q1 q2 q3 q4 q5 q6 hP p1 p2 p3 p4 p5 p6 p7 hC
          have hwv := wrap_v v (by omega)
          have hpn := ptr_neq (some ⟨P, 0, none⟩)
          go_wp2_with fail
          go_quiet (first | (go_at_call 12; exact Calls.quiet_of_same (child_any _ v (by omega))))
          go_wp2_with fail
          go_roundw
          case rel => exact ⟨v + 1, by omega, by go_num, HU'.out, HS2.out.drewN nq⟩
          case measure => simp [intOf]; omega
        · obtain rfl : v = t := by omega
          obtain ⟨rp, hP, p1, p2, p3, p4, p5, p6, p7⟩ := HO.out.pt
          have hn : cs[v]? = none := List.getElem?_eq_none (by rw [← HTL.out]; exact Nat.le_refl _)
          have d29 := hst.cellT hP (j := 29) rfl
          rw [p4, ← HTL.out] at d29
          have c0 := hst.cellL (j := 0) rfl
          have HSZ : Hid (Maps.size st.D = v + 1) := by
            show Maps.size st.D = v + 1
            rw [HO.out.sz, ← HTL.out]
          have hwv := wrap_v v (by omega)
          rw [hn]
          simp only [pv]
          have hlen : (Builtin.len_ #[67] 3 #[.map (some b)]).run Ybaf.prog wr = .ok (.int .i64 ((v + 1 : Nat) : Int)) wr := by
            rw [← HSZ.out]
            exact World.ownsMap.len hst.own Ybaf.underlying67 3
          clear hst hP p1 p2 p3 p4 p5 p6 p7 hn hvt
          go_wp2
          go_ret
          exact ⟨rfl, HS2.out.below⟩
end Go.Proofs.YbulkxzmFmt
