/-
  Simplifying a problem.
-/
import Derived.Test.YtiimddkopiknpaaGreatDoorB06
set_option linter.unusedVariables false
set_option linter.unusedSimpArgs false

/-
  simplify2, walked.
-/
namespace Go.Proofs.YtiimddkopiknpaaGreatDoor
open Go.RowKit

def bl (v : Value) : Nat := match v with | .bool true => 1 | _ => 0

/-- at the head of a pass -/
def S2Rel (F : List (List Nat)) (s0 : PSt) (w0 : World) (v2 v3 : Value) (wr : World) : Prop :=
  ∃ (s : PSt) (n : Nat) (r : Bool), v2 = .int .i64 (n : Int) ∧ v3 = .bool r ∧ SV F s n s.lits ∧ (r = false → clean s n) ∧ Tr s0.row w0 s.row wr ∧ s.keepP = s0.keepP
/-- in a pass -/
def S2RelB (F : List (List Nat)) (s0 : PSt) (w0 : World) (n0 : Nat) (v2 v3 v4 : Value) (wr : World) : Prop :=
  ∃ (s : PSt) (n i : Nat) (r : Bool), v2 = .int .i64 (n : Int) ∧ v3 = .bool r ∧ v4 = .int .i64 (i : Int) ∧ i ≤ n ∧ n ≤ n0 ∧ (r = true → n < n0) ∧ SV F s n s.lits ∧ (r = false → clean s i) ∧ Tr s0.row w0 s.row wr ∧ s.keepP = s0.keepP
/-- in a clause -/
def S2RelC (F : List (List Nat)) (s0 : PSt) (w0 : World) (n i c : Nat) (r : Bool) (v6 v7 v8 : Value) (wr : World) : Prop :=
  ∃ (s : PSt) (nb j : Nat), v6 = .int .i64 (nb : Int) ∧ v7 = .bool false ∧ v8 = .int .i64 (j : Int) ∧ j ≤ nb ∧ nb ≤ (s.lits c).length ∧ SV F s n (ctc s c nb) ∧ nth s.cs i = c ∧ (∀ k, k < j → s.va (nth (s.lits c) k / 2) = 0) ∧ (r = false → clean s i) ∧ Tr s0.row w0 s.row wr ∧ s.keepP = s0.keepP
def S2Post (F : List (List Nat)) (s0 : PSt) (w0 : World) (e : Ending) (w : World) : Prop :=
  e = .returned (.tuple #[]) ∧ ∃ s, Tr s0.row w0 s.row w ∧ s.pb = s0.pb ∧ s.nv = s0.nv ∧ s.ids = s0.ids ∧ s.mV = s0.mV ∧ ((s.st = 2 ∧ ∀ τ, Con τ → ¬ ∀ C ∈ F, Clo τ C) ∨ PFin F s)

theorem keepP_pb {s s0 : PSt} (h : s.keepP = s0.keepP) : s.pb = s0.pb ∧ s.nv = s0.nv ∧ s.ids = s0.ids ∧ s.cs.length = s0.cs.length ∧ s.csV = s0.csV ∧ s.mV = s0.mV := by
  unfold PSt.keepP at h
  simp only [Prod.mk.injEq] at h
  exact h

set_option maxRecDepth 100000 in
set_option maxHeartbeats 8000000 in
theorem simp2_c {F : List (List Nat)} {s0 : PSt} {w0 : World} (h : Rows s0.row w0) (hS : SV F s0 s0.cs.length s0.lits) (h0 : 0 < s0.cs.length) (hnv0 : 0 < s0.nv) :
    Calls Tryz.prog 41 #[.pointer (some ⟨s0.pb, 0, none⟩)] w0 (S2Post F s0 w0) := by
  obtain ⟨cb, ccap, hcv, hccap, hcA, hcF⟩ := PSt.csAt h h0
  have h1 : w0.cell? ⟨s0.pb, 1, none⟩ = some s0.csV := PSt.pbc h (j := 1) rfl
  rw [hcv] at h1
  obtain ⟨mb, mcap, hmv, _, _⟩ := PSt.modAt h (by rw [hS.vl]; exact hnv0)
  rw [hS.vl] at hmv
  have hcsl := hS.csl
  have hnv1 := hS.nv1
  obtain ⟨N, hN⟩ : ∃ N, N = s0.cs.length := ⟨_, rfl⟩
  rw [← hN] at h1 hcsl h0 hccap
  replace hS := Lib.hid hS
  replace hN := Lib.hid hN
  replace hcv := Lib.hid hcv
  replace hmv := Lib.hid hmv
  clear hcA hcF
  go_enter Tryz.func41, Tryz.ntmps41
  go_wp2_with fail
  clear h1
  go_loopw [2, 3] (fun v2 v3 wr => S2Rel F s0 w0 v2 v3 wr) (fun v2 v3 _ => (intOf v2).toNat + bl v3)
  case atStart => exact ⟨s0, N, true, rfl, rfl, by rw [hN.out]; exact hS.out, fun h => (by cases h), Tr.refl h, rfl⟩
  case round =>
    obtain ⟨s, n, r, rfl, rfl, hV, hcl, hT, hk⟩ := hrel
    cases r with
    | false =>
      have hup := updSt_c hT.rows (n := n) hV.nl (by rw [(keepP_pb hk).2.2.2.1, ← hN.out]; exact h0) hV.csl
      rw [(keepP_pb hk).1] at hup
      have hfin := fun V => hV.fin (V := V) (hcl rfl)
      replace hup := Lib.hid hup
      replace hfin := Lib.hid hfin
      replace hV := Lib.hid hV
      replace hT := Lib.hid hT
      replace hk := Lib.hid hk
      clear hcl
      go_wp2_with (go_at_call 60; refine hup.out.mono ?_; rintro e w1 ⟨rfl, V, hT1⟩; replace hT1 := Lib.hid hT1)
      go_end0
      obtain ⟨k1, k2, k3, k4, k5, k6⟩ := keepP_pb hk.out
      exact ⟨rfl, _, hT.out.trans hT1.out, k1, k2, k3, k6, .inr (hfin.out V)⟩
    | true =>
      replace hV := Lib.hid hV
      replace hT := Lib.hid hT
      replace hk := Lib.hid hk
      go_wp2_with fail
      go_loopw [2, 3, 4] (fun v2 v3 v4 wq => S2RelB F s0 w0 n v2 v3 v4 wq) (fun v2 _ v4 _ => (intOf v2).toNat - (intOf v4).toNat)
      case atStart => exact ⟨s, n, 0, false, rfl, rfl, rfl, Nat.zero_le _, Nat.le_refl _, fun h => (by cases h), hV.out, fun _ j hj => by omega, hT.out, hk.out⟩
      case round =>
        clear hV hT hk hcl
        obtain ⟨s, n', i, r, rfl, rfl, rfl, hin, hnn, hrn, hV, hcl, hT, hk⟩ := hrel
        have hn' : n' ≤ N := by rw [hN.out, ← (keepP_pb hk).2.2.2.1]; exact hV.nl
        by_cases hlt : i < n'
        · have hltI : (i : Int) < (n' : Int) := by omega
          have hiN : (i : Int) < (N : Int) := by omega
          obtain ⟨k1, k2, k3, k4, k5, k6⟩ := keepP_pb hk
          have hcm : nth s.cs i ∈ s.cs.take n' := mem_take_nth hlt hV.nl
          have hcid := hV.mem _ hcm
          obtain ⟨hl2, hl1⟩ := hV.len _ hcm
          obtain ⟨cb', ccap', hcv', _, hcA, hcF⟩ := PSt.csAt hT.rows (by rw [k4, ← hN.out]; exact h0)
          have hcb : cb' = cb := by
            have := (k5.trans hcv.out).symm.trans hcv'
            simp at this
            exact this.1.symm
          subst hcb
          have f1 : wr.cell? ⟨s.pb, 1, none⟩ = some s.csV := PSt.pbc hT.rows (j := 1) rfl
          rw [k1, k5, hcv.out, ← hN.out] at f1
          have g1 := hcA i (by rw [k4, ← hN.out]; omega)
          obtain ⟨b, cap, hlv, _, hA, _⟩ := PSt.clAt hT.rows hcid (by omega) hl1
          have hLen := Len_c hA
          obtain ⟨c, hc⟩ : ∃ c, c = nth s.cs i := ⟨_, rfl⟩
          rw [← hc] at g1 hLen hcm hcid hl2 hl1
          have hVc : SV F s n' (ctc s c (s.lits c).length) := by rw [ctc_full s c _ rfl]; exact hV
          obtain ⟨nb0, hnb0⟩ : ∃ nb0, nb0 = (s.lits c).length := ⟨_, rfl⟩
          rw [← hnb0] at hLen hVc
          have hnb01 : nb0 ≤ 1000000 := by omega
          replace hnb0 := Lib.hid hnb0
          replace hc := Lib.hid hc
          replace hLen := Lib.hid hLen
          replace hVc := Lib.hid hVc
          replace hV := Lib.hid hV
          replace hT := Lib.hid hT
          replace hk := Lib.hid hk
          replace hcl := Lib.hid hcl
          clear hcA hcF hA hlv k1 k2 k3 k4 k5 k6 hcv'
          go_wp2_with (go_at_call 50; refine Calls.ret hLen.out ?_)
          go_loopw [6, 7, 8] (fun v6 v7 v8 wx => S2RelC F s0 w0 n' i c r v6 v7 v8 wx) (fun v6 _ v8 _ => (intOf v6).toNat - (intOf v8).toNat)
          case atStart => exact ⟨s, nb0, 0, rfl, rfl, rfl, Nat.zero_le _, by rw [hnb0.out]; exact Nat.le_refl _, hVc.out, hc.out.symm, fun k hk => by omega, hcl.out, hT.out, hk.out⟩
          case round =>
            clear hV hT hk hcl hVc hnb0 hLen f1 g1 hc
            obtain ⟨s1, nb, j, rfl, rfl, rfl, hjn, hnbl, hV, hci, hz, hcl, hT, hk⟩ := hrel
            obtain ⟨k1, k2, k3, k4, k5, k6⟩ := keepP_pb hk
            have hcm1 : c ∈ s1.cs.take n' := by rw [← hci]; exact mem_take_nth hlt hV.nl
            have hcid1 := hV.mem _ hcm1
            obtain ⟨hl2', hl1'⟩ := hV.len _ hcm1
            obtain ⟨b1, cap1, hlv1, _, hA1, _⟩ := PSt.clAt hT.rows hcid1 (by omega) hl1'
            by_cases hjlt : j < nb
            · have hjI : (j : Int) < (nb : Int) := by omega
              have hjl : j < (s1.lits c).length := by omega
              have hget := Get_c hA1 j hjl
              have hcc : ctc s1 c nb c = (s1.lits c).take nb := by simp [ctc]
              have hlm : nth (s1.lits c) j ∈ ctc s1 c nb c := by rw [hcc]; exact mem_take_nth hjlt hnbl
              have hll := hV.lit c hcm1 _ hlm
              have hnv' := k2
              have hndv := hV.ndv c hcm1
              rw [hcc] at hndv
              have hother : ∀ k, j < k → k < nb → nth (s1.lits c) k / 2 ≠ nth (s1.lits c) j / 2 := by
                intro k h1 h2 e
                have := nodup_nth hndv (i := k) (j := j) (by rw [List.length_take]; omega) (by rw [List.length_take]; omega) (by rw [nth_take _ _ _ h2, nth_take _ _ _ hjlt]; exact e)
                omega
              have hlt2 : ∀ k, k < nb → nth (s1.lits c) k < s0.nv * 2 := by
                intro k hk2
                rw [← k2]; exact hV.lit c hcm1 _ (by rw [hcc]; exact mem_take_nth hk2 hnbl)
              rw [k2] at hll
              have hunit := hV.unit (u := nth (s1.lits c) j) (by rw [k2]; omega)
              have hdrop := fun hu => hV.dropLit hcm1 hjlt hnbl hu
              have hsat := fun hu => hV.dropSat (i := i) (u := nth (s1.lits c) j) hlt (by rw [hci]; exact hlm) hu
              have hnbN : nb ≤ 1000000 := by omega
              obtain ⟨l, hl⟩ : ∃ l, l = nth (s1.lits c) j := ⟨_, rfl⟩
              rw [← hl] at hget hll hunit hother hdrop hsat
              have hls : l < 2147483648 := by omega
              obtain ⟨mb', mcap', hmv', hmA, _⟩ := PSt.modAt hT.rows (by rw [hV.vl, k2]; exact hnv0)
              have hmb : mb' = mb := by
                have := (k6.trans hmv.out).symm.trans hmv'
                simp at this
                exact this.1.symm
              subst hmb
              have f4 : wr.cell? ⟨s1.pb, 4, none⟩ = some s1.mV := PSt.pbc hT.rows (j := 4) rfl
              rw [k1, k6, hmv.out] at f4
              have g4 := hmA (l / 2) (by rw [hV.vl, k2]; omega)
              have kk1 : (l : Int) / 2 < (s0.nv : Int) := by omega
              have kk2 : (0 : Int) ≤ (l : Int) / 2 := by omega
              have kk3 : ((l : Int) / 2).toNat = l / 2 := by omega
              have hval : s1.va (l / 2) = 0 ∨ s1.va (l / 2) = 1 ∨ s1.va (l / 2) = -1 := by
                by_cases e : s1.va (l / 2) = 0
                · exact .inl e
                · obtain ⟨w, hw, hw2⟩ := hV.va (l / 2) (by rw [k2]; omega) e
                  have := (hV.us w hw).2
                  rw [hw2] at this
                  unfold sgn at this
                  split at this
                  · exact .inr (.inl this)
                  · exact .inr (.inr this)
              have hV0 := hV
              replace hV := Lib.hid hV
              replace hT := Lib.hid hT
              replace hk := Lib.hid hk
              replace hcl := Lib.hid hcl
              replace hz := Lib.hid hz
              replace hci := Lib.hid hci
              replace hl := Lib.hid hl
              replace hget := Lib.hid hget
              replace hlv1 := Lib.hid hlv1
              replace hother := Lib.hid hother
              replace hdrop := Lib.hid hdrop
              replace hsat := Lib.hid hsat
              replace hunit := Lib.hid hunit
              clear hV0 k1 k2 k3 k4 k5 k6 hmA hmv' hcc hlm hndv hnv'
              go_wp2_with (go_at_call 52; refine Calls.ret hget.out ?_)
              go_loopw [6, 7, 10] (fun v6 v7 v10 wy => ∃ k : Nat, v6 = .int .i64 (nb : Int) ∧ v7 = .bool false ∧ v10 = .int .i64 (k : Int) ∧ j < k ∧ k ≤ nb ∧ wy = wr) (fun _ _ v10 _ => nb - (intOf v10).toNat)
              case atStart => exact ⟨j + 1, rfl, rfl, by go_num, by omega, by omega, rfl⟩
              case round =>
                obtain ⟨k, rfl, rfl, rfl, hjk, hkn, rfl⟩ := hrel
                by_cases hklt : k < nb
                · have hkI : (k : Int) < (nb : Int) := by omega
                  have hget2 := Get_c hA1 k (by omega)
                  have hyl := hlt2 k hklt
                  have hne := hother.out k hjk hklt
                  generalize nth (s1.lits c) k = y at *
                  have hnl : negL l < 2147483648 := by unfold negL; split <;> omega
                  have hb1 : ((y : Int) == (negL l : Int)) = false := by
                    have : y ≠ negL l := fun e => hne (by rw [e, negL_div])
                    simp; omega
                  have hb2 : ((y : Int) == (l : Int)) = false := by
                    have : y ≠ l := fun e => hne (by rw [e])
                    simp; omega
                  replace hget2 := Lib.hid hget2
                  clear hA1
                  go_wp2_with (first
                    | (go_at_call 52; refine Calls.ret hget2.out ?_)
                    | (go_at_call 53; refine Calls.ret (Neg_c l _ hls) ?_))
                  exact ⟨⟨k + 1, rfl, rfl, by go_num, by omega, by omega, trivial⟩, by simp [intOf]; omega⟩
                · have hkI : ¬ ((k : Int) < (nb : Int)) := by omega
                  clear hA1
                  rcases hval with hx | hx
                  · rw [hx] at g4
                    go_wp2_with fail
                    refine wp_region_tail 8 (by kernel_rfl) (by kernel_rfl) ?_
                    simp only [List.take_succ_cons, List.take_zero, List.drop_succ_cons, List.drop_zero]
                    repeat still_step
                    still_call (Var_c l _ hls)
                    repeat still_step
                    refine wpStill_nil ?_
                    go_wp2_with fail
                    refine ⟨⟨s1, nb, j + 1, rfl, rfl, by go_num, by omega, hnbl, hV.out, hci.out, fun k' hk' => ?_, hcl.out, hT.out.drew, hk.out⟩, by simp [intOf]; omega⟩
                    by_cases e : k' = j
                    · rw [e, ← hl.out]; exact hx
                    · exact hz.out k' (by omega)
                  · have hP := fun w => Pos_c l w hls
                    rcases hx with hx | hx <;> by_cases hp : l % 2 = 0
                    all_goals (first | rw [decide_eq_true hp] at hP | rw [decide_eq_false hp] at hP)
                    · rw [hx] at g4
                      have hu : l ∈ s1.us := by
                        rcases hunit.out (by rw [hx]; decide) with ⟨_, h'⟩ | ⟨h', _⟩
                        · exact h'
                        · exact (h' (by rw [hx]; unfold sgn; simp [hp])).elim
                      obtain ⟨m, rfl⟩ : ∃ m, n' = m + 1 := ⟨n' - 1, by omega⟩
                      simp only [Nat.add_sub_cancel] at hsat
                      obtain ⟨cb2, ccap2, hcv', _, hcA, hcF⟩ := PSt.csAt hT.out.rows (by rw [(keepP_pb hk.out).2.2.2.1, ← hN.out]; exact h0)
                      have hcb : cb2 = cb' := by
                        have := ((keepP_pb hk.out).2.2.2.2.1.trans hcv.out).symm.trans hcv'
                        simp at this
                        exact this.1.symm
                      subst hcb
                      have f1 : wr.cell? ⟨s1.pb, 1, none⟩ = some s1.csV := PSt.pbc hT.out.rows (j := 1) rfl
                      rw [(keepP_pb hk.out).1, (keepP_pb hk.out).2.2.2.2.1, hcv.out, ← hN.out] at f1
                      have g1 := hcA m (by rw [(keepP_pb hk.out).2.2.2.1, ← hN.out]; omega)
                      have g2 := hcA i (by rw [(keepP_pb hk.out).2.2.2.1, ← hN.out]; omega)
                      have gf := hcF i
                      have n1 : (m : Int) < (N : Int) := by omega
                      have n2 : (i : Int) < (m : Int) + 1 := by omega
                      have n6 : m ≤ 1000000 := by omega
                      have hTS := hT.out.trans (PSt.tCs hT.out.rows hcv' i (nth s1.cs m))
                      replace hTS := Lib.hid hTS
                      clear hcA hcF hcv'
                      have hVS := (hsat.out hu).off (ct' := s1.lits) (fun c' hc' => by
                        have : c' ≠ c := fun e => by
                          have hnot := notin_split hlt hV.out.nl hV.out.nd
                          simp only [Nat.add_sub_cancel] at hnot
                          rw [hci.out] at hnot
                          exact hnot (e ▸ hc')
                        simp [ctc, this])
                      have hclS := fun hr => clean_setCs (i := i) (x := nth s1.cs m) (hcl.out hr)
                      replace hVS := Lib.hid hVS
                      replace hclS := Lib.hid hclS
                      go_wp2_with fail
                      refine wp_region_tail 8 (by kernel_rfl) (by kernel_rfl) ?_
                      simp only [List.take_succ_cons, List.take_zero, List.drop_succ_cons, List.drop_zero]
                      repeat still_step
                      still_call (Var_c l _ hls)
                      repeat still_step
                      refine wpStill_nil ?_
                      go_wp2_with fail
                      refine wp_region_tail 11 (by kernel_rfl) (by kernel_rfl) ?_
                      simp only [List.take_succ_cons, List.take_zero, List.drop_succ_cons, List.drop_zero]
                      repeat still_step
                      still_call (Var_c l _ hls)
                      repeat still_step
                      still_call (hP _)
                      repeat still_step
                      refine wpStill_nil ?_
                      go_wp2_with fail
                      refine wp_region_tail 12 (by kernel_rfl) (by kernel_rfl) ?_
                      simp only [List.take_succ_cons, List.take_zero, List.drop_succ_cons, List.drop_zero]
                      repeat still_step
                      refine wpStill_nil ?_
                      go_wp2_with fail
                      refine ⟨⟨s1.setCs i (nth s1.cs m), m, i, r, rfl, rfl, rfl, by omega, by omega, fun hr => by omega, hVS.out, hclS.out, hTS.out.drew.drew.drew, ?_⟩, by simp [intOf]; omega⟩
                      rw [← hk.out]; unfold PSt.keepP PSt.setCs; simp
                    · rw [hx] at g4
                      have hu : negL l ∈ s1.us := by
                        rcases hunit.out (by rw [hx]; decide) with ⟨h', _⟩ | ⟨_, h'⟩
                        · exfalso; rw [hx] at h'; unfold sgn at h'; simp [hp] at h'
                        · exact h'
                      have hVS := hdrop.out hu
                      have hA1' := PSt.clAt hT.out.drew.drew.rows hcid1 (by omega) hl1'
                      obtain ⟨b2, cap2, _, _, hA2, _⟩ := hA1'
                      have hgetL := Get_c hA2 (nb - 1) (by omega)
                      have hset := set_c hT.out.drew.drew.rows hcid1 hl1' (i := j) (x := nth (s1.lits c) (nb - 1)) (by omega)
                      have n5 : ((nb - 1 : Nat) : Int) = (nb : Int) - 1 := by omega
                      rw [n5] at hgetL
                      replace hgetL := Lib.hid hgetL
                      replace hset := Lib.hid hset
                      replace n5 := Lib.hid n5
                      replace hVS := Lib.hid hVS
                      clear hA2
                      go_wp2_with fail
                      refine wp_region_tail 8 (by kernel_rfl) (by kernel_rfl) ?_
                      simp only [List.take_succ_cons, List.take_zero, List.drop_succ_cons, List.drop_zero]
                      repeat still_step
                      still_call (Var_c l _ hls)
                      repeat still_step
                      refine wpStill_nil ?_
                      go_wp2_with fail
                      refine wp_region_tail 11 (by kernel_rfl) (by kernel_rfl) ?_
                      simp only [List.take_succ_cons, List.take_zero, List.drop_succ_cons, List.drop_zero]
                      repeat still_step
                      still_call (Var_c l _ hls)
                      repeat still_step
                      still_call (hP _)
                      repeat still_step
                      refine wpStill_nil ?_
                      go_wp2_with (first
                        | (go_at_call 52; refine Calls.ret hgetL.out ?_)
                        | (go_at_call 57; refine hset.out.mono ?_; rintro e w2 ⟨rfl, hT2⟩; replace hT2 := Lib.hid hT2))
                      refine ⟨⟨s1.setLit c j (nth (s1.lits c) (nb - 1)), nb - 1, j, by rw [n5.out], rfl, rfl, by omega, ?_, hVS.out, hci.out, ?_, ?_, hT.out.drew.drew.trans hT2.out, hk.out⟩, by simp [intOf]; omega⟩
                      · simp [PSt.setLit]; omega
                      · intro k' hk'
                        have e : nth ((s1.setLit c j (nth (s1.lits c) (nb - 1))).lits c) k' = nth (s1.lits c) k' := by
                          simp only [PSt.setLit, if_true]
                          rw [nth_set _ _ _ _ (by omega), if_neg (by omega)]
                        rw [e]
                        exact hz.out k' hk'
                      · intro hr
                        refine clean_lits (hcl.out hr) rfl (fun _ => rfl) hlt hV.out.nl hV.out.nd (fun c' hc' => ?_)
                        rw [hci.out] at hc'
                        simp [PSt.setLit, hc']
                    · rw [hx] at g4
                      have hu : negL l ∈ s1.us := by
                        rcases hunit.out (by rw [hx]; decide) with ⟨h', _⟩ | ⟨_, h'⟩
                        · exfalso; rw [hx] at h'; unfold sgn at h'; simp [hp] at h'
                        · exact h'
                      have hVS := hdrop.out hu
                      have hA1' := PSt.clAt hT.out.drew.drew.rows hcid1 (by omega) hl1'
                      obtain ⟨b2, cap2, _, _, hA2, _⟩ := hA1'
                      have hgetL := Get_c hA2 (nb - 1) (by omega)
                      have hset := set_c hT.out.drew.drew.rows hcid1 hl1' (i := j) (x := nth (s1.lits c) (nb - 1)) (by omega)
                      have n5 : ((nb - 1 : Nat) : Int) = (nb : Int) - 1 := by omega
                      rw [n5] at hgetL
                      replace hgetL := Lib.hid hgetL
                      replace hset := Lib.hid hset
                      replace n5 := Lib.hid n5
                      replace hVS := Lib.hid hVS
                      clear hA2
                      go_wp2_with fail
                      refine wp_region_tail 8 (by kernel_rfl) (by kernel_rfl) ?_
                      simp only [List.take_succ_cons, List.take_zero, List.drop_succ_cons, List.drop_zero]
                      repeat still_step
                      still_call (Var_c l _ hls)
                      repeat still_step
                      refine wpStill_nil ?_
                      go_wp2_with fail
                      refine wp_region_tail 11 (by kernel_rfl) (by kernel_rfl) ?_
                      simp only [List.take_succ_cons, List.take_zero, List.drop_succ_cons, List.drop_zero]
                      repeat still_step
                      still_call (Var_c l _ hls)
                      repeat still_step
                      still_call (hP _)
                      repeat still_step
                      refine wpStill_nil ?_
                      go_wp2_with (first
                        | (go_at_call 52; refine Calls.ret hgetL.out ?_)
                        | (go_at_call 57; refine hset.out.mono ?_; rintro e w2 ⟨rfl, hT2⟩; replace hT2 := Lib.hid hT2))
                      refine ⟨⟨s1.setLit c j (nth (s1.lits c) (nb - 1)), nb - 1, j, by rw [n5.out], rfl, rfl, by omega, ?_, hVS.out, hci.out, ?_, ?_, hT.out.drew.drew.trans hT2.out, hk.out⟩, by simp [intOf]; omega⟩
                      · simp [PSt.setLit]; omega
                      · intro k' hk'
                        have e : nth ((s1.setLit c j (nth (s1.lits c) (nb - 1))).lits c) k' = nth (s1.lits c) k' := by
                          simp only [PSt.setLit, if_true]
                          rw [nth_set _ _ _ _ (by omega), if_neg (by omega)]
                        rw [e]
                        exact hz.out k' hk'
                      · intro hr
                        refine clean_lits (hcl.out hr) rfl (fun _ => rfl) hlt hV.out.nl hV.out.nd (fun c' hc' => ?_)
                        rw [hci.out] at hc'
                        simp [PSt.setLit, hc']
                    · rw [hx] at g4
                      have hu : l ∈ s1.us := by
                        rcases hunit.out (by rw [hx]; decide) with ⟨_, h'⟩ | ⟨h', _⟩
                        · exact h'
                        · exact (h' (by rw [hx]; unfold sgn; simp [hp])).elim
                      obtain ⟨m, rfl⟩ : ∃ m, n' = m + 1 := ⟨n' - 1, by omega⟩
                      simp only [Nat.add_sub_cancel] at hsat
                      obtain ⟨cb2, ccap2, hcv', _, hcA, hcF⟩ := PSt.csAt hT.out.rows (by rw [(keepP_pb hk.out).2.2.2.1, ← hN.out]; exact h0)
                      have hcb : cb2 = cb' := by
                        have := ((keepP_pb hk.out).2.2.2.2.1.trans hcv.out).symm.trans hcv'
                        simp at this
                        exact this.1.symm
                      subst hcb
                      have f1 : wr.cell? ⟨s1.pb, 1, none⟩ = some s1.csV := PSt.pbc hT.out.rows (j := 1) rfl
                      rw [(keepP_pb hk.out).1, (keepP_pb hk.out).2.2.2.2.1, hcv.out, ← hN.out] at f1
                      have g1 := hcA m (by rw [(keepP_pb hk.out).2.2.2.1, ← hN.out]; omega)
                      have g2 := hcA i (by rw [(keepP_pb hk.out).2.2.2.1, ← hN.out]; omega)
                      have gf := hcF i
                      have n1 : (m : Int) < (N : Int) := by omega
                      have n2 : (i : Int) < (m : Int) + 1 := by omega
                      have n6 : m ≤ 1000000 := by omega
                      have hTS := hT.out.trans (PSt.tCs hT.out.rows hcv' i (nth s1.cs m))
                      replace hTS := Lib.hid hTS
                      clear hcA hcF hcv'
                      have hVS := (hsat.out hu).off (ct' := s1.lits) (fun c' hc' => by
                        have : c' ≠ c := fun e => by
                          have hnot := notin_split hlt hV.out.nl hV.out.nd
                          simp only [Nat.add_sub_cancel] at hnot
                          rw [hci.out] at hnot
                          exact hnot (e ▸ hc')
                        simp [ctc, this])
                      have hclS := fun hr => clean_setCs (i := i) (x := nth s1.cs m) (hcl.out hr)
                      replace hVS := Lib.hid hVS
                      replace hclS := Lib.hid hclS
                      go_wp2_with fail
                      refine wp_region_tail 8 (by kernel_rfl) (by kernel_rfl) ?_
                      simp only [List.take_succ_cons, List.take_zero, List.drop_succ_cons, List.drop_zero]
                      repeat still_step
                      still_call (Var_c l _ hls)
                      repeat still_step
                      refine wpStill_nil ?_
                      go_wp2_with fail
                      refine wp_region_tail 11 (by kernel_rfl) (by kernel_rfl) ?_
                      simp only [List.take_succ_cons, List.take_zero, List.drop_succ_cons, List.drop_zero]
                      repeat still_step
                      still_call (Var_c l _ hls)
                      repeat still_step
                      still_call (hP _)
                      repeat still_step
                      refine wpStill_nil ?_
                      go_wp2_with fail
                      refine wp_region_tail 12 (by kernel_rfl) (by kernel_rfl) ?_
                      simp only [List.take_succ_cons, List.take_zero, List.drop_succ_cons, List.drop_zero]
                      repeat still_step
                      refine wpStill_nil ?_
                      go_wp2_with fail
                      refine ⟨⟨s1.setCs i (nth s1.cs m), m, i, r, rfl, rfl, rfl, by omega, by omega, fun hr => by omega, hVS.out, hclS.out, hTS.out.drew.drew.drew, ?_⟩, by simp [intOf]; omega⟩
                      rw [← hk.out]; unfold PSt.keepP PSt.setCs; simp
            · have hjI : ¬ ((j : Int) < (nb : Int)) := by omega
              have hjn2 : j = nb := by omega
              have hcc : ctc s1 c nb c = (s1.lits c).take nb := by simp [ctc]
              have hE := hV.eqv.perm ((take_split s1.cs i n' hlt hV.nl).map (ctc s1 c nb))
              rw [List.map_cons, hci, hcc] at hE
              have hnbN : nb ≤ 1000000 := by omega
              have hvl := hV.vl
              have husl := hV.usl
              have hst0 := hV.st
              have f2 : wr.cell? ⟨s1.pb, 2, none⟩ = some (.int .u8 s1.st) := PSt.pbc hT.rows (j := 2) rfl
              have f2f := PSt.pbf hT.rows 2
              rw [k1] at f2 f2f
              rw [hst0] at f2
              replace hcl := Lib.hid hcl
              replace hlv1 := Lib.hid hlv1
              by_cases hz0' : nb = 0
              · subst hz0'
                have hU := hE.empty
                have tS := hT.trans (PSt.tSt hT.rows 2)
                rw [k1] at tS
                have hfin : S2Post F s0 w0 (.returned (.tuple #[])) (wr.setCell ⟨s0.pb, 2, none⟩ (.int .u8 (2 : Nat))) := ⟨rfl, s1.setSt 2, tS, k1, k2, k3, k6, .inl ⟨rfl, hU⟩⟩
                replace hfin := Lib.hid hfin
                replace hV := Lib.hid hV
                replace hT := Lib.hid hT
                replace hk := Lib.hid hk
                replace hz := Lib.hid hz
                replace hci := Lib.hid hci
                clear tS hU hE hcc k1 k2 k3 k4 k5 k6 hA1
                go_wp2_with fail
                go_end0
                exact hfin.out
              · have hz0I : ((nb : Int) == 0) = false := by simpa using hz0'
                by_cases hz1 : nb = 1
                · subst hz1
                  obtain ⟨m, rfl⟩ : ∃ m, n' = m + 1 := ⟨n' - 1, by omega⟩
                  have hu0 := hz 0 (by omega)
                  have hul := hV.lit c hcm1 (nth (s1.lits c) 0) (by rw [hcc]; exact mem_take_nth (by omega) (by omega))
                  have hct1 : ctc s1 c 1 (nth s1.cs i) = [nth (s1.lits c) 0] := by
                    rw [hci, hcc]
                    cases hL : s1.lits c with
                    | nil => rw [hL] at hl2'; simp at hl2'
                    | cons y L => simp [nth]
                  have hFst := First_c hA1 (by omega)
                  have hadd := addUnit_c hT.rows (l := nth (s1.lits c) 0) (by rw [hvl]; exact hul) (by rw [hvl, k2]; exact hnv1) (by omega) hu0
                  have hdu := fun V => (hV.dropUnit (V := V) hlt hct1 hu0).off (ct' := s1.lits) (fun c' hc' => by
                    have : c' ≠ c := fun e => by
                      have hnot := notin_split hlt hV.nl hV.nd
                      simp only [Nat.add_sub_cancel] at hnot
                      rw [hci] at hnot
                      exact hnot (e ▸ hc')
                    simp [ctc, this])
                  simp only [Nat.add_sub_cancel] at hdu
                  rw [k1] at hadd
                  generalize nth (s1.lits c) 0 = u at *
                  replace hdu := Lib.hid hdu
                  replace hadd := Lib.hid hadd
                  replace hFst := Lib.hid hFst
                  replace hV := Lib.hid hV
                  replace hz := Lib.hid hz
                  replace hci := Lib.hid hci
                  have hkk := Lib.hid (keepP_pb hk)
                  have hnl := hV.out.nl
                  have hTk := hT
                  replace hTk := Lib.hid hTk
                  clear hE hcc hct1 hA1
                  go_upto_region 36 with (first
                    | (go_at_call 54; refine Calls.ret hFst.out ?_)
                    | (go_at_call 58; refine hadd.out.mono ?_; rintro e w2 ⟨rfl, V2, hT2⟩))
                  have hT3 := hTk.out.trans hT2
                  have f2 : w2.cell? ⟨s0.pb, 2, none⟩ = some (.int .u8 (0 : Nat)) := by
                    rw [← k1, ← hst0]; exact PSt.pbc hT2.rows (j := 2) rfl
                  have f1 : w2.cell? ⟨s0.pb, 1, none⟩ = some s1.csV := by rw [← k1]; exact PSt.pbc hT2.rows (j := 1) rfl
                  rw [k5, hcv.out, ← hN.out] at f1
                  obtain ⟨cb2, ccap2, hcv', _, hcA, hcF⟩ := PSt.csAt hT2.rows (by show 0 < s1.cs.length; rw [k4, ← hN.out]; exact h0)
                  have hcb : cb2 = cb' := by
                    have hcv'' : s1.csV = .slice (some ⟨cb2, 0, none⟩) s1.cs.length ccap2 := hcv'
                    have := (k5.trans hcv.out).symm.trans hcv''
                    simp at this
                    exact this.1.symm
                  subst hcb
                  have g1 := hcA m (by show m < s1.cs.length; omega)
                  have g2 := hcA i (by show i < s1.cs.length; omega)
                  have gf := hcF i
                  have e1 : ∀ k, nth ((s1.setVal (u / 2) (sgn u 1)).pushU u V2).cs k = nth s1.cs k := fun _ => rfl
                  rw [e1] at g1 g2
                  have n1 : (m : Int) < (N : Int) := by omega
                  have n2 : (i : Int) < (m : Int) + 1 := by omega
                  have n3 : (i : Int) < (N : Int) := by omega
                  have n6 : m ≤ 1000000 := by omega
                  have hTS := hT3.trans (PSt.tCs hT2.rows hcv' i (nth s1.cs m))
                  replace hTS := Lib.hid hTS
                  replace hT2 := Lib.hid hT2
                  replace hT3 := Lib.hid hT3
                  replace hcv' := Lib.hid hcv'
                  clear hcA hcF e1 hT hk k1 k2 k3 k4 k5 k6
                  go_wp2_with fail
                  refine wp_region_tail 12 (by kernel_rfl) (by kernel_rfl) ?_
                  simp only [List.take_succ_cons, List.take_zero, List.drop_succ_cons, List.drop_zero]
                  repeat still_step
                  refine wpStill_nil ?_
                  go_wp2_with fail
                  refine ⟨⟨((s1.setVal (u / 2) (sgn u 1)).pushU u V2).setCs i (nth s1.cs m), m, i, true, rfl, rfl, rfl, by omega, by omega, fun hr => by omega, hdu.out V2, fun hr => (by cases hr), hTS.out.drew, ?_⟩, by simp [intOf]; omega⟩
                  obtain ⟨z1, z2, z3, z4, z5, z6⟩ := hkk.out
                  unfold PSt.keepP PSt.setCs PSt.pushU PSt.setVal
                  simp [z1, z2, z3, z4, z5, z6]
                · have hz1I : ((nb : Int) == 1) = false := by simp; omega
                  have hLen := Len_c hA1
                  have hcl2 : ∀ x ∈ (s1.lits c).take nb, s1.va (x / 2) = 0 := by
                    intro x hx
                    obtain ⟨k, hk1, hk2⟩ := mem_nth _ x hx
                    rw [List.length_take] at hk1
                    rw [nth_take _ _ _ (by omega)] at hk2
                    rw [← hk2]; exact hz k (by omega)
                  by_cases hfull : (s1.lits c).length = nb
                  · have hfI : (((s1.lits c).length : Int) != (nb : Int)) = false := by simp [hfull]
                    have hVf := hV
                    rw [ctc_full s1 c nb hfull.symm] at hVf
                    rw [← hfull, List.take_length] at hcl2
                    have hclN : r = false → clean s1 (i + 1) := fun hr j' hj' x hx => by
                      by_cases e : j' = i
                      · rw [e, hci] at hx; exact hcl2 x hx
                      · exact hcl.out hr j' (by omega) x hx
                    replace hclN := Lib.hid hclN
                    replace hVf := Lib.hid hVf
                    replace hV := Lib.hid hV
                    replace hT := Lib.hid hT
                    replace hk := Lib.hid hk
                    replace hz := Lib.hid hz
                    replace hci := Lib.hid hci
                    replace hLen := Lib.hid hLen
                    clear hE hcc k1 k2 k3 k4 k5 k6 hA1 hcl2
                    go_wp2_with (go_at_call 50; refine Calls.ret hLen.out ?_)
                    exact ⟨⟨s1, n', i + 1, r, rfl, rfl, by go_num, by omega, hnn, hrn, hVf.out, hclN.out, hT.out, hk.out⟩, by simp [intOf]; omega⟩
                  · have hfI : (((s1.lits c).length : Int) != (nb : Int)) = true := by simp; omega
                    have hsh := shrink_c hT.rows hcid1 hl1' (n := nb) hnbl (by omega)
                    have hVS := fun V => hV.shrunk (V := V) hnbl (by omega)
                    have hclN : ∀ V, r = false → clean (s1.shrink c nb V) (i + 1) := fun V hr j' hj' x hx => by
                      show s1.va (x / 2) = 0
                      have hcs : (s1.shrink c nb V).cs = s1.cs := rfl
                      rw [hcs] at hx
                      by_cases e : j' = i
                      · rw [e, hci] at hx
                        simp only [PSt.shrink, if_true] at hx
                        exact hcl2 x hx
                      · refine clean_lits (s' := s1.shrink c nb V) (hcl.out hr) rfl (fun _ => rfl) hlt hV.nl hV.nd (fun c' hc' => ?_) j' (by omega) x (by rw [hcs]; exact hx)
                        rw [hci] at hc'
                        simp [PSt.shrink, hc']
                    replace hVS := Lib.hid hVS
                    replace hclN := Lib.hid hclN
                    replace hsh := Lib.hid hsh
                    replace hV := Lib.hid hV
                    replace hT := Lib.hid hT
                    replace hk := Lib.hid hk
                    replace hz := Lib.hid hz
                    replace hci := Lib.hid hci
                    replace hLen := Lib.hid hLen
                    clear hE hcc k1 k2 k3 k4 k5 k6 hA1 hcl2
                    go_wp2_with (first
                      | (go_at_call 50; refine Calls.ret hLen.out ?_)
                      | (go_at_call 59; refine hsh.out.mono ?_; rintro e w2 ⟨rfl, V, hT2⟩; replace hT2 := Lib.hid hT2))
                    exact ⟨⟨s1.shrink c nb V, n', i + 1, r, rfl, rfl, by go_num, by omega, hnn, hrn, hVS.out V, hclN.out V, hT.out.trans hT2.out, hk.out⟩, by simp [intOf]; omega⟩
        · have hltI : ¬ ((i : Int) < (n' : Int)) := by omega
          have e : i = n' := by omega
          subst e
          replace hV := Lib.hid hV
          replace hT := Lib.hid hT
          replace hk := Lib.hid hk
          replace hcl := Lib.hid hcl
          go_wp2_with fail
          refine ⟨⟨s, i, r, rfl, rfl, hV.out, hcl.out, hT.out, hk.out⟩, ?_⟩
          cases r with
          | true => have := hrn rfl; simp [intOf, bl]; omega
          | false => simp [intOf, bl]; omega
end Go.Proofs.YtiimddkopiknpaaGreatDoor

/-
  Parsing: what is made; a clause more.
-/
namespace Go.Proofs.YtiimddkopiknpaaGreatDoor
open Go.RowKit

inductive PX where
  | l2 | ncl
def PSt.rx (s : PSt) (τ : PX → Row) : PRole ⊕ PX → Row := Sum.elim s.row τ
def pxNil : PX → Row
  | .l2 => .nil 82 1
  | .ncl => .nil 112 4
def pxL (g n : Nat) (L : List Nat) : PX → Row
  | .l2 => ⟨82, 1, slV g n, n, L.map i32⟩
  | .ncl => .nil 112 4
def pxC (g n : Nat) (L : List Nat) (c : Nat) : PX → Row
  | .l2 => ⟨82, 1, slV g n, n, L.map i32⟩
  | .ncl => .one 112 4 c [slV g n, .int .u32 0, .float .f32 0, .pointer none]
theorem pxNil_v (r : PX) : (pxNil r).v.ownBlock = none := by cases r <;> rfl
theorem PSt.nilX {s : PSt} {w : World} (h : Rows s.row w) : Rows (s.rx pxNil) w := by
  refine ⟨fun r => ?_, fun r r' b h1 h2 => ?_⟩
  · cases r with
    | inl r => exact h.own r
    | inr r => cases r <;> exact World.ownsRow_nil _ _ _ _
  · cases r with
    | inr r => simp only [PSt.rx, Sum.elim_inr, pxNil_v] at h1; cases h1
    | inl r => cases r' with
      | inr r => simp only [PSt.rx, Sum.elim_inr, pxNil_v] at h2; cases h2
      | inl r' => rw [h.inj r r' b h1 h2]
theorem PSt.ownX {s : PSt} {b : Nat} (h : Own (s.rx pxNil) b) : Own s.row b := by
  obtain ⟨r, hr⟩ := h
  cases r with
  | inr r => simp only [PSt.rx, Sum.elim_inr, pxNil_v] at hr; cases hr
  | inl r => exact ⟨r, hr⟩

def PSt.addCl (s : PSt) (c : Nat) (L : List Nat) (V : Value) : PSt := { s with ids := c :: s.ids, lits := fun c' => if c' = c then L else s.lits c', litV := fun c' => if c' = c then V else s.litV c' }
def PSt.pushC (s : PSt) (c : Nat) (V : Value) : PSt := { s with cs := s.cs ++ [c], csV := V }

section
variable {s : PSt} {w : World}
theorem PSt.fresh (h : Rows s.row w) {c : Nat} (hc : c ∈ s.ids) : c < w.heap.size :=
  h.lt ⟨.cl c, by simp [PSt.row, hc, Row.one, Value.ownBlock]⟩
theorem PSt.addRows {τ : PX → Row} (h : Rows (s.rx τ) w) {c g n : Nat} {L : List Nat} (hc : c ∉ s.ids) (hn : n = L.length) (hτ : τ = pxC g n L c) :
    Rows (s.addCl c L (slV g n)).row w ∧ ∀ b, Own (s.addCl c L (slV g n)).row b → Own (s.rx τ) b := by
  subst hτ
  subst hn
  refine h.rename (ρ' := (s.addCl c L (slV g L.length)).row) (fun r => match r with | .cl c' => if c' = c then some (.inr .ncl) else some (.inl (.cl c')) | .li c' => if c' = c then some (.inr .l2) else some (.inl (.li c')) | r => some (.inl r)) ?_ ?_ ?_
  · intro r r' he
    cases r
    case cl c' =>
      simp only [] at he
      split at he
      · rename_i e; subst e
        cases he
        simp [PSt.rx, pxC, PSt.row, PSt.addCl]
      · rename_i e
        cases he
        simp [PSt.rx, PSt.row, PSt.addCl, e]
    case li c' =>
      simp only [] at he
      split at he
      · rename_i e; subst e
        cases he
        simp [PSt.rx, pxC, PSt.row, PSt.addCl]
      · rename_i e
        cases he
        simp [PSt.rx, PSt.row, PSt.addCl, e]
    all_goals (cases he; rfl)
  · intro r he
    cases r
    case cl c' => simp only [] at he; split at he <;> cases he
    case li c' => simp only [] at he; split at he <;> cases he
    all_goals cases he
  · intro r1 r2 r e1 e2
    cases r1 <;> cases r2 <;> simp only [] at e1 e2 <;> (try split at e1) <;> (try split at e2) <;> simp_all <;> (subst e1; simp_all)
theorem PSt.tPushC {w1 : World} (h : Rows s.row w) (c : Nat) {V' : Value} (ho : w1.ownsRow 0 92 1 V' (s.cs.length + 1) (s.cs.map (ptrV ∘ some) ++ [ptrV (some c)])) (hg : w.grownBy w1 s.csV.ownBlock)
    (hf : V'.ownBlock = s.csV.ownBlock ∨ ∃ b, V'.ownBlock = some b ∧ w.heap.size ≤ b) :
    (w1.cell? ⟨s.pb, 1, none⟩) = some s.csV ∧ w1.frozen? ⟨s.pb, 1, none⟩ = false ∧ Tr s.row w (s.pushC c V').row (w1.setCell ⟨s.pb, 1, none⟩ V') := by
  let ρ1 : PRole → Row := fun r => match r with | .cs => ⟨92, 1, V', s.cs.length + 1, s.cs.map (ptrV ∘ some) ++ [ptrV (some c)]⟩ | r => s.row r
  have t1 : Tr s.row w ρ1 w1 := h.grow (ρ' := ρ1) .cs ho hg hf rfl (fun r hr => by cases r <;> first | rfl | contradiction)
  refine ⟨?_, t1.rows.frozen .pb (b := s.pb) rfl 1, ?_⟩
  · exact t1.rows.cell .pb (b := s.pb) rfl (show (ρ1 .pb).xs[1]? = some s.csV from rfl)
  · refine t1.trans (t1.rows.set .pb rfl 1 V' (by simp [ρ1, PSt.row, PSt.pushC, PSt.cells, Row.one]) (fun r hr => ?_))
    cases r <;> first | contradiction | rfl | skip
    simp [PSt.row, PSt.pushC, ρ1]
end

theorem newC_c (p : Option Addr) (n cap : Nat) (w : World) : Calls Tryz.prog 40 #[.slice p n cap] w fun e w' => e = .returned (.pointer (some ⟨w.heap.size, 0, none⟩)) ∧
    w' = w.alloc (.cells #[.slice p n cap, .int .u32 0, .float .f32 0, .pointer none] 112) := by
  go_enter Tryz.func40, Tryz.ntmps40
  go_wp2_with fail
  go_ret
  exact ⟨rfl, rfl⟩
theorem infoCp : (Tryz.prog.info? 92).map (fun i => (i.zero, i.size, i.bytes)) = some (some (.pointer none), 1, 8) := by kernel_rfl
theorem infoDl : (Tryz.prog.info? 84).map (fun i => (i.zero, i.size, i.bytes)) = some (some (.int .i64 0), 1, 8) := by kernel_rfl

/-- the clauses as they lie in memory, to be read -/
structure CnfAt (w : World) (g base : Nat) (F : List (List Int)) : Prop where
  gb : g < base
  at_ : ∀ i l, F[i]? = some l → ∃ gi ci, gi < base ∧ w.cell? ⟨g, i, none⟩ = some (.slice (some ⟨gi, 0, none⟩) l.length ci) ∧ ∀ j x, l[j]? = some x → w.cell? ⟨gi, j, none⟩ = some (.int .i64 x)
theorem CnfAt.fr {w w' : World} {g base : Nat} {F : List (List Int)} {B : Nat → Prop} (h : CnfAt w g base F) (hf : Fr B w w') (hb : ∀ b, B b → base ≤ b) (hs : base ≤ w.heap.size) : CnfAt w' g base F := by
  have hk : ∀ b j, b < base → w'.cell? ⟨b, j, none⟩ = w.cell? ⟨b, j, none⟩ := fun b j hbb => hf.cell (by omega) (fun hB => by have := hb b hB; omega)
  refine ⟨h.gb, fun i l hi => ?_⟩
  obtain ⟨gi, ci, h1, h2, h3⟩ := h.at_ i l hi
  exact ⟨gi, ci, h1, by rw [hk g i h.gb]; exact h2, fun j x hj => by rw [hk gi j h1]; exact h3 j x hj⟩

/-- the clauses that are spoken of -/
structure FOk (nv : Nat) (F : List (List Int)) : Prop where
  ne : ∀ l ∈ F, l ≠ []
  ok : ∀ l ∈ F, ∀ x ∈ l, x ≠ 0 ∧ x.natAbs ≤ nv
  nd : ∀ l ∈ F, (l.map Int.natAbs).Nodup
  len : F.length ≤ 500000
def fl (F : List (List Int)) : List (List Nat) := F.map (·.map litOf)

/-- what is parsed so far -/
structure PV (F : List (List Int)) (s : PSt) (i : Nat) : Prop where
  nd : s.cs.Nodup
  mem : ∀ c ∈ s.cs, c ∈ s.ids
  len : ∀ c ∈ s.cs, 2 ≤ (s.lits c).length ∧ (s.lits c).length ≤ 1000000
  lit : ∀ c ∈ s.cs, ∀ x ∈ s.lits c, x < s.nv * 2
  ndv : ∀ c ∈ s.cs, ((s.lits c).map (· / 2)).Nodup
  us : ∀ u ∈ s.us, u < s.nv * 2
  sz : s.us.length + s.cs.length ≤ i
  st : s.st = 0
  mV : s.mV = .slice none 0 0
  val : s.val = []
  eqv : Eqv (fl (F.take i)) s.us (s.cs.map s.lits)

theorem litOf_lt {x : Int} {nv : Nat} (h0 : x ≠ 0) (h1 : x.natAbs ≤ nv) : litOf x < nv * 2 := by unfold litOf; split <;> omega
theorem take_succ_l {α : Type} (F : List α) (i : Nat) (l : α) (h : F[i]? = some l) : F.take (i + 1) = F.take i ++ [l] := by
  obtain ⟨h1, h2⟩ := List.getElem?_eq_some_iff.1 h
  rw [List.take_add_one]; simp [h]
theorem Eqv.addU {F : List (List Nat)} {U : List Nat} {G : List (List Nat)} (h : Eqv F U G) (x : Nat) : Eqv (F ++ [[x]]) (U ++ [x]) G := by
  intro τ hτ
  have := h τ hτ
  constructor
  · intro h1
    obtain ⟨h2, h3⟩ := this.1 fun C hC => h1 C (List.mem_append_left _ hC)
    refine ⟨fun u hu => ?_, h3⟩
    rcases List.mem_append.1 hu with hu | hu
    · exact h2 u hu
    · have : u = x := by simpa using hu
      rw [this]; exact Clo.one.1 (h1 [x] (by simp))
  · rintro ⟨h2, h3⟩ C hC
    rcases List.mem_append.1 hC with hC | hC
    · exact this.2 ⟨fun u hu => h2 u (List.mem_append_left _ hu), h3⟩ C hC
    · have : C = [x] := by simpa using hC
      rw [this]; exact Clo.one.2 (h2 x (by simp))
theorem Eqv.addG {F : List (List Nat)} {U : List Nat} {G : List (List Nat)} (h : Eqv F U G) (D : List Nat) : Eqv (F ++ [D]) U (G ++ [D]) := by
  intro τ hτ
  have := h τ hτ
  constructor
  · intro h1
    obtain ⟨h2, h3⟩ := this.1 fun C hC => h1 C (List.mem_append_left _ hC)
    refine ⟨h2, fun E hE => ?_⟩
    rcases List.mem_append.1 hE with hE | hE
    · exact h3 E hE
    · have : E = D := by simpa using hE
      rw [this]; exact h1 D (by simp)
  · rintro ⟨h2, h3⟩ C hC
    rcases List.mem_append.1 hC with hC | hC
    · exact this.2 ⟨h2, fun E hE => h3 E (List.mem_append_left _ hE)⟩ C hC
    · have : C = D := by simpa using hC
      rw [this]; exact h3 D (by simp)
theorem PV.unit {F : List (List Int)} {s : PSt} {i : Nat} {x : Int} {V : Value} (h : PV F s i) (hi : F[i]? = some [x]) (h0 : x ≠ 0) (h1 : x.natAbs ≤ s.nv) : PV F (s.pushU (litOf x) V) (i + 1) := by
  refine ⟨h.nd, h.mem, h.len, h.lit, h.ndv, ?_, ?_, h.st, h.mV, h.val, ?_⟩
  · intro u hu
    have hu : u ∈ s.us ++ [litOf x] := hu
    rcases List.mem_append.1 hu with hu | hu
    · exact h.us u hu
    · have : u = litOf x := by simpa using hu
      rw [this]; exact litOf_lt h0 h1
  · have := h.sz
    show (s.us ++ [litOf x]).length + s.cs.length ≤ _
    simp; omega
  · unfold fl
    rw [take_succ_l F i [x] hi, List.map_append]
    exact h.eqv.addU (litOf x)
theorem PV.multi {F : List (List Int)} {s : PSt} {i c : Nat} {l : List Int} {V V' : Value} (h : PV F s i) (hi : F[i]? = some l) (hc : c ∉ s.ids) (hl : 2 ≤ l.length) (hl2 : l.length ≤ 1000000) (hok : ∀ x ∈ l, x ≠ 0 ∧ x.natAbs ≤ s.nv) (hnd : (l.map Int.natAbs).Nodup) :
    PV F ((s.addCl c (l.map litOf) V).pushC c V') (i + 1) := by
  have hcs : c ∉ s.cs := fun hm => hc (h.mem c hm)
  have hco : ∀ c' ∈ s.cs, (if c' = c then l.map litOf else s.lits c') = s.lits c' := fun c' hc' => if_neg fun (e : c' = c) => hcs (by rw [← e]; exact hc')
  have hcc : ∀ c' ∈ s.cs ++ [c], (c' ∈ s.cs ∧ (if c' = c then l.map litOf else s.lits c') = s.lits c') ∨ (c' = c ∧ (if c' = c then l.map litOf else s.lits c') = l.map litOf) := by
    intro c' hc'
    rcases List.mem_append.1 hc' with hc' | hc'
    · exact .inl ⟨hc', hco c' hc'⟩
    · have : c' = c := by simpa using hc'
      exact .inr ⟨this, by rw [if_pos this]⟩
  refine ⟨?_, ?_, ?_, ?_, ?_, h.us, ?_, h.st, h.mV, h.val, ?_⟩
  · show (s.cs ++ [c]).Nodup
    rw [List.nodup_append]
    refine ⟨h.nd, by simp, fun a ha b hb e => ?_⟩
    have hbc : b = c := by simpa using hb
    exact hcs (by rw [← hbc, ← e]; exact ha)
  · intro c' hc'
    show c' ∈ c :: s.ids
    rcases hcc c' hc' with ⟨h1, _⟩ | ⟨h1, _⟩
    · exact List.mem_cons_of_mem _ (h.mem c' h1)
    · rw [h1]; simp
  · intro c' hc'
    show 2 ≤ (if c' = c then l.map litOf else s.lits c').length ∧ (if c' = c then l.map litOf else s.lits c').length ≤ _
    rcases hcc c' hc' with ⟨h1, h2⟩ | ⟨h1, h2⟩ <;> rw [h2]
    · exact h.len c' h1
    · simp; omega
  · intro c' hc' x hx
    have hx : x ∈ (if c' = c then l.map litOf else s.lits c') := hx
    rcases hcc c' hc' with ⟨h1, h2⟩ | ⟨h1, h2⟩ <;> rw [h2] at hx
    · exact h.lit c' h1 x hx
    · obtain ⟨y, hy, rfl⟩ := List.mem_map.1 hx
      exact litOf_lt (hok y hy).1 (hok y hy).2
  · intro c' hc'
    show ((if c' = c then l.map litOf else s.lits c').map (· / 2)).Nodup
    rcases hcc c' hc' with ⟨h1, h2⟩ | ⟨h1, h2⟩ <;> rw [h2]
    · exact h.ndv c' h1
    · rw [List.map_map]
      have e : l.map ((· / 2) ∘ litOf) = l.map ((· - 1) ∘ Int.natAbs) := List.map_congr_left fun y hy => litOf_div y (hok y hy).1
      rw [e, ← List.map_map]
      refine List.pairwise_map.2 ?_
      have h3 := List.pairwise_map.1 hnd
      rw [List.pairwise_map]
      exact h3.imp_of_mem fun {a b} ha hb hab e => hab (by have := (hok a ha).1; have := (hok b hb).1; omega)
  · have := h.sz
    show s.us.length + (s.cs ++ [c]).length ≤ _
    simp; omega
  · unfold fl
    rw [take_succ_l F i l hi, List.map_append]
    have e : (s.cs ++ [c]).map (fun c' => if c' = c then l.map litOf else s.lits c') = s.cs.map s.lits ++ [l.map litOf] := by
      rw [List.map_append, List.map_congr_left hco]; simp
    show Eqv _ s.us ((s.cs ++ [c]).map (fun c' => if c' = c then l.map litOf else s.lits c'))
    rw [e]
    exact h.eqv.addG (l.map litOf)
end Go.Proofs.YtiimddkopiknpaaGreatDoor

/-
  parseSlice, walked.
-/
namespace Go.Proofs.YtiimddkopiknpaaGreatDoor
open Go.RowKit

section
variable {s : PSt} {w : World}
set_option maxHeartbeats 2000000 in
theorem updSt_c0 (h : Rows s.row w) (h0 : s.cs = []) (hst : s.st = 0) :
    Calls Tryz.prog 60 #[.pointer (some ⟨s.pb, 0, none⟩), .int .i64 0] w fun e w' => e = .returned (.tuple #[]) ∧ Tr s.row w (s.setSt 1).row w' := by
  obtain ⟨p, cap, hsh⟩ := h.shape .cs
  have hsh : s.csV = .slice p s.cs.length cap := hsh
  rw [h0] at hsh
  have h1 : w.cell? ⟨s.pb, 1, none⟩ = some s.csV := PSt.pbc h (j := 1) rfl
  have hf1 := PSt.pbf h 1
  have hf2 := PSt.pbf h 2
  have h2 : w.cell? ⟨s.pb, 2, none⟩ = some (.int .u8 s.st) := PSt.pbc h (j := 2) rfl
  rw [hst] at h2
  have t1 : Tr s.row w s.row (w.setCell ⟨s.pb, 1, none⟩ s.csV) := h.set .pb rfl 1 s.csV (by simp [PSt.row, PSt.cells, Row.one]) (fun _ _ => rfl)
  have t2 := t1.trans (PSt.tSt t1.rows 1)
  rw [hsh] at h1 t2
  simp only [List.length_nil] at h1 t2
  replace t2 := Lib.hid t2
  clear t1
  go_enter Tryz.func60, Tryz.ntmps60
  go_wp2_with fail
  go_end0
  exact ⟨rfl, t2.out⟩
set_option maxRecDepth 100000 in
set_option maxHeartbeats 4000000 in
theorem simp2_c0 {F : List (List Nat)} (h : Rows s.row w) (hS : SV F s 0 s.lits) (h0 : s.cs = []) :
    Calls Tryz.prog 41 #[.pointer (some ⟨s.pb, 0, none⟩)] w (S2Post F s w) := by
  obtain ⟨p, cap, hsh⟩ := h.shape .cs
  have hsh : s.csV = .slice p s.cs.length cap := hsh
  rw [h0] at hsh
  have h1 : w.cell? ⟨s.pb, 1, none⟩ = some s.csV := PSt.pbc h (j := 1) rfl
  rw [hsh] at h1
  simp only [List.length_nil] at h1
  have hup := Lib.hid (updSt_c0 h h0 hS.st)
  have hfin : PFin F (s.setSt 1) := by
    refine ⟨by show (1 : Nat) = if s.cs.length = 0 then 1 else 0; rw [h0]; rfl, by show s.cs.length ≤ _; rw [h0]; decide, by show s.cs.Nodup; rw [h0]; exact List.nodup_nil, ?_, ?_, ?_, ?_, hS.vl, hS.us, hS.va, by have := hS.usl; exact this, by have := hS.usf; show s.us.length + s.cs.length ≤ _; rw [h0]; exact this, ?_, ?_⟩
    · intro c hc; have hc : c ∈ s.cs := hc; rw [h0] at hc; simp at hc
    · intro c hc; have hc : c ∈ s.cs := hc; rw [h0] at hc; simp at hc
    · intro c hc; have hc : c ∈ s.cs := hc; rw [h0] at hc; simp at hc
    · intro c hc; have hc : c ∈ s.cs := hc; rw [h0] at hc; simp at hc
    · have := hS.eqv
      simp only [List.take_zero, List.map_nil] at this
      show Eqv F s.us (s.cs.map s.lits)
      rw [h0]; exact this
    · intro c hc; have hc : c ∈ s.cs := hc; rw [h0] at hc; simp at hc
  replace hfin := Lib.hid hfin
  replace hS := Lib.hid hS
  replace h0 := Lib.hid h0
  go_enter Tryz.func41, Tryz.ntmps41
  go_wp2_with fail
  go_loopw [2, 3] (fun v2 v3 wr => v2 = .int .i64 0 ∧ wr = w ∧ ∃ r, v3 = .bool r) (fun _ v3 _ => bl v3)
  case atStart => exact ⟨rfl, rfl, true, rfl⟩
  case round =>
    obtain ⟨rfl, rfl, r, rfl⟩ := hrel
    cases r with
    | false =>
      go_wp2_with (go_at_call 60; refine hup.out.mono ?_; rintro e w1 ⟨rfl, hT1⟩; replace hT1 := Lib.hid hT1)
      go_end0
      exact ⟨rfl, s.setSt 1, hT1.out, rfl, rfl, rfl, rfl, .inr hfin.out⟩
    | true =>
      go_wp2_with fail
      go_loopw [2, 3, 4] (fun v2 v3 v4 wq => v2 = .int .i64 0 ∧ v3 = .bool false ∧ v4 = .int .i64 0 ∧ wq = wr) (fun _ _ _ _ => 0)
      case atStart => exact ⟨rfl, rfl, rfl, rfl⟩
      case round =>
        obtain ⟨rfl, rfl, rfl, rfl⟩ := hrel
        go_wp2_with fail
        exact ⟨⟨rfl, trivial, false, rfl⟩, by simp [bl]⟩
end
end Go.Proofs.YtiimddkopiknpaaGreatDoor
