/-
  Propagation through the clauses of three literals and more.
-/
import Derived.Test.YtiimddkopiknpaaGreatDoorB02
import Derived.Deep.Cut
import Derived.Deep.CutRange
import Derived.Deep.DeepCutAuto
set_option linter.unusedVariables false
set_option linter.unusedSimpArgs false

/-
  simplifyPropClauses, walked over an invariant of its rounds.
-/
namespace Go.Proofs.YtiimddkopiknpaaGreatDoor
open Go.RowKit

def SPRel (s0 : St) (w0 : World) (lit : Nat) (I : Nat → Nat → MS → Prop) (vj vi : Value) (wr : World) : Prop :=
  ∃ (i j : Nat) (s : St), vj = .int .i64 (j : Int) ∧ vi = .int .i64 (i : Int) ∧ I i j s.toMS ∧ RT s0 w0 s wr ∧ s.sb = s0.sb ∧ s.wlHB = s0.wlHB ∧ s.modelB = s0.modelB ∧ s.wlV lit = s0.wlV lit

/-- what simplifyPropClauses leaves: every entry seen; or a clause in conflict at entry i -/
def SPPost (s0 : St) (w0 : World) (lit : Nat) (I : Nat → Nat → MS → Prop) (e : Ending) (w' : World) : Prop :=
  (e = .returned (.pointer none) ∧ ∃ (s' : St) (m : MS) (j : Nat), I (s0.wl lit).length j m ∧ s'.toMS = m.setWl lit ((m.wl lit).take j) ∧ RT s0 w0 s' w') ∨
  (∃ (s' : St) (m : MS) (i j b c f : Nat), e = .returned (.pointer (some ⟨c, 0, none⟩)) ∧ I i j m ∧ i < (s0.wl lit).length ∧ ent (s0.wl lit) i = (b, c) ∧ m.lst b ≠ 1 ∧ f = nth ((m.fix c lit).lits c) 0 ∧ m.lst f = 2 ∧
    (∀ k', 2 ≤ k' → k' < (m.lits c).length → m.lst (nth (m.lits c) k') = 2) ∧ s'.toMS = (m.fix c lit).setWl lit ((m.wl lit).take j ++ (f, c) :: (m.wl lit).drop (i + 1)) ∧ RT s0 w0 s' w')

set_option maxRecDepth 100000 in
set_option maxHeartbeats 8000000 in
theorem sp_c {s0 : St} {w0 : World} (h : Rep s0 w0) {lit : Nat} {lvl : Int} (h0 : 0 ≤ lvl) (h1 : lvl < 1000000) {I : Nat → Nat → MS → Prop} (hI : SPI lit lvl (s0.wl lit) I) (hI0 : I 0 0 s0.toMS) (hn : 0 < (s0.wl lit).length) :
    Calls Tryz.prog 122 #[.pointer (some ⟨s0.sb, 0, none⟩), .int .i32 (lit : Int), .int .i64 lvl] w0 (SPPost s0 w0 lit I) := by
  obtain ⟨iW, hiW, hw0, hw1, hw2⟩ := info_parts infoWatcher
  have hlit := hI.nv hI0
  have hwf := hI.wf hI0
  have f9 : w0.cell? ⟨s0.sb, 9, none⟩ = some (.slice (some ⟨s0.wlHB, 0, none⟩) (s0.nv * 2) (s0.nv * 2)) := h.sc h.hd.f9
  have g9 := h.wlH hlit
  obtain ⟨lb, cap, hv, hob, hcap, hcap2⟩ := h.rows.open (.wl lit) (by simp only [St.row]; rw [if_pos hlit]; exact hn)
  have e0 : s0.row (.wl lit) = ⟨107, 2, s0.wlV lit, (s0.wl lit).length, watchV (s0.wl lit)⟩ := by simp only [St.row]; rw [if_pos hlit]
  rw [e0] at hv hob hcap
  simp only [] at hv hob hcap
  rw [hv] at g9
  have hlen := hwf.wll lit hlit
  have hnv1 := hwf.nv1
  have hlens := hlen
  replace hnv1 := Lib.hid hnv1
  obtain ⟨n, hnn⟩ : ∃ n, (s0.wl lit).length = n := ⟨_, rfl⟩
  rw [hnn] at hv hcap hlen hlens hn g9
  replace hnn := Lib.hid hnn
  replace hv := Lib.hid hv
  replace hcap2 := Lib.hid hcap2
  replace hcap := Lib.hid hcap
  replace hob := Lib.hid hob
  clear hlen e0
  go_enter Tryz.func122, Tryz.ntmps122
  go_wp2_with fail
  go_loopw [8, 28] (fun vj vi wr => SPRel s0 w0 lit I vj vi wr) (fun _ vi _ => n - (intOf vi).toNat)
  case atStart => exact ⟨0, 0, s0, rfl, rfl, hI0, RT.refl h, rfl, rfl, rfl, rfl⟩
  case round =>
    obtain ⟨i, j, s, rfl, rfl, hIi, hT, hsb, hwlH, hmb, hwV⟩ := hrel
    have hwfi := hI.wf hIi
    have hliti := hI.nv hIi
    obtain ⟨hln, hji, hin, hent, hst2⟩ := hI.fit hIi
    have hobs : (s.wlV lit).ownBlock = some lb := by rw [hwV]; exact hob.out
    have hR := hT.rep
    clear f9 g9
    by_cases hlt : i < n
    · have hltL : i < (s0.wl lit).length := by rw [hnn.out]; exact hlt
      obtain ⟨b, c, hbc⟩ : ∃ b c, ent (s0.wl lit) i = (b, c) := ⟨_, _, rfl⟩
      have hbcs : ent (s.wl lit) i = (b, c) := by rw [hent i (Nat.le_refl _) hltL]; exact hbc
      obtain ⟨hb2, hcid⟩ := hwfi.wl lit hliti i (by rw [hln]; exact hltL)
      rw [hbcs] at hb2 hcid
      simp only [] at hb2 hcid
      obtain ⟨e1, e2⟩ := hR.wle hliti hobs (i := i) (by rw [hln]; exact hltL)
      rw [hbcs] at e1 e2
      simp only [] at e1 e2
      have hjn : j < (s.wl lit).length := by rw [hln]; omega
      obtain ⟨d1, d2⟩ := hR.wle hliti hobs (i := j) hjn
      have d3 := hR.wlf hliti hobs (j * 2)
      have d4 := hR.wlf hliti hobs (j * 2 + 1)
      have hnvs : s.nv ≤ 1000000 := hwfi.nv1
      replace hnvs := Lib.hid hnvs
      replace hIi := Lib.hid hIi
      replace hT := Lib.hid hT
      replace hsb := Lib.hid hsb
      replace hwlH := Lib.hid hwlH
      replace hmb := Lib.hid hmb
      replace hwV := Lib.hid hwV
      replace hwfi := Lib.hid hwfi
      replace hent := Lib.hid hent
      replace hst2 := Lib.hid hst2
      replace hbc := Lib.hid hbc
      replace hbcs := Lib.hid hbcs
      replace hobs := Lib.hid hobs
      replace hln := Lib.hid hln
      by_cases hA : s.lst b = 1
      · replace hA := Lib.hid hA
        have hsbo := hsb.out
        go_wp2_with (first
          | (go_at_call 72; rw [← hsbo]; refine (litStatus_c (hR.alloc _) hb2 hnvs.out 1 hA.out).mono ?_; rintro e w2 ⟨rfl, q, rfl⟩)
          | (refine wpList_store_two rfl 107 (.tmp 41) (.tmp 40) rfl lb (j * 2) (i32 b) (ptrV (some c)) rfl rfl (by kernel_rfl) rfl rfl (by rw [(((hR.alloc _).drewN q).wle hliti hobs.out hjn).1]; rfl) (by rw [(((hR.alloc _).drewN q).wle hliti hobs.out hjn).2]; rfl) (((hR.alloc _).drewN q).wlf hliti hobs.out _) (((hR.alloc _).drewN q).wlf hliti hobs.out _) ?_
             intro w3 hw3
             have hT3 := ((hT.out.alloc (.cells #[.int .i32 (b : Int), .pointer (some ⟨c, 0, none⟩)] 107)).drewN q).trans (((hR.alloc _).drewN q).setWl hliti hobs.out j b c)
             rw [← hw3] at hT3
             replace hT3 := Lib.hid hT3
             clear hw3))
        go_roundw
        case rel => exact ⟨i + 1, j + 1, _, by go_num, by go_num, hI.caseA hIi.out hltL hbc.out hA.out, hT3.out, hsb.out, hwlH.out, hmb.out, hwV.out⟩
        case measure => simp [intOf]; omega
      · replace hA := Lib.hid hA
        obtain ⟨k0, hk0⟩ : ∃ k0, k0 = s.lst b := ⟨_, rfl⟩
        have hk01 : (k0 == 1) = false := by rw [hk0]; simpa using hA.out
        have hk0' := hk0.symm
        replace hk0' := Lib.hid hk0'
        clear hk0
        have hsbo := hsb.out
        go_upto_if 50 with (first
          | (go_at_call 72; rw [← hsbo]; refine (litStatus_c (hR.alloc _) hb2 hnvs.out k0 hk0'.out).mono ?_; rintro e w2 ⟨rfl, q, rfl⟩)
          | (go_at_call 54; refine (First_s ((hR.alloc _).drewN _) hwfi.out hcid).mono ?_; rintro e w2 ⟨rfl, rfl⟩)
          | (go_at_call 53; refine (Neg_c lit _ (by have := hnvs.out; omega)).mono ?_; rintro e w2 ⟨rfl, rfl⟩))
        go_cut [11] from 50 to 52 (fun v11 wx => v11 = .pointer (some ⟨c, 0, none⟩) ∧ RT s0 w0 (s.fix c lit) wx)
        case first =>
          by_cases hF : nth (s.lits c) 0 = negL lit
          · have hFb : ((nth (s.lits c) 0 : Int) == (negL lit : Int)) = true := by simp [hF]
            have hfx : s.fix c lit = s.swapC c 0 1 := by unfold St.fix; rw [if_pos hF]
            replace hfx := Lib.hid hfx
            clear hF
            have hl2 := hwfi.out.len c hcid
            go_wp2_with (first
              | (go_at_call 137; have hR3 := ((hR.alloc (.cells #[.int .i32 (b : Int), .pointer (some ⟨c, 0, none⟩)] 107)).drewN q); refine (swap_s hR3 hcid (i := 0) (j := 1) (by omega) (by omega)).mono ?_; rintro e w3 ⟨rfl, hw3⟩; replace hw3 := Lib.hid hw3; clear hR3))
            go_meet
            refine ⟨rfl, ?_⟩
            rw [hfx.out]
            exact ((hT.out.alloc _).drewN q).trans hw3.out
          · have hFb : ((nth (s.lits c) 0 : Int) == (negL lit : Int)) = false := by simp; omega
            have hfx : s.fix c lit = s := by unfold St.fix; rw [if_neg hF]
            replace hfx := Lib.hid hfx
            clear hF
            go_wp2_with fail
            go_meet
            refine ⟨rfl, ?_⟩
            rw [hfx.out]
            exact (hT.out.alloc _).drewN q
        case rest =>
          obtain ⟨rfl, hT1⟩ := hcut
          obtain ⟨g1, g2, g3, g4⟩ := St.fix_hd s c lit
          have hms := St.fix_ms s c lit
          have hW1 : Wf (s.fix c lit).toMS := by rw [hms]; exact hwfi.out.fix hcid lit
          have hid1 : c ∈ (s.fix c lit).ids := by show c ∈ (s.fix c lit).toMS.ids; rw [hms, fix_ids]; exact hcid
          have hlst : ∀ l, (s.fix c lit).lst l = s.lst l := fun l => by rw [hms]; exact lst_val _ _ (fix_val _ _ _) l
          have hwl1 : (s.fix c lit).wl lit = s.wl lit := by show (s.fix c lit).toMS.wl lit = _; rw [hms, fix_wl]
          have hlit1 : lit < (s.fix c lit).nv * 2 := by show lit < (s.fix c lit).toMS.nv * 2; rw [hms, fix_nv]; exact hliti
          generalize s.fix c lit = s1 at *
          have hR1 := hT1.rep
          have hf2 : nth (s1.lits c) 0 < s1.nv * 2 := hW1.lit c hid1 0 (by have := hW1.len c hid1; omega)
          obtain ⟨f, hf⟩ : ∃ f, f = nth (s1.lits c) 0 := ⟨_, rfl⟩
          have hF1 := fun (w1 : World) (hR : Rep s1 w1) => First_s hR hW1 hid1
          simp only [← hf] at hF1 hf2
          have hsb1 : s1.sb = s0.sb := by rw [g1]; exact hsbo
          have hob1 : (s1.wlV lit).ownBlock = some lb := by rw [g4]; exact hobs.out
          have hnvs1 : s1.nv ≤ 1000000 := hW1.nv1
          have hjn1 : j < (s1.wl lit).length := by rw [hwl1]; exact hjn
          replace hlst := Lib.hid hlst
          replace hwl1 := Lib.hid hwl1
          replace hT1 := Lib.hid hT1
          replace hF1 := Lib.hid hF1
          replace g1 := Lib.hid g1
          replace g2 := Lib.hid g2
          replace g3 := Lib.hid g3
          replace g4 := Lib.hid g4
          replace hob1 := Lib.hid hob1
          replace hms := Lib.hid hms
          replace hf := Lib.hid hf
          replace hW1 := Lib.hid hW1
          replace hnvs1 := Lib.hid hnvs1
          clear e1 e2 d1 d2 d3 d4 hk01
          by_cases hB : s1.lst f = 1
          · replace hB := Lib.hid hB
            go_wp2_with (first
              | (go_at_call 54; (first | refine Calls.ret (hF1.out _ hR1) ?_ | refine Calls.ret (hF1.out _ (hR1.alloc _)) ?_))
              | (go_at_call 72; rw [← hsb1]; refine (litStatus_c (hR1.alloc _) hf2 hnvs1.out 1 hB.out).mono ?_; rintro e w2 ⟨rfl, q2, rfl⟩)
              | (refine wpList_store_two rfl 107 (.tmp 66) (.tmp 65) rfl lb (j * 2) (i32 f) (ptrV (some c)) rfl rfl (by kernel_rfl) rfl rfl (by rw [(((hR1.alloc _).drewN q2).wle hlit1 hob1.out hjn1).1]; rfl) (by rw [(((hR1.alloc _).drewN q2).wle hlit1 hob1.out hjn1).2]; rfl) (((hR1.alloc _).drewN q2).wlf hlit1 hob1.out _) (((hR1.alloc _).drewN q2).wlf hlit1 hob1.out _) ?_
                 intro w3 hw3
                 have hT3 := ((hT1.out.alloc (.cells #[.int .i32 (f : Int), .pointer (some ⟨c, 0, none⟩)] 107)).drewN q2).trans (((hR1.alloc _).drewN q2).setWl hlit1 hob1.out j f c)
                 rw [← hw3] at hT3
                 replace hT3 := Lib.hid hT3
                 clear hw3))
            go_roundw
            case rel =>
              have hI3 := hI.caseB hIi.out hltL hbc.out hA.out (f := f) (by rw [hf.out, hms.out]) (by rw [← hlst.out]; exact hB.out)
              rw [← hms.out, ← hwl1.out] at hI3
              exact ⟨i + 1, j + 1, _, by go_num, by go_num, hI3, hT3.out, hsb1, g2.out.trans hwlH.out, g3.out.trans hmb.out, (congrFun g4.out lit).trans hwV.out⟩
            case measure => simp [intOf]; omega
          · replace hB := Lib.hid hB
            obtain ⟨kf, hkf⟩ : ∃ kf, kf = s1.lst f := ⟨_, rfl⟩
            have hkf1 : (kf == 1) = false := by rw [hkf]; simpa using hB.out
            have hkf' := hkf.symm
            replace hkf' := Lib.hid hkf'
            clear hkf
            have hcl := hW1.out.len c hid1
            obtain ⟨len, hlen⟩ : ∃ len, len = (s1.lits c).length := ⟨_, rfl⟩
            rw [← hlen] at hcl
            obtain ⟨hcl1, hcl2⟩ := hcl
            have hLen := fun (w1 : World) (hR : Rep s1 w1) => Len_s hR hW1.out hid1
            simp only [← hlen] at hLen
            replace hlen := Lib.hid hlen
            replace hLen := Lib.hid hLen
            by_cases hC : ∃ k, 2 ≤ k ∧ k < len ∧ s1.lst (nth (s1.lits c) k) ≠ 2
            · obtain ⟨k0, ⟨hk2, hkl, hkst⟩, hkmin⟩ := exists_least _ hC
              clear hC
              replace hkst := Lib.hid hkst
              replace hkmin := Lib.hid hkmin
              go_wp2_with (first
                | (go_at_call 54; (first | refine Calls.ret (hF1.out _ hR1) ?_ | refine Calls.ret (hF1.out _ (hR1.alloc _)) ?_))
                | (go_at_call 72; rw [← hsb1]; refine (litStatus_c (hR1.alloc _) hf2 hnvs1.out kf hkf'.out).mono ?_; rintro e w2 ⟨rfl, q2, rfl⟩))
              go_loopw [14, 15] (fun v14 v15 wq => ∃ k : Nat, 2 ≤ k ∧ k ≤ k0 ∧ v14 = .bool false ∧ v15 = .int .i64 (k : Int) ∧ ∃ q3, wq = (wc.alloc (.cells #[.int .i32 (f : Int), .pointer (some ⟨c, 0, none⟩)] 107)).drewN q3) (fun _ v15 _ => len - (intOf v15).toNat)
              case atStart => exact ⟨2, by omega, hk2, rfl, by go_num, q2, rfl⟩
              case round =>
                obtain ⟨k, hka, hkb, rfl, rfl, q3, rfl⟩ := hrel
                have hR3 := (hR1.alloc (.cells #[.int .i32 (f : Int), .pointer (some ⟨c, 0, none⟩)] 107)).drewN q3
                have hkl3 : k < (s1.lits c).length := by rw [← hlen.out]; omega
                have hx2 : nth (s1.lits c) k < s1.nv * 2 := hW1.out.lit c hid1 k hkl3
                have hGet := Get_s hR3 hW1.out hid1 hkl3
                obtain ⟨x, hx⟩ : ∃ x, x = nth (s1.lits c) k := ⟨_, rfl⟩
                rw [← hx] at hx2 hGet
                have hR3' := Lib.hid hR3
                replace hGet := Lib.hid hGet
                by_cases hkk : k < k0
                · have hst : s1.lst x = 2 := by
                    have := hkmin.out k hkk
                    rw [hx]
                    rcases lst_cases s1.toMS (nth (s1.lits c) k) with h' | h' | h'
                    · exact absurd ⟨hka, by omega, by rw [h']; decide⟩ this
                    · exact absurd ⟨hka, by omega, by rw [h']; decide⟩ this
                    · exact h'
                  replace hst := Lib.hid hst
                  replace hx := Lib.hid hx
                  go_wp2_with (first
                    | (go_at_call 50; refine Calls.ret (hLen.out _ hR3) ?_)
                    | (go_at_call 52; refine Calls.ret hGet.out ?_)
                    | (go_at_call 72; rw [← hsb1]; refine (litStatus_c hR3 hx2 hnvs1.out 2 hst.out).mono ?_; rintro e w2 ⟨rfl, q4, rfl⟩))
                  go_roundw
                  case rel => exact ⟨k + 1, by omega, by omega, rfl, by go_num, q3 + q4, by simp [World.drewN]⟩
                  case measure => simp [intOf]; omega
                · have hke : k = k0 := by omega
                  subst hke
                  obtain ⟨kk, hkk2⟩ : ∃ kk, kk = s1.lst x := ⟨_, rfl⟩
                  have hkkn : kk ≠ 2 := by rw [hkk2, hx]; exact hkst.out
                  have hkb1 : (kk == 2) = false := by simpa using hkkn
                  have hkb2 : (kk != 2) = true := by simpa using hkkn
                  replace hkkn := Lib.hid hkkn
                  have hst := hkk2.symm
                  replace hst := Lib.hid hst
                  clear hkk2
                  have hkneg : negL x < s1.nv * 2 := negL_lt hx2
                  have hknegI : ((negL x : Nat) : Int) < (s1.nv : Int) * 2 := by omega
                  replace hx := Lib.hid hx
                  go_wp2_with (first
                    | (go_at_call 50; refine Calls.ret (hLen.out _ hR3) ?_)
                    | (go_at_call 52; refine Calls.ret hGet.out ?_)
                    | (go_at_call 72; rw [← hsb1]; refine (litStatus_c hR3 hx2 hnvs1.out kk hst.out).mono ?_; rintro e w2 ⟨rfl, q4, rfl⟩)
                    | (go_at_call 137; refine (swap_s ((hR1.alloc _).drewN (q3 + q4)) hid1 (i := 1) (j := k) (by rw [← hlen.out]; omega) hkl3).mono ?_; rintro e w4 ⟨rfl, hw4⟩; replace hw4 := Lib.hid hw4)
                    | (go_at_call 53; refine Calls.ret (Neg_c x _ (by have := hnvs1.out; omega)) ?_))
                  have hbx : wc.heap.size < w4.heap.size := by have := hw4.out.tr.fr.size; simp at this; omega
                  have hbno : ¬ Own s1.row wc.heap.size := hR1.notOwn
                  have hbno2 : ¬ Own (s1.swapC c 1 k).row wc.heap.size := fun hb => by
                    rcases hw4.out.tr.own _ hb with h' | h'
                    · exact hbno h'
                    · simp at h'; omega
                  have c9 : w4.cell? ⟨s0.sb, 9, none⟩ = some (.slice (some ⟨s1.wlHB, 0, none⟩) (s1.nv * 2) (s1.nv * 2)) := by rw [← hsb1]; exact hw4.out.rep.sc hw4.out.rep.hd.f9
                  have ch : w4.cell? ⟨s1.wlHB, negL x, none⟩ = some (s1.wlV (negL x)) := hw4.out.rep.wlH hkneg
                  have cb : ∀ o, w4.cell? ⟨wc.heap.size, o, none⟩ = #[Value.int .i32 (f : Int), .pointer (some ⟨c, 0, none⟩)][o]? := fun o => by
                    rw [hw4.out.tr.fr.cell (by simp) hbno]
                    exact World.cell?_alloc_at (w := wc) _ _ _ _ rfl
                  have cb0 := cb 0
                  have cb1 := cb 1
                  simp at cb0 cb1
                  clear cb
                  refine wp_region_firstI (fun w' => w'.cell? ⟨s0.sb, 9, none⟩ = some (.slice (some ⟨s1.wlHB, 0, none⟩) (s1.nv * 2) (s1.nv * 2)) ∧ w'.cell? ⟨s1.wlHB, negL x, none⟩ = some (s1.wlV (negL x)) ∧ w'.cell? ⟨wc.heap.size, 0, none⟩ = some (.int .i32 (f : Int)) ∧ w'.cell? ⟨wc.heap.size, 1, none⟩ = some (.pointer (some ⟨c, 0, none⟩)))
                    17 [0, 1, 2, 3, 4, 5, 6, 7, 8, 9, 10, 11, 12, 13, 14] [15, 16] (by kernel_rfl) (by kernel_rfl) ⟨c9, ch, cb0, cb1⟩ ?_
                  iterate 15
                    refine wpFirstI_cons rfl rfl (fun K hK => ?_)
                    apply Exists.intro
                    refine And.intro (fun w' hw' => ?_) ?_
                    · obtain ⟨k9, kh, kb0, kb1⟩ := hw'
                      go_simp
                      first | exact rfl | exact ⟨rfl, rfl⟩
                    go_simp
                    refine hK _ ?_
                    clear hK K
                  refine wpFirstI_nil ?_
                  have hR4 := hw4.out.rep
                  have hR5 := (hR4.alloc (.cells #[.int .i32 (f : Int), .pointer (some ⟨c, 0, none⟩)] 107))
                  have hbx5 : wc.heap.size < (w4.alloc (.cells #[.int .i32 (f : Int), .pointer (some ⟨c, 0, none⟩)] 107)).heap.size := by simp; omega
                  refine wpActsI_cons rfl ?_
                  go_wp2_with fail
                  refine ⟨⟨?_, ?_, ?_, ?_⟩, ?_⟩
                  · rw [← hsb1]; exact hR5.sc hR5.hd.f9
                  · exact hR5.wlH hkneg
                  · simp [World.cell?_alloc_past _ _ _ hbx, cb0]
                  · simp [World.cell?_alloc_past _ _ _ hbx, cb1]
                  refine wpActsI_cons rfl ?_
                  refine wpList_append_rows rfl _ _ 105 rfl 107 iW (.agg #[.int .i32 0, .pointer none]) 2 16 Tryz.underlying105 hiW hw0 hw1 hw2 rfl (by decide) (s1.wlV (negL x)) (s1.wl (negL x)).length (watchV (s1.wl (negL x))) rfl (own_wl hR5 hkneg) ⟨w4.heap.size, 0, none⟩ 1 1 [i32 f, ptrV (some c)] rfl rfl (cell_new_two _ _ _ _ _ rfl) (by simp [i32, ptrV, Value.oneCell']) (by have := hW1.out.wll _ hkneg; unfold maxLen; omega) (by have := hW1.out.wll _ hkneg; omega) ?_
                  intro v' w6 ho hg hf6
                  obtain ⟨g6, cap6, rfl, _, _⟩ := own_form ho (by omega)
                  obtain ⟨m1, m2, m3⟩ := hR5.drew.midWl hkneg ho hg hf6
                  obtain ⟨p1, p2, p3⟩ := hR5.drew.appWl hkneg (b := f) (c := c) ho hg hf6
                  obtain ⟨u14, hu14⟩ := Option.isSome_iff_exists.1 p1
                  have hu14 : w6.cell? ⟨s1.wlHB, negL x, none⟩ = some u14 := hu14
                  have p2 : w6.frozen? ⟨s1.wlHB, negL x, none⟩ = false := p2
                  have hT6 := ((((hT1.out.alloc (.cells #[.int .i32 (f : Int), .pointer (some ⟨c, 0, none⟩)] 107)).drewN (q3 + q4)).trans hw4.out).alloc (.cells #[.int .i32 (f : Int), .pointer (some ⟨c, 0, none⟩)] 107)).drew.trans p3
                  replace hT6 := Lib.hid hT6
                  go_step
                  refine ⟨⟨?_, ?_, ?_, ?_⟩, wpActsI_nil ?_⟩
                  · rw [← hsb1]; exact m1 9 _ hR5.hd.f9
                  · exact m2 _ hkneg
                  · rw [m3 _ _ (by simpa using hbx5) hbno2]; simp [World.cell?_alloc_past _ _ _ hbx, cb0]
                  · rw [m3 _ _ (by simpa using hbx5) hbno2]; simp [World.cell?_alloc_past _ _ _ hbx, cb1]
                  clear m1 m2 m3 p1 ho hg hf6 c9 ch cb0 cb1
                  simp only [List.drop_succ_cons, List.drop_zero]
                  go_wp2_with fail
                  have hxm : x = nth (s.lits c) k := by
                    rw [hx.out]
                    show nth (s1.toMS.lits c) k = _
                    rw [hms.out]
                    exact fix_nth _ _ _ _ (hwfi.out.len c hcid).1 hka
                  have hne : negL x ≠ lit := fun e => by
                    have h2 := hst2.out
                    rw [← e, negL_negL] at h2
                    rw [← hlst.out, hst.out] at h2
                    exact hkkn.out h2
                  have hlen' : len = (s.lits c).length := by
                    rw [hlen.out]
                    show (s1.toMS.lits c).length = _
                    rw [hms.out]; exact fix_len _ _ _ _
                  have hnth : ∀ k', 2 ≤ k' → nth (s1.lits c) k' = nth (s.lits c) k' := fun k' h' => by
                    show nth (s1.toMS.lits c) k' = _
                    rw [hms.out]
                    exact fix_nth _ _ _ _ (hwfi.out.len c hcid).1 h'
                  have hI3 := hI.caseC hIi.out hltL hbc.out hA.out (f := f) (k := k) (by rw [hf.out, hms.out]) (by rw [← hlst.out]; exact hB.out) hka (by rw [← hlen']; omega)
                    (fun k' h1 h2 => by
                      have := hkmin.out k' h2
                      rw [← hlst.out, ← hnth k' h1]
                      rcases lst_cases s1.toMS (nth (s1.lits c) k') with h' | h' | h'
                      · exact absurd ⟨h1, by omega, by rw [h']; decide⟩ this
                      · exact absurd ⟨h1, by omega, by rw [h']; decide⟩ this
                      · exact h')
                    (by rw [← hlst.out, ← hxm, hst.out]; exact hkkn.out)
                  rw [← hms.out, ← hxm] at hI3
                  refine ⟨⟨i + 1, j, _, rfl, by go_num, hI3, hT6.out, hsb1, g2.out.trans hwlH.out, g3.out.trans hmb.out, ?_⟩, by simp [intOf]; omega⟩
                  show (if lit = negL x then _ else s1.wlV lit) = _
                  rw [if_neg (Ne.symm hne)]
                  exact (congrFun g4.out lit).trans hwV.out
            · have hall : ∀ k, 2 ≤ k → k < len → s1.lst (nth (s1.lits c) k) = 2 := fun k h1 h2 => by
                rcases lst_cases s1.toMS (nth (s1.lits c) k) with h' | h' | h'
                · exact absurd ⟨k, h1, h2, by rw [h']; decide⟩ hC
                · exact absurd ⟨k, h1, h2, by rw [h']; decide⟩ hC
                · exact h'
              clear hC
              replace hall := Lib.hid hall
              go_wp2_with (first
                | (go_at_call 54; (first | refine Calls.ret (hF1.out _ hR1) ?_ | refine Calls.ret (hF1.out _ (hR1.alloc _)) ?_))
                | (go_at_call 72; rw [← hsb1]; refine (litStatus_c (hR1.alloc _) hf2 hnvs1.out kf hkf'.out).mono ?_; rintro e w2 ⟨rfl, q2, rfl⟩))
              go_loopw [14, 15] (fun v14 v15 wq => ∃ k : Nat, 2 ≤ k ∧ k ≤ len ∧ v14 = .bool false ∧ v15 = .int .i64 (k : Int) ∧ ∃ q3, wq = (wc.alloc (.cells #[.int .i32 (f : Int), .pointer (some ⟨c, 0, none⟩)] 107)).drewN q3) (fun _ v15 _ => len - (intOf v15).toNat)
              case atStart => exact ⟨2, by omega, hcl1, rfl, by go_num, q2, rfl⟩
              case round =>
                obtain ⟨k, hka, hkb, rfl, rfl, q3, rfl⟩ := hrel
                have hR3 := (hR1.alloc (.cells #[.int .i32 (f : Int), .pointer (some ⟨c, 0, none⟩)] 107)).drewN q3
                by_cases hkk : k < len
                · have hkl3 : k < (s1.lits c).length := by rw [← hlen.out]; omega
                  have hx2 : nth (s1.lits c) k < s1.nv * 2 := hW1.out.lit c hid1 k hkl3
                  have hGet := Get_s hR3 hW1.out hid1 hkl3
                  have hst : s1.lst (nth (s1.lits c) k) = 2 := hall.out k hka hkk
                  obtain ⟨x, hx⟩ : ∃ x, x = nth (s1.lits c) k := ⟨_, rfl⟩
                  rw [← hx] at hx2 hGet hst
                  replace hGet := Lib.hid hGet
                  replace hst := Lib.hid hst
                  replace hx := Lib.hid hx
                  go_wp2_with (first
                    | (go_at_call 50; refine Calls.ret (hLen.out _ hR3) ?_)
                    | (go_at_call 52; refine Calls.ret hGet.out ?_)
                    | (go_at_call 72; rw [← hsb1]; refine (litStatus_c hR3 hx2 hnvs1.out 2 hst.out).mono ?_; rintro e w2 ⟨rfl, q4, rfl⟩))
                  go_roundw
                  case rel => exact ⟨k + 1, by omega, by omega, rfl, by go_num, q3 + q4, by simp [World.drewN]⟩
                  case measure => simp [intOf]; omega
                · have hke : k = len := by omega
                  subst hke
                  have hW3 := fun q => (((hR1.alloc (.cells #[.int .i32 (f : Int), .pointer (some ⟨c, 0, none⟩)] 107)).drewN q).wle hlit1 hob1.out hjn1)
                  have hlen' : k = (s.lits c).length := by
                    rw [hlen.out]
                    show (s1.toMS.lits c).length = _
                    rw [hms.out]; exact fix_len _ _ _ _
                  have hall' : ∀ k', 2 ≤ k' → k' < (s.lits c).length → s.lst (nth (s.lits c) k') = 2 := fun k' h1 h2 => by
                    have := hall.out k' h1 (by omega)
                    rw [hlst.out] at this
                    rw [← this]
                    congr 1
                    show _ = nth (s1.toMS.lits c) k'
                    rw [hms.out]
                    exact (fix_nth _ _ _ _ (hwfi.out.len c hcid).1 h1).symm
                  have hF5 : ∀ w1, Rep (s1.setWl lit ((s1.wl lit).set j (f, c))) w1 → Calls Tryz.prog 54 #[.pointer (some ⟨c, 0, none⟩)] w1 fun e w' => e = .returned (.int .i32 (f : Int)) ∧ w' = w1 := fun w1 hR => by
                    obtain ⟨b5, cap5, c1, c2, c3, c4, c5⟩ := hR.lits (c := c) hid1 (by have := hW1.out.len c hid1; show 0 < (s1.lits c).length; omega)
                    have hd := hR.clc (c := c) hid1 (j := 0) rfl
                    rw [c1] at hd
                    rw [hf.out]
                    exact First_c (L := s1.lits c) ⟨hd, c4, (hW1.out.len c hid1).2⟩ (by have := hW1.out.len c hid1; omega)
                  replace hF5 := Lib.hid hF5
                  replace hlen' := Lib.hid hlen'
                  replace hall' := Lib.hid hall'
                  clear hW3
                  by_cases hD : kf = 2
                  · subst hD
                    clear hkf1
                    have hji3 : j ≤ i := hji
                    have hjc : j + 1 ≤ cap := by have := hcap.out; omega
                    have hic : i + 1 ≤ cap := by have := hcap.out; omega
                    have hcn : n ≤ cap := hcap.out
                    go_wp2_with (first
                      | (go_at_call 50; refine Calls.ret (hLen.out _ hR3) ?_)
                      | (refine wpList_store_two rfl 107 (.tmp 110) (.tmp 109) rfl lb (j * 2) (i32 f) (ptrV (some c)) rfl rfl (by kernel_rfl) rfl rfl (by rw [(hR3.wle hlit1 hob1.out hjn1).1]; rfl) (by rw [(hR3.wle hlit1 hob1.out hjn1).2]; rfl) (hR3.wlf hlit1 hob1.out _) (hR3.wlf hlit1 hob1.out _) ?_
                         intro w5 hw5
                         have hT5 := ((hT1.out.alloc (.cells #[.int .i32 (f : Int), .pointer (some ⟨c, 0, none⟩)] 107)).drewN q3).trans (hR3.setWl hlit1 hob1.out j f c)
                         rw [← hw5] at hT5
                         replace hT5 := Lib.hid hT5
                         clear hw5))
                    have k1 : (0 : Int) ≤ (j : Int) + 1 := by omega
                    have k2 : (j : Int) + 1 ≤ (n : Int) := by omega
                    have k3 : (0 : Int) ≤ (i : Int) + 1 := by omega
                    have k4 : (i : Int) + 1 ≤ (n : Int) := by omega
                    have hl1 : (s1.wl lit).length = n := by rw [hwl1.out, hln.out, hnn.out]
                    replace hl1 := Lib.hid hl1
                    have kw1 : IntKind.i64.wrap ((i : Int) + 1) = (i : Int) + 1 := IntWalk.i64_in _ (by omega)
                    have kw2 : ((i : Int) + 1).toNat = i + 1 := by omega
                    obtain ⟨D, hD⟩ : ∃ D, D = i - j := ⟨_, rfl⟩
                    obtain ⟨M, hM⟩ : ∃ M, M = n - D := ⟨_, rfl⟩
                    have kw3 : IntKind.i64.wrap ((i : Int) - (j : Int)) = (D : Int) := by rw [IntWalk.i64_in _ (by omega)]; omega
                    have kw3b : IntKind.i64.wrap ((i : Int) + 1 - ((j : Int) + 1)) = (D : Int) := by rw [IntWalk.i64_in _ (by omega)]; omega
                    have kw4 : IntKind.i64.wrap ((n : Int) - (D : Int)) = (M : Int) := by rw [IntWalk.i64_in _ (by omega)]; omega
                    have kw5 : (M : Int) ≤ (cap : Int) := by omega
                    have kw6 : M ≤ cap := by omega
                    have hMn : M = (j + 1) + (n - (i + 1)) := by omega
                    replace hD := Lib.hid hD
                    replace hM := Lib.hid hM
                    replace hMn := Lib.hid hMn
                    have hT5c : RT s0 w0 (s1.setWl lit ((s1.wl lit).set j (f, c))) w5 := hT5.out
                    have hlit5 : lit < (s1.setWl lit ((s1.wl lit).set j (f, c))).nv * 2 := hlit1
                    have hw5 : (s1.setWl lit ((s1.wl lit).set j (f, c))).wl lit = (s1.wl lit).set j (f, c) := by simp [St.setWl]
                    have hob5 : ((s1.setWl lit ((s1.wl lit).set j (f, c))).wlV lit).ownBlock = some lb := hob1.out
                    obtain ⟨s5, hs5⟩ : ∃ s5, s5 = s1.setWl lit ((s1.wl lit).set j (f, c)) := ⟨_, rfl⟩
                    rw [← hs5] at hT5c hlit5 hw5 hob5
                    have hl5 : (s5.wl lit).length = n := by rw [hw5, List.length_set]; exact hl1.out
                    have hsb5 : s5.sb = s0.sb := by rw [hs5]; exact hsb1
                    replace hs5 := Lib.hid hs5
                    replace hw5 := Lib.hid hw5
                    replace hob5 := Lib.hid hob5
                    replace hl5 := Lib.hid hl5
                    replace hsb5 := Lib.hid hsb5
                    clear hT5
                    go_cut [8] from 115 to 122 (fun v8 wx => v8 = .int .i64 ((j : Int) + 1) ∧ RT s0 w0 (s5.setWl lit (spl (s5.wl lit) (j + 1) (i + 1))) wx)
                    case first =>
                      refine wp_region_still_tail 7 (by kernel_rfl) (by kernel_rfl) ?_
                      simp only [List.take_succ_cons, List.take_zero, List.drop_succ_cons, List.drop_zero]
                      by_cases hz : i + 1 = n
                      · repeat still_step
                        refine wpStill_nil ?_
                        refine wpList_copy_zero rfl (.tmp 117) (.tmp 121) 105 105 rfl 107 2 Tryz.underlying105 (by kernel_rfl) _ _ _ _ _ _ rfl rfl (by simp) ?_
                        have hsp : s5.setWl lit (spl (s5.wl lit) (j + 1) (i + 1)) = s5 := by
                          have e : spl (s5.wl lit) (j + 1) (i + 1) = s5.wl lit := by
                            unfold spl
                            rw [hz, ← hl5.out]
                            simp
                          rw [e]
                          unfold St.setWl
                          have e2 : (fun t' => if t' = lit then s5.wl lit else s5.wl t') = s5.wl := by funext t'; split <;> simp [*]
                          rw [e2]
                        replace hsp := Lib.hid hsp
                        go_step
                        go_step
                        go_step
                        go_meet
                        refine ⟨rfl, ?_⟩
                        rw [hsp.out]
                        exact hT5c.drew
                      · have hcj : ¬ cap = j + 1 := by omega
                        have hci : ¬ cap = i + 1 := by omega
                        repeat still_step
                        refine wpStill_nil ?_
                        have hrow := spl_row s5 (t := lit) (j := j + 1) (i := i + 1) hlit5 (by omega) (by rw [hl5.out]; omega)
                        have e0 : s5.row (.wl lit) = ⟨107, 2, s5.wlV lit, (s5.wl lit).length, watchV (s5.wl lit)⟩ := by simp only [St.row]; rw [if_pos hlit5]
                        refine wpList_copy_rows (ρ' := (s5.setWl lit (spl (s5.wl lit) (j + 1) (i + 1))).row) rfl (.tmp 117) (.tmp 121) 105 105 rfl 107 2 Tryz.underlying105 (by kernel_rfl) hT5c.drew.rep.rows (.wl lit) (b := lb) (by rw [e0]; exact hob5.out) ((j + 1) * 2) (n - (j + 1)) (cap - (j + 1)) (n - (i + 1)) (cap - (i + 1)) (n - (i + 1)) ⟨lb, (i + 1) * 2, none⟩ (watchV ((s5.wl lit).drop (i + 1)))
                          rfl rfl (by simp [Nat.min_def]; omega) (by rw [watchV_len, List.length_drop, hl5.out]; omega) ?_ (by rw [e0]; simp only []; rw [watchV_len, watchV_len, List.length_drop, hl5.out]; omega) (watchV_one _) hrow (fun r hr => setWl_row_ne _ _ _ r hr) ?_
                        · intro jj v hv
                          rw [Addr.add_lit]
                          refine hT5c.drew.rep.rows.cell (.wl lit) (by rw [e0]; exact hob5.out) ?_
                          rw [e0]
                          simp only []
                          rw [← watchV_drop, List.getElem?_drop] at hv
                          rw [Nat.mul_comm (i + 1) 2]; exact hv
                        · intro w6 ht6
                          have hT6 : RT s0 w0 (s5.setWl lit (spl (s5.wl lit) (j + 1) (i + 1))) w6 := ⟨hT5c.drew.tr.trans ht6, hT5c.drew.rep.setWl_hd _ _, hT5c.kp⟩
                          replace hT6 := Lib.hid hT6
                          clear ht6 hrow e0
                          go_wp2_with fail
                          go_meet
                          exact ⟨rfl, hT6.out⟩
                    case rest =>
                      obtain ⟨rfl, hT6⟩ := hcut
                      have hl6 : ((s5.setWl lit (spl (s5.wl lit) (j + 1) (i + 1))).wl lit).length = n := by
                        simp only [St.setWl, if_true]
                        rw [spl_len _ (by omega) (by rw [hl5.out]; omega)]; exact hl5.out
                      have hwV6 : (s5.setWl lit (spl (s5.wl lit) (j + 1) (i + 1))).wlV lit = s0.wlV lit := by
                        show s5.wlV lit = _
                        rw [hs5.out]; exact (congrFun g4.out lit).trans hwV.out
                      have hvs : hdLen ((s5.setWl lit (spl (s5.wl lit) (j + 1) (i + 1))).wlV lit) M = .slice (some ⟨lb, 0, none⟩) M cap := by rw [hwV6, hv.out]; rfl
                      have hct := hT6.rep.cutWl (t := lit) (m := M) hlit5 (by rw [hl6, hMn.out]; omega)
                      rw [hvs] at hct
                      have n9 : wc.cell? ⟨s0.sb, 9, none⟩ = some (.slice (some ⟨s5.wlHB, 0, none⟩) (s5.nv * 2) (s5.nv * 2)) := by rw [← hsb5.out]; exact hT6.rep.sc hT6.rep.hd.f9
                      have n10 : wc.cell? ⟨s5.wlHB, lit, none⟩ = some (s5.wlV lit) := hT6.rep.wlH hlit5
                      have n11 : wc.frozen? ⟨s5.wlHB, lit, none⟩ = false := hT6.rep.wlHf lit
                      have n12 : (lit : Int) < (s5.nv : Int) * 2 := by omega
                      have hms6 : ((s5.setWl lit (spl (s5.wl lit) (j + 1) (i + 1))).cutWl lit M).toMS = (s.toMS.fix c lit).setWl lit ((s.toMS.wl lit).take j ++ (f, c) :: (s.toMS.wl lit).drop (i + 1)) := by
                        have e1 : (spl (s5.wl lit) (j + 1) (i + 1)).take M = (s.toMS.wl lit).take j ++ (f, c) :: (s.toMS.wl lit).drop (i + 1) := by
                          have e2 : M = (j + 1) + ((s5.wl lit).length - (i + 1)) := by rw [hl5.out]; exact hMn.out
                          rw [e2, spl_take _ (by omega) (by rw [hl5.out]; omega), hw5.out, hwl1.out, List.drop_set_of_lt (by omega)]
                          rw [List.take_add_one, List.take_set_of_le (by omega), List.getElem?_set_self (by rw [hln.out, hnn.out]; omega)]
                          simp
                        rw [← hms.out]
                        have e3 : ((s5.setWl lit (spl (s5.wl lit) (j + 1) (i + 1))).cutWl lit M).toMS = s1.toMS.setWl lit ((spl (s5.wl lit) (j + 1) (i + 1)).take M) := by
                          rw [hs5.out]
                          simp only [St.setWl, St.cutWl, MS.setWl, if_true]
                          congr 1
                          funext t'
                          by_cases e : t' = lit <;> simp [e]
                        rw [e3, e1]
                      replace hms6 := Lib.hid hms6
                      replace hct := Lib.hid (hT6.trans hct)
                      clear hT6 hwV6 hvs hl6
                      go_upto_region 32 with fail
                      refine wp_region_still_tail 15 (by kernel_rfl) (by kernel_rfl) ?_
                      simp only [List.take_succ_cons, List.take_zero, List.drop_succ_cons, List.drop_zero]
                      repeat still_step
                      refine wpStill_nil ?_
                      go_wp2_with fail
                      go_ret
                      exact .inr ⟨_, s.toMS, i, j, b, c, f, rfl, hIi.out, hltL, hbc.out, hA.out, by rw [hf.out, hms.out], by rw [← hlst.out]; exact hkf'.out, hall'.out, hms6.out, hct.out.drew⟩
                  · have hD0 : kf = 0 := by
                      rcases lst_cases s1.toMS f with h' | h' | h'
                      · rw [← hkf'.out]; exact h'
                      · exact absurd h' hB.out
                      · exact absurd (hkf'.out.symm.trans h') hD
                    subst hD0
                    clear hD hkf1
                    go_wp2_with (first
                      | (go_at_call 50; refine Calls.ret (hLen.out _ hR3) ?_)
                      | (refine wpList_store_two rfl 107 (.tmp 110) (.tmp 109) rfl lb (j * 2) (i32 f) (ptrV (some c)) rfl rfl (by kernel_rfl) rfl rfl (by rw [(hR3.wle hlit1 hob1.out hjn1).1]; rfl) (by rw [(hR3.wle hlit1 hob1.out hjn1).2]; rfl) (hR3.wlf hlit1 hob1.out _) (hR3.wlf hlit1 hob1.out _) ?_
                         intro w5 hw5
                         have hT5 := ((hT1.out.alloc (.cells #[.int .i32 (f : Int), .pointer (some ⟨c, 0, none⟩)] 107)).drewN q3).trans (hR3.setWl hlit1 hob1.out j f c)
                         rw [← hw5] at hT5
                         replace hT5 := Lib.hid hT5
                         clear hw5)
                      | (go_at_call 54; refine Calls.ret (hF5.out _ hT5.out.rep) ?_)
                      | (go_at_call 138
                         rw [← hsb1]
                         refine (propUnit_c hT5.out.rep hid1 hf2 hnvs1.out h0 h1 (hW1.out.word c hid1) hW1.out.trl).mono ?_
                         rintro e w7 ⟨rfl, tv, hw7⟩
                         replace hw7 := Lib.hid hw7))
                    have hI3 := hI.caseD hIi.out hltL hbc.out hA.out (f := f) (by rw [hf.out, hms.out]) (by rw [← hlst.out]; exact hkf'.out) hall'.out
                    rw [← hms.out, ← hwl1.out] at hI3
                    exact ⟨⟨i + 1, j + 1, _, by go_num, by go_num, hI3, hT5.out.trans hw7.out, hsb1, g2.out.trans hwlH.out, g3.out.trans hmb.out, (congrFun g4.out lit).trans hwV.out⟩, by simp [intOf]; omega⟩
    · have hieq : i = n := by have := hnn.out; omega
      have hliti' : lit < s0.nv * 2 := hlit
      have k9 : wr.cell? ⟨s.sb, 9, none⟩ = some (.slice (some ⟨s.wlHB, 0, none⟩) (s.nv * 2) (s.nv * 2)) := hR.sc hR.hd.f9
      have k10 := hR.wlH hliti
      have k11 := hR.wlHf lit
      have hjc : j ≤ cap := by have := hcap.out; omega
      have hjl : j ≤ (s.wl lit).length := by rw [hln]; have := hnn.out; omega
      have hvs : hdLen (s.wlV lit) j = .slice (some ⟨lb, 0, none⟩) j cap := by rw [hwV, hv.out]; rfl
      have hct := hR.cutWl hliti hjl
      rw [hvs] at hct
      rw [hwV, hv.out] at k10
      rw [hsb] at k9
      subst hieq
      replace hvs := Lib.hid hvs
      replace hct := Lib.hid hct
      replace hIi := Lib.hid hIi
      replace hT := Lib.hid hT
      replace hsb := Lib.hid hsb
      replace hwlH := Lib.hid hwlH
      replace hmb := Lib.hid hmb
      replace hwV := Lib.hid hwV
      replace hwfi := Lib.hid hwfi
      replace hent := Lib.hid hent
      replace hst2 := Lib.hid hst2
      replace hobs := Lib.hid hobs
      replace hln := Lib.hid hln
      go_wp2_with fail
      refine wp_region_still_tail 9 (by kernel_rfl) (by kernel_rfl) ?_
      simp only [List.take_succ_cons, List.take_zero, List.drop_succ_cons, List.drop_zero]
      repeat still_step
      refine wpStill_nil ?_
      go_wp2_with fail
      go_ret
      exact .inl ⟨rfl, s.cutWl lit j, s.toMS, j, by rw [hnn.out]; exact hIi.out, rfl, (hT.out.trans hct.out).drew⟩
end Go.Proofs.YtiimddkopiknpaaGreatDoor
