/-
  The search's main loop.
-/
import Derived.Test.YtiimddkopiknpaaGreatDoorB21
import Derived.Deep.CutBlock
import Derived.Deep.LoopGhost
set_option linter.unusedVariables false
set_option linter.unusedSimpArgs false

/-
  propagateAndSearch: the walk.
-/
namespace Go.Proofs.YtiimddkopiknpaaGreatDoor
open Go.RowKit

/-- how far the search is from its end -/
def pm (s : St) : Nat := (4000000 - s.nconf).toNat * 2000 + (1100 - s.trail.length) + 1
/-- the search stands at a literal, or all is bound -/
def PRel (F : List (List Nat)) (u0 nv : Nat) (N0 : Int) (s0 : St) (w0 : World) (M : Nat) (v1 v2 : Value) (w : World) : Prop :=
  (∃ (jr lvl : Nat) (s : St), v1 = .int .i32 (-1) ∧ SG F u0 nv jr lvl N0 s0 w0 s w ∧ ∀ v, v < nv → s.toMS.va v ≠ 0) ∨
  (∃ (jr lvl l : Nat) (m1 : MS) (s : St), v1 = .int .i32 ((l : Nat) : Int) ∧ v2 = .int .i64 (lvl : Int) ∧ SL F u0 nv jr lvl l m1 N0 s0 w0 s w ∧ pm s ≤ M)
def PSPost (F : List (List Nat)) (u0 nv : Nat) (N0 : Int) (s0 : St) (w0 : World) (e : Ending) (w : World) : Prop :=
  (e = .returned (.int .u8 1) ∧ ∃ jr lvl s, SG F u0 nv jr lvl N0 s0 w0 s w ∧ ∀ v, v < nv → s.toMS.va v ≠ 0) ∨
  (e = .returned (.int .u8 2) ∧ UNS F s0 w0 w) ∨
  (e = .returned (.int .u8 0) ∧ ∃ jr s, SR F u0 nv jr N0 s0 w0 s w ∧ s.lbdN = 0 ∧ N0 + 50 ≤ s.nconf)
theorem pm_bind {s s' : St} (h1 : s'.nconf = s.nconf) (h2 : s.trail.length < s'.trail.length) (h3 : s'.trail.length ≤ 1100) : pm s' < pm s := by unfold pm; rw [h1]; omega
theorem pm_conf {s s' : St} {N : Int} (h1 : s.nconf = N) (h2 : s'.nconf = N + 1) (h3 : N ≤ 4000000 - 10) : pm s' < pm s := by unfold pm; rw [h1, h2]; omega
theorem pm_pos (s : St) : 0 < pm s := by unfold pm; omega
theorem SG.tlb {F : List (List Nat)} {u0 nv jr lvl : Nat} {N0 : Int} {s0 s : St} {w0 w : World} (h : SG F u0 nv jr lvl N0 s0 w0 s w) : s.trail.length ≤ 1100 := by
  have h1 := h.hg.gs.core.bound
  have h2 := h.hg.gp.u0b
  have h3 := h.hg.gp.nvE
  have h4 := h.hg.gp.n8
  have h5 : s.toMS.trail.length = s.trail.length := rfl
  omega
theorem SG.lvb {F : List (List Nat)} {u0 nv jr lvl : Nat} {N0 : Int} {s0 s : St} {w0 w : World} (h : SG F u0 nv jr lvl N0 s0 w0 s w) : lvl ≤ 1200 := by
  have h1 := h.hg.lvi.le
  have h2 := h.tlb
  have h5 : s.toMS.trail.length = s.trail.length := rfl
  omega
section
variable {F : List (List Nat)} {u0 nv : Nat} {N0 : Int} {s0 : St} {w0 w : World} {M : Nat} {v1 v2 : Value}
attribute [local go_sem] run_store_float
set_option maxRecDepth 100000 in
set_option maxHeartbeats 8000000 in
theorem ps_c (h : PRel F u0 nv N0 s0 w0 M v1 v2 w) (h3 : w.cell? ⟨s0.sb, 3, none⟩ = some (.bool false)) :
    Calls Tryz.prog 44 #[.pointer (some ⟨s0.sb, 0, none⟩), v1, v2] w (PSPost F u0 nv N0 s0 w0) := by
  replace h := Lib.hid h
  go_enter Tryz.func44, Tryz.ntmps44
  go_upto_block 0 with fail
  clear h3
  go_wp2_with fail
  go_loopg [1, 2] M (fun g v1 v2 wr => PRel F u0 nv N0 s0 w0 g v1 v2 wr)
  case atStart => exact h.out
  case round =>
    clear h
    rcases hrel with ⟨jr, lvl, s, rfl, hS, hall⟩ | ⟨jr, lvl, l, m1, s, rfl, rfl, hS, hM⟩
    · replace hS := Lib.hid hS
      replace hall := Lib.hid hall
      go_wp2_with fail
      go_ret
      exact .inl ⟨rfl, jr, lvl, s, hS.out, hall.out⟩
    · have hu := Lib.hid (unifyH_c hS)
      replace hS := Lib.hid hS
      have hl1 : ¬ ((l : Int) = -1) := by omega
      go_upto_if 25 with (go_at_call 63; refine hu.out.mono ?_; rintro e w2 hw2; rcases hw2 with ⟨rfl, s2, hS2⟩ | ⟨c, s2, rfl, hS2⟩ <;> replace hS2 := Lib.hid hS2)
      · as_aux_lemma =>
        clear hu
        obtain ⟨hS, hN, htl⟩ := hS2.out
        have hmr := Lib.hid (mustRestart_c hS.bs.rep)
        rw [hS.bs.sb] at hmr
        clear hS2
        replace hS := Lib.hid hS
        go_upto_if 29 with (go_at_call 64; refine hmr.out.mono ?_; rintro e w3 ⟨bb, q, rfl, hbb, hw3⟩; replace hw3 := Lib.hid hw3; replace hbb := Lib.hid hbb)
        clear hmr
        have hS3 := hS.out.drewN q
        rw [← hw3.out] at hS3
        clear hS
        cases bb
        · clear hbb
          have hrep := hS3.bs.rep
          have c88 := hrep.sc hrep.hd.f5088
          have c7 := hrep.sc hrep.hd.f7
          have c6 := hrep.sc hrep.hd.f6
          simp only [i64] at c88 c7 c6
          rw [hS3.bs.sb] at c88 c7 c6
          have f7 := hrep.scf 7
          rw [hS3.bs.sb] at f7
          have hG := hS3.hg.gp
          have g1 := hG.idx
          have g2 := hG.nbm
          have g3 := hG.jrb
          have g4 := hS3.N_le
          have hN' : s2.nconf = s.nconf := hN
          obtain ⟨N, hNn⟩ : ∃ N : Int, N = s2.nconf := ⟨_, rfl⟩
          obtain ⟨ix, hix⟩ : ∃ ix : Int, ix = s2.idx := ⟨_, rfl⟩
          obtain ⟨nb, hnb⟩ : ∃ nb : Int, nb = s2.nbMax := ⟨_, rfl⟩
          rw [← hNn] at c88 g1 g4
          rw [← hix] at c7 g1
          rw [← hnb] at c6 g2
          have hpr : 0 ≤ ix * nb ∧ ix * nb ≤ 4000000 * 200000 := ⟨Int.mul_nonneg (by omega) (by omega), Int.le_trans (Int.mul_le_mul_of_nonneg_right (by omega : ix ≤ 4000000) (by omega)) (Int.mul_le_mul_of_nonneg_left (by omega) (by omega))⟩
          have hw : IntKind.i64.wrap (ix * nb) = ix * nb := IntWalk.i64_in _ (by omega)
          replace hS3 := Lib.hid hS3
          replace hw3 := Lib.hid hw3
          replace hNn := Lib.hid hNn
          replace hix := Lib.hid hix
          replace hnb := Lib.hid hnb
          clear hrep hG g3
          go_upto_region 10 with fail
          go_quiet (fail)
          go_upto_if 52 with fail
          obtain ⟨d, hd⟩ : ∃ d, d = decide (ix * nb ≤ N) := ⟨_, rfl⟩
          rw [← hd]
          have hS4 := hS3.out.drewN nq
          go_cut [] (fun wx => ∃ (jr' : Nat) (s' : St), SG F u0 nv jr' lvl N0 s0 w0 s' wx ∧ s'.nconf = s.nconf ∧ s'.trail = s2.trail)
          case first =>
            as_aux_lemma =>
            cases d
            · replace hS4 := Lib.hid hS4
              clear hS3
              go_wp2_with fail
              go_meet
              exact ⟨jr, s2, hS4.out, hN', rfl⟩
            · have hle : ix * nb ≤ N := of_decide_eq_true hd.symm
              have hnz : nb ≠ 0 := by omega
              have hnz2 : (0 : Int) < nb := by omega
              have hq0 : 0 ≤ N / nb := Int.ediv_nonneg (by omega) (by omega)
              have hq1 : N / nb ≤ N := Int.ediv_le_self _ (by omega)
              have hw2 : IntKind.i64.wrap (N / nb) = N / nb := IntWalk.i64_in _ (by omega)
              have hw3' : IntKind.i64.wrap (N / nb + 1) = N / nb + 1 := IntWalk.i64_in _ (by omega)
              have htd : Int.tdiv N nb = N / nb := Int.tdiv_eq_ediv_of_nonneg (by omega)
              clear hS3 hd
              obtain ⟨w4, hw4⟩ : ∃ w4, w4 = w3.drewN nq := ⟨_, rfl⟩
              have c88 : (w3.drewN nq).cell? ⟨s0.sb, 5088, none⟩ = some (.int .i64 N) := c88
              have c7 : (w3.drewN nq).cell? ⟨s0.sb, 7, none⟩ = some (.int .i64 ix) := c7
              have c6 : (w3.drewN nq).cell? ⟨s0.sb, 6, none⟩ = some (.int .i64 nb) := c6
              have f7 : (w3.drewN nq).frozen? ⟨s0.sb, 7, none⟩ = false := f7
              rw [← hw4] at hS4 c88 c7 c6 f7 ⊢
              clear hw4
              replace hS4 := Lib.hid hS4
              go_upto_region 11 with fail
              refine wp_region_tail 13 (by kernel_rfl) (by kernel_rfl) ?_
              simp only [List.take_succ_cons, List.take_zero, List.drop_succ_cons, List.drop_zero]
              repeat still_step
              refine wpStill_nil ?_
              have hk7 := hS4.out.bs.rep.setK 7 (N / nb + 1) (.inr (.inl rfl))
              rw [hS4.out.bs.sb] at hk7
              have e7 : s2.nconf / s2.nbMax + 1 = N / nb + 1 := by rw [hNn.out, hnb.out]
              have hred := Lib.hid (reduceH_c hS4.out (by rw [← hix.out, ← hnb.out, ← hNn.out]; exact hle) (w1 := (w4.setCell ⟨s0.sb, 7, none⟩ (.int .i64 (N / nb + 1))).drew) (by rw [e7]; exact hk7.1.drew) (by rw [e7]; exact hk7.2))
              clear hk7
              go_upto_region 12 with fail
              go_wp2_with (first
                | (go_at_call 67; refine hred.out.mono ?_; rintro e w5 ⟨rfl, s5, hB5, hn5, hnx5⟩; have hbm := Lib.hid (bump_c hB5.rep hn5); rw [hB5.sb] at hbm; replace hnx5 := Lib.hid hnx5; replace hB5 := Lib.hid hB5; replace hn5 := Lib.hid hn5)
                | (go_at_call 68; refine hbm.out.mono ?_; rintro e w6 ⟨rfl, h6⟩; replace h6 := Lib.hid h6))
              go_meet
              obtain ⟨s6, z1, z2, z3⟩ := hnx5.out w6 h6.out.1 h6.out.2
              exact ⟨jr + 1, s6, z1, z2.trans hN', z3⟩
          case rest =>
            as_aux_lemma =>
            obtain ⟨jr', s6, hS6, hn6, ht6⟩ := hcut
            have hch := Lib.hid (chooseH_c hS6)
            have hlb6 := hS6.tlb
            have hlv6 := hS6.lvb
            replace hlb6 := Lib.hid hlb6
            replace hS6 := Lib.hid hS6
            replace hn6 := Lib.hid hn6
            replace ht6 := Lib.hid ht6
            clear hS3 hd
            go_wp2_with (go_at_call 45; refine hch.out.mono ?_; rintro e w7 hw7; rcases hw7 with ⟨rfl, s7, hS7, hall7⟩ | ⟨l7, m7, s7, rfl, hS7, hn7, htl7⟩ <;> replace hS7 := Lib.hid hS7)
            · go_roundg 0
              case measure => have := pm_pos s; omega
              case rel => exact .inl ⟨jr', lvl, s7, rfl, hS7.out, hall7⟩
            · go_roundg (pm s7)
              case measure =>
                have := pm_bind (s := s) (s' := s7) (by rw [hn7, hn6.out]) (by rw [htl7, ht6.out]; exact htl) (by rw [htl7]; exact hlb6.out)
                omega
              case rel => exact .inr ⟨jr', lvl + 1, l7, m7, s7, rfl, by go_num, hS7.out, Nat.le_refl _⟩
        · as_aux_lemma =>
          have h50 := hbb.out rfl
          have hcl := Lib.hid (lbdClear_c hS3.bs.rep)
          rw [hS3.bs.sb] at hcl
          have hlb := hS3.lb
          replace hS3 := Lib.hid hS3
          replace hw3 := Lib.hid hw3
          go_upto_region 8 with (go_at_call 65; refine hcl.out.mono ?_; rintro e w4 ⟨rfl, hT⟩; replace hT := Lib.hid hT)
          have hst := hS3.out.qs.st
          have hS4 := hS3.out.lt hT.out ⟨by show (0 : Int) ≤ 0 ∧ (0 : Int) ≤ 50; omega, by show (0 : Int) ≤ 0 ∧ (0 : Int) < 50; omega, hst.tn, hst.tp⟩ (by have := hst.n; show (0 : Int) ≤ s2.lbdN; omega)
          have hrs := Lib.hid (restartH_c hS4 (by show 0 < s2.trail.length; omega))
          replace hS4 := Lib.hid hS4
          go_wp2_with (go_at_call 66; refine hrs.out.mono ?_; rintro e w5 ⟨rfl, s5, hS5, hn5, hl5⟩)
          go_ret
          exact .inr (.inr ⟨rfl, jr, s5, hS5, hl5, by rw [hn5]; show N0 + 50 ≤ s2.nconf; omega⟩)
      · clear hu
        obtain ⟨hS, hN⟩ := hS2.out
        clear hS2
        have hN4 := hS.hc.gp.N_le hS.hc.core
        have hN0 := hS.hc.gp.n0
        have hlv := hS.hc.lvl_le
        have hl1' := hS.hc.l1
        have hrep := hS.bs.rep
        have c88 := hrep.sc hrep.hd.f5088
        have f88 := hrep.scf 5088
        simp only [i64] at c88
        rw [hS.bs.sb] at c88 f88
        rw [hN] at c88
        obtain ⟨k, hk⟩ : ∃ k : Nat, s.nconf = (k : Int) := ⟨s.nconf.toNat, by omega⟩
        rw [hk] at c88 hN4
        have hSK := hS.sK ((k : Int) + 1)
        have hrK := hSK.bs.rep
        obtain ⟨dc, hdc, hdl⟩ := hrK.hd.f5098
        have c98 := hrK.sc hdc
        have f98 := hrK.scf 5098
        have c88b := hrK.sc hrK.hd.f5088
        rw [hSK.bs.sb] at c98 f98 c88b
        have e88 : (s2.setK 5088 ((k : Int) + 1)).nconf = (k : Int) + 1 := rfl
        rw [e88] at c88b
        simp only [i64] at c88b
        replace hS := Lib.hid hS
        replace hSK := Lib.hid hSK
        replace hk := Lib.hid hk
        replace hdl := Lib.hid hdl
        clear hrep hrK hdc e88 hN0
        have hk4 : k ≤ 4000000 - 10 := by omega
        clear hN4
        go_upto_region 17 with fail
        obtain ⟨w4, hw4⟩ : ∃ w4, w4 = w2.setCell ⟨s0.sb, 5088, none⟩ (.int .i64 ((k : Int) + 1)) := ⟨_, rfl⟩
        rw [← hw4] at hSK c98 f98 c88b ⊢
        have hns : (s2.setK 5088 ((k : Int) + 1)).nconf = (k : Int) + 1 := rfl
        replace hns := Lib.hid hns
        clear c88 f88
        clear hw4
        go_cut [99] (fun v99 wx => wx = w4 ∧ ∃ d : Bool, v99 = .bool d ∧ (d = true → (FloatKind.f64.format.order dc 4606732058837280358 == some Ordering.lt) = true))
        case first =>
          as_aux_lemma =>
          by_cases hr : ((k : Int) + 1) % 5000 = 0
          · have hrb : (((k : Int) + 1) % 5000 == 0) = true := by rw [hr]; rfl
            replace hr := Lib.hid hr
            go_wp2_with fail
            go_meet
            exact ⟨rfl, _, rfl, fun h => h⟩
          · have hrb : (((k : Int) + 1) % 5000 == 0) = false := by simp [hr]
            replace hr := Lib.hid hr
            go_wp2_with fail
            go_meet
            exact ⟨rfl, _, rfl, fun h => by cases h⟩
        case rest =>
        obtain ⟨rfl, d, rfl, hd⟩ := hcut
        replace hd := Lib.hid hd
        go_upto_if 99 with fail
        go_cut [] (fun wx => ∃ (s' : St), SC F u0 nv jr lvl c s.nconf (s.nconf - N0) s0 w0 s' wx ∧ s'.nconf = (k : Int) + 1)
        case first =>
          as_aux_lemma =>
          cases d
          · go_wp2_with fail
            go_meet
            exact ⟨_, hSK.out, hns.out⟩
          · have hlt := hd.out rfl
            have hdn : dc ≠ 4606732058837280360 := fun e => by rw [e] at hlt; revert hlt; decide +kernel
            obtain ⟨rr, hrr, hrl⟩ := decay_next dc hdl.out hdn
            have hra : ∀ w t, (binOp .add t (.float .f64 dc) (.float .f64 4576918229304087675)).run Tryz.prog w = .ok (.float .f64 rr) w := fun w t => run_float_arith w .add t .f64 dc 4576918229304087675 rr hrr
            have hSD := hSK.out.sD rr hrl
            replace hSD := Lib.hid hSD
            replace hrl := Lib.hid hrl
            clear hdn hrr hd hlt
            go_wp2_with fail
            go_meet
            exact ⟨_, hSD.out, hns.out⟩
        case rest =>
        clear hSK hns c98 f98 c88b hdl hd
        obtain ⟨s4, hS4, hn4⟩ := hcut
        have hrep := hS4.bs.rep
        have c14 := hrep.sc hrep.hd.f14
        rw [hS4.bs.sb] at c14
        obtain ⟨tp, tcap, htv⟩ : ∃ tp tcap, s4.trailV = .slice tp s4.trail.length tcap := hrep.rows.shape .trail
        rw [htv] at c14
        have hcf := Lib.hid (fun q x => conflH_c (hS4.drewN q) x)
        replace hS4 := Lib.hid hS4
        replace htv := Lib.hid htv
        replace hn4 := Lib.hid hn4
        generalize s4.trail.length = tn at c14
        clear hrep
        go_upto_region 19 with fail
        refine wp_region_still_tail 8 (by kernel_rfl) (by kernel_rfl) ?_
        simp only [List.take_succ_cons, List.take_zero, List.drop_succ_cons, List.drop_zero]
        repeat still_step
        refine wpStill_nil ?_
        go_upto_if 124 with (first
          | (go_at_call 69; refine (hcf.out 1 _).mono ?_; rintro e w5 ⟨rfl, s5, hS5, hn5, hm5⟩; have hle := Lib.hid (learnS_c hS5); replace hS5 := Lib.hid hS5; replace hn5 := Lib.hid hn5; replace hm5 := Lib.hid hm5)
          | (go_at_call 70; refine hle.out.mono ?_; rintro e w6 hw6; rcases hw6 with ⟨l6, s6, rfl, hL6, hS6, hn6, hm6⟩ | ⟨c6, L6, x6, s6, rfl, hS6, hn6⟩ <;> replace hS6 := Lib.hid hS6))
        · as_aux_lemma =>
          have hl6n := (hL6.fl l6 (by simp)).2
          have hl6f := (hL6.fl l6 (by simp)).1
          have hl6t : s5.toMS.lev (l6 / 2) = lvl := hL6.top
          rw [← hm6] at hL6 hl6n hl6f hl6t
          have hNk : s6.nconf = s.nconf + 1 := by rw [hn6, hn5.out, hn4.out, hk.out]
          have hnv6 : s6.nv = nv := hS6.out.hc.nvs
          have h86 := hS6.out.hc.gp.n8
          have hl6m : l6 < s6.nv * 2 := hl6n
          have hrep := hS6.out.bs.rep
          have hsb6 := hS6.out.bs.sb
          have c15 := hrep.sc hrep.hd.f15
          unfold slV at c15
          rw [hsb6] at c15
          have g1 := hrep.val (v := l6 / 2) (by omega)
          obtain ⟨y, hy⟩ : ∃ y, y = s6.toMS.va (l6 / 2) := ⟨_, rfl⟩
          rw [show s6.va (l6 / 2) = s6.toMS.va (l6 / 2) from rfl, ← hy] at g1
          have hyl : y.natAbs = lvl := by rw [hy]; exact hl6t
          have hls : l6 < 2147483648 := by omega
          have k1 : (l6 : Int) / 2 < (s6.nv : Int) := by omega
          have k2 : (0 : Int) ≤ (l6 : Int) / 2 := by omega
          have k3 : ((l6 : Int) / 2).toNat = l6 / 2 := by omega
          have hl61 : ((l6 : Int) == -1) = false := beq_eq_false_iff_ne.2 (by omega)
          have ha := fun w => abs_c y w (by omega) (by omega)
          have hlit := Lib.hid (fun n => litStatus_c (hrep.drewN n) (l := l6) hl6m (by omega) 2 hl6f)
          rw [hsb6] at hlit
          have hlvp : (0 : Int) ≤ (lvl : Int) := by omega
          have hlvu : (lvl : Int) < 1000000 := by omega
          rw [hyl] at ha
          by_cases h1 : lvl = 1
          · have hyI : ((lvl : Int) == 1) = true := by rw [h1]; rfl
            have hun := Lib.hid (fun n => SC.unsat_c (by have := hS6.out.drewN n; rw [h1] at this; exact this))
            clear hcf hle htv hS4 hS5 hL6 hl6f hl6t hrep hy hyl h1 hl6n hm6
            go_upto_region 22 with fail
            go_quiet (first
              | (go_at_call 29; exact Calls.quiet_of_same (Var_c l6 _ hls))
              | (go_at_call 71; exact Calls.quiet_of_same (ha _))
              | (go_at_call 72; exact Calls.quiet_of (hlit.out _)))
            go_wp2_with (go_at_call 73; refine (hun.out _).mono ?_; rintro e w7 ⟨rfl, hU⟩)
            go_ret
            exact .inr (.inl ⟨rfl, hU⟩)
          · have hyI : ((lvl : Int) == 1) = false := by simp; omega
            have h2l : 2 ≤ lvl := by omega
            obtain ⟨n9, hn9⟩ := hrep.hd.f5087 5090 (by omega) (by omega) (by omega)
            have c90 := hrep.sc hn9
            have f90 := hrep.scf 5090
            rw [hsb6] at c90 f90
            simp only [i64] at c90
            replace hL6 := Lib.hid hL6
            replace hNk := Lib.hid hNk
            replace h2l := Lib.hid h2l
            replace hm6 := Lib.hid hm6
            clear hcf hle htv hS4 hS5 hl6f hl6t hrep hy hyl h1 hlit hn9 hl6n
            go_upto_region 22 with fail
            go_quiet (first
              | (go_at_call 29; exact Calls.quiet_of_same (Var_c l6 _ hls))
              | (go_at_call 71; exact Calls.quiet_of_same (ha _)))
            have hS7 := (hS6.out.drewN nq).sN 5090 (wrap64 (n9 + 1)) (.inl ⟨by omega, by omega, by omega⟩)
            have hlb7 := Lib.hid (lbdH_c hS7 1)
            have hm7 : (s6.setSc 5090 (i64 (wrap64 (n9 + 1)))).toMS = s6.toMS := rfl
            have hn7 : (s6.setSc 5090 (i64 (wrap64 (n9 + 1)))).nconf = s6.nconf := rfl
            replace hm7 := Lib.hid hm7
            replace hn7 := Lib.hid hn7
            clear hS7
            clear g1 ha hyI k1
            go_upto_region 26 with (go_at_call 74; refine hlb7.out.mono ?_; rintro e w8 ⟨rfl, s8, hS8, hn8, hm8⟩)
            have hun := Lib.hid (unitH_c (l := l6) (N0 := N0) hS8 (by rw [hn8, hn7.out, hNk.out]) (by rw [hn8, hn7.out, hNk.out]; omega) h2l.out (by rw [hm8, hm7.out]; exact hL6.out))
            have hn8' : s8.nconf = s.nconf + 1 := by rw [hn8, hn7.out, hNk.out]
            replace hn8' := Lib.hid hn8'
            clear hS8 hn8 hm8 hlb7 c15 c90 f90
            go_upto_region 28 with (first
              | (go_at_call 66; refine hun.out.mono ?_; rintro e w9 ⟨rfl, m9, s9, hS9, hn9⟩; have hlu := Lib.hid (SL.addLU_c hS9); replace hS9 := Lib.hid hS9; replace hn9 := Lib.hid hn9)
              | (go_at_call 75; refine hlu.out.mono ?_; rintro e w10 ⟨rfl, hS10⟩))
            have hn10 : (s9.setVal (l6 / 2) (sgn l6 1)).nconf = s.nconf + 1 := by show s9.nconf = _; rw [hn9.out, hn8'.out]
            generalize s9.setVal (l6 / 2) (sgn l6 1) = s10 at hS10 hn10
            have hrep := hS10.bs.rep
            have hsb10 := hS10.bs.sb
            have hnv10 : s10.nv = nv := hS10.hl.nvs
            have hl10 : l6 < nv * 2 := hS10.hl.ll
            have c15 := hrep.sc hrep.hd.f15
            unfold slV at c15
            rw [hsb10] at c15
            have g1 := hrep.val (v := l6 / 2) (by omega)
            have g2 := hrep.valf (l6 / 2)
            have k1 : (l6 : Int) / 2 < (s10.nv : Int) := by omega
            have hS11 := hS10.rt ((hrep.setVal (l6 / 2) (sgn l6 ((1 : Nat) : Int))).drew)
            have hsg := fun w => sgn_c l6 1 w hls (by omega) (by omega)
            have hn11 : (s10.setVal (l6 / 2) (sgn l6 ((1 : Nat) : Int))).nconf = s.nconf + 1 := hn10
            generalize s10.setVal (l6 / 2) (sgn l6 ((1 : Nat) : Int)) = s11 at hS11 hn11
            have hu11 := Lib.hid (unifyH_c hS11)
            replace hn11 := Lib.hid hn11
            clear hS11 hS10 hrep hn10 hn9 hlu hun hS9 hnv10
            refine wp_region_tail 8 (by kernel_rfl) (by kernel_rfl) ?_
            simp only [List.take_succ_cons, List.take_zero, List.drop_succ_cons, List.drop_zero]
            repeat first | still_step | still_call (Var_c l6 _ hls) | still_call (hsg _)
            refine wpStill_nil ?_
            go_upto_if 178 with (go_at_call 63; refine hu11.out.mono ?_; rintro e w12 hw12; rcases hw12 with ⟨rfl, s12, hS12, hn12, _⟩ | ⟨c12, s12, rfl, hS12, hn12⟩)
            · have hrq := Lib.hid hS12.requeue_c
              have hn12' : s12.nconf = s.nconf + 1 := by rw [hn12, hn11.out]
              replace hn12' := Lib.hid hn12'
              clear hn12 hS12 hu11
              go_wp2_with (first
                | (go_at_call 36; refine hrq.out.mono ?_; rintro e w13 ⟨rfl, s13, hS13, hn13, _⟩; have hch := Lib.hid (chooseH_c hS13); replace hS13 := Lib.hid hS13; replace hn13 := Lib.hid hn13)
                | (go_at_call 45; refine hch.out.mono ?_; rintro e w14 hw14; rcases hw14 with ⟨rfl, s14, hS14, hall14⟩ | ⟨l14, m14, s14, rfl, hS14, hn14, _⟩ <;> replace hS14 := Lib.hid hS14))
              · go_roundg 0
                case measure => have := pm_pos s; omega
                case rel => exact .inl ⟨jr, 1, s14, rfl, hS14.out, hall14⟩
              · go_roundg (pm s14)
                case measure =>
                  have := pm_conf (s := s) (s' := s14) rfl (by rw [hn14, hn13.out, hn12'.out]) (by rw [hk.out]; omega)
                  omega
                case rel => exact .inr ⟨jr, 1 + 1, l14, m14, s14, rfl, by go_num, hS14.out, Nat.le_refl _⟩
            · have hun := Lib.hid hS12.unsat_c
              clear hu11 hS12
              go_wp2_with (go_at_call 73; refine hun.out.mono ?_; rintro e w13 ⟨rfl, hU⟩)
              go_ret
              exact .inr (.inl ⟨rfl, hU⟩)
        · as_aux_lemma =>
          have hNk : s6.nconf = s.nconf + 1 := by rw [hn6, hn5.out, hn4.out, hk.out]
          have h8 := hS6.out.hc.gp.n8
          have hms := hS6.out.ms
          have hid : c6 ∈ s6.ids := by show c6 ∈ s6.toMS.ids; rw [hms]; exact List.mem_cons_self
          have hli : s6.lits c6 = L6 := by show s6.toMS.lits c6 = _; rw [hms]; exact addC_self
          have hW6 : Wf s6.toMS := by rw [hms]; exact hS6.out.wf1
          have h2 := hS6.out.h2
          have h12 := hS6.out.h12
          have hrep := hS6.out.bs.rep
          have hsb6 := hS6.out.bs.sb
          have hlen := Len_s hrep hW6 hid
          rw [hli] at hlen
          obtain ⟨n1, hn1⟩ := hrep.hd.f5087 5091 (by omega) (by omega) (by omega)
          have c91 := hrep.sc hn1
          have f91 := hrep.scf 5091
          rw [hsb6] at c91 f91
          simp only [i64] at c91
          have hS7 := hS6.out.sN 5091 (wrap64 (n1 + 1)) (.inl ⟨by omega, by omega, by omega⟩)
          have hn7 : (s6.setSc 5091 (i64 (wrap64 (n1 + 1)))).nconf = s6.nconf := rfl
          generalize s6.setSc 5091 (i64 (wrap64 (n1 + 1))) = s7 at hS7 hn7
          generalize L6.length = Ln at h2 h12 hlen
          replace hlen := Lib.hid hlen
          replace hS7 := Lib.hid hS7
          replace hn7 := Lib.hid hn7
          replace hNk := Lib.hid hNk
          clear hcf hle htv hS4 hS5 hms hid hli hW6 hrep hn1
          go_upto_if 187 with (go_at_call 50; refine Calls.ret hlen.out ?_)
          go_cut [] (fun wx => ∃ s', SN F u0 nv jr lvl c c6 L6 x6 s5.toMS s.nconf (s.nconf - N0) s0 w0 (s5.toMS.addC c6 L6 x6) s' wx ∧ s'.nconf = s.nconf + 1)
          case first =>
            as_aux_lemma =>
            by_cases e2 : Ln = 2
            · have e2I : ((Ln : Int) == 2) = true := by rw [e2]; rfl
              replace e2 := Lib.hid e2
              go_wp2_with fail
              go_meet
              exact ⟨s7, hS7.out, by rw [hn7.out, hNk.out]⟩
            · have e2I : ((Ln : Int) == 2) = false := beq_eq_false_iff_ne.2 (by omega)
              go_wp2_with fail
              go_meet
              exact ⟨s6, hS6.out, hNk.out⟩
          case rest =>
          obtain ⟨s7, hS7, hn7⟩ := hcut
          have hrep := hS7.bs.rep
          have hsb7 := hS7.bs.sb
          obtain ⟨n2, hn2⟩ := hrep.hd.f5087 5092 (by omega) (by omega) (by omega)
          have c92 := hrep.sc hn2
          have f92 := hrep.scf 5092
          rw [hsb7] at c92 f92
          simp only [i64] at c92
          have hS8 := hS7.sN 5092 (wrap64 (n2 + 1)) (.inl ⟨by omega, by omega, by omega⟩)
          have hn8 : (s7.setSc 5092 (i64 (wrap64 (n2 + 1)))).nconf = s.nconf + 1 := hn7
          generalize s7.setSc 5092 (i64 (wrap64 (n2 + 1))) = s8 at hS8 hn8
          clear hS7 hn7 hrep hsb7 hn2 hS6
          replace hS8 := Lib.hid hS8
          replace hn8 := Lib.hid hn8
          go_upto_region 38 with fail
          obtain ⟨w8, hw8⟩ : ∃ w8, w8 = wc.setCell ⟨s0.sb, 5092, none⟩ (.int .i64 (wrap64 (n2 + 1))) := ⟨_, rfl⟩
          rw [← hw8] at hS8 ⊢
          clear hw8 c92 f92 c91 f91
          have hms := hS8.out.ms
          have hid : c6 ∈ s8.ids := by show c6 ∈ s8.toMS.ids; rw [hms]; exact List.mem_cons_self
          have hwo : s8.word c6 = x6 := by show s8.toMS.word c6 = _; rw [hms]; show (if c6 = c6 then x6 else _) = _; rw [if_pos rfl]
          have hLW : LW x6 := ⟨x6 - 2147483648, by have := hS8.out.hx1; have := hS8.out.hx2; have := hS8.out.h12; omega, .inl (by have := hS8.out.hx1; omega)⟩
          have hcw := (hS8.out.bs.rep.drewN 1).clc hid (j := 1) rfl
          rw [hwo] at hcw
          have hlbd := lbdOf_c hcw hLW
          have hln := Lib.hid (fun y => lbdN_c (hS8.out.drewN 1) y)
          generalize lbdOf x6 = lb at hlbd
          replace hlbd := Lib.hid hlbd
          clear hms hid hwo hLW hcw
          refine wp_region_still_tail 5 (by kernel_rfl) (by kernel_rfl) ?_
          simp only [List.take_succ_cons, List.take_zero, List.drop_succ_cons, List.drop_zero]
          repeat first | still_step | still_call hlbd.out
          refine wpStill_nil ?_
          go_upto_region 40 with (first
            | (go_at_call 74; refine (hln.out _).mono ?_; rintro e w9 ⟨rfl, s9, hS9, hn9⟩; have had := Lib.hid (addH_c hS9); replace hS9 := Lib.hid hS9; replace hn9 := Lib.hid hn9)
            | (go_at_call 78; refine had.out.mono ?_; rintro e w10 ⟨rfl, s10, hS10, hn10⟩))
          have hn10' : s10.nconf = s.nconf + 1 := by rw [hn10, hn9.out, hn8.out]
          obtain ⟨b1, b2, b3, b4, b5, b6, b7⟩ := hS10.m2
          have hrep := hS10.bs.rep
          have hsb10 := hS10.bs.sb
          have c15 := hrep.sc hrep.hd.f15
          unfold slV at c15
          rw [hsb10, b3] at c15
          have hbk := backH_c hS10
          have hcl := learntH_c (N0 := N0) hS10 hn10' (by rw [hn10']; omega)
          obtain ⟨bt, hbt⟩ : ∃ bt, bt = s5.toMS.lev (nth L6 1 / 2) := ⟨_, rfl⟩
          obtain ⟨l0, hl0⟩ : ∃ l0, l0 = nth L6 0 := ⟨_, rfl⟩
          rw [← hbt, ← hl0] at hbk
          rw [← hbt] at hcl
          generalize s10.modelB = mB at c15 hbk
          replace hbk := Lib.hid hbk
          replace hcl := Lib.hid hcl
          replace hbt := Lib.hid hbt
          replace hl0 := Lib.hid hl0
          replace hn10' := Lib.hid hn10'
          clear hln hS9 hn9 hn10 b1 b2 b3 b4 b5 b6 b7 hrep had hS10
          go_upto_region 42 with (first
            | (go_at_call 79; refine Calls.ret hbk.out ?_)
            | (go_at_call 66; refine hcl.out.mono ?_; rintro e w11 ⟨rfl, s11, m11, hB11, hid11, hnv11, hwd11, hl11, hfin⟩))
          rw [← hl0.out] at hl11
          have hls : l0 < 2147483648 := by omega
          have hrep := hB11.rep
          have hsb11 := hB11.sb
          have c20 := hrep.sc hrep.hd.f20
          unfold slV at c20
          rw [hsb11, hnv11] at c20
          have g1 := hrep.rsn (v := l0 / 2) (by omega)
          have g2 := hrep.rsnf (l0 / 2)
          have t1 := Lib.hid ((hrep.setRsn (l0 / 2) (some c6)).drew)
          have k1 : (l0 : Int) / 2 < (nv : Int) := by omega
          have k2 : (0 : Int) ≤ (l0 : Int) / 2 := by omega
          have k3 : ((l0 : Int) / 2).toNat = l0 / 2 := by omega
          replace hfin := Lib.hid hfin
          replace hid11 := Lib.hid hid11
          replace hwd11 := Lib.hid hwd11
          replace hB11 := Lib.hid hB11
          clear hcl hbk hrep c15
          refine wp_region_tail 7 (by kernel_rfl) (by kernel_rfl) ?_
          simp only [List.take_succ_cons, List.take_zero, List.drop_succ_cons, List.drop_zero]
          repeat first | still_step | still_call (Var_c l0 _ hls)
          refine wpStill_nil ?_
          go_wp2_with (go_at_call 80; refine (lock_s t1.out.rep hid11.out hwd11.out).mono ?_; rintro e w12 ⟨rfl, t2⟩; replace t2 := Lib.hid t2)
          obtain ⟨hS12, hn12⟩ := hfin.out _ w12 (t1.out.trans t2.out) (by rw [hl0.out]; rfl)
          rw [← hbt.out, ← hl0.out] at hS12
          go_roundg (pm ((s11.setRsn (l0 / 2) (some c6)).lockC c6))
          case measure =>
            have := pm_conf (s := s) (s' := (s11.setRsn (l0 / 2) (some c6)).lockC c6) rfl (by rw [hn12, hn10'.out]) (by rw [hk.out]; omega)
            omega
          case rel => exact .inr ⟨jr, bt, l0, m11, _, rfl, rfl, hS12, Nat.le_refl _⟩
end
end Go.Proofs.YtiimddkopiknpaaGreatDoor
