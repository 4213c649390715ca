/-
  Bindings are taken back; what the search keeps.
-/
import Derived.Test.YtiimddkopiknpaaGreatDoorB16
import Derived.Test.YtiimddkopiknpaaGreatDoorB12
import Derived.Test.YtiimddkopiknpaaGreatDoorB05
import Derived.Deep.CutBlock
import Derived.Test.YtiimddkopiknpaaGreatDoorB11
import Derived.Test.YtiimddkopiknpaaGreatDoorB14
set_option linter.unusedVariables false
set_option linter.unusedSimpArgs false

/-
  cleanupBindings, the walk.
-/
namespace Go.Proofs.YtiimddkopiknpaaGreatDoor
open Go.RowKit

def CRel (s : St) (w : World) (i : Nat) (v5 v6 : Value) (wr : World) : Prop := ∃ (j m : Nat) (T : List Nat) (t : St), v6 = .int .i64 (j : Int) ∧ v5 = .slice (some ⟨s.tbufB, 0, none⟩) m s.nv ∧ i ≤ j ∧ j ≤ s.trail.length ∧ CPv s i j t ∧ CPq s i j t ∧ CPt s i j m T t ∧ CT s w t wr
/-- behind the loop: the rest is to be put in once more -/
def CRel2 (s : St) (w : World) (i m : Nat) (T : List Nat) (t0 : St) (v9 : Value) (wr : World) : Prop := ∃ (z : Int) (t : St), v9 = .int .i64 z ∧ -1 ≤ z ∧ z < m ∧ CT s w t wr ∧ QI s.nv t.qc t.qi ∧ t.qi.length = s.nv ∧ (t.qc.length : Int) ≤ t0.qc.length + (m - 1 - z) ∧ (∀ u ∈ t0.qc, u ∈ t.qc) ∧
  t.toMS = t0.toMS ∧ t.tbuf = t0.tbuf

/-- what cleanupBindings leaves -/
structure CBP (s : St) (w : World) (lvl i : Nat) (s' : St) (w' : World) : Prop where
  il : i ≤ s.trail.length
  lo : ∀ j, j < i → s.toMS.lev (nth s.trail j / 2) ≤ lvl
  hi : ∀ j, i ≤ j → j < s.trail.length → lvl < s.toMS.lev (nth s.trail j / 2)
  ct : CT s w s' w'
  trail : s'.trail = s.trail.take i
  off : ∀ k, i ≤ k → k < s.trail.length → s'.toMS.va (nth s.trail k / 2) = 0 ∧ s'.toMS.ra (nth s.trail k / 2) = none
  on : ∀ v, (∀ k, i ≤ k → k < s.trail.length → nth s.trail k / 2 ≠ v) → s'.toMS.va v = s.toMS.va v ∧ s'.toMS.ra v = s.toMS.ra v
  wk : ∀ c, s'.word c = s.word c ∨ (s'.word c = s.word c &&& 3221225471 ∧ ∃ k, i ≤ k ∧ k < s.trail.length ∧ s.toMS.ra (nth s.trail k / 2) = some c)
  q : QI s.nv s'.qc s'.qi
  qil : s'.qi.length = s.nv
  qcl : s'.qc.length ≤ s.qc.length + 2 * (s.trail.length - i)
  mem : ∀ u ∈ s.qc, u ∈ s'.qc
  memn : ∀ k, i ≤ k → k < s.trail.length → nth s.trail k / 2 ∈ s'.qc
def CBPost (s : St) (w : World) (lvl : Nat) (e : Ending) (w' : World) : Prop := e = .returned (.tuple #[]) ∧ ∃ i s', CBP s w lvl i s' w'

set_option maxRecDepth 100000 in
set_option maxHeartbeats 8000000 in
theorem cleanup_c {s : St} {w : World} (h : Rep s w) {u0 lv0 lvl : Nat} (hC : Core u0 lv0 s.toMS) (hl1 : 1 ≤ lvl) (hl2 : lvl < 1000000) (hlv0 : lv0 < 1000000) (hQ : QI s.nv s.qc s.qi) (hqil : s.qi.length = s.nv) (hb : s.qc.length ≤ 80000000) (hnv : s.nv ≤ 1000)
    (hu0 : ∀ i, i < u0 → s.toMS.lev (nth s.trail i / 2) ≤ lvl) (htl : 0 < s.trail.length) (htb : s.trail.length ≤ 1000000) :
    Calls Tryz.prog 66 #[.pointer (some ⟨s.sb, 0, none⟩), .int .i64 (lvl : Int)] w (CBPost s w lvl) := by
  obtain ⟨iN, hiN, hz0, hz1, hz2⟩ := info_parts infoInt
  have hT := hC.tl
  have hW := hC.wf
  obtain ⟨tb, tc, ht1, ht2, _, _⟩ := h.rows.open .trail (by show 0 < s.trail.length; exact htl)
  have ht1 : s.trailV = .slice (some ⟨tb, 0, none⟩) s.trail.length tc := ht1
  have f14 := h.sc h.hd.f14
  rw [ht1] at f14
  have f15 := h.sc h.hd.f15
  unfold slV at f15
  have ftr : ∀ j, j < s.trail.length → w.cell? ⟨tb, j, none⟩ = some (.int .i32 (nth s.trail j : Nat)) := fun j hj => h.rows.cell .trail ht2 (getElem?_map_getD i32 s.trail 0 j hj)
  have hva : ∀ v, v < s.nv → (s.toMS.va v).natAbs < 1000000 := by
    intro v hv
    by_cases e : s.toMS.va v = 0
    · rw [e]; decide
    · obtain ⟨i, h1, h2⟩ := hT.on v hv e
      have := hT.top i h1
      rw [h2] at this
      show s.toMS.lev v < _
      omega
  obtain ⟨tl, htle⟩ : ∃ tl, tl = s.trail.length := ⟨_, rfl⟩
  rw [← htle] at f14 htl htb
  replace hva := Lib.hid hva
  replace hC := Lib.hid hC
  replace hT := Lib.hid hT
  replace hW := Lib.hid hW
  replace hQ := Lib.hid hQ
  replace ftr := Lib.hid ftr
  replace hu0 := Lib.hid hu0
  replace ht1 := Lib.hid ht1
  replace htle := Lib.hid htle
  replace hqil := Lib.hid hqil
  replace ht2 := Lib.hid ht2
  go_enter Tryz.func66, Tryz.ntmps66
  go_upto_block 0 with fail
  go_cut [4] (fun v4 wx => ∃ i : Nat, v4 = .int .i64 (i : Int) ∧ i ≤ tl ∧ (∀ j, j < i → s.toMS.lev (nth s.trail j / 2) ≤ lvl) ∧ (i < tl → lvl < s.toMS.lev (nth s.trail i / 2)) ∧ ∃ q, wx = w.drewN q)
  case first =>
    go_wp2_with fail
    go_loopw [4] (fun v4 wx => ∃ i : Nat, v4 = .int .i64 (i : Int) ∧ i ≤ tl ∧ (∀ j, j < i → s.toMS.lev (nth s.trail j / 2) ≤ lvl) ∧ ∃ q, wx = w.drewN q) (fun v4 _ => tl - (intOf v4).toNat)
    case atStart => exact ⟨0, rfl, Nat.zero_le _, fun j hj => by omega, 0, rfl⟩
    case round =>
      obtain ⟨i, rfl, hi, hlo, q, hwr⟩ := hrel
      have f14 : wr.cell? ⟨s.sb, 14, none⟩ = some (.slice (some ⟨tb, 0, none⟩) tl tc) := by rw [hwr]; exact f14
      have f15 : wr.cell? ⟨s.sb, 15, none⟩ = some (.slice (some ⟨s.modelB, 0, none⟩) s.nv s.nv) := by rw [hwr]; exact f15
      have hwr2 : ∀ n, ∃ q, wr.drewN n = w.drewN q := fun n => ⟨q + n, by rw [hwr]; simp [World.drewN, Nat.add_assoc]⟩
      replace hwr := Lib.hid hwr
      replace hwr2 := Lib.hid hwr2
      replace hlo := Lib.hid hlo
      by_cases hlt : i < tl
      · have hltI : (i : Int) < (tl : Int) := by omega
        have ft : wr.cell? ⟨tb, i, none⟩ = some (.int .i32 (nth s.trail i : Nat)) := by rw [hwr.out]; exact ftr.out i (by rw [← htle.out]; exact hlt)
        have hxl := hW.out.tr i (by show i < s.trail.length; rw [← htle.out]; exact hlt)
        have hlev : s.toMS.lev (nth s.trail i / 2) = (s.toMS.va (nth s.trail i / 2)).natAbs := rfl
        have g1 : wr.cell? ⟨s.modelB, nth s.trail i / 2, none⟩ = some (.int .i64 (s.va (nth s.trail i / 2))) := by rw [hwr.out]; exact h.val (v := nth s.trail i / 2) (by have : nth s.trail i < s.nv * 2 := hxl; omega)
        rw [show s.va (nth s.trail i / 2) = s.toMS.va (nth s.trail i / 2) from rfl] at g1
        have hva1 := hva.out (nth s.trail i / 2) (by have : nth s.trail i < s.nv * 2 := hxl; omega)
        have hxl : nth s.trail i < s.nv * 2 := hxl
        obtain ⟨x, hx⟩ : ∃ x, x = nth s.trail i := ⟨_, rfl⟩
        rw [← hx] at ft hxl hlev g1 hva1
        obtain ⟨y, hy⟩ : ∃ y, y = s.toMS.va (x / 2) := ⟨_, rfl⟩
        rw [← hy] at g1 hva1 hlev
        have hxs : x < 2147483648 := by omega
        have k1 : (x : Int) / 2 < (s.nv : Int) := by omega
        have k2 : (0 : Int) ≤ (x : Int) / 2 := by omega
        have k3 : ((x : Int) / 2).toNat = x / 2 := by omega
        have ha := fun w => abs_c y w (by omega) (by omega)
        replace hx := Lib.hid hx
        replace hy := Lib.hid hy
        replace hlev := Lib.hid hlev
        by_cases hc : y.natAbs ≤ lvl
        · have hcI : ((y.natAbs : Int) ≤ (lvl : Int)) := by omega
          go_upto_region 1 with fail
          go_quiet (first
            | (go_at_call 29; exact Calls.quiet_of_same (Var_c x _ hxs))
            | (go_at_call 71; exact Calls.quiet_of_same (ha _)))
          go_wp2_with fail
          refine ⟨⟨i + 1, by go_num, hlt, fun j hj => ?_, hwr2.out nq⟩, by simp [intOf]; omega⟩
          by_cases e : j = i
          · rw [e, ← hx.out, hlev.out]; exact hc
          · exact hlo.out j (by omega)
        · have hcI : ¬ ((y.natAbs : Int) ≤ (lvl : Int)) := by omega
          go_upto_region 1 with fail
          go_quiet (first
            | (go_at_call 29; exact Calls.quiet_of_same (Var_c x _ hxs))
            | (go_at_call 71; exact Calls.quiet_of_same (ha _)))
          go_wp2_with fail
          go_meet
          exact ⟨i, rfl, hi, hlo.out, fun _ => by rw [← hx.out, hlev.out]; omega, hwr2.out nq⟩
      · have hltI : ¬ ((i : Int) < (tl : Int)) := by omega
        go_upto_region 1 with fail
        go_quiet (fail)
        go_wp2_with fail
        go_meet
        exact ⟨i, rfl, hi, hlo.out, fun h => by omega, hwr2.out nq⟩
  case rest =>
    obtain ⟨i, rfl, hi, hlo, hhi1, q0, rfl⟩ := hcut
    have hlen : tl ≤ i + s.nv := by
      have h1 := hC.out.bound
      have h2 : u0 ≤ i := by
        apply Classical.byContradiction
        intro hn
        have h3 := hhi1 (by have h4 := hC.out.u0l; have : s.toMS.trail.length = tl := htle.out.symm; omega)
        have h4 := hu0.out i (by omega)
        omega
      have : s.toMS.trail.length = tl := htle.out.symm
      have : s.toMS.nv = s.nv := rfl
      omega
    have hhi : ∀ j, i ≤ j → j < tl → lvl < s.toMS.lev (nth s.trail j / 2) := by
      intro j h1 h2
      have h3 := hhi1 (by omega)
      have h4 := hT.out.mono i j h1 (by show j < s.trail.length; rw [← htle.out]; exact h2)
      have : s.toMS.trail = s.trail := rfl
      rw [this] at h4
      omega
    have hdist : ∀ j k, i ≤ k → k < j → j < tl → nth s.trail k / 2 ≠ nth s.trail j / 2 := by
      intro j k h1 h2 h3 e
      have h4 := hhi k h1 (by omega)
      have := hT.out.uni k j (by show k < s.trail.length; rw [← htle.out]; omega) (by show j < s.trail.length; rw [← htle.out]; exact h3) e (by show 2 ≤ s.toMS.lev (nth s.trail k / 2); omega)
      omega
    have hR := h.drewN q0
    have f5099 := hR.sc hR.hd.f5099
    unfold slV at f5099
    have hstart : CRel s w i (.slice (some ⟨s.tbufB, 0, none⟩) 0 s.nv) (.int .i64 (i : Int)) (w.drewN q0) :=
      ⟨i, 0, [], s, rfl, rfl, Nat.le_refl _, by rw [← htle.out]; exact hi, CPv.start s i, ⟨hQ.out, hqil.out, Nat.le_add_right _ _, fun u hu => hu, fun k h1 h2 => by omega⟩, ⟨rfl, Nat.zero_le _, (fun v hv => by simp at hv), fun k hk => by omega⟩, (CT.refl h).drewN q0⟩
    replace hlo := Lib.hid hlo
    replace hhi := Lib.hid hhi
    replace hdist := Lib.hid hdist
    replace hhi1 := Lib.hid hhi1
    replace hstart := Lib.hid hstart
    clear hR f14 f15
    go_upto_block 2 with fail
    go_cut [5] (fun v5 wx => ∃ (m : Nat) (T : List Nat) (t : St), v5 = .slice (some ⟨s.tbufB, 0, none⟩) m s.nv ∧ CPv s i tl t ∧ CPq s i tl t ∧ CPt s i tl m T t ∧ CT s w t wx)
    case first =>
      go_wp2_with fail
      go_loopg [5, 6] (tl - i) (fun k v5 v6 wr => CRel s w i v5 v6 wr ∧ ∃ j : Nat, v6 = .int .i64 (j : Int) ∧ k = tl - j)
      case atStart => exact ⟨hstart.out, i, rfl, rfl⟩
      case round =>
        clear hstart
        obtain ⟨⟨j, m, T, t, rfl, rfl, hij, hjl, hv, hq, ht, hct⟩, j', hj', hgk⟩ := hrel
        have : j' = j := by injection hj' with _ e; omega
        subst this
        rw [← htle.out] at hjl
        have hR := hct.rep
        have hsb := hct.sb
        have hnv' := hct.nv
        have htr : t.trail = s.trail := hv.trail
        obtain ⟨tb', tc', hu1, hu2, _, _⟩ := hR.rows.open .trail (by show 0 < t.trail.length; rw [htr, ← htle.out]; exact htl)
        have hu1 : t.trailV = .slice (some ⟨tb', 0, none⟩) t.trail.length tc' := hu1
        have f14 := hR.sc hR.hd.f14
        rw [hu1, htr, ← htle.out, hsb] at f14
        by_cases hlt : j' < tl
        · have hltI : (j' : Int) < (tl : Int) := by omega
          have hjs : j' < s.trail.length := by rw [← htle.out]; exact hlt
          have hxl : nth s.trail j' < s.nv * 2 := hW.out.tr j' hjs
          have ft := hR.rows.cell .trail hu2 (getElem?_map_getD i32 t.trail 0 j' (by rw [htr]; exact hjs))
          rw [show (t.trail.getD j' 0) = nth s.trail j' from by rw [htr]; rfl] at ft
          simp only [i32] at ft
          have hd : ∀ k, i ≤ k → k < j' → nth s.trail k / 2 ≠ nth s.trail j' / 2 := fun k h1 h2 => hdist.out j' k h1 h2 hlt
          have hvl : nth s.trail j' / 2 < t.val.length := by rw [hR.val_len, hnv']; omega
          have hrl : nth s.trail j' / 2 < t.rsn.length := by rw [hR.rsn_len, hnv']; omega
          have hfree := fun hr => hv.free hij hvl hd hr
          have hundo := fun (c : Nat) hr => hv.undo (c := c) hij hvl hrl hd hr
          have hrs := (hv.on _ hd).2
          have hqk := fun hg => hq.keep hij (by omega) hg
          have hqi := fun (t' : St) => hq.ins (t' := t') hij
          have hmle := ht.le
          have hm1 : m + 1 ≤ s.nv := by omega
          obtain ⟨x, hx⟩ : ∃ x, x = nth s.trail j' := ⟨_, rfl⟩
          rw [← hx] at hxl ft hd hvl hrl hfree hundo hrs hqk hqi
          have f15 := hR.sc hR.hd.f15
          rw [hsb, hnv'] at f15
          unfold slV at f15
          have g1 := hR.val (v := x / 2) (by rw [hnv']; omega)
          have g1f := hR.valf (x / 2)
          have u1 := hR.setValC (x / 2) 0
          have hxs : x < 2147483648 := by omega
          have k1 : (x : Int) / 2 < (s.nv : Int) := by omega
          have k2 : (0 : Int) ≤ (x : Int) / 2 := by omega
          have k3 : ((x : Int) / 2).toNat = x / 2 := by omega
          have hwb : ∀ c, t.word c < 4294967296 ∨ s.word c < 4294967296 → t.word c < 4294967296 := by
            intro c h'
            rcases h' with h' | h'
            · exact h'
            · rcases hv.wk c with e | ⟨e, _⟩
              · rw [e]; exact h'
              · rw [e]; exact Nat.lt_of_le_of_lt Nat.and_le_left h'
          replace hx := Lib.hid hx
          replace hv := Lib.hid hv
          replace hq := Lib.hid hq
          replace ht := Lib.hid ht
          replace hct := Lib.hid hct
          replace hd := Lib.hid hd
          replace hfree := Lib.hid hfree
          replace hundo := Lib.hid hundo
          replace hqk := Lib.hid hqk
          replace hqi := Lib.hid hqi
          replace hwb := Lib.hid hwb
          replace hsb := Lib.hid hsb
          replace hrs := Lib.hid hrs
          replace hgk := Lib.hid hgk
          clear hj' hu1 hu2 htr hR
          go_upto_region 10 with (go_at_call 29; refine Calls.ret (Var_c x _ hxs) ?_)
          have hc1 := hct.out.trans u1
          obtain ⟨w1, hw1⟩ : ∃ w1, w1 = wr.setCell ⟨t.modelB, x / 2, none⟩ (.int .i64 0) := ⟨_, rfl⟩
          rw [← hw1] at u1 hc1 ⊢
          clear hw1 f14 ft f15 g1 g1f
          have hR1 := u1.rep
          have f20 := hR1.sc hR1.hd.f20
          rw [u1.sb, hsb.out, u1.nv, hnv'] at f20
          unfold slV at f20
          have g20 := hR1.rsn (v := x / 2) (by rw [u1.nv, hnv']; omega)
          have g20f := hR1.rsnf (x / 2)
          have era : (t.setVal (x / 2) 0).ra (x / 2) = t.toMS.ra (x / 2) := rfl
          rw [era] at g20
          clear era
          replace u1 := Lib.hid u1
          replace hc1 := Lib.hid hc1
          go_cut [75] (fun v75 wx => v75 = .bool (t.toMS.ra (x / 2)).isSome ∧ wx = w1)
          case first =>
            cases hr : t.toMS.ra (x / 2) with
            | none =>
              rw [hr] at g20
              simp only [ptrV, Option.map_none] at g20
              go_wp2_with fail
              go_meet
              exact ⟨by rw [hr]; rfl, rfl⟩
            | some c =>
              rw [hr] at g20
              simp only [ptrV, Option.map_some] at g20
              go_wp2_with fail
              go_meet
              exact ⟨by rw [hr]; rfl, rfl⟩
          case' rest =>
            obtain ⟨rfl, hwc⟩ := hcut
            rw [hwc]
            clear hwc
          go_upto_if 75 with fail
          go_cut [] (fun wx => ∃ t2, CT s w t2 wx ∧ CPv s i (j' + 1) t2 ∧ CPq s i j' t2 ∧ CPt s i j' m T t2)
          case first =>
            cases hr : t.toMS.ra (x / 2) with
            | none =>
              rw [hr] at g20
              simp only [ptrV, Option.map_none] at g20
              simp only [Option.isSome_none]
              have hf := hfree.out hr
              replace hf := Lib.hid hf
              clear hr
              go_wp2_with fail
              go_meet
              exact ⟨_, hc1.out, hf.out, hq.out.congr rfl rfl, ⟨ht.out.len, ht.out.le, ht.out.lt, ht.out.at_⟩⟩
            | some c =>
              rw [hr] at g20
              simp only [ptrV, Option.map_some] at g20
              simp only [Option.isSome_some]
              have hf := hundo.out c hr
              have hcid : c ∈ s.ids := hC.out.rid (v := x / 2) (by show x / 2 < s.nv; omega) (by rw [← hrs.out]; exact hr)
              have hcid1 : c ∈ (t.setVal (x / 2) 0).ids := by show c ∈ t.ids; rw [hct.out.ids]; exact hcid
              have cw := hR1.clc hcid1 (j := 1) rfl
              have cf := hR1.clf hcid1 1
              have hww := hwb.out c (.inr (hW.out.word c hcid))
              have hU := Unlock_c cw cf hww
              have u2 := hR1.setWordC hcid1 (t.word c &&& 3221225471)
              have hwe : (t.setVal (x / 2) 0).word c = t.word c := rfl
              rw [hwe] at hU
              replace hU := Lib.hid hU
              replace hf := Lib.hid hf
              clear hr cw cf hwe
              go_upto_region 12 with (go_at_call 93; refine hU.out.mono ?_; rintro e w' ⟨rfl, rfl⟩)
              obtain ⟨w2, hw2⟩ : ∃ w2, w2 = w1.setCell ⟨c, 1, none⟩ (.int .u32 ((t.word c &&& 3221225471 : Nat) : Int)) := ⟨_, rfl⟩
              rw [← hw2] at u2 ⊢
              clear hw2 f20 g20 g20f
              have hR2 := u2.rep
              have f20 := hR2.sc hR2.hd.f20
              rw [u2.sb, u1.out.sb, hsb.out, u2.nv, u1.out.nv, hnv'] at f20
              unfold slV at f20
              have g20 := hR2.rsn (v := x / 2) (by rw [u2.nv, u1.out.nv, hnv']; omega)
              have g20f := hR2.rsnf (x / 2)
              have u3 := (hc1.out.trans u2).trans (hR2.setRsnC (x / 2) none)
              replace u2 := Lib.hid u2
              replace u3 := Lib.hid u3
              clear hR2
              go_wp2_with fail
              go_meet
              exact ⟨_, u3.out, hf.out, hq.out.congr rfl rfl, ⟨ht.out.len, ht.out.le, ht.out.lt, ht.out.at_⟩⟩
          case rest =>
            clear hR1 f20 g20 g20f u1 hc1 hfree hundo hwb hrs hv hq ht
            obtain ⟨t2, hc2, hv2, hq2, ht2⟩ := hcut
            have hR2 := hc2.rep
            have hsb2 := hc2.sb
            have hnv2 := hc2.nv
            have f18 := hR2.sc hR2.hd.f18
            rw [hsb2, hnv2] at f18
            unfold slV at f18
            have hpl : t2.polL.length = s.nv := by rw [hR2.pol_len]; exact hnv2
            have gp := hR2.rows.cell .pol (b := t2.polB) rfl (getElem?_map_getD Value.bool t2.polL false (x / 2) (by rw [hpl]; omega))
            have gpf := hR2.rows.frozen .pol (b := t2.polB) rfl (x / 2)
            have u4 := (hR2.setPol (x / 2) (decide (x % 2 = 0))).drew
            have hp := fun w => Pos_c x w hxs
            generalize t2.polL.getD (x / 2) false = pv at gp
            replace hv2 := Lib.hid hv2
            replace hq2 := Lib.hid hq2
            replace ht2 := Lib.hid ht2
            replace hc2 := Lib.hid hc2
            clear hpl hR2
            go_upto_region 13 with fail
            refine wp_region_tail 7 (by kernel_rfl) (by kernel_rfl) ?_
            simp only [List.take_succ_cons, List.take_zero, List.drop_succ_cons, List.drop_zero]
            repeat first | still_step | still_call (hp _)
            refine wpStill_nil ?_
            go_upto_region 14 with fail
            obtain ⟨w4, hw4⟩ : ∃ w4, w4 = (wc.setCell ⟨t2.polB, x / 2, none⟩ (.bool (decide (x % 2 = 0)))).drew := ⟨_, rfl⟩
            rw [← hw4] at u4 ⊢
            clear hw4 gp gpf f18
            have hc4 := hc2.out.trans u4
            obtain ⟨t4, ht4⟩ : ∃ t4, t4 = t2.setPol (x / 2) (decide (x % 2 = 0)) := ⟨_, rfl⟩
            have e1 : t4.val = t2.val ∧ t4.rsn = t2.rsn ∧ t4.trail = t2.trail ∧ t4.word = t2.word ∧ t4.qc = t2.qc ∧ t4.qi = t2.qi ∧ t4.tbuf = t2.tbuf := by rw [ht4]; exact ⟨rfl, rfl, rfl, rfl, rfl, rfl, rfl⟩
            rw [← ht4] at hc4
            have hv4 := hv2.out.congr e1.1 e1.2.1 e1.2.2.1 e1.2.2.2.1
            have hq4 := hq2.out.congr e1.2.2.2.2.1 e1.2.2.2.2.2.1
            have ht4' : CPt s i j' m T t4 := ⟨ht2.out.len, ht2.out.le, ht2.out.lt, by rw [e1.2.2.2.2.2.2]; exact ht2.out.at_⟩
            clear ht4 e1 hv2 hq2 ht2 hc2 u4 hsb2 hnv2
            have hR4 := hc4.rep
            have hCn := contains_c (v := x / 2) (hR4.queue (by rw [hq4.qil]; have := hW.out.nv0; have : s.toMS.nv = s.nv := rfl; omega)) hR4.rows (by rw [hq4.qil]; omega) (by omega)
            rw [hc4.sb] at hCn
            have hcast : ((x / 2 : Nat) : Int) = (x : Int) / 2 := by omega
            rw [hcast, hq4.qil] at hCn
            have hw32 : IntKind.i64.wrap ((x : Int) / 2) = (x : Int) / 2 := IntWalk.i64_in _ (by omega)
            replace hCn := Lib.hid hCn
            replace hv4 := Lib.hid hv4
            replace ht4' := Lib.hid ht4'
            replace hc4 := Lib.hid hc4
            replace hq4 := Lib.hid hq4
            clear hcast
            by_cases hg : 0 ≤ gi t4.qi (x / 2)
            · have hq5 : CPq s i (j' + 1) t4 := by
                have := hq4.out.keep hij (by rw [← hx.out]; omega) (by rw [← hx.out]; exact hg)
                exact this
              have hdg : decide (x / 2 < s.nv ∧ 0 ≤ gi t4.qi (x / 2)) = true := by simp [hg]; omega
              rw [hdg] at hCn
              replace hq5 := Lib.hid hq5
              clear hdg hR4
              go_wp2_with (go_at_call 94; refine Calls.ret hCn.out ?_)
              go_roundg (tl - (j' + 1))
              case measure => have := hgk.out; omega
              case rel => exact ⟨⟨j' + 1, m, T, t4, by go_num, rfl, by omega, hjs, hv4.out, hq5.out, ⟨ht4'.out.len, by have := ht4'.out.le; omega, ht4'.out.lt, ht4'.out.at_⟩, hc4.out⟩, j' + 1, by go_num, rfl⟩
            · have hdg : decide (x / 2 < s.nv ∧ 0 ≤ gi t4.qi (x / 2)) = false := by simp [hg]
              rw [hdg] at hCn
              clear hdg
              have etb : t4.tbufB = s.tbufB := by have := congrArg (fun s : St => s.tbufB) hc4.out.same; simpa [St.noC] using this
              have hRA := hR4.alloc (.cells #[.int .i64 ((x : Int) / 2)] 3)
              obtain ⟨nb, hnb, hnb2⟩ := hRA.tbc (j := m) (by rw [hc4.out.nv]; omega)
              have fnb := hRA.rows.frozen .tbuf (b := t4.tbufB) rfl m
              have u5 := (hc4.out.alloc (.cells #[.int .i64 ((x : Int) / 2)] 3)).trans (hRA.setTb m ((x : Int) / 2))
              rw [etb] at hnb fnb u5
              replace u5 := Lib.hid u5
              clear hR4 hRA
              go_upto_region 15 with (go_at_call 94; refine Calls.ret hCn.out ?_)
              go_wp2_with (at_builtin; apply keepHid)
              refine Lib.hid ?_
              refine wpList_append_room rfl _ _ 34 rfl 3 iN Tryz.underlying34 hiN hz1 s.tbufB m s.nv rfl ⟨w4.heap.size, 0, none⟩ 1 (.int .i64 ((x : Int) / 2)) rfl (cell_new_one _ _ _ _ (by simp) 0 _ rfl) rfl hm1 ?_ ?_ ?_
              · exact Option.isSome_iff_exists.2 ⟨_, hnb⟩
              · exact fnb
              go_upto_region 16 with fail
              obtain ⟨w5, hw5⟩ : ∃ w5, w5 = (w4.alloc (.cells #[.int .i64 ((x : Int) / 2)] 3)).setCell ⟨s.tbufB, m, none⟩ (.int .i64 ((x : Int) / 2)) := ⟨_, rfl⟩
              rw [← hw5] at u5 ⊢
              clear hw5 hnb fnb
              obtain ⟨t5, ht5⟩ : ∃ t5, t5 = t4.setTb m (i64 ((x : Int) / 2)) := ⟨_, rfl⟩
              have e5 : t5.val = t4.val ∧ t5.rsn = t4.rsn ∧ t5.trail = t4.trail ∧ t5.word = t4.word ∧ t5.qc = t4.qc ∧ t5.qi = t4.qi ∧ t5.tbuf = t4.tbuf.set m (i64 ((x : Int) / 2)) := by rw [ht5]; exact ⟨rfl, rfl, rfl, rfl, rfl, rfl, rfl⟩
              rw [← ht5] at u5
              clear ht5
              have hR5 := u5.out.rep
              have hIn := insert_s hR5 (v := x / 2) (by rw [u5.out.nv, e5.2.2.2.2.1, e5.2.2.2.2.2.1]; exact hq4.out.q) (by rw [u5.out.nv]; omega) (by rw [u5.out.nv, e5.2.2.2.2.2.1]; exact hq4.out.qil) (by rw [e5.2.2.2.2.1]; have := hq4.out.qcl; have : s.nv ≤ 1000 := hnv; omega) (by rw [u5.out.nv]; omega)
              rw [u5.out.sb, show ((x / 2 : Nat) : Int) = (x : Int) / 2 by omega] at hIn
              have hnext : ∀ w', (∃ s', QT t5 w5 s' w' ∧ s'.qc.Perm (t5.qc ++ [x / 2]) ∧ s'.qi.length = t5.nv ∧ QI t5.nv s'.qc s'.qi) → CRel s w i (.slice (some ⟨s.tbufB, 0, none⟩) (m + 1) s.nv) (.int .i64 ((j' : Int) + 1)) w' := by
                rintro w' ⟨t6, k1, k2, k3, k4⟩
                have em := k1.ms
                have etb6 : t6.tbuf = t5.tbuf := by have := congrArg (fun s : St => s.tbuf) k1.same; simpa [St.noQ] using this
                rw [u5.out.nv] at k3 k4
                rw [e5.2.2.2.2.1] at k2
                refine ⟨j' + 1, m + 1, T ++ [x / 2], t6, by simp, rfl, by omega, hjs, ?_, hq4.out.ins hij (by rw [← hx.out]; exact k2) k3 k4, ⟨by simp [ht4'.out.len], by have := ht4'.out.le; omega, ?_, ?_⟩, u5.out.trans k1.ct⟩
                · exact hv4.out.congr ((congrArg MS.val em).trans e5.1) ((congrArg MS.rsn em).trans e5.2.1) ((congrArg MS.trail em).trans e5.2.2.1) ((congrArg MS.word em).trans e5.2.2.2.1)
                · intro v hv
                  rcases List.mem_append.1 hv with hv | hv
                  · exact ht4'.out.lt v hv
                  · have : v = x / 2 := by simpa using hv
                    omega
                · intro k hk
                  rw [etb6, e5.2.2.2.2.2.2]
                  by_cases e : k = m
                  · subst e
                    rw [List.getElem?_set_self (by rw [List.getElem?_eq_some_iff] at hnb2; exact hnb2.1)]
                    have : nth (T ++ [x / 2]) k = x / 2 := by rw [nth_append, if_neg (by rw [ht4'.out.len]; omega), if_pos ht4'.out.len.symm]
                    rw [this, show ((x / 2 : Nat) : Int) = (x : Int) / 2 by omega]
                  · rw [List.getElem?_set_ne (fun e' => e e'.symm), ht4'.out.at_ k (by omega), nth_append, if_pos (by rw [ht4'.out.len]; omega)]
              replace hIn := Lib.hid hIn
              replace hnext := Lib.hid hnext
              replace u5 := Lib.hid u5
              clear hR5 e5 hnb2
              go_wp2_with (go_at_call 38; refine hIn.out.mono ?_; rintro e w' ⟨rfl, hq6⟩; replace hq6 := Lib.hid hq6)
              go_roundg (tl - (j' + 1))
              case measure => have := hgk.out; omega
              case rel => exact ⟨hnext.out _ hq6.out, j' + 1, by go_num, rfl⟩
        · have hltI : ¬ ((j' : Int) < (tl : Int)) := by omega
          have e : j' = tl := by omega
          subst e
          replace hv := Lib.hid hv
          replace hq := Lib.hid hq
          replace ht := Lib.hid ht
          replace hct := Lib.hid hct
          clear hj' hR hu1 htr
          go_wp2_with fail
          go_meet
          exact ⟨m, T, t, rfl, hv.out, hq.out, ht.out, hct.out⟩
    case rest =>
      obtain ⟨m, T, t, rfl, hv, hq, ht, hct⟩ := hcut
      clear hstart f5099
      have hR := hct.rep
      have hsb := hct.sb
      have hnv' := hct.nv
      have htr : t.trail = s.trail := hv.trail
      obtain ⟨tb', tc', hu1, hu2, hcap, _⟩ := hR.rows.open .trail (by show 0 < t.trail.length; rw [htr, ← htle.out]; exact htl)
      have hu1 : t.trailV = .slice (some ⟨tb', 0, none⟩) t.trail.length tc' := hu1
      have f14 := hR.sc hR.hd.f14
      rw [hu1, htr, ← htle.out, hsb] at f14
      have f14f := hR.scf 14
      rw [hsb] at f14f
      have hu1' : t.trailV = .slice (some ⟨tb', 0, none⟩) t.trail.length tc' := hu1
      have u3 := hR.cutTr hu1 (i := i) (by rw [htr, ← htle.out]; exact hi)
      rw [hsb] at u3
      have hcI : (i : Int) ≤ (tc' : Int) := by
        have hcap : t.trail.length ≤ tc' := hcap
        rw [htr, ← htle.out] at hcap
        omega
      have hm1000 : m ≤ 1000 := by have := ht.le; omega
      have htiI : (i : Int) ≤ (tl : Int) := by omega
      replace hv := Lib.hid hv
      replace hq := Lib.hid hq
      replace ht := Lib.hid ht
      replace u3 := Lib.hid (hct.trans u3)
      clear hu1 hu1' hu2 hR htr
      obtain ⟨w1, hw1⟩ : ∃ w1, w1 = wc.setCell ⟨s.sb, 14, none⟩ (.slice (some ⟨tb', 0, none⟩) i tc') := ⟨_, rfl⟩
      obtain ⟨t1, ht1'⟩ : ∃ t1, t1 = t.cutTr tb' tc' i := ⟨_, rfl⟩
      have e1 : t1.val = t.val ∧ t1.rsn = t.rsn ∧ t1.trail = t.trail.take i ∧ t1.word = t.word ∧ t1.qc = t.qc ∧ t1.qi = t.qi ∧ t1.tbuf = t.tbuf := by rw [ht1']; exact ⟨rfl, rfl, rfl, rfl, rfl, rfl, rfl⟩
      rw [← hw1, ← ht1'] at u3
      have hst2 : CRel2 s w i m T t1 (.int .i64 ((m : Int) - 1)) w1 := ⟨(m : Int) - 1, t1, rfl, by omega, by omega, u3.out, by rw [e1.2.2.2.2.1, e1.2.2.2.2.2.1]; exact hq.out.q, by rw [e1.2.2.2.2.2.1]; exact hq.out.qil, by omega, fun u hu => hu, rfl, rfl⟩
      have hfin : ∀ (z : Int) (t' : St) (w' : World), -1 ≤ z → (t'.qc.length : Int) ≤ t1.qc.length + (m - 1 - z) → CT s w t' w' → QI s.nv t'.qc t'.qi → t'.qi.length = s.nv → (∀ u ∈ t1.qc, u ∈ t'.qc) → t'.toMS = t1.toMS → CBPost s w lvl (.returned (.tuple #[])) w' := by
        intro z t' w' z1 z2 k1 k2 k3 k4 k5
        have va : ∀ v, t'.toMS.va v = t.toMS.va v := fun v => by rw [k5]; show t1.val.getD v 0 = t.val.getD v 0; rw [e1.1]
        have ra : ∀ v, t'.toMS.ra v = t.toMS.ra v := fun v => by rw [k5]; show t1.rsn.getD v none = t.rsn.getD v none; rw [e1.2.1]
        have tl' : s.trail.length = tl := htle.out.symm
        have q1 := hq.out.qcl
        have q2 := ht.out.le
        rw [e1.2.2.2.2.1] at z2 k4
        refine ⟨rfl, i, t', ⟨by omega, hlo.out, fun j h1 h2 => hhi.out j h1 (by omega), k1, ?_, fun k h1 h2 => by rw [va, ra]; exact hv.out.off k h1 (by omega), fun v hn => by rw [va, ra]; exact hv.out.on v (fun k h1 h2 => hn k h1 (by omega)), fun c => ?_, k2, k3, by omega, fun u hu => k4 u (hq.out.mem u hu), fun k h1 h2 => k4 _ (hq.out.memn k h1 (by omega))⟩⟩
        · show t'.toMS.trail = _
          rw [k5]
          show t1.trail = _
          rw [e1.2.2.1, hv.out.trail]
        · have ew : t'.word c = t.word c := by show t'.toMS.word c = _; rw [k5]; show t1.word c = _; rw [e1.2.2.2.1]
          rw [ew]
          rcases hv.out.wk c with h' | ⟨h', k, h1, h2, h3⟩
          · exact .inl h'
          · exact .inr ⟨h', k, h1, by omega, h3⟩
      have hT1 : ∀ k, k < m → t1.tbuf[k]? = some (i64 (nth T k : Nat)) := by rw [e1.2.2.2.2.2.2]; exact ht.out.at_
      have hTl : ∀ k, k < m → nth T k < s.nv := fun k hk => ht.out.lt _ (nth_mem _ _ (by rw [ht.out.len]; exact hk))
      have hql : t1.qc.length ≤ 90000000 := by rw [e1.2.2.2.2.1]; have := hq.out.qcl; omega
      replace hw1 := Lib.hid hw1
      replace hst2 := Lib.hid hst2
      replace hfin := Lib.hid hfin
      replace hT1 := Lib.hid hT1
      replace hTl := Lib.hid hTl
      clear e1 ht1' u3 hct hcap
      go_upto_block 4 with fail
      rw [← hw1.out]
      clear hw1 f14 f14f
      go_wp2_with fail
      go_loopw [9] (fun v9 wr => CRel2 s w i m T t1 v9 wr) (fun v9 _ => (intOf v9 + 1).toNat)
      case atStart => exact hst2.out
      case round =>
        clear hst2
        obtain ⟨z, t', rfl, z1, z2, hct, hqi, hqil', hql', hmem, hms, htbf⟩ := hrel
        have hR := hct.rep
        have hsb := hct.sb
        by_cases h0 : 0 ≤ z
        · obtain ⟨k, rfl⟩ : ∃ k : Nat, z = (k : Int) := ⟨z.toNat, by omega⟩
          have etb : t'.tbufB = s.tbufB := by have := congrArg (fun s : St => s.tbufB) hct.same; simpa [St.noC] using this
          have ck := hR.rows.cell .tbuf (b := t'.tbufB) rfl (j := k) (u := i64 (nth T k : Nat)) (by show t'.tbuf[k]? = _; rw [htbf]; exact hT1.out k (by omega))
          rw [etb] at ck
          simp only [i64] at ck
          have hIn := insert_s hR.drew (v := nth T k) (by rw [hct.nv]; exact hqi) (by rw [hct.nv]; exact hTl.out k (by omega)) (by rw [hct.nv]; exact hqil') (by omega) (by rw [hct.nv]; omega)
          rw [hsb] at hIn
          have hnext : ∀ w', (∃ s', QT t' wr.drew s' w' ∧ s'.qc.Perm (t'.qc ++ [nth T k]) ∧ s'.qi.length = t'.nv ∧ QI t'.nv s'.qc s'.qi) → CRel2 s w i m T t1 (.int .i64 ((k : Int) - 1)) w' := by
            rintro w' ⟨t6, k1, k2, k3, k4⟩
            rw [hct.nv] at k3 k4
            have etb6 : t6.tbuf = t'.tbuf := by have := congrArg (fun s : St => s.tbuf) k1.same; simpa [St.noQ] using this
            refine ⟨(k : Int) - 1, t6, rfl, by omega, by omega, hct.drew.trans k1.ct, k4, k3, ?_, fun u hu => k2.mem_iff.2 (List.mem_append_left _ (hmem u hu)), k1.ms.trans hms, etb6.trans htbf⟩
            rw [k2.length_eq]; simp; omega
          have kI : (k : Int) < (m : Int) := z2
          generalize nth T k = y at *
          replace hIn := Lib.hid (hIn)
          replace hnext := Lib.hid hnext
          replace hmem := Lib.hid hmem
          replace hct := Lib.hid hct
          clear hR hqi hqil' hql' hms htbf etb
          go_upto_region 21 with fail
          refine wp_region_tail 7 (by kernel_rfl) (by kernel_rfl) ?_
          simp only [List.take_succ_cons, List.take_zero, List.drop_succ_cons, List.drop_zero]
          repeat still_step
          refine wpStill_nil ?_
          go_wp2_with (go_at_call 38; refine hIn.out.mono ?_; rintro e w' ⟨rfl, hq6⟩; replace hq6 := Lib.hid hq6)
          exact ⟨hnext.out _ hq6.out, by simp [intOf]; try omega⟩
        · have hz := hfin.out z t' wr z1 hql' hct hqi hqil' hmem hms
          have f5 := hR.sc hR.hd.f5094
          rw [hsb] at f5
          have hRO := resetOpt_c f5
          replace hz := Lib.hid hz
          replace hRO := Lib.hid hRO
          clear hR hqi hqil' hql' hms htbf hct hmem f5
          go_wp2_with (go_at_call 24; refine Calls.ret hRO.out ?_)
          go_end0
          exact hz.out
end Go.Proofs.YtiimddkopiknpaaGreatDoor

/-
  Propagation: what becomes of the clauses' words, beside the other invariants.
-/
namespace Go.Proofs.YtiimddkopiknpaaGreatDoor

/-- words are as they were, or locked; a reason that is new is locked, or a clause of two literals -/
structure WQ (m0 m : MS) : Prop where
  w : ∀ c, m.word c = m0.word c ∨ m.word c = m0.word c ||| 1073741824
  r : ∀ v c, m.ra v = some c → m0.ra v = some c ∨ (m.lits c).length = 2 ∨ m.word c = m0.word c ||| 1073741824

theorem WQ.refl (m : MS) : WQ m m := ⟨fun _ => .inl rfl, fun _ _ h => .inl h⟩
section
variable {m0 m m' : MS}
theorem WQ.same (h : WQ m0 m) (e1 : m'.word = m.word) (e2 : m'.rsn = m.rsn) (e3 : ∀ c, (m'.lits c).length = (m.lits c).length) : WQ m0 m' := by
  refine ⟨fun c => by rw [e1]; exact h.w c, fun v c hr => ?_⟩
  have hr : m.ra v = some c := by unfold MS.ra at hr ⊢; rw [← e2]; exact hr
  rw [e3, e1]; exact h.r v c hr
theorem lits_swapC (m : MS) (c a b c' : Nat) : ((m.swapC c a b).lits c').length = (m.lits c').length := by
  unfold MS.swapC MS.setLits
  simp only []
  split
  · rename_i e; subst e; exact swapL_len _ _ _
  · rfl
theorem fix_rsn (m : MS) (c lit : Nat) : (m.fix c lit).rsn = m.rsn := by unfold MS.fix; split <;> rfl
theorem WQ.fix (h : WQ m0 m) (c lit : Nat) : WQ m0 (m.fix c lit) := h.same (fix_word m c lit) (fix_rsn m c lit) (fix_len m c lit)
theorem WQ.setWl (h : WQ m0 m) (t : Nat) (L : List (Nat × Nat)) : WQ m0 (m.setWl t L) := h.same rfl rfl fun _ => rfl
theorem ra_setR' (m : MS) (v : Nat) (x : Option Nat) (u : Nat) : (m.setRsn v x).ra u = if v = u ∧ v < m.rsn.length then x else m.ra u := by
  unfold MS.ra MS.setRsn
  simp only []
  rw [List.getD_eq_getElem?_getD, List.getD_eq_getElem?_getD, List.getElem?_set]
  by_cases e : v = u
  · subst e
    by_cases h : v < m.rsn.length
    · simp [h]
    · simp [h]
  · simp [e]
theorem WQ.unit (h : WQ m0 m) {o c : Nat} {x : Int} (hl : (m.lits c).length = 2) : WQ m0 (((m.setRsn (o / 2) (some c)).setVal (o / 2) x).push o) := by
  refine ⟨h.w, fun v d hr => ?_⟩
  have hr : (m.setRsn (o / 2) (some c)).ra v = some d := hr
  rw [ra_setR'] at hr
  split at hr
  · cases hr; exact .inr (.inl hl)
  · exact h.r v d hr
theorem or_twice (x : Nat) : (x ||| 1073741824) ||| 1073741824 = x ||| 1073741824 := by rw [Nat.or_assoc, Nat.or_self]
theorem WQ.pUnit (h : WQ m0 m) (c : Nat) (lvl : Int) (f : Nat) : WQ m0 (m.pUnit c lvl f) := by
  have hw : ∀ d, (m.pUnit c lvl f).word d = if d = c then m.word c ||| 1073741824 else m.word d := fun d => rfl
  have hlk : (m.pUnit c lvl f).word c = m0.word c ||| 1073741824 := by
    rw [hw, if_pos rfl]
    rcases h.w c with e | e <;> rw [e]
    exact or_twice _
  refine ⟨fun d => ?_, fun v d hr => ?_⟩
  · by_cases e : d = c
    · subst e; exact .inr hlk
    · rw [hw, if_neg e]; exact h.w d
  · have hr : (m.setRsn (f / 2) (some c)).ra v = some d := hr
    rw [ra_setR'] at hr
    split at hr
    · cases hr; exact .inr (.inr hlk)
    · rcases h.r v d hr with h' | h' | h'
      · exact .inl h'
      · exact .inr (.inl h')
      · by_cases e : d = c
        · subst e; exact .inr (.inr hlk)
        · exact .inr (.inr (by rw [hw, if_neg e]; exact h'))
theorem pri2 {u0 lvl : Nat} {m0 : MS} (hl : 1 ≤ lvl) (hb : u0 + m0.nv ≤ 1000000000) :
    PRI (lvl : Int) (u0 + m0.nv) (fun p m => JI u0 lvl m0 p m ∧ WQ m0 m) (fun l p i m => BI u0 lvl m0 l p i m ∧ WQ m0 m) (fun c m => CI u0 lvl m0 c m ∧ WQ m0 m) := by
  have P := pri (u0 := u0) (lvl := lvl) (m0 := m0) hl hb
  refine ⟨fun h => P.wf h.1, fun h => P.len h.1, fun h => P.wfB h.1, fun h hp => ⟨P.start h.1 hp, h.2⟩, fun h hi he hx => ⟨P.sat h.1 hi he hx, h.2⟩, fun h hi he hx => ⟨P.unit h.1 hi he hx, ?_⟩, fun h hi he hx => ⟨P.conf h.1 hi he hx, h.2⟩, fun h => ?_⟩
  · have hm := ent_mem _ _ hi
    rw [he] at hm
    have := h.1.pi.core.wbe _ h.1.nv _ hm
    exact h.2.unit this.2.2.1
  · obtain ⟨I, hS, h0, hend, hconf⟩ := P.toSP h.1
    refine ⟨fun i j m' => I i j m' ∧ WQ m0 m', ⟨fun h => hS.wf h.1, fun h => hS.nv h.1, fun h => hS.fit h.1, ?_, ?_, ?_, ?_⟩, ⟨h0, h.2⟩, fun j m' h' => ⟨hend j m' h'.1, h'.2.setWl _ _⟩, fun i j b c f m' h' hi he hb hf h2 hk => ⟨hconf i j b c f m' h'.1 hi he hb hf h2 hk, (h'.2.fix _ _).setWl _ _⟩⟩
    · intro i j m' b c h' hi he hb
      exact ⟨hS.caseA h'.1 hi he hb, h'.2.setWl _ _⟩
    · intro i j m' b c f h' hi he hb hf h1
      exact ⟨hS.caseB h'.1 hi he hb hf h1, (h'.2.fix _ _).setWl _ _⟩
    · intro i j m' b c f k h' hi he hb hf h1 hk1 hk2 hk3 hk4
      exact ⟨hS.caseC h'.1 hi he hb hf h1 hk1 hk2 hk3 hk4, (h'.2.fix _ _).same rfl rfl fun c' => lits_swapC _ _ _ _ _⟩
    · intro i j m' b c f h' hi he hb hf h1 hk
      exact ⟨hS.caseD h'.1 hi he hb hf h1 hk, ((h'.2.fix _ _).setWl _ _).pUnit _ _ _⟩
end
end Go.Proofs.YtiimddkopiknpaaGreatDoor

/-
  What holds of the solver all the while: the clauses that were learned differ, as sets of literals; reasons are locked; how many conflicts there were.
-/
namespace Go.Proofs.YtiimddkopiknpaaGreatDoor

def maskN : Nat → List Nat → Nat
  | 0, _ => 0
  | n + 1, L => 2 * maskN n L + (if n ∈ L then 1 else 0)
theorem maskN_lt (n : Nat) (L : List Nat) : maskN n L < 2 ^ n := by
  induction n with
  | zero => simp [maskN]
  | succ n ih =>
    simp only [maskN, Nat.pow_succ]
    split <;> omega
theorem maskN_inj {n : Nat} {L M : List Nat} (h : maskN n L = maskN n M) : ∀ l, l < n → (l ∈ L ↔ l ∈ M) := by
  induction n with
  | zero => intro l hl; omega
  | succ n ih =>
    simp only [maskN] at h
    have h1 : maskN n L = maskN n M ∧ ((if n ∈ L then 1 else 0) = if n ∈ M then 1 else 0) := by
      by_cases a : n ∈ L <;> by_cases b : n ∈ M <;> simp [a, b] at h ⊢ <;> omega
    intro l hl
    by_cases e : l = n
    · subst e
      have := h1.2
      by_cases a : l ∈ L <;> by_cases b : l ∈ M <;> simp [a, b] at this ⊢
    · exact ih h1.1 l (by omega)
theorem maskN_congr {n : Nat} {L M : List Nat} (h : ∀ l, l ∈ L ↔ l ∈ M) : maskN n L = maskN n M := by
  induction n with
  | zero => rfl
  | succ n ih => simp only [maskN, ih, h n]

structure GP (F : List (List Nat)) (u0 nv jr : Nat) (m : MS) (N nb ix : Int) : Prop where
  nvE : m.nv = nv
  n1 : 1 ≤ nv
  n8 : nv ≤ 8
  u0b : u0 ≤ 1000
  u0t : u0 ≤ m.trail.length
  cu : ∀ i, i < u0 → ∀ c ∈ m.ids, ∀ y ∈ m.lits c, nth m.trail i / 2 ≠ y / 2
  sd : SD F m
  lrnI : ∀ c ∈ m.lrn, c ∈ m.ids ∧ LW (m.word c) ∧ ((m.lits c).length = 2 → lbdOf (m.word c) ≤ 2)
  msk : (m.lrn.map fun c => maskN 16 (m.lits c)).Nodup
  lock : ∀ v c, m.ra v = some c → c ∈ m.lrn → 3 ≤ (m.lits c).length → lockedW (m.word c)
  cnt : ∃ p, u0 ≤ p ∧ p ≤ m.trail.length ∧ (∀ i, i < p → m.lev (nth m.trail i / 2) = 1) ∧ N ≤ m.lrn.length + 32768 * jr + (p - u0 : Nat)
  n0 : 0 ≤ N
  idx : (jr : Int) + 1 ≤ ix ∧ ix ≤ N + 1
  nbm : 2000 + 300 * (jr : Int) ≤ nb ∧ nb ≤ 2000 + 1300 * (jr : Int)
  jrb : jr ≤ 105
  idl : m.ids.length ≤ 1000 + m.lrn.length
  lne : 1 ≤ jr → 0 < m.lrn.length
  mod : ∀ σ : Nat → Bool, (∀ d ∈ m.ids, d ∉ m.lrn → ∃ x ∈ m.lits d, tru σ x = true) → (∀ i, i < u0 → tru σ (nth m.trail i) = true) → ∀ C ∈ F, ∃ x ∈ C, tru σ x = true

section
variable {F : List (List Nat)} {u0 nv jr lvl lv0 : Nat} {m m0 m' : MS} {N nb ix : Int}
theorem GP.nodup (h : GP F u0 nv jr m N nb ix) : m.lrn.Nodup := (List.pairwise_map.1 h.msk).imp (fun hne e => hne (by rw [e]))
theorem GP.len (h : GP F u0 nv jr m N nb ix) : m.lrn.length ≤ 65536 := by
  have hsub : ∀ x ∈ m.lrn.map fun c => maskN 16 (m.lits c), x ∈ List.range 65536 := by
    intro x hx
    obtain ⟨c, _, rfl⟩ := List.mem_map.1 hx
    have := maskN_lt 16 (m.lits c)
    rw [List.mem_range]; omega
  have := h.msk.length_le_of_subset hsub
  simpa using this
theorem GP.N_le (h : GP F u0 nv jr m N nb ix) (hC : Core u0 lvl m) : N ≤ 4000000 - 10 := by
  obtain ⟨p, h1, h2, h3, h4⟩ := h.cnt
  have h5 := h.len
  have h6 := hC.bound
  have h7 := h.nvE
  have h8 := h.n8
  have h9 := h.jrb
  omega
/-- kept by propagation -/
theorem GP.ext (h : GP F u0 nv jr m N nb ix) (hT : ∀ j, j < m.trail.length → m.lst (nth m.trail j) = 1) (hE : Ext m m') (hQ : WQ m m') : GP F u0 nv jr m' N nb ix := by
  have hlev : ∀ i, i < m.trail.length → m'.lev (nth m'.trail i / 2) = m.lev (nth m.trail i / 2) := by
    intro i hi
    rw [hE.pre i hi]
    unfold MS.lev
    rw [(hE.old _ (lst_va (by rw [hT i hi]; decide))).1]
  have hlen := hE.len
  refine ⟨hE.nv.trans h.nvE, h.n1, h.n8, h.u0b, Nat.le_trans h.u0t hE.len, ?_, h.sd.ext hT hE, ?_, ?_, ?_, ?_, h.n0, h.idx, h.nbm, h.jrb, by rw [hE.ids, hE.lrn]; exact h.idl, by rw [hE.lrn]; exact h.lne, fun σ h1 h2 => h.mod σ (fun d hd hl => by obtain ⟨x, hx, hx2⟩ := h1 d (by rw [hE.ids]; exact hd) (by rw [hE.lrn]; exact hl); exact ⟨x, (hE.pm d hd).mem_iff.1 hx, hx2⟩) (fun i hi => by rw [← hE.pre i (by have := h.u0t; omega)]; exact h2 i hi)⟩
  · intro i hi c hc y hy
    have hc : c ∈ m'.ids := hc
    rw [hE.ids] at hc
    rw [hE.pre i (by have := h.u0t; omega)]
    exact h.cu i hi c hc y ((hE.pm c hc).mem_iff.1 hy)
  · intro c hc
    rw [hE.lrn] at hc
    obtain ⟨a, b, d⟩ := h.lrnI c hc
    rw [hE.ids, (hE.pm c a).length_eq]
    rcases hQ.w c with e | e
    · rw [e]; exact ⟨a, b, d⟩
    · rw [e]; exact ⟨a, b.or.1, fun h2 => by rw [b.or.2.1]; exact d h2⟩
  · rw [hE.lrn]
    have : (m.lrn.map fun c => maskN 16 (m'.lits c)) = m.lrn.map fun c => maskN 16 (m.lits c) := List.map_congr_left fun c hc => maskN_congr fun l => (hE.pm c (h.lrnI c hc).1).mem_iff
    rw [this]; exact h.msk
  · intro v c hr hc hl
    rw [hE.lrn] at hc
    obtain ⟨a, b, d⟩ := h.lrnI c hc
    have hl0 : (m'.lits c).length = (m.lits c).length := (hE.pm c a).length_eq
    rcases hQ.r v c hr with h' | h' | h'
    · have := h.lock v c h' hc (by omega)
      rcases hQ.w c with e | e
      · rw [e]; exact this
      · rw [e]; exact b.or.2.2
    · omega
    · rw [h']; exact b.or.2.2
  · obtain ⟨p, h1, h2, h3, h4⟩ := h.cnt
    exact ⟨p, h1, by omega, fun i hi => by rw [hlev i (by omega)]; exact h3 i hi, by rw [hE.lrn]; exact h4⟩
/-- a literal is bound, at no level below -/
theorem GP.bind (h : GP F u0 nv jr m N nb ix) (hC : Core u0 lv0 m) {l : Nat} {r : Option Nat} (hl : l < m.nv * 2) (hu : m.va (l / 2) = 0) (hsd : SD F (m.bind l r lvl))
    (hk : ∀ c, r = some c → c ∈ m.lrn → lockedW (m.word c)) : GP F u0 nv jr (m.bind l r lvl) N nb ix := by
  have hvl := hC.vl
  refine ⟨h.nvE, h.n1, h.n8, h.u0b, by rw [bind_len]; have := h.u0t; omega, ?_, hsd, h.lrnI, h.msk, ?_, ?_, h.n0, h.idx, h.nbm, h.jrb, h.idl, h.lne, fun σ h1 h2 => h.mod σ h1 (fun i hi => by have := h2 i hi; rw [bind_tr i (by have := h.u0t; omega)] at this; exact this)⟩
  · intro i hi c hc y hy
    rw [bind_tr i (by have := h.u0t; omega)]
    exact h.cu i hi c hc y hy
  · intro v c hr hc h3
    rw [bind_ra hC.rl hl] at hr
    split at hr
    · exact hk c hr hc
    · exact h.lock v c hr hc h3
  · obtain ⟨p, h1, h2, h3, h4⟩ := h.cnt
    refine ⟨p, h1, by rw [bind_len]; omega, fun i hi => ?_, h4⟩
    rw [bind_tr i (by omega), bind_lev hvl hl hu (hC.tl.ne hu (by omega)).2.1]
    exact h3 i hi
/-- the trail is cut: words may be unlocked, of the reasons that go -/
theorem GP.cut (h : GP F u0 nv jr m N nb ix) (hC : Core u0 lv0 m) (hl : 1 ≤ lvl) {i : Nat} (c : Cut m m' i) (hi : i ≤ m.trail.length) (hlo : ∀ j, j < i → m.lev (nth m.trail j / 2) ≤ lvl) (hhi : ∀ j, i ≤ j → j < m.trail.length → lvl < m.lev (nth m.trail j / 2))
    (hw : ∀ d, m'.word d = m.word d ∨ (m'.word d = m.word d &&& 3221225471 ∧ ∃ k, i ≤ k ∧ k < m.trail.length ∧ m.ra (nth m.trail k / 2) = some d)) (hu : u0 ≤ i) : GP F u0 nv jr m' N nb ix := by
  have hlen : m'.trail.length = i := by rw [c.trail, List.length_take]; omega
  have hnth : ∀ j, j < i → nth m'.trail j = nth m.trail j := fun j hj => by rw [c.trail]; exact nth_takeB _ _ _ hj
  have hlev : ∀ j, j < i → m'.lev (nth m'.trail j / 2) = m.lev (nth m.trail j / 2) := fun j hj => by unfold MS.lev; rw [hnth j hj, (c.low hhi (hlo j hj)).1]
  have hT := hC.tl
  refine ⟨c.nv.trans h.nvE, h.n1, h.n8, h.u0b, by rw [hlen]; exact hu, ?_, h.sd.cut c hi hlo hhi, ?_, ?_, ?_, ?_, h.n0, h.idx, h.nbm, h.jrb, by rw [c.ids, c.lrn]; exact h.idl, by rw [c.lrn]; exact h.lne, fun σ h1 h2 => h.mod σ (fun d hd hl => by have := h1 d (by rw [c.ids]; exact hd) (by rw [c.lrn]; exact hl); rw [c.lits] at this; exact this) (fun j hj => by have := h2 j hj; rw [hnth j (by omega)] at this; exact this)⟩
  · intro j hj d hd y hy
    have hd : d ∈ m'.ids := hd
    rw [c.ids] at hd
    rw [c.lits] at hy
    rw [hnth j (by omega)]
    exact h.cu j hj d hd y hy
  · intro d hd
    rw [c.lrn] at hd
    obtain ⟨a, b, e⟩ := h.lrnI d hd
    rw [c.ids, c.lits]
    rcases hw d with e1 | ⟨e1, _⟩
    · rw [e1]; exact ⟨a, b, e⟩
    · rw [e1]; exact ⟨a, b.and.1, fun h2 => by rw [b.and.2]; exact e h2⟩
  · rw [c.lrn, c.lits]; exact h.msk
  · intro v d hr hd h3
    rw [c.lrn] at hd
    rw [c.lits] at h3
    -- v is bound below
    have hvb : ∀ k, i ≤ k → k < m.trail.length → nth m.trail k / 2 ≠ v := by
      intro k h1 h2 e
      have := (c.off k h1 h2).2
      rw [e, hr] at this; cases this
    have hr0 : m.ra v = some d := by rw [← (c.on v hvb).2]; exact hr
    have hlk := h.lock v d hr0 hd h3
    rcases hw d with e1 | ⟨e1, k, h1, h2, h4⟩
    · rw [e1]; exact hlk
    · exfalso
      -- two variables cannot have one reason
      have hv : v < m.nv := by
        apply Classical.byContradiction
        intro hn
        have : m.ra v = none := by
          unfold MS.ra
          rw [List.getD_eq_getElem?_getD, List.getElem?_eq_none (by rw [hC.rl]; omega)]; rfl
        rw [hr0] at this; cases this
      have hva : m.va v ≠ 0 := fun e => by have := hC.un v hv e; rw [hr0] at this; cases this
      obtain ⟨j, hj, hjv⟩ := hT.on v hv hva
      have hji : j < i := Nat.lt_of_not_le fun hh => hvb j hh hj hjv
      obtain ⟨_, b2, _⟩ := hT.rsn j d hj (by rw [hjv]; exact hr0)
      obtain ⟨_, _, b3⟩ := hT.rsn k d h2 h4
      have hne : nth m.trail j ≠ nth m.trail k := fun e => hvb k h1 h2 (by rw [← e]; exact hjv)
      obtain ⟨q, hq, hqe⟩ := b3 _ b2 hne
      have t1 := hT.tr1 j hj
      have t2 := hT.tr1 q (by omega)
      rw [hqe, lst_neg1 t1] at t2
      cases t2
  · obtain ⟨p, h1, h2, h3, h4⟩ := h.cnt
    have hpi : p ≤ i := by
      apply Classical.byContradiction
      intro hn
      have := hhi i (Nat.le_refl _) (by omega)
      rw [h3 i (by omega)] at this
      omega
    exact ⟨p, h1, by rw [hlen]; exact hpi, fun j hj => by rw [hlev j (by omega)]; exact h3 j hj, by rw [c.lrn]; exact h4⟩

/-- no clause lies within the one that is learned -/
theorem fresh_clause {p : Nat} {L : List Nat} (hP : PI u0 lvl m0 p m.wl m) (hw : WtD m (fun d => d ∈ m.ids)) {ub : Nat} (hL : Lrn m lvl ub L) {d : Nat} (hd : d ∈ m.ids) : ¬ ∀ y ∈ m.lits d, y ∈ L := by
  intro hsub
  have hC := hP.core
  have hlen := (hC.wf.len d hd).1
  have hnd := hC.ndc d hd
  have hf : ∀ y ∈ m.lits d, m.lst y = 2 := fun y hy => (hL.fl y (hsub y hy)).1
  have hpos : ∀ y ∈ m.lits d, y ≠ nth L 0 → ∃ i, i < p ∧ nth m.trail i = negL y := by
    intro y hy hne
    have hyL := hsub y hy
    have hyt : y ∈ L.tail := by
      rw [nth_zero_tail L hL.ne] at hyL
      rcases List.mem_cons.1 hyL with h' | h'
      · exact (hne h').elim
      · exact h'
    have hlow := hL.low y hyt
    obtain ⟨i, hi, hi2⟩ := hC.tl.at_ (hL.fl y hyL).2 (hf y hy)
    refine ⟨i, ?_, hi2⟩
    apply Classical.byContradiction
    intro hn
    have := hP.lv i (by omega) hi
    rw [hi2, negL_div] at this
    omega
  have hne01 : nth (m.lits d) 0 ≠ nth (m.lits d) 1 := by
    intro e
    have := nodup_nth hnd (i := 0) (j := 1) (by omega) (by omega) (by rw [e])
    omega
  obtain ⟨k, hk, hkne⟩ : ∃ k, k < 2 ∧ nth (m.lits d) k ≠ nth L 0 := by
    by_cases e : nth (m.lits d) 0 = nth L 0
    · exact ⟨1, by omega, fun e' => hne01 (by rw [e, e'])⟩
    · exact ⟨0, by omega, e⟩
  have hmk : nth (m.lits d) k ∈ m.lits d := nth_mem _ _ (by omega)
  obtain ⟨i, hi, hi2⟩ := hpos _ hmk hkne
  by_cases h2 : (m.lits d).length = 2
  · obtain ⟨e, he, hed⟩ := hw.wba d hd h2 _ hmk
    have hb := hP.pc.b i hi e (by rw [hi2]; exact he)
    have hw1 := hw.wbe _ (negL_lt (hC.litlt hd hmk)) e he
    rw [hed] at hw1
    rw [hf _ hw1.1] at hb
    cases hb.1
  · obtain ⟨e, he, hed⟩ := List.mem_map.1 (hw.all d hd (by omega) k hk)
    obtain ⟨x, x1, x2, _⟩ := hP.pc.l i hi e (by rw [hi2]; exact he)
    rw [hed] at x1
    rw [hf x x1] at x2
    cases x2

def MS.addLrn (m : MS) (c : Nat) : MS := { m with lrn := m.lrn ++ [c] }
theorem watch_addLrn (m : MS) (c d : Nat) : (m.addLrn c).watch d = (m.watch d).addLrn c := by
  unfold MS.watch MS.addLrn
  by_cases h : (m.lits d).length = 2
  · simp only [h, if_true]; rfl
  · simp only [h, if_false]; rfl
theorem Core.addLrn (h : Core u0 lvl m) (c : Nat) : Core u0 lvl (m.addLrn c) := by
  obtain ⟨⟨a1, a2, a3, a4, a5, a6, a7, a8, a9, a10, a11⟩, ⟨b1, b2, b3, b4, b5, b6, b7⟩, c1, c2, c3, c4, c5, c6, c7, c8, c9, c10⟩ := h
  exact ⟨⟨a1, a2, a3, a4, a5, a6, a7, a8, a9, a10, a11⟩, ⟨b1, b2, b3, b4, b5, b6, b7⟩, c1, c2, c3, c4, c5, c6, c7, c8, c9, c10⟩
theorem WtD.addLrn {D : Nat → Prop} (h : WtD m D) (c : Nat) : WtD (m.addLrn c) D := ⟨h.en, h.uniq, h.all, h.wbe, h.wbu, h.wba⟩
theorem PcX.addLrn {c0 p : Nat} (h : PcX m c0 p) (c : Nat) : PcX (m.addLrn c) c0 p := ⟨h.l, h.b⟩
theorem SD.addLrn (h : SD F m) (c : Nat) : SD F (m.addLrn c) := ⟨h.sat, h.base⟩

theorem GP.learn {p c x : Nat} {L : List Nat} (h : GP F u0 nv jr m N nb ix) (hP : PI u0 lvl m0 p m.wl m) (hw : WtD m (fun d => d ∈ m.ids)) (hl : 2 ≤ lvl) (hL : Lrn m lvl u0 L) (hc : c ∉ m.ids) (h2 : 2 ≤ L.length) (h12 : L.length ≤ 12)
    (hx1 : 2147483649 ≤ x) (hx2 : x ≤ 2147483648 + L.length) : GP F u0 nv jr (((m.addC c L x).watch c).addLrn c) (N + 1) nb ix := by
  have hC := hP.core
  obtain ⟨a1, a2, a3, a4, a5, a6, a7, a8, a9⟩ := watch_same (m.addC c L x) c
  have hids : ∀ d, d ∈ (((m.addC c L x).watch c).addLrn c).ids ↔ d = c ∨ d ∈ m.ids := fun d => by
    show d ∈ ((m.addC c L x).watch c).ids ↔ _
    rw [a7]
    show d ∈ c :: m.ids ↔ _
    exact List.mem_cons
  have hlc : (((m.addC c L x).watch c).addLrn c).lits c = L := by show ((m.addC c L x).watch c).lits c = L; rw [a5]; exact addC_self
  have hld : ∀ d ∈ m.ids, (((m.addC c L x).watch c).addLrn c).lits d = m.lits d := fun d hd => by show ((m.addC c L x).watch c).lits d = _; rw [a5]; exact addC_lits hc hd
  have hwd : ∀ d, (((m.addC c L x).watch c).addLrn c).word d = if d = c then x else m.word d := fun d => by show ((m.addC c L x).watch c).word d = _; rw [a6]; rfl
  have htr : (((m.addC c L x).watch c).addLrn c).trail = m.trail := a3
  have hra : ∀ v, (((m.addC c L x).watch c).addLrn c).ra v = m.ra v := fun v => by show ((m.addC c L x).watch c).ra v = _; unfold MS.ra; rw [a4]; rfl
  have hlev : ∀ v, (((m.addC c L x).watch c).addLrn c).lev v = m.lev v := fun v => by show ((m.addC c L x).watch c).lev v = _; unfold MS.lev MS.va; rw [a2]; rfl
  have hln : (((m.addC c L x).watch c).addLrn c).lrn = m.lrn ++ [c] := by show ((m.addC c L x).watch c).lrn ++ [c] = _; rw [a9]; rfl
  have hne : ∀ d ∈ m.lrn, d ≠ c := fun d hd e => hc (by rw [← e]; exact (h.lrnI d hd).1)
  have hLW : LW x := ⟨x - 2147483648, by omega, .inl (by omega)⟩
  have hlt16 : ∀ y, y < m.nv * 2 → y < 16 := fun y hy => by have := h.nvE; have := h.n8; omega
  refine ⟨a1.trans h.nvE, h.n1, h.n8, h.u0b, by rw [htr]; exact h.u0t, ?_, (h.sd.learnt hc hl hL).addLrn c, ?_, ?_, ?_, ?_, by have := h.n0; omega, by have := h.idx; omega, h.nbm, h.jrb, by
    rw [hln]
    show ((m.addC c L x).watch c).ids.length ≤ _
    rw [a7]
    show (c :: m.ids).length ≤ _
    have := h.idl
    simp; omega, fun _ => by rw [hln]; simp, fun σ g1 g2 => h.mod σ (fun d hd hl => by
      have hdc : d ≠ c := fun e => hc (by rw [← e]; exact hd)
      have := g1 d ((hids d).2 (.inr hd)) (by
        rw [hln]; intro hm
        rcases List.mem_append.1 hm with h' | h'
        · exact hl h'
        · exact hdc (by simpa using h'))
      rw [hld d hd] at this; exact this) (fun i hi => by have := g2 i hi; rw [htr] at this; exact this)⟩
  · intro i hi d hd y hy
    rw [htr]
    rcases (hids d).1 hd with rfl | hd
    · rw [hlc] at hy
      exact hL.nb y hy i hi
    · rw [hld d hd] at hy
      exact h.cu i hi d hd y hy
  · intro d hd
    rw [hln] at hd
    rw [hwd]
    rcases List.mem_append.1 hd with hd | hd
    · obtain ⟨b1, b2, b3⟩ := h.lrnI d hd
      rw [if_neg (hne d hd), hld d b1]
      exact ⟨(hids d).2 (.inr b1), b2, b3⟩
    · have : d = c := by simpa using hd
      subst this
      rw [if_pos rfl, hlc]
      exact ⟨(hids d).2 (.inl rfl), hLW, fun h3 => by unfold lbdOf; omega⟩
  · rw [hln, List.map_append, List.nodup_append]
    have e1 : (m.lrn.map fun d => maskN 16 ((((m.addC c L x).watch c).addLrn c).lits d)) = m.lrn.map fun d => maskN 16 (m.lits d) := List.map_congr_left fun d hd => by rw [hld d (h.lrnI d hd).1]
    rw [e1]
    refine ⟨h.msk, by simp, ?_⟩
    intro a ha b hb hab
    obtain ⟨d, hd, rfl⟩ := List.mem_map.1 ha
    have hb : b = maskN 16 L := by simpa [hlc] using hb
    rw [hb] at hab
    have hinj := maskN_inj hab
    have hdi := (h.lrnI d hd).1
    refine fresh_clause hP hw hL hdi fun y hy => (hinj y (hlt16 y (hC.litlt hdi hy))).1 hy
  · intro v d hr hd h3
    rw [hra] at hr
    rw [hln] at hd
    rw [hwd]
    have hvl : v < m.nv := by
      apply Classical.byContradiction
      intro hn
      unfold MS.ra at hr
      rw [List.getD_eq_getElem?_getD, List.getElem?_eq_none (by rw [hC.rl]; omega)] at hr
      cases hr
    have hdi : d ∈ m.ids := by
      by_cases e : m.va v = 0
      · rw [hC.un v hvl e] at hr; cases hr
      · obtain ⟨j, h1, h2⟩ := hC.tl.on v hvl e
        exact (hC.tl.rsn j d h1 (by rw [h2]; exact hr)).1
    have hdc : d ≠ c := fun e => hc (by rw [← e]; exact hdi)
    rw [if_neg hdc]
    rw [hld d hdi] at h3
    rcases List.mem_append.1 hd with hd | hd
    · exact h.lock v d hr hd h3
    · exact (hdc (by simpa using hd)).elim
  · obtain ⟨q, h3, h4, h5, h6⟩ := h.cnt
    refine ⟨q, h3, by rw [htr]; exact h4, fun i hi => by rw [htr, hlev]; exact h5 i hi, ?_⟩
    rw [hln, List.length_append]
    simp only [List.length_singleton]
    omega
end
end Go.Proofs.YtiimddkopiknpaaGreatDoor

/-
  The search, in plain terms: where a literal is about to be bound; where all is propagated; where a clause is false; how one leads to the next.
-/
namespace Go.Proofs.YtiimddkopiknpaaGreatDoor

/-- each level up to the top has a literal -/
def LVI (m : MS) (top : Nat) : Prop := ∀ k, 2 ≤ k → k ≤ top → ∃ i, i < m.trail.length ∧ m.lev (nth m.trail i / 2) = k
theorem LVI.le {m : MS} {top : Nat} (h : LVI m top) : top ≤ m.trail.length + 1 := by
  have hsub : ∀ x ∈ (List.range (top - 1)).map (· + 2), x ∈ m.trail.map fun l => m.lev (l / 2) := by
    intro x hx
    obtain ⟨y, hy, rfl⟩ := List.mem_map.1 hx
    rw [List.mem_range] at hy
    obtain ⟨i, h1, h2⟩ := h (y + 2) (by omega) (by omega)
    rw [← h2]
    exact List.mem_map.2 ⟨_, nth_mem _ _ h1, rfl⟩
  have hnd : ((List.range (top - 1)).map (· + 2)).Nodup := by
    rw [List.nodup_iff_pairwise_ne, List.pairwise_map]
    exact List.nodup_range.imp fun h e => h (by omega)
  have := hnd.length_le_of_subset hsub
  simp only [List.length_map, List.length_range] at this
  omega

/-- a literal is about to be bound at the level; m1: it is bound -/
structure HL (F : List (List Nat)) (u0 nv jr lvl l : Nat) (m m1 : MS) (N nb ix : Int) : Prop where
  ll : l < nv * 2
  l1 : 1 ≤ lvl
  eq : (m.setVal (l / 2) (sgn l (lvl : Int))).push l = m1
  ji : JI u0 lvl m1 m.trail.length m1
  wtd : WtD m1 (fun d => d ∈ m1.ids)
  gp : GP F u0 nv jr m1 N nb ix
  lvi : LVI m1 lvl
/-- all is propagated -/
structure HG (F : List (List Nat)) (u0 nv jr lvl : Nat) (m : MS) (N nb ix : Int) : Prop where
  l1 : 1 ≤ lvl
  gs : GS u0 lvl m
  gp : GP F u0 nv jr m N nb ix
  lvi : LVI m lvl
/-- a clause is false -/
structure HC (F : List (List Nat)) (u0 nv jr lvl c : Nat) (m : MS) (N nb ix : Int) : Prop where
  l1 : 1 ≤ lvl
  pi : ∃ m0 p, p < m.trail.length ∧ PI u0 lvl m0 p m.wl m
  wtd : WtD m (fun d => d ∈ m.ids)
  gp : GP F u0 nv jr m N nb ix
  lvi : LVI m lvl
  hc : c ∈ m.ids
  f : ∀ y ∈ m.lits c, m.lst y = 2
  at_ : ∃ y ∈ m.lits c, m.lev (y / 2) = lvl

section
variable {F : List (List Nat)} {u0 nv jr lvl l c p : Nat} {m m1 m' m3 : MS} {N nb ix : Int}
theorem LVI.ext (h : LVI m lvl) (hT : ∀ j, j < m.trail.length → m.lst (nth m.trail j) = 1) (hE : Ext m m') : LVI m' lvl := by
  intro k h1 h2
  obtain ⟨i, hi, e⟩ := h k h1 h2
  refine ⟨i, by have := hE.len; omega, ?_⟩
  rw [hE.pre i hi]
  unfold MS.lev at e ⊢
  rw [(hE.old _ (lst_va (by rw [hT i hi]; decide))).1]; exact e
theorem HL.core (h : HL F u0 nv jr lvl l m m1 N nb ix) : Core u0 lvl m1 := h.ji.pi.core
theorem HL.lvl_le (h : HL F u0 nv jr lvl l m m1 N nb ix) : lvl ≤ 2000 := by
  have h1 := h.lvi.le
  have h2 := h.core.bound
  have h3 := h.gp.nvE
  have h4 := h.gp.n8
  have h5 := h.gp.u0b
  omega
theorem HL.done (h : HL F u0 nv jr lvl l m m1 N nb ix) (hJ : JI u0 lvl m1 p m') (hQ : WQ m1 m') (hp : m'.trail.length ≤ p) : HG F u0 nv jr lvl m' N nb ix :=
  ⟨h.l1, GS.of h.wtd hJ hp, h.gp.ext h.core.tl.tr1 hJ.pi.ext hQ, h.lvi.ext h.core.tl.tr1 hJ.pi.ext⟩
theorem HL.conf (h : HL F u0 nv jr lvl l m m1 N nb ix) (hC : CI u0 lvl m1 c m') (hQ : WQ m1 m') : HC F u0 nv jr lvl c m' N nb ix := by
  obtain ⟨p, hp, hP⟩ := hC.pi
  have hE := hP.ext
  refine ⟨h.l1, ⟨m1, p, hp, hP⟩, ⟨hP.wt.en, hP.wt.uniq, hP.wt.all, hP.core.wbe, ?_, hP.core.wba⟩, h.gp.ext h.core.tl.tr1 hE hQ, h.lvi.ext h.core.tl.tr1 hE, hC.hc, hC.f, hC.at_⟩
  rw [hE.nv, hE.wb]; exact h.wtd.wbu
theorem HC.core (h : HC F u0 nv jr lvl c m N nb ix) : Core u0 lvl m := by obtain ⟨_, _, _, hP⟩ := h.pi; exact hP.core
theorem u0_lev (h : GP F u0 nv jr m N nb ix) : ∀ i, i < u0 → m.lev (nth m.trail i / 2) = 1 := by
  obtain ⟨p, h1, h2, h3, h4⟩ := h.cnt
  exact fun i hi => h3 i (by omega)
theorem HC.lu (h : HC F u0 nv jr lvl c m N nb ix) : LU m lvl u0 := by
  refine ⟨fun i j hi hj hil hjl e hlv => ?_, fun d hd y hy i hi => h.gp.cu i hi d hd y hy⟩
  have hnd := h.core.nd
  have hi' : i - u0 < (m.trail.drop u0).length := by rw [List.length_drop]; omega
  have hj' : j - u0 < (m.trail.drop u0).length := by rw [List.length_drop]; omega
  have := nodup_nth hnd hi' hj' (by
    rw [nth_lt _ _ hi', nth_lt _ _ hj', List.getElem_drop, List.getElem_drop]
    rw [nth_lt _ _ hil, nth_lt _ _ hjl] at e
    simp only [show u0 + (i - u0) = i by omega, show u0 + (j - u0) = j by omega]
    exact e)
  omega
theorem HC.unsat (h : HC F u0 nv jr 1 c m N nb ix) (σ : Nat → Bool) : ¬ ∀ C ∈ F, ∃ x ∈ C, tru σ x = true := h.gp.sd.unsat h.core h.hc h.f σ

/-- a decision -/
theorem HG.decide (h : HG F u0 nv jr lvl m N nb ix) (hl : l < nv * 2) (hu : m.va (l / 2) = 0) : HL F u0 nv jr (lvl + 1) l m (m.bind l none (lvl + 1)) N nb ix := by
  have hnv := h.gp.nvE
  have hlm : l < m.nv * 2 := by rw [hnv]; exact hl
  have hu' : m.lst l = 0 := by unfold MS.lst; rw [if_pos hu]
  have hb : u0 + m.nv ≤ 1000000000 := by have := h.gp.u0b; have := h.gp.n8; omega
  obtain ⟨s1, s2⟩ := h.gs.start (Nat.le_succ lvl) (by omega) (.inl (Nat.lt_succ_self lvl)) hlm hu' hb
  have h1 := h.l1
  have hsd := h.gp.sd.bind (r := none) (lvl := lvl + 1) h.gs.core hlm hu (by omega) (fun _ e => by omega)
  refine ⟨hl, by omega, s2, s1, ?_, h.gp.bind h.gs.core hlm hu hsd (fun c e => by cases e), ?_⟩
  · exact ⟨h.gs.wtd.en, h.gs.wtd.uniq, h.gs.wtd.all, h.gs.wtd.wbe, h.gs.wtd.wbu, h.gs.wtd.wba⟩
  · intro k k1 k2
    by_cases e : k = lvl + 1
    · refine ⟨m.trail.length, by rw [bind_len]; omega, ?_⟩
      rw [bind_tr2, e]; exact (bind_self h.gs.core.vl hlm (by omega)).2
    · obtain ⟨i, hi, he⟩ := h.lvi k k1 (by omega)
      exact ⟨i, by rw [bind_len]; omega, by rw [bind_tr i hi, bind_lev h.gs.core.vl hlm hu (h.gs.core.tl.ne hu hi).2.1]; exact he⟩
theorem cut_lvi {i bt : Nat} (h : LVI m lvl) (hbt : bt ≤ lvl) (c : Cut m m3 i) (hi : i ≤ m.trail.length) (hlo : ∀ j, j < i → m.lev (nth m.trail j / 2) ≤ bt) (hhi : ∀ j, i ≤ j → j < m.trail.length → bt < m.lev (nth m.trail j / 2)) : LVI m3 bt := by
  intro k k1 k2
  obtain ⟨j, hj, e⟩ := h k k1 (by omega)
  have hji : j < i := Nat.lt_of_not_le fun hh => by have := hhi j hh hj; omega
  refine ⟨j, by rw [c.trail, List.length_take]; omega, ?_⟩
  rw [c.trail, nth_takeB _ _ _ hji]
  unfold MS.lev at e ⊢
  rw [(c.low hhi (hlo j hji)).1]; exact e
/-- all is propagated and the trail is cut to level one -/
theorem cut_gs {i : Nat} {q : Nat} (hC : Core u0 lvl m) (hw : WtD m (fun d => d ∈ m.ids)) (hp : Pc m m.wl q) (c : Cut m m3 i) (hi : i ≤ m.trail.length) (hiq : i ≤ q) (hu : u0 ≤ i) (hlo : ∀ j, j < i → m.lev (nth m.trail j / 2) ≤ 1) (hhi : ∀ j, i ≤ j → j < m.trail.length → 1 < m.lev (nth m.trail j / 2)) : GS u0 1 m3 := by
  refine ⟨Cut.core hC c hi hu hlo hhi, ?_, ?_⟩
  · have := Cut.wtd hw c
    rw [show (fun d => d ∈ m3.ids) = fun d => d ∈ m.ids from by rw [c.ids]]
    exact this
  · -- each entry, of no clause left out
    have hlen : m3.trail.length = i := by rw [c.trail, List.length_take]; omega
    have hnth : ∀ j, j < i → nth m3.trail j = nth m.trail j := fun j hj => by rw [c.trail]; exact nth_takeB _ _ _ hj
    have hlev : ∀ v, m.lev v ≤ 1 → m3.lev v = m.lev v := fun v hv => by unfold MS.lev; rw [(c.low hhi hv).1]
    refine ⟨?_, ?_⟩
    · intro j hj e he
      rw [hlen] at hj
      rw [hnth j hj, c.wl] at he
      obtain ⟨x, h1, h2, h3⟩ := hp.l j (by omega) e he
      have hj2 := hlo j hj
      have hx : m.lev (x / 2) ≤ 1 := by omega
      exact ⟨x, by rw [c.lits]; exact h1, by rw [lst_congr (c.low hhi hx).1]; exact h2, by rw [hnth j hj, hlev _ hx, hlev _ hj2]; exact h3⟩
    · intro j hj e he
      rw [hlen] at hj
      rw [hnth j hj, c.wb] at he
      obtain ⟨h2, h3⟩ := hp.b j (by omega) e he
      have hj2 := hlo j hj
      have hx : m.lev (e.1 / 2) ≤ 1 := by omega
      exact ⟨by rw [lst_congr (c.low hhi hx).1]; exact h2, by rw [hnth j hj, hlev _ hx, hlev _ hj2]; exact h3⟩
end
end Go.Proofs.YtiimddkopiknpaaGreatDoor

/-
  The search, in plain terms: a clause is learned, a literal is learned, a restart.
-/
namespace Go.Proofs.YtiimddkopiknpaaGreatDoor

section
variable {F : List (List Nat)} {u0 nv jr lvl l c p : Nat} {m m1 m' m3 : MS} {N nb ix : Int}
theorem HL.setv (h : HL F u0 nv jr lvl l m m1 N nb ix) : HL F u0 nv jr lvl l (m.setVal (l / 2) (sgn l (lvl : Int))) m1 N nb ix := by
  refine ⟨h.ll, h.l1, ?_, h.ji, h.wtd, h.gp, h.lvi⟩
  rw [← h.eq]
  unfold MS.setVal MS.push
  simp
theorem HG.restart {i : Nat} (h : HG F u0 nv jr lvl m N nb ix) (c : Cut m m3 i) (hi : i ≤ m.trail.length) (hlo : ∀ j, j < i → m.lev (nth m.trail j / 2) ≤ 1) (hhi : ∀ j, i ≤ j → j < m.trail.length → 1 < m.lev (nth m.trail j / 2))
    (hw : ∀ d, m3.word d = m.word d ∨ (m3.word d = m.word d &&& 3221225471 ∧ ∃ k, i ≤ k ∧ k < m.trail.length ∧ m.ra (nth m.trail k / 2) = some d)) : HG F u0 nv jr 1 m3 N nb ix := by
  have hu : u0 ≤ i := by
    apply Classical.byContradiction
    intro hn
    have h1 := hhi i (Nat.le_refl _) (by have := h.gp.u0t; omega)
    rw [u0_lev h.gp i (by omega)] at h1
    omega
  exact ⟨Nat.le_refl _, cut_gs h.gs.core h.gs.wtd h.gs.pc c hi hi hu hlo hhi, h.gp.cut h.gs.core (Nat.le_refl _) c hi hlo hhi hw hu, cut_lvi h.lvi h.l1 c hi hlo hhi⟩
theorem GP.lockC (h : GP F u0 nv jr m N nb ix) (c : Nat) : GP F u0 nv jr (m.lockC c) N nb ix := by
  have hw : ∀ d, (m.lockC c).word d = if d = c then m.word c ||| 1073741824 else m.word d := fun d => rfl
  refine ⟨h.nvE, h.n1, h.n8, h.u0b, h.u0t, h.cu, ⟨h.sd.sat, h.sd.base⟩, ?_, h.msk, ?_, h.cnt, h.n0, h.idx, h.nbm, h.jrb, h.idl, h.lne, h.mod⟩
  · intro d hd
    obtain ⟨a, b, e⟩ := h.lrnI d hd
    rw [hw]
    split
    · rename_i e'; subst e'; exact ⟨a, b.or.1, fun h2 => by rw [b.or.2.1]; exact e h2⟩
    · exact ⟨a, b, e⟩
  · intro v d hr hd h3
    rw [hw]
    split
    · rename_i e'; subst e'; exact (h.lrnI _ hd).2.1.or.2.2
    · exact h.lock v d hr hd h3
theorem HC.u0i {i bt : Nat} (h : GP F u0 nv jr m N nb ix) (hb : 1 ≤ bt) (hhi : ∀ j, i ≤ j → j < m.trail.length → bt < m.lev (nth m.trail j / 2)) : u0 ≤ i := by
  apply Classical.byContradiction
  intro hn
  have h1 := hhi i (Nat.le_refl _) (by have := h.u0t; omega)
  rw [u0_lev h i (by omega)] at h1
  omega
/-- a literal is learned -/
theorem HC.unit {i : Nat} (h : HC F u0 nv jr lvl c m N nb ix) (hl : 2 ≤ lvl) (hL : Lrn m lvl u0 [l]) (ct : Cut m m3 i) (hi : i ≤ m.trail.length) (hlo : ∀ j, j < i → m.lev (nth m.trail j / 2) ≤ 1) (hhi : ∀ j, i ≤ j → j < m.trail.length → 1 < m.lev (nth m.trail j / 2))
    (hw : ∀ d, m3.word d = m.word d ∨ (m3.word d = m.word d &&& 3221225471 ∧ ∃ k, i ≤ k ∧ k < m.trail.length ∧ m.ra (nth m.trail k / 2) = some d)) : HL F u0 nv jr 1 l m3 (m3.bind l none 1) (N + 1) nb ix := by
  have hu := HC.u0i h.gp (Nat.le_refl _) hhi
  obtain ⟨m0, p, hp, hP⟩ := h.pi
  have hiq : i ≤ p := by
    apply Classical.byContradiction
    intro hn
    have h1 := hlo p (by omega)
    rw [hP.lv p (Nat.le_refl _) hp] at h1
    omega
  have hgs := cut_gs hP.core h.wtd hP.pc ct hi hiq hu hlo hhi
  have hgp := h.gp.cut hP.core (Nat.le_refl _) ct hi hlo hhi hw hu
  obtain ⟨hf, hln⟩ := hL.fl l (by simp)
  have htop : m.lev (l / 2) = lvl := hL.top
  have hnv3 : m3.nv = m.nv := ct.nv
  have hlm : l < m3.nv * 2 := by rw [hnv3]; exact hln
  -- it is free now
  obtain ⟨j, hj, hje⟩ := hP.core.tl.at_ hln hf
  have hji : i ≤ j := Nat.le_of_not_lt fun hh => by have := hlo j hh; rw [hje, negL_div] at this; omega
  have hva : m3.va (l / 2) = 0 := by
    have := (ct.off j hji hj).1
    rw [hje, negL_div] at this; exact this
  have hu' : m3.lst l = 0 := by unfold MS.lst; rw [if_pos hva]
  have hb : u0 + m3.nv ≤ 1000000000 := by have := hgp.u0b; have := hgp.n8; have := hgp.nvE; omega
  obtain ⟨s1, s2⟩ := hgs.start (Nat.le_refl 1) (Nat.le_refl 1) (.inr rfl) hlm hu' hb
  have hsd : SD F (m3.bind l none 1) := hgp.sd.bind hgs.core hlm hva (Nat.le_refl _) (fun _ _ σ hσ => by
    obtain ⟨x, hx, hx2⟩ := hL.snd hl σ (h.gp.sd.sat σ hσ)
    have : x = l := by simpa using hx
    rw [← this]; exact hx2)
  have hgb := hgp.bind hgs.core hlm hva hsd (fun c e => by cases e)
  have hvl := hgs.core.vl
  have hlen3 : m3.trail.length = i := by rw [ct.trail, List.length_take]; omega
  refine ⟨by rw [← hgp.nvE]; exact hlm, Nat.le_refl _, s2, s1, ⟨hgs.wtd.en, hgs.wtd.uniq, hgs.wtd.all, hgs.wtd.wbe, hgs.wtd.wbu, hgs.wtd.wba⟩, ?_, fun k k1 k2 => by omega⟩
  refine ⟨hgb.nvE, hgb.n1, hgb.n8, hgb.u0b, hgb.u0t, hgb.cu, hgb.sd, hgb.lrnI, hgb.msk, hgb.lock, ?_, by have := hgb.n0; omega, by have := hgb.idx; omega, hgb.nbm, hgb.jrb, hgb.idl, hgb.lne, hgb.mod⟩
  obtain ⟨q, q1, q2, q3, q4⟩ := hgp.cnt
  refine ⟨m3.trail.length + 1, by omega, by rw [bind_len]; exact Nat.le_refl _, fun k hk => ?_, ?_⟩
  · by_cases e : k = m3.trail.length
    · rw [e, bind_tr2]; exact (bind_self hvl hlm (Nat.le_refl _)).2
    · rw [bind_tr k (by omega), bind_lev hvl hlm hva (hgs.core.tl.ne hva (by omega)).2.1]
      have h1 := hgs.core.tl.top k (by omega)
      have h2 := lst_va (m := m3) (x := nth m3.trail k) (by rw [hgs.core.tl.tr1 k (by omega)]; decide)
      unfold MS.lev at h1 ⊢
      omega
  · show N + 1 ≤ m3.lrn.length + 32768 * jr + ((m3.trail.length + 1 - u0 : Nat) : Int)
    omega
/-- a clause is learned -/
theorem HC.learn {i x : Nat} {L : List Nat} {c0 : Nat} (h : HC F u0 nv jr lvl c0 m N nb ix) (hl : 2 ≤ lvl) (hL : Lrn m lvl u0 L) (hc : c ∉ m.ids) (h2 : 2 ≤ L.length) (h12 : L.length ≤ 12) (hx1 : 2147483649 ≤ x) (hx2 : x ≤ 2147483648 + L.length)
    (ct : Cut (((m.addC c L x).watch c).addLrn c) m3 i) (hi : i ≤ m.trail.length) (hlo : ∀ j, j < i → m.lev (nth m.trail j / 2) ≤ m.lev (nth L 1 / 2)) (hhi : ∀ j, i ≤ j → j < m.trail.length → m.lev (nth L 1 / 2) < m.lev (nth m.trail j / 2))
    (hw : ∀ d, m3.word d = (((m.addC c L x).watch c).addLrn c).word d ∨ (m3.word d = (((m.addC c L x).watch c).addLrn c).word d &&& 3221225471 ∧ ∃ k, i ≤ k ∧ k < m.trail.length ∧ m.ra (nth m.trail k / 2) = some d)) :
    HL F u0 nv jr (m.lev (nth L 1 / 2)) (nth L 0) ((m3.setRsn (nth L 0 / 2) (some c)).lockC c) ((m3.lockC c).bind (nth L 0) (some c) (m.lev (nth L 1 / 2))) (N + 1) nb ix ∧ m.lev (nth L 1 / 2) < lvl := by
  obtain ⟨m0, p, hp, hP⟩ := h.pi
  have hC := hP.core
  obtain ⟨a1, a2, a3, a4, a5, a6, a7, a8, a9⟩ := watch_same (m.addC c L x) c
  have hm1 : nth L 1 ∈ L.tail := by
    match L, h2 with
    | a :: b :: r, _ => simp [nth]
  have hm0 : nth L 0 ∈ L := nth_mem _ _ (by omega)
  have hlow := hL.low _ hm1
  obtain ⟨bt, hbt⟩ : ∃ bt, bt = m.lev (nth L 1 / 2) := ⟨_, rfl⟩
  rw [← hbt] at hlo hhi hlow ⊢
  have hf1 := hL.fl _ (List.mem_of_mem_tail hm1)
  have hb1 : 1 ≤ bt := by
    have := lst_va (m := m) (x := nth L 1) (by rw [hf1.1]; decide)
    rw [hbt]; unfold MS.lev; omega
  have hu0 := HC.u0i h.gp hb1 hhi
  have hlt : ∀ y ∈ L, y < m.nv * 2 := fun y hy => (hL.fl y hy).2
  have hid : m.ids.length < 1000000000 := by have := h.gp.idl; have := h.gp.len; omega
  have hx : x < 4294967296 := by omega
  -- the state with the clause
  have hC2 : Core u0 lvl (((m.addC c L x).watch c).addLrn c) := (learnt_core hC h.wtd hc h2 (by omega) hL.nd hlt hx hid).addLrn c
  have hW2 : WtD (((m.addC c L x).watch c).addLrn c) (fun d => d ∈ (((m.addC c L x).watch c).addLrn c).ids) := (learnt_wtd h.wtd hc h2 hL.nd).addLrn c
  have hX2 : PcX (((m.addC c L x).watch c).addLrn c) c p := (learnt_pcx hP.pc h.wtd (fun j hj => hC.wf.tr j (by omega)) hc h2 hL.nd).addLrn c
  have hG2 := h.gp.learn hP h.wtd hl hL hc h2 h12 hx1 hx2
  have htr : (((m.addC c L x).watch c).addLrn c).trail = m.trail := a3
  have hlev : ∀ v, (((m.addC c L x).watch c).addLrn c).lev v = m.lev v := fun v => by show ((m.addC c L x).watch c).lev v = _; unfold MS.lev MS.va; rw [a2]; rfl
  have hra : ∀ v, (((m.addC c L x).watch c).addLrn c).ra v = m.ra v := fun v => by show ((m.addC c L x).watch c).ra v = _; unfold MS.ra; rw [a4]; rfl
  have hlst : ∀ v, (((m.addC c L x).watch c).addLrn c).lst v = m.lst v := fun v => by show ((m.addC c L x).watch c).lst v = _; unfold MS.lst MS.va; rw [a2]; rfl
  have hself : (((m.addC c L x).watch c).addLrn c).lits c = L := by show ((m.addC c L x).watch c).lits c = L; rw [a5]; exact addC_self
  have hnv2 : (((m.addC c L x).watch c).addLrn c).nv = m.nv := a1
  have hcid : c ∈ (((m.addC c L x).watch c).addLrn c).ids := by show c ∈ ((m.addC c L x).watch c).ids; rw [a7]; exact List.mem_cons_self
  have hlv2 : LVI (((m.addC c L x).watch c).addLrn c) lvl := by
    intro k k1 k2
    obtain ⟨j, hj, e⟩ := h.lvi k k1 k2
    exact ⟨j, by rw [htr]; exact hj, by rw [htr, hlev]; exact e⟩
  have hclrn : c ∈ (((m.addC c L x).watch c).addLrn c).lrn := by show c ∈ ((m.addC c L x).watch c).lrn ++ [c]; simp
  generalize (((m.addC c L x).watch c).addLrn c) = m2 at *
  have hi2 : i ≤ m2.trail.length := by rw [htr]; exact hi
  have hlo2 : ∀ j, j < i → m2.lev (nth m2.trail j / 2) ≤ bt := fun j hj => by rw [htr, hlev]; exact hlo j hj
  have hhi2 : ∀ j, i ≤ j → j < m2.trail.length → bt < m2.lev (nth m2.trail j / 2) := fun j h1 h2 => by rw [htr] at h2 ⊢; rw [hlev]; exact hhi j h1 h2
  have hw2 : ∀ d, m3.word d = m2.word d ∨ (m3.word d = m2.word d &&& 3221225471 ∧ ∃ k, i ≤ k ∧ k < m2.trail.length ∧ m2.ra (nth m2.trail k / 2) = some d) := fun d => by
    rw [htr]
    rcases hw d with e | ⟨e, k, k1, k2, k3⟩
    · exact .inl e
    · exact .inr ⟨e, k, k1, k2, by rw [hra]; exact k3⟩
  have hiq : i ≤ p := by
    apply Classical.byContradiction
    intro hn
    have h1 := hlo p (by omega)
    rw [hP.lv p (Nat.le_refl _) hp] at h1
    omega
  have ct4 : Cut m2 (m3.lockC c) i := by
    refine ⟨ct.nv, ct.ids, ct.lits, ct.wl, ct.wb, ct.orig, ct.lrn, ct.trail, ct.vl, ct.rl, ct.off, ct.on, fun d hd => ?_⟩
    show (if d = c then m3.word c ||| 1073741824 else m3.word d) < _
    split
    · exact Nat.or_lt_two_pow (n := 32) (ct.word c hcid) (by decide)
    · exact ct.word d hd
  have hC4 : Core u0 bt (m3.lockC c) := Cut.core hC2 ct4 hi2 hu0 hlo2 hhi2
  have hW4 : WtD (m3.lockC c) (fun d => d ∈ (m3.lockC c).ids) := by
    have := Cut.wtd hW2 ct4
    rw [show (fun d => d ∈ (m3.lockC c).ids) = fun d => d ∈ m2.ids from by rw [ct4.ids]]
    exact this
  have hX4 := Cut.pcx hX2 ct4 hiq hi2 hlo2 hhi2
  have hG4 : GP F u0 nv jr (m3.lockC c) (N + 1) nb ix := (hG2.cut hC2 hb1 ct hi2 hlo2 hhi2 hw2 hu0).lockC c
  have hl4 : (m3.lockC c).lits c = L := by show m3.lits c = L; rw [ct.lits]; exact hself
  -- the first literal is free, the others are false
  have hf0 := hL.fl _ hm0
  obtain ⟨j, hj, hje⟩ := hC.tl.at_ hf0.2 hf0.1
  have htop := hL.top
  have hji : i ≤ j := Nat.le_of_not_lt fun hh => by have := hlo j hh; rw [hje, negL_div] at this; omega
  have hva : (m3.lockC c).va (nth L 0 / 2) = 0 := by
    have := (ct4.off j hji (by rw [htr]; exact hj)).1
    rw [htr, hje, negL_div] at this; exact this
  have hu' : (m3.lockC c).lst (nth L 0) = 0 := by unfold MS.lst; rw [if_pos hva]
  have hlow2 : ∀ y ∈ L, y ≠ nth L 0 → m.lev (y / 2) ≤ bt := by
    intro y hy hne
    obtain ⟨k, hk, hke⟩ := mem_nth _ y hy
    have hk0 : k ≠ 0 := fun e => hne (by rw [← hke, e])
    by_cases e : k = 1
    · rw [← hke, e, hbt]; exact Nat.le_refl _
    · have := hL.srt 1 k (by omega) hk
      rw [hke, ← hbt] at this; exact this
  have hkeep : ∀ y, m.lev (y / 2) ≤ bt → (m3.lockC c).va (y / 2) = m2.va (y / 2) := fun y hy => (ct4.low hhi2 (by rw [hlev]; exact hy)).1
  have hfl : ∀ y ∈ (m3.lockC c).lits c, y ≠ nth L 0 → (m3.lockC c).lst y = 2 := by
    intro y hy hne
    rw [hl4] at hy
    rw [lst_congr (hkeep y (hlow2 y hy hne)), hlst]
    exact (hL.fl y hy).1
  have hl1 : (m3.lockC c).lev (nth L 1 / 2) = bt := by
    unfold MS.lev
    rw [hkeep _ (by rw [hbt]; exact Nat.le_refl _)]
    show m2.lev _ = _
    rw [hlev, hbt]
  have hb : u0 + (m3.lockC c).nv ≤ 1000000000 := by have := hG4.u0b; have := hG4.n8; have := hG4.nvE; omega
  have hlm : nth L 0 < (m3.lockC c).nv * 2 := by rw [ct4.nv, hnv2]; exact hf0.2
  have hA := assert_start hC4 hW4 hX4 (by rw [ct4.ids]; exact hcid) (by rw [hl4]) (by rw [hl4]) hu' hfl hl1 hb1 hb
  have hsd : SD F ((m3.lockC c).bind (nth L 0) (some c) bt) := hG4.sd.bind hC4 hlm hva hb1 (fun e _ => by cases e)
  refine ⟨⟨by rw [← hG4.nvE]; exact hlm, hb1, rfl, hA, ⟨hW4.en, hW4.uniq, hW4.all, hW4.wbe, hW4.wbu, hW4.wba⟩, ?_, ?_⟩, hlow⟩
  · refine hG4.bind hC4 hlm hva hsd (fun d e hd => ?_)
    cases e
    have hlw := (hG2.cut hC2 hb1 ct hi2 hlo2 hhi2 hw2 hu0).lrnI c (by rw [ct.lrn]; exact hclrn)
    show lockedW (if c = c then m3.word c ||| 1073741824 else m3.word c)
    rw [if_pos rfl]
    exact hlw.2.1.or.2.2
  · have hlv4 := cut_lvi hlv2 (Nat.le_of_lt hlow) ct4 hi2 hlo2 hhi2
    intro k k1 k2
    obtain ⟨q, hq, e⟩ := hlv4 k k1 k2
    exact ⟨q, by rw [bind_len]; omega, by rw [bind_tr q hq, bind_lev hC4.vl hlm hva (hC4.tl.ne hva hq).2.1]; exact e⟩
end
end Go.Proofs.YtiimddkopiknpaaGreatDoor

/-
  addLearned: a learned clause comes to the solver's list, and is watched.
-/
namespace Go.Proofs.YtiimddkopiknpaaGreatDoor
open Go.RowKit

/-- what neither the analysis nor a propagation changes; the queue's members -/
structure BT (s : St) (w : World) (s' : St) (w' : World) : Prop where
  tr : Tr s.row w s'.row w'
  hd : Hd s'
  kp : s'.keep2 = s.keep2
  qcl : s'.qc.length = s.qc.length
  qil : s'.qi.length = s.qi.length
  q : QI s.nv s.qc s.qi → QI s'.nv s'.qc s'.qi
  mem : s'.qc.Perm s.qc
section
variable {s s' s1 s2 : St} {w w' w1 w2 : World}
theorem BT.rep (h : BT s w s' w') : Rep s' w' := ⟨h.tr.rows, h.hd⟩
theorem BT.sb (h : BT s w s' w') : s'.sb = s.sb := congrArg (fun p => p.1) h.kp
theorem BT.trans (h : BT s w s1 w1) (h' : BT s1 w1 s2 w2) : BT s w s2 w2 := ⟨h.tr.trans h'.tr, h'.hd, h'.kp.trans h.kp, h'.qcl.trans h.qcl, h'.qil.trans h.qil, fun hq => h'.q (h.q hq), h'.mem.trans h.mem⟩
theorem BT.drewN (h : BT s w s' w') (n : Nat) : BT s w s' (w'.drewN n) := ⟨h.tr.drewN n, h.hd, h.kp, h.qcl, h.qil, h.q, h.mem⟩
theorem AT.bt (h : AT s w s' w') : BT s w s' w' := ⟨h.tr, h.hd, h.kp, h.qcl, h.qil, h.q, h.mem⟩
theorem AC.bt {c x : Nat} {L : List Nat} (h : AC s w s' w' c L x) : BT s w s' w' := ⟨h.tr, h.hd, h.kp, h.qcl, h.qil, h.q, h.mem⟩
theorem keep2_of (h : s'.keep = s.keep) : s'.keep2 = s.keep2 := by
  unfold St.keep2
  unfold St.keep at h
  injections
  simp_all
theorem RT.bt (h : RT s w s' w') (hn : s'.nv = s.nv) : BT s w s' w' := by
  have hk := h.kp
  have e1 : s'.qc = s.qc := congrArg (fun p => p.2.1) hk
  have e2 : s'.qi = s.qi := congrArg (fun p => p.2.2.1) hk
  exact ⟨h.tr, h.hd, keep2_of hk, by rw [e1], by rw [e2], fun hq => by rw [e1, e2, hn]; exact hq, by rw [e1]⟩
end

def St.pushL (s : St) (c : Nat) (v : Value) : St := { s with lrn := s.lrn ++ [c], lrnV := v, sc := s.sc.set 13 v }
theorem Hd.set13 {s : St} (h : Hd s) (v : Value) (L : List Nat) : Hd { s with lrn := L, lrnV := v, sc := s.sc.set 13 v } := by
  obtain ⟨h1, h3, h4, h5, h6, h7, h8, h9, h10, h11, h12, h13, h14, h15, h17, h18, h19, h20, h21, h22, h23, h24, h25, h26, h27, h28, h29, h30, h31, h32, h33, h34, h35, h36, h5087, h5088, h5094, h5097, h5098, h5099, ha, hb, hc⟩ := h
  constructor <;> dsimp only
  case f13 => exact set_eq_get _ _ _ _ h13
  case f21 => intro hh; rw [set_ne_get _ _ _ _ (by omega)]; exact h21 hh
  case f36 => intro j a b; rw [set_ne_get _ _ _ _ (by omega)]; exact h36 j a b
  case f5087 => intro j a b c; rw [set_ne_get _ _ _ _ (by omega)]; exact h5087 j a b c
  case fact => exact ha
  case facc => exact hb
  case ftb => exact hc
  all_goals
    rw [set_ne_get _ _ _ _ (by omega)]
    assumption
theorem Rep.pushL {s : St} {w w1 : World} (h : Rep s w) (c : Nat) {v' : Value} (ho : w1.ownsRow 0 92 1 v' (s.lrn.length + 1) (s.lrn.map (ptrV ∘ some) ++ [ptrV (some c)]))
    (hg : w.grownBy w1 s.lrnV.ownBlock) (hf : v'.ownBlock = s.lrnV.ownBlock ∨ ∃ b, v'.ownBlock = some b ∧ w.heap.size ≤ b) :
    (w1.cell? ⟨s.sb, 13, none⟩).isSome = true ∧ w1.frozen? ⟨s.sb, 13, none⟩ = false ∧ Tr s.row w (s.pushL c v').row (w1.setCell ⟨s.sb, 13, none⟩ v') ∧ Hd (s.pushL c v') := by
  let ρ1 : Role → Row := fun r => match r with | .lrn => ⟨92, 1, v', s.lrn.length + 1, s.lrn.map (ptrV ∘ some) ++ [ptrV (some c)]⟩ | r => s.row r
  have t1 : Tr s.row w ρ1 w1 := h.rows.grow (ρ' := ρ1) .lrn ho hg hf rfl (fun r hr => by cases r <;> first | rfl | contradiction)
  refine ⟨?_, t1.rows.frozen .sol (b := s.sb) rfl 13, ?_, h.hd.set13 _ _⟩
  · rw [t1.rows.cell .sol (b := s.sb) rfl (show (ρ1 .sol).xs[13]? = some s.lrnV from h.hd.f13)]; rfl
  · refine t1.trans (t1.rows.set .sol rfl 13 v' rfl (fun r hr => ?_))
    cases r <;> first | contradiction | rfl | skip
    simp [St.row, St.pushL, ρ1]

theorem Wf.addLrn {m : MS} (h : Wf m) (c : Nat) : Wf (m.addLrn c) := ⟨h.nv0, h.nv1, h.len, h.lit, h.word, h.wl, h.wb, h.wll, h.wbl, h.tr, h.trl⟩
theorem Rep.trF {s : St} {w : World} {o : Obj} (_ : Rep s (w.alloc o)) (h : Rep s w) : Tr s.row w s.row (w.alloc o) := (Tr.refl h.rows).alloc o
theorem infoCl : (Tryz.prog.info? 92).map (fun i => (i.zero, i.size, i.bytes)) = some (some (.pointer none), 1, 8) := by kernel_rfl
def ALrPost (s : St) (w : World) (c : Nat) (e : Ending) (w' : World) : Prop := e = .returned (.tuple #[]) ∧ ∃ s', BT s w s' w' ∧ s'.toMS = (s.toMS.addLrn c).watch c
set_option maxRecDepth 100000 in
set_option maxHeartbeats 8000000 in
theorem addLearned_c {s : St} {w : World} (h : Rep s w) (hW : Wf s.toMS) {c : Nat} (hc : c ∈ s.ids) (hk : 2147483648 ≤ s.word c) (hl : ∀ c ∈ s.lrn, c ∈ s.ids) (hll : s.lrn.length ≤ 100000000) :
    Calls Tryz.prog 78 #[.pointer (some ⟨s.sb, 0, none⟩), .pointer (some ⟨c, 0, none⟩)] w (ALrPost s w c) := by
  obtain ⟨iC, hiC, hz0, hz1, hz2⟩ := info_parts infoCl
  have f13 := h.sc h.hd.f13
  have own := h.rows.own .lrn
  have own : w.ownsRow 0 92 1 s.lrnV s.lrn.length (s.lrn.map (ptrV ∘ some)) := own
  obtain ⟨V, hV⟩ : ∃ V, V = s.lrnV := ⟨_, rfl⟩
  rw [← hV] at f13 own
  replace hW := Lib.hid hW
  replace hl := Lib.hid hl
  replace hV := Lib.hid hV
  go_enter Tryz.func78, Tryz.ntmps78
  go_wp2_with (at_builtin; apply keepHid)
  refine Lib.hid ?_
  refine wpList_append_rows rfl _ _ 52 rfl 92 iC (.pointer none) 1 8 Tryz.underlying52 hiC hz0 hz1 hz2 rfl (by decide) V s.lrn.length (s.lrn.map (ptrV ∘ some)) rfl (own.alloc _) ⟨w.heap.size, 0, none⟩ 1 1 [ptrV (some c)] rfl rfl (cell_new_one _ _ _ _ (by simp)) (by simp [ptrV, Value.oneCell']) (by unfold maxLen; omega) (by omega) ?_
  intro v' w6 ho hg hf
  obtain ⟨p1, p2, t1, t2⟩ := (h.alloc _).pushL c ho (by rw [← hV.out]; exact hg) (by rw [← hV.out]; exact hf)
  obtain ⟨u13, hu13⟩ := Option.isSome_iff_exists.1 p1
  have b1 : BT s (w.alloc (.cells #[ptrV (some c)] 92)) (s.pushL c v') (w6.setCell ⟨s.sb, 13, none⟩ v') := ⟨t1, t2, rfl, rfl, rfl, fun h => h, .refl _⟩
  have b1 : BT s w (s.pushL c v') (w6.setCell ⟨s.sb, 13, none⟩ v') := ⟨(h.alloc (.cells #[ptrV (some c)] 92) |>.trF h).trans b1.tr, b1.hd, b1.kp, b1.qcl, b1.qil, b1.q, b1.mem⟩
  have e1 : (s.pushL c v').toMS = s.toMS.addLrn c := rfl
  have es : (s.pushL c v').sb = s.sb := rfl
  generalize s.pushL c v' = s1 at b1 e1 es
  have hW1 : Wf s1.toMS := by rw [e1]; exact hW.out.addLrn c
  have hc1 : c ∈ s1.ids := by show c ∈ s1.toMS.ids; rw [e1]; exact hc
  obtain ⟨g4, cap4, rfl, _, _⟩ := own_form ho (by omega)
  obtain ⟨w7, hw7⟩ : ∃ w7, w7 = w6.setCell ⟨s.sb, 13, none⟩ (.slice (some ⟨g4, 0, none⟩) (s.lrn.length + 1) cap4) := ⟨_, rfl⟩
  rw [← hw7] at b1
  have hwt := watch_c b1.rep hW1 hc1 (.inl (by show 2147483648 ≤ s1.toMS.word c; rw [e1]; exact hk))
  rw [es] at hwt
  replace b1 := Lib.hid b1
  replace e1 := Lib.hid e1
  replace hW1 := Lib.hid hW1
  replace hwt := Lib.hid hwt
  replace es := Lib.hid es
  clear p1 t1 t2 ho hg hf f13 own
  go_upto_region 1 with fail
  rw [← hw7]
  clear hw7 hu13 p2
  go_upto_region 2 with (go_at_call 37; refine hwt.out.mono ?_; rintro e w8 ⟨rfl, s2, k1, k2⟩)
  obtain ⟨a1, a2, a3, a4, a5, a6, a7, a8, a9⟩ := watch_same s1.toMS c
  have b2 := b1.out.trans (k2.bt (by show s2.toMS.nv = _; rw [k1]; exact a1))
  have em : s2.toMS = (s.toMS.addLrn c).watch c := by rw [k1, e1.out]
  have hids2 : s2.ids = s.ids := by show s2.toMS.ids = _; rw [k1, a7, e1.out]; rfl
  have hcb := clauseBump_c b2.rep (c := c) (by rw [hids2]; exact hc) (by show s2.toMS.word c < _; rw [k1, a6, e1.out]; exact hW.out.word c hc) (by
    intro d hd
    have hd : d ∈ s2.toMS.lrn := hd
    rw [k1, a9, e1.out] at hd
    rw [hids2]
    rcases List.mem_append.1 (show d ∈ s.lrn ++ [c] from hd) with hd | hd
    · exact hl.out d hd
    · have : d = c := by simpa using hd
      rw [this]; exact hc) (by show s2.toMS.lrn.length ≤ _; rw [k1, a9, e1.out]; show (s.lrn ++ [c]).length ≤ _; simp; omega)
  rw [b2.sb] at hcb
  replace b2 := Lib.hid b2
  replace hcb := Lib.hid hcb
  replace em := Lib.hid em
  clear k1 k2 a1 a2 a3 a4 a5 a6 a7 a8 a9 hids2
  go_upto_region 3 with (go_at_call 99; refine hcb.out.mono ?_; rintro e w9 ⟨rfl, s3, hA⟩)
  have b3 := b2.out.trans hA.bt
  have f1 := b3.rep.sc b3.hd.f1
  rw [b3.sb] at f1
  have em3 : s3.toMS = (s.toMS.addLrn c).watch c := hA.ms.trans em.out
  replace b3 := Lib.hid b3
  replace em3 := Lib.hid em3
  clear hA
  go_wp2_with fail
  go_end0
  exact ⟨rfl, s3, b3.out, em3.out⟩
end Go.Proofs.YtiimddkopiknpaaGreatDoor
