/-
  Propagation, and a literal made true.
-/
import Derived.Test.YtiimddkopiknpaaGreatA06
import Derived.Test.YtiimddkopiknpaaGreatA02
set_option linter.unusedVariables false
set_option linter.unusedSimpArgs false

/-
  propagate, walked over an invariant of its rounds.
-/
namespace Go.Proofs.YtiimddkopiknpaaGreat
open Go.RowKit

set_option maxRecDepth 100000 in
set_option maxHeartbeats 2000000 in
theorem sp_c0 {s0 : St} {w0 : World} (h : Rep s0 w0) {lit : Nat} {lvl : Int} (hlit : lit < s0.nv * 2) (hnv : s0.nv ≤ 1000000) (hn : (s0.wl lit).length = 0) :
    Calls Tryz.prog 71 #[.pointer (some ⟨s0.sb, 0, none⟩), .int .i32 (lit : Int), .int .i64 lvl] w0 fun e w' => e = .returned (.pointer none) ∧ RT s0 w0 (s0.cutWl lit 0) w' := by
  have f9 : w0.cell? ⟨s0.sb, 9, none⟩ = some (.slice (some ⟨s0.wlHB, 0, none⟩) (s0.nv * 2) (s0.nv * 2)) := h.sc h.hd.f9
  have g9 := h.wlH hlit
  have g10 := h.wlHf lit
  obtain ⟨p, cap, hv⟩ := h.rows.shape (.wl lit)
  have e0 : s0.row (.wl lit) = ⟨132, 2, s0.wlV lit, (s0.wl lit).length, watchV (s0.wl lit)⟩ := by simp only [St.row]; rw [if_pos hlit]
  rw [e0] at hv
  simp only [hn] at hv
  rw [hv] at g9
  have hct := h.cutWl hlit (m := 0) (by omega)
  have hvs : hdLen (s0.wlV lit) 0 = .slice p 0 cap := by rw [hv]; rfl
  rw [hvs] at hct
  replace hct := Lib.hid hct
  replace hnv := Lib.hid hnv
  have k1 : (lit : Int) < (s0.nv : Int) * 2 := by omega
  clear hv hvs hn e0
  go_enter Tryz.func71, Tryz.ntmps71
  go_wp2_with fail
  go_loopw [8, 28] (fun vj vi wr => vj = .int .i64 0 ∧ vi = .int .i64 0 ∧ wr = w0) (fun _ vi _ => 0)
  case atStart => exact ⟨rfl, rfl, rfl⟩
  case round =>
    obtain ⟨rfl, rfl, rfl⟩ := hrel
    go_wp2_with fail
    refine wp_region_tail 9 (by kernel_rfl) (by kernel_rfl) ?_
    simp only [List.take_succ_cons, List.take_zero, List.drop_succ_cons, List.drop_zero]
    repeat still_step
    refine wpStill_nil ?_
    go_wp2_with fail
    go_ret
    exact ⟨rfl, hct.out.drew⟩
theorem sp_any {s0 : St} {w0 : World} (h : Rep s0 w0) {lit : Nat} {lvl : Int} (h0 : 0 ≤ lvl) (h1 : lvl < 1000000) {I : Nat → Nat → MS → Prop} (hI : SPI lit lvl (s0.wl lit) I) (hI0 : I 0 0 s0.toMS) :
    Calls Tryz.prog 71 #[.pointer (some ⟨s0.sb, 0, none⟩), .int .i32 (lit : Int), .int .i64 lvl] w0 (SPPost s0 w0 lit I) := by
  by_cases hn : 0 < (s0.wl lit).length
  · exact sp_c h h0 h1 hI hI0 hn
  · have hz : (s0.wl lit).length = 0 := by omega
    refine (sp_c0 h (hI.nv hI0) (hI.wf hI0).nv1 hz).mono ?_
    rintro e w' ⟨he, hT⟩
    exact .inl ⟨he, s0.cutWl lit 0, s0.toMS, 0, by rw [hz]; exact hI0, rfl, hT⟩

/-- an invariant of the rounds of propagate: J p m at the head, B lit p i m within the list of binary clauses of the literal lit -/
structure PRI (lvl : Int) (K : Nat) (J : Nat → MS → Prop) (B : Nat → Nat → Nat → MS → Prop) (Cf : Nat → MS → Prop) : Prop where
  wf : ∀ {p m}, J p m → Wf m
  len : ∀ {p m}, J p m → m.trail.length ≤ K
  wfB : ∀ {l p i m}, B l p i m → Wf m ∧ l < m.nv * 2 ∧ i ≤ (m.wb l).length ∧ p < m.trail.length ∧ m.trail.length ≤ K
  start : ∀ {p m}, J p m → p < m.trail.length → B (nth m.trail p) p 0 m
  sat : ∀ {l p i m o c}, B l p i m → i < (m.wb l).length → ent (m.wb l) i = (o, c) → m.lst o = 1 → B l p (i + 1) m
  unit : ∀ {l p i m o c}, B l p i m → i < (m.wb l).length → ent (m.wb l) i = (o, c) → m.lst o = 0 → B l p (i + 1) (((m.setRsn (o / 2) (some c)).setVal (o / 2) (sgn o lvl)).push o)
  conf : ∀ {l p i m o c}, B l p i m → i < (m.wb l).length → ent (m.wb l) i = (o, c) → m.lst o = 2 → Cf c m
  toSP : ∀ {l p m}, B l p (m.wb l).length m → ∃ I, SPI l lvl (m.wl l) I ∧ I 0 0 m ∧
    (∀ j m', I (m.wl l).length j m' → J (p + 1) (m'.setWl l ((m'.wl l).take j))) ∧
    (∀ i j b c f m', I i j m' → i < (m.wl l).length → ent (m.wl l) i = (b, c) → m'.lst b ≠ 1 → f = nth ((m'.fix c l).lits c) 0 → m'.lst f = 2 →
      (∀ k', 2 ≤ k' → k' < (m'.lits c).length → m'.lst (nth (m'.lits c) k') = 2) → Cf c ((m'.fix c l).setWl l ((m'.wl l).take j ++ (f, c) :: (m'.wl l).drop (i + 1))))

def PRRel (s0 : St) (w0 : World) (J : Nat → MS → Prop) (vp : Value) (wr : World) : Prop :=
  ∃ (p : Nat) (s : St), vp = .int .i64 (p : Int) ∧ J p s.toMS ∧ RT s0 w0 s wr ∧ s.sb = s0.sb
def PRPost (s0 : St) (w0 : World) (J : Nat → MS → Prop) (Cf : Nat → MS → Prop) (e : Ending) (w' : World) : Prop :=
  (e = .returned (.pointer none) ∧ ∃ (s : St) (p : Nat), J p s.toMS ∧ s.trail.length ≤ p ∧ RT s0 w0 s w' ∧ s.sb = s0.sb) ∨
  (∃ (s : St) (c : Nat), e = .returned (.pointer (some ⟨c, 0, none⟩)) ∧ Cf c s.toMS ∧ RT s0 w0 s w' ∧ s.sb = s0.sb)

def PBRel (s0 : St) (w0 : World) (B : Nat → Nat → Nat → MS → Prop) (l p n : Nat) (V : Value) (vi : Value) (wr : World) : Prop :=
  ∃ (i : Nat) (s : St), vi = .int .i64 (i : Int) ∧ B l p i s.toMS ∧ RT s0 w0 s wr ∧ s.sb = s0.sb ∧ (s.wb l).length = n ∧ s.wbV l = V

set_option maxRecDepth 100000 in
set_option maxHeartbeats 8000000 in
theorem prop_c {s0 : St} {w0 : World} (h : Rep s0 w0) {lvl : Int} (h0 : 0 ≤ lvl) (h1 : lvl < 1000000) {K : Nat} {J : Nat → MS → Prop} {B : Nat → Nat → Nat → MS → Prop} {Cf : Nat → MS → Prop}
    (hP : PRI lvl K J B Cf) {p0 : Nat} (hJ0 : J p0 s0.toMS) :
    Calls Tryz.prog 59 #[.pointer (some ⟨s0.sb, 0, none⟩), .int .i64 (p0 : Int), .int .i64 lvl] w0 (PRPost s0 w0 J Cf) := by
  obtain ⟨iL, hiL, hz0, hz1, hz2⟩ := info_parts infoLit
  go_enter Tryz.func59, Tryz.ntmps59
  go_wp2_with fail
  go_loopw [1] (fun vp wr => PRRel s0 w0 J vp wr) (fun vp _ => K - (intOf vp).toNat)
  case atStart => exact ⟨p0, s0, rfl, hJ0, RT.refl h, rfl⟩
  case round =>
    obtain ⟨p, s, rfl, hJ, hT, hsb⟩ := hrel
    have hW := hP.wf hJ
    have hR := hT.rep
    have hK := hP.len hJ
    have f14 : wr.cell? ⟨s.sb, 14, none⟩ = some s.trailV := hR.sc hR.hd.f14
    obtain ⟨pp, tcap, htv⟩ := hR.rows.shape .trail
    have htv : s.trailV = .slice pp s.trail.length tcap := htv
    rw [htv, hsb] at f14
    have htrl := hW.trl
    have hnv1 := hW.nv1
    obtain ⟨tl, htl⟩ : ∃ tl, tl = s.trail.length := ⟨_, rfl⟩
    rw [← htl] at f14 hK htrl
    by_cases hlt : p < tl
    · have hpt : p < s.trail.length := by rw [← htl]; exact hlt
      have hB0 := hP.start hJ hpt
      obtain ⟨tb, tcap2, htv2, htob, _, _⟩ := hR.rows.open .trail (by show 0 < s.trail.length; omega)
      have hpp : pp = some ⟨tb, 0, none⟩ := by
        have e : (s.row .trail).v = s.trailV := rfl
        rw [e, htv] at htv2
        simp at htv2
        exact htv2.1
      subst hpp
      have hl2 := hW.tr p hpt
      have ft : wr.cell? ⟨tb, p, none⟩ = some (.int .i32 (nth s.trail p : Nat)) := hR.rows.cell .trail htob (getElem?_map_getD i32 s.trail 0 p hpt)
      obtain ⟨l, hl⟩ : ∃ l, l = nth s.trail p := ⟨_, rfl⟩
      rw [← hl] at ft hl2 hB0
      have f8 : wr.cell? ⟨s0.sb, 8, none⟩ = some (.slice (some ⟨s.wbHB, 0, none⟩) (s.nv * 2) (s.nv * 2)) := by rw [← hsb]; exact hR.sc hR.hd.f8
      have f9 := hR.wbH hl2
      obtain ⟨q, bcap, hbv⟩ := hR.rows.shape (.wb l)
      have e0 : s.row (.wb l) = ⟨132, 2, s.wbV l, (s.wb l).length, watchV (s.wb l)⟩ := by simp only [St.row]; rw [if_pos hl2]
      rw [e0] at hbv
      simp only [] at hbv
      have hwbl := hW.wbl l hl2
      obtain ⟨n, hn⟩ : ∃ n, n = (s.wb l).length := ⟨_, rfl⟩
      rw [← hn] at hbv hwbl
      rw [hbv] at f9
      replace hJ := Lib.hid hJ
      replace hT := Lib.hid hT
      replace hsb := Lib.hid hsb
      replace htv := Lib.hid htv
      replace htv2 := Lib.hid htv2
      replace htob := Lib.hid htob
      replace hW := Lib.hid hW
      replace htl := Lib.hid htl
      replace hnv1 := Lib.hid hnv1
      replace hl := Lib.hid hl
      replace hB0 := Lib.hid hB0
      replace hn := Lib.hid hn
      replace hbv := Lib.hid hbv
      clear e0
      go_wp2_with fail
      go_loopw [40] (fun vi wq => PBRel s0 w0 B l p n (.slice q n bcap) vi wq) (fun vi _ => n - (intOf vi).toNat)
      case atStart => exact ⟨0, s, rfl, hB0.out, hT.out, hsb.out, hn.out.symm, hbv.out⟩
      case round =>
        clear hR f14 ft f8 f9
        obtain ⟨i, s1, rfl, hB, hT1, hsb1, hn1, hV1⟩ := hrel
        obtain ⟨hW1, hl1, hi1, hp1, hK1⟩ := hP.wfB hB
        have hR1 := hT1.rep
        have hi1' : i ≤ n := by rw [← hn1]; exact hi1
        by_cases hi : i < n
        · have hi2 : i < (s1.wb l).length := by rw [hn1]; exact hi
          obtain ⟨o, c, hoc⟩ : ∃ o c, ent (s1.wb l) i = (o, c) := ⟨_, _, rfl⟩
          obtain ⟨ho2, hc2⟩ := hW1.wb l hl1 i hi2
          rw [hoc] at ho2 hc2
          simp only [] at ho2 hc2
          obtain ⟨bb, bcap3, hbv3, hbob, _, _⟩ := hR1.rows.open (.wb l) (by simp only [St.row]; rw [if_pos hl1]; show 0 < (s1.wb l).length; omega)
          have e0 : s1.row (.wb l) = ⟨132, 2, s1.wbV l, (s1.wb l).length, watchV (s1.wb l)⟩ := by simp only [St.row]; rw [if_pos hl1]
          rw [e0] at hbv3 hbob
          simp only [] at hbv3 hbob
          have hq : q = some ⟨bb, 0, none⟩ := by
            rw [hV1] at hbv3
            simp at hbv3
            exact hbv3.1
          subst hq
          obtain ⟨e1, e2⟩ := hR1.wbe hl1 hbob hi2
          rw [hoc] at e1 e2
          simp only [] at e1 e2
          have hRA := hR1.alloc (.cells #[.int .i32 (o : Int), .pointer (some ⟨c, 0, none⟩)] 132)
          have hov : o / 2 < s1.nv := by omega
          have hnv2 := hW1.nv1
          have hos : o < 2147483648 := by omega
          have fm : (wr.alloc (.cells #[.int .i32 (o : Int), .pointer (some ⟨c, 0, none⟩)] 132)).cell? ⟨s0.sb, 15, none⟩ = some (.slice (some ⟨s1.modelB, 0, none⟩) s1.nv s1.nv) := by rw [← hsb1]; exact hRA.sc hRA.hd.f15
          have fv := hRA.val hov
          replace hnv2 := Lib.hid hnv2
          replace hW1 := Lib.hid hW1
          replace hT1 := Lib.hid hT1
          replace hV1 := Lib.hid hV1
          replace hB := Lib.hid hB
          replace hoc := Lib.hid hoc
          replace hbv3 := Lib.hid hbv3
          replace hbob := Lib.hid hbob
          replace hn1 := Lib.hid hn1
          replace hK1 := Lib.hid hK1
          clear e0
          have hd : s1.lst o = if s1.va (o / 2) = 0 then 0 else if (0 < s1.va (o / 2)) = (o % 2 = 0) then 1 else 2 := rfl
          by_cases hz : s1.va (o / 2) = 0
          · rw [if_pos hz] at hd
            rw [hz] at fv
            replace hz := Lib.hid hz
            replace hd := Lib.hid hd
            go_wp2_with (first
              | (go_at_call 37; refine Calls.ret (Var_c o _ hos) ?_))
            obtain ⟨W, hWW⟩ : ∃ W, W = wr.alloc (.cells #[.int .i32 (o : Int), .pointer (some ⟨c, 0, none⟩)] 132) := ⟨_, rfl⟩
            have hbno : ¬ Own s1.row wr.heap.size := hR1.notOwn
            have hbx : wr.heap.size < W.heap.size := by rw [hWW]; simp
            have cb0 : W.cell? ⟨wr.heap.size, 0, none⟩ = some (.int .i32 (o : Int)) := by rw [hWW, World.cell?_alloc_at (w := wr) _ _ _ _ rfl]; rfl
            have cb1 : W.cell? ⟨wr.heap.size, 1, none⟩ = some (.pointer (some ⟨c, 0, none⟩)) := by rw [hWW, World.cell?_alloc_at (w := wr) _ _ _ _ rfl]; rfl
            have t1 := hT1.out.alloc (.cells #[.int .i32 (o : Int), .pointer (some ⟨c, 0, none⟩)] 132)
            rw [← hWW] at t1 hRA fm fv ⊢
            clear hWW
            obtain ⟨bx, hbxe⟩ : ∃ bx, bx = wr.heap.size := ⟨_, rfl⟩
            rw [← hbxe] at hbno hbx cb0 cb1 ⊢
            clear hbxe
            have u2 := hRA.setRsn (o / 2) (some c)
            have u3 := u2.trans (u2.rep.setVal (o / 2) (sgn o lvl))
            have f20 : W.cell? ⟨s0.sb, 20, none⟩ = some (.slice (some ⟨s1.rsnB, 0, none⟩) s1.nv s1.nv) := by rw [← hsb1]; exact hRA.sc hRA.hd.f20
            have fr := hRA.rsn hov
            have frf := hRA.rsnf (o / 2)
            have fm2 : (W.setCell ⟨s1.rsnB, o / 2, none⟩ (.pointer (some ⟨c, 0, none⟩))).cell? ⟨s0.sb, 15, none⟩ = some (.slice (some ⟨s1.modelB, 0, none⟩) s1.nv s1.nv) := by rw [← hsb1]; exact u2.rep.sc u2.rep.hd.f15
            have fv2 : (W.setCell ⟨s1.rsnB, o / 2, none⟩ (.pointer (some ⟨c, 0, none⟩))).cell? ⟨s1.modelB, o / 2, none⟩ = _ := u2.rep.val hov
            have fvf2 : (W.setCell ⟨s1.rsnB, o / 2, none⟩ (.pointer (some ⟨c, 0, none⟩))).frozen? ⟨s1.modelB, o / 2, none⟩ = false := u2.rep.valf _
            have cb02 : (W.setCell ⟨s1.rsnB, o / 2, none⟩ (.pointer (some ⟨c, 0, none⟩))).cell? ⟨bx, 0, none⟩ = some (.int .i32 (o : Int)) := by rw [← cb0]; exact u2.tr.fr.cell hbx hbno
            have ovI : (o : Int) / 2 < (s1.nv : Int) := by omega
            have ov0 : (0 : Int) ≤ (o : Int) / 2 := by omega
            have ovN : ((o : Int) / 2).toNat = o / 2 := by omega
            replace u2 := Lib.hid u2
            replace u3 := Lib.hid u3
            replace t1 := Lib.hid t1
            refine wp_region_tail 7 (by kernel_rfl) (by kernel_rfl) ?_
            simp only [List.take_succ_cons, List.take_zero, List.drop_succ_cons, List.drop_zero]
            repeat still_step
            refine wpStill_nil ?_
            go_wp2_with fail
            refine wp_region_tail 9 (by kernel_rfl) (by kernel_rfl) ?_
            simp only [List.take_succ_cons, List.take_zero, List.drop_succ_cons, List.drop_zero]
            repeat still_step
            still_call (sgn_c o lvl _ hos h0 h1)
            refine wpStill_nil ?_
            go_wp2_with fail
            obtain ⟨W3, hW3⟩ : ∃ W3, W3 = (W.setCell ⟨s1.rsnB, o / 2, none⟩ (.pointer (some ⟨c, 0, none⟩))).setCell ⟨s1.modelB, o / 2, none⟩ (.int .i64 (sgn o lvl)) := ⟨_, rfl⟩
            have u3 : RT s1 W ((s1.setRsn (o / 2) (some c)).setVal (o / 2) (sgn o lvl)) W3 := by rw [hW3]; exact u3.out
            rw [← hW3]
            clear hW3 fm fv fm2 fv2 fvf2 f20 fr frf cb02
            obtain ⟨s3, hs3⟩ : ∃ s3, s3 = (s1.setRsn (o / 2) (some c)).setVal (o / 2) (sgn o lvl) := ⟨_, rfl⟩
            have htv3 : s3.trailV = s1.trailV := by rw [hs3]; rfl
            have htr3 : s3.trail = s1.trail := by rw [hs3]; rfl
            have hsb3 : s3.sb = s0.sb := by rw [hs3]; exact hsb1
            rw [← hs3] at u3
            have hbno3 : ¬ Own s3.row bx := fun hb => by
              rcases u3.tr.own _ hb with h' | h'
              · exact hbno h'
              · omega
            have hbx3 : bx < W3.heap.size := by have := u3.tr.fr.size; omega
            have c14 : W3.cell? ⟨s0.sb, 14, none⟩ = some s3.trailV := by rw [← hsb3]; exact u3.rep.sc u3.rep.hd.f14
            have c0 : W3.cell? ⟨bx, 0, none⟩ = some (.int .i32 (o : Int)) := by rw [← cb0]; exact u3.tr.fr.cell hbx hbno
            replace hs3 := Lib.hid hs3
            replace htv3 := Lib.hid htv3
            replace htr3 := Lib.hid htr3
            have u3h := Lib.hid u3
            clear u3
            refine wp_region_firstI (fun w' => w'.cell? ⟨s0.sb, 14, none⟩ = some s3.trailV ∧ w'.cell? ⟨bx, 0, none⟩ = some (.int .i32 (o : Int))) 9 [0, 1, 2, 3, 4, 5, 6] [7, 8] (by kernel_rfl) (by kernel_rfl) ⟨c14, c0⟩ ?_
            iterate 7
              refine wpFirstI_cons rfl rfl (fun K hK => ?_)
              apply Exists.intro
              refine And.intro (fun w' hw' => ?_) ?_
              · obtain ⟨k9, kh⟩ := hw'
                go_simp
                first | exact rfl | exact ⟨rfl, rfl⟩
              go_simp
              refine hK _ ?_
              clear hK K
            refine wpFirstI_nil ?_
            have hR5 := (u3h.out.rep.alloc (.cells #[.int .i32 (o : Int)] 53)).drew.drew.drew
            have hbx5 : bx < (W3.alloc (.cells #[.int .i32 (o : Int)] 53)).drew.drew.drew.heap.size := by
              show bx < (W3.alloc (.cells #[.int .i32 (o : Int)] 53)).heap.size
              simp; omega
            have htrl3 : s3.trail.length ≤ 1000000000 := by rw [htr3.out]; exact hW1.out.trl
            refine wpActsI_cons rfl ?_
            go_wp2_with fail
            refine ⟨⟨?_, ?_⟩, ?_⟩
            · rw [← hsb3]; exact hR5.sc hR5.hd.f14
            · simp [World.cell?_alloc_past _ _ _ hbx3, c0]
            refine wpActsI_cons rfl ?_
            refine wpList_append_rows rfl _ _ 57 rfl 53 iL (.int .i32 0) 1 4 Tryz.underlying57 hiL hz0 hz1 hz2 rfl (by decide) s3.trailV s3.trail.length (s3.trail.map i32) rfl (hR5.rows.own .trail) ⟨W3.heap.size, 0, none⟩ 1 1 [i32 o] rfl rfl (cell_new_one W3 _ _ _ rfl) (by simp [i32, Value.oneCell']) (by unfold maxLen; omega) (by omega) ?_
            intro v' w6 ho6 hg hf6
            obtain ⟨g6, cap6, rfl, _, _⟩ := own_form ho6 (by omega)
            obtain ⟨m1, m2⟩ := hR5.midTrail ho6 hg hf6
            obtain ⟨p1, p2, p3⟩ := hR5.push o ho6 hg hf6
            obtain ⟨u14, hu14⟩ := Option.isSome_iff_exists.1 p1
            have hu14 : w6.cell? ⟨s0.sb, 14, none⟩ = some u14 := by rw [← hsb3]; exact hu14
            have p2 : w6.frozen? ⟨s0.sb, 14, none⟩ = false := by rw [← hsb3]; exact p2
            have hT6 := ((t1.out.trans u3h.out).alloc (.cells #[.int .i32 (o : Int)] 53)).drew.drew.drew.trans p3
            rw [hsb3] at hT6
            replace hT6 := Lib.hid hT6
            go_step
            refine ⟨⟨?_, ?_⟩, wpActsI_nil ?_⟩
            · rw [← hsb3]; exact m1 14 _ hR5.hd.f14
            · rw [m2 _ _ hbx5 hbno3]; simp [World.cell?_alloc_past _ _ _ hbx3, c0]
            clear m1 m2 p1 ho6 hg hf6 c14 c0 p3
            simp only [List.drop_succ_cons, List.drop_zero]
            go_wp2_with fail
            have hB3 := hP.unit hB.out (by rw [hn1.out]; exact hi) hoc.out hd.out
            refine ⟨⟨i + 1, _, by go_num, ?_, hT6.out, ?_, ?_, ?_⟩, by simp [intOf]; omega⟩
            · rw [hs3.out]; exact hB3
            · show s3.sb = _; exact hsb3
            · rw [hs3.out]; exact hn1.out
            · rw [hs3.out]; exact hV1.out
          · have hzb : (s1.va (o / 2) == 0) = false := by simpa using hz
            rw [if_neg hz] at hd
            obtain ⟨X, hX⟩ : ∃ X, X = s1.va (o / 2) := ⟨_, rfl⟩
            obtain ⟨D, hD⟩ : ∃ D : Bool, D = decide (o % 2 = 0) := ⟨_, rfl⟩
            have hPos := fun w0 => Pos_c o w0 hos
            have hcase : ((decide (0 < X) != D) = false ∧ s1.lst o = 1) ∨ ((decide (0 < X) != D) = true ∧ s1.lst o = 2) := by
              by_cases hp : (0 < s1.va (o / 2)) = (o % 2 = 0)
              · rw [if_pos hp] at hd; exact .inl ⟨by rw [hX, hD]; simp [hp], hd⟩
              · rw [if_neg hp] at hd
                refine .inr ⟨?_, hd⟩
                rw [hX, hD]
                cases he : (decide (0 < s1.va (o / 2)) != decide (o % 2 = 0))
                · exact absurd (by simpa using he) hp
                · rfl
            rw [← hX] at fv hzb
            simp only [← hD] at hPos
            clear hd hX hD hz
            replace hPos := Lib.hid hPos
            rcases hcase with ⟨hb, hd⟩ | ⟨hb, hd⟩
            · have hbb : (!(decide (0 < X) == D)) = false := by simpa using hb
              replace hd := Lib.hid hd
              go_wp2_with (first
                | (go_at_call 37; refine Calls.ret (Var_c o _ hos) ?_)
                | (go_at_call 57; refine Calls.ret (hPos.out _) ?_))
              have hB3 := hP.sat hB.out (by rw [hn1.out]; exact hi) hoc.out hd.out
              exact ⟨⟨i + 1, s1, by go_num, hB3, hT1.out.alloc _, hsb1, hn1.out, hV1.out⟩, by simp [intOf]; omega⟩
            · have hbb : (!(decide (0 < X) == D)) = true := by simpa using hb
              replace hd := Lib.hid hd
              go_wp2_with (first
                | (go_at_call 37; refine Calls.ret (Var_c o _ hos) ?_)
                | (go_at_call 57; refine Calls.ret (hPos.out _) ?_))
              go_ret
              exact .inr ⟨s1, c, rfl, hP.conf hB.out (by rw [hn1.out]; exact hi) hoc.out hd.out, hT1.out.alloc _, hsb1⟩
        · have hin : i = n := by omega
          subst hin
          obtain ⟨I, hI, hI0, hIJ, hIC⟩ := hP.toSP (by rw [hn1]; exact hB)
          replace hW1 := Lib.hid hW1
          replace hT1 := Lib.hid hT1
          replace hV1 := Lib.hid hV1
          replace hB := Lib.hid hB
          replace hn1 := Lib.hid hn1
          replace hK1 := Lib.hid hK1
          go_upto_region 16 with (first
            | (go_at_call 71
               rw [← hsb1]
               refine (sp_any hR1 h0 h1 hI hI0).mono ?_
               rintro e w5 hpost
               rcases hpost with ⟨rfl, s5, m5, j5, hI5, hms5, hT5⟩ | ⟨s5, m5, i5, j5, b5, c5, f5, rfl, hI5, hi5, hent5, hb5, hf5, hst5, hall5, hms5, hT5⟩))
          · have hJ5 : J (p + 1) s5.toMS := by rw [hms5]; exact hIJ j5 m5 hI5
            have hl5 : l < s5.nv * 2 := by
              show l < s5.toMS.nv * 2
              rw [hms5]
              show l < m5.nv * 2
              exact hI.nv hI5
            have hR5 := hT5.rep
            have hsb5 : s5.sb = s0.sb := hT5.sb.trans hsb1
            have f10 : w5.cell? ⟨s0.sb, 10, none⟩ = some (.slice (some ⟨s5.pbHB, 0, none⟩) (s5.nv * 2) (s5.nv * 2)) := by rw [← hsb5]; exact hR5.sc hR5.hd.f10
            have f11 : w5.cell? ⟨s0.sb, 11, none⟩ = some (.slice (some ⟨s5.amoHB, 0, none⟩) (s5.nv * 2) (s5.nv * 2)) := by rw [← hsb5]; exact hR5.sc hR5.hd.f11
            have g10 := hR5.pbH hl5
            have g11 := hR5.amoH hl5
            have hK5 := hP.len hJ5
            have hT0 := hT1.out.trans hT5
            replace hms5 := Lib.hid hms5
            replace hI5 := Lib.hid hI5
            replace hT5 := Lib.hid hT5
            replace hT0 := Lib.hid hT0
            replace hJ5 := Lib.hid hJ5
            replace hK5 := Lib.hid hK5
            replace hsb5 := Lib.hid hsb5
            replace hIJ := Lib.hid hIJ
            replace hIC := Lib.hid hIC
            clear hR1 hR5
            go_wp2_with fail
            go_loopw [110] (fun v w' => v = .int .i64 0 ∧ w' = w5) (fun _ _ => 0)
            case atStart => exact ⟨rfl, rfl⟩
            case round =>
              obtain ⟨rfl, rfl⟩ := hrel
              go_wp2_with fail
              go_loopw [138] (fun v w' => v = .int .i64 0 ∧ w' = wr) (fun _ _ => 0)
              case atStart => exact ⟨rfl, rfl⟩
              case round =>
                obtain ⟨rfl, rfl⟩ := hrel
                go_wp2_with fail
                exact ⟨⟨p + 1, s5, by go_num, hJ5.out, hT0.out, hsb5.out⟩, by have := hK1.out; simp [intOf]; omega⟩
          · have hC5 : Cf c5 s5.toMS := by rw [hms5]; exact hIC i5 j5 b5 c5 f5 m5 hI5 hi5 hent5 hb5 hf5 hst5 hall5
            have hT0 := hT1.out.trans hT5
            have hsb5 : s5.sb = s0.sb := hT5.sb.trans hsb1
            replace hT0 := Lib.hid hT0
            replace hsb5 := Lib.hid hsb5
            replace hC5 := Lib.hid hC5
            clear hms5 hI5 hT5 hi5 hent5 hb5 hf5 hst5 hall5 hIC hIJ
            go_wp2_with fail
            go_ret
            exact .inr ⟨s5, c5, rfl, hC5.out, hT0.out, hsb5.out⟩
    · replace hJ := Lib.hid hJ
      replace hT := Lib.hid hT
      replace hsb := Lib.hid hsb
      replace htv := Lib.hid htv
      replace hW := Lib.hid hW
      replace htl := Lib.hid htl
      replace hnv1 := Lib.hid hnv1
      go_wp2_with fail
      go_ret
      exact .inl ⟨rfl, s, p, hJ.out, by have := htl.out; omega, hT.out, hsb.out⟩
end Go.Proofs.YtiimddkopiknpaaGreat

/-
  unifyLiteral: a literal is bound, and propagated.
-/
namespace Go.Proofs.YtiimddkopiknpaaGreat
open Go.RowKit

theorem PRPost.trans {s0 s1 : St} {w0 w1 : World} {J : Nat → MS → Prop} {Cf : Nat → MS → Prop} {e : Ending} {w' : World} (h : RT s0 w0 s1 w1) (hp : PRPost s1 w1 J Cf e w') : PRPost s0 w0 J Cf e w' := by
  rcases hp with ⟨he, s, p, h1, h2, h3, h4⟩ | ⟨s, c, he, h1, h2, h3⟩
  · exact .inl ⟨he, s, p, h1, h2, h.trans h3, h4.trans h.sb⟩
  · exact .inr ⟨s, c, he, h1, h.trans h2, h3.trans h.sb⟩

set_option maxRecDepth 100000 in
set_option maxHeartbeats 2000000 in
theorem unify_c {s0 : St} {w0 : World} (h : Rep s0 w0) {l : Nat} {lvl : Int} (hl : l < s0.nv * 2) (hnv : s0.nv ≤ 1000000) (htr : s0.trail.length ≤ 1000000000) (h0 : 0 ≤ lvl) (h1 : lvl < 1000000)
    {K : Nat} {J : Nat → MS → Prop} {B : Nat → Nat → Nat → MS → Prop} {Cf : Nat → MS → Prop} (hP : PRI lvl K J B Cf) (hJ0 : J s0.trail.length ((s0.toMS.setVal (l / 2) (sgn l lvl)).push l)) :
    Calls Tryz.prog 34 #[.pointer (some ⟨s0.sb, 0, none⟩), .int .i32 (l : Int), .int .i64 lvl] w0 (PRPost s0 w0 J Cf) := by
  obtain ⟨iL, hiL, hz0, hz1, hz2⟩ := info_parts infoLit
  have hlv : l / 2 < s0.nv := by omega
  have hls : l < 2147483648 := by omega
  have f15 : w0.cell? ⟨s0.sb, 15, none⟩ = some (.slice (some ⟨s0.modelB, 0, none⟩) s0.nv s0.nv) := h.sc h.hd.f15
  have g1 := h.val hlv
  have g2 := h.valf (l / 2)
  have u1 := h.setVal (l / 2) (sgn l lvl)
  have f14 : (w0.setCell ⟨s0.modelB, l / 2, none⟩ (.int .i64 (sgn l lvl))).cell? ⟨s0.sb, 14, none⟩ = some s0.trailV := u1.rep.sc u1.rep.hd.f14
  have ovI : (l : Int) / 2 < (s0.nv : Int) := by omega
  have ov0 : (0 : Int) ≤ (l : Int) / 2 := by omega
  have ovN : ((l : Int) / 2).toNat = l / 2 := by omega
  replace hnv := Lib.hid hnv
  replace hJ0 := Lib.hid hJ0
  replace u1 := Lib.hid u1
  obtain ⟨tl, htl⟩ : ∃ tl, tl = s0.trail.length := ⟨_, rfl⟩
  rw [← htl] at htr hJ0
  go_enter Tryz.func34, Tryz.ntmps34
  go_wp2_with fail
  refine wp_region_tail 9 (by kernel_rfl) (by kernel_rfl) ?_
  simp only [List.take_succ_cons, List.take_zero, List.drop_succ_cons, List.drop_zero]
  repeat still_step
  still_call (Var_c l _ hls)
  repeat still_step
  still_call (sgn_c l lvl _ hls h0 h1)
  refine wpStill_nil ?_
  go_upto_region 3 with (first
    | (at_builtin
       refine wpList_append_rows rfl _ _ 57 rfl 53 iL (.int .i32 0) 1 4 Tryz.underlying57 hiL hz0 hz1 hz2 rfl (by decide) s0.trailV s0.trail.length (s0.trail.map i32) rfl ((u1.out.alloc _).rep.rows.own .trail) ⟨w0.heap.size, 0, none⟩ 1 1 [i32 l] rfl rfl (cell_new_one _ _ _ _ (by simp)) (by simp [i32, Value.oneCell']) (by rw [← htl]; unfold maxLen; omega) (by rw [← htl]; omega) ?_
       intro v' w4 ho hg hf
       obtain ⟨g4, cap4, rfl, _, _⟩ := own_form ho (by omega)
       obtain ⟨p1, p2, p3⟩ := (u1.out.alloc _).drew.rep.push l ho hg hf
       obtain ⟨u14, hu14⟩ := Option.isSome_iff_exists.1 p1
       have hu14 : w4.cell? ⟨s0.sb, 14, none⟩ = some u14 := hu14
       have p2 : w4.frozen? ⟨s0.sb, 14, none⟩ = false := p2
       have p3 := (u1.out.alloc _).drew.trans p3
       have k14 : (w4.setCell ⟨s0.sb, 14, none⟩ (.slice (some ⟨g4, 0, none⟩) (s0.trail.length + 1) cap4)).cell? ⟨s0.sb, 14, none⟩ = some (.slice (some ⟨g4, 0, none⟩) (s0.trail.length + 1) cap4) := p3.rep.sc p3.rep.hd.f14
       replace p3 := Lib.hid p3
       clear p1 ho hg hf f14))
  have hw1 : IntKind.i64.wrap (((s0.trail.length : Nat) : Int) + 1 - 1) = ((s0.trail.length : Nat) : Int) := by rw [IntWalk.i64_in _ (by omega)]; omega
  have htr' : s0.trail.length ≤ 1000000000 := by omega
  replace hw1 := Lib.hid hw1
  rw [htl] at hJ0
  go_wp2_with (first
    | (go_at_call 59
       refine (prop_c p3.out.rep h0 h1 hP hJ0.out).mono ?_
       rintro e w5 hpost
       have hpost' := Lib.hid (PRPost.trans p3.out hpost)
       rcases hpost with ⟨rfl, _⟩ | ⟨s5, c5, rfl, _⟩))
  all_goals
    go_ret
    exact hpost'.out
end Go.Proofs.YtiimddkopiknpaaGreat

/-
  The invariants are kept by the rounds of simplifyPropClauses and of propagate.
-/
namespace Go.Proofs.YtiimddkopiknpaaGreat

section
variable {u0 lvl p : Nat} {m0 m : MS}

/-- the literal's list as it will be: what is kept, then what is yet to be seen -/
def VV (m : MS) (lit : Nat) (L : List (Nat × Nat)) (i j : Nat) : Nat → List (Nat × Nat) := fun t => if t = lit then (m.wl lit).take j ++ L.drop i else m.wl t

structure SI (u0 lvl : Nat) (m0 : MS) (p lit : Nat) (L : List (Nat × Nat)) (i j : Nat) (m : MS) : Prop where
  pi : PI u0 lvl m0 p (VV m lit L i j) m
  kept : ∀ e ∈ (m.wl lit).take j, ∃ x ∈ m.lits e.2, m.lst x = 1
  bin : ∀ e ∈ m.wb lit, m.lst e.1 = 1
  hp : p < m.trail.length
  tp : nth m.trail p = lit
  len : (m.wl lit).length = L.length
  ji : j ≤ i
  il : i ≤ L.length
  rest : ∀ k, i ≤ k → k < L.length → ent (m.wl lit) k = ent L k

theorem SI.nv {lit : Nat} {L : List (Nat × Nat)} {i j : Nat} (h : SI u0 lvl m0 p lit L i j m) : lit < m.nv * 2 := by rw [← h.tp]; exact h.pi.core.wf.tr p h.hp
theorem SI.t1 {lit : Nat} {L : List (Nat × Nat)} {i j : Nat} (h : SI u0 lvl m0 p lit L i j m) : m.lst lit = 1 := by rw [← h.tp]; exact h.pi.core.tl.tr1 p h.hp
theorem SI.lv {lit : Nat} {L : List (Nat × Nat)} {i j : Nat} (h : SI u0 lvl m0 p lit L i j m) : m.lev (lit / 2) = lvl := by rw [← h.tp]; exact h.pi.lv p (Nat.le_refl _) h.hp
theorem SI.at_ {lit : Nat} {L : List (Nat × Nat)} {i j b c : Nat} (h : SI u0 lvl m0 p lit L i j m) (hi : i < L.length) (he : ent L i = (b, c)) : VV m lit L i j lit = (m.wl lit).take j ++ (b, c) :: L.drop (i + 1) := by
  simp only [VV, if_true]; rw [drop_ent L i hi, he]
theorem SI.en {lit : Nat} {L : List (Nat × Nat)} {i j b c : Nat} (h : SI u0 lvl m0 p lit L i j m) (hi : i < L.length) (he : ent L i = (b, c)) : b ∈ m.lits c ∧ c ∈ m.ids ∧ 3 ≤ (m.lits c).length ∧ (lit = negL (nth (m.lits c) 0) ∨ lit = negL (nth (m.lits c) 1)) :=
  h.pi.wt.en lit h.nv (b, c) (by rw [h.at_ hi he]; simp)

theorem wf_setWl (h : Wf m) {t : Nat} {L' : List (Nat × Nat)} (hL : ∀ e ∈ L', e.1 < m.nv * 2 ∧ e.2 ∈ m.ids) (hl : L'.length ≤ 1000000000) : Wf (m.setWl t L') := by
  refine ⟨h.nv0, h.nv1, h.len, h.lit, h.word, ?_, h.wb, ?_, h.wbl, h.tr, h.trl⟩
  · intro t' ht' i hi
    simp only [MS.setWl] at hi ⊢
    split at hi
    · rename_i e; rw [if_pos e]; exact hL _ (ent_mem _ _ hi)
    · rename_i e; rw [if_neg e]; exact h.wl t' ht' i hi
  · intro t' ht'
    simp only [MS.setWl]
    split
    · exact hl
    · exact h.wll t' ht'
theorem wf_swapC (h : Wf m) {c a b : Nat} (hc : c ∈ m.ids) (ha : a < (m.lits c).length) (hb : b < (m.lits c).length) : Wf (m.swapC c a b) := by
  have hl : ∀ c', ((m.swapC c a b).lits c').length = (m.lits c').length := fun c' => by
    simp only [MS.swapC, MS.setLits]; split
    · rename_i e; subst e; exact swapL_len _ _ _
    · rfl
  refine ⟨h.nv0, h.nv1, fun c' hc' => by rw [hl]; exact h.len c' hc', ?_, h.word, h.wl, h.wb, h.wll, h.wbl, h.tr, h.trl⟩
  intro c' hc' i hi
  rw [hl] at hi
  have hm : nth ((m.swapC c a b).lits c') i ∈ (m.lits c') := by
    have : ((m.swapC c a b).lits c').Perm (m.lits c') := by
      simp only [MS.swapC, MS.setLits]; split
      · rename_i e; subst e; exact swapL_perm _ _ _ ha hb
      · exact .refl _
    exact this.mem_iff.1 (nth_mem _ _ (by rw [hl]; exact hi))
  obtain ⟨k, hk, hk2⟩ := mem_nth _ _ hm
  rw [← hk2]; exact h.lit c' hc' k hk
theorem wf_lock (h : Wf m) (c : Nat) : Wf (m.lockC c) := by
  refine ⟨h.nv0, h.nv1, h.len, h.lit, ?_, h.wl, h.wb, h.wll, h.wbl, h.tr, h.trl⟩
  intro c' hc'
  simp only [MS.lockC, MS.setWord]
  have := h.word c' hc'
  split
  · rename_i e
    subst e
    exact Nat.or_lt_two_pow (n := 32) (by omega) (by omega)
  · exact this
theorem sim_setWl (m : MS) (t : Nat) (L' : List (Nat × Nat)) : Sim m (m.setWl t L') := ⟨rfl, rfl, rfl, rfl, rfl, rfl, rfl, rfl, fun _ _ => .refl _⟩
theorem sim_lock (m : MS) (c : Nat) : Sim m (m.lockC c) := ⟨rfl, rfl, rfl, rfl, rfl, rfl, rfl, rfl, fun _ _ => .refl _⟩

theorem mem_fix {c lit x : Nat} (hc : c ∈ m.ids) (hl : 2 ≤ (m.lits c).length) : x ∈ (m.fix c lit).lits c ↔ x ∈ m.lits c := ((fix_sim (lit := lit) (fun _ => hl) hc).pm c hc).mem_iff

/-- an entry is kept, perhaps with another blocker and the clause turned -/
theorem SI.keep {lit : Nat} {L : List (Nat × Nat)} {i j b c f : Nat} {m' : MS} (h : SI u0 lvl m0 p lit L i j m) (hi : i < L.length) (he : ent L i = (b, c)) (s : Sim m m') (hW : Wf m') (hw : Wt m' (VV m lit L i j)) (hwl : m'.wl = m.wl)
    (hf : f ∈ m.lits c) (hx : ∃ x ∈ m.lits c, m.lst x = 1) : SI u0 lvl m0 p lit L (i + 1) (j + 1) (m'.setWl lit ((m.wl lit).set j (f, c))) := by
  obtain ⟨e1, e2, e3, e4⟩ := h.en hi he
  have hji := h.ji
  have hjl : j < (m.wl lit).length := by rw [h.len]; omega
  have hV1 : VV (m'.setWl lit ((m.wl lit).set j (f, c))) lit L (i + 1) (j + 1) lit = (m.wl lit).take j ++ (f, c) :: L.drop (i + 1) := by
    simp only [VV, MS.setWl, if_true]
    rw [take_set_succ _ _ _ hjl]; simp
  have hV2 : ∀ t, t ≠ lit → VV (m'.setWl lit ((m.wl lit).set j (f, c))) lit L (i + 1) (j + 1) t = VV m lit L i j t := by
    intro t ht
    simp only [VV, MS.setWl, ht, if_false, hwl]
  have hwt : Wt m' (VV (m'.setWl lit ((m.wl lit).set j (f, c))) lit L (i + 1) (j + 1)) :=
    hw.blk (h.at_ hi he) ((s.pm c e2).mem_iff.2 hf) hV1 hV2
  have hfl := h.pi.core.litlt e2 hf
  have hW2 : Wf (m'.setWl lit ((m.wl lit).set j (f, c))) := by
    refine wf_setWl hW ?_ ?_
    · intro e he'
      rw [s.nv, s.ids]
      rcases List.mem_or_eq_of_mem_set he' with h' | h'
      · obtain ⟨k, hk, hk2⟩ := mem_ent h'
        rw [← hk2]; exact h.pi.core.wf.wl lit h.nv k hk
      · rw [h']; exact ⟨hfl, e2⟩
    · rw [List.length_set]; exact h.pi.core.wf.wll lit h.nv
  have s2 : Sim m (m'.setWl lit ((m.wl lit).set j (f, c))) := s.trans (sim_setWl _ _ _)
  have hmem : ∀ t, ∀ e' ∈ VV (m'.setWl lit ((m.wl lit).set j (f, c))) lit L (i + 1) (j + 1) t, ∃ e ∈ VV m lit L i j t, e.2 = e'.2 := by
    intro t e' he'
    by_cases ht : t = lit
    · subst ht
      rw [hV1] at he'
      rw [h.at_ hi he]
      rcases List.mem_append.1 he' with h' | h'
      · exact ⟨e', List.mem_append_left _ h', rfl⟩
      · rcases List.mem_cons.1 h' with rfl | h'
        · exact ⟨(b, c), by simp, rfl⟩
        · exact ⟨e', by simp [h'], rfl⟩
    · rw [hV2 t ht] at he'; exact ⟨e', he', rfl⟩
  have hlen2 : ((m'.setWl lit ((m.wl lit).set j (f, c))).wl lit) = (m.wl lit).set j (f, c) := by simp [MS.setWl]
  refine ⟨h.pi.sim s2 hW2 (hwt.sim (sim_setWl _ _ _) rfl) (h.pi.pc.sim s2 (by have := h.hp; omega) h.pi.core.wf.tr h.pi.wt fun k _ => hmem _), ?_, ?_, by rw [s2.trail]; exact h.hp, by rw [s2.trail]; exact h.tp, by rw [hlen2, List.length_set]; exact h.len, by omega, by omega, ?_⟩
  · intro e he'
    rw [hlen2, take_set_succ _ _ _ hjl] at he'
    have pm : ∀ c' x, c' ∈ m.ids → (x ∈ (m'.setWl lit ((m.wl lit).set j (f, c))).lits c' ↔ x ∈ m.lits c') := fun c' x hc' => (s2.pm c' hc').mem_iff
    rcases List.mem_append.1 he' with h' | h'
    · obtain ⟨x, x1, x2⟩ := h.kept e h'
      have hid : e.2 ∈ m.ids := (h.pi.wt.en lit h.nv e (by rw [h.at_ hi he]; exact List.mem_append_left _ h')).2.1
      exact ⟨x, (pm _ _ hid).2 x1, by rw [s2.lst]; exact x2⟩
    · have : e = (f, c) := by simpa using h'
      subst this
      obtain ⟨x, x1, x2⟩ := hx
      exact ⟨x, (pm _ _ e2).2 x1, by rw [s2.lst]; exact x2⟩
  · intro e he'
    rw [s2.wb] at he'
    rw [s2.lst]; exact h.bin e he'
  · intro k hk hk2
    rw [hlen2, ent_set _ _ _ _ hjl, if_neg (by omega)]
    exact h.rest k (by omega) hk2

theorem SI.first {lit : Nat} {L : List (Nat × Nat)} {i j b c : Nat} (h : SI u0 lvl m0 p lit L i j m) (hi : i < L.length) (he : ent L i = (b, c)) :
    nth ((m.fix c lit).lits c) 1 = negL lit ∧ nth ((m.fix c lit).lits c) 0 ≠ negL lit := by
  obtain ⟨e1, e2, e3, e4⟩ := h.en hi he
  have hnd := h.pi.core.ndc c e2
  have hne : nth (m.lits c) 0 ≠ nth (m.lits c) 1 := fun e => by
    have := nodup_nth hnd (i := 0) (j := 1) (by omega) (by omega) (by rw [e]); omega
  rcases fix_two (m := m) (lit := lit) (c := c) (by omega) with ⟨b1, b2, b3⟩ | ⟨b1, b2, b3⟩
  · rcases e4 with e4 | e4
    · exfalso; apply b3; rw [e4, negL_negL]
    · have : nth (m.lits c) 1 = negL lit := by rw [e4, negL_negL]
      rw [b1, b2]; exact ⟨this, b3⟩
  · rw [b1, b2]; exact ⟨b3, fun e => hne (by rw [b3, e])⟩

theorem SI.false_ {lit : Nat} {L : List (Nat × Nat)} {i j b c f : Nat} (h : SI u0 lvl m0 p lit L i j m) (hi : i < L.length) (he : ent L i = (b, c)) (hf : f = nth ((m.fix c lit).lits c) 0)
    (hk : ∀ k', 2 ≤ k' → k' < (m.lits c).length → m.lst (nth (m.lits c) k') = 2) : ∀ y ∈ m.lits c, y ≠ f → m.lst y = 2 := by
  obtain ⟨e1, e2, e3, e4⟩ := h.en hi he
  obtain ⟨g1, g2⟩ := h.first hi he
  intro y hy hne
  rw [← mem_fix (lit := lit) e2 (by omega)] at hy
  obtain ⟨k, hk1, hk2⟩ := mem_nth _ y hy
  rw [fix_len] at hk1
  by_cases h2 : 2 ≤ k
  · rw [← hk2, fix_nth m c lit k (by omega) h2]; exact hk k h2 hk1
  · have : k = 0 ∨ k = 1 := by omega
    rcases this with rfl | rfl
    · exact (hne (by rw [hf]; exact hk2.symm)).elim
    · rw [← hk2, g1]; exact lst_neg1 h.t1

theorem si_spi (hl : 1 ≤ lvl) (hb : u0 + m0.nv ≤ 1000000000) {lit : Nat} {L : List (Nat × Nat)} : SPI lit (lvl : Int) L (fun i j m => SI u0 lvl m0 p lit L i j m) where
  wf h := h.pi.core.wf
  nv h := h.nv
  fit h := ⟨h.len, h.ji, h.il, h.rest, lst_neg1 h.t1⟩
  caseA := by
    intro i j m b c h hi he hx
    obtain ⟨e1, e2, e3, e4⟩ := h.en hi he
    exact h.keep hi he (Sim.refl m) h.pi.core.wf h.pi.wt rfl e1 ⟨b, e1, hx⟩
  caseB := by
    intro i j m b c f h hi he _ hf hx
    obtain ⟨e1, e2, e3, e4⟩ := h.en hi he
    have hfm : f ∈ m.lits c := by
      rw [← mem_fix (lit := lit) e2 (by omega), hf]; exact nth_mem _ _ (by rw [fix_len]; omega)
    refine h.keep hi he (fix_sim (fun _ => by omega) e2) (h.pi.core.wf.fix e2 lit) (h.pi.wt.fix e2 (by omega)) (fix_wl _ _ _) hfm ⟨f, hfm, hx⟩
  caseC := by
    intro i j m b c f k h hi he _ hf _ hk2 hkl _ hkn
    obtain ⟨e1, e2, e3, e4⟩ := h.en hi he
    obtain ⟨g1, g2⟩ := h.first hi he
    have s1 : Sim m (m.fix c lit) := fix_sim (fun _ => by omega) e2
    have hfm : f ∈ (m.fix c lit).lits c := by rw [hf]; exact nth_mem _ _ (by rw [fix_len]; omega)
    have hnk : nth ((m.fix c lit).lits c) k = nth (m.lits c) k := fix_nth m c lit k (by omega) hk2
    have hW1 := h.pi.core.wf.fix e2 lit
    have hkl2 : k < ((m.fix c lit).lits c).length := by rw [fix_len]; exact hkl
    have hc1 : c ∈ (m.fix c lit).ids := by rw [fix_ids]; exact e2
    have hW2 : Wf ((m.fix c lit).swapC c 1 k) := wf_swapC hW1 hc1 (by rw [fix_len]; omega) hkl2
    have s2 : Sim (m.fix c lit) ((m.fix c lit).swapC c 1 k) := ⟨rfl, rfl, rfl, rfl, rfl, rfl, rfl, rfl, fun c' _ => by
      simp only [MS.swapC, MS.setLits]; split
      · rename_i e; subst e; exact swapL_perm _ _ _ (by rw [fix_len]; omega) hkl2
      · exact .refl _⟩
    have s3 : Sim ((m.fix c lit).swapC c 1 k) (((m.fix c lit).swapC c 1 k).appWl (negL (nth (m.lits c) k)) (f, c)) := ⟨rfl, rfl, rfl, rfl, rfl, rfl, rfl, rfl, fun _ _ => .refl _⟩
    have s : Sim m (((m.fix c lit).swapC c 1 k).appWl (negL (nth (m.lits c) k)) (f, c)) := (s1.trans s2).trans s3
    have hnl : nth (m.lits c) k < m.nv * 2 := h.pi.core.wf.lit c e2 k hkl
    have hnl2 := negL_lt hnl
    have htne : negL (nth (m.lits c) k) ≠ lit := by
      intro e
      have : nth (m.lits c) k = negL lit := by rw [← e, negL_negL]
      rw [this] at hkn
      exact hkn (lst_neg1 h.t1)
    have hwl0 : (((m.fix c lit).swapC c 1 k).appWl (negL (nth (m.lits c) k)) (f, c)).wl lit = m.wl lit := by
      simp only [MS.appWl, Ne.symm htne, if_false]
      show (m.fix c lit).wl lit = _
      rw [fix_wl]
    have hwl1 : ∀ t, t ≠ negL (nth (m.lits c) k) → (((m.fix c lit).swapC c 1 k).appWl (negL (nth (m.lits c) k)) (f, c)).wl t = m.wl t := by
      intro t ht
      simp only [MS.appWl, ht, if_false]
      show (m.fix c lit).wl t = _
      rw [fix_wl]
    have hwl2 : (((m.fix c lit).swapC c 1 k).appWl (negL (nth (m.lits c) k)) (f, c)).wl (negL (nth (m.lits c) k)) = m.wl (negL (nth (m.lits c) k)) ++ [(f, c)] := by
      simp only [MS.appWl, if_true]
      show (m.fix c lit).wl _ ++ _ = _
      rw [fix_wl]
    have hV1 : VV (((m.fix c lit).swapC c 1 k).appWl (negL (nth (m.lits c) k)) (f, c)) lit L (i + 1) j lit = (m.wl lit).take j ++ L.drop (i + 1) := by
      simp only [VV, if_true]; rw [hwl0]
    have hV2 : VV (((m.fix c lit).swapC c 1 k).appWl (negL (nth (m.lits c) k)) (f, c)) lit L (i + 1) j (negL (nth (m.lits c) k)) = VV m lit L i j (negL (nth (m.lits c) k)) ++ [(f, c)] := by
      simp only [VV, htne, if_false]; exact hwl2
    have hV3 : ∀ t, t ≠ lit → t ≠ negL (nth (m.lits c) k) → VV (((m.fix c lit).swapC c 1 k).appWl (negL (nth (m.lits c) k)) (f, c)) lit L (i + 1) j t = VV m lit L i j t := by
      intro t h1 h2
      simp only [VV, h1, if_false]; exact hwl1 t h2
    have hw1 : Wt (m.fix c lit) (VV m lit L i j) := h.pi.wt.fix e2 (by omega)
    have hw2 : Wt ((m.fix c lit).swapC c 1 k) (VV (((m.fix c lit).swapC c 1 k).appWl (negL (nth (m.lits c) k)) (f, c)) lit L (i + 1) j) :=
      hw1.move (((s1.pm c e2).map _).nodup_iff.2 (h.pi.core.ndc c e2)) (fun i' hi' => hW1.lit c hc1 i' hi') (by rw [fix_nv]; exact h.nv) (h.at_ hi he) g1 hfm hk2 hkl2 hV1 (by rw [hnk]; exact hV2) (by rw [hnk]; exact hV3)
    have hw3 := hw2.sim s3 rfl
    have hlen : (m.wl (negL (nth (m.lits c) k)) ++ [(f, c)]).length ≤ 1000000000 := by
      have h1 := hw3.len (t := negL (nth (m.lits c) k)) (by rw [s.nv]; exact hnl2)
      rw [hV2, s.ids] at h1
      have h2 := h.pi.core.idl
      simp only [VV, htne, if_false] at h1
      omega
    have hfl : f < m.nv * 2 := h.pi.core.litlt e2 ((s1.pm c e2).mem_iff.1 hfm)
    have hW3 : Wf (((m.fix c lit).swapC c 1 k).appWl (negL (nth (m.lits c) k)) (f, c)) := by
      refine ⟨hW2.nv0, hW2.nv1, hW2.len, hW2.lit, hW2.word, ?_, hW2.wb, ?_, hW2.wbl, hW2.tr, hW2.trl⟩
      · intro t ht i' hi'
        rw [s.nv] at ht ⊢
        rw [s.ids]
        by_cases e : t = negL (nth (m.lits c) k)
        · subst e
          rw [hwl2] at hi' ⊢
          have := ent_mem _ _ hi'
          rcases List.mem_append.1 this with h' | h'
          · obtain ⟨q, hq, hq2⟩ := mem_ent h'
            rw [← hq2]; exact h.pi.core.wf.wl _ ht q hq
          · have : ent (m.wl (negL (nth (m.lits c) k)) ++ [(f, c)]) i' = (f, c) := by simpa using h'
            rw [this]; exact ⟨hfl, e2⟩
        · rw [hwl1 t e] at hi' ⊢; exact h.pi.core.wf.wl t ht i' hi'
      · intro t ht
        rw [s.nv] at ht
        by_cases e : t = negL (nth (m.lits c) k)
        · subst e; rw [hwl2]; exact hlen
        · rw [hwl1 t e]; exact h.pi.core.wf.wll t ht
    have hji := h.ji
    refine ⟨h.pi.sim s hW3 hw3 ?_, ?_, ?_, by rw [s.trail]; exact h.hp, by rw [s.trail]; exact h.tp, by rw [hwl0]; exact h.len, by omega, by omega, ?_⟩
    · refine h.pi.pc.sim s (by have := h.hp; omega) h.pi.core.wf.tr h.pi.wt ?_
      intro i' hi' e' he'
      by_cases t1 : nth m.trail i' = lit
      · rw [t1] at he' ⊢
        rw [hV1] at he'
        rw [h.at_ hi he]
        rcases List.mem_append.1 he' with h' | h'
        · exact ⟨e', List.mem_append_left _ h', rfl⟩
        · exact ⟨e', by simp [h'], rfl⟩
      · by_cases t2 : nth m.trail i' = negL (nth (m.lits c) k)
        · exfalso
          have h3 := h.pi.core.tl.tr1 i' (by have := h.hp; omega)
          rw [t2] at h3
          have h4 := lst_neg1 h3
          rw [negL_negL] at h4
          exact hkn h4
        · rw [hV3 _ t1 t2] at he'; exact ⟨e', he', rfl⟩
    · intro e he'
      rw [hwl0] at he'
      obtain ⟨x, x1, x2⟩ := h.kept e he'
      have hid : e.2 ∈ m.ids := (h.pi.wt.en lit h.nv e (by rw [h.at_ hi he]; exact List.mem_append_left _ he')).2.1
      exact ⟨x, (s.pm _ hid).mem_iff.2 x1, by rw [s.lst]; exact x2⟩
    · intro e he'
      rw [s.wb] at he'
      rw [s.lst]; exact h.bin e he'
    · intro k' hk' hk2'
      rw [hwl0]; exact h.rest k' (by omega) hk2'
  caseD := by
    intro i j m b c f h hi he _ hf hx hk
    obtain ⟨e1, e2, e3, e4⟩ := h.en hi he
    have hfm : f ∈ m.lits c := by
      rw [← mem_fix (lit := lit) e2 (by omega), hf]; exact nth_mem _ _ (by rw [fix_len]; omega)
    have hfalse := h.false_ hi he hf hk
    have hnv0 := h.pi.ext.nv
    have s1 : Sim m (m.fix c lit) := fix_sim (fun _ => by omega) e2
    -- the literal is bound first, in the state before
    have hji := h.ji
    have hjl : j < (m.wl lit).length := by rw [h.len]; omega
    have hB := h.pi.bind hl (by have := h.hp; omega) hx (by rw [hnv0]; exact hb) e2 hfm hfalse
    have hu : m.va (f / 2) = 0 := by
      unfold MS.lst at hx
      split at hx
      · assumption
      · split at hx <;> cases hx
    have hfl := h.pi.core.litlt e2 hfm
    have hvl := h.pi.core.vl
    have hSI : SI u0 lvl m0 p lit L i j (m.bind f (some c) lvl) := by
      refine ⟨hB, ?_, ?_, by rw [bind_len]; have := h.hp; omega, by rw [bind_tr p h.hp]; exact h.tp, h.len, h.ji, h.il, h.rest⟩
      · intro e he'
        obtain ⟨x, x1, x2⟩ := h.kept e he'
        exact ⟨x, x1, by rw [bind_lst hvl hfl hu (by rw [x2]; decide)]; exact x2⟩
      · intro e he'
        have := h.bin e he'
        rw [bind_lst hvl hfl hu (by rw [this]; decide)]; exact this
    have hk2 := hSI.keep hi he (f := f) (fix_sim (fun _ => by show 2 ≤ (m.lits c).length; omega) (by show c ∈ m.ids; exact e2)) (hSI.pi.core.wf.fix (by show c ∈ m.ids; exact e2) lit) (hSI.pi.wt.fix (by show c ∈ m.ids; exact e2) (by show 2 ≤ (m.lits c).length; omega)) (fix_wl _ _ _) hfm ⟨f, hfm, (bind_self hvl hfl hl).1⟩
    have e0 : (((m.bind f (some c) lvl).fix c lit).setWl lit (((m.bind f (some c) lvl).wl lit).set j (f, c))).lockC c = (((m.fix c lit).setWl lit ((m.wl lit).set j (f, c))).pUnit c (lvl : Int) f) := by
      unfold MS.fix
      show (((if nth (m.lits c) 0 = negL lit then _ else _ : MS)).setWl lit _).lockC c = _
      split <;> rfl
    rw [← e0]
    exact ⟨hk2.pi.sim (sim_lock _ _) (wf_lock hk2.pi.core.wf c) (hk2.pi.wt.sim (sim_lock _ _) rfl) (hk2.pi.pc.sim (sim_lock _ _) (by have := hk2.hp; omega) hk2.pi.core.wf.tr hk2.pi.wt fun _ _ e' he' => ⟨e', he', rfl⟩), hk2.kept, hk2.bin, hk2.hp, hk2.tp, hk2.len, hk2.ji, hk2.il, hk2.rest⟩
end
end Go.Proofs.YtiimddkopiknpaaGreat

/-
  The invariants over propagate, whole.
-/
namespace Go.Proofs.YtiimddkopiknpaaGreat

structure BI (u0 lvl : Nat) (m0 : MS) (l p i : Nat) (m : MS) : Prop where
  pi : PI u0 lvl m0 p m.wl m
  hp : p < m.trail.length
  tp : nth m.trail p = l
  il : i ≤ (m.wb l).length
  done : ∀ k, k < i → m.lst (ent (m.wb l) k).1 = 1
structure JI (u0 lvl : Nat) (m0 : MS) (p : Nat) (m : MS) : Prop where
  pi : PI u0 lvl m0 p m.wl m
  hp : p ≤ m.trail.length
structure CI (u0 lvl : Nat) (m0 : MS) (c : Nat) (m : MS) : Prop where
  pi : ∃ p, p < m.trail.length ∧ PI u0 lvl m0 p m.wl m
  hc : c ∈ m.ids
  f : ∀ y ∈ m.lits c, m.lst y = 2
  at_ : ∃ y ∈ m.lits c, m.lev (y / 2) = lvl

section
variable {u0 lvl : Nat} {m0 : MS}
theorem BI.nv {l p i : Nat} {m : MS} (h : BI u0 lvl m0 l p i m) : l < m.nv * 2 := by rw [← h.tp]; exact h.pi.core.wf.tr p h.hp
theorem BI.t1 {l p i : Nat} {m : MS} (h : BI u0 lvl m0 l p i m) : m.lst l = 1 := by rw [← h.tp]; exact h.pi.core.tl.tr1 p h.hp
theorem BI.lv {l p i : Nat} {m : MS} (h : BI u0 lvl m0 l p i m) : m.lev (l / 2) = lvl := by rw [← h.tp]; exact h.pi.lv p (Nat.le_refl _) h.hp
theorem BI.en {l p i o c : Nat} {m : MS} (h : BI u0 lvl m0 l p i m) (hi : i < (m.wb l).length) (he : ent (m.wb l) i = (o, c)) : c ∈ m.ids ∧ o ∈ m.lits c ∧ negL l ∈ m.lits c ∧ ∀ y ∈ m.lits c, y ≠ o → y = negL l := by
  have hm := ent_mem _ _ hi
  rw [he] at hm
  obtain ⟨a1, a2, a3, a4, a5⟩ := h.pi.core.wbe l h.nv (o, c) hm
  exact ⟨a2, a1, a4, fun y hy hne => by rcases two_mem a3 a1 a4 a5 hy with h' | h'; exact (hne h').elim; exact h'⟩

theorem pri (hl : 1 ≤ lvl) (hb : u0 + m0.nv ≤ 1000000000) : PRI (lvl : Int) (u0 + m0.nv) (JI u0 lvl m0) (BI u0 lvl m0) (CI u0 lvl m0) where
  wf h := h.pi.core.wf
  len h := by have h1 := h.pi.core.bound; have h2 := h.pi.ext.nv; omega
  wfB h := ⟨h.pi.core.wf, h.nv, h.il, h.hp, by have h1 := h.pi.core.bound; have h2 := h.pi.ext.nv; omega⟩
  start h hp := ⟨h.pi, hp, rfl, Nat.zero_le _, fun k hk => by omega⟩
  sat := by
    intro l p i m o c h hi he hx
    refine ⟨h.pi, h.hp, h.tp, hi, fun k hk => ?_⟩
    by_cases e : k = i
    · rw [e, he]; exact hx
    · exact h.done k (by omega)
  unit := by
    intro l p i m o c h hi he hx
    obtain ⟨a1, a2, a3, a4⟩ := h.en hi he
    have hnv0 := h.pi.ext.nv
    have hB := h.pi.bind hl (by have := h.hp; omega) hx (by rw [hnv0]; exact hb) a1 a2 (fun y hy hne => by rw [a4 y hy hne]; exact lst_neg1 h.t1)
    have hu : m.va (o / 2) = 0 := by
      unfold MS.lst at hx
      split at hx
      · assumption
      · split at hx <;> cases hx
    have hol := h.pi.core.litlt a1 a2
    have hvl := h.pi.core.vl
    refine ⟨hB, by show p < (m.bind o (some c) lvl).trail.length; rw [bind_len]; have := h.hp; omega, by show nth (m.bind o (some c) lvl).trail p = l; rw [bind_tr p h.hp]; exact h.tp, hi, fun k hk => ?_⟩
    show (m.bind o (some c) lvl).lst (ent (m.wb l) k).1 = 1
    by_cases e : k = i
    · rw [e, he]; exact (bind_self hvl hol hl).1
    · have := h.done k (by omega)
      rw [bind_lst hvl hol hu (by rw [this]; decide)]; exact this
  conf := by
    intro l p i m o c h hi he hx
    obtain ⟨a1, a2, a3, a4⟩ := h.en hi he
    refine ⟨⟨p, h.hp, h.pi⟩, a1, fun y hy => ?_, ⟨negL l, a3, by rw [negL_div]; exact h.lv⟩⟩
    by_cases e : y = o
    · rw [e]; exact hx
    · rw [a4 y hy e]; exact lst_neg1 h.t1
  toSP := by
    intro l p m h
    refine ⟨fun i j m' => SI u0 lvl m0 p l (m.wl l) i j m', si_spi hl hb, ?_, ?_, ?_⟩
    · have hV : VV m l (m.wl l) 0 0 = m.wl := by
        funext t
        unfold VV
        by_cases e : t = l
        · rw [if_pos e, e]; simp
        · rw [if_neg e]
      refine ⟨by rw [hV]; exact h.pi, fun e he => by simp at he, fun e he => ?_, h.hp, h.tp, rfl, Nat.le_refl _, Nat.zero_le _, fun k _ _ => rfl⟩
      obtain ⟨k, hk, hk2⟩ := mem_ent he
      rw [← hk2]; exact h.done k hk
    · intro j m' hs
      have hV : VV m' l (m.wl l) (m.wl l).length j = (m'.setWl l ((m'.wl l).take j)).wl := by
        funext t
        unfold VV MS.setWl
        by_cases e : t = l
        · simp only [e, if_true]; simp
        · simp only [e, if_false]
      have s := sim_setWl m' l ((m'.wl l).take j)
      have hW : Wf (m'.setWl l ((m'.wl l).take j)) := by
        refine wf_setWl hs.pi.core.wf (fun e he => ?_) ?_
        · obtain ⟨k, hk, hk2⟩ := mem_ent (List.mem_of_mem_take he)
          rw [← hk2]; exact hs.pi.core.wf.wl l hs.nv k hk
        · have := hs.pi.core.wf.wll l hs.nv
          rw [List.length_take]; omega
      have hw := hs.pi.wt
      rw [hV] at hw
      refine ⟨⟨hs.pi.core.sim s hW, hw.sim s rfl, ?_, fun i h1 h2 => by rw [s.trail] at h2 ⊢; rw [s.lev]; exact hs.pi.lv i (by omega) h2, hs.pi.ext.sim s⟩, by rw [s.trail]; exact hs.hp⟩
      have hle : ∀ x, x < m'.nv * 2 → m'.lst x ≠ 0 → m'.lev (x / 2) ≤ lvl := fun x hx hf => hs.pi.core.le hx hf
      refine ⟨?_, ?_⟩
      · intro i hi e he
        show ∃ x ∈ m'.lits e.2, m'.lst x = 1 ∧ m'.lev (x / 2) ≤ m'.lev (nth m'.trail i / 2)
        have he : e ∈ (m'.setWl l ((m'.wl l).take j)).wl (nth m'.trail i) := he
        by_cases e' : i < p
        · refine hs.pi.pc.l i e' e ?_
          rw [hV]; exact he
        · have : i = p := by omega
          subst this
          have hl1 := hs.lv
          rw [hs.tp] at he ⊢
          have he2 : e ∈ (m'.wl l).take j := by simpa [MS.setWl] using he
          obtain ⟨x, x1, x2⟩ := hs.kept e he2
          have hid : e.2 ∈ m'.ids := (hs.pi.wt.en l hs.nv e (by rw [hV]; exact he)).2.1
          refine ⟨x, x1, x2, ?_⟩
          rw [hl1]
          exact hle x (hs.pi.core.litlt hid x1) (by rw [x2]; decide)
      · intro i hi e he
        show m'.lst e.1 = 1 ∧ m'.lev (e.1 / 2) ≤ m'.lev (nth m'.trail i / 2)
        have he : e ∈ m'.wb (nth m'.trail i) := he
        by_cases e' : i < p
        · exact hs.pi.pc.b i e' e he
        · have : i = p := by omega
          subst this
          have hl1 := hs.lv
          rw [hs.tp] at he ⊢
          have x2 := hs.bin e he
          obtain ⟨a1, a2, _⟩ := hs.pi.core.wbe l hs.nv e he
          refine ⟨x2, ?_⟩
          rw [hl1]
          exact hle _ (hs.pi.core.litlt a2 a1) (by rw [x2]; decide)
    · intro i j b c f m' hs hi he _ hf hx hk
      obtain ⟨e1, e2, e3, e4⟩ := hs.en hi he
      obtain ⟨g1, g2⟩ := hs.first hi he
      have hfm : f ∈ m'.lits c := by
        rw [← mem_fix (lit := l) e2 (by omega), hf]; exact nth_mem _ _ (by rw [fix_len]; omega)
      have hfalse := hs.false_ hi he hf hk
      have s1 : Sim m' (m'.fix c l) := fix_sim (fun _ => by omega) e2
      have s := s1.trans (sim_setWl (m'.fix c l) l ((m'.wl l).take j ++ (f, c) :: (m'.wl l).drop (i + 1)))
      have hd : (m'.wl l).drop (i + 1) = (m.wl l).drop (i + 1) := drop_same hs.len fun k h1 h2 => hs.rest k (by omega) h2
      have hV1 : ((m'.fix c l).setWl l ((m'.wl l).take j ++ (f, c) :: (m'.wl l).drop (i + 1))).wl l = (m'.wl l).take j ++ (f, c) :: (m.wl l).drop (i + 1) := by
        simp only [MS.setWl, if_true]; rw [hd]
      have hV2 : ∀ t, t ≠ l → ((m'.fix c l).setWl l ((m'.wl l).take j ++ (f, c) :: (m'.wl l).drop (i + 1))).wl t = VV m' l (m.wl l) i j t := by
        intro t ht
        simp only [MS.setWl, VV, ht, if_false]; rw [fix_wl]
      have hw1 : Wt (m'.fix c l) ((m'.fix c l).setWl l ((m'.wl l).take j ++ (f, c) :: (m'.wl l).drop (i + 1))).wl := (hs.pi.wt.fix e2 (by omega)).blk (hs.at_ hi he) ((mem_fix e2 (by omega)).2 hfm) hV1 hV2
      have hji := hs.ji
      have hmem : ∀ e' ∈ (m'.wl l).take j ++ (f, c) :: (m'.wl l).drop (i + 1), e' ∈ m'.wl l ∨ e' = (f, c) := by
        intro e' he'
        rcases List.mem_append.1 he' with h' | h'
        · exact .inl (List.mem_of_mem_take h')
        · rcases List.mem_cons.1 h' with h' | h'
          · exact .inr h'
          · exact .inl (List.mem_of_mem_drop h')
      have hW : Wf ((m'.fix c l).setWl l ((m'.wl l).take j ++ (f, c) :: (m'.wl l).drop (i + 1))) := by
        refine wf_setWl (hs.pi.core.wf.fix e2 l) (fun e' he' => ?_) ?_
        · rw [s1.nv, s1.ids]
          rcases hmem e' he' with h' | h'
          · obtain ⟨k, hk, hk2⟩ := mem_ent h'
            rw [← hk2]; exact hs.pi.core.wf.wl l hs.nv k hk
          · rw [h']; exact ⟨hs.pi.core.litlt e2 hfm, e2⟩
        · have := hs.pi.core.wf.wll l hs.nv
          have h2 := hs.len
          simp only [List.length_append, List.length_take, List.length_cons, List.length_drop]
          omega
      refine ⟨⟨p, by rw [s.trail]; exact hs.hp, hs.pi.sim s hW (hw1.sim (sim_setWl _ _ _) rfl) ?_⟩, by rw [s.ids]; exact e2, ?_, ?_⟩
      · refine hs.pi.pc.sim s (by have := hs.hp; omega) hs.pi.core.wf.tr hs.pi.wt ?_
        intro k hk' e' he'
        by_cases t1 : nth m'.trail k = l
        · rw [t1] at he' ⊢
          rw [hV1] at he'
          rw [hs.at_ hi he]
          rcases List.mem_append.1 he' with h' | h'
          · exact ⟨e', List.mem_append_left _ h', rfl⟩
          · rcases List.mem_cons.1 h' with h' | h'
            · exact ⟨(b, c), by simp, by rw [h']⟩
            · exact ⟨e', by simp [h'], rfl⟩
        · rw [hV2 _ t1] at he'; exact ⟨e', he', rfl⟩
      · intro y hy
        have hy := (s.pm c e2).mem_iff.1 hy
        rw [s.lst]
        by_cases e : y = f
        · rw [e]; exact hx
        · exact hfalse y hy e
      · refine ⟨negL l, (s.pm c e2).mem_iff.2 ?_, by rw [s.lev, negL_div]; exact hs.lv⟩
        rw [← mem_fix (lit := l) e2 (by omega), ← g1]
        exact nth_mem _ _ (by rw [fix_len]; omega)
end
end Go.Proofs.YtiimddkopiknpaaGreat
