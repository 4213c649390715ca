/-
  Propagation, and a literal made true.
-/
import Derived.Test.YtiimddkopiknpaaGreatDoorB09
set_option linter.unusedVariables false
set_option linter.unusedSimpArgs false

/-
  propagate, walked over an invariant of its rounds.
-/
namespace Go.Proofs.YtiimddkopiknpaaGreatDoor
open Go.RowKit

set_option maxRecDepth 100000 in
set_option maxHeartbeats 2000000 in
theorem sp_c0 {s0 : St} {w0 : World} (h : Rep s0 w0) {lit : Nat} {lvl : Int} (hlit : lit < s0.nv * 2) (hnv : s0.nv ≤ 1000000) (hn : (s0.wl lit).length = 0) :
    Calls Tryz.prog 122 #[.pointer (some ⟨s0.sb, 0, none⟩), .int .i32 (lit : Int), .int .i64 lvl] w0 fun e w' => e = .returned (.pointer none) ∧ RT s0 w0 (s0.cutWl lit 0) w' := by
  have f9 : w0.cell? ⟨s0.sb, 9, none⟩ = some (.slice (some ⟨s0.wlHB, 0, none⟩) (s0.nv * 2) (s0.nv * 2)) := h.sc h.hd.f9
  have g9 := h.wlH hlit
  have g10 := h.wlHf lit
  obtain ⟨p, cap, hv⟩ := h.rows.shape (.wl lit)
  have e0 : s0.row (.wl lit) = ⟨107, 2, s0.wlV lit, (s0.wl lit).length, watchV (s0.wl lit)⟩ := by simp only [St.row]; rw [if_pos hlit]
  rw [e0] at hv
  simp only [hn] at hv
  rw [hv] at g9
  have hct := h.cutWl hlit (m := 0) (by omega)
  have hvs : hdLen (s0.wlV lit) 0 = .slice p 0 cap := by rw [hv]; rfl
  rw [hvs] at hct
  replace hct := Lib.hid hct
  replace hnv := Lib.hid hnv
  have k1 : (lit : Int) < (s0.nv : Int) * 2 := by omega
  clear hv hvs hn e0
  go_enter Tryz.func122, Tryz.ntmps122
  go_wp2_with fail
  go_loopw [8, 28] (fun vj vi wr => vj = .int .i64 0 ∧ vi = .int .i64 0 ∧ wr = w0) (fun _ vi _ => 0)
  case atStart => exact ⟨rfl, rfl, rfl⟩
  case round =>
    obtain ⟨rfl, rfl, rfl⟩ := hrel
    go_wp2_with fail
    refine wp_region_tail 9 (by kernel_rfl) (by kernel_rfl) ?_
    simp only [List.take_succ_cons, List.take_zero, List.drop_succ_cons, List.drop_zero]
    repeat still_step
    refine wpStill_nil ?_
    go_wp2_with fail
    go_ret
    exact ⟨rfl, hct.out.drew⟩
theorem sp_any {s0 : St} {w0 : World} (h : Rep s0 w0) {lit : Nat} {lvl : Int} (h0 : 0 ≤ lvl) (h1 : lvl < 1000000) {I : Nat → Nat → MS → Prop} (hI : SPI lit lvl (s0.wl lit) I) (hI0 : I 0 0 s0.toMS) :
    Calls Tryz.prog 122 #[.pointer (some ⟨s0.sb, 0, none⟩), .int .i32 (lit : Int), .int .i64 lvl] w0 (SPPost s0 w0 lit I) := by
  by_cases hn : 0 < (s0.wl lit).length
  · exact sp_c h h0 h1 hI hI0 hn
  · have hz : (s0.wl lit).length = 0 := by omega
    refine (sp_c0 h (hI.nv hI0) (hI.wf hI0).nv1 hz).mono ?_
    rintro e w' ⟨he, hT⟩
    exact .inl ⟨he, s0.cutWl lit 0, s0.toMS, 0, by rw [hz]; exact hI0, rfl, hT⟩

/-- an invariant of the rounds of propagate: J p m at the head, B lit p i m within the list of binary clauses of the literal lit -/
structure PRI (lvl : Int) (K : Nat) (J : Nat → MS → Prop) (B : Nat → Nat → Nat → MS → Prop) (Cf : Nat → MS → Prop) : Prop where
  wf : ∀ {p m}, J p m → Wf m
  len : ∀ {p m}, J p m → m.trail.length ≤ K
  wfB : ∀ {l p i m}, B l p i m → Wf m ∧ l < m.nv * 2 ∧ i ≤ (m.wb l).length ∧ p < m.trail.length ∧ m.trail.length ≤ K
  start : ∀ {p m}, J p m → p < m.trail.length → B (nth m.trail p) p 0 m
  sat : ∀ {l p i m o c}, B l p i m → i < (m.wb l).length → ent (m.wb l) i = (o, c) → m.lst o = 1 → B l p (i + 1) m
  unit : ∀ {l p i m o c}, B l p i m → i < (m.wb l).length → ent (m.wb l) i = (o, c) → m.lst o = 0 → B l p (i + 1) (((m.setRsn (o / 2) (some c)).setVal (o / 2) (sgn o lvl)).push o)
  conf : ∀ {l p i m o c}, B l p i m → i < (m.wb l).length → ent (m.wb l) i = (o, c) → m.lst o = 2 → Cf c m
  toSP : ∀ {l p m}, B l p (m.wb l).length m → ∃ I, SPI l lvl (m.wl l) I ∧ I 0 0 m ∧
    (∀ j m', I (m.wl l).length j m' → J (p + 1) (m'.setWl l ((m'.wl l).take j))) ∧
    (∀ i j b c f m', I i j m' → i < (m.wl l).length → ent (m.wl l) i = (b, c) → m'.lst b ≠ 1 → f = nth ((m'.fix c l).lits c) 0 → m'.lst f = 2 →
      (∀ k', 2 ≤ k' → k' < (m'.lits c).length → m'.lst (nth (m'.lits c) k') = 2) → Cf c ((m'.fix c l).setWl l ((m'.wl l).take j ++ (f, c) :: (m'.wl l).drop (i + 1))))

def PRRel (s0 : St) (w0 : World) (J : Nat → MS → Prop) (vp : Value) (wr : World) : Prop :=
  ∃ (p : Nat) (s : St), vp = .int .i64 (p : Int) ∧ J p s.toMS ∧ RT s0 w0 s wr ∧ s.sb = s0.sb
def PRPost (s0 : St) (w0 : World) (J : Nat → MS → Prop) (Cf : Nat → MS → Prop) (e : Ending) (w' : World) : Prop :=
  (e = .returned (.pointer none) ∧ ∃ (s : St) (p : Nat), J p s.toMS ∧ s.trail.length ≤ p ∧ RT s0 w0 s w' ∧ s.sb = s0.sb) ∨
  (∃ (s : St) (c : Nat), e = .returned (.pointer (some ⟨c, 0, none⟩)) ∧ Cf c s.toMS ∧ RT s0 w0 s w' ∧ s.sb = s0.sb)

def PBRel (s0 : St) (w0 : World) (B : Nat → Nat → Nat → MS → Prop) (l p n : Nat) (V : Value) (vi : Value) (wr : World) : Prop :=
  ∃ (i : Nat) (s : St), vi = .int .i64 (i : Int) ∧ B l p i s.toMS ∧ RT s0 w0 s wr ∧ s.sb = s0.sb ∧ (s.wb l).length = n ∧ s.wbV l = V

set_option maxRecDepth 100000 in
set_option maxHeartbeats 8000000 in
theorem prop_c {s0 : St} {w0 : World} (h : Rep s0 w0) {lvl : Int} (h0 : 0 ≤ lvl) (h1 : lvl < 1000000) {K : Nat} {J : Nat → MS → Prop} {B : Nat → Nat → Nat → MS → Prop} {Cf : Nat → MS → Prop}
    (hP : PRI lvl K J B Cf) {p0 : Nat} (hJ0 : J p0 s0.toMS) :
    Calls Tryz.prog 92 #[.pointer (some ⟨s0.sb, 0, none⟩), .int .i64 (p0 : Int), .int .i64 lvl] w0 (PRPost s0 w0 J Cf) := by
  obtain ⟨iL, hiL, hz0, hz1, hz2⟩ := info_parts infoLit
  go_enter Tryz.func92, Tryz.ntmps92
  go_wp2_with fail
  go_loopw [1] (fun vp wr => PRRel s0 w0 J vp wr) (fun vp _ => K - (intOf vp).toNat)
  case atStart => exact ⟨p0, s0, rfl, hJ0, RT.refl h, rfl⟩
  case round =>
    obtain ⟨p, s, rfl, hJ, hT, hsb⟩ := hrel
    have hW := hP.wf hJ
    have hR := hT.rep
    have hK := hP.len hJ
    have f14 : wr.cell? ⟨s.sb, 14, none⟩ = some s.trailV := hR.sc hR.hd.f14
    obtain ⟨pp, tcap, htv⟩ := hR.rows.shape .trail
    have htv : s.trailV = .slice pp s.trail.length tcap := htv
    rw [htv, hsb] at f14
    have htrl := hW.trl
    have hnv1 := hW.nv1
    obtain ⟨tl, htl⟩ : ∃ tl, tl = s.trail.length := ⟨_, rfl⟩
    rw [← htl] at f14 hK htrl
    by_cases hlt : p < tl
    · have hpt : p < s.trail.length := by rw [← htl]; exact hlt
      have hB0 := hP.start hJ hpt
      obtain ⟨tb, tcap2, htv2, htob, _, _⟩ := hR.rows.open .trail (by show 0 < s.trail.length; omega)
      have hpp : pp = some ⟨tb, 0, none⟩ := by
        have e : (s.row .trail).v = s.trailV := rfl
        rw [e, htv] at htv2
        simp at htv2
        exact htv2.1
      subst hpp
      have hl2 := hW.tr p hpt
      have ft : wr.cell? ⟨tb, p, none⟩ = some (.int .i32 (nth s.trail p : Nat)) := hR.rows.cell .trail htob (getElem?_map_getD i32 s.trail 0 p hpt)
      obtain ⟨l, hl⟩ : ∃ l, l = nth s.trail p := ⟨_, rfl⟩
      rw [← hl] at ft hl2 hB0
      have f8 : wr.cell? ⟨s0.sb, 8, none⟩ = some (.slice (some ⟨s.wbHB, 0, none⟩) (s.nv * 2) (s.nv * 2)) := by rw [← hsb]; exact hR.sc hR.hd.f8
      have f9 := hR.wbH hl2
      obtain ⟨q, bcap, hbv⟩ := hR.rows.shape (.wb l)
      have e0 : s.row (.wb l) = ⟨107, 2, s.wbV l, (s.wb l).length, watchV (s.wb l)⟩ := by simp only [St.row]; rw [if_pos hl2]
      rw [e0] at hbv
      simp only [] at hbv
      have hwbl := hW.wbl l hl2
      obtain ⟨n, hn⟩ : ∃ n, n = (s.wb l).length := ⟨_, rfl⟩
      rw [← hn] at hbv hwbl
      rw [hbv] at f9
      replace hJ := Lib.hid hJ
      replace hT := Lib.hid hT
      replace hsb := Lib.hid hsb
      replace htv := Lib.hid htv
      replace htv2 := Lib.hid htv2
      replace htob := Lib.hid htob
      replace hW := Lib.hid hW
      replace htl := Lib.hid htl
      replace hnv1 := Lib.hid hnv1
      replace hl := Lib.hid hl
      replace hB0 := Lib.hid hB0
      replace hn := Lib.hid hn
      replace hbv := Lib.hid hbv
      clear e0
      go_wp2_with fail
      go_loopw [40] (fun vi wq => PBRel s0 w0 B l p n (.slice q n bcap) vi wq) (fun vi _ => n - (intOf vi).toNat)
      case atStart => exact ⟨0, s, rfl, hB0.out, hT.out, hsb.out, hn.out.symm, hbv.out⟩
      case round =>
        clear hR f14 ft f8 f9
        obtain ⟨i, s1, rfl, hB, hT1, hsb1, hn1, hV1⟩ := hrel
        obtain ⟨hW1, hl1, hi1, hp1, hK1⟩ := hP.wfB hB
        have hR1 := hT1.rep
        have hi1' : i ≤ n := by rw [← hn1]; exact hi1
        by_cases hi : i < n
        · have hi2 : i < (s1.wb l).length := by rw [hn1]; exact hi
          obtain ⟨o, c, hoc⟩ : ∃ o c, ent (s1.wb l) i = (o, c) := ⟨_, _, rfl⟩
          obtain ⟨ho2, hc2⟩ := hW1.wb l hl1 i hi2
          rw [hoc] at ho2 hc2
          simp only [] at ho2 hc2
          obtain ⟨bb, bcap3, hbv3, hbob, _, _⟩ := hR1.rows.open (.wb l) (by simp only [St.row]; rw [if_pos hl1]; show 0 < (s1.wb l).length; omega)
          have e0 : s1.row (.wb l) = ⟨107, 2, s1.wbV l, (s1.wb l).length, watchV (s1.wb l)⟩ := by simp only [St.row]; rw [if_pos hl1]
          rw [e0] at hbv3 hbob
          simp only [] at hbv3 hbob
          have hq : q = some ⟨bb, 0, none⟩ := by
            rw [hV1] at hbv3
            simp at hbv3
            exact hbv3.1
          subst hq
          obtain ⟨e1, e2⟩ := hR1.wbe hl1 hbob hi2
          rw [hoc] at e1 e2
          simp only [] at e1 e2
          have hRA := hR1.alloc (.cells #[.int .i32 (o : Int), .pointer (some ⟨c, 0, none⟩)] 107)
          have hov : o / 2 < s1.nv := by omega
          have hnv2 := hW1.nv1
          have hos : o < 2147483648 := by omega
          have fm : (wr.alloc (.cells #[.int .i32 (o : Int), .pointer (some ⟨c, 0, none⟩)] 107)).cell? ⟨s0.sb, 15, none⟩ = some (.slice (some ⟨s1.modelB, 0, none⟩) s1.nv s1.nv) := by rw [← hsb1]; exact hRA.sc hRA.hd.f15
          have fv := hRA.val hov
          replace hnv2 := Lib.hid hnv2
          replace hW1 := Lib.hid hW1
          replace hT1 := Lib.hid hT1
          replace hV1 := Lib.hid hV1
          replace hB := Lib.hid hB
          replace hoc := Lib.hid hoc
          replace hbv3 := Lib.hid hbv3
          replace hbob := Lib.hid hbob
          replace hn1 := Lib.hid hn1
          replace hK1 := Lib.hid hK1
          clear e0
          have hd : s1.lst o = if s1.va (o / 2) = 0 then 0 else if (0 < s1.va (o / 2)) = (o % 2 = 0) then 1 else 2 := rfl
          by_cases hz : s1.va (o / 2) = 0
          · rw [if_pos hz] at hd
            rw [hz] at fv
            replace hz := Lib.hid hz
            replace hd := Lib.hid hd
            go_wp2_with (first
              | (go_at_call 29; refine Calls.ret (Var_c o _ hos) ?_))
            obtain ⟨W, hWW⟩ : ∃ W, W = wr.alloc (.cells #[.int .i32 (o : Int), .pointer (some ⟨c, 0, none⟩)] 107) := ⟨_, rfl⟩
            have hbno : ¬ Own s1.row wr.heap.size := hR1.notOwn
            have hbx : wr.heap.size < W.heap.size := by rw [hWW]; simp
            have cb0 : W.cell? ⟨wr.heap.size, 0, none⟩ = some (.int .i32 (o : Int)) := by rw [hWW, World.cell?_alloc_at (w := wr) _ _ _ _ rfl]; rfl
            have cb1 : W.cell? ⟨wr.heap.size, 1, none⟩ = some (.pointer (some ⟨c, 0, none⟩)) := by rw [hWW, World.cell?_alloc_at (w := wr) _ _ _ _ rfl]; rfl
            have t1 := hT1.out.alloc (.cells #[.int .i32 (o : Int), .pointer (some ⟨c, 0, none⟩)] 107)
            rw [← hWW] at t1 hRA fm fv ⊢
            clear hWW
            obtain ⟨bx, hbxe⟩ : ∃ bx, bx = wr.heap.size := ⟨_, rfl⟩
            rw [← hbxe] at hbno hbx cb0 cb1 ⊢
            clear hbxe
            have u2 := hRA.setRsn (o / 2) (some c)
            have u3 := u2.trans (u2.rep.setVal (o / 2) (sgn o lvl))
            have f20 : W.cell? ⟨s0.sb, 20, none⟩ = some (.slice (some ⟨s1.rsnB, 0, none⟩) s1.nv s1.nv) := by rw [← hsb1]; exact hRA.sc hRA.hd.f20
            have fr := hRA.rsn hov
            have frf := hRA.rsnf (o / 2)
            have fm2 : (W.setCell ⟨s1.rsnB, o / 2, none⟩ (.pointer (some ⟨c, 0, none⟩))).cell? ⟨s0.sb, 15, none⟩ = some (.slice (some ⟨s1.modelB, 0, none⟩) s1.nv s1.nv) := by rw [← hsb1]; exact u2.rep.sc u2.rep.hd.f15
            have fv2 : (W.setCell ⟨s1.rsnB, o / 2, none⟩ (.pointer (some ⟨c, 0, none⟩))).cell? ⟨s1.modelB, o / 2, none⟩ = _ := u2.rep.val hov
            have fvf2 : (W.setCell ⟨s1.rsnB, o / 2, none⟩ (.pointer (some ⟨c, 0, none⟩))).frozen? ⟨s1.modelB, o / 2, none⟩ = false := u2.rep.valf _
            have cb02 : (W.setCell ⟨s1.rsnB, o / 2, none⟩ (.pointer (some ⟨c, 0, none⟩))).cell? ⟨bx, 0, none⟩ = some (.int .i32 (o : Int)) := by rw [← cb0]; exact u2.tr.fr.cell hbx hbno
            have ovI : (o : Int) / 2 < (s1.nv : Int) := by omega
            have ov0 : (0 : Int) ≤ (o : Int) / 2 := by omega
            have ovN : ((o : Int) / 2).toNat = o / 2 := by omega
            replace u2 := Lib.hid u2
            replace u3 := Lib.hid u3
            replace t1 := Lib.hid t1
            refine wp_region_tail 7 (by kernel_rfl) (by kernel_rfl) ?_
            simp only [List.take_succ_cons, List.take_zero, List.drop_succ_cons, List.drop_zero]
            repeat still_step
            refine wpStill_nil ?_
            go_wp2_with fail
            refine wp_region_tail 9 (by kernel_rfl) (by kernel_rfl) ?_
            simp only [List.take_succ_cons, List.take_zero, List.drop_succ_cons, List.drop_zero]
            repeat still_step
            still_call (sgn_c o lvl _ hos h0 h1)
            refine wpStill_nil ?_
            go_wp2_with fail
            obtain ⟨W3, hW3⟩ : ∃ W3, W3 = (W.setCell ⟨s1.rsnB, o / 2, none⟩ (.pointer (some ⟨c, 0, none⟩))).setCell ⟨s1.modelB, o / 2, none⟩ (.int .i64 (sgn o lvl)) := ⟨_, rfl⟩
            have u3 : RT s1 W ((s1.setRsn (o / 2) (some c)).setVal (o / 2) (sgn o lvl)) W3 := by rw [hW3]; exact u3.out
            rw [← hW3]
            clear hW3 fm fv fm2 fv2 fvf2 f20 fr frf cb02
            obtain ⟨s3, hs3⟩ : ∃ s3, s3 = (s1.setRsn (o / 2) (some c)).setVal (o / 2) (sgn o lvl) := ⟨_, rfl⟩
            have htv3 : s3.trailV = s1.trailV := by rw [hs3]; rfl
            have htr3 : s3.trail = s1.trail := by rw [hs3]; rfl
            have hsb3 : s3.sb = s0.sb := by rw [hs3]; exact hsb1
            rw [← hs3] at u3
            have hbno3 : ¬ Own s3.row bx := fun hb => by
              rcases u3.tr.own _ hb with h' | h'
              · exact hbno h'
              · omega
            have hbx3 : bx < W3.heap.size := by have := u3.tr.fr.size; omega
            have c14 : W3.cell? ⟨s0.sb, 14, none⟩ = some s3.trailV := by rw [← hsb3]; exact u3.rep.sc u3.rep.hd.f14
            have c0 : W3.cell? ⟨bx, 0, none⟩ = some (.int .i32 (o : Int)) := by rw [← cb0]; exact u3.tr.fr.cell hbx hbno
            replace hs3 := Lib.hid hs3
            replace htv3 := Lib.hid htv3
            replace htr3 := Lib.hid htr3
            have u3h := Lib.hid u3
            clear u3
            refine wp_region_firstI (fun w' => w'.cell? ⟨s0.sb, 14, none⟩ = some s3.trailV ∧ w'.cell? ⟨bx, 0, none⟩ = some (.int .i32 (o : Int))) 9 [0, 1, 2, 3, 4, 5, 6] [7, 8] (by kernel_rfl) (by kernel_rfl) ⟨c14, c0⟩ ?_
            iterate 7
              refine wpFirstI_cons rfl rfl (fun K hK => ?_)
              apply Exists.intro
              refine And.intro (fun w' hw' => ?_) ?_
              · obtain ⟨k9, kh⟩ := hw'
                go_simp
                first | exact rfl | exact ⟨rfl, rfl⟩
              go_simp
              refine hK _ ?_
              clear hK K
            refine wpFirstI_nil ?_
            have hR5 := (u3h.out.rep.alloc (.cells #[.int .i32 (o : Int)] 82)).drew.drew.drew
            have hbx5 : bx < (W3.alloc (.cells #[.int .i32 (o : Int)] 82)).drew.drew.drew.heap.size := by
              show bx < (W3.alloc (.cells #[.int .i32 (o : Int)] 82)).heap.size
              simp; omega
            have htrl3 : s3.trail.length ≤ 1000000000 := by rw [htr3.out]; exact hW1.out.trl
            refine wpActsI_cons rfl ?_
            go_wp2_with fail
            refine ⟨⟨?_, ?_⟩, ?_⟩
            · rw [← hsb3]; exact hR5.sc hR5.hd.f14
            · simp [World.cell?_alloc_past _ _ _ hbx3, c0]
            refine wpActsI_cons rfl ?_
            refine wpList_append_rows rfl _ _ 53 rfl 82 iL (.int .i32 0) 1 4 Tryz.underlying53 hiL hz0 hz1 hz2 rfl (by decide) s3.trailV s3.trail.length (s3.trail.map i32) rfl (hR5.rows.own .trail) ⟨W3.heap.size, 0, none⟩ 1 1 [i32 o] rfl rfl (cell_new_one W3 _ _ _ rfl) (by simp [i32, Value.oneCell']) (by unfold maxLen; omega) (by omega) ?_
            intro v' w6 ho6 hg hf6
            obtain ⟨g6, cap6, rfl, _, _⟩ := own_form ho6 (by omega)
            obtain ⟨m1, m2⟩ := hR5.midTrail ho6 hg hf6
            obtain ⟨p1, p2, p3⟩ := hR5.push o ho6 hg hf6
            obtain ⟨u14, hu14⟩ := Option.isSome_iff_exists.1 p1
            have hu14 : w6.cell? ⟨s0.sb, 14, none⟩ = some u14 := by rw [← hsb3]; exact hu14
            have p2 : w6.frozen? ⟨s0.sb, 14, none⟩ = false := by rw [← hsb3]; exact p2
            have hT6 := ((t1.out.trans u3h.out).alloc (.cells #[.int .i32 (o : Int)] 82)).drew.drew.drew.trans p3
            rw [hsb3] at hT6
            replace hT6 := Lib.hid hT6
            go_step
            refine ⟨⟨?_, ?_⟩, wpActsI_nil ?_⟩
            · rw [← hsb3]; exact m1 14 _ hR5.hd.f14
            · rw [m2 _ _ hbx5 hbno3]; simp [World.cell?_alloc_past _ _ _ hbx3, c0]
            clear m1 m2 p1 ho6 hg hf6 c14 c0 p3
            simp only [List.drop_succ_cons, List.drop_zero]
            go_wp2_with fail
            have hB3 := hP.unit hB.out (by rw [hn1.out]; exact hi) hoc.out hd.out
            refine ⟨⟨i + 1, _, by go_num, ?_, hT6.out, ?_, ?_, ?_⟩, by simp [intOf]; omega⟩
            · rw [hs3.out]; exact hB3
            · show s3.sb = _; exact hsb3
            · rw [hs3.out]; exact hn1.out
            · rw [hs3.out]; exact hV1.out
          · have hzb : (s1.va (o / 2) == 0) = false := by simpa using hz
            rw [if_neg hz] at hd
            obtain ⟨X, hX⟩ : ∃ X, X = s1.va (o / 2) := ⟨_, rfl⟩
            obtain ⟨D, hD⟩ : ∃ D : Bool, D = decide (o % 2 = 0) := ⟨_, rfl⟩
            have hPos := fun w0 => Pos_c o w0 hos
            have hcase : ((decide (0 < X) != D) = false ∧ s1.lst o = 1) ∨ ((decide (0 < X) != D) = true ∧ s1.lst o = 2) := by
              by_cases hp : (0 < s1.va (o / 2)) = (o % 2 = 0)
              · rw [if_pos hp] at hd; exact .inl ⟨by rw [hX, hD]; simp [hp], hd⟩
              · rw [if_neg hp] at hd
                refine .inr ⟨?_, hd⟩
                rw [hX, hD]
                cases he : (decide (0 < s1.va (o / 2)) != decide (o % 2 = 0))
                · exact absurd (by simpa using he) hp
                · rfl
            rw [← hX] at fv hzb
            simp only [← hD] at hPos
            clear hd hX hD hz
            replace hPos := Lib.hid hPos
            rcases hcase with ⟨hb, hd⟩ | ⟨hb, hd⟩
            · have hbb : (!(decide (0 < X) == D)) = false := by simpa using hb
              replace hd := Lib.hid hd
              go_wp2_with (first
                | (go_at_call 29; refine Calls.ret (Var_c o _ hos) ?_)
                | (go_at_call 28; refine Calls.ret (hPos.out _) ?_))
              have hB3 := hP.sat hB.out (by rw [hn1.out]; exact hi) hoc.out hd.out
              exact ⟨⟨i + 1, s1, by go_num, hB3, hT1.out.alloc _, hsb1, hn1.out, hV1.out⟩, by simp [intOf]; omega⟩
            · have hbb : (!(decide (0 < X) == D)) = true := by simpa using hb
              replace hd := Lib.hid hd
              go_wp2_with (first
                | (go_at_call 29; refine Calls.ret (Var_c o _ hos) ?_)
                | (go_at_call 28; refine Calls.ret (hPos.out _) ?_))
              go_ret
              exact .inr ⟨s1, c, rfl, hP.conf hB.out (by rw [hn1.out]; exact hi) hoc.out hd.out, hT1.out.alloc _, hsb1⟩
        · have hin : i = n := by omega
          subst hin
          obtain ⟨I, hI, hI0, hIJ, hIC⟩ := hP.toSP (by rw [hn1]; exact hB)
          replace hW1 := Lib.hid hW1
          replace hT1 := Lib.hid hT1
          replace hV1 := Lib.hid hV1
          replace hB := Lib.hid hB
          replace hn1 := Lib.hid hn1
          replace hK1 := Lib.hid hK1
          go_upto_region 16 with (first
            | (go_at_call 122
               rw [← hsb1]
               refine (sp_any hR1 h0 h1 hI hI0).mono ?_
               rintro e w5 hpost
               rcases hpost with ⟨rfl, s5, m5, j5, hI5, hms5, hT5⟩ | ⟨s5, m5, i5, j5, b5, c5, f5, rfl, hI5, hi5, hent5, hb5, hf5, hst5, hall5, hms5, hT5⟩))
          · have hJ5 : J (p + 1) s5.toMS := by rw [hms5]; exact hIJ j5 m5 hI5
            have hl5 : l < s5.nv * 2 := by
              show l < s5.toMS.nv * 2
              rw [hms5]
              show l < m5.nv * 2
              exact hI.nv hI5
            have hR5 := hT5.rep
            have hsb5 : s5.sb = s0.sb := hT5.sb.trans hsb1
            have f10 : w5.cell? ⟨s0.sb, 10, none⟩ = some (.slice (some ⟨s5.pbHB, 0, none⟩) (s5.nv * 2) (s5.nv * 2)) := by rw [← hsb5]; exact hR5.sc hR5.hd.f10
            have f11 : w5.cell? ⟨s0.sb, 11, none⟩ = some (.slice (some ⟨s5.amoHB, 0, none⟩) (s5.nv * 2) (s5.nv * 2)) := by rw [← hsb5]; exact hR5.sc hR5.hd.f11
            have g10 := hR5.pbH hl5
            have g11 := hR5.amoH hl5
            have hK5 := hP.len hJ5
            have hT0 := hT1.out.trans hT5
            replace hms5 := Lib.hid hms5
            replace hI5 := Lib.hid hI5
            replace hT5 := Lib.hid hT5
            replace hT0 := Lib.hid hT0
            replace hJ5 := Lib.hid hJ5
            replace hK5 := Lib.hid hK5
            replace hsb5 := Lib.hid hsb5
            replace hIJ := Lib.hid hIJ
            replace hIC := Lib.hid hIC
            clear hR1 hR5
            go_wp2_with fail
            go_loopw [110] (fun v w' => v = .int .i64 0 ∧ w' = w5) (fun _ _ => 0)
            case atStart => exact ⟨rfl, rfl⟩
            case round =>
              obtain ⟨rfl, rfl⟩ := hrel
              go_wp2_with fail
              go_loopw [138] (fun v w' => v = .int .i64 0 ∧ w' = wr) (fun _ _ => 0)
              case atStart => exact ⟨rfl, rfl⟩
              case round =>
                obtain ⟨rfl, rfl⟩ := hrel
                go_wp2_with fail
                exact ⟨⟨p + 1, s5, by go_num, hJ5.out, hT0.out, hsb5.out⟩, by have := hK1.out; simp [intOf]; omega⟩
          · have hC5 : Cf c5 s5.toMS := by rw [hms5]; exact hIC i5 j5 b5 c5 f5 m5 hI5 hi5 hent5 hb5 hf5 hst5 hall5
            have hT0 := hT1.out.trans hT5
            have hsb5 : s5.sb = s0.sb := hT5.sb.trans hsb1
            replace hT0 := Lib.hid hT0
            replace hsb5 := Lib.hid hsb5
            replace hC5 := Lib.hid hC5
            clear hms5 hI5 hT5 hi5 hent5 hb5 hf5 hst5 hall5 hIC hIJ
            go_wp2_with fail
            go_ret
            exact .inr ⟨s5, c5, rfl, hC5.out, hT0.out, hsb5.out⟩
    · replace hJ := Lib.hid hJ
      replace hT := Lib.hid hT
      replace hsb := Lib.hid hsb
      replace htv := Lib.hid htv
      replace hW := Lib.hid hW
      replace htl := Lib.hid htl
      replace hnv1 := Lib.hid hnv1
      go_wp2_with fail
      go_ret
      exact .inl ⟨rfl, s, p, hJ.out, by have := htl.out; omega, hT.out, hsb.out⟩
end Go.Proofs.YtiimddkopiknpaaGreatDoor

/-
  unifyLiteral: a literal is bound, and propagated.
-/
namespace Go.Proofs.YtiimddkopiknpaaGreatDoor
open Go.RowKit

theorem PRPost.trans {s0 s1 : St} {w0 w1 : World} {J : Nat → MS → Prop} {Cf : Nat → MS → Prop} {e : Ending} {w' : World} (h : RT s0 w0 s1 w1) (hp : PRPost s1 w1 J Cf e w') : PRPost s0 w0 J Cf e w' := by
  rcases hp with ⟨he, s, p, h1, h2, h3, h4⟩ | ⟨s, c, he, h1, h2, h3⟩
  · exact .inl ⟨he, s, p, h1, h2, h.trans h3, h4.trans h.sb⟩
  · exact .inr ⟨s, c, he, h1, h.trans h2, h3.trans h.sb⟩

set_option maxRecDepth 100000 in
set_option maxHeartbeats 2000000 in
theorem unify_c {s0 : St} {w0 : World} (h : Rep s0 w0) {l : Nat} {lvl : Int} (hl : l < s0.nv * 2) (hnv : s0.nv ≤ 1000000) (htr : s0.trail.length ≤ 1000000000) (h0 : 0 ≤ lvl) (h1 : lvl < 1000000)
    {K : Nat} {J : Nat → MS → Prop} {B : Nat → Nat → Nat → MS → Prop} {Cf : Nat → MS → Prop} (hP : PRI lvl K J B Cf) (hJ0 : J s0.trail.length ((s0.toMS.setVal (l / 2) (sgn l lvl)).push l)) :
    Calls Tryz.prog 63 #[.pointer (some ⟨s0.sb, 0, none⟩), .int .i32 (l : Int), .int .i64 lvl] w0 (PRPost s0 w0 J Cf) := by
  obtain ⟨iL, hiL, hz0, hz1, hz2⟩ := info_parts infoLit
  have hlv : l / 2 < s0.nv := by omega
  have hls : l < 2147483648 := by omega
  have f15 : w0.cell? ⟨s0.sb, 15, none⟩ = some (.slice (some ⟨s0.modelB, 0, none⟩) s0.nv s0.nv) := h.sc h.hd.f15
  have g1 := h.val hlv
  have g2 := h.valf (l / 2)
  have u1 := h.setVal (l / 2) (sgn l lvl)
  have f14 : (w0.setCell ⟨s0.modelB, l / 2, none⟩ (.int .i64 (sgn l lvl))).cell? ⟨s0.sb, 14, none⟩ = some s0.trailV := u1.rep.sc u1.rep.hd.f14
  have ovI : (l : Int) / 2 < (s0.nv : Int) := by omega
  have ov0 : (0 : Int) ≤ (l : Int) / 2 := by omega
  have ovN : ((l : Int) / 2).toNat = l / 2 := by omega
  replace hnv := Lib.hid hnv
  replace hJ0 := Lib.hid hJ0
  replace u1 := Lib.hid u1
  obtain ⟨tl, htl⟩ : ∃ tl, tl = s0.trail.length := ⟨_, rfl⟩
  rw [← htl] at htr hJ0
  go_enter Tryz.func63, Tryz.ntmps63
  go_wp2_with fail
  refine wp_region_tail 9 (by kernel_rfl) (by kernel_rfl) ?_
  simp only [List.take_succ_cons, List.take_zero, List.drop_succ_cons, List.drop_zero]
  repeat still_step
  still_call (Var_c l _ hls)
  repeat still_step
  still_call (sgn_c l lvl _ hls h0 h1)
  refine wpStill_nil ?_
  go_upto_region 3 with (first
    | (at_builtin
       refine wpList_append_rows rfl _ _ 53 rfl 82 iL (.int .i32 0) 1 4 Tryz.underlying53 hiL hz0 hz1 hz2 rfl (by decide) s0.trailV s0.trail.length (s0.trail.map i32) rfl ((u1.out.alloc _).rep.rows.own .trail) ⟨w0.heap.size, 0, none⟩ 1 1 [i32 l] rfl rfl (cell_new_one _ _ _ _ (by simp)) (by simp [i32, Value.oneCell']) (by rw [← htl]; unfold maxLen; omega) (by rw [← htl]; omega) ?_
       intro v' w4 ho hg hf
       obtain ⟨g4, cap4, rfl, _, _⟩ := own_form ho (by omega)
       obtain ⟨p1, p2, p3⟩ := (u1.out.alloc _).drew.rep.push l ho hg hf
       obtain ⟨u14, hu14⟩ := Option.isSome_iff_exists.1 p1
       have hu14 : w4.cell? ⟨s0.sb, 14, none⟩ = some u14 := hu14
       have p2 : w4.frozen? ⟨s0.sb, 14, none⟩ = false := p2
       have p3 := (u1.out.alloc _).drew.trans p3
       have k14 : (w4.setCell ⟨s0.sb, 14, none⟩ (.slice (some ⟨g4, 0, none⟩) (s0.trail.length + 1) cap4)).cell? ⟨s0.sb, 14, none⟩ = some (.slice (some ⟨g4, 0, none⟩) (s0.trail.length + 1) cap4) := p3.rep.sc p3.rep.hd.f14
       replace p3 := Lib.hid p3
       clear p1 ho hg hf f14))
  have hw1 : IntKind.i64.wrap (((s0.trail.length : Nat) : Int) + 1 - 1) = ((s0.trail.length : Nat) : Int) := by rw [IntWalk.i64_in _ (by omega)]; omega
  have htr' : s0.trail.length ≤ 1000000000 := by omega
  replace hw1 := Lib.hid hw1
  rw [htl] at hJ0
  go_wp2_with (first
    | (go_at_call 92
       refine (prop_c p3.out.rep h0 h1 hP hJ0.out).mono ?_
       rintro e w5 hpost
       have hpost' := Lib.hid (PRPost.trans p3.out hpost)
       rcases hpost with ⟨rfl, _⟩ | ⟨s5, c5, rfl, _⟩))
  all_goals
    go_ret
    exact hpost'.out
end Go.Proofs.YtiimddkopiknpaaGreatDoor
