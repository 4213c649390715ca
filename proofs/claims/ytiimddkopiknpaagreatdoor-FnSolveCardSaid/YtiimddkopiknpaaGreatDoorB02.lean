/-
  Single steps of the solver's state, and plain laws of the trail and the watched literals.
-/
import Derived.Test.YtiimddkopiknpaaGreatDoorB01
set_option linter.unusedVariables false
set_option linter.unusedSimpArgs false

/-
  propagateUnit, litStatus: what they do to the state.
-/
namespace Go.Proofs.YtiimddkopiknpaaGreatDoor
open Go.RowKit

theorem infoLit : (Tryz.prog.info? 82).map (fun i => (i.zero, i.size, i.bytes)) = some (some (.int .i32 0), 1, 4) := by kernel_rfl
theorem infoPtrCl : (Tryz.prog.info? 92).map (fun i => (i.zero, i.size, i.bytes)) = some (some (.pointer none), 1, 8) := by kernel_rfl
theorem infoWatcher : (Tryz.prog.info? 107).map (fun i => (i.zero, i.size, i.bytes)) = some (some (.agg #[.int .i32 0, .pointer none]), 2, 16) := by kernel_rfl
theorem infoInt : (Tryz.prog.info? 3).map (fun i => (i.zero, i.size, i.bytes)) = some (some (.int .i64 0), 1, 8) := by kernel_rfl

def St.lockC (s : St) (c : Nat) : St := s.setWord c (s.word c ||| 1073741824)
def St.pUnit (s : St) (c : Nat) (lvl : Int) (l : Nat) (tv : Value) : St := (((s.setRsn (l / 2) (some c)).lockC c).setVal (l / 2) (sgn l lvl)).push l tv

theorem lock_s {s : St} {w : World} (h : Rep s w) {c : Nat} (hc : c ∈ s.ids) (hw : s.word c < 4294967296) :
    Calls Tryz.prog 80 #[.pointer (some ⟨c, 0, none⟩)] w fun e w' => e = .returned (.tuple #[]) ∧ RT s w (s.lockC c) w' :=
  (Lock_c (h.clc hc (j := 1) rfl) (h.clf hc 1) hw).mono fun e w' ⟨he, hw'⟩ => ⟨he, by rw [hw']; exact h.setWord hc _⟩

set_option maxRecDepth 100000 in
set_option maxHeartbeats 1000000 in
theorem propUnit_c {s : St} {w : World} (h : Rep s w) {c l : Nat} {lvl : Int} (hc : c ∈ s.ids) (hl : l < s.nv * 2) (hnv : s.nv ≤ 1000000) (h0 : 0 ≤ lvl) (h1 : lvl < 1000000)
    (hw : s.word c < 4294967296) (ht : s.trail.length ≤ 1000000000) :
    Calls Tryz.prog 138 #[.pointer (some ⟨s.sb, 0, none⟩), .pointer (some ⟨c, 0, none⟩), .int .i64 lvl, .int .i32 (l : Int)] w fun e w' =>
      e = .returned (.tuple #[]) ∧ ∃ tv, RT s w (s.pUnit c lvl l tv) w' := by
  obtain ⟨iL, hiL, hz0, hz1, hz2⟩ := info_parts infoLit
  have hlv : l / 2 < s.nv := by omega
  have hls : l < 2147483648 := by omega
  replace hw := Lib.hid hw
  replace ht := Lib.hid ht
  replace hnv := Lib.hid hnv
  have f20 := h.sc h.hd.f20
  unfold slV at f20
  have g1 := h.rsn hlv
  have g2 := h.rsnf (l / 2)
  go_enter Tryz.func138, Tryz.ntmps138
  go_wp2_with (first
    | (go_at_call 29; refine (Var_c l _ hls).mono ?_; rintro e w' ⟨rfl, rfl⟩)
    | (go_at_call 80
       have t1 := h.setRsn (l / 2) (some c)
       refine (lock_s t1.rep hc hw.out).mono ?_
       rintro e w2 ⟨rfl, t2⟩))
  clear f20 g1 g2
  have t2 := t1.trans t2
  have f15 : w2.cell? ⟨s.sb, 15, none⟩ = some (.slice (some ⟨s.modelB, 0, none⟩) s.nv s.nv) := t2.rep.sc t2.rep.hd.f15
  have g1 : w2.cell? ⟨s.modelB, l / 2, none⟩ = _ := t2.rep.val hlv
  have g2 : w2.frozen? ⟨s.modelB, l / 2, none⟩ = false := t2.rep.valf (l / 2)
  refine wp_region_still_tail 8 (by kernel_rfl) (by kernel_rfl) ?_
  simp only [List.take_succ_cons, List.take_zero, List.drop_succ_cons, List.drop_zero]
  repeat still_step
  still_call (sgn_c l lvl _ hls h0 h1)
  refine wpStill_nil ?_
  have t3 := t2.trans (t2.rep.setVal (l / 2) (sgn l lvl))
  have f14 : (w2.setCell ⟨s.modelB, l / 2, none⟩ (.int .i64 (sgn l lvl))).cell? ⟨s.sb, 14, none⟩ = some s.trailV := t3.rep.sc t3.rep.hd.f14
  go_wp2_with (first
    | (at_builtin
       refine wpList_append_rows rfl _ _ 53 rfl 82 iL (.int .i32 0) 1 4 Tryz.underlying53 hiL hz0 hz1 hz2 rfl (by decide) s.trailV s.trail.length (s.trail.map i32) rfl ((t3.alloc _).rep.rows.own .trail) ⟨w2.heap.size, 0, none⟩ 1 1 [i32 l] rfl rfl (cell_new_one _ _ _ _ (by simp)) (by simp [i32, Value.oneCell']) (by have := ht.out; unfold maxLen; omega) (by have := ht.out; omega) ?_
       intro v' w4 ho hg hf
       obtain ⟨g4, cap4, rfl, _, _⟩ := own_form ho (by omega)
       obtain ⟨p1, p2, p3⟩ := (t3.alloc _).drew.rep.push l ho hg hf
       obtain ⟨u14, hu14⟩ := Option.isSome_iff_exists.1 p1
       have hu14 : w4.cell? ⟨s.sb, 14, none⟩ = some u14 := hu14
       have p2 : w4.frozen? ⟨s.sb, 14, none⟩ = false := p2
       replace p3 := Lib.hid ((t3.alloc _).drew.trans p3)
       clear p1 ho hg hf f14))
  go_end0
  exact ⟨rfl, _, p3.out⟩
end Go.Proofs.YtiimddkopiknpaaGreatDoor

/-
  The watch lists in memory: an entry written, a list cut, a list with an entry more; a clause's literals exchanged.
-/
namespace Go.Proofs.YtiimddkopiknpaaGreatDoor
open Go.RowKit

theorem map_range_set (f : Nat → Value) (m t : Nat) (v : Value) : ((List.range m).map f).set t v = (List.range m).map (fun t' => if t' = t then v else f t') := by
  apply List.ext_getElem?
  intro i
  rw [List.getElem?_set]
  by_cases h : t = i
  · subst h
    by_cases hm : t < m <;> simp [hm]
  · by_cases hm : i < m <;> simp [h, hm, Ne.symm h]

def ent (L : List (Nat × Nat)) (i : Nat) : Nat × Nat := L.getD i (0, 0)
def hdLen (v : Value) (m : Nat) : Value := match v with | .slice p _ c => .slice p m c | v => v
def swapL (L : List Nat) (a b : Nat) : List Nat := (L.set a (nth L b)).set b (nth L a)

def St.swapC (s : St) (c a b : Nat) : St := s.setLits c (swapL (s.lits c) a b)
def St.appWl (s : St) (t : Nat) (e : Nat × Nat) (v : Value) : St :=
  { s with wl := fun t' => if t' = t then s.wl t ++ [e] else s.wl t', wlV := fun t' => if t' = t then v else s.wlV t' }
def St.appWb (s : St) (t : Nat) (e : Nat × Nat) (v : Value) : St :=
  { s with wb := fun t' => if t' = t then s.wb t ++ [e] else s.wb t', wbV := fun t' => if t' = t then v else s.wbV t' }
def St.cutWl (s : St) (t m : Nat) : St :=
  { s with wl := fun t' => if t' = t then (s.wl t).take m else s.wl t', wlV := fun t' => if t' = t then hdLen (s.wlV t) m else s.wlV t' }

section
variable {s : St} {w : World}
theorem Rep.hdc {s' : St} (h : Rep s w) (e1 : s'.sc = s.sc) (e2 : s'.nv = s.nv) (e3 : s'.status = s.status) (e4 : s'.nbMax = s.nbMax) (e5 : s'.idx = s.idx)
    (e6 : s'.wbHB = s.wbHB) (e7 : s'.wlHB = s.wlHB) (e8 : s'.pbHB = s.pbHB) (e9 : s'.amoHB = s.amoHB) (e10 : s'.origV = s.origV) (e11 : s'.lrnV = s.lrnV)
    (e12 : s'.trailV = s.trailV) (e13 : s'.modelB = s.modelB) (e14 : s'.actB = s.actB) (e15 : s'.polB = s.polB) (e16 : s'.assB = s.assB) (e17 : s'.rsnB = s.rsnB)
    (e18 : s'.qcV = s.qcV) (e19 : s'.qiV = s.qiV) (e20 : s'.lbdN = s.lbdN) (e21 : s'.lbdP = s.lbdP) (e22 : s'.tdN = s.tdN) (e23 : s'.tdP = s.tdP) (e24 : s'.nconf = s.nconf)
    (e25 : s'.tbufB = s.tbufB) (a1 : s'.actL = s.actL) (a2 : s'.ids = s.ids) (a3 : s'.actC = s.actC) (a4 : s'.tbuf = s.tbuf) : Hd s' :=
  h.hd.congr e1 e2 e3 e4 e5 e6 e7 e8 e9 e10 e11 e12 e13 e14 e15 e16 e17 e18 e19 e20 e21 e22 e23 e24 e25 (by rw [a1]; exact h.hd.fact) (by rw [a2, a3]; exact h.hd.facc) (by rw [a4]; exact h.hd.ftb)

theorem Rep.setWl (h : Rep s w) {t b : Nat} (ht : t < s.nv * 2) (hb : (s.wlV t).ownBlock = some b) (j x c : Nat) :
    RT s w (s.setWl t ((s.wl t).set j (x, c))) ((w.setCell ⟨b, j * 2, none⟩ (i32 x)).setCell ⟨b, j * 2 + 1, none⟩ (ptrV (some c))) := by
  rw [Nat.mul_comm j 2]
  let ρ1 : Role → Row := fun r => match r with
    | .wl t' => if t' = t then ⟨107, 2, s.wlV t, (s.wl t).length, (watchV (s.wl t)).set (2 * j) (i32 x)⟩ else s.row (.wl t')
    | r => s.row r
  have hb' : (s.row (.wl t)).v.ownBlock = some b := by simp [St.row, ht]; exact hb
  have t1 : Tr s.row w ρ1 (w.setCell ⟨b, 2 * j, none⟩ (i32 x)) := h.rows.set (ρ' := ρ1) (.wl t) hb' (2 * j) (i32 x) (by simp [ρ1, St.row, ht]) (fun r hr => by
    cases r <;> first | rfl | skip
    rename_i t'
    have : t' ≠ t := fun e => hr (by rw [e])
    simp [ρ1, this])
  have hb1 : (ρ1 (.wl t)).v.ownBlock = some b := by simp [ρ1]; exact hb
  refine ⟨t1.trans (t1.rows.set (.wl t) hb1 (2 * j + 1) (ptrV (some c)) ?_ ?_), h.hdc rfl rfl rfl rfl rfl rfl rfl rfl rfl rfl rfl rfl rfl rfl rfl rfl rfl rfl rfl rfl rfl rfl rfl rfl rfl rfl rfl rfl rfl, rfl⟩
  · simp only [St.row, ρ1, St.setWl, if_true, List.length_set, watchV_set]
    rw [if_pos (show t < s.nv * 2 from ht)]
  · intro r hr
    cases r <;> first | rfl | skip
    rename_i t'
    have : t' ≠ t := fun e => hr (by rw [e])
    simp [ρ1, this, St.row, St.setWl]

theorem Rep.wle (h : Rep s w) {t b : Nat} (ht : t < s.nv * 2) (hb : (s.wlV t).ownBlock = some b) {i : Nat} (hi : i < (s.wl t).length) :
    w.cell? ⟨b, i * 2, none⟩ = some (.int .i32 ((ent (s.wl t) i).1 : Nat)) ∧ w.cell? ⟨b, i * 2 + 1, none⟩ = some (.pointer (some ⟨(ent (s.wl t) i).2, 0, none⟩)) := by
  have hb' : (s.row (.wl t)).v.ownBlock = some b := by simp [St.row, ht]; exact hb
  have e0 : s.row (.wl t) = ⟨107, 2, s.wlV t, (s.wl t).length, watchV (s.wl t)⟩ := by simp [St.row, ht]
  have := watchV_get (s.wl t) i hi
  rw [Nat.mul_comm i 2]
  exact ⟨h.rows.cell (.wl t) hb' (by rw [e0]; exact this.1), h.rows.cell (.wl t) hb' (by rw [e0]; exact this.2)⟩
theorem Rep.wlf (h : Rep s w) {t b : Nat} (ht : t < s.nv * 2) (hb : (s.wlV t).ownBlock = some b) (j : Nat) : w.frozen? ⟨b, j, none⟩ = false := by
  have hb' : (s.row (.wl t)).v.ownBlock = some b := by simp [St.row, ht]; exact hb
  exact h.rows.frozen (.wl t) hb' j
theorem Rep.wbe (h : Rep s w) {t b : Nat} (ht : t < s.nv * 2) (hb : (s.wbV t).ownBlock = some b) {i : Nat} (hi : i < (s.wb t).length) :
    w.cell? ⟨b, i * 2, none⟩ = some (.int .i32 ((ent (s.wb t) i).1 : Nat)) ∧ w.cell? ⟨b, i * 2 + 1, none⟩ = some (.pointer (some ⟨(ent (s.wb t) i).2, 0, none⟩)) := by
  have hb' : (s.row (.wb t)).v.ownBlock = some b := by simp [St.row, ht]; exact hb
  have e0 : s.row (.wb t) = ⟨107, 2, s.wbV t, (s.wb t).length, watchV (s.wb t)⟩ := by simp [St.row, ht]
  have := watchV_get (s.wb t) i hi
  rw [Nat.mul_comm i 2]
  exact ⟨h.rows.cell (.wb t) hb' (by rw [e0]; exact this.1), h.rows.cell (.wb t) hb' (by rw [e0]; exact this.2)⟩

theorem own_wl (h : Rep s w) {t : Nat} (ht : t < s.nv * 2) : w.ownsRow 0 107 2 (s.wlV t) (s.wl t).length (watchV (s.wl t)) := by
  have := h.rows.own (.wl t)
  have e0 : s.row (.wl t) = ⟨107, 2, s.wlV t, (s.wl t).length, watchV (s.wl t)⟩ := by simp [St.row, ht]
  rw [e0] at this; exact this
theorem own_wb (h : Rep s w) {t : Nat} (ht : t < s.nv * 2) : w.ownsRow 0 107 2 (s.wbV t) (s.wb t).length (watchV (s.wb t)) := by
  have := h.rows.own (.wb t)
  have e0 : s.row (.wb t) = ⟨107, 2, s.wbV t, (s.wb t).length, watchV (s.wb t)⟩ := by simp [St.row, ht]
  rw [e0] at this; exact this
theorem Rep.cutWl (h : Rep s w) {t m : Nat} (ht : t < s.nv * 2) (hm : m ≤ (s.wl t).length) :
    RT s w (s.cutWl t m) (w.setCell ⟨s.wlHB, t, none⟩ (hdLen (s.wlV t) m)) := by
  let ρ1 : Role → Row := fun r => match r with
    | .wlH => ⟨105, 1, slV s.wlHB (s.nv * 2), s.nv * 2, (List.range (s.nv * 2)).map (fun t' => if t' = t then hdLen (s.wlV t) m else s.wlV t')⟩
    | r => s.row r
  have t1 : Tr s.row w ρ1 (w.setCell ⟨s.wlHB, t, none⟩ (hdLen (s.wlV t) m)) := h.rows.set (ρ' := ρ1) .wlH rfl t _ (by simp [ρ1, St.row, map_range_set]) (fun r hr => by
    cases r <;> first | rfl | contradiction)
  have e0 : ρ1 (.wl t) = ⟨107, 2, s.wlV t, (s.wl t).length, watchV (s.wl t)⟩ := by simp [ρ1, St.row, ht]
  have e1 : (s.cutWl t m).row (.wl t) = ⟨107, 2, hdLen (s.wlV t) m, m, watchV ((s.wl t).take m)⟩ := by
    simp only [St.row, St.cutWl, if_true, List.length_take, Nat.min_eq_left hm]
    rw [if_pos (show t < s.nv * 2 from ht)]
  have hne : ∀ r, r ≠ .wl t → (s.cutWl t m).row r = ρ1 r := by
    intro r hr
    cases r <;> first | rfl | skip
    rename_i t'
    have : t' ≠ t := fun e => hr (by rw [e])
    simp [ρ1, this, St.row, St.cutWl]
  have hR : Rows (s.cutWl t m).row (w.setCell ⟨s.wlHB, t, none⟩ (hdLen (s.wlV t) m)) := by
    obtain ⟨p, cap, hv⟩ := t1.rows.shape (.wl t)
    have hv' : s.wlV t = .slice p (s.wl t).length cap := by rw [e0] at hv; exact hv
    cases p with
    | none =>
      have ho := t1.rows.own (.wl t)
      rw [e0] at ho
      have hn : (s.wl t).length = 0 := by
        rcases ho.2 with ⟨_, h2⟩ | ⟨g, cap', cur, h', _⟩
        · exact h2
        · simp only [] at h'; rw [hv'] at h'; simp at h'
      have hm0 : m = 0 := by omega
      have hw : s.wl t = [] := List.eq_nil_of_length_eq_zero hn
      refine ⟨fun r => ?_, fun r r' b h1 h2 => ?_⟩
      · by_cases e : r = .wl t
        · subst e
          rw [e1]
          have hsame : hdLen (s.wlV t) m = s.wlV t := by rw [hv', hn, hm0]; rfl
          have ho2 := ho
          simp only [] at ho2
          rw [hn, hw, hsame] at ho2
          rw [hsame, hm0, hw]
          simpa [watchV] using ho2
        · rw [hne r e]; exact t1.rows.own r
      · have hk : ∀ r, ((s.cutWl t m).row r).v.ownBlock = (ρ1 r).v.ownBlock := by
          intro r
          by_cases e : r = .wl t
          · subst e; rw [e1, e0]; simp only []; rw [hv']; rfl
          · rw [hne r e]
        rw [hk] at h1 h2
        exact t1.rows.inj r r' b h1 h2
    | some a =>
      have hob : ∃ b, (ρ1 (.wl t)).v.ownBlock = some b := by rw [hv]; exact ⟨_, rfl⟩
      obtain ⟨b, hb⟩ := hob
      obtain ⟨cap2, hf, _⟩ := t1.rows.form (.wl t) hb
      refine t1.rows.cut (.wl t) m (b := b) (cap := cap2) hf (by rw [e0]; exact hm) ?_ hne
      rw [e1, e0]
      rw [e0] at hf
      simp only [] at hf
      rw [hf]
      simp only [hdLen]
      congr 1
      rw [← watchV_take, Nat.mul_comm]
  refine ⟨t1.trans (Tr.same hR fun r => ?_), h.hdc rfl rfl rfl rfl rfl rfl rfl rfl rfl rfl rfl rfl rfl rfl rfl rfl rfl rfl rfl rfl rfl rfl rfl rfl rfl rfl rfl rfl rfl, rfl⟩
  by_cases e : r = .wl t
  · subst e
    rw [e1, e0]
    simp only []
    obtain ⟨p, cap, hv⟩ := t1.rows.shape (.wl t)
    have hv' : s.wlV t = .slice p (s.wl t).length cap := by rw [e0] at hv; exact hv
    rw [hv']; cases p <;> rfl
  · rw [hne r e]

theorem Rep.appWl {w1 : World} (h : Rep s w) {t b c : Nat} (ht : t < s.nv * 2) {v' : Value} (ho : w1.ownsRow 0 107 2 v' ((s.wl t).length + 1) (watchV (s.wl t) ++ [i32 b, ptrV (some c)]))
    (hg : w.grownBy w1 (s.wlV t).ownBlock) (hf : v'.ownBlock = (s.wlV t).ownBlock ∨ ∃ b, v'.ownBlock = some b ∧ w.heap.size ≤ b) :
    (w1.cell? ⟨s.wlHB, t, none⟩).isSome = true ∧ w1.frozen? ⟨s.wlHB, t, none⟩ = false ∧ RT s w (s.appWl t (b, c) v') (w1.setCell ⟨s.wlHB, t, none⟩ v') := by
  let ρ1 : Role → Row := fun r => match r with
    | .wl t' => if t' = t then ⟨107, 2, v', (s.wl t).length + 1, watchV (s.wl t) ++ [i32 b, ptrV (some c)]⟩ else s.row (.wl t')
    | r => s.row r
  have e0 : s.row (.wl t) = ⟨107, 2, s.wlV t, (s.wl t).length, watchV (s.wl t)⟩ := by simp [St.row, ht]
  have t1 : Tr s.row w ρ1 w1 := h.rows.grow (ρ' := ρ1) (.wl t) (v' := v') (n' := (s.wl t).length + 1) (xs' := watchV (s.wl t) ++ [i32 b, ptrV (some c)]) (by rw [e0]; exact ho) (by rw [e0]; exact hg) (by rw [e0]; exact hf) (by rw [e0]; simp [ρ1]) (fun r hr => by
    cases r <;> first | rfl | skip
    rename_i t'
    have : t' ≠ t := fun e => hr (by rw [e])
    simp [ρ1, this])
  refine ⟨?_, t1.rows.frozen .wlH (b := s.wlHB) rfl t, ?_⟩
  · rw [t1.rows.cell .wlH (b := s.wlHB) rfl (show (ρ1 .wlH).xs[t]? = some (s.wlV t) by simp [ρ1, St.row, ht])]; rfl
  · refine ⟨t1.trans (t1.rows.set .wlH rfl t v' ?_ (fun r hr => ?_)), h.hdc rfl rfl rfl rfl rfl rfl rfl rfl rfl rfl rfl rfl rfl rfl rfl rfl rfl rfl rfl rfl rfl rfl rfl rfl rfl rfl rfl rfl rfl, rfl⟩
    · simp [St.row, St.appWl, ρ1, map_range_set]
    · cases r <;> first | contradiction | rfl | skip
      rename_i t'
      by_cases e : t' = t
      · subst e
        simp only [St.row, St.appWl, ρ1, if_true, List.length_append, List.length_singleton, watchV_append, watchV]
        rw [if_pos (show t' < s.nv * 2 from ht)]
      · simp [ρ1, e, St.row, St.appWl]

theorem Rep.midTrail {w1 : World} (h : Rep s w) {xs : List Value} {v' : Value} {n' : Nat} (ho : w1.ownsRow 0 82 1 v' n' xs)
    (hg : w.grownBy w1 s.trailV.ownBlock) (hf : v'.ownBlock = s.trailV.ownBlock ∨ ∃ b, v'.ownBlock = some b ∧ w.heap.size ≤ b) :
    (∀ j u, s.sc[j]? = some u → w1.cell? ⟨s.sb, j, none⟩ = some u) ∧ (∀ b o, b < w.heap.size → ¬ Own s.row b → w1.cell? ⟨b, o, none⟩ = w.cell? ⟨b, o, none⟩) := by
  let ρ1 : Role → Row := fun r => match r with | .trail => ⟨82, 1, v', n', xs⟩ | r => s.row r
  have t1 : Tr s.row w ρ1 w1 := h.rows.grow (ρ' := ρ1) .trail ho hg hf rfl (fun r hr => by cases r <;> first | rfl | contradiction)
  exact ⟨fun j u hu => t1.rows.cell .sol (b := s.sb) rfl hu, fun b o hb hn => t1.fr.cell hb hn⟩
theorem watchV_drop : ∀ (L : List (Nat × Nat)) (m : Nat), (watchV L).drop (2 * m) = watchV (L.drop m)
  | [], m => by simp [watchV]
  | (b, c) :: r, 0 => by simp
  | (b, c) :: r, m + 1 => by
    have e : 2 * (m + 1) = 2 * m + 1 + 1 := by omega
    rw [e]; simp [watchV, watchV_drop r m]
theorem watchV_one : ∀ (L : List (Nat × Nat)), ∀ v ∈ watchV L, v.oneCell' = true
  | [], v, h => by simp [watchV] at h
  | (b, c) :: r, v, h => by
    simp only [watchV, List.mem_cons] at h
    rcases h with rfl | rfl | h
    · rfl
    · rfl
    · exact watchV_one r v h
def spl (L : List (Nat × Nat)) (j i : Nat) : List (Nat × Nat) := L.take j ++ L.drop i ++ L.drop (j + (L.length - i))
theorem spl_len (L : List (Nat × Nat)) {j i : Nat} (h1 : j ≤ i) (h2 : i ≤ L.length) : (spl L j i).length = L.length := by
  simp [spl]; omega
theorem spl_take (L : List (Nat × Nat)) {j i : Nat} (h1 : j ≤ i) (h2 : i ≤ L.length) : (spl L j i).take (j + (L.length - i)) = L.take j ++ L.drop i := by
  unfold spl
  apply List.take_left'
  simp; omega
theorem spl_row (s : St) {t j i : Nat} (ht : t < s.nv * 2) (h1 : j ≤ i) (h2 : i ≤ (s.wl t).length) :
    (s.setWl t (spl (s.wl t) j i)).row (.wl t) = { s.row (.wl t) with xs := (s.row (.wl t)).xs.take (j * 2) ++ watchV ((s.wl t).drop i) ++ (s.row (.wl t)).xs.drop (j * 2 + (watchV ((s.wl t).drop i)).length) } := by
  simp only [St.row, St.setWl, if_true]
  rw [if_pos (show t < s.nv * 2 from ht), if_pos (show t < s.nv * 2 from ht)]
  simp only [spl_len _ h1 h2]
  congr 1
  rw [watchV_len, Nat.mul_comm j 2, watchV_take, List.length_drop, ← Nat.mul_add, watchV_drop, spl, watchV_append, watchV_append]
theorem Rep.setWl_hd (h : Rep s w) (t : Nat) (L : List (Nat × Nat)) : Hd (s.setWl t L) :=
  h.hdc rfl rfl rfl rfl rfl rfl rfl rfl rfl rfl rfl rfl rfl rfl rfl rfl rfl rfl rfl rfl rfl rfl rfl rfl rfl rfl rfl rfl rfl
theorem setWl_row_ne (s : St) (t : Nat) (L : List (Nat × Nat)) (r : Role) (hr : r ≠ .wl t) : (s.setWl t L).row r = s.row r := by
  cases r <;> first | rfl | skip
  rename_i t'
  have : t' ≠ t := fun e => hr (by rw [e])
  simp [St.row, St.setWl, this]
theorem Rep.midWl {w1 : World} (h : Rep s w) {t : Nat} {xs : List Value} (ht : t < s.nv * 2) {v' : Value} {n' : Nat} (ho : w1.ownsRow 0 107 2 v' n' xs)
    (hg : w.grownBy w1 (s.wlV t).ownBlock) (hf : v'.ownBlock = (s.wlV t).ownBlock ∨ ∃ b, v'.ownBlock = some b ∧ w.heap.size ≤ b) :
    (∀ j u, s.sc[j]? = some u → w1.cell? ⟨s.sb, j, none⟩ = some u) ∧ (∀ t', t' < s.nv * 2 → w1.cell? ⟨s.wlHB, t', none⟩ = some (s.wlV t')) ∧
    (∀ b o, b < w.heap.size → ¬ Own s.row b → w1.cell? ⟨b, o, none⟩ = w.cell? ⟨b, o, none⟩) := by
  let ρ1 : Role → Row := fun r => match r with
    | .wl t' => if t' = t then ⟨107, 2, v', n', xs⟩ else s.row (.wl t')
    | r => s.row r
  have e0 : s.row (.wl t) = ⟨107, 2, s.wlV t, (s.wl t).length, watchV (s.wl t)⟩ := by simp [St.row, ht]
  have t1 : Tr s.row w ρ1 w1 := h.rows.grow (ρ' := ρ1) (.wl t) (v' := v') (n' := n') (xs' := xs) (by rw [e0]; exact ho) (by rw [e0]; exact hg) (by rw [e0]; exact hf) (by rw [e0]; simp [ρ1]) (fun r hr => by
    cases r <;> first | rfl | skip
    rename_i t'
    have : t' ≠ t := fun e => hr (by rw [e])
    simp [ρ1, this])
  refine ⟨fun j u hu => t1.rows.cell .sol (b := s.sb) rfl hu, fun t' ht' => t1.rows.cell .wlH (b := s.wlHB) rfl (show (ρ1 .wlH).xs[t']? = some (s.wlV t') by simp [ρ1, St.row, ht']), fun b o hb hn => t1.fr.cell hb hn⟩

theorem Rep.midWb {w1 : World} (h : Rep s w) {t : Nat} {xs : List Value} (ht : t < s.nv * 2) {v' : Value} {n' : Nat} (ho : w1.ownsRow 0 107 2 v' n' xs)
    (hg : w.grownBy w1 (s.wbV t).ownBlock) (hf : v'.ownBlock = (s.wbV t).ownBlock ∨ ∃ b, v'.ownBlock = some b ∧ w.heap.size ≤ b) :
    (∀ j u, s.sc[j]? = some u → w1.cell? ⟨s.sb, j, none⟩ = some u) ∧ (∀ t', t' < s.nv * 2 → w1.cell? ⟨s.wbHB, t', none⟩ = some (s.wbV t')) ∧
    (∀ b o, b < w.heap.size → ¬ Own s.row b → w1.cell? ⟨b, o, none⟩ = w.cell? ⟨b, o, none⟩) := by
  let ρ1 : Role → Row := fun r => match r with
    | .wb t' => if t' = t then ⟨107, 2, v', n', xs⟩ else s.row (.wb t')
    | r => s.row r
  have e0 : s.row (.wb t) = ⟨107, 2, s.wbV t, (s.wb t).length, watchV (s.wb t)⟩ := by simp [St.row, ht]
  have t1 : Tr s.row w ρ1 w1 := h.rows.grow (ρ' := ρ1) (.wb t) (v' := v') (n' := n') (xs' := xs) (by rw [e0]; exact ho) (by rw [e0]; exact hg) (by rw [e0]; exact hf) (by rw [e0]; simp [ρ1]) (fun r hr => by
    cases r <;> first | rfl | skip
    rename_i t'
    have : t' ≠ t := fun e => hr (by rw [e])
    simp [ρ1, this])
  refine ⟨fun j u hu => t1.rows.cell .sol (b := s.sb) rfl hu, fun t' ht' => t1.rows.cell .wbH (b := s.wbHB) rfl (show (ρ1 .wbH).xs[t']? = some (s.wbV t') by simp [ρ1, St.row, ht']), fun b o hb hn => t1.fr.cell hb hn⟩

theorem Rep.appWb {w1 : World} (h : Rep s w) {t b c : Nat} (ht : t < s.nv * 2) {v' : Value} (ho : w1.ownsRow 0 107 2 v' ((s.wb t).length + 1) (watchV (s.wb t) ++ [i32 b, ptrV (some c)]))
    (hg : w.grownBy w1 (s.wbV t).ownBlock) (hf : v'.ownBlock = (s.wbV t).ownBlock ∨ ∃ b, v'.ownBlock = some b ∧ w.heap.size ≤ b) :
    (w1.cell? ⟨s.wbHB, t, none⟩).isSome = true ∧ w1.frozen? ⟨s.wbHB, t, none⟩ = false ∧ RT s w (s.appWb t (b, c) v') (w1.setCell ⟨s.wbHB, t, none⟩ v') := by
  let ρ1 : Role → Row := fun r => match r with
    | .wb t' => if t' = t then ⟨107, 2, v', (s.wb t).length + 1, watchV (s.wb t) ++ [i32 b, ptrV (some c)]⟩ else s.row (.wb t')
    | r => s.row r
  have e0 : s.row (.wb t) = ⟨107, 2, s.wbV t, (s.wb t).length, watchV (s.wb t)⟩ := by simp [St.row, ht]
  have t1 : Tr s.row w ρ1 w1 := h.rows.grow (ρ' := ρ1) (.wb t) (v' := v') (n' := (s.wb t).length + 1) (xs' := watchV (s.wb t) ++ [i32 b, ptrV (some c)]) (by rw [e0]; exact ho) (by rw [e0]; exact hg) (by rw [e0]; exact hf) (by rw [e0]; simp [ρ1]) (fun r hr => by
    cases r <;> first | rfl | skip
    rename_i t'
    have : t' ≠ t := fun e => hr (by rw [e])
    simp [ρ1, this])
  refine ⟨?_, t1.rows.frozen .wbH (b := s.wbHB) rfl t, ?_⟩
  · rw [t1.rows.cell .wbH (b := s.wbHB) rfl (show (ρ1 .wbH).xs[t]? = some (s.wbV t) by simp [ρ1, St.row, ht])]; rfl
  · refine ⟨t1.trans (t1.rows.set .wbH rfl t v' ?_ (fun r hr => ?_)), h.hdc rfl rfl rfl rfl rfl rfl rfl rfl rfl rfl rfl rfl rfl rfl rfl rfl rfl rfl rfl rfl rfl rfl rfl rfl rfl rfl rfl rfl rfl, rfl⟩
    · simp [St.row, St.appWb, ρ1, map_range_set]
    · cases r <;> first | contradiction | rfl | skip
      rename_i t'
      by_cases e : t' = t
      · subst e
        simp only [St.row, St.appWb, ρ1, if_true, List.length_append, List.length_singleton, watchV_append, watchV]
        rw [if_pos (show t' < s.nv * 2 from ht)]
      · simp [ρ1, e, St.row, St.appWb]

/-- one literal of a clause written -/
theorem Rep.setLit (h : Rep s w) {c b : Nat} (hc : c ∈ s.ids) (hb : (s.litV c).ownBlock = some b) (j x : Nat) :
    RT s w (s.setLits c ((s.lits c).set j x)) (w.setCell ⟨b, j, none⟩ (i32 x)) := by
  have e0 : s.row (.li c) = ⟨82, 1, s.litV c, (s.lits c).length, (s.lits c).map i32⟩ := by simp [St.row, hc]
  refine ⟨h.rows.set (.li c) (by rw [e0]; exact hb) j (i32 x) ?_ ?_, h.hdc rfl rfl rfl rfl rfl rfl rfl rfl rfl rfl rfl rfl rfl rfl rfl rfl rfl rfl rfl rfl rfl rfl rfl rfl rfl rfl rfl rfl rfl, rfl⟩
  · rw [e0]; simp [St.row, St.setLits, hc, List.map_set]
  · intro r hr
    cases r <;> first | rfl | skip
    rename_i c'
    have : c' ≠ c := fun e => hr (by rw [e])
    simp [St.row, St.setLits, this]
end
end Go.Proofs.YtiimddkopiknpaaGreatDoor

/-
  litStatus, and the exchange of two literals of a clause.
-/
namespace Go.Proofs.YtiimddkopiknpaaGreatDoor
open Go.RowKit

/-- 0: not bound; 1: true; 2: false -/
def MS.lst (m : MS) (l : Nat) : Int := if m.va (l / 2) = 0 then 0 else if (0 < m.va (l / 2)) = (l % 2 = 0) then 1 else 2
theorem lst_cases (m : MS) (l : Nat) : m.lst l = 0 ∨ m.lst l = 1 ∨ m.lst l = 2 := by
  unfold MS.lst; split
  · exact .inl rfl
  · split
    · exact .inr (.inl rfl)
    · exact .inr (.inr rfl)

set_option maxHeartbeats 400000 in
theorem litStatus_c {s : St} {w : World} (h : Rep s w) {l : Nat} (hl : l < s.nv * 2) (hnv : s.nv ≤ 1000000) (k : Int) (hk : s.lst l = k) :
    Calls Tryz.prog 72 #[.pointer (some ⟨s.sb, 0, none⟩), .int .i32 (l : Int)] w fun e w' => e = .returned (.int .u8 k) ∧ ∃ q, w' = w.drewN q := by
  have hlv : l / 2 < s.nv := by omega
  have hls : l < 2147483648 := by omega
  replace hnv := Lib.hid hnv
  have f15 : w.cell? ⟨s.sb, 15, none⟩ = some (.slice (some ⟨s.modelB, 0, none⟩) s.nv s.nv) := h.sc h.hd.f15
  have g1 := h.val hlv
  have hd : s.lst l = if s.va (l / 2) = 0 then 0 else if (0 < s.va (l / 2)) = (l % 2 = 0) then 1 else 2 := rfl
  by_cases hz : s.va (l / 2) = 0
  · have hk0 : k = 0 := by rw [← hk, hd, if_pos hz]
    subst hk0
    rw [hz] at g1
    clear hd hk hz
    go_enter Tryz.func72, Tryz.ntmps72
    go_wp2
    go_quiet ((go_at_call 29; exact Calls.quiet_of_same (Var_c l _ hls)))
    go_wp2
    go_ret
    exact ⟨rfl, nq, rfl⟩
  · have hzb : (s.va (l / 2) == 0) = false := by simpa using hz
    have hkk : ((decide (0 < s.va (l / 2)) == decide (l % 2 = 0)) = true ∧ k = 1) ∨ ((decide (0 < s.va (l / 2)) == decide (l % 2 = 0)) = false ∧ k = 2) := by
      rw [hd, if_neg hz] at hk
      by_cases hp : (0 < s.va (l / 2)) = (l % 2 = 0)
      · rw [if_pos hp] at hk; exact .inl ⟨by simp [hp], hk.symm⟩
      · rw [if_neg hp] at hk
        refine .inr ⟨?_, hk.symm⟩
        cases he : (decide (0 < s.va (l / 2)) == decide (l % 2 = 0))
        · rfl
        · exact absurd (by simpa using he) hp
    obtain ⟨X, hX⟩ : ∃ X, X = s.va (l / 2) := ⟨_, rfl⟩
    rw [← hX] at g1 hzb hkk hz
    clear hd hk hX
    obtain ⟨D, hD⟩ : ∃ D : Bool, D = decide (l % 2 = 0) := ⟨_, rfl⟩
    have P := fun w0 => Pos_c l w0 hls
    rw [← hD] at hkk
    simp only [← hD] at P
    clear hD
    replace P := Lib.hid P
    rcases hkk with ⟨hb, rfl⟩ | ⟨hb, rfl⟩
    all_goals
      go_enter Tryz.func72, Tryz.ntmps72
      go_wp2
      go_quiet ((go_at_call 29; exact Calls.quiet_of_same (Var_c l _ hls)))
      go_wp2_with ((go_at_call 28; refine (P.out _).mono ?_; rintro e w' ⟨rfl, rfl⟩))
      go_ret
      exact ⟨rfl, nq, rfl⟩

set_option maxHeartbeats 2000000 in
theorem swap_raw (cb lb n c : Nat) (i j : Nat) (x y : Int) (w : World) (hi : (i:Int) < n) (hj : (j:Int) < n)
   (hm : w.cell? ⟨cb, 0, none⟩ = some (.slice (some ⟨lb, 0, none⟩) n c))
   (hp : w.cell? ⟨cb, 3, none⟩ = some (.pointer none))
   (hx : w.cell? ⟨lb, i, none⟩ = some (.int .i32 x))
   (hy : w.cell? ⟨lb, j, none⟩ = some (.int .i32 y))
   (hfx : w.frozen? ⟨lb, i, none⟩ = false)
   (hfy : w.frozen? ⟨lb, j, none⟩ = false) (hne : lb ≠ cb) (hne' : cb ≠ lb) :
    Calls Tryz.prog 137 #[.pointer (some ⟨cb, 0, none⟩), .int .i64 i, .int .i64 j] w fun e w' => e = .returned (.tuple #[]) ∧ ∃ q, w' = ((w.setCell ⟨lb, i, none⟩ (.int .i32 y)).setCell ⟨lb, j, none⟩ (.int .i32 x)).drewN q := by
  obtain ⟨v', hy'⟩ := cell?_setCell_some (w := w) (p := ⟨lb, i, none⟩) (x := .int .i32 y) (q := ⟨lb, j, none⟩) (v := .int .i32 y) hy
  go_enter Tryz.func137, Tryz.ntmps137
  go_wp2
  go_region
  all_goals
    go_wp2
    go_end0
    exact ⟨rfl, 1, rfl⟩

theorem swap_s {s : St} {w : World} (h : Rep s w) {c i j : Nat} (hc : c ∈ s.ids) (hi : i < (s.lits c).length) (hj : j < (s.lits c).length) :
    Calls Tryz.prog 137 #[.pointer (some ⟨c, 0, none⟩), .int .i64 i, .int .i64 j] w fun e w' => e = .returned (.tuple #[]) ∧ RT s w (s.swapC c i j) w' := by
  obtain ⟨b, cap, h1, h2, h3, h4, h5⟩ := h.lits hc (by omega)
  have hd := h.clc hc (j := 0) rfl
  rw [h1] at hd
  have hob : (s.litV c).ownBlock = some b := by rw [h1]; rfl
  have hne : b ≠ c := fun e => by
    have e1 : (s.row (.li c)).v.ownBlock = some b := by simp [St.row, hc]; exact hob
    have e2 : (s.row (.cl c)).v.ownBlock = some b := by simp [St.row, hc, Row.one, Value.ownBlock, e]
    have := h.rows.inj _ _ _ e1 e2
    cases this
  refine (swap_raw c b _ cap i j _ _ w (by omega) (by omega) hd (h.clc hc (j := 3) rfl) (h4 i hi) (h4 j hj) (h5 i) (h5 j) hne (Ne.symm hne)).mono ?_
  rintro e w' ⟨rfl, q, rfl⟩
  refine ⟨rfl, ?_⟩
  have t1 := h.setLit hc hob i (nth (s.lits c) j)
  have hob' : ((s.setLits c ((s.lits c).set i (nth (s.lits c) j))).litV c).ownBlock = some b := hob
  have t2 := t1.trans (t1.rep.setLit (c := c) (b := b) hc hob' j (nth (s.lits c) i))
  refine (RT.drewN ?_ q)
  have e : (s.setLits c ((s.lits c).set i (nth (s.lits c) j))).setLits c (((s.setLits c ((s.lits c).set i (nth (s.lits c) j))).lits c).set j (nth (s.lits c) i)) = s.swapC c i j := by
    unfold St.setLits St.swapC swapL St.setLits
    simp only [if_true]
    congr 1
    congr 1
    funext c'
    split <;> rfl
  rw [e] at t2
  exact t2
end Go.Proofs.YtiimddkopiknpaaGreatDoor

/-
  The plain state's changes, and what the walk of simplifyPropClauses asks of an invariant.
-/
namespace Go.Proofs.YtiimddkopiknpaaGreatDoor
open Go.RowKit

def MS.setVal (m : MS) (v : Nat) (x : Int) : MS := { m with val := m.val.set v x }
def MS.setRsn (m : MS) (v : Nat) (c : Option Nat) : MS := { m with rsn := m.rsn.set v c }
def MS.setWord (m : MS) (c x : Nat) : MS := { m with word := fun c' => if c' = c then x else m.word c' }
def MS.setLits (m : MS) (c : Nat) (L : List Nat) : MS := { m with lits := fun c' => if c' = c then L else m.lits c' }
def MS.swapC (m : MS) (c a b : Nat) : MS := m.setLits c (swapL (m.lits c) a b)
def MS.setWl (m : MS) (t : Nat) (L : List (Nat × Nat)) : MS := { m with wl := fun t' => if t' = t then L else m.wl t' }
def MS.appWl (m : MS) (t : Nat) (e : Nat × Nat) : MS := { m with wl := fun t' => if t' = t then m.wl t ++ [e] else m.wl t' }
def MS.appWb (m : MS) (t : Nat) (e : Nat × Nat) : MS := { m with wb := fun t' => if t' = t then m.wb t ++ [e] else m.wb t' }
def MS.push (m : MS) (l : Nat) : MS := { m with trail := m.trail ++ [l] }
def MS.lockC (m : MS) (c : Nat) : MS := m.setWord c (m.word c ||| 1073741824)
def MS.pUnit (m : MS) (c : Nat) (lvl : Int) (l : Nat) : MS := (((m.setRsn (l / 2) (some c)).lockC c).setVal (l / 2) (sgn l lvl)).push l
/-- the clause with the literal negL lit second -/
def MS.fix (m : MS) (c lit : Nat) : MS := if nth (m.lits c) 0 = negL lit then m.swapC c 0 1 else m

structure Wf (m : MS) : Prop where
  nv0 : 1 ≤ m.nv
  nv1 : m.nv ≤ 1000000
  len : ∀ c ∈ m.ids, 2 ≤ (m.lits c).length ∧ (m.lits c).length ≤ 1000000
  lit : ∀ c ∈ m.ids, ∀ i, i < (m.lits c).length → nth (m.lits c) i < m.nv * 2
  word : ∀ c ∈ m.ids, m.word c < 4294967296
  wl : ∀ t, t < m.nv * 2 → ∀ i, i < (m.wl t).length → (ent (m.wl t) i).1 < m.nv * 2 ∧ (ent (m.wl t) i).2 ∈ m.ids
  wb : ∀ t, t < m.nv * 2 → ∀ i, i < (m.wb t).length → (ent (m.wb t) i).1 < m.nv * 2 ∧ (ent (m.wb t) i).2 ∈ m.ids
  wll : ∀ t, t < m.nv * 2 → (m.wl t).length ≤ 1000000000
  wbl : ∀ t, t < m.nv * 2 → (m.wb t).length ≤ 1000000000
  tr : ∀ i, i < m.trail.length → nth m.trail i < m.nv * 2
  trl : m.trail.length ≤ 1000000000

/-- an invariant of the rounds of simplifyPropClauses over the list L of the literal lit: i entries are seen, j of them are kept -/
structure SPI (lit : Nat) (lvl : Int) (L : List (Nat × Nat)) (I : Nat → Nat → MS → Prop) : Prop where
  wf : ∀ {i j m}, I i j m → Wf m
  nv : ∀ {i j m}, I i j m → lit < m.nv * 2
  fit : ∀ {i j m}, I i j m → (m.wl lit).length = L.length ∧ j ≤ i ∧ i ≤ L.length ∧ (∀ k, i ≤ k → k < L.length → ent (m.wl lit) k = ent L k) ∧ m.lst (negL lit) = 2
  caseA : ∀ {i j m b c}, I i j m → i < L.length → ent L i = (b, c) → m.lst b = 1 → I (i + 1) (j + 1) (m.setWl lit ((m.wl lit).set j (b, c)))
  caseB : ∀ {i j m b c f}, I i j m → i < L.length → ent L i = (b, c) → m.lst b ≠ 1 → f = nth ((m.fix c lit).lits c) 0 → m.lst f = 1 →
    I (i + 1) (j + 1) ((m.fix c lit).setWl lit ((m.wl lit).set j (f, c)))
  caseC : ∀ {i j m b c f k}, I i j m → i < L.length → ent L i = (b, c) → m.lst b ≠ 1 → f = nth ((m.fix c lit).lits c) 0 → m.lst f ≠ 1 →
    2 ≤ k → k < (m.lits c).length → (∀ k', 2 ≤ k' → k' < k → m.lst (nth (m.lits c) k') = 2) → m.lst (nth (m.lits c) k) ≠ 2 →
    I (i + 1) j (((m.fix c lit).swapC c 1 k).appWl (negL (nth (m.lits c) k)) (f, c))
  caseD : ∀ {i j m b c f}, I i j m → i < L.length → ent L i = (b, c) → m.lst b ≠ 1 → f = nth ((m.fix c lit).lits c) 0 → m.lst f = 0 →
    (∀ k', 2 ≤ k' → k' < (m.lits c).length → m.lst (nth (m.lits c) k') = 2) →
    I (i + 1) (j + 1) (((m.fix c lit).setWl lit ((m.wl lit).set j (f, c))).pUnit c lvl f)

theorem fix_nv (m : MS) (c lit : Nat) : (m.fix c lit).nv = m.nv := by unfold MS.fix; split <;> rfl
theorem fix_val (m : MS) (c lit : Nat) : (m.fix c lit).val = m.val := by unfold MS.fix; split <;> rfl
theorem fix_wl (m : MS) (c lit : Nat) : (m.fix c lit).wl = m.wl := by unfold MS.fix; split <;> rfl
theorem fix_ids (m : MS) (c lit : Nat) : (m.fix c lit).ids = m.ids := by unfold MS.fix; split <;> rfl
theorem lst_val (m m' : MS) (h : m'.val = m.val) (l : Nat) : m'.lst l = m.lst l := by unfold MS.lst MS.va; rw [h]
theorem swapL_len (L : List Nat) (a b : Nat) : (swapL L a b).length = L.length := by simp [swapL]
theorem nth_set (L : List Nat) (i j x : Nat) (hi : i < L.length) : nth (L.set i x) j = if i = j then x else nth L j := by
  unfold nth
  rw [List.getD_eq_getElem?_getD, List.getD_eq_getElem?_getD, List.getElem?_set]
  by_cases h : i = j
  · subst h; simp [hi]
  · simp [h]
theorem nth_swapL (L : List Nat) (a b j : Nat) (ha : a < L.length) (hb : b < L.length) : nth (swapL L a b) j = if b = j then nth L a else if a = j then nth L b else nth L j := by
  unfold swapL
  rw [nth_set _ _ _ _ (by simp; exact hb), nth_set _ _ _ _ ha]
theorem fix_len (m : MS) (c lit c' : Nat) : ((m.fix c lit).lits c').length = (m.lits c').length := by
  unfold MS.fix; split
  · simp only [MS.swapC, MS.setLits]
    split
    · rename_i h; subst h; exact swapL_len _ _ _
    · rfl
  · rfl
theorem fix_nth (m : MS) (c lit k : Nat) (hl : 2 ≤ (m.lits c).length) (hk : 2 ≤ k) : nth ((m.fix c lit).lits c) k = nth (m.lits c) k := by
  unfold MS.fix; split
  · simp only [MS.swapC, MS.setLits, if_true]
    rw [nth_swapL _ _ _ _ (by omega) (by omega), if_neg (by omega), if_neg (by omega)]
  · rfl
theorem fix_word (m : MS) (c lit : Nat) : (m.fix c lit).word = m.word := by unfold MS.fix; split <;> rfl
theorem fix_trail (m : MS) (c lit : Nat) : (m.fix c lit).trail = m.trail := by unfold MS.fix; split <;> rfl
theorem ent_set (L : List (Nat × Nat)) (i j : Nat) (x : Nat × Nat) (hi : i < L.length) : ent (L.set i x) j = if i = j then x else ent L j := by
  unfold ent
  rw [List.getD_eq_getElem?_getD, List.getD_eq_getElem?_getD, List.getElem?_set]
  by_cases h : i = j
  · subst h; simp [hi]
  · simp [h]
theorem negL_lt {l n : Nat} (h : l < n * 2) : negL l < n * 2 := by unfold negL; split <;> omega
theorem negL_negL (l : Nat) : negL (negL l) = l := by unfold negL; split <;> split <;> omega

theorem fix_lits_ne (m : MS) (c lit c' : Nat) (h : c' ≠ c) : (m.fix c lit).lits c' = m.lits c' := by
  unfold MS.fix; split
  · simp only [MS.swapC, MS.setLits]; rw [if_neg h]
  · rfl
theorem Wf.fix {m : MS} (h : Wf m) {c : Nat} (hc : c ∈ m.ids) (lit : Nat) : Wf (m.fix c lit) := by
  have hl := h.len c hc
  constructor
  · rw [fix_nv]; exact h.nv0
  · rw [fix_nv]; exact h.nv1
  · intro c' hc'; rw [fix_ids] at hc'; rw [fix_len]; exact h.len c' hc'
  · intro c' hc' i hi
    rw [fix_ids] at hc'
    rw [fix_len] at hi
    rw [fix_nv]
    by_cases e : c' = c
    · subst e
      unfold MS.fix
      split
      · simp only [MS.swapC, MS.setLits, if_true]
        rw [nth_swapL _ _ _ _ (by omega) (by omega)]
        split
        · exact h.lit c' hc' 0 (by omega)
        · split
          · exact h.lit c' hc' 1 (by omega)
          · exact h.lit c' hc' i hi
      · exact h.lit c' hc' i hi
    · rw [fix_lits_ne m c lit c' e]; exact h.lit c' hc' i hi
  · intro c' hc'; rw [fix_ids] at hc'; rw [fix_word]; exact h.word c' hc'
  · rw [fix_nv, fix_wl, fix_ids]; exact h.wl
  · have e : (m.fix c lit).wb = m.wb := by unfold MS.fix; split <;> rfl
    rw [fix_nv, e, fix_ids]; exact h.wb
  · rw [fix_nv, fix_wl]; exact h.wll
  · have e : (m.fix c lit).wb = m.wb := by unfold MS.fix; split <;> rfl
    rw [fix_nv, e]; exact h.wbl
  · rw [fix_nv, fix_trail]; exact h.tr
  · rw [fix_trail]; exact h.trl

def St.fix (s : St) (c lit : Nat) : St := if nth (s.lits c) 0 = negL lit then s.swapC c 0 1 else s
theorem St.fix_ms (s : St) (c lit : Nat) : (s.fix c lit).toMS = s.toMS.fix c lit := by unfold St.fix MS.fix; split <;> rfl
theorem St.fix_hd (s : St) (c lit : Nat) : (s.fix c lit).sb = s.sb ∧ (s.fix c lit).wlHB = s.wlHB ∧ (s.fix c lit).modelB = s.modelB ∧ (s.fix c lit).wlV = s.wlV := by unfold St.fix; split <;> exact ⟨rfl, rfl, rfl, rfl⟩

section
variable {s : St} {w : World}
theorem Rep.clAt (h : Rep s w) (hW : Wf s.toMS) {c : Nat} (hc : c ∈ s.ids) : ∃ b cap, ClAt w c (s.lits c) b cap := by
  obtain ⟨l1, l2⟩ := hW.len c hc
  obtain ⟨b, cap, h1, h2, h3, h4, h5⟩ := h.lits hc (by omega)
  have hd := h.clc hc (j := 0) rfl
  rw [h1] at hd
  exact ⟨b, cap, hd, h4, l2⟩
theorem First_s (h : Rep s w) (hW : Wf s.toMS) {c : Nat} (hc : c ∈ s.ids) :
    Calls Tryz.prog 54 #[.pointer (some ⟨c, 0, none⟩)] w fun e w' => e = .returned (.int .i32 (nth (s.lits c) 0 : Nat)) ∧ w' = w := by
  obtain ⟨b, cap, hcl⟩ := h.clAt hW hc
  exact First_c hcl (by have := hW.len c hc; omega)
theorem Second_s (h : Rep s w) (hW : Wf s.toMS) {c : Nat} (hc : c ∈ s.ids) :
    Calls Tryz.prog 55 #[.pointer (some ⟨c, 0, none⟩)] w fun e w' => e = .returned (.int .i32 (nth (s.lits c) 1 : Nat)) ∧ w' = w := by
  obtain ⟨b, cap, hcl⟩ := h.clAt hW hc
  exact Second_c hcl (by have := hW.len c hc; omega)
theorem Get_s (h : Rep s w) (hW : Wf s.toMS) {c : Nat} (hc : c ∈ s.ids) {i : Nat} (hi : i < (s.lits c).length) :
    Calls Tryz.prog 52 #[.pointer (some ⟨c, 0, none⟩), .int .i64 (i : Int)] w fun e w' => e = .returned (.int .i32 (nth (s.lits c) i : Nat)) ∧ w' = w := by
  obtain ⟨b, cap, hcl⟩ := h.clAt hW hc
  exact Get_c hcl i hi
theorem Len_s (h : Rep s w) (hW : Wf s.toMS) {c : Nat} (hc : c ∈ s.ids) :
    Calls Tryz.prog 50 #[.pointer (some ⟨c, 0, none⟩)] w fun e w' => e = .returned (.int .i64 ((s.lits c).length : Int)) ∧ w' = w := by
  obtain ⟨b, cap, hcl⟩ := h.clAt hW hc
  exact Len_c hcl
end
theorem exists_least (p : Nat → Prop) (h : ∃ k, p k) : ∃ k, p k ∧ ∀ k', k' < k → ¬ p k' := by
  obtain ⟨k, hk⟩ := h
  induction k using Nat.strongRecOn with
  | _ k ih =>
    by_cases hc : ∃ k', k' < k ∧ p k'
    · obtain ⟨k', h1, h2⟩ := hc
      exact ih k' h1 h2
    · exact ⟨k, hk, fun k' h1 h2 => hc ⟨k', h1, h2⟩⟩
theorem Rep.notOwn {s : St} {w : World} (h : Rep s w) : ¬ Own s.row w.heap.size := fun hb => Nat.lt_irrefl _ (h.rows.lt hb)
theorem swapC_lst (s : St) (c a b l : Nat) : (s.swapC c a b).lst l = s.lst l := rfl
end Go.Proofs.YtiimddkopiknpaaGreatDoor

/-
  Learning from a conflict, in plain terms: what the analysis keeps, and why the clause that it gives follows.
-/
namespace Go.Proofs.YtiimddkopiknpaaGreatDoor

/-- the marks (first: met; then: met at the level), the literals, how many of the level are open -/
structure LS where
  B : List Bool
  L : List Nat
  n : Nat

def MS.lev (m : MS) (v : Nat) : Nat := (m.va v).natAbs
def LS.met (a : LS) (v : Nat) : Bool := a.B.getD v false
def LS.ml (a : LS) (nv v : Nat) : Bool := a.B.getD (nv + v) false
def LS.mark (a : LS) (v : Nat) : LS := { a with B := a.B.set v true }
def LS.add (a : LS) (m : MS) (lvl l : Nat) : LS :=
  if m.lst l = 2 then
    if m.lev (l / 2) = lvl then ⟨(a.B.set (l / 2) true).set (m.nv + l / 2) true, a.L, a.n + 1⟩ else ⟨a.B.set (l / 2) true, a.L ++ [l], a.n⟩
  else a
def LS.new (a : LS) (m : MS) (lvl l : Nat) : LS := if a.met (l / 2) = true then a else a.add m lvl l
def LS.pass (a : LS) (m : MS) (lvl v : Nat) : LS := if m.lev v = lvl then a.mark v else a

def tru (σ : Nat → Bool) (l : Nat) : Bool := if l % 2 = 0 then σ (l / 2) else !σ (l / 2)
theorem negL_div (l : Nat) : negL l / 2 = l / 2 := by unfold negL; split <;> omega
theorem tru_neg (σ : Nat → Bool) (l : Nat) : tru σ (negL l) = !tru σ l := by
  unfold tru
  rw [negL_div]
  unfold negL
  by_cases h : l % 2 = 0
  · have : (l + 1) % 2 ≠ 0 := by omega
    simp [h, this]
  · have : (l - 1) % 2 = 0 := by omega
    simp [h, this]
def MS.Sat (m : MS) (σ : Nat → Bool) : Prop := ∀ c ∈ m.ids, ∃ x ∈ m.lits c, tru σ x = true

theorem negL_ne (l : Nat) : negL l ≠ l := by unfold negL; split <;> omega
theorem eq_or_neg {x y : Nat} (h : x / 2 = y / 2) : x = y ∨ x = negL y := by unfold negL; split <;> omega
theorem lst_neg1 {m : MS} {l : Nat} (h : m.lst l = 1) : m.lst (negL l) = 2 := by
  unfold MS.lst at *
  rw [negL_div]
  split at h
  · cases h
  · rename_i h0
    rw [if_neg h0]
    split at h
    · rename_i h1
      rw [if_neg]
      intro h2
      have := h1.symm.trans h2
      have h3 : negL l % 2 = 0 ↔ ¬ l % 2 = 0 := by unfold negL; split <;> omega
      rw [eq_iff_iff, h3] at this
      by_cases h4 : l % 2 = 0
      · exact this.1 h4 h4
      · exact h4 (this.2 h4)
    · cases h
theorem lst_two {m : MS} {x y : Nat} (h : x / 2 = y / 2) (hx : m.lst x = 2) (hy : m.lst y = 2) : x = y := by
  rcases eq_or_neg h with h' | h'
  · exact h'
  · exfalso
    unfold MS.lst at hx hy
    rw [h] at hx
    split at hy
    · cases hy
    · rename_i h0
      rw [if_neg h0] at hx
      split at hy
      · cases hy
      · rename_i h1
        split at hx
        · cases hx
        · rename_i h2
          rw [eq_iff_iff] at h1 h2
          have h3 : x % 2 = 0 ↔ ¬ y % 2 = 0 := by rw [h']; unfold negL; split <;> omega
          rw [h3] at h2
          by_cases h4 : y % 2 = 0 <;> by_cases h5 : 0 < m.va (y / 2) <;> simp [h4, h5] at h1 h2
theorem lst_one {m : MS} {x y : Nat} (h : x / 2 = y / 2) (hx : m.lst x = 1) (hy : m.lst y = 2) : x = negL y := by
  rcases eq_or_neg h with h' | h'
  · rw [h', hy] at hx; cases hx
  · exact h'
theorem lst_va {m : MS} {x : Nat} (h : m.lst x ≠ 0) : m.va (x / 2) ≠ 0 := by
  intro h'; apply h; unfold MS.lst; rw [if_pos h']

/-- the trail: what is bound lies there, by levels; each bound variable's reason -/
structure Tl (m : MS) (lvl : Nat) : Prop where
  on : ∀ v, v < m.nv → m.va v ≠ 0 → ∃ i, i < m.trail.length ∧ nth m.trail i / 2 = v
  tr1 : ∀ i, i < m.trail.length → m.lst (nth m.trail i) = 1
  mono : ∀ i j, i ≤ j → j < m.trail.length → m.lev (nth m.trail i / 2) ≤ m.lev (nth m.trail j / 2)
  top : ∀ i, i < m.trail.length → m.lev (nth m.trail i / 2) ≤ lvl
  uni : ∀ i j, i < m.trail.length → j < m.trail.length → nth m.trail i / 2 = nth m.trail j / 2 → 2 ≤ m.lev (nth m.trail i / 2) → i = j
  rsn : ∀ i c, i < m.trail.length → m.ra (nth m.trail i / 2) = some c → c ∈ m.ids ∧ nth m.trail i ∈ m.lits c ∧ ∀ y ∈ m.lits c, y ≠ nth m.trail i → ∃ j, j < i ∧ nth m.trail j = negL y
  dec : ∀ i j, i < m.trail.length → m.ra (nth m.trail i / 2) = none → 2 ≤ m.lev (nth m.trail i / 2) → j < i → m.lev (nth m.trail j / 2) < m.lev (nth m.trail i / 2)

theorem Tl.at_ {m : MS} {lvl : Nat} (h : Tl m lvl) {x : Nat} (hx : x < m.nv * 2) (hf : m.lst x = 2) : ∃ i, i < m.trail.length ∧ nth m.trail i = negL x := by
  obtain ⟨i, h1, h2⟩ := h.on (x / 2) (by omega) (lst_va (by rw [hf]; decide))
  exact ⟨i, h1, lst_one h2 (h.tr1 i h1) hf⟩

def cntM (m : MS) (a : LS) (q : Nat) : Nat := ((List.range q).filter fun i => a.ml m.nv (nth m.trail i / 2)).length
theorem cntM_succ (m : MS) (a : LS) (q : Nat) : cntM m a (q + 1) = cntM m a q + if a.ml m.nv (nth m.trail q / 2) = true then 1 else 0 := by
  unfold cntM
  rw [List.range_succ, List.filter_append, List.length_append]
  congr 1
  by_cases h : a.ml m.nv (nth m.trail q / 2) = true <;> simp [h]
theorem cntM_congr {m : MS} {a b : LS} {q : Nat} (h : ∀ i, i < q → a.ml m.nv (nth m.trail i / 2) = b.ml m.nv (nth m.trail i / 2)) : cntM m a q = cntM m b q := by
  induction q with
  | zero => rfl
  | succ q ih => rw [cntM_succ, cntM_succ, ih (fun i hi => h i (by omega)), h q (by omega)]
theorem cntM_zero {m : MS} {a : LS} {q : Nat} (h : ∀ i, i < q → a.ml m.nv (nth m.trail i / 2) = false) : cntM m a q = 0 := by
  induction q with
  | zero => rfl
  | succ q ih => rw [cntM_succ, ih (fun i hi => h i (by omega)), h q (by omega)]; rfl
theorem cntM_one {m : MS} {a b : LS} {q j : Nat} (hj : j < q) (h1 : a.ml m.nv (nth m.trail j / 2) = false) (h2 : b.ml m.nv (nth m.trail j / 2) = true)
    (h : ∀ i, i < q → i ≠ j → b.ml m.nv (nth m.trail i / 2) = a.ml m.nv (nth m.trail i / 2)) : cntM m b q = cntM m a q + 1 := by
  induction q with
  | zero => omega
  | succ q ih =>
    rw [cntM_succ, cntM_succ]
    by_cases e : j = q
    · subst e
      rw [h1, h2, cntM_congr (a := b) (b := a) (fun i hi => h i (by omega) (by omega))]; simp
    · rw [ih (by omega) (fun i hi hne => h i (by omega) hne), h q (by omega) (fun e' => e e'.symm)]; omega
theorem cntM_pos {m : MS} {a : LS} {q : Nat} (h : 1 ≤ cntM m a q) : ∃ i, i < q ∧ a.ml m.nv (nth m.trail i / 2) = true := by
  unfold cntM at h
  obtain ⟨x, hx⟩ := List.exists_mem_of_length_pos (by omega : 0 < ((List.range q).filter fun i => a.ml m.nv (nth m.trail i / 2)).length)
  rw [List.mem_filter, List.mem_range] at hx
  exact ⟨x, hx.1, hx.2⟩
theorem cntM_uni {m : MS} {a : LS} : ∀ {q : Nat}, cntM m a q ≤ 1 → ∀ {i j : Nat}, i < j → j < q → a.ml m.nv (nth m.trail i / 2) = true → a.ml m.nv (nth m.trail j / 2) = true → False
  | 0, _, _, _, _, hj, _, _ => by omega
  | q + 1, h, i, j, hij, hj, h1, h2 => by
    rw [cntM_succ] at h
    by_cases e : j = q
    · subst e
      rw [h2] at h
      have : 1 ≤ cntM m a j := by
        unfold cntM
        exact List.length_pos_of_mem (List.mem_filter.2 ⟨List.mem_range.2 hij, h1⟩)
      simp at h
      omega
    · exact cntM_uni (q := q) (by omega) hij (by omega) h1 h2

/-- from place b of the trail on each variable of the level stands once; before it no variable of a clause stands -/
structure LU (m : MS) (lvl b : Nat) : Prop where
  uni : ∀ i j, b ≤ i → b ≤ j → i < m.trail.length → j < m.trail.length → nth m.trail i / 2 = nth m.trail j / 2 → m.lev (nth m.trail i / 2) = lvl → i = j
  cl : ∀ c ∈ m.ids, ∀ y ∈ m.lits c, ∀ i, i < b → nth m.trail i / 2 ≠ y / 2
/-- a literal yet to be looked at that counts -/
structure LGood (m : MS) (lvl b q y : Nat) : Prop where
  f : m.lst y = 2
  nv : y < m.nv * 2
  le : m.lev (y / 2) ≤ lvl
  at_ : m.lev (y / 2) = lvl → ∃ j, b ≤ j ∧ j < q ∧ nth m.trail j = negL y
  nb : ∀ i, i < b → nth m.trail i / 2 ≠ y / 2

/-- what holds of the analysis with the trail's places below q open and the literals R yet to be looked at -/
structure LI (m : MS) (lvl b q : Nat) (a : LS) (R : List Nat) : Prop where
  bl : a.B.length = m.nv * 2
  ql : q ≤ m.trail.length
  ne : 1 ≤ a.L.length
  nc : cntM m a q = a.n
  lv : ∀ v, v < m.nv → a.ml m.nv v = true → m.lev v = lvl ∧ a.met v = true
  fl : ∀ x ∈ a.L.tail, m.lst x = 2 ∧ m.lev (x / 2) < lvl ∧ x < m.nv * 2 ∧ a.met (x / 2) = true
  mt : ∀ v, v < m.nv → a.met v = true → m.lev v < lvl → ∃ x ∈ a.L.tail, x / 2 = v
  mq : ∀ i, b ≤ i → i < q → m.lev (nth m.trail i / 2) = lvl → a.met (nth m.trail i / 2) = true → a.ml m.nv (nth m.trail i / 2) = true
  mc : ∀ v, v < m.nv → a.ml m.nv v = true → ∀ i, i < b → nth m.trail i / 2 ≠ v
  nd : (a.L.tail.map (· / 2)).Nodup
  imp : 2 ≤ lvl → ∀ σ, m.Sat σ → (∃ x ∈ a.L.tail, tru σ x = true) ∨ (∃ i, i < q ∧ a.ml m.nv (nth m.trail i / 2) = true ∧ tru σ (negL (nth m.trail i)) = true) ∨ ∃ y ∈ R, LGood m lvl b q y ∧ tru σ y = true
  fb : ∀ x ∈ a.L.tail, ∀ i, i < b → nth m.trail i / 2 ≠ x / 2

theorem getD_set_b (B : List Bool) (i j : Nat) (h : i < B.length) : (B.set i true).getD j false = if i = j then true else B.getD j false := by
  rw [List.getD_eq_getElem?_getD, List.getD_eq_getElem?_getD, List.getElem?_set]
  by_cases e : i = j
  · subst e; simp [h]
  · simp [e]
theorem tail_append {α : Type} (L : List α) (x : α) (h : 1 ≤ L.length) : (L ++ [x]).tail = L.tail ++ [x] := by
  cases L with
  | nil => simp at h
  | cons y L => rfl

theorem LI.add {m : MS} {lvl b q : Nat} {a : LS} {y : Nat} {R : List Nat} (hU : LU m lvl b) (hn : ∀ i, i < m.trail.length → nth m.trail i < m.nv * 2) (h : LI m lvl b q a (y :: R)) (hy : LGood m lvl b q y) (hm : a.met (y / 2) = false) : LI m lvl b q (a.add m lvl y) R := by
  have hy2 : y / 2 < m.nv := by have := hy.nv; omega
  have hb := h.bl
  unfold LS.add
  rw [if_pos hy.f]
  by_cases e : m.lev (y / 2) = lvl
  · rw [if_pos e]
    obtain ⟨j, hjb, hj, hjy⟩ := hy.at_ e
    have hj2 : nth m.trail j / 2 = y / 2 := by rw [hjy, negL_div]
    have hmet : ∀ v, v < m.nv → (⟨(a.B.set (y / 2) true).set (m.nv + y / 2) true, a.L, a.n + 1⟩ : LS).met v = if y / 2 = v then true else a.met v := by
      intro v hv
      unfold LS.met
      rw [getD_set_b _ _ _ (by simp; omega), if_neg (by omega), getD_set_b _ _ _ (by omega)]
    have hml : ∀ v, (⟨(a.B.set (y / 2) true).set (m.nv + y / 2) true, a.L, a.n + 1⟩ : LS).ml m.nv v = if y / 2 = v then true else a.ml m.nv v := by
      intro v
      unfold LS.ml
      rw [getD_set_b _ _ _ (by simp; omega)]
      by_cases e2 : y / 2 = v
      · rw [if_pos e2, if_pos (by omega)]
      · rw [if_neg e2, if_neg (by omega), getD_set_b _ _ _ (by omega), if_neg (by omega)]
    have hmlf : a.ml m.nv (y / 2) = false := by
      cases hc : a.ml m.nv (y / 2) with
      | false => rfl
      | true => have := (h.lv _ hy2 hc).2; rw [hm] at this; cases this
    refine ⟨by simp; exact hb, h.ql, h.ne, ?_, ?_, ?_, ?_, ?_, ?_, h.nd, ?_, h.fb⟩
    · rw [cntM_one (a := a) hj (by rw [hj2]; exact hmlf) (by rw [hml, if_pos hj2.symm]), h.nc]
      intro i hi hne
      rw [hml, if_neg]
      intro e2
      have hib : b ≤ i := Nat.le_of_not_lt fun hib => hy.nb i hib e2.symm
      exact hne (hU.uni i j hib hjb (by have := h.ql; omega) (by have := h.ql; omega) (by omega) (by rw [← e2]; exact e))
    · intro v hv hv2
      rw [hml] at hv2
      rw [hmet v hv]
      by_cases e2 : y / 2 = v
      · rw [if_pos e2]; exact ⟨by rw [← e2]; exact e, rfl⟩
      · rw [if_neg e2] at hv2 ⊢; exact h.lv v hv hv2
    · intro x hx
      obtain ⟨z1, z2, z3, z4⟩ := h.fl x hx
      refine ⟨z1, z2, z3, ?_⟩
      rw [hmet _ (by omega), z4]; simp
    · intro v hv hv2 hv3
      rw [hmet v hv] at hv2
      by_cases e2 : y / 2 = v
      · rw [← e2, e] at hv3; omega
      · rw [if_neg e2] at hv2; exact h.mt v hv hv2 hv3
    · intro i hib hi hi2 hi3
      have hiq := h.ql
      rw [hml]
      rw [hmet _ (by have := hn i (by omega); omega)] at hi3
      by_cases e2 : y / 2 = nth m.trail i / 2
      · rw [if_pos e2]
      · rw [if_neg e2] at hi3 ⊢; exact h.mq i hib hi hi2 hi3
    · intro v hv hv2 i hi
      rw [hml] at hv2
      by_cases e2 : y / 2 = v
      · rw [← e2]; exact hy.nb i hi
      · rw [if_neg e2] at hv2; exact h.mc v hv hv2 i hi
    · intro hl σ hσ
      rcases h.imp hl σ hσ with h' | ⟨i, h1, h2, h3⟩ | ⟨z, hz, hz2, hz3⟩
      · exact .inl h'
      · exact .inr (.inl ⟨i, h1, by rw [hml, h2]; simp, h3⟩)
      · rcases List.mem_cons.1 hz with rfl | hz
        · exact .inr (.inl ⟨j, hj, by rw [hml, if_pos hj2.symm], by rw [hjy, negL_negL]; exact hz3⟩)
        · exact .inr (.inr ⟨z, hz, hz2, hz3⟩)
  · rw [if_neg e]
    have hlt : m.lev (y / 2) < lvl := by have := hy.le; omega
    have hmet : ∀ v, v < m.nv → (⟨a.B.set (y / 2) true, a.L ++ [y], a.n⟩ : LS).met v = if y / 2 = v then true else a.met v := by
      intro v hv
      unfold LS.met
      rw [getD_set_b _ _ _ (by omega)]
    have hml : ∀ v, (⟨a.B.set (y / 2) true, a.L ++ [y], a.n⟩ : LS).ml m.nv v = a.ml m.nv v := by
      intro v
      unfold LS.ml
      rw [getD_set_b _ _ _ (by omega), if_neg (by omega)]
    have htl : (a.L ++ [y]).tail = a.L.tail ++ [y] := tail_append _ _ h.ne
    refine ⟨by simp; exact hb, h.ql, by simp, ?_, ?_, ?_, ?_, ?_, ?_, ?_, ?_, ?_⟩
    · rw [← h.nc]; exact cntM_congr fun i _ => hml _
    · intro v hv hv2
      rw [hml] at hv2
      rw [hmet v hv]
      obtain ⟨z1, z2⟩ := h.lv v hv hv2
      exact ⟨z1, by rw [z2]; simp⟩
    · intro x hx
      rw [htl] at hx
      rcases List.mem_append.1 hx with hx | hx
      · obtain ⟨z1, z2, z3, z4⟩ := h.fl x hx
        refine ⟨z1, z2, z3, ?_⟩
        rw [hmet _ (by omega), z4]; simp
      · rw [List.mem_singleton] at hx
        subst hx
        exact ⟨hy.f, hlt, hy.nv, by rw [hmet _ hy2]; simp⟩
    · intro v hv hv2 hv3
      rw [hmet v hv] at hv2
      rw [htl]
      by_cases e2 : y / 2 = v
      · exact ⟨y, by simp, e2⟩
      · rw [if_neg e2] at hv2
        obtain ⟨x, h1, h2⟩ := h.mt v hv hv2 hv3
        exact ⟨x, List.mem_append_left _ h1, h2⟩
    · intro i hib hi hi2 hi3
      have hiq := h.ql
      rw [hml]
      rw [hmet _ (by have := hn i (by omega); omega)] at hi3
      rw [if_neg (fun e2 => e (by rw [e2]; exact hi2))] at hi3
      exact h.mq i hib hi hi2 hi3
    · intro v hv hv2 i hi
      rw [hml] at hv2
      exact h.mc v hv hv2 i hi
    · simp only []
      rw [htl, List.map_append, List.nodup_append]
      refine ⟨h.nd, by simp, ?_⟩
      intro x hx z hz hxz
      obtain ⟨x', hx', rfl⟩ := List.mem_map.1 hx
      have hz : z = y / 2 := by simpa using hz
      subst hz
      have := (h.fl x' hx').2.2.2
      rw [hxz, hm] at this
      cases this
    · intro hl σ hσ
      simp only []
      rw [htl]
      rcases h.imp hl σ hσ with ⟨x, h1, h2⟩ | ⟨i, h1, h2, h3⟩ | ⟨z, hz, hz2, hz3⟩
      · exact .inl ⟨x, List.mem_append_left _ h1, h2⟩
      · exact .inr (.inl ⟨i, h1, by rw [hml, h2], h3⟩)
      · rcases List.mem_cons.1 hz with rfl | hz
        · exact .inl ⟨z, by simp, hz3⟩
        · exact .inr (.inr ⟨z, hz, hz2, hz3⟩)
    · intro x hx
      simp only [] at hx
      rw [htl] at hx
      rcases List.mem_append.1 hx with hx | hx
      · exact h.fb x hx
      · rw [List.mem_singleton] at hx
        subst hx
        exact hy.nb

theorem LI.skip {m : MS} {lvl b q : Nat} {a : LS} {y : Nat} {R : List Nat} (h : LI m lvl b q a (y :: R)) (hy : LGood m lvl b q y → a.met (y / 2) = true) : LI m lvl b q a R := by
  refine ⟨h.bl, h.ql, h.ne, h.nc, h.lv, h.fl, h.mt, h.mq, h.mc, h.nd, ?_, h.fb⟩
  intro hl σ hσ
  rcases h.imp hl σ hσ with h' | h' | ⟨z, hz, hz2, hz3⟩
  · exact .inl h'
  · exact .inr (.inl h')
  · rcases List.mem_cons.1 hz with rfl | hz
    · have hm := hy hz2
      have hz4 := hz2.nv
      by_cases e : m.lev (z / 2) = lvl
      · obtain ⟨j, hjb, hj, hjy⟩ := hz2.at_ e
        have hj2 : nth m.trail j / 2 = z / 2 := by rw [hjy, negL_div]
        exact .inr (.inl ⟨j, hj, h.mq j hjb hj (by rw [hj2]; exact e) (by rw [hj2]; exact hm), by rw [hjy, negL_negL]; exact hz3⟩)
      · obtain ⟨x, h1, h2⟩ := h.mt (z / 2) (by omega) hm (by have := hz2.le; omega)
        have : x = z := lst_two h2 (h.fl x h1).1 hz2.f
        exact .inl ⟨x, h1, by rw [this]; exact hz3⟩
    · exact .inr (.inr ⟨z, hz, hz2, hz3⟩)

theorem LI.new {m : MS} {lvl b q : Nat} {a : LS} {y : Nat} {R : List Nat} (hU : LU m lvl b) (hn : ∀ i, i < m.trail.length → nth m.trail i < m.nv * 2) (h : LI m lvl b q a (y :: R)) (hy : a.met (y / 2) = true ∨ LGood m lvl b q y) : LI m lvl b q (a.new m lvl y) R := by
  unfold LS.new
  by_cases e : a.met (y / 2) = true
  · rw [if_pos e]; exact h.skip fun _ => e
  · rw [if_neg e]
    rcases hy with hy | hy
    · exact absurd hy e
    · exact h.add hU hn hy (by simpa using e)

/-- over the current level's literals before the mark q nothing is changed by going down -/
theorem LI.pass {m : MS} {lvl b q : Nat} {a : LS} (hU : LU m lvl b) (hn : ∀ i, i < m.trail.length → nth m.trail i < m.nv * 2) (h : LI m lvl b (q + 1) a []) (hm : a.ml m.nv (nth m.trail q / 2) = false) : LI m lvl b q (a.pass m lvl (nth m.trail q / 2)) [] := by
  have hq := h.ql
  have hq2 := hn q (by omega)
  have hb := h.bl
  have hc : cntM m a q = a.n := by
    have := h.nc
    rw [cntM_succ, hm] at this
    simpa using this
  have himp : 2 ≤ lvl → ∀ σ, m.Sat σ → (∃ x ∈ a.L.tail, tru σ x = true) ∨ (∃ i, i < q ∧ a.ml m.nv (nth m.trail i / 2) = true ∧ tru σ (negL (nth m.trail i)) = true) ∨ ∃ y ∈ ([] : List Nat), LGood m lvl b q y ∧ tru σ y = true := by
    intro hl σ hσ
    rcases h.imp hl σ hσ with h' | ⟨i, h1, h2, h3⟩ | ⟨z, hz, _⟩
    · exact .inl h'
    · refine .inr (.inl ⟨i, ?_, h2, h3⟩)
      by_cases e : i = q
      · subst e; rw [hm] at h2; cases h2
      · omega
    · simp at hz
  unfold LS.pass
  by_cases e : m.lev (nth m.trail q / 2) = lvl
  · rw [if_pos e]
    have hmet : ∀ v, (a.mark (nth m.trail q / 2)).met v = if nth m.trail q / 2 = v then true else a.met v := by
      intro v
      unfold LS.met LS.mark
      rw [getD_set_b _ _ _ (by omega)]
    have hml : ∀ v, (a.mark (nth m.trail q / 2)).ml m.nv v = a.ml m.nv v := by
      intro v
      unfold LS.ml LS.mark
      rw [getD_set_b _ _ _ (by omega), if_neg (by omega)]
    refine ⟨by unfold LS.mark; simp; exact hb, by omega, h.ne, ?_, ?_, ?_, ?_, ?_, ?_, h.nd, ?_, h.fb⟩
    · exact (cntM_congr fun i _ => hml _).trans hc
    · intro v hv hv2
      rw [hml] at hv2
      rw [hmet]
      obtain ⟨z1, z2⟩ := h.lv v hv hv2
      exact ⟨z1, by rw [z2]; simp⟩
    · intro x hx
      obtain ⟨z1, z2, z3, z4⟩ := h.fl x hx
      exact ⟨z1, z2, z3, by rw [hmet, z4]; simp⟩
    · intro v hv hv2 hv3
      rw [hmet] at hv2
      rw [if_neg (fun e2 => by rw [← e2, e] at hv3; omega)] at hv2
      exact h.mt v hv hv2 hv3
    · intro i hib hi hi2 hi3
      rw [hml]
      rw [hmet] at hi3
      rw [if_neg] at hi3
      · exact h.mq i hib (by omega) hi2 hi3
      · intro e2
        have := hU.uni q i (by omega) hib (by omega) (by omega) e2 e
        omega
    · intro v hv hv2
      rw [hml] at hv2
      exact h.mc v hv hv2
    · intro hl σ hσ
      rcases himp hl σ hσ with h' | ⟨i, h1, h2, h3⟩ | h'
      · exact .inl h'
      · exact .inr (.inl ⟨i, h1, by rw [hml]; exact h2, h3⟩)
      · exact .inr (.inr h')
  · rw [if_neg e]
    exact ⟨hb, by omega, h.ne, hc, h.lv, h.fl, h.mt, fun i hib hi => h.mq i hib (by omega), h.mc, h.nd, himp, h.fb⟩

/-- a literal of the level is taken up: its reason's other literals stand for it -/
theorem LI.take {m : MS} {lvl b q : Nat} {a : LS} (hT : Tl m lvl) (hW : Wf m) (hU : LU m lvl b) (h : LI m lvl b (q + 1) a []) (hm : a.ml m.nv (nth m.trail q / 2) = true) (h1 : 1 < a.n) :
    1 ≤ q ∧ ((m.ra (nth m.trail q / 2) = none ∧ LI m lvl b q { a with n := a.n - 1 } []) ∨ ∃ c, m.ra (nth m.trail q / 2) = some c ∧ c ∈ m.ids ∧ LI m lvl b q { a with n := a.n - 1 } (m.lits c) ∧ (∀ y ∈ m.lits c, a.met (y / 2) = true ∨ LGood m lvl b q y)) := by
  have hq := h.ql
  have hq2 := hW.tr q (by omega)
  obtain ⟨z1, z2⟩ := h.lv _ (by omega) hm
  have hc : cntM m a q + 1 = a.n := by
    have := h.nc
    rw [cntM_succ, hm] at this
    simpa using this
  have hq1 : 1 ≤ q := by
    obtain ⟨i, hi, _⟩ := cntM_pos (m := m) (a := a) (q := q) (by omega)
    omega
  refine ⟨hq1, ?_⟩
  cases hr : m.ra (nth m.trail q / 2) with
  | none =>
    refine .inl ⟨rfl, ⟨h.bl, by omega, h.ne, by show cntM m a q = a.n - 1; omega, h.lv, h.fl, h.mt, fun i hib hi => h.mq i hib (by omega), h.mc, h.nd, fun hl => ?_, h.fb⟩⟩
    exfalso
    have : cntM m a q = 0 := cntM_zero fun i hi => by
      have hlt := hT.dec q i (by omega) hr (by omega) hi
      cases hc2 : a.ml m.nv (nth m.trail i / 2) with
      | false => rfl
      | true =>
        have hi2 := hW.tr i (by omega)
        have := (h.lv _ (by omega) hc2).1
        omega
    omega
  | some c =>
    obtain ⟨c1, c2, c3⟩ := hT.rsn q c (by omega) hr
    have hgood : ∀ y ∈ m.lits c, y ≠ nth m.trail q → LGood m lvl b q y := by
      intro y hy hne
      obtain ⟨j, hj, hjy⟩ := c3 y hy hne
      have hj2 : nth m.trail j / 2 = y / 2 := by rw [hjy, negL_div]
      have ht := hT.tr1 j (by omega)
      rw [hjy] at ht
      have := lst_neg1 ht
      rw [negL_negL] at this
      refine ⟨this, ?_, by rw [← hj2]; exact hT.top j (by omega), fun _ => ⟨j, Nat.le_of_not_lt fun hjb => hU.cl c c1 y hy j hjb hj2, hj, hjy⟩, hU.cl c c1 y hy⟩
      have := hW.tr j (by omega)
      rw [hjy] at this
      unfold negL at this
      split at this <;> omega
    refine .inr ⟨c, rfl, c1, ⟨h.bl, by omega, h.ne, by show cntM m a q = a.n - 1; omega, h.lv, h.fl, h.mt, fun i hib hi => h.mq i hib (by omega), h.mc, h.nd, ?_, h.fb⟩, ?_⟩
    · intro hl σ hσ
      rcases h.imp hl σ hσ with h' | ⟨i, i1, i2, i3⟩ | ⟨z, hz, _⟩
      · exact .inl h'
      · by_cases e : i = q
        · subst e
          obtain ⟨y, hy, hy2⟩ := hσ c c1
          refine .inr (.inr ⟨y, hy, hgood y hy ?_, hy2⟩)
          intro e; rw [tru_neg, ← e, hy2] at i3; cases i3
        · exact .inr (.inl ⟨i, by omega, i2, i3⟩)
      · simp at hz
    · intro y hy
      by_cases e : y = nth m.trail q
      · rw [e]; exact .inl z2
      · exact .inr (hgood y hy e)

/-- the end of the analysis: the first literal of the level that is met, and what follows -/
theorem LI.done {m : MS} {lvl b q : Nat} {a : LS} (hW : Wf m) (h : LI m lvl b q a []) (h1 : a.n = 1) {u : Nat} (hu : u < m.trail.length) (hu2 : a.ml m.nv (nth m.trail u / 2) = true) (hu3 : ∀ i, i < u → a.ml m.nv (nth m.trail i / 2) = false) :
    (2 ≤ lvl → ∀ σ, m.Sat σ → ∃ x ∈ a.L.set 0 (negL (nth m.trail u)), tru σ x = true) ∧ m.lev (nth m.trail u / 2) = lvl := by
  have hc := h.nc
  rw [h1] at hc
  obtain ⟨i, hi, hi2⟩ := cntM_pos (m := m) (a := a) (q := q) (by omega)
  have huq : u < q := by
    have : ¬ i < u := fun h' => by rw [hu3 i h'] at hi2; cases hi2
    omega
  refine ⟨fun hl σ hσ => ?_, (h.lv _ (by have := hW.tr u hu; omega) hu2).1⟩
  have hL : a.L.set 0 (negL (nth m.trail u)) = negL (nth m.trail u) :: a.L.tail := by
    have := h.ne
    cases hL : a.L with
    | nil => rw [hL] at this; simp at this
    | cons x L => rfl
  rw [hL]
  rcases h.imp hl σ hσ with ⟨x, h1, h2⟩ | ⟨i, i1, i2, i3⟩ | ⟨z, hz, _⟩
  · exact ⟨x, List.mem_cons_of_mem _ h1, h2⟩
  · have : i = u := by
      rcases Nat.lt_trichotomy i u with h' | h' | h'
      · rw [hu3 i h'] at i2; cases i2
      · exact h'
      · exact (cntM_uni (by omega) h' i1 hu2 i2).elim
    subst this
    exact ⟨_, by simp, i3⟩
  · simp at hz

def keepL (m : MS) (a : LS) (x : Nat) : Bool := match m.ra (x / 2) with
  | none => true
  | some c => (m.lits c).any fun y => !a.met (y / 2)
/-- a literal whose reason's literals all are met can go -/
theorem LI.min {m : MS} {lvl b q : Nat} {a : LS} (hT : Tl m lvl) (hW : Wf m) (h : LI m lvl b q a []) {u : Nat} {T : List Nat} (hT' : T.Perm a.L.tail) {σ : Nat → Bool} (hσ : m.Sat σ) (hx : ∃ x ∈ u :: a.L.tail, tru σ x = true) :
    ∃ x ∈ u :: T.filter (keepL m a), tru σ x = true := by
  apply Classical.byContradiction
  intro hno
  have hno : ∀ x ∈ u :: T.filter (keepL m a), tru σ x = false := fun x hx => by
    cases hc : tru σ x with
    | false => rfl
    | true => exact (hno ⟨x, hx, hc⟩).elim
  have key : ∀ i, i < m.trail.length → ∀ x ∈ a.L.tail, nth m.trail i = negL x → tru σ x = false := by
    intro i
    induction i using Nat.strongRecOn with
    | _ i ih =>
      intro hi x hx hix
      obtain ⟨f1, f2, f3, f4⟩ := h.fl x hx
      cases hk : keepL m a x with
      | true => exact hno x (List.mem_cons_of_mem _ (List.mem_filter.2 ⟨hT'.mem_iff.2 hx, hk⟩))
      | false =>
        have hix2 : nth m.trail i / 2 = x / 2 := by rw [hix, negL_div]
        unfold keepL at hk
        split at hk
        · cases hk
        · rename_i c hc
          rw [List.any_eq_false] at hk
          obtain ⟨c1, c2, c3⟩ := hT.rsn i c hi (by rw [hix2]; exact hc)
          obtain ⟨y, hy, hy2⟩ := hσ c c1
          by_cases e : y = nth m.trail i
          · rw [e, hix, tru_neg] at hy2
            simpa using hy2
          · exfalso
            obtain ⟨j, hj, hjy⟩ := c3 y hy e
            have hj2 : nth m.trail j / 2 = y / 2 := by rw [hjy, negL_div]
            have hmety : a.met (y / 2) = true := by have := hk y hy; simpa using this
            have hlev : m.lev (y / 2) < lvl := by
              have := hT.mono j i (by omega) hi
              rw [hj2, hix2] at this
              omega
            have hyn := hW.tr j (by omega)
            obtain ⟨x', h1, h2⟩ := h.mt (y / 2) (by omega) hmety hlev
            have ht := lst_neg1 (hT.tr1 j (by omega))
            rw [hjy, negL_negL] at ht
            have : x' = y := lst_two h2 (h.fl x' h1).1 ht
            subst this
            rw [ih j hj (by omega) x' h1 hjy] at hy2
            cases hy2
  obtain ⟨x, hx, hx2⟩ := hx
  rcases List.mem_cons.1 hx with rfl | hx
  · rw [hno x (by simp)] at hx2; cases hx2
  · obtain ⟨f1, f2, f3, f4⟩ := h.fl x hx
    obtain ⟨i, hi, hix⟩ := hT.at_ f3 f1
    rw [key i hi x hx hix] at hx2; cases hx2
end Go.Proofs.YtiimddkopiknpaaGreatDoor

/-
  What holds of the solver's plain state: the trail, the reasons, the watched literals, and that what was propagated is done. How each step keeps it.
-/
namespace Go.Proofs.YtiimddkopiknpaaGreatDoor

theorem nth_app (L : List Nat) (x i : Nat) : nth (L ++ [x]) i = if i < L.length then nth L i else if i = L.length then x else 0 := by
  unfold nth
  rw [List.getD_eq_getElem?_getD, List.getD_eq_getElem?_getD, List.getElem?_append]
  split
  · rfl
  · rename_i h
    by_cases e : i = L.length
    · subst e; simp
    · rw [if_neg e]
      cases e2 : i - L.length with
      | zero => omega
      | succ k => simp
theorem nth_lt (L : List Nat) (i : Nat) (h : i < L.length) : nth L i = L[i] := by
  unfold nth; rw [List.getD_eq_getElem?_getD]; simp [h]
theorem nth_mem (L : List Nat) (i : Nat) (h : i < L.length) : nth L i ∈ L := by
  rw [nth_lt L i h]; exact List.getElem_mem h
theorem mem_nth (L : List Nat) (x : Nat) (h : x ∈ L) : ∃ i, i < L.length ∧ nth L i = x := by
  obtain ⟨i, hi, e⟩ := List.getElem_of_mem h
  exact ⟨i, hi, by rw [nth_lt L i hi]; exact e⟩

theorem va_set (m : MS) (v : Nat) (x : Int) (w : Nat) (hv : v < m.val.length) : (m.setVal v x).va w = if v = w then x else m.va w := by
  unfold MS.va MS.setVal
  simp only []
  rw [List.getD_eq_getElem?_getD, List.getD_eq_getElem?_getD, List.getElem?_set]
  by_cases e : v = w
  · subst e; simp [hv]
  · simp [e]
theorem ra_set (m : MS) (v : Nat) (x : Option Nat) (w : Nat) (hv : v < m.rsn.length) : (m.setRsn v x).ra w = if v = w then x else m.ra w := by
  unfold MS.ra MS.setRsn
  simp only []
  rw [List.getD_eq_getElem?_getD, List.getD_eq_getElem?_getD, List.getElem?_set]
  by_cases e : v = w
  · subst e; simp [hv]
  · simp [e]
theorem lst_congr {m m' : MS} {y : Nat} (h : m'.va (y / 2) = m.va (y / 2)) : m'.lst y = m.lst y := by unfold MS.lst; rw [h]
theorem sgn_abs (l : Nat) (lvl : Nat) : (sgn l (lvl : Int)).natAbs = lvl := by unfold sgn; split <;> omega
theorem sgn_lst {m : MS} {l lvl : Nat} (h1 : 1 ≤ lvl) (h : m.va (l / 2) = sgn l (lvl : Int)) : m.lst l = 1 := by
  unfold MS.lst
  rw [h]
  unfold sgn
  by_cases e : l % 2 = 0
  · rw [if_pos e, if_neg (by omega), if_pos]; simp [e]; try omega
  · rw [if_neg e, if_neg (by omega), if_pos]; simp [e]; try omega

structure Core (u0 lvl : Nat) (m : MS) : Prop where
  wf : Wf m
  tl : Tl m lvl
  vl : m.val.length = m.nv
  rl : m.rsn.length = m.nv
  u0l : u0 ≤ m.trail.length
  nd : ((m.trail.drop u0).map (· / 2)).Nodup
  ndc : ∀ c ∈ m.ids, ((m.lits c).map (· / 2)).Nodup
  idn : m.ids.Nodup
  idl : m.ids.length ≤ 1000000000
  un : ∀ v, v < m.nv → m.va v = 0 → m.ra v = none
  wbe : ∀ t, t < m.nv * 2 → ∀ e ∈ m.wb t, e.1 ∈ m.lits e.2 ∧ e.2 ∈ m.ids ∧ (m.lits e.2).length = 2 ∧ negL t ∈ m.lits e.2 ∧ e.1 ≠ negL t
  wba : ∀ c ∈ m.ids, (m.lits c).length = 2 → ∀ y ∈ m.lits c, ∃ e ∈ m.wb (negL y), e.2 = c

/-- one literal more on the trail -/
def MS.bind (m : MS) (o : Nat) (r : Option Nat) (lvl : Nat) : MS := ((m.setRsn (o / 2) r).setVal (o / 2) (sgn o (lvl : Int))).push o

section
variable {u0 lvl : Nat} {m : MS} {o : Nat} {r : Option Nat}
theorem bind_va (h : m.val.length = m.nv) (ho : o < m.nv * 2) (w : Nat) : (m.bind o r lvl).va w = if o / 2 = w then sgn o (lvl : Int) else m.va w := by
  have : (m.bind o r lvl).va w = ((m.setRsn (o / 2) r).setVal (o / 2) (sgn o (lvl : Int))).va w := rfl
  rw [this, va_set _ _ _ _ (by show o / 2 < m.val.length; omega)]; rfl
theorem bind_ra (h : m.rsn.length = m.nv) (ho : o < m.nv * 2) (w : Nat) : (m.bind o r lvl).ra w = if o / 2 = w then r else m.ra w := by
  have : (m.bind o r lvl).ra w = (m.setRsn (o / 2) r).ra w := rfl
  rw [this, ra_set _ _ _ _ (by omega)]
theorem bind_lst (h : m.val.length = m.nv) (ho : o < m.nv * 2) (hu : m.va (o / 2) = 0) {y : Nat} (hy : m.lst y ≠ 0) : (m.bind o r lvl).lst y = m.lst y := by
  apply lst_congr
  rw [bind_va h ho, if_neg]
  intro e; exact lst_va hy (by rw [← e]; exact hu)
theorem bind_lev (h : m.val.length = m.nv) (ho : o < m.nv * 2) (hu : m.va (o / 2) = 0) {v : Nat} (hy : m.va v ≠ 0) : (m.bind o r lvl).lev v = m.lev v := by
  unfold MS.lev
  rw [bind_va h ho, if_neg]
  intro e; exact hy (by rw [← e]; exact hu)
theorem bind_self (h : m.val.length = m.nv) (ho : o < m.nv * 2) (h1 : 1 ≤ lvl) : (m.bind o r lvl).lst o = 1 ∧ (m.bind o r lvl).lev (o / 2) = lvl := by
  have e := bind_va (r := r) (lvl := lvl) h ho (o / 2)
  rw [if_pos rfl] at e
  refine ⟨sgn_lst h1 e, ?_⟩
  unfold MS.lev
  rw [e, sgn_abs]
theorem bind_tr (i : Nat) (hi : i < m.trail.length) : nth (m.bind o r lvl).trail i = nth m.trail i := by
  show nth (m.trail ++ [o]) i = _
  rw [nth_app, if_pos hi]
theorem bind_tr2 : nth (m.bind o r lvl).trail m.trail.length = o := by
  show nth (m.trail ++ [o]) m.trail.length = _
  rw [nth_app, if_neg (by omega), if_pos rfl]
theorem bind_len : (m.bind o r lvl).trail.length = m.trail.length + 1 := by
  show (m.trail ++ [o]).length = _
  simp

theorem Wf.bind (h : Wf m) (ho : o < m.nv * 2) (hl : m.trail.length < 1000000000) : Wf (m.bind o r lvl) := by
  refine ⟨h.nv0, h.nv1, h.len, h.lit, h.word, h.wl, h.wb, h.wll, h.wbl, fun i hi => ?_, ?_⟩
  · rw [bind_len] at hi
    by_cases e : i < m.trail.length
    · rw [bind_tr i e]; exact h.tr i e
    · have : i = m.trail.length := by omega
      rw [this, bind_tr2]; exact ho
  · rw [bind_len]; omega

theorem Tl.ne (hT : Tl m lvl) (hu : m.va (o / 2) = 0) {i : Nat} (hi : i < m.trail.length) : m.lst (nth m.trail i) ≠ 0 ∧ m.va (nth m.trail i / 2) ≠ 0 ∧ nth m.trail i / 2 ≠ o / 2 := by
  have h1 := hT.tr1 i hi
  have h2 := lst_va (m := m) (x := nth m.trail i) (by rw [h1]; decide)
  exact ⟨by rw [h1]; decide, h2, fun e => h2 (by rw [e]; exact hu)⟩

/-- a literal is bound: at a level that is not below the others; by a clause whose other literals are false, or without one -/
theorem Core.bind {lv0 : Nat} (h : Core u0 lv0 m) (hle : lv0 ≤ lvl) (h1 : 1 ≤ lvl) (hu : m.va (o / 2) = 0) (ho : o < m.nv * 2) (hb : u0 + m.nv ≤ 1000000000)
    (hr : (r = none ∧ (lv0 < lvl ∨ lvl = 1)) ∨ ∃ c, r = some c ∧ c ∈ m.ids ∧ o ∈ m.lits c ∧ ∀ y ∈ m.lits c, y ≠ o → m.lst y = 2) : Core u0 lvl (m.bind o r lvl) := by
  have hvl := h.vl
  have hrl := h.rl
  have hnd : (((m.trail ++ [o]).drop u0).map (· / 2)).Nodup := by
    rw [List.drop_append_of_le_length h.u0l, List.map_append, List.nodup_append]
    refine ⟨h.nd, by simp, ?_⟩
    intro a ha b hb' hab
    obtain ⟨x, hx, rfl⟩ := List.mem_map.1 ha
    have hb2 : b = o / 2 := by simpa using hb'
    subst hb2
    obtain ⟨i, hi, hi2⟩ := mem_nth m.trail x (List.mem_of_mem_drop hx)
    exact (h.tl.ne hu hi).2.2 (by rw [hi2]; exact hab)
  have hlen : m.trail.length + 1 ≤ u0 + m.nv := by
    have hsub : ∀ x ∈ ((m.trail ++ [o]).drop u0).map (· / 2), x ∈ List.range m.nv := by
      intro x hx
      obtain ⟨y, hy, rfl⟩ := List.mem_map.1 hx
      have hy := List.mem_of_mem_drop hy
      rw [List.mem_range]
      rcases List.mem_append.1 hy with hy | hy
      · obtain ⟨i, hi, hi2⟩ := mem_nth m.trail y hy
        have := h.wf.tr i hi
        omega
      · have : y = o := by simpa using hy
        omega
    have := hnd.length_le_of_subset hsub
    simp only [List.length_map, List.length_drop, List.length_append, List.length_singleton, List.length_range] at this
    have := h.u0l
    omega
  refine ⟨h.wf.bind ho (by omega), ⟨?_, ?_, ?_, ?_, ?_, ?_, ?_⟩, ?_, ?_, ?_, hnd, h.ndc, h.idn, h.idl, ?_, h.wbe, h.wba⟩
  · intro v hv hv2
    rw [bind_va hvl ho] at hv2
    rw [bind_len]
    by_cases e : o / 2 = v
    · exact ⟨m.trail.length, by omega, by rw [bind_tr2]; exact e⟩
    · rw [if_neg e] at hv2
      obtain ⟨i, hi, hi2⟩ := h.tl.on v hv hv2
      exact ⟨i, by omega, by rw [bind_tr i hi]; exact hi2⟩
  · intro i hi
    rw [bind_len] at hi
    by_cases e : i < m.trail.length
    · rw [bind_tr i e, bind_lst hvl ho hu (h.tl.ne hu e).1]; exact h.tl.tr1 i e
    · have : i = m.trail.length := by omega
      rw [this, bind_tr2]; exact (bind_self hvl ho h1).1
  · intro i j hij hj
    rw [bind_len] at hj
    by_cases e : j < m.trail.length
    · have e' : i < m.trail.length := by omega
      rw [bind_tr i e', bind_tr j e, bind_lev hvl ho hu (h.tl.ne hu e').2.1, bind_lev hvl ho hu (h.tl.ne hu e).2.1]
      exact h.tl.mono i j hij e
    · have : j = m.trail.length := by omega
      rw [this, bind_tr2, (bind_self hvl ho h1).2]
      by_cases e' : i < m.trail.length
      · rw [bind_tr i e', bind_lev hvl ho hu (h.tl.ne hu e').2.1]
        exact Nat.le_trans (h.tl.top i e') hle
      · have : i = m.trail.length := by omega
        rw [this, bind_tr2, (bind_self hvl ho h1).2]; exact Nat.le_refl _
  · intro i hi
    rw [bind_len] at hi
    by_cases e : i < m.trail.length
    · rw [bind_tr i e, bind_lev hvl ho hu (h.tl.ne hu e).2.1]; exact Nat.le_trans (h.tl.top i e) hle
    · have : i = m.trail.length := by omega
      rw [this, bind_tr2, (bind_self hvl ho h1).2]; exact Nat.le_refl _
  · intro i j hi hj hij h2
    rw [bind_len] at hi hj
    by_cases e : i < m.trail.length <;> by_cases e' : j < m.trail.length
    · rw [bind_tr i e, bind_tr j e'] at hij
      rw [bind_tr i e, bind_lev hvl ho hu (h.tl.ne hu e).2.1] at h2
      exact h.tl.uni i j e e' hij h2
    · have : j = m.trail.length := by omega
      rw [bind_tr i e, this, bind_tr2] at hij
      exact ((h.tl.ne hu e).2.2 hij).elim
    · have : i = m.trail.length := by omega
      rw [this, bind_tr j e', bind_tr2] at hij
      exact ((h.tl.ne hu e').2.2 hij.symm).elim
    · omega
  · intro i c hi hc
    rw [bind_len] at hi
    by_cases e : i < m.trail.length
    · rw [bind_tr i e, bind_ra hrl ho, if_neg (fun e2 => (h.tl.ne hu e).2.2 e2.symm)] at hc
      obtain ⟨a1, a2, a3⟩ := h.tl.rsn i c e hc
      refine ⟨a1, by rw [bind_tr i e]; exact a2, fun y hy hne => ?_⟩
      rw [bind_tr i e] at hne
      obtain ⟨j, hj, hj2⟩ := a3 y hy hne
      exact ⟨j, hj, by rw [bind_tr j (by omega)]; exact hj2⟩
    · have : i = m.trail.length := by omega
      rw [this, bind_tr2, bind_ra hrl ho, if_pos rfl] at hc
      rcases hr with ⟨hr, _⟩ | ⟨c', hr, c1, c2, c3⟩
      · rw [hr] at hc; cases hc
      · rw [hr] at hc
        cases hc
        rw [this, bind_tr2]
        refine ⟨c1, c2, fun y hy hne => ?_⟩
        have hy2 : y < m.nv * 2 := by
          obtain ⟨k, hk, hk2⟩ := mem_nth _ y hy
          rw [← hk2]; exact h.wf.lit c c1 k hk
        obtain ⟨j, hj, hj2⟩ := h.tl.at_ hy2 (c3 y hy hne)
        exact ⟨j, hj, by rw [bind_tr j hj]; exact hj2⟩
  · intro i j hi hn h2 hij
    rw [bind_len] at hi
    by_cases e : i < m.trail.length
    · have e' : j < m.trail.length := by omega
      rw [bind_tr i e, bind_ra hrl ho, if_neg (fun e2 => (h.tl.ne hu e).2.2 e2.symm)] at hn
      rw [bind_tr i e, bind_lev hvl ho hu (h.tl.ne hu e).2.1] at h2 ⊢
      rw [bind_tr j e', bind_lev hvl ho hu (h.tl.ne hu e').2.1]
      exact h.tl.dec i j e hn h2 hij
    · have : i = m.trail.length := by omega
      subst this
      rw [bind_tr2, (bind_self hvl ho h1).2] at h2 ⊢
      rw [bind_tr2, bind_ra hrl ho, if_pos rfl] at hn
      rw [bind_tr j hij, bind_lev hvl ho hu (h.tl.ne hu hij).2.1]
      rcases hr with ⟨_, hr⟩ | ⟨c', hr, _⟩
      · have := h.tl.top j hij; omega
      · rw [hr] at hn; cases hn
  · show (m.val.set _ _).length = _
    simp; exact hvl
  · show (m.rsn.set _ _).length = _
    simp; exact hrl
  · rw [bind_len]; have := h.u0l; omega
  · intro v hv hv2
    rw [bind_va hvl ho] at hv2
    rw [bind_ra hrl ho]
    by_cases e : o / 2 = v
    · rw [if_pos e] at hv2
      have := sgn_abs o lvl
      rw [hv2] at this
      simp at this; omega
    · rw [if_neg e] at hv2 ⊢; exact h.un v hv hv2
theorem Core.bound (h : Core u0 lvl m) : m.trail.length ≤ u0 + m.nv := by
  have hsub : ∀ x ∈ (m.trail.drop u0).map (· / 2), x ∈ List.range m.nv := by
    intro x hx
    obtain ⟨y, hy, rfl⟩ := List.mem_map.1 hx
    rw [List.mem_range]
    obtain ⟨i, hi, hi2⟩ := mem_nth m.trail y (List.mem_of_mem_drop hy)
    have := h.wf.tr i hi
    omega
  have := h.nd.length_le_of_subset hsub
  simp only [List.length_map, List.length_drop, List.length_range] at this
  omega
end

/-- the same values, trail, reasons and clauses as sets: the rest may move -/
structure Sim (m m' : MS) : Prop where
  nv : m'.nv = m.nv
  val : m'.val = m.val
  trail : m'.trail = m.trail
  rsn : m'.rsn = m.rsn
  ids : m'.ids = m.ids
  wb : m'.wb = m.wb
  orig : m'.orig = m.orig
  lrn : m'.lrn = m.lrn
  pm : ∀ c, c ∈ m.ids → (m'.lits c).Perm (m.lits c)
theorem Sim.refl (m : MS) : Sim m m := ⟨rfl, rfl, rfl, rfl, rfl, rfl, rfl, rfl, fun _ _ => .refl _⟩
theorem Sim.trans {m m1 m2 : MS} (h : Sim m m1) (h' : Sim m1 m2) : Sim m m2 :=
  ⟨h'.nv.trans h.nv, h'.val.trans h.val, h'.trail.trans h.trail, h'.rsn.trans h.rsn, h'.ids.trans h.ids, h'.wb.trans h.wb, h'.orig.trans h.orig, h'.lrn.trans h.lrn, fun c hc => (h'.pm c (by rw [h.ids]; exact hc)).trans (h.pm c hc)⟩
theorem Sim.va {m m' : MS} (h : Sim m m') (v : Nat) : m'.va v = m.va v := by unfold MS.va; rw [h.val]
theorem Sim.ra {m m' : MS} (h : Sim m m') (v : Nat) : m'.ra v = m.ra v := by unfold MS.ra; rw [h.rsn]
theorem Sim.lst {m m' : MS} (h : Sim m m') (v : Nat) : m'.lst v = m.lst v := lst_congr (h.va _)
theorem Sim.lev {m m' : MS} (h : Sim m m') (v : Nat) : m'.lev v = m.lev v := by unfold MS.lev; rw [h.va]
theorem Tl.sim {m m' : MS} {lvl : Nat} (s : Sim m m') (h : Tl m lvl) : Tl m' lvl := by
  refine ⟨?_, ?_, ?_, ?_, ?_, ?_, ?_⟩
  · intro v; rw [s.nv, s.va, s.trail]; exact h.on v
  · intro i; rw [s.trail, s.lst]; exact h.tr1 i
  · intro i j; rw [s.trail, s.lev, s.lev]; exact h.mono i j
  · intro i; rw [s.trail, s.lev]; exact h.top i
  · intro i j; rw [s.trail, s.lev]; exact h.uni i j
  · intro i c
    rw [s.trail, s.ra, s.ids]
    intro hi hc
    obtain ⟨a1, a2, a3⟩ := h.rsn i c hi hc
    exact ⟨a1, (s.pm c a1).mem_iff.2 a2, fun y hy => a3 y ((s.pm c a1).mem_iff.1 hy)⟩
  · intro i j; rw [s.trail, s.ra, s.lev, s.lev]; exact h.dec i j
theorem Core.sim {u0 lvl : Nat} {m m' : MS} (s : Sim m m') (h : Core u0 lvl m) (hW : Wf m') : Core u0 lvl m' := by
  refine ⟨hW, h.tl.sim s, by rw [s.val, s.nv]; exact h.vl, by rw [s.rsn, s.nv]; exact h.rl, by rw [s.trail]; exact h.u0l, by rw [s.trail]; exact h.nd, ?_, by rw [s.ids]; exact h.idn, by rw [s.ids]; exact h.idl, ?_, ?_, ?_⟩
  · intro c hc
    rw [s.ids] at hc
    exact ((s.pm c hc).map _).nodup_iff.2 (h.ndc c hc)
  · intro v; rw [s.nv, s.va, s.ra]; exact h.un v
  · intro t ht e he
    rw [s.nv] at ht
    rw [s.wb] at he
    obtain ⟨a1, a2, a3, a4, a5⟩ := h.wbe t ht e he
    rw [s.ids]
    exact ⟨(s.pm _ a2).mem_iff.2 a1, a2, by rw [(s.pm _ a2).length_eq]; exact a3, (s.pm _ a2).mem_iff.2 a4, a5⟩
  · intro c hc hl y hy
    rw [s.ids] at hc
    rw [(s.pm c hc).length_eq] at hl
    rw [s.wb]
    exact h.wba c hc hl y ((s.pm c hc).mem_iff.1 hy)
theorem Sat_sim {m m' : MS} (s : Sim m m') {σ : Nat → Bool} (h : m.Sat σ) : m'.Sat σ := by
  intro c hc
  rw [s.ids] at hc
  obtain ⟨x, h1, h2⟩ := h c hc
  exact ⟨x, (s.pm c hc).mem_iff.2 h1, h2⟩
end Go.Proofs.YtiimddkopiknpaaGreatDoor

/-
  The watched literals, and what was propagated: kept through the rounds of propagation.
-/
namespace Go.Proofs.YtiimddkopiknpaaGreatDoor

structure Wt (m : MS) (V : Nat → List (Nat × Nat)) : Prop where
  en : ∀ t, t < m.nv * 2 → ∀ e ∈ V t, e.1 ∈ m.lits e.2 ∧ e.2 ∈ m.ids ∧ 3 ≤ (m.lits e.2).length ∧ (t = negL (nth (m.lits e.2) 0) ∨ t = negL (nth (m.lits e.2) 1))
  uniq : ∀ t, t < m.nv * 2 → ((V t).map Prod.snd).Nodup
  all : ∀ c ∈ m.ids, 3 ≤ (m.lits c).length → ∀ k, k < 2 → c ∈ (V (negL (nth (m.lits c) k))).map Prod.snd
structure Pc (m : MS) (V : Nat → List (Nat × Nat)) (p : Nat) : Prop where
  l : ∀ i, i < p → ∀ e ∈ V (nth m.trail i), ∃ x ∈ m.lits e.2, m.lst x = 1 ∧ m.lev (x / 2) ≤ m.lev (nth m.trail i / 2)
  b : ∀ i, i < p → ∀ e ∈ m.wb (nth m.trail i), m.lst e.1 = 1 ∧ m.lev (e.1 / 2) ≤ m.lev (nth m.trail i / 2)
structure Ext (m0 m : MS) : Prop where
  nv : m.nv = m0.nv
  ids : m.ids = m0.ids
  wb : m.wb = m0.wb
  orig : m.orig = m0.orig
  lrn : m.lrn = m0.lrn
  pm : ∀ c, c ∈ m0.ids → (m.lits c).Perm (m0.lits c)
  len : m0.trail.length ≤ m.trail.length
  pre : ∀ i, i < m0.trail.length → nth m.trail i = nth m0.trail i
  old : ∀ v, m0.va v ≠ 0 → m.va v = m0.va v ∧ m.ra v = m0.ra v
  new : ∀ i, m0.trail.length ≤ i → i < m.trail.length → m.ra (nth m.trail i / 2) ≠ none
theorem Ext.refl (m : MS) : Ext m m := ⟨rfl, rfl, rfl, rfl, rfl, fun _ _ => .refl _, Nat.le_refl _, fun _ _ => rfl, fun _ _ => ⟨rfl, rfl⟩, fun i h1 h2 => by omega⟩
theorem Ext.sim {m0 m m' : MS} (h : Ext m0 m) (s : Sim m m') : Ext m0 m' :=
  ⟨s.nv.trans h.nv, s.ids.trans h.ids, s.wb.trans h.wb, s.orig.trans h.orig, s.lrn.trans h.lrn, fun c hc => (s.pm c (by rw [h.ids]; exact hc)).trans (h.pm c hc), by rw [s.trail]; exact h.len,
   fun i hi => by rw [s.trail]; exact h.pre i hi, fun v hv => by rw [s.va, s.ra]; exact h.old v hv, fun i h1 h2 => by rw [s.trail] at h2 ⊢; rw [s.ra]; exact h.new i h1 h2⟩

structure PI (u0 lvl : Nat) (m0 : MS) (p : Nat) (V : Nat → List (Nat × Nat)) (m : MS) : Prop where
  core : Core u0 lvl m
  wt : Wt m V
  pc : Pc m V p
  lv : ∀ i, p ≤ i → i < m.trail.length → m.lev (nth m.trail i / 2) = lvl
  ext : Ext m0 m

section
variable {u0 lvl p : Nat} {m0 m m' : MS} {V V' : Nat → List (Nat × Nat)}

theorem Wt.sim (s : Sim m m') (hl : m'.lits = m.lits) (h : Wt m V) : Wt m' V := by
  refine ⟨?_, ?_, ?_⟩
  · rw [s.nv, s.ids, hl]; exact h.en
  · rw [s.nv]; exact h.uniq
  · rw [s.ids, hl]; exact h.all
theorem Pc.sim (s : Sim m m') (hp : p ≤ m.trail.length) (hn : ∀ i, i < m.trail.length → nth m.trail i < m.nv * 2) (hw : Wt m V) (h : Pc m V p)
    (hV : ∀ i, i < p → ∀ e' ∈ V' (nth m.trail i), ∃ e ∈ V (nth m.trail i), e.2 = e'.2) : Pc m' V' p := by
  refine ⟨?_, ?_⟩
  · intro i hi e' he'
    rw [s.trail] at he' ⊢
    obtain ⟨e, he, hee⟩ := hV i hi e' he'
    obtain ⟨x, h1, h2, h3⟩ := h.l i hi e he
    have hid := (hw.en _ (hn i (by omega)) e he).2.1
    rw [hee] at h1 hid
    exact ⟨x, (s.pm _ hid).mem_iff.2 h1, by rw [s.lst]; exact h2, by rw [s.lev, s.lev]; exact h3⟩
  · intro i hi e he
    rw [s.trail] at he ⊢
    rw [s.wb] at he
    rw [s.lst, s.lev, s.lev]; exact h.b i hi e he
theorem PI.sim (h : PI u0 lvl m0 p V m) (s : Sim m m') (hW : Wf m') (hw : Wt m' V') (hp : Pc m' V' p) : PI u0 lvl m0 p V' m' :=
  ⟨h.core.sim s hW, hw, hp, fun i h1 h2 => by rw [s.trail] at h2 ⊢; rw [s.lev]; exact h.lv i h1 h2, h.ext.sim s⟩

/-- what is on the trail is bound at lvl at most -/
theorem Core.le (h : Core u0 lvl m) {x : Nat} (hx : x < m.nv * 2) (hf : m.lst x ≠ 0) : m.lev (x / 2) ≤ lvl := by
  obtain ⟨i, h1, h2⟩ := h.tl.on (x / 2) (by omega) (lst_va hf)
  rw [← h2]; exact h.tl.top i h1
theorem Core.litlt (h : Core u0 lvl m) {c x : Nat} (hc : c ∈ m.ids) (hx : x ∈ m.lits c) : x < m.nv * 2 := by
  obtain ⟨k, hk, hk2⟩ := mem_nth _ x hx
  rw [← hk2]; exact h.wf.lit c hc k hk

/-- a literal is bound by a clause -/
theorem PI.bind (h : PI u0 lvl m0 p V m) {o c : Nat} (h1 : 1 ≤ lvl) (hp : p ≤ m.trail.length) (hu : m.lst o = 0) (hb : u0 + m.nv ≤ 1000000000) (hc : c ∈ m.ids) (ho : o ∈ m.lits c) (hy : ∀ y ∈ m.lits c, y ≠ o → m.lst y = 2) :
    PI u0 lvl m0 p V (m.bind o (some c) lvl) := by
  have ho2 := h.core.litlt hc ho
  have hu : m.va (o / 2) = 0 := by
    unfold MS.lst at hu
    split at hu
    · assumption
    · split at hu <;> cases hu
  have hC := h.core.bind (o := o) (r := some c) (Nat.le_refl lvl) h1 hu ho2 hb (.inr ⟨c, rfl, hc, ho, hy⟩)
  have hvl := h.core.vl
  have hT := h.core.tl
  refine ⟨hC, ⟨h.wt.en, h.wt.uniq, h.wt.all⟩, ⟨?_, ?_⟩, ?_, ?_⟩
  · intro i hi e he
    rw [bind_tr i (by omega)] at he ⊢
    obtain ⟨x, a1, a2, a3⟩ := h.pc.l i hi e he
    have hx : m.lst x ≠ 0 := by rw [a2]; decide
    exact ⟨x, a1, by rw [bind_lst hvl ho2 hu hx]; exact a2, by rw [bind_lev hvl ho2 hu (lst_va hx), bind_lev hvl ho2 hu (hT.ne hu (by omega)).2.1]; exact a3⟩
  · intro i hi e he
    rw [bind_tr i (by omega)] at he ⊢
    obtain ⟨a2, a3⟩ := h.pc.b i hi e he
    have hx : m.lst e.1 ≠ 0 := by rw [a2]; decide
    exact ⟨by rw [bind_lst hvl ho2 hu hx]; exact a2, by rw [bind_lev hvl ho2 hu (lst_va hx), bind_lev hvl ho2 hu (hT.ne hu (by omega)).2.1]; exact a3⟩
  · intro i h2 h3
    rw [bind_len] at h3
    by_cases e : i < m.trail.length
    · rw [bind_tr i e, bind_lev hvl ho2 hu (hT.ne hu e).2.1]; exact h.lv i h2 e
    · have : i = m.trail.length := by omega
      rw [this, bind_tr2]; exact (bind_self hvl ho2 h1).2
  · refine ⟨h.ext.nv, h.ext.ids, h.ext.wb, h.ext.orig, h.ext.lrn, h.ext.pm, ?_, ?_, ?_, ?_⟩
    · rw [bind_len]; have := h.ext.len; omega
    · intro i hi
      rw [bind_tr i (by have := h.ext.len; omega)]; exact h.ext.pre i hi
    · intro v hv
      obtain ⟨a1, a2⟩ := h.ext.old v hv
      have hne : o / 2 ≠ v := fun e => by rw [← e] at a1 hv; rw [hu] at a1; exact hv a1.symm
      rw [bind_va hvl ho2, bind_ra h.core.rl ho2, if_neg hne, if_neg hne]; exact ⟨a1, a2⟩
    · intro i h2 h3
      rw [bind_len] at h3
      rw [bind_ra h.core.rl ho2]
      by_cases e : i < m.trail.length
      · rw [bind_tr i e, if_neg (fun e2 => (hT.ne hu e).2.2 e2.symm)]; exact h.ext.new i h2 e
      · have : i = m.trail.length := by omega
        rw [this, bind_tr2, if_pos rfl]; simp

/- lists -/
theorem swapL_perm (L : List Nat) (a b : Nat) (ha : a < L.length) (hb : b < L.length) : (swapL L a b).Perm L := by
  rw [List.perm_iff_count]
  intro x
  unfold swapL
  rw [List.count_set, List.count_set] <;> try simp [ha, hb]
  rw [nth_lt L a ha, nth_lt L b hb]
  by_cases e : a = b
  · subst e
    by_cases e1 : L[a] = x
    · have : 0 < L.count x := List.count_pos_iff.2 (by rw [← e1]; exact List.getElem_mem ha)
      simp [e1]; omega
    · simp [e1]
  · have e2 : (L.set a L[b])[b]'(by simp; exact hb) = L[b] := by rw [List.getElem_set_ne e]
    rw [e2]
    by_cases e1 : L[a] = x <;> by_cases e3 : L[b] = x
    · have : 0 < L.count x := List.count_pos_iff.2 (by rw [← e1]; exact List.getElem_mem ha)
      simp [e1, e3]; omega
    · have : 0 < L.count x := List.count_pos_iff.2 (by rw [← e1]; exact List.getElem_mem ha)
      simp [e1, e3]; omega
    · simp [e1, e3]
    · simp [e1, e3]
theorem nodup_nth {L : List Nat} (h : (L.map (· / 2)).Nodup) {i j : Nat} (hi : i < L.length) (hj : j < L.length) (e : nth L i / 2 = nth L j / 2) : i = j := by
  rw [nth_lt L i hi, nth_lt L j hj] at e
  have := (List.getElem_inj (h₀ := by simpa using hi) (h₁ := by simpa using hj) h).1 (by simpa using e)
  exact this
theorem two_mem {L : List Nat} {a b y : Nat} (hl : L.length = 2) (ha : a ∈ L) (hb : b ∈ L) (hne : a ≠ b) (hy : y ∈ L) : y = a ∨ y = b := by
  match L, hl with
  | [u, v], _ =>
    simp at ha hb hy
    rcases ha with rfl | rfl <;> rcases hb with rfl | rfl <;> rcases hy with rfl | rfl <;> simp_all
theorem take_set_succ {α : Type} (L : List α) (j : Nat) (x : α) (h : j < L.length) : (L.set j x).take (j + 1) = L.take j ++ [x] := by
  rw [List.take_add_one]
  simp only [List.getElem?_set, h, if_true, Option.toList_some]
  congr 1
  apply List.ext_getElem
  · simp
  · intro k h1 h2
    simp at h1
    simp [List.getElem_set]
    omega
theorem ent_lt (L : List (Nat × Nat)) (i : Nat) (h : i < L.length) : ent L i = L[i] := by
  unfold ent; rw [List.getD_eq_getElem?_getD]; simp [h]
theorem ent_mem (L : List (Nat × Nat)) (i : Nat) (h : i < L.length) : ent L i ∈ L := by rw [ent_lt L i h]; exact List.getElem_mem h
theorem mem_ent {L : List (Nat × Nat)} {x : Nat × Nat} (h : x ∈ L) : ∃ i, i < L.length ∧ ent L i = x := by
  obtain ⟨i, hi, e⟩ := List.getElem_of_mem h
  exact ⟨i, hi, by rw [ent_lt L i hi]; exact e⟩
theorem drop_ent (L : List (Nat × Nat)) (i : Nat) (h : i < L.length) : L.drop i = ent L i :: L.drop (i + 1) := by
  rw [ent_lt L i h]; exact List.drop_eq_getElem_cons h
theorem drop_same {L M : List (Nat × Nat)} {i : Nat} (hl : L.length = M.length) (h : ∀ k, i ≤ k → k < M.length → ent L k = ent M k) : L.drop i = M.drop i := by
  apply List.ext_getElem
  · simp [hl]
  · intro k h1 h2
    simp at h1 h2
    rw [List.getElem_drop, List.getElem_drop, ← ent_lt, ← ent_lt]
    exact h (i + k) (by omega) (by omega)

/- the first two literals of a clause -/
theorem fix_sim {c lit : Nat} (hc : c ∈ m.ids → 2 ≤ (m.lits c).length) (hcc : c ∈ m.ids) : Sim m (m.fix c lit) := by
  have hc := hc hcc
  unfold MS.fix
  split
  · refine ⟨rfl, rfl, rfl, rfl, rfl, rfl, rfl, rfl, ?_⟩
    intro c' hc'
    simp only [MS.swapC, MS.setLits]
    split
    · rename_i e; subst e; exact swapL_perm _ _ _ (by omega) (by omega)
    · exact .refl _
  · exact Sim.refl m
theorem fix_two {c lit : Nat} (hl : 2 ≤ (m.lits c).length) : (nth ((m.fix c lit).lits c) 0 = nth (m.lits c) 0 ∧ nth ((m.fix c lit).lits c) 1 = nth (m.lits c) 1 ∧ nth (m.lits c) 0 ≠ negL lit) ∨
    (nth ((m.fix c lit).lits c) 0 = nth (m.lits c) 1 ∧ nth ((m.fix c lit).lits c) 1 = nth (m.lits c) 0 ∧ nth (m.lits c) 0 = negL lit) := by
  unfold MS.fix
  split
  · rename_i e
    refine .inr ⟨?_, ?_, e⟩ <;> simp only [MS.swapC, MS.setLits, if_true] <;> rw [nth_swapL _ _ _ _ (by omega) (by omega)] <;> simp
  · rename_i e
    exact .inl ⟨rfl, rfl, e⟩
theorem Wt.fix {c lit : Nat} (h : Wt m V) (hc : c ∈ m.ids) (hl : 2 ≤ (m.lits c).length) : Wt (m.fix c lit) V := by
  have s := fix_sim (lit := lit) (fun _ => hl) hc
  refine ⟨?_, ?_, ?_⟩
  · intro t ht e he
    rw [s.nv] at ht
    obtain ⟨a1, a2, a3, a4⟩ := h.en t ht e he
    rw [s.ids]
    refine ⟨(s.pm _ a2).mem_iff.2 a1, a2, by rw [(s.pm _ a2).length_eq]; exact a3, ?_⟩
    by_cases e' : e.2 = c
    · rw [e'] at a4 ⊢
      rcases fix_two (m := m) (lit := lit) hl with ⟨b1, b2, _⟩ | ⟨b1, b2, _⟩
      · rw [b1, b2]; exact a4
      · rw [b1, b2]; exact a4.symm
    · rw [fix_lits_ne _ _ _ _ e']; exact a4
  · rw [s.nv]; exact h.uniq
  · intro c' hc' hl' k hk
    rw [s.ids] at hc'
    rw [(s.pm _ hc').length_eq] at hl'
    by_cases e' : c' = c
    · subst e'
      rcases fix_two (m := m) (lit := lit) hl with ⟨b1, b2, _⟩ | ⟨b1, b2, _⟩
      · have : nth ((m.fix c' lit).lits c') k = nth (m.lits c') k := by
          have : k = 0 ∨ k = 1 := by omega
          rcases this with rfl | rfl
          · exact b1
          · exact b2
        rw [this]; exact h.all c' hc' hl' k hk
      · have : nth ((m.fix c' lit).lits c') k = nth (m.lits c') (1 - k) := by
          have : k = 0 ∨ k = 1 := by omega
          rcases this with rfl | rfl
          · exact b1
          · exact b2
        rw [this]; exact h.all c' hc' hl' (1 - k) (by omega)
    · rw [fix_lits_ne _ _ _ _ e']; exact h.all c' hc' hl' k hk
/-- another blocker -/
theorem Wt.blk {t0 c b f : Nat} {A B : List (Nat × Nat)} (h : Wt m V) (h0 : V t0 = A ++ (b, c) :: B) (hf : f ∈ m.lits c) (h1 : V' t0 = A ++ (f, c) :: B) (hV : ∀ t, t ≠ t0 → V' t = V t) : Wt m V' := by
  have hm : ∀ t, (V' t).map Prod.snd = (V t).map Prod.snd := by
    intro t
    by_cases e : t = t0
    · subst e; rw [h0, h1]; simp
    · rw [hV t e]
  refine ⟨?_, fun t ht => by rw [hm]; exact h.uniq t ht, fun c' hc' hl k hk => by rw [hm]; exact h.all c' hc' hl k hk⟩
  intro t ht e he
  by_cases e' : t = t0
  · subst e'
    rw [h1] at he
    rcases List.mem_append.1 he with he | he
    · exact h.en t ht e (by rw [h0]; exact List.mem_append_left _ he)
    · rcases List.mem_cons.1 he with rfl | he
      · have := h.en t ht (b, c) (by rw [h0]; simp)
        exact ⟨hf, this.2⟩
      · exact h.en t ht e (by rw [h0]; exact List.mem_append_right _ (List.mem_cons_of_mem _ he))
  · rw [hV t e'] at he; exact h.en t ht e he
/-- another watched literal -/
theorem Wt.move {t0 c b f k : Nat} {A B : List (Nat × Nat)} (h : Wt m V) (hnd : ((m.lits c).map (· / 2)).Nodup) (hlit : ∀ i, i < (m.lits c).length → nth (m.lits c) i < m.nv * 2) (ht0 : t0 < m.nv * 2) (h0 : V t0 = A ++ (b, c) :: B) (hn1 : nth (m.lits c) 1 = negL t0)
    (hf : f ∈ m.lits c) (hk : 2 ≤ k) (hkl : k < (m.lits c).length) (h1 : V' t0 = A ++ B) (h2 : V' (negL (nth (m.lits c) k)) = V (negL (nth (m.lits c) k)) ++ [(f, c)]) (hV : ∀ t, t ≠ t0 → t ≠ negL (nth (m.lits c) k) → V' t = V t) : Wt (m.swapC c 1 k) V' := by
  obtain ⟨_, hc, hl3, _⟩ := h.en t0 ht0 (b, c) (by rw [h0]; simp)
  simp only [] at hc hl3
  have hlc : (m.swapC c 1 k).lits c = swapL (m.lits c) 1 k := by simp [MS.swapC, MS.setLits]
  have hlo : ∀ c', c' ≠ c → (m.swapC c 1 k).lits c' = m.lits c' := fun c' e => by simp [MS.swapC, MS.setLits, e]
  have hpm : ∀ c', ((m.swapC c 1 k).lits c').Perm (m.lits c') := fun c' => by
    by_cases e : c' = c
    · subst e; rw [hlc]; exact swapL_perm _ _ _ (by omega) hkl
    · rw [hlo c' e]
  have hs0 : nth (swapL (m.lits c) 1 k) 0 = nth (m.lits c) 0 := by rw [nth_swapL _ _ _ _ (by omega) hkl, if_neg (by omega), if_neg (by omega)]
  have hs1 : nth (swapL (m.lits c) 1 k) 1 = nth (m.lits c) k := by rw [nth_swapL _ _ _ _ (by omega) hkl, if_neg (by omega), if_pos rfl]
  have hneg : ∀ x y, negL x = negL y → x = y := fun x y e => by rw [← negL_negL x, e, negL_negL]
  have hne1 : ∀ i j, i < (m.lits c).length → j < (m.lits c).length → i ≠ j → negL (nth (m.lits c) i) ≠ negL (nth (m.lits c) j) := fun i j hi hj e e2 => e (nodup_nth hnd hi hj (by rw [hneg _ _ e2]))
  have ht1 : t0 = negL (nth (m.lits c) 1) := by rw [hn1, negL_negL]
  have ht01 : negL (nth (m.lits c) k) ≠ t0 := by rw [ht1]; exact hne1 k 1 hkl (by omega) (by omega)
  have hu := h.uniq t0 ht0
  rw [h0] at hu
  simp only [List.map_append, List.map_cons] at hu
  have hcA : c ∉ A.map Prod.snd ∧ c ∉ B.map Prod.snd := by
    rw [List.nodup_append] at hu
    obtain ⟨u1, u2, u3⟩ := hu
    rw [List.nodup_cons] at u2
    exact ⟨fun hh => u3 c hh c (by simp) rfl, u2.1⟩
  have hcK : c ∉ (V (negL (nth (m.lits c) k))).map Prod.snd := by
    intro hh
    obtain ⟨e, he, he2⟩ := List.mem_map.1 hh
    have hkt : negL (nth (m.lits c) k) < m.nv * 2 := negL_lt (hlit k hkl)
    have := (h.en _ hkt e he).2.2.2
    rw [he2] at this
    rcases this with h' | h'
    · exact hne1 k 0 hkl (by omega) (by omega) h'
    · exact hne1 k 1 hkl (by omega) (by omega) h'
  -- an old entry of another clause or of a list that stays
  have old : ∀ t, t < m.nv * 2 → ∀ e ∈ V t, (e.2 = c → t ≠ t0) → e.1 ∈ (m.swapC c 1 k).lits e.2 ∧ e.2 ∈ m.ids ∧ 3 ≤ ((m.swapC c 1 k).lits e.2).length ∧ (t = negL (nth ((m.swapC c 1 k).lits e.2) 0) ∨ t = negL (nth ((m.swapC c 1 k).lits e.2) 1)) := by
    intro t ht e he hne
    obtain ⟨a1, a2, a3, a4⟩ := h.en t ht e he
    refine ⟨(hpm _).mem_iff.2 a1, a2, by rw [(hpm _).length_eq]; exact a3, ?_⟩
    by_cases e' : e.2 = c
    · rw [e'] at a4
      rw [e', hlc, hs0]
      rcases a4 with a4 | a4
      · exact .inl a4
      · exact (hne e' (a4.trans ht1.symm)).elim
    · rw [hlo _ e']; exact a4
  refine ⟨?_, ?_, ?_⟩
  · intro t ht e he
    by_cases e1 : t = t0
    · subst e1
      rw [h1] at he
      refine old t ht e ?_ ?_
      · rw [h0]
        rcases List.mem_append.1 he with he | he
        · exact List.mem_append_left _ he
        · exact List.mem_append_right _ (List.mem_cons_of_mem _ he)
      · intro e2
        exfalso
        rcases List.mem_append.1 he with he | he
        · exact hcA.1 (e2 ▸ List.mem_map_of_mem he)
        · exact hcA.2 (e2 ▸ List.mem_map_of_mem he)
    · by_cases e2 : t = negL (nth (m.lits c) k)
      · subst e2
        rw [h2] at he
        rcases List.mem_append.1 he with he | he
        · exact old _ ht e he fun _ => ht01
        · have he : e = (f, c) := by simpa using he
          subst he
          refine ⟨(hpm _).mem_iff.2 hf, hc, by rw [(hpm _).length_eq]; exact hl3, .inr ?_⟩
          simp only []
          rw [hlc, hs1]
      · rw [hV t e1 e2] at he
        exact old t ht e he fun _ => e1
  · intro t ht
    by_cases e1 : t = t0
    · subst e1
      rw [h1, List.map_append]
      refine (List.Sublist.nodup ?_ hu)
      exact List.Sublist.append_left (List.sublist_cons_self _ _) _
    · by_cases e2 : t = negL (nth (m.lits c) k)
      · subst e2
        rw [h2, List.map_append, List.nodup_append]
        refine ⟨h.uniq _ ht, by simp, ?_⟩
        intro a ha b' hb' hab
        have : b' = c := by simpa using hb'
        subst this
        exact hcK (hab ▸ ha)
      · rw [hV t e1 e2]; exact h.uniq t ht
  · intro c' hc' hl' i hi
    rw [(hpm c').length_eq] at hl'
    by_cases e' : c' = c
    · subst e'
      rw [hlc]
      have hi2 : i = 0 ∨ i = 1 := by omega
      rcases hi2 with rfl | rfl
      · rw [hs0, hV _ (by rw [ht1]; exact hne1 0 1 (by omega) (by omega) (by omega)) (hne1 0 k (by omega) hkl (by omega))]
        exact h.all c' hc hl3 0 (by omega)
      · rw [hs1, h2]; simp
    · rw [hlo c' e']
      have := h.all c' hc' hl' i hi
      generalize negL (nth (m.lits c') i) = t at *
      by_cases e1 : t = t0
      · subst e1
        rw [h0] at this
        rw [h1]
        simp only [List.map_append, List.map_cons, List.mem_append, List.mem_cons] at this ⊢
        rcases this with h' | h' | h'
        · exact .inl h'
        · exact (e' h').elim
        · exact .inr h'
      · by_cases e2 : t = negL (nth (m.lits c) k)
        · subst e2
          rw [h2, List.map_append]
          exact List.mem_append_left _ this
        · rw [hV t e1 e2]; exact this
/-- a list's length is bounded -/
theorem Wt.len {t : Nat} (h : Wt m V) (ht : t < m.nv * 2) : (V t).length ≤ m.ids.length := by
  have hsub : ∀ x ∈ (V t).map Prod.snd, x ∈ m.ids := by
    intro x hx
    obtain ⟨e, he, rfl⟩ := List.mem_map.1 hx
    exact (h.en t ht e he).2.1
  have := (h.uniq t ht).length_le_of_subset hsub
  simpa using this
end
end Go.Proofs.YtiimddkopiknpaaGreatDoor
