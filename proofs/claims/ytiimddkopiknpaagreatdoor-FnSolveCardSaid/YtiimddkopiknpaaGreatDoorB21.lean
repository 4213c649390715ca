/-
  Learned clauses are dropped; what lies between the steps of a conflict.
-/
import Derived.Test.YtiimddkopiknpaaGreatDoorB20
import Derived.LaidEqlPtr
import Derived.Lib.Builder
import Derived.Test.YtiimddkopiknpaaGreatDoorB17
import Derived.Test.YtiimddkopiknpaaGreatDoorB16
import Derived.Deep.CutBlock
import Derived.Test.YtiimddkopiknpaaGreatDoorB18
set_option linter.unusedVariables false
set_option linter.unusedSimpArgs false

/-
  A clause is no longer watched.
-/
namespace Go.Proofs.YtiimddkopiknpaaGreatDoor
open Go.RowKit

theorem del_perm {α : Type} (A B : List α) (x d : α) : (((A ++ x :: B).set A.length ((A ++ x :: B).getD (A.length + B.length) d)).take (A.length + B.length)).Perm (A ++ B) := by
  rcases List.eq_nil_or_concat B with rfl | ⟨B', y, rfl⟩
  · simp
  · have e1 : (A ++ x :: (B' ++ [y])).getD (A.length + (B' ++ [y]).length) d = y := by
      rw [List.getD_eq_getElem?_getD, List.getElem?_append_right (by omega)]
      simp
    rw [List.concat_eq_append, e1, List.set_append_right _ _ (Nat.le_refl _), Nat.sub_self, List.set_cons_zero, List.take_append]
    simp only [List.take_length_add_append, Nat.add_sub_cancel_left]
    have e2 : (y :: (B' ++ [y])).take (B' ++ [y]).length = y :: B' := by
      rw [List.length_append, List.length_singleton, List.take_succ_cons]
      simp
    rw [List.take_of_length_le (by omega), e2]
    exact (List.perm_append_comm (l₁ := [y]) (l₂ := B')).append_left A
theorem del_filter {L : List (Nat × Nat)} {c j : Nat} (hu : (L.map Prod.snd).Nodup) (hj : j < L.length) (hc : (ent L j).2 = c) :
    ((L.set j (ent L (L.length - 1))).take (L.length - 1)).Perm (L.filter fun e => e.2 != c) := by
  obtain ⟨A, x, B, rfl, hA⟩ : ∃ A x B, L = A ++ x :: B ∧ A.length = j := by
    refine ⟨L.take j, L[j], L.drop (j + 1), ?_, by simp; omega⟩
    rw [← List.drop_eq_getElem_cons hj, List.take_append_drop]
  subst hA
  have hx : x.2 = c := by
    rw [← hc]
    unfold ent
    rw [List.getD_eq_getElem?_getD, List.getElem?_append_right (Nat.le_refl _)]
    simp
  have hf : (A ++ x :: B).filter (fun e => e.2 != c) = A ++ B := by
    rw [List.map_append, List.map_cons, List.nodup_append] at hu
    obtain ⟨h1, h2, h3⟩ := hu
    have h2' := (List.nodup_cons.1 h2).1
    rw [List.filter_append, List.filter_cons, if_neg (by simp [hx])]
    rw [List.filter_eq_self.2 (fun e he => ?_), List.filter_eq_self.2 (fun e he => ?_)]
    · have : e.2 ≠ c := fun e' => h2' (by rw [hx, ← e']; exact List.mem_map.2 ⟨e, he, rfl⟩)
      simpa using this
    · have : e.2 ≠ c := fun e' => h3 e.2 (List.mem_map.2 ⟨e, he, rfl⟩) x.2 List.mem_cons_self (by rw [e', hx])
      simpa using this
  rw [hf]
  have := del_perm A B x (0, 0)
  have e : (A ++ x :: B).length - 1 = A.length + B.length := by simp
  rw [e]
  exact this
theorem Wf.setW {m : MS} (h : Wf m) {W : Nat → List (Nat × Nat)} (hs : ∀ t, t < m.nv * 2 → ∀ e ∈ W t, e ∈ m.wl t) (hl : ∀ t, t < m.nv * 2 → (W t).length ≤ (m.wl t).length) : Wf { m with wl := W } := by
  refine ⟨h.nv0, h.nv1, h.len, h.lit, h.word, fun t ht i hi => ?_, h.wb, fun t ht => Nat.le_trans (hl t ht) (h.wll t ht), h.wbl, h.tr, h.trl⟩
  have hm := hs t ht _ (ent_mem _ _ hi)
  obtain ⟨i', hi', e⟩ := List.getElem_of_mem hm
  have := h.wl t ht i' hi'
  rw [ent_lt _ _ hi', e] at this
  exact this

/-- clause c is out of the first i of its two lists -/
structure UW (s : St) (w : World) (c i : Nat) (s' : St) (w' : World) : Prop where
  rt : RT s w s' w'
  ms : s'.toMS = { s.toMS with wl := s'.wl }
  lv : s'.lrnV = s.lrnV
  old : ∀ t, (∀ k, k < i → t ≠ negL (nth (s.lits c) k)) → s'.wl t = s.wl t
  new : ∀ k, k < i → (s'.wl (negL (nth (s.lits c) k))).Perm ((s.wl (negL (nth (s.lits c) k))).filter fun e => e.2 != c)
section
variable {s s' : St} {w w' : World} {c i : Nat}
theorem UW.sub (h : UW s w c i s' w') (t : Nat) : (∀ e ∈ s'.wl t, e ∈ s.wl t) ∧ (s'.wl t).length ≤ (s.wl t).length := by
  by_cases ht : ∃ k, k < i ∧ t = negL (nth (s.lits c) k)
  · obtain ⟨k, hk, rfl⟩ := ht
    have hp := h.new k hk
    exact ⟨fun e he => (List.mem_filter.1 (hp.mem_iff.1 he)).1, by rw [hp.length_eq]; exact List.length_filter_le _ _⟩
  · have := h.old t (fun k hk e => ht ⟨k, hk, e⟩)
    rw [this]
    exact ⟨fun _ he => he, Nat.le_refl _⟩
theorem UW.wf (h : UW s w c i s' w') (hW : Wf s.toMS) : Wf s'.toMS := by
  rw [h.ms]
  exact hW.setW (fun t _ => (h.sub t).1) (fun t _ => (h.sub t).2)
/-- what unwatchClause wants -/
structure UC (s : St) (c : Nat) : Prop where
  id : c ∈ s.ids
  u : ∀ t, t < s.nv * 2 → ((s.wl t).map Prod.snd).Nodup
  all : ∀ k, k < 2 → c ∈ (s.wl (negL (nth (s.lits c) k))).map Prod.snd
  ne : nth (s.lits c) 0 ≠ nth (s.lits c) 1
theorem UW.step (h : UW s w c i s' w') (hW : Wf s.toMS) (hU : UC s c) (hi : i < 2) {j : Nat} (hj : j < (s.wl (negL (nth (s.lits c) i))).length) (hc : (ent (s.wl (negL (nth (s.lits c) i))) j).2 = c) {s2 : St} {w2 : World}
    (hr : RT s' w' s2 w2) (e2 : s2.toMS = { s'.toMS with wl := fun t => if t = negL (nth (s.lits c) i) then ((s.wl t).set j (ent (s.wl t) ((s.wl t).length - 1))).take ((s.wl t).length - 1) else s'.wl t }) (e3 : s2.lrnV = s'.lrnV) : UW s w c (i + 1) s2 w2 := by
  have hl := hW.len c hU.id
  have hlt : ∀ k, k < 2 → nth (s.lits c) k < s.nv * 2 := fun k hk => hW.lit c hU.id k (by omega)
  have hinj : ∀ k, k < i → negL (nth (s.lits c) k) ≠ negL (nth (s.lits c) i) := by
    intro k hk e
    have : k = 0 ∧ i = 1 := by omega
    rw [this.1, this.2] at e
    exact hU.ne (by have := congrArg negL e; rwa [negL_negL, negL_negL] at this)
  have ew : s2.wl = fun t => if t = negL (nth (s.lits c) i) then ((s.wl t).set j (ent (s.wl t) ((s.wl t).length - 1))).take ((s.wl t).length - 1) else s'.wl t := by
    show s2.toMS.wl = _
    rw [e2]
  refine ⟨h.rt.trans hr, ?_, e3.trans h.lv, fun t ht => ?_, fun k hk => ?_⟩
  · rw [e2, h.ms]
  · rw [ew]
    simp only []
    rw [if_neg (ht i (by omega))]
    exact h.old t (fun k hk => ht k (by omega))
  · rw [ew]
    simp only []
    by_cases e : k = i
    · subst e
      rw [if_pos rfl]
      exact del_filter (hU.u _ (negL_lt (hlt k hi))) hj hc
    · rw [if_neg (hinj k (by omega))]
      exact h.new k (by omega)

theorem Rep.clHeap (h : Rep s w) {d : Nat} (hd : d ∈ s.ids) : ∃ cs, w.heap[d]? = some (.cells cs 112) := by
  have e : s.row (.cl d) = .one 112 4 d [s.litV d, .int .u32 (s.word d), s.actC d, .pointer none] := by simp [St.row, hd]
  have ho := h.rows.own (.cl d)
  rw [e] at ho
  rcases ho.2 with ⟨h1, _⟩ | ⟨g, cap, cs, h1, _, h3, _⟩
  · cases h1
  · have : g = d := by
      have h1' : (Value.slice (some ⟨d, 0, none⟩) 1 1) = .slice (some ⟨g, 0, none⟩) 1 cap := h1
      simp at h1'
      exact h1'.1.symm
    subst this
    exact ⟨cs, h3⟩
theorem clause_info : ∃ j, Tryz.prog.info? 112 = some j ∧ j.size ≠ 0 := by
  have h : (Tryz.prog.info? 112).map (·.size) = some 4 := by kernel_rfl
  obtain ⟨j, h1, h2⟩ := Option.map_eq_some_iff.1 h
  exact ⟨j, h1, by omega⟩
theorem neq_same (w : World) (c : Nat) : Sem.run Tryz.prog (binOp .neq 92 (.pointer (some ⟨c, 0, none⟩)) (.pointer (some ⟨c, 0, none⟩))) w = .ok (.bool false) w :=
  by
  obtain ⟨j, hj, _⟩ := clause_info
  exact Lib.run_neq_ptr_same (te := 112) w _ (by kernel_rfl) hj
theorem neq_other (h : Rep s w) {d c : Nat} (hd : d ∈ s.ids) (hc : c ∈ s.ids) (hne : d ≠ c) : Sem.run Tryz.prog (binOp .neq 92 (.pointer (some ⟨d, 0, none⟩)) (.pointer (some ⟨c, 0, none⟩))) w = .ok (.bool true) w := by
  obtain ⟨cd, h1⟩ := h.clHeap hd
  obtain ⟨cc, h2⟩ := h.clHeap hc
  have hp : Tryz.prog.underlying 92 = some (.pointer 112) := by kernel_rfl
  obtain ⟨j, hj, hsz⟩ := clause_info
  have hE : ∀ n : Nat, (Op.equalIn (n + 1) 92 (.pointer (some ⟨d, 0, none⟩)) (.pointer (some ⟨c, 0, none⟩))).run Tryz.prog w = .ok false w := fun n => by
    simp [Op.equalIn, run_underlying hp, sizeOf, typeInfo, hj, hsz, run_sameAddr_other w (a := ⟨d, 0, none⟩) (b := ⟨c, 0, none⟩) (by first | (simp; done) | exact fun e => hne (by cases e; rfl) | (intro e; cases e; exact hne rfl)) h1 h2]
  simp only [binOp]
  simp [Op.equal, Op.maxDepth, hE 9999]
theorem cutset_ms (s : St) (t m : Nat) (L : List (Nat × Nat)) : ((s.setWl t L).cutWl t m).toMS = { s.toMS with wl := fun t' => if t' = t then L.take m else s.wl t' } := by
  unfold St.cutWl St.setWl
  simp only [if_true]
  congr 1
  funext t'
  by_cases e : t' = t
  · rw [if_pos e, if_pos e]
  · rw [if_neg e, if_neg e, if_neg e]
def UNWPost (s : St) (w : World) (c : Nat) (e : Ending) (w' : World) : Prop := e = .returned (.tuple #[]) ∧ ∃ s', UW s w c 2 s' w'
set_option maxRecDepth 100000 in
set_option maxHeartbeats 4000000 in
theorem unwatch_c (h : Rep s w) (hW : Wf s.toMS) (hU : UC s c) :
    Calls Tryz.prog 98 #[.pointer (some ⟨s.sb, 0, none⟩), .pointer (some ⟨c, 0, none⟩)] w (UNWPost s w c) := by
  have hnv := hW.nv1
  have hcl := hW.len c hU.id
  go_enter Tryz.func98, Tryz.ntmps98
  go_wp2_with fail
  go_loopw [4] (fun v4 wr => ∃ (i : Nat) (s' : St), v4 = .int .i64 (i : Int) ∧ i ≤ 2 ∧ UW s w c i s' wr) (fun v4 _ => 2 - (intOf v4).toNat)
  case atStart => exact ⟨0, s, rfl, by omega, ⟨RT.refl h, rfl, rfl, fun _ _ => rfl, fun k hk => by omega⟩⟩
  case round =>
    obtain ⟨i, s', rfl, hi, hw⟩ := hrel
    by_cases hlt : i < 2
    · have hltI : (i : Int) < 2 := by omega
      have hR := hw.rt.rep
      have hW' := hw.wf hW
      have hid : c ∈ s'.ids := by show c ∈ s'.toMS.ids; rw [hw.ms]; exact hU.id
      have hlits : s'.lits c = s.lits c := by show s'.toMS.lits c = _; rw [hw.ms]
      have hnv' : s'.nv = s.nv := by show s'.toMS.nv = _; rw [hw.ms]
      have hsb : s'.sb = s.sb := hw.rt.sb
      obtain ⟨L, hL⟩ : ∃ L, L = nth (s.lits c) i := ⟨_, rfl⟩
      have hLl : L < s.nv * 2 := by rw [hL]; exact hW.lit c hU.id i (by omega)
      have hGet := Get_s hR hW' hid (i := i) (by rw [hlits]; omega)
      rw [hlits, ← hL] at hGet
      have hNeg := fun w => Neg_c L w (by omega)
      obtain ⟨t, ht⟩ : ∃ t, t = negL L := ⟨_, rfl⟩
      have htl : t < s.nv * 2 := by rw [ht]; exact negL_lt hLl
      rw [← ht] at hNeg
      have hwt : s'.wl t = s.wl t := hw.old t (fun k hk e => by
        have : k = 0 ∧ i = 1 := by omega
        rw [this.1, ht, hL, this.2] at e
        exact hU.ne (by have := congrArg negL e; rwa [negL_negL, negL_negL, eq_comm] at this))
      obtain ⟨j0, hj0, hcj, hmin⟩ : ∃ j0, j0 < (s.wl t).length ∧ (ent (s.wl t) j0).2 = c ∧ ∀ j, j < j0 → (ent (s.wl t) j).2 ≠ c := by
        have hm := hU.all i hlt
        rw [← hL, ← ht] at hm
        obtain ⟨e, he, hec⟩ := List.mem_map.1 hm
        obtain ⟨j, hj, e1⟩ := List.getElem_of_mem he
        obtain ⟨j0, ⟨g1, g2⟩, g3⟩ := exists_least (fun j => j < (s.wl t).length ∧ (ent (s.wl t) j).2 = c) ⟨j, hj, by rw [ent_lt _ _ hj, e1]; exact hec⟩
        exact ⟨j0, g1, g2, fun j hj h' => g3 j hj ⟨by omega, h'⟩⟩
      have htl' : t < s'.nv * 2 := by rw [hnv']; exact htl
      obtain ⟨b, cap, hv, hc1, hc2⟩ := own_form (own_wl hR htl') (by rw [hwt]; omega)
      have hob : (s'.wlV t).ownBlock = some b := by rw [hv]; rfl
      have k9 : wr.cell? ⟨s'.sb, 9, none⟩ = some (.slice (some ⟨s'.wlHB, 0, none⟩) (s'.nv * 2) (s'.nv * 2)) := hR.sc hR.hd.f9
      have k10 := hR.wlH htl'
      have k11 := hR.wlHf t
      rw [hv, hwt] at k10
      rw [hsb, hnv'] at k9
      have htI : (t : Int) < (s.nv : Int) * 2 := by omega
      have hce := fun j (hj : j < (s.wl t).length) => hR.wle htl' hob (i := j) (by rw [hwt]; exact hj)
      rw [hwt] at hce
      obtain ⟨n, hn⟩ : ∃ n, n = (s.wl t).length := ⟨_, rfl⟩
      rw [← hn] at k10 hj0 hce
      have hnb : n ≤ 1000000000 := by rw [hn]; exact hW.wll t htl
      have hjI : (j0 : Int) < (n : Int) := by omega
      have hcut := fun (s2 : St) (w2 : World) => hw.step hW hU hlt (j := j0) (by rw [← hL, ← ht, ← hn]; exact hj0) (by rw [← hL, ← ht]; exact hcj) (s2 := s2) (w2 := w2)
      rw [← hL, ← ht] at hcut
      replace hcut := Lib.hid hcut
      replace hwt := Lib.hid hwt
      replace hn := Lib.hid hn
      replace hGet := Lib.hid hGet
      replace hNeg := Lib.hid hNeg
      replace hce := Lib.hid hce
      replace hcj := Lib.hid hcj
      replace hmin := Lib.hid hmin
      replace hR := Lib.hid hR
      replace hW' := Lib.hid hW'
      replace hw := Lib.hid hw
      replace hob := Lib.hid hob
      replace hv := Lib.hid hv
      clear hid hlits hL ht hLl hsb
      go_wp2_with (first
        | (go_at_call 52; refine Calls.ret hGet.out ?_)
        | (go_at_call 53; refine Calls.ret (hNeg.out _) ?_))
      go_loopw [6] (fun v6 wq => ∃ j : Nat, v6 = .int .i64 (j : Int) ∧ j ≤ j0 ∧ wq = wr) (fun v6 _ => j0 - (intOf v6).toNat)
      case atStart => exact ⟨0, rfl, by omega, rfl⟩
      case round =>
        obtain ⟨j, rfl, hjj, hwq⟩ := hrel
        subst hwq
        have hjI2 : (j : Int) < (n : Int) := by omega
        have hcc := (hce.out j (by omega)).2
        by_cases hlj : j < j0
        · have hne := hmin.out j hlj
          have hdi : (ent (s.wl t) j).2 ∈ s.ids := (hW.wl t htl j (by rw [← hn.out]; omega)).2
          have hq := neq_other hR.out (d := (ent (s.wl t) j).2) (c := c) (by show _ ∈ s'.toMS.ids; rw [hw.out.ms]; exact hdi) (by show _ ∈ s'.toMS.ids; rw [hw.out.ms]; exact hU.id) hne
          obtain ⟨d, hd⟩ : ∃ d, d = (ent (s.wl t) j).2 := ⟨_, rfl⟩
          rw [← hd] at hcc hne hq
          clear hd hdi hne
          go_wp2_with fail
          exact ⟨⟨j + 1, by go_num, by omega, by trivial⟩, by simp [intOf] <;> omega⟩
        · have hje : j = j0 := by omega
          subst hje
          rw [hcj.out] at hcc
          have hq := neq_same wr c
          have hlast := hce.out (n - 1) (by omega)
          obtain ⟨y, hy⟩ : ∃ y, y = ent (s.wl t) (n - 1) := ⟨_, rfl⟩
          rw [← hy, show ((n - 1) * 2 : Nat) = (n - 1) * 2 from rfl] at hlast
          obtain ⟨y1, y2⟩ := y
          obtain ⟨l1, l2⟩ := hlast
          replace hy := Lib.hid hy
          have w1 : IntKind.i64.wrap ((n : Int) - 1) = (n : Int) - 1 := IntWalk.i64_in _ (by omega)
          have w2 : (0 : Int) ≤ (n : Int) - 1 := by omega
          have w3 : (n : Int) - 1 < (n : Int) := by omega
          have w5 : (1 : Int) ≤ (n : Int) := by omega
          have w6 : 1 ≤ n := by omega
          have w4 : ((n : Int) - 1).toNat = n - 1 := by omega
          go_upto_region 8 with fail
          clear hcc hq
          refine wp_region_still_tail 21 (by kernel_rfl) (by kernel_rfl) ?_
          simp only [List.take_succ_cons, List.take_zero, List.drop_succ_cons, List.drop_zero]
          repeat still_step
          refine wpStill_nil ?_
          have hRd := Lib.hid (hR.out.drew)
          have hjn : j < (s'.wl t).length := by rw [hwt.out, ← hn.out]; omega
          go_upto_region 9 with (refine wpList_store_two rfl 107 (.tmp 62) (.tmp 61) rfl b (j * 2) (i32 y1) (ptrV (some y2)) rfl rfl (by kernel_rfl) rfl rfl (by rw [(hRd.out.wle htl' hob.out hjn).1]; rfl) (by rw [(hRd.out.wle htl' hob.out hjn).2]; rfl) (hRd.out.wlf htl' hob.out _) (hRd.out.wlf htl' hob.out _) ?_
                                 intro w5 hw5
                                 have hT5 := (RT.refl hR.out).drew.trans (hRd.out.setWl htl' hob.out j y1 y2)
                                 rw [← hw5] at hT5
                                 replace hT5 := Lib.hid hT5
                                 clear hw5)
          have hR5 := hT5.out.rep
          have k9' : w5.cell? ⟨s.sb, 9, none⟩ = some (.slice (some ⟨s'.wlHB, 0, none⟩) (s.nv * 2) (s.nv * 2)) := by
            have := hR5.sc hR5.hd.f9
            rw [← hnv', ← hw.out.rt.sb]; exact this
          have k10' : w5.cell? ⟨s'.wlHB, t, none⟩ = some (.slice (some ⟨b, 0, none⟩) n cap) := by
            have := hR5.wlH (l := t) htl'
            rw [hn.out, ← hwt.out, ← hv.out]; exact this
          have k11' : w5.frozen? ⟨s'.wlHB, t, none⟩ = false := hR5.wlHf t
          have hnc : n ≤ cap := by rw [hn.out, ← hwt.out]; exact hc1
          have hncI : (n : Int) - 1 ≤ (cap : Int) := by omega
          have hnc1 : n - 1 ≤ cap := by omega
          have hct := (hR5.drew).cutWl (t := t) (m := n - 1) htl' (by
            show n - 1 ≤ ((fun t' => if t' = t then (s'.wl t).set j (y1, y2) else s'.wl t') t).length
            simp only [if_true, List.length_set]
            rw [hwt.out, ← hn.out]; omega)
          rw [show hdLen ((s'.setWl t ((s'.wl t).set j (y1, y2))).wlV t) (n - 1) = .slice (some ⟨b, 0, none⟩) (n - 1) cap by
            show hdLen (s'.wlV t) (n - 1) = _
            rw [hv.out]; rfl] at hct
          have hct' := hT5.out.drew.trans hct
          have hfin := hcut.out _ _ hct' (by
            rw [cutset_ms]
            refine congrArg (fun W => ({ s'.toMS with wl := W } : MS)) (funext fun t' => ?_)
            by_cases e : t' = t
            · subst e
              rw [if_pos rfl, if_pos rfl, hwt.out, ← hn.out, hy.out]
            · rw [if_neg e, if_neg e]) rfl
          replace hct := Lib.hid hct
          replace hct' := Lib.hid hct'
          replace hfin := Lib.hid hfin
          replace hR5 := Lib.hid hR5
          clear k9 k10 k11 l1 l2 hjn hRd
          refine wp_region_still_tail 17 (by kernel_rfl) (by kernel_rfl) ?_
          simp only [List.take_succ_cons, List.take_zero, List.drop_succ_cons, List.drop_zero]
          repeat still_step
          refine wpStill_nil ?_
          go_wp2_with fail
          exact ⟨⟨i + 1, _, by go_num, by omega, hfin.out⟩, by simp [intOf] <;> omega⟩
    · have hltI : ¬ (i : Int) < 2 := by omega
      have hi2 : i = 2 := by omega
      subst hi2
      replace hw := Lib.hid hw
      go_wp2_with fail
      go_end0
      exact ⟨rfl, s', hw.out⟩
end
end Go.Proofs.YtiimddkopiknpaaGreatDoor

/-
  Learned clauses are dropped: the state.
-/
namespace Go.Proofs.YtiimddkopiknpaaGreatDoor
open Go.RowKit

def St.dropL (s : St) (L : List Nat) (V : Value) (D : List Nat) : St := { s with lrn := L, lrnV := V, sc := s.sc.set 13 V, ids := s.ids.filter fun d => !D.contains d }
section
variable {s s' : St} {w w' : World}
theorem Rep.dropL (h : Rep s w) {m b cap : Nat} (hm : m ≤ s.lrn.length) (hv : s.lrnV = .slice (some ⟨b, 0, none⟩) s.lrn.length cap) (D : List Nat) :
    Tr s.row w (s.dropL (s.lrn.take m) (.slice (some ⟨b, 0, none⟩) m cap) D).row (w.setCell ⟨s.sb, 13, none⟩ (.slice (some ⟨b, 0, none⟩) m cap)) ∧ Hd (s.dropL (s.lrn.take m) (.slice (some ⟨b, 0, none⟩) m cap) D) := by
  obtain ⟨V, hV⟩ : ∃ V, V = Value.slice (some ⟨b, 0, none⟩) m cap := ⟨_, rfl⟩
  rw [← hV]
  let s1 : St := { s with sc := s.sc.set 13 V }
  have t1 : Tr s.row w s1.row (w.setCell ⟨s.sb, 13, none⟩ V) := h.rows.set .sol rfl 13 V (by simp [s1, St.row, Row.one]) (fun r hr => by cases r <;> first | rfl | contradiction)
  let s2 : St := { s1 with lrn := s.lrn.take m, lrnV := V }
  have t2 : Rows s2.row (w.setCell ⟨s.sb, 13, none⟩ V) := t1.rows.cut .lrn m (b := b) (cap := cap) hv hm (by
    show (⟨92, 1, V, (s.lrn.take m).length, (s.lrn.take m).map (ptrV ∘ some)⟩ : Row) = ⟨92, 1, _, m, (s.lrn.map (ptrV ∘ some)).take (m * 1)⟩
    rw [List.length_take, Nat.min_eq_left hm, List.map_take, Nat.mul_one, hV]) (fun r hr => by cases r <;> first | rfl | contradiction)
  have hown : ∀ r, (s2.row r).v.ownBlock = (s1.row r).v.ownBlock := by
    intro r
    by_cases e : r = .lrn
    · subst e
      show V.ownBlock = s.lrnV.ownBlock
      rw [hV, hv]; rfl
    · have : s2.row r = s1.row r := by cases r <;> first | rfl | contradiction
      rw [this]
  open Classical in
  have t3 := t2.rename (ρ' := (s.dropL (s.lrn.take m) V D).row) (fun r => match r with
    | .cl c => if c ∈ D then none else some (.cl c)
    | .li c => if c ∈ D then none else some (.li c)
    | r => some r) (by
      intro r' r hr
      cases r' <;> simp only [Option.some.injEq] at hr <;> first | (subst hr; rfl) | skip
      all_goals
        rename_i c
        by_cases hc : c ∈ D
        · rw [if_pos hc] at hr; cases hr
        · rw [if_neg hc] at hr
          injection hr with hr
          subst hr
          have e : (c ∈ (s.dropL (s.lrn.take m) V D).ids) ↔ c ∈ s2.ids := by
            show c ∈ s.ids.filter _ ↔ c ∈ s.ids
            rw [List.mem_filter]
            simp [hc]
          simp only [St.row]
          by_cases h2 : c ∈ s2.ids
          · rw [if_pos h2, if_pos (e.2 h2)]; rfl
          · rw [if_neg h2, if_neg (fun h3 => h2 (e.1 h3))]) (by
      intro r' hr
      cases r' <;> simp only [reduceCtorEq] at hr
      all_goals
        rename_i c
        by_cases hc : c ∈ D
        · have e : c ∉ (s.dropL (s.lrn.take m) V D).ids := by
            show c ∉ s.ids.filter _
            rw [List.mem_filter]
            simp [hc]
          simp only [St.row]
          rw [if_neg e]
          exact ⟨rfl, rfl, rfl⟩
        · rw [if_neg hc] at hr; cases hr) (by
      intro r1 r2 r h1 h2
      have key : ∀ r', (match r' with
        | .cl c => if c ∈ D then none else some (.cl c)
        | .li c => if c ∈ D then none else some (.li c)
        | r => some r) = some r → r' = r := by
        intro r' hr
        cases r' <;> simp only [Option.some.injEq] at hr <;> first | exact hr | skip
        all_goals
          rename_i c
          by_cases hc : c ∈ D
          · rw [if_pos hc] at hr; cases hr
          · rw [if_neg hc] at hr; injection hr
      rw [key r1 h1, key r2 h2])
  refine ⟨⟨t3.1, t1.fr, fun b' hb' => ?_⟩, ?_⟩
  · obtain ⟨r, hr⟩ := t3.2 b' hb'
    rw [hown] at hr
    exact t1.own b' ⟨r, hr⟩
  · have h1 := h.hd.set13 V (s.lrn.take m)
    obtain ⟨h1, h3, h4, h5, h6, h7, h8, h9, h10, h11, h12, h13, h14, h15, h17, h18, h19, h20, h21, h22, h23, h24, h25, h26, h27, h28, h29, h30, h31, h32, h33, h34, h35, h36, h5087, h5088, h5094, h5097, h5098, h5099, ha, hb, hc⟩ := h1
    constructor <;> first | assumption | skip
    exact fun c hc' => hb c (List.mem_filter.1 hc').1

end
/-- what reduceLearned wants -/
structure RC (s : St) : Prop where
  wf : Wf s.toMS
  wt : WtD s.toMS (fun d => d ∈ s.ids)
  ndc : ∀ c ∈ s.ids, ((s.lits c).map (· / 2)).Nodup
  lr : ∀ c ∈ s.lrn, c ∈ s.ids ∧ LW (s.word c) ∧ ((s.lits c).length = 2 → lbdOf (s.word c) ≤ 2)
  lk : ∀ v c, s.toMS.ra v = some c → c ∈ s.lrn → 3 ≤ (s.lits c).length → lockedW (s.word c)
  nd : s.lrn.Nodup
  idn : s.ids.Nodup
/-- the rounds of reduceLearned: i are done, the clauses R are dropped -/
structure RI (s : St) (w : World) (i : Nat) (cur R : List Nat) (s' : St) (w' : World) : Prop where
  rt : RT s w s' w'
  ms : s'.toMS = { s.toMS with wl := s'.wl, lrn := cur }
  lv : s'.lrnV = s.lrnV
  cl : cur.length = s.lrn.length
  ri : R.length ≤ i
  perm : (cur.take (s.lrn.length - R.length) ++ R).Perm s.lrn
  wl : ∀ t, t < s.nv * 2 → (s'.wl t).Perm ((s.wl t).filter fun e => !R.contains e.2)
  fr : ∀ d ∈ R, 3 ≤ (s.lits d).length ∧ ∀ v, s.toMS.ra v ≠ some d
section
variable {s s' s1 s2 s3 : St} {w w' w1 w2 w3 : World} {i : Nat} {cur R : List Nat}
theorem RI.start (h : Rep s w) : RI s w 0 s.lrn [] s w := ⟨RT.refl h, rfl, rfl, rfl, Nat.le_refl _, by simp, fun t _ => List.Perm.of_eq (List.filter_eq_self.2 fun e _ => rfl).symm, fun d hd => by cases hd⟩
theorem RI.skip (h : RI s w i cur R s' w') : RI s w (i + 1) cur R s' w' := ⟨h.rt, h.ms, h.lv, h.cl, Nat.le_succ_of_le h.ri, h.perm, h.wl, h.fr⟩
theorem RI.wf (h : RI s w i cur R s' w') (hW : Wf s.toMS) : Wf s'.toMS := by
  have := hW.setW (W := s'.wl) (fun t ht e he => (List.mem_filter.1 ((h.wl t ht).mem_iff.1 he)).1) (fun t ht => by rw [(h.wl t ht).length_eq]; exact List.length_filter_le _ _)
  rw [h.ms]
  exact ⟨this.nv0, this.nv1, this.len, this.lit, this.word, this.wl, this.wb, this.wll, this.wbl, this.tr, this.trl⟩
/-- the clause at place i -/
theorem RI.at_ (h : RI s w i cur R s' w') (hC : RC s) (hi : 2 * (i + 1) ≤ s.lrn.length) : nth cur i ∈ s.lrn ∧ nth cur i ∉ R := by
  have hr := h.ri
  have hl := h.cl
  have hm : nth cur i ∈ cur.take (s.lrn.length - R.length) := by
    have e : nth cur i = (cur.take (s.lrn.length - R.length))[i]'(by simp; omega) := by
      rw [List.getElem_take]
      unfold nth
      rw [List.getD_eq_getElem?_getD, List.getElem?_eq_getElem (by omega)]
      rfl
    rw [e]
    exact List.getElem_mem _
  have hnd := h.perm.nodup_iff.2 hC.nd
  rw [List.nodup_append] at hnd
  exact ⟨h.perm.mem_iff.1 (List.mem_append_left R hm), fun hR => hnd.2.2 _ hm _ hR rfl⟩
theorem ndc_ne {L : List Nat} (h : (L.map (· / 2)).Nodup) (h2 : 2 ≤ L.length) : nth L 0 ≠ nth L 1 := by
  match L, h2 with
  | a :: b :: r, _ =>
    intro e
    simp [nth] at e
    subst e
    simp at h
theorem RI.uc (h : RI s w i cur R s' w') (hC : RC s) {c : Nat} (hc : c ∈ s.ids) (hR : c ∉ R) (h3 : 3 ≤ (s.lits c).length) (hm : s2.toMS = { s'.toMS with lrn := s2.lrn }) : UC s2 c := by
  have e0 : s2.toMS = { s.toMS with wl := s'.wl, lrn := s2.lrn } := by rw [hm, h.ms]
  have e1 : s2.ids = s.ids := by show s2.toMS.ids = _; rw [e0]
  have e2 : s2.lits = s.lits := by show s2.toMS.lits = _; rw [e0]
  have e3 : s2.wl = s'.wl := by show s2.toMS.wl = _; rw [e0]
  have e4 : s2.nv = s.nv := by show s2.toMS.nv = _; rw [e0]
  refine ⟨by rw [e1]; exact hc, fun t ht => ?_, fun k hk => ?_, ?_⟩
  · rw [e4] at ht
    rw [e3, ((h.wl t ht).map Prod.snd).nodup_iff]
    exact List.Nodup.sublist (List.Sublist.map _ List.filter_sublist) (hC.wt.uniq t ht)
  · rw [e2, e3]
    obtain ⟨e, he, hec⟩ := List.mem_map.1 (hC.wt.all c hc h3 k hk)
    have hlt : nth (s.lits c) k < s.nv * 2 := hC.wf.lit c hc k (by omega)
    exact List.mem_map.2 ⟨e, (h.wl _ (negL_lt hlt)).mem_iff.2 (List.mem_filter.2 ⟨he, by rw [hec]; simpa using hR⟩), hec⟩
  · rw [e2]; exact ndc_ne (hC.ndc c hc) (by omega)
/-- a clause is dropped -/
theorem RI.drop (h : RI s w i cur R s1 w1) (hC : RC s) (hi : 2 * (i + 1) ≤ s.lrn.length) {c : Nat} (hc : c = nth cur i) (h3 : 3 ≤ (s.lits c).length) (hlk : ∀ v, s.toMS.ra v ≠ some c)
    (hr : RT s1 w1 s2 w2) (hm : s2.toMS = { s1.toMS with lrn := cur.set i (nth cur (s.lrn.length - R.length - 1)) }) (hv : s2.lrnV = s1.lrnV) (hu : UW s2 w2 c 2 s3 w3) :
    RI s w (i + 1) (cur.set i (nth cur (s.lrn.length - R.length - 1))) (c :: R) s3 w3 := by
  have hri := h.ri
  have hcl := h.cl
  obtain ⟨ha, hR⟩ := h.at_ hC hi
  rw [← hc] at ha hR
  have hcid := (hC.lr c ha).1
  have e0 : s2.toMS = { s.toMS with wl := s1.wl, lrn := cur.set i (nth cur (s.lrn.length - R.length - 1)) } := by rw [hm, h.ms]
  have e2 : s2.lits = s.lits := by show s2.toMS.lits = _; rw [e0]
  have e3 : s2.wl = s1.wl := by show s2.toMS.wl = _; rw [e0]
  refine ⟨h.rt.trans (hr.trans hu.rt), ?_, (hu.lv.trans hv).trans h.lv, by rw [List.length_set]; exact hcl, by simp; omega, ?_, fun t ht => ?_, fun d hd => ?_⟩
  · rw [hu.ms, e0]
  · obtain ⟨n, hn⟩ : ∃ n, n = s.lrn.length - R.length := ⟨_, rfl⟩
    rw [← hn]
    have hperm := h.perm
    rw [← hn] at hperm
    have hni : i < n := by omega
    have hnc : n ≤ cur.length := by omega
    obtain ⟨A, x, B, hAB, hA⟩ : ∃ A x B, cur.take n = A ++ x :: B ∧ A.length = i := by
      refine ⟨(cur.take n).take i, (cur.take n)[i]'(by simp; omega), (cur.take n).drop (i + 1), ?_, by simp; omega⟩
      rw [← List.drop_eq_getElem_cons, List.take_append_drop]
    have hlen : (A ++ x :: B).length = n := by rw [← hAB, List.length_take]; omega
    have hlen2 : A.length + B.length = n - 1 := by simp at hlen; omega
    have hx : x = c := by
      rw [hc]
      have e1 : nth cur i = (cur.take n).getD i 0 := by
        unfold nth
        rw [List.getD_eq_getElem?_getD, List.getD_eq_getElem?_getD, List.getElem?_take, if_pos hni]
      rw [e1, hAB, ← hA, List.getD_eq_getElem?_getD, List.getElem?_append_right (Nat.le_refl _)]
      simp
    have hlast : nth cur (n - 1) = (A ++ x :: B).getD (A.length + B.length) 0 := by
      rw [← hAB, hlen2]
      unfold nth
      rw [List.getD_eq_getElem?_getD, List.getD_eq_getElem?_getD, List.getElem?_take, if_pos (by omega)]
    have e4 : (cur.set i (nth cur (n - 1))).take (s.lrn.length - (c :: R).length) = ((A ++ x :: B).set A.length ((A ++ x :: B).getD (A.length + B.length) 0)).take (A.length + B.length) := by
      rw [← hlast, ← hAB, hlen2, hA, show s.lrn.length - (c :: R).length = n - 1 by simp; omega]
      rw [List.take_set, List.take_set, List.take_take, Nat.min_eq_left (by omega)]
    rw [e4]
    have hp := del_perm A B x 0
    refine (hp.append_right (c :: R)).trans ?_
    refine List.Perm.trans ?_ hperm
    rw [hAB, hx]
    simp only [List.append_assoc, List.cons_append]
    exact List.Perm.append_left A List.perm_middle
  · have hwt := h.wl t ht
    have hnw : (s3.wl t).Perm ((s1.wl t).filter fun e => e.2 != c) := by
      by_cases hk : ∃ k, k < 2 ∧ t = negL (nth (s2.lits c) k)
      · obtain ⟨k, hk, rfl⟩ := hk
        have := hu.new k hk
        rw [e3] at this
        exact this
      · rw [hu.old t (fun k hk' e => hk ⟨k, hk', e⟩), e3]
        rw [List.filter_eq_self.2 (fun e he => ?_)]
        have hes := (List.mem_filter.1 (hwt.mem_iff.1 he)).1
        obtain ⟨_, _, _, h4⟩ := hC.wt.en t ht e hes
        have : e.2 ≠ c := by
          intro hec
          rw [hec, ← e2] at h4
          rcases h4 with h4 | h4
          · exact hk ⟨0, by omega, h4⟩
          · exact hk ⟨1, by omega, h4⟩
        simpa using this
    refine hnw.trans ((hwt.filter _).trans ?_)
    rw [List.filter_filter]
    refine List.Perm.of_eq (List.filter_congr fun e _ => ?_)
    simp only [List.contains_cons, bne, Bool.not_or]
  · rcases List.mem_cons.1 hd with rfl | hd
    · exact ⟨h3, hlk⟩
    · exact h.fr d hd
/-- all rounds are done -/
theorem RI.done (h : RI s w i cur R s1 w1) (hC : RC s) (hi : 2 * i ≤ s.lrn.length) {V : Value} (hms : s2.toMS = (s1.dropL (cur.take (s.lrn.length - R.length)) V R).toMS) : Red s.toMS s2.toMS R := by
  have e0 : s2.toMS = { s.toMS with wl := s1.wl, lrn := cur.take (s.lrn.length - R.length), ids := s.ids.filter fun d => !R.contains d } := by
    rw [hms]
    show ({ s1.toMS with lrn := _, ids := s1.toMS.ids.filter _ } : MS) = _
    rw [h.ms]
  have hri := h.ri
  have hRs : ∀ d ∈ R, d ∈ s.ids := fun d hd => (hC.lr d (h.perm.mem_iff.1 (List.mem_append_right _ hd))).1
  have hRn : R.Nodup := by
    have := h.perm.nodup_iff.2 hC.nd
    rw [List.nodup_append] at this
    exact this.2.1
  have hidn : s.ids.Nodup → (s.ids.filter (fun d => !R.contains d) ++ R).Perm s.ids := by
    intro hn
    refine (List.perm_ext_iff_of_nodup ?_ hn).2 fun d => ?_
    · rw [List.nodup_append]
      refine ⟨List.Nodup.sublist List.filter_sublist hn, hRn, fun a ha b hb e => ?_⟩
      subst e
      have := (List.mem_filter.1 ha).2
      simp at this
      exact this hb
    · rw [List.mem_append, List.mem_filter]
      constructor
      · rintro (h1 | h1)
        · exact h1.1
        · exact hRs d h1
      · intro h1
        by_cases h2 : d ∈ R
        · exact .inr h2
        · exact .inl ⟨h1, by simpa using h2⟩
  rw [e0]
  exact ⟨rfl, rfl, rfl, rfl, rfl, rfl, rfl, h.perm, hidn hC.idn, h.wl, by omega, h.fr⟩
end
end Go.Proofs.YtiimddkopiknpaaGreatDoor

/-
  reduceLearned.
-/
namespace Go.Proofs.YtiimddkopiknpaaGreatDoor
open Go.RowKit

/-- learned clauses have been dropped -/
def RDPost (s : St) (w : World) (e : Ending) (w' : World) : Prop :=
  e = .returned (.tuple #[]) ∧ ∃ (s' : St) (R : List Nat) (nb' : Int), Tr s.row w s'.row w' ∧ Hd s' ∧ (nb' = s.nbMax ∨ nb' = s.nbMax + 1000) ∧ s'.keep = ({ s with nbMax := nb' } : St).keep ∧ Red s.toMS s'.toMS R
theorem RC.setL {s : St} (h : RC s) {L : List Nat} (hp : L.Perm s.lrn) (s' : St) (hm : s'.toMS = { s.toMS with lrn := L }) : RC s' := by
  have e1 : s'.lrn = L := by show s'.toMS.lrn = _; rw [hm]
  have e2 : s'.ids = s.ids := by show s'.toMS.ids = _; rw [hm]
  have e3 : s'.lits = s.lits := by show s'.toMS.lits = _; rw [hm]
  have e4 : s'.word = s.word := by show s'.toMS.word = _; rw [hm]
  have w := h.wf
  have t := h.wt
  refine ⟨by rw [hm]; exact ⟨w.nv0, w.nv1, w.len, w.lit, w.word, w.wl, w.wb, w.wll, w.wbl, w.tr, w.trl⟩, by rw [hm]; exact ⟨t.en, t.uniq, t.all, t.wbe, t.wbu, t.wba⟩, by rw [e2, e3]; exact h.ndc, fun c hc => ?_, fun v c hr hc h3 => ?_, by rw [e1]; exact hp.nodup_iff.2 h.nd, by rw [e2]; exact h.idn⟩
  · rw [e1] at hc
    rw [e2, e3, e4]
    exact h.lr c (hp.mem_iff.1 hc)
  · rw [e1] at hc
    rw [hm] at hr
    rw [e3] at h3
    rw [e4]
    exact h.lk v c hr (hp.mem_iff.1 hc) h3
theorem Red.setL {m m' : MS} {R L : List Nat} (h : Red { m with lrn := L } m' R) (hp : L.Perm m.lrn) : Red m m' R :=
  ⟨h.nv, h.val, h.trail, h.rsn, h.lits, h.word, h.wb, h.lrn.trans hp, h.ids, h.wl, by rw [← hp.length_eq]; exact h.half, h.free⟩

section
variable {s : St} {w : World}
theorem Rep.setLrn (h : Rep s w) {b : Nat} (hb : s.lrnV.ownBlock = some b) (i c : Nat) : RT s w (s.setL (s.lrn.set i c)) (w.setCell ⟨b, i, none⟩ (.pointer (some ⟨c, 0, none⟩))) := by
  have hv : (s.row .lrn).v.ownBlock = some b := hb
  exact ⟨h.rows.set (ρ' := (s.setL (s.lrn.set i c)).row) .lrn hv i (ptrV (some c)) (by
    show (⟨92, 1, s.lrnV, (s.lrn.set i c).length, (s.lrn.set i c).map (ptrV ∘ some)⟩ : Row) = ⟨92, 1, s.lrnV, s.lrn.length, (s.lrn.map (ptrV ∘ some)).set i (ptrV (some c))⟩
    rw [List.length_set, List.map_set]; rfl) (fun r hr => row_setL s _ r hr), h.hd.setL _, rfl⟩
open Classical in
set_option maxRecDepth 100000 in
set_option maxHeartbeats 4000000 in
theorem reduce_c (h : Rep s w) (hC : RC s) (hn : s.lrn.length ≤ 65536) (hn0 : 0 < s.lrn.length) (hnb : 0 ≤ s.nbMax ∧ s.nbMax < 1000000000) :
    Calls Tryz.prog 67 #[.pointer (some ⟨s.sb, 0, none⟩)] w (RDPost s w) := by
  have hS := Lib.hid (sortWl_c h (fun c hc => ⟨(hC.lr c hc).1, (hC.lr c hc).2.1⟩) hn)
  go_enter Tryz.func67, Tryz.ntmps67
  go_upto_region 1 with (go_at_call 95; refine hS.out.mono ?_; rintro e w1 ⟨rfl, L, hL⟩; replace hL := Lib.hid hL)
  clear hS
  obtain ⟨hp, ht⟩ := hL.out
  have hR1 : Rep (s.setL L) w1 := ⟨ht.rows, h.hd.setL L⟩
  have hC1 : RC (s.setL L) := hC.setL hp _ rfl
  have hl1 : (s.setL L).lrn.length = s.lrn.length := hp.length_eq
  have hsb : (s.setL L).sb = s.sb := rfl
  have hnb1 : (s.setL L).nbMax = s.nbMax := rfl
  clear hL
  generalize hs1 : s.setL L = s1 at *
  obtain ⟨b, cap, hv, hat, hfr, hne, hc1, hc2⟩ := hR1.lrnAt (i := 0) (by omega)
  obtain ⟨N, hN⟩ : ∃ N, N = s.lrn.length := ⟨_, rfl⟩
  rw [← hN] at hn hn0
  have hlN : s1.lrn.length = N := by rw [hN]; exact hl1
  rw [hlN] at hv hat
  have k13 := hR1.sc hR1.hd.f13
  rw [hv, hsb] at k13
  obtain ⟨H, hH⟩ : ∃ H, H = N / 2 := ⟨_, rfl⟩
  have hHI : (N : Int) / 2 = (H : Int) := by omega
  have hHN : H < N := by omega
  have hHN2 : (H : Int) < (N : Int) := by omega
  have hg := hat H hHN
  have hm : nth s1.lrn H ∈ s1.lrn := nth_mem _ _ (by omega)
  obtain ⟨i1, i2, i3⟩ := hC1.lr _ hm
  have hx := hR1.clc i1 (j := 1) (u := .int .u32 (s1.word (nth s1.lrn H))) rfl
  have hlb := Lib.hid (lbdOf_c hx i2)
  have hx16 := i2.lbd.2
  generalize lbdOf (s1.word (nth s1.lrn H)) = x at *
  generalize nth s1.lrn H = d at *
  have hpo := Lib.hid (postpone_c hR1 (by rw [hnb1]; exact hnb))
  rw [hsb] at hpo
  replace ht := Lib.hid ht
  replace hR1 := Lib.hid hR1
  replace hC1 := Lib.hid hC1
  replace hv := Lib.hid hv
  replace hat := Lib.hid hat
  replace hfr := Lib.hid hfr
  replace hlN := Lib.hid hlN
  replace hl1 := Lib.hid hl1
  replace hs1 := Lib.hid hs1
  replace hN := Lib.hid hN
  replace hH := Lib.hid hH
  replace hp := Lib.hid hp
  clear hm i1 i2 i3 hx hnb1
  go_upto_if 29 with (go_at_call 77; refine Calls.ret hlb.out ?_)
  go_cut [] (fun wx => ∃ s2, (s2 = s1 ∨ s2 = s1.setK 6 (s1.nbMax + 1000)) ∧ Tr s1.row w1 s2.row wx ∧ Hd s2)
  case first =>
    by_cases h3 : x ≤ 3
    · have h3I : (x : Int) ≤ 3 := by omega
      go_wp2_with (go_at_call 96; refine hpo.out.mono ?_; rintro e w2 ⟨rfl, h2⟩)
      go_meet
      exact ⟨_, .inr rfl, h2⟩
    · have h3I : ¬ (x : Int) ≤ 3 := by omega
      go_wp2_with fail
      go_meet
      exact ⟨_, .inl rfl, Tr.refl hR1.out.rows, hR1.out.hd⟩
  case rest =>
    obtain ⟨s2, hs2, ht2, hd2⟩ := hcut
    clear hpo hlb k13 hg
    have hsame : s2.toMS = s1.toMS ∧ s2.lrnV = s1.lrnV ∧ s2.sb = s1.sb := by
      rcases hs2 with rfl | rfl <;> exact ⟨rfl, rfl, rfl⟩
    obtain ⟨hm2, hv2, hsb2⟩ := hsame
    rw [hv.out] at hv2
    rw [hsb] at hsb2
    have hR2 : Rep s2 wc := ⟨ht2.rows, hd2⟩
    have hC2 : RC s2 := hC1.out.setL (List.Perm.refl _) s2 (by rw [hm2])
    have hl2 : s2.lrn.length = N := by
      have : s2.lrn = s1.lrn := congrArg MS.lrn hm2
      rw [this]; exact hlN.out
    replace hs2 := Lib.hid hs2
    replace ht2 := Lib.hid ht2
    replace hm2 := Lib.hid hm2
    replace hC2 := Lib.hid hC2
    replace hsb2 := Lib.hid hsb2
    replace hv2 := Lib.hid hv2
    replace hl2 := Lib.hid hl2
    clear hd2
    clear hat hfr
    go_upto_block 0 with fail
    go_wp2_with fail
    go_loopw [4, 5] (fun v4 v5 wr => ∃ (i : Nat) (cur R : List Nat) (s' : St), v4 = .int .i64 (R.length : Int) ∧ v5 = .int .i64 (i : Int) ∧ i ≤ H ∧ RI s2 wc i cur R s' wr) (fun v4 v5 _ => H - (intOf v5).toNat)
    case atStart => exact ⟨0, s2.lrn, [], s2, rfl, rfl, by omega, RI.start hR2⟩
    case round =>
      obtain ⟨i, cur, R, s', rfl, rfl, hi, hI⟩ := hrel
      by_cases hlt : i < H
      · have hltI : (i : Int) < (H : Int) := by omega
        have hR := hI.rt.rep
        have hsb' : s'.sb = s.sb := hI.rt.sb.trans hsb2.out
        have hcur : s'.lrn = cur := by show s'.toMS.lrn = _; rw [hI.ms]
        have hlc : cur.length = N := by rw [hI.cl]; exact hl2.out
        have hRi := hI.ri
        have hlv : s'.lrnV = .slice (some ⟨b, 0, none⟩) N cap := by rw [hI.lv]; exact hv2.out
        have hH2 : 2 * H ≤ N := by rw [hH.out]; omega
        obtain ⟨b', cap', hv', hat, hfr, hne', _, _⟩ := hR.lrnAt (i := i) (by rw [hcur]; omega)
        rw [hcur, hlc] at hv' hat
        obtain ⟨rfl, rfl⟩ : b' = b ∧ cap' = cap := by
          rw [hlv] at hv'
          injection hv' with e1 _ e2
          injection e1 with e1
          injection e1 with e1
          exact ⟨e1.symm, e2.symm⟩
        have k13 := hR.sc hR.hd.f13
        rw [hlv, hsb'] at k13
        have hg := hat i (by omega)
        obtain ⟨ha, hnR⟩ := hI.at_ hC2.out (by rw [hl2.out]; omega)
        obtain ⟨c, hc⟩ : ∃ c, c = nth cur i := ⟨_, rfl⟩
        rw [← hc] at hg ha hnR
        obtain ⟨i1, i2, i3⟩ := hC2.out.lr c ha
        have hi1 : c ∈ s'.ids := by show c ∈ s'.toMS.ids; rw [hI.ms]; exact i1
        have hwd : s'.word c = s2.word c := by show s'.toMS.word c = _; rw [hI.ms]
        have hx := hR.clc hi1 (j := 1) (u := .int .u32 (s'.word c)) rfl
        rw [hwd] at hx
        have hlb := Lib.hid (lbdOf_c hx i2)
        have hik := Lib.hid (isLocked_c hx i2)
        have hx16 := i2.lbd.2
        have hiN : (i : Int) < (N : Int) := by omega
        clear hv' hx
        obtain ⟨y, hy⟩ : ∃ y, y = lbdOf (s2.word c) := ⟨_, rfl⟩
        rw [← hy] at hlb hx16
        replace hy := Lib.hid hy
        replace i3 := Lib.hid i3
        have hlk3 := Lib.hid (fun v (hr : s2.toMS.ra v = some c) (h3 : 3 ≤ (s2.lits c).length) => hC2.out.lk v c hr ha h3)
        replace hI := Lib.hid hI
        replace hR := Lib.hid hR
        replace hat := Lib.hid hat
        replace hfr := Lib.hid hfr
        replace hcur := Lib.hid hcur
        replace hlc := Lib.hid hlc
        replace hlv := Lib.hid hlv
        replace hc := Lib.hid hc
        replace ha := Lib.hid ha
        replace hnR := Lib.hid hnR
        replace i1 := Lib.hid i1
        replace i2 := Lib.hid i2
        replace hi1 := Lib.hid hi1
        replace hwd := Lib.hid hwd
        by_cases hy2 : y ≤ 2
        · have hyI : (y : Int) ≤ 2 := by omega
          go_wp2_with (go_at_call 77; refine Calls.ret hlb.out ?_)
          exact ⟨⟨i + 1, cur, R, s', rfl, by go_num, by omega, hI.out.skip⟩, by simp [intOf] <;> omega⟩
        · have hyI : ¬ (y : Int) ≤ 2 := by omega
          by_cases hk : lockedW (s2.word c)
          · rw [decide_eq_true hk] at hik
            go_wp2_with (first | (go_at_call 77; refine Calls.ret hlb.out ?_) | (go_at_call 97; refine Calls.ret hik.out ?_))
            exact ⟨⟨i + 1, cur, R, s', rfl, by go_num, by omega, hI.out.skip⟩, by simp [intOf] <;> omega⟩
          · rw [decide_eq_false hk] at hik
            have h3 : 3 ≤ (s2.lits c).length := by
              have h1 := hC2.out.wf.len c i1.out
              have h2 : (s2.lits c).length ≠ 2 := fun e => by have := i3.out e; rw [← hy.out] at this; omega
              omega
            have hfree : ∀ v, s2.toMS.ra v ≠ some c := fun v hr => hk (hlk3.out v hr h3)
            replace hfree := Lib.hid hfree
            replace h3 := Lib.hid h3
            go_upto_region 12 with (first | (go_at_call 77; refine Calls.ret hlb.out ?_) | (go_at_call 97; refine Calls.ret hik.out ?_))
            clear hlb hik hk hy hlk3
            obtain ⟨z, hz⟩ := hR.out.hd.f5087 5093 (by omega) (by omega) (by omega)
            have hzc := hR.out.sc hz
            rw [hsb'] at hzc
            have hzf := hR.out.scf 5093
            rw [hsb'] at hzf
            simp only [i64] at hzc
            have hq := Lib.hid (fun z' => hR.out.setN 5093 z' (.inl ⟨by omega, by omega, by omega⟩))
            clear hz
            go_upto_region 13 with fail
            have q1 := hq.out (wrap64 (z + 1))
            rw [hsb'] at q1
            clear hq hzc hzf
            obtain ⟨s5, hs5⟩ : ∃ s5, s5 = s'.setSc 5093 (i64 (wrap64 (z + 1))) := ⟨_, rfl⟩
            rw [← hs5] at q1
            generalize wr.setCell ⟨s.sb, 5093, none⟩ (.int .i64 (wrap64 (z + 1))) = w5 at q1 ⊢
            have t5 : RT s' wr s5 w5 := ⟨q1.tr, q1.hd, by rw [hs5]; rfl⟩
            have m5 : s5.toMS = s'.toMS := by rw [hs5]; rfl
            have v5 : s5.lrnV = s'.lrnV := by rw [hs5]; rfl
            have l5 : s5.lrn = cur := by have := congrArg MS.lrn m5; exact this.trans hcur.out
            have b5 : s5.sb = s.sb := t5.sb.trans hsb'
            clear hs5 q1
            have hR5 := t5.rep
            obtain ⟨b2, cap2, hv2', hat5, hfr5, hne5, _, _⟩ := hR5.lrnAt (i := i) (by rw [l5, hlc.out]; omega)
            rw [l5, hlc.out] at hv2' hat5
            obtain ⟨rfl, rfl⟩ : b2 = b' ∧ cap2 = cap' := by
              rw [v5, hlv.out] at hv2'
              injection hv2' with e1 _ e2
              injection e1 with e1
              injection e1 with e1
              exact ⟨e1.symm, e2.symm⟩
            have k13' := hR5.sc hR5.hd.f13
            rw [hv2', b5] at k13'
            have hob : s5.lrnV.ownBlock = some b2 := by rw [hv2']; rfl
            obtain ⟨p, hpN⟩ : ∃ p, p = N - R.length - 1 := ⟨_, rfl⟩
            have hlast := hat5 p (by omega)
            have g1 := hat5 i (by omega)
            have f1 := hfr5 i
            have p1 : IntKind.i64.wrap ((N : Int) - ((R.length : Int) + 1)) = (N : Int) - ((R.length : Int) + 1) := IntWalk.i64_in _ (by omega)
            have p2 : (N : Int) - ((R.length : Int) + 1) = (p : Int) := by omega
            have p3 : (p : Int) < (N : Int) := by omega
            rw [p2] at p1
            obtain ⟨e0, he0⟩ : ∃ e0, e0 = nth cur p := ⟨_, rfl⟩
            rw [← he0] at hlast
            replace he0 := Lib.hid he0
            replace hpN := Lib.hid hpN
            clear hat5 hfr5 k13 hg
            replace hR5 := Lib.hid hR5
            replace t5 := Lib.hid t5
            replace m5 := Lib.hid m5
            replace v5 := Lib.hid v5
            replace l5 := Lib.hid l5
            replace hv2' := Lib.hid hv2'
            replace hob := Lib.hid hob
            replace hne5 := Lib.hid hne5
            refine wp_region_still_tail 16 (by kernel_rfl) (by kernel_rfl) ?_
            simp only [List.take_succ_cons, List.take_zero, List.drop_succ_cons, List.drop_zero]
            repeat still_step
            refine wpStill_nil ?_
            have t6 := t5.out.trans (hR5.out.setLrn hob.out i e0).drew
            rw [l5.out] at t6
            go_upto_region 14 with fail
            clear hlast g1 f1 k13'
            generalize (w5.setCell ⟨b2, i, none⟩ (.pointer (some ⟨e0, 0, none⟩))).drew = w6 at t6 ⊢
            have hm6 : (s5.setL (cur.set i e0)).toMS = { s'.toMS with lrn := cur.set i (nth cur (s2.lrn.length - R.length - 1)) } := by
              show ({ s5.toMS with lrn := _ } : MS) = _
              rw [m5.out, hl2.out, ← hpN.out, ← he0.out]
            have hv6 : (s5.setL (cur.set i e0)).lrnV = s'.lrnV := v5.out
            have hb6 : (s5.setL (cur.set i e0)).sb = s.sb := b5
            have hU := hI.out.uc hC2.out i1.out hnR.out h3.out (s2 := s5.setL (cur.set i e0)) (by rw [hm6])
            have hW6 : Wf (s5.setL (cur.set i e0)).toMS := by
              have w := hI.out.wf hC2.out.wf
              rw [hm6]
              exact ⟨w.nv0, w.nv1, w.len, w.lit, w.word, w.wl, w.wb, w.wll, w.wbl, w.tr, w.trl⟩
            have hun := unwatch_c t6.rep hW6 hU
            rw [hb6] at hun
            have hdrop := fun s3 w3 (hu : UW (s5.setL (cur.set i e0)) w6 c 2 s3 w3) => hI.out.drop hC2.out (by rw [hl2.out]; omega) hc.out h3.out hfree.out t6 hm6 hv6 hu
            rw [hl2.out, ← hpN.out, ← he0.out] at hdrop
            replace hdrop := Lib.hid hdrop
            replace hun := Lib.hid hun
            clear hU hW6 hm6 hv6 t6
            go_wp2_with (go_at_call 98; refine hun.out.mono ?_; rintro e w7 ⟨rfl, s7, hu7⟩)
            have hfin := hdrop.out _ _ hu7
            exact ⟨⟨i + 1, _, c :: R, s7, by simp, by go_num, by omega, hfin⟩, by simp [intOf] <;> omega⟩
      · have hltI : ¬ (i : Int) < (H : Int) := by omega
        have hR := hI.rt.rep
        have hsb' : s'.sb = s.sb := hI.rt.sb.trans hsb2.out
        have hcur : s'.lrn = cur := by show s'.toMS.lrn = _; rw [hI.ms]
        have hlc : cur.length = N := by rw [hI.cl]; exact hl2.out
        have hRi := hI.ri
        have hH2 : 2 * H ≤ N := by rw [hH.out]; omega
        have hlv : s'.lrnV = .slice (some ⟨b, 0, none⟩) N cap := by rw [hI.lv]; exact hv2.out
        have k13 := hR.sc hR.hd.f13
        rw [hlv, hsb'] at k13
        have kf := hR.scf 13
        rw [hsb'] at kf
        have hd := hR.dropL (m := N - R.length) (b := b) (cap := cap) (by rw [hcur, hlc]; omega) (by rw [hcur, hlc]; exact hlv) R
        rw [hcur, hsb'] at hd
        obtain ⟨p, hpN⟩ : ∃ p, p = N - R.length := ⟨_, rfl⟩
        rw [← hpN] at hd
        have p2 : (N : Int) - (R.length : Int) = (p : Int) := by omega
        have pc : p ≤ cap := by rw [hlN.out] at hc1; omega
        have pcI : (p : Int) ≤ (cap : Int) := by omega
        have hred := hI.done hC2.out (by rw [hl2.out]; omega) (s2 := s'.dropL (cur.take p) (.slice (some ⟨b, 0, none⟩) p cap) R) (V := .slice (some ⟨b, 0, none⟩) p cap) (by rw [hl2.out, ← hpN])
        have hkeep : s'.keep = s2.keep := hI.rt.kp
        have htr := hI.rt.tr.trans hd.1
        have hhd := hd.2
        replace hpN := Lib.hid hpN
        replace hred := Lib.hid hred
        replace hkeep := Lib.hid hkeep
        replace htr := Lib.hid htr
        replace hhd := Lib.hid hhd
        replace hI := Lib.hid hI
        replace hR := Lib.hid hR
        replace hlv := Lib.hid hlv
        replace hcur := Lib.hid hcur
        replace hlc := Lib.hid hlc
        clear hd
        go_wp2_with fail
        go_end0
        have hst := hs1.out
        refine ⟨rfl, _, R, s2.nbMax, ht.out.trans (ht2.out.trans htr.out), hhd.out, ?_, ?_, ?_⟩
        · rcases hs2.out with e | e
          · rw [e, ← hst]; exact .inl rfl
          · rw [e, ← hst]; exact .inr rfl
        · refine Eq.trans (b := s'.keep) rfl ?_
          rw [hkeep.out]
          rcases hs2.out with e | e
          · rw [e, ← hst]; rfl
          · rw [e, ← hst]; rfl
        · have h1 := hred.out
          rw [hm2.out, ← hst] at h1
          exact Red.setL (m := s.toMS) h1 hp.out
end
end Go.Proofs.YtiimddkopiknpaaGreatDoor

/-
  The search, its steps: learned clauses are dropped; the decay.
-/
namespace Go.Proofs.YtiimddkopiknpaaGreatDoor
open Go.RowKit

theorem decay_next : ∀ d ∈ decayL, d ≠ 4606732058837280360 → ∃ r, floatBits .add .f64 d 4576918229304087675 = some r ∧ r ∈ decayL := by
  have h : decayL.all (fun d => d == 4606732058837280360 || (match floatBits .add .f64 d 4576918229304087675 with | some r => decayL.contains r | none => false)) = true := by decide +kernel
  intro d hd hne
  have := List.all_eq_true.1 h d hd
  rw [Bool.or_eq_true] at this
  rcases this with h1 | h1
  · exact (hne (by simpa using h1)).elim
  · split at h1
    · rename_i r hr; exact ⟨r, hr, by simpa using h1⟩
    · cases h1
section
variable {F : List (List Nat)} {u0 nv jr lvl l c : Nat} {N0 : Int} {s0 s s' : St} {w0 w w' : World} {R : List Nat} {nb' : Int}
theorem SG.rc (h : SG F u0 nv jr lvl N0 s0 w0 s w) : RC s := by
  have hC := h.hg.gs.core
  have hG := h.hg.gp
  exact ⟨hC.wf, h.hg.gs.wtd, hC.ndc, hG.lrnI, hG.lock, hG.nodup, hC.idn⟩
theorem SG.reduced (h : SG F u0 nv jr lvl N0 s0 w0 s w) (hN : s.idx * s.nbMax ≤ s.nconf) (hnb : s.nbMax ≤ nb' ∧ nb' ≤ s.nbMax + 1000) (b : Bs s0 w0 s' w') (r : Red s.toMS s'.toMS R)
    (k1 : s'.nbMax = nb' + 300) (k2 : s'.idx = s.nconf / s.nbMax + 1) (k3 : s'.nconf = s.nconf) (k4 : s'.qc = s.qc) (k5 : s'.qi = s.qi) (k6 : s'.lbdN = s.lbdN) (k7 : StatOk s') : SG F u0 nv (jr + 1) lvl N0 s0 w0 s' w' := by
  refine ⟨b, by rw [k1, k2, k3]; exact h.hg.reduce r hN rfl hnb, ⟨by rw [k4, k5]; exact h.qs.q, by rw [k5]; exact h.qs.qil, by rw [k3, k4]; exact h.qs.qcl, k7⟩, by rw [k3, k6]; exact h.lb, fun v hv hz => ?_⟩
  rw [r.va] at hz
  rw [k4]
  exact h.un v hv hz

/-- clauses have been dropped; nbMax is still to be bumped -/
def RHPost (F : List (List Nat)) (u0 nv jr lvl : Nat) (N0 : Int) (s0 : St) (w0 : World) (s : St) (e : Ending) (w' : World) : Prop :=
  e = .returned (.tuple #[]) ∧ ∃ s2, Bs s0 w0 s2 w' ∧ (0 ≤ s2.nbMax ∧ s2.nbMax < 1000000000) ∧ ∀ w3, Tr s2.row w' (s2.setK 6 (s2.nbMax + 300)).row w3 → Hd (s2.setK 6 (s2.nbMax + 300)) →
    ∃ s3, SG F u0 nv (jr + 1) lvl N0 s0 w0 s3 w3 ∧ s3.nconf = s.nconf ∧ s3.trail = s.trail
theorem reduceH_c (h : SG F u0 nv jr lvl N0 s0 w0 s w) (hN : s.idx * s.nbMax ≤ s.nconf) {w1 : World} (t1 : Tr s.row w (s.setK 7 (s.nconf / s.nbMax + 1)).row w1) (d1 : Hd (s.setK 7 (s.nconf / s.nbMax + 1))) :
    Calls Tryz.prog 67 #[.pointer (some ⟨s0.sb, 0, none⟩)] w1 (RHPost F u0 nv jr lvl N0 s0 w0 s) := by
  obtain ⟨s1, hs1⟩ : ∃ s1, s1 = s.setK 7 (s.nconf / s.nbMax + 1) := ⟨_, rfl⟩
  rw [← hs1] at t1 d1
  have m1 : s1.toMS = s.toMS := by rw [hs1]; rfl
  have e1 : s1.nbMax = s.nbMax := by rw [hs1]; rfl
  have e2 : s1.sb = s.sb := by rw [hs1]; rfl
  have hG := h.hg.gp
  have hb := hG.nbm
  have hj := hG.jrb
  have hne := h.hg.lne hN
  have hc := reduce_c (s := s1) (w := w1) ⟨t1.rows, d1⟩ (h.rc.setL (List.Perm.refl _) s1 (by rw [m1])) (by rw [show s1.lrn = s.lrn from congrArg MS.lrn m1]; exact hG.len) (by rw [show s1.lrn = s.lrn from congrArg MS.lrn m1]; exact hne) (by rw [e1]; omega)
  rw [e2, h.bs.sb] at hc
  refine hc.mono ?_
  rintro e w' ⟨rfl, s2, R, nb', t2, d2, hnb, hk, hr⟩
  have hk2 : s2.keep = ({ s with nbMax := nb', idx := s.nconf / s.nbMax + 1 } : St).keep := by rw [hk, hs1]; rfl
  have k0 : s2.sb = s.sb := congrArg (fun p => p.1) hk2
  have k1 : s2.qc = s.qc := congrArg (fun p => p.2.1) hk2
  have k2 : s2.qi = s.qi := congrArg (fun p => p.2.2.1) hk2
  have k3 : s2.status = s.status := congrArg (fun p => p.2.2.2.1) hk2
  have k4 : s2.nbMax = nb' := congrArg (fun p => p.2.2.2.2.1) hk2
  have k5 : s2.idx = s.nconf / s.nbMax + 1 := congrArg (fun p => p.2.2.2.2.2.1) hk2
  have k6 : s2.nconf = s.nconf := congrArg (fun p => p.2.2.2.2.2.2.1) hk2
  have k7 : s2.lbdN = s.lbdN := congrArg (fun p => p.2.2.2.2.2.2.2.1) hk2
  have k8 : s2.lbdP = s.lbdP := congrArg (fun p => p.2.2.2.2.2.2.2.2.1) hk2
  have k9 : s2.tdN = s.tdN := congrArg (fun p => p.2.2.2.2.2.2.2.2.2.1) hk2
  have k10 : s2.tdP = s.tdP := congrArg (fun p => p.2.2.2.2.2.2.2.2.2.2.1) hk2
  have b2 := (h.bs.step t1 d1 e2).step t2 d2 (k0.trans e2.symm)
  rw [m1] at hr
  rw [e1] at hnb
  refine ⟨rfl, s2, b2, by omega, fun w3 t3 d3 => ⟨s2.setK 6 (s2.nbMax + 300), h.reduced (R := R) (nb' := nb') hN (by omega) (b2.step t3 d3 rfl) hr (by rw [← k4]; rfl) k5 k6 k1 k2 k7 ?_, k6, hr.trail⟩⟩
  obtain ⟨a, b, c, d⟩ := h.qs.st
  exact ⟨(by rw [← k7] at a; exact a), (by rw [← k8] at b; exact b), (by rw [← k9] at c; exact c), (by rw [← k10] at d; exact d)⟩
end
end Go.Proofs.YtiimddkopiknpaaGreatDoor

/-
  The search, its steps: what lies between the calls of a conflict's branch.
-/
namespace Go.Proofs.YtiimddkopiknpaaGreatDoor
open Go.RowKit

theorem Hd.setDec {s : St} (h : Hd s) (b : Nat) (hb : b ∈ decayL) : Hd (s.setSc 5098 (.float .f64 b)) := by
  have ho : ∀ k, 5098 ≠ k → (s.sc.set 5098 (.float .f64 b))[k]? = s.sc[k]? := fun k hk => set_ne_get _ _ _ _ hk
  obtain ⟨h1, h3, h4, h5, h6, h7, h8, h9, h10, h11, h12, h13, h14, h15, h17, h18, h19, h20, h21, h22, h23, h24, h25, h26, h27, h28, h29, h30, h31, h32, h33, h34, h35, h36, h5087, h5088, h5094, h5097, h5098, h5099, ha, hb', hc⟩ := h
  constructor <;> simp only [St.setSc]
  case f21 => intro hh; rw [ho _ (by omega)]; exact h21 hh
  case f36 => intro j' a b; rw [ho _ (by omega)]; exact h36 j' a b
  case f5087 => intro j' a b c; rw [ho _ (by omega)]; exact h5087 j' a b c
  case f5098 => obtain ⟨d, hd, _⟩ := h5098; exact ⟨b, set_eq_get _ _ _ _ hd, hb⟩
  case fact => exact ha
  case facc => exact hb'
  case ftb => exact hc
  all_goals
    (first
      | (rw [ho _ (by omega)]; assumption)
      | (simp only [ho 24 (by omega), ho 25 (by omega), ho 26 (by omega), ho 27 (by omega), ho 30 (by omega), ho 31 (by omega), ho 32 (by omega), ho 35 (by omega), ho 5097 (by omega)]; assumption))
theorem Rep.setDec {s : St} {w : World} (h : Rep s w) (b : Nat) (hb : b ∈ decayL) : QT s w (s.setSc 5098 (.float .f64 b)) (w.setCell ⟨s.sb, 5098, none⟩ (.float .f64 b)) :=
  ⟨h.rows.set .sol rfl 5098 (.float .f64 b) (by simp [St.row, St.setSc, Row.one]) (fun r hr => by cases r <;> first | rfl | contradiction), h.hd.setDec b hb, rfl⟩

section
variable {F : List (List Nat)} {u0 nv jr lvl l c c0 x : Nat} {L : List Nat} {m M : MS} {N0 : Int} {s0 s s' : St} {w0 w w' : World} {m1 : MS} {N B B' : Int}
/-- one more conflict is counted -/
theorem SC.sK (h : SC F u0 nv jr lvl c N B s0 w0 s w) (n : Int) : SC F u0 nv jr lvl c N B s0 w0 (s.setK 5088 n) (w.setCell ⟨s0.sb, 5088, none⟩ (.int .i64 n)) := by
  obtain ⟨t, d⟩ := h.bs.rep.setK 5088 n (.inr (.inr rfl))
  rw [h.bs.sb] at t
  exact ⟨h.bs.step t d rfl, h.hc, ⟨h.qs.q, h.qs.qil, h.qs.qcl, ⟨h.qs.st.n, h.qs.st.p, h.qs.st.tn, h.qs.st.tp⟩⟩, h.lb, h.un⟩
theorem SC.sD (h : SC F u0 nv jr lvl c N B s0 w0 s w) (b : Nat) (hb : b ∈ decayL) : SC F u0 nv jr lvl c N B s0 w0 (s.setSc 5098 (.float .f64 b)) (w.setCell ⟨s0.sb, 5098, none⟩ (.float .f64 b)) := by
  have t := h.bs.rep.setDec b hb
  rw [h.bs.sb] at t
  exact h.qt t rfl rfl
theorem SC.sN (h : SC F u0 nv jr lvl c N B s0 w0 s w) (j : Nat) (n : Int) (hj : (5087 ≤ j ∧ j < 5094 ∧ j ≠ 5088) ∨ j = 5097) : SC F u0 nv jr lvl c N B s0 w0 (s.setSc j (i64 n)) (w.setCell ⟨s0.sb, j, none⟩ (.int .i64 n)) := by
  have t := h.bs.rep.setN j n hj
  rw [h.bs.sb] at t
  exact h.qt t rfl rfl
theorem SN.sN (h : SN F u0 nv jr lvl c0 c L x m N B s0 w0 M s w) (j : Nat) (n : Int) (hj : (5087 ≤ j ∧ j < 5094 ∧ j ≠ 5088) ∨ j = 5097) : SN F u0 nv jr lvl c0 c L x m N B s0 w0 M (s.setSc j (i64 n)) (w.setCell ⟨s0.sb, j, none⟩ (.int .i64 n)) := by
  have t := h.bs.rep.setN j n hj
  rw [h.bs.sb] at t
  exact h.qt t rfl rfl
def SCPost (F : List (List Nat)) (u0 nv jr lvl c : Nat) (N B Nc : Int) (s0 : St) (w0 : World) (m : MS) (e : Ending) (w' : World) : Prop :=
  e = .returned (.tuple #[]) ∧ ∃ s', SC F u0 nv jr lvl c N B s0 w0 s' w' ∧ s'.nconf = Nc ∧ s'.toMS = m
theorem conflH_c (h : SC F u0 nv jr lvl c N B s0 w0 s w) (x : Int) : Calls Tryz.prog 69 #[.pointer (some ⟨s0.sb, 26, none⟩), .int .i64 x] w (SCPost F u0 nv jr lvl c N B s.nconf s0 w0 s.toMS) := by
  have hA := addConflict_c h.bs.rep h.qs.st x
  rw [h.bs.sb] at hA
  refine hA.mono ?_
  rintro e w' ⟨rfl, s', t, hk, hl⟩
  exact ⟨rfl, s', h.lt t hk (by have := h.lb; omega), t.eqs.2.2.1, t.ms⟩
theorem lbdH_c (h : SC F u0 nv jr lvl c N B s0 w0 s w) (x : Int) : Calls Tryz.prog 74 #[.pointer (some ⟨s0.sb, 26, none⟩), .int .i64 x] w (SCPost F u0 nv jr lvl c N (B + 1) s.nconf s0 w0 s.toMS) := by
  have hA := addLbd_c h.bs.rep h.qs.st x
  rw [h.bs.sb] at hA
  refine hA.mono ?_
  rintro e w' ⟨rfl, s', t, hk, hl⟩
  exact ⟨rfl, s', h.lt t hk (by have := h.lb; omega), t.eqs.2.2.1, t.ms⟩
def SNPost (F : List (List Nat)) (u0 nv jr lvl c0 c : Nat) (L : List Nat) (x : Nat) (m : MS) (N B Nc : Int) (s0 : St) (w0 : World) (M : MS) (e : Ending) (w' : World) : Prop :=
  e = .returned (.tuple #[]) ∧ ∃ s', SN F u0 nv jr lvl c0 c L x m N B s0 w0 M s' w' ∧ s'.nconf = Nc
theorem lbdN_c (h : SN F u0 nv jr lvl c0 c L x m N B s0 w0 M s w) (y : Int) : Calls Tryz.prog 74 #[.pointer (some ⟨s0.sb, 26, none⟩), .int .i64 y] w (SNPost F u0 nv jr lvl c0 c L x m N (B + 1) s.nconf s0 w0 M) := by
  have hA := addLbd_c h.bs.rep h.qs.st y
  rw [h.bs.sb] at hA
  refine hA.mono ?_
  rintro e w' ⟨rfl, s', t, hk, hl⟩
  exact ⟨rfl, s', h.lt t hk (by have := h.lb; omega), t.eqs.2.2.1⟩
/-- what is learned -/
def LHPost (F : List (List Nat)) (u0 nv jr lvl c : Nat) (N B Nc : Int) (s0 : St) (w0 : World) (m : MS) (e : Ending) (w' : World) : Prop :=
  (∃ (l : Nat) (s' : St), e = .returned (.tuple #[.pointer none, .int .i32 (l : Int)]) ∧ Lrn m lvl u0 [l] ∧ SC F u0 nv jr lvl c N B s0 w0 s' w' ∧ s'.nconf = Nc ∧ s'.toMS = m) ∨
  (∃ (c1 : Nat) (L : List Nat) (x : Nat) (s' : St), e = .returned (.tuple #[.pointer (some ⟨c1, 0, none⟩), .int .i32 (-1)]) ∧ SN F u0 nv jr lvl c c1 L x m N B s0 w0 (m.addC c1 L x) s' w' ∧ s'.nconf = Nc)
theorem learnS_c (h : SC F u0 nv jr lvl c N B s0 w0 s w) : Calls Tryz.prog 70 #[.pointer (some ⟨s0.sb, 0, none⟩), .pointer (some ⟨c, 0, none⟩), .int .i64 (lvl : Int)] w (LHPost F u0 nv jr lvl c N B s.nconf s0 w0 s.toMS) := by
  refine (learnH_c h).mono ?_
  rintro e w' (⟨l, s', rfl, hL, t⟩ | ⟨c1, L, x, s', rfl, hL, h2, h12, hcn, hx1, hx2, t⟩)
  · exact .inl ⟨l, s', rfl, hL, h.at_ t, congrArg (fun p => p.2.2.2.1) t.bt.kn, t.ms⟩
  · exact .inr ⟨c1, L, x, s', rfl, h.learnt hL h2 h12 hcn hx1 hx2 t, congrArg (fun p => p.2.2.2.1) t.bt.kn⟩
/-- a literal's value is stored ahead of its binding -/
theorem SL.rt (h : SL F u0 nv jr lvl l m1 N0 s0 w0 s w) (t : RT s w (s.setVal (l / 2) (sgn l (lvl : Int))) w') : SL F u0 nv jr lvl l m1 N0 s0 w0 (s.setVal (l / 2) (sgn l (lvl : Int))) w' :=
  ⟨h.bs.step t.tr t.hd rfl, h.hl.setv, ⟨h.qs.q, h.qs.qil, h.qs.qcl, ⟨h.qs.st.n, h.qs.st.p, h.qs.st.tn, h.qs.st.tp⟩⟩, h.lb, h.un⟩
theorem SL.addLU_c (h : SL F u0 nv jr 1 l m1 N0 s0 w0 s w) :
    Calls Tryz.prog 75 #[.pointer (some ⟨s0.sb, 0, none⟩), .int .i32 (l : Int)] w fun e w' => e = .returned (.tuple #[]) ∧ SL F u0 nv jr 1 l m1 N0 s0 w0 (s.setVal (l / 2) (sgn l 1)) w' := by
  have hnv := h.hl.nvs
  have hnv' : s.nv = nv := hnv
  have h8 := h.hl.gp.n8
  have hA := Go.Proofs.YtiimddkopiknpaaGreatDoor.addLU_c h.bs.rep (l := l) (by rw [hnv']; exact h.hl.ll) (by omega)
  rw [h.bs.sb] at hA
  refine hA.mono ?_
  rintro e w' ⟨rfl, t⟩
  exact ⟨rfl, h.rt t⟩
/-- the solver has been told that nothing satisfies -/
def UNS (F : List (List Nat)) (s0 : St) (w0 w : World) : Prop := (∃ s, Bs s0 w0 s w ∧ s.status = 2) ∧ ∀ σ : Nat → Bool, ¬ ∀ C ∈ F, ∃ x ∈ C, tru σ x = true
theorem SC.unsat_c (h : SC F u0 nv jr 1 c N B s0 w0 s w) :
    Calls Tryz.prog 73 #[.pointer (some ⟨s0.sb, 0, none⟩)] w fun e w' => e = .returned (.int .u8 2) ∧ UNS F s0 w0 w' := by
  have hA := setUnsat_c h.bs.rep
  rw [h.bs.sb] at hA
  refine hA.mono ?_
  rintro e w' ⟨rfl, t, d⟩
  exact ⟨rfl, ⟨_, h.bs.step t d rfl, rfl⟩, fun σ => h.hc.unsat σ⟩
/-- the queue is made anew -/
def RQPost (F : List (List Nat)) (u0 nv jr lvl : Nat) (N0 : Int) (s0 : St) (w0 : World) (s : St) (e : Ending) (w' : World) : Prop :=
  e = .returned (.tuple #[]) ∧ ∃ s', SG F u0 nv jr lvl N0 s0 w0 s' w' ∧ s'.nconf = s.nconf ∧ s'.trail = s.trail ∧ s'.lbdN = s.lbdN ∧ s'.status = s.status
theorem requeue_c (b : Bs s0 w0 s w) (g : HG F u0 nv jr lvl s.toMS s.nconf s.nbMax s.idx) (q : Qs nv s (16 * (s.nconf + 1) + 16)) (lb : s.lbdN ≤ s.nconf - N0) :
    Calls Tryz.prog 36 #[.pointer (some ⟨s0.sb, 0, none⟩)] w (RQPost F u0 nv jr lvl N0 s0 w0 s) := by
  have hnv : s.nv = nv := g.nvs
  have h8 := g.gp.n8
  have h1 := g.gp.n1
  have hN : s.nconf ≤ 4000000 - 10 := g.gp.N_le g.gs.core
  have hn0 := g.gp.n0
  have hq := q.qcl
  have hC := rebuild_c b.rep (by rw [hnv]; exact q.q) (by rw [hnv]; exact q.qil) (by omega) (by omega) (by omega)
  rw [b.sb] at hC
  refine hC.mono ?_
  rintro e w' ⟨rfl, s', t, k1, k2, k3, k4⟩
  have ek := t.kn
  have em := t.ms
  have e1 : s'.nconf = s.nconf := congrArg (fun p => p.2.2.2.1) ek
  have e2 : s'.nbMax = s.nbMax := congrArg (fun p => p.2.1) ek
  have e3 : s'.idx = s.idx := congrArg (fun p => p.2.2.1) ek
  have e4 : s'.lbdN = s.lbdN := congrArg (fun p => p.2.2.2.2.1) ek
  rw [hnv] at k1 k2 k3
  refine ⟨rfl, s', ⟨b.step t.tr t.hd t.sb, by rw [em, e1, e2, e3]; exact g, ⟨k2, k1, by rw [e1]; omega, q.st.kn ek⟩, by rw [e1, e4]; exact lb, fun v hv hz => k4 v (by omega) (by rw [em] at hz; exact hz)⟩, e1, congrArg MS.trail em, e4, congrArg (fun p => p.1) ek⟩
theorem SG.requeue_c (h : SG F u0 nv jr lvl N0 s0 w0 s w) : Calls Tryz.prog 36 #[.pointer (some ⟨s0.sb, 0, none⟩)] w (RQPost F u0 nv jr lvl N0 s0 w0 s) :=
  Go.Proofs.YtiimddkopiknpaaGreatDoor.requeue_c h.bs h.hg ⟨h.qs.q, h.qs.qil, by have := h.qs.qcl; omega, h.qs.st⟩ h.lb
end
end Go.Proofs.YtiimddkopiknpaaGreatDoor
