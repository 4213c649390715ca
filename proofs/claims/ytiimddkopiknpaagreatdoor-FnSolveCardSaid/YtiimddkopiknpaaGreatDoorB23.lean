/-
  The search from its first state to its answer.
-/
import Derived.Test.YtiimddkopiknpaaGreatDoorB21
import Derived.Test.YtiimddkopiknpaaGreatDoorB13
import Derived.Test.YtiimddkopiknpaaGreatDoorB22
import Derived.Test.YtiimddkopiknpaaGreatDoorB07
set_option linter.unusedVariables false
set_option linter.unusedSimpArgs false

/-
  The search's first state, and what its last one says.
-/
namespace Go.Proofs.YtiimddkopiknpaaGreatDoor
open Go.RowKit

/-- the values that the solver has bound -/
def sigM (m : MS) (v : Nat) : Bool := decide (0 < m.va v)
theorem lst_sig {m : MS} {x : Nat} (h : m.lst x = 1) : tru (sigM m) x = true := by
  unfold MS.lst at h
  split at h
  · cases h
  · rename_i h0
    split at h
    · rename_i h1
      unfold tru sigM
      by_cases hp : x % 2 = 0
      · rw [if_pos hp]
        have : 0 < m.va (x / 2) := by rw [h1]; exact hp
        simpa using this
      · rw [if_neg hp]
        have : ¬ 0 < m.va (x / 2) := by rw [h1]; exact hp
        simpa using this
    · cases h
section
variable {F : List (List Nat)} {p : PSt} {s s0 : St} {w0 w : World}
theorem NewOk.hg (h : NewOk p w0 s w) (hP : PFin F p) (h1 : 1 ≤ p.nv) (h8 : p.nv ≤ 8) (hF : F.length ≤ 1000) : HG F p.us.length p.nv 0 1 s.toMS 0 2000 1 := by
  have hva : ∀ v, s.toMS.va v = p.va v := fun v => by show s.val.getD v 0 = p.val.getD v 0; rw [h.val]
  have hra : ∀ v, s.toMS.ra v = none := h.rsn
  have hsf := hP.usf
  have htr : s.toMS.trail = p.us := h.trail
  have hids : s.toMS.ids = p.cs := h.ids
  have hlits : s.toMS.lits = p.lits := h.lits
  have hlrn : s.toMS.lrn = [] := h.lrn
  have hsg : ∀ i, i < p.us.length → s.toMS.va (nth p.us i / 2) = sgn (nth p.us i) 1 := fun i hi => by rw [hva]; exact (hP.us _ (nth_mem _ i hi)).2
  have hlev : ∀ i, i < p.us.length → s.toMS.lev (nth s.toMS.trail i / 2) = 1 := by
    intro i hi
    rw [htr]
    unfold MS.lev
    rw [hsg i hi]
    unfold sgn; split <;> rfl
  have hne1 : ∀ u : Nat, sgn u 1 ≠ 0 := fun u => by unfold sgn; split <;> omega
  refine ⟨Nat.le_refl 1, ⟨h.core, h.wtd, h.pc⟩, ⟨h.nv, h1, h8, by omega, by rw [htr]; exact Nat.le_refl _, ?_, ⟨?_, ?_⟩, ?_, ?_, ?_, ?_, Int.le_refl _, by omega, by omega, by omega, by rw [hids]; omega, fun e => by omega, ?_⟩, fun k k1 k2 => by omega⟩
  · intro i hi c hc y hy e
    rw [hids] at hc
    rw [hlits] at hy
    rw [htr] at e
    have h2 := hsg i hi
    rw [hva, e, hP.cl c hc y hy] at h2
    exact hne1 _ h2.symm
  · intro σ hσ d hd
    have hd : d ∈ s.toMS.ids := hd
    rw [hids] at hd
    rw [hlits]
    exact Clo.tru.1 (((hP.eqv _ (Con.tru σ)).1 fun C hC => Clo.tru.2 (hσ C hC)).2 _ (List.mem_map.2 ⟨d, hd, rfl⟩))
  · intro σ hσ j hj _ _
    rw [htr] at hj ⊢
    exact ((hP.eqv _ (Con.tru σ)).1 fun C hC => Clo.tru.2 (hσ C hC)).1 _ (nth_mem _ j hj)
  · intro c hc; rw [hlrn] at hc; cases hc
  · rw [hlrn]; exact List.nodup_nil
  · intro v c hc; rw [hra] at hc; cases hc
  · exact ⟨p.us.length, Nat.le_refl _, by rw [htr]; exact Nat.le_refl _, hlev, by rw [hlrn]; simp⟩
  · intro σ g1 g2 C hC
    refine Clo.tru.1 ((hP.eqv _ (Con.tru σ)).2 ⟨fun u hu => ?_, fun D hD => ?_⟩ C hC)
    · obtain ⟨i, hi, e⟩ := mem_nth _ u hu
      have := g2 i hi
      rw [htr, e] at this
      exact this
    · obtain ⟨d, hd, rfl⟩ := List.mem_map.1 hD
      have := g1 d (by rw [hids]; exact hd) (by rw [hlrn]; simp)
      rw [hlits] at this
      exact Clo.tru.2 this
theorem NewOk.sg (h : NewOk p w0 s w) (hP : PFin F p) (h1 : 1 ≤ p.nv) (h8 : p.nv ≤ 8) (hF : F.length ≤ 1000) : SG F p.us.length p.nv 0 1 0 s w s w := by
  have k := h.kp
  unfold St.keep at k
  simp only [Prod.mk.injEq] at k
  obtain ⟨_, _, _, k4, k5, k6, k7, k8, k9, k10, k11, k12⟩ := k
  have hq := h.qcl
  have hnv := h.nv
  refine ⟨⟨Tr.refl h.tr.rows, h.hd, rfl⟩, by rw [k5, k6, k7]; exact h.hg hP h1 h8 hF, ⟨by rw [← hnv]; exact h.q, by rw [← hnv]; exact h.qil, by rw [k7]; omega, ⟨by rw [k8]; omega, by rw [k9]; omega, by rw [k10]; omega, by rw [k11]; omega⟩⟩, by rw [k7, k8]; omega, fun v hv _ => h.mem.mem_iff.2 (List.mem_range.2 (by omega))⟩
/-- all is bound: the values satisfy -/
theorem SG.model {u0 nv jr lvl : Nat} {N0 : Int} (h : SG F u0 nv jr lvl N0 s0 w0 s w) (hall : ∀ v, v < nv → s.toMS.va v ≠ 0) : ∀ C ∈ F, ∃ x ∈ C, tru (sigM s.toMS) x = true := by
  have hm := h.hg.gs.model (fun v hv => hall v (by rw [← h.hg.gp.nvE]; exact hv))
  refine h.hg.gp.mod (sigM s.toMS) (fun d hd _ => ?_) (fun i hi => ?_)
  · obtain ⟨y, hy, h1⟩ := hm d hd
    exact ⟨y, hy, lst_sig h1⟩
  · exact lst_sig (h.hg.gs.core.tl.tr1 i (by have := h.hg.gp.u0t; omega))
end
end Go.Proofs.YtiimddkopiknpaaGreatDoor

/-
  search.
-/
namespace Go.Proofs.YtiimddkopiknpaaGreatDoor
open Go.RowKit

section
variable {F : List (List Nat)} {u0 nv jr lvl l : Nat} {N0 : Int} {s0 s s' : St} {w0 w w' : World} {m1 : MS} {M : Nat}
theorem SG.qt (h : SG F u0 nv jr lvl N0 s0 w0 s w) (t : QT s w s' w') (e4 : s'.qc = s.qc) (e5 : s'.qi = s.qi) : SG F u0 nv jr lvl N0 s0 w0 s' w' := by
  have ek := t.kn
  have em := t.ms
  have e1 : s'.nconf = s.nconf := congrArg (fun p => p.2.2.2.1) ek
  have e2 : s'.nbMax = s.nbMax := congrArg (fun p => p.2.1) ek
  have e3 : s'.idx = s.idx := congrArg (fun p => p.2.2.1) ek
  have e6 : s'.lbdN = s.lbdN := congrArg (fun p => p.2.2.2.2.1) ek
  exact ⟨h.bs.step t.tr t.hd t.sb, by rw [em, e1, e2, e3]; exact h.hg, ⟨by rw [e4, e5]; exact h.qs.q, by rw [e5]; exact h.qs.qil, by rw [e1, e4]; exact h.qs.qcl, h.qs.st.kn ek⟩, by rw [e1, e6]; exact h.lb, fun v hv hz => by rw [e4]; rw [em] at hz; exact h.un v hv hz⟩
theorem SG.sN (h : SG F u0 nv jr lvl N0 s0 w0 s w) (j : Nat) (n : Int) (hj : (5087 ≤ j ∧ j < 5094 ∧ j ≠ 5088) ∨ j = 5097) : SG F u0 nv jr lvl N0 s0 w0 (s.setSc j (i64 n)) (w.setCell ⟨s0.sb, j, none⟩ (.int .i64 n)) := by
  have t := h.bs.rep.setN j n hj
  rw [h.bs.sb] at t
  exact h.qt t rfl rfl
theorem SG.sS (h : SG F u0 nv jr lvl N0 s0 w0 s w) (k : Nat) : SG F u0 nv jr lvl N0 s0 w0 (s.setStatus k) (w.setCell ⟨s0.sb, 5, none⟩ (.int .u8 (k : Int))) := by
  obtain ⟨t, d⟩ := h.bs.rep.setStatus k
  rw [h.bs.sb] at t
  exact ⟨h.bs.step t d rfl, h.hg, ⟨h.qs.q, h.qs.qil, h.qs.qcl, ⟨h.qs.st.n, h.qs.st.p, h.qs.st.tn, h.qs.st.tp⟩⟩, h.lb, h.un⟩
theorem SR.sN (h : SR F u0 nv jr N0 s0 w0 s w) (j : Nat) (n : Int) (hj : (5087 ≤ j ∧ j < 5094 ∧ j ≠ 5088) ∨ j = 5097) : SR F u0 nv jr N0 s0 w0 (s.setSc j (i64 n)) (w.setCell ⟨s0.sb, j, none⟩ (.int .i64 n)) := by
  have t := h.bs.rep.setN j n hj
  rw [h.bs.sb] at t
  exact ⟨h.bs.step t.tr t.hd rfl, h.hg, ⟨h.qs.q, h.qs.qil, h.qs.qcl, ⟨h.qs.st.n, h.qs.st.p, h.qs.st.tn, h.qs.st.tp⟩⟩, h.un⟩
theorem SR.sS (h : SR F u0 nv jr N0 s0 w0 s w) (k : Nat) : SR F u0 nv jr N0 s0 w0 (s.setStatus k) (w.setCell ⟨s0.sb, 5, none⟩ (.int .u8 (k : Int))) := by
  obtain ⟨t, d⟩ := h.bs.rep.setStatus k
  rw [h.bs.sb] at t
  exact ⟨h.bs.step t d rfl, h.hg, ⟨h.qs.q, h.qs.qil, h.qs.qcl, ⟨h.qs.st.n, h.qs.st.p, h.qs.st.tn, h.qs.st.tp⟩⟩, h.un⟩
theorem SR.requeue_c (h : SR F u0 nv jr N0 s0 w0 s w) (hl : s.lbdN = 0) : Calls Tryz.prog 36 #[.pointer (some ⟨s0.sb, 0, none⟩)] w (RQPost F u0 nv jr 1 s.nconf s0 w0 s) :=
  Go.Proofs.YtiimddkopiknpaaGreatDoor.requeue_c h.bs h.hg h.qs (by omega)
/-- what search leaves, with the answer k -/
def SRes (F : List (List Nat)) (u0 nv : Nat) (N0 : Int) (s0 : St) (w0 : World) (k : Nat) (w : World) : Prop :=
  (k = 1 ∧ ∃ jr lvl s, SG F u0 nv jr lvl N0 s0 w0 s w ∧ (∀ v, v < nv → s.toMS.va v ≠ 0) ∧ s.status = 1) ∨
  (k = 2 ∧ UNS F s0 w0 w) ∨
  (k = 0 ∧ ∃ jr s, SR F u0 nv jr N0 s0 w0 s w ∧ s.lbdN = 0 ∧ N0 + 50 ≤ s.nconf ∧ s.status = 0)
theorem SRes.c5 {k : Nat} (h : SRes F u0 nv N0 s0 w0 k w) : w.cell? ⟨s0.sb, 5, none⟩ = some (.int .u8 (k : Int)) := by
  have hc : ∀ s, Bs s0 w0 s w → s.status = k → w.cell? ⟨s0.sb, 5, none⟩ = some (.int .u8 (k : Int)) := by
    intro s b e
    have c5 := b.rep.sc b.hd.f5
    rw [b.sb, e] at c5
    exact c5
  rcases h with ⟨rfl, jr, lvl, s, h1, _, h2⟩ | ⟨rfl, ⟨s, h1, h2⟩, _⟩ | ⟨rfl, jr, s, h1, _, _, h2⟩
  · exact hc s h1.bs h2
  · exact hc s h1 h2
  · exact hc s h1.bs h2
theorem PSPost.st {e : Ending} (h : PSPost F u0 nv N0 s0 w0 e w) : ∃ k : Nat, e = .returned (.int .u8 (k : Int)) ∧ (∃ v, w.cell? ⟨s0.sb, 5, none⟩ = some v) ∧ w.frozen? ⟨s0.sb, 5, none⟩ = false ∧ SRes F u0 nv N0 s0 w0 k (w.setCell ⟨s0.sb, 5, none⟩ (.int .u8 (k : Int))) := by
  have hc : ∀ s, Bs s0 w0 s w → (∃ v, w.cell? ⟨s0.sb, 5, none⟩ = some v) ∧ w.frozen? ⟨s0.sb, 5, none⟩ = false := by
    intro s b
    have c5 := b.rep.sc b.hd.f5
    have f5 := b.rep.scf 5
    rw [b.sb] at c5 f5
    exact ⟨⟨_, c5⟩, f5⟩
  rcases h with ⟨rfl, jr, lvl, s, h1, h2⟩ | ⟨rfl, ⟨s, h1, h2⟩, h3⟩ | ⟨rfl, jr, s, h1, h2, h3⟩
  · exact ⟨1, rfl, (hc s h1.bs).1, (hc s h1.bs).2, .inl ⟨rfl, jr, lvl, _, h1.sS 1, h2, rfl⟩⟩
  · obtain ⟨t, d⟩ := h1.rep.setStatus 2
    rw [h1.sb] at t
    exact ⟨2, rfl, (hc s h1).1, (hc s h1).2, .inr (.inl ⟨rfl, ⟨_, h1.step t d rfl, rfl⟩, h3⟩)⟩
  · exact ⟨0, rfl, (hc s h1.bs).1, (hc s h1.bs).2, .inr (.inr ⟨rfl, jr, _, h1.sS 0, h2, h3, rfl⟩)⟩
theorem PRel.bs {v1 v2 : Value} (h : PRel F u0 nv N0 s0 w0 M v1 v2 w) : ∃ s, Bs s0 w0 s w := by
  rcases h with ⟨jr, lvl, s, _, h, _⟩ | ⟨jr, lvl, l, m1, s, _, _, h, _⟩
  · exact ⟨s, h.bs⟩
  · exact ⟨s, h.bs⟩
theorem chooseP_c (h : SG F u0 nv jr 1 N0 s0 w0 s w) : Calls Tryz.prog 45 #[.pointer (some ⟨s0.sb, 0, none⟩)] w fun e w' => ∃ v, e = .returned v ∧ PRel F u0 nv N0 s0 w0 8000001101 v (.int .i64 2) w' ∧ w'.cell? ⟨s0.sb, 3, none⟩ = some (.bool false) := by
  have hc : ∀ s w, Bs s0 w0 s w → w.cell? ⟨s0.sb, 3, none⟩ = some (.bool false) := by
    intro s w b
    have c5 := b.rep.sc b.hd.f3
    rw [b.sb] at c5
    exact c5
  refine (chooseH_c h).mono ?_
  rintro e w' (⟨rfl, s', h1, h2⟩ | ⟨l, m1, s', rfl, h1, h2, h3⟩)
  · exact ⟨_, rfl, .inl ⟨_, _, _, rfl, h1, h2⟩, hc _ _ h1.bs⟩
  · refine ⟨_, rfl, .inr ⟨_, _, _, _, _, rfl, rfl, h1, ?_⟩, hc _ _ h1.bs⟩
    have hn := h1.hl.gp.n0
    unfold pm
    omega
set_option maxRecDepth 100000 in
set_option maxHeartbeats 4000000 in
theorem search_c (h : SG F u0 nv jr 1 N0 s0 w0 s w) :
    Calls Tryz.prog 35 #[.pointer (some ⟨s0.sb, 0, none⟩)] w fun e w' => ∃ k : Nat, e = .returned (.int .u8 (k : Int)) ∧ SRes F u0 nv N0 s0 w0 k w' := by
  obtain ⟨n9, hn9⟩ := h.bs.hd.f5097
  have c97 := h.bs.rep.sc hn9
  have f97 := h.bs.rep.scf 5097
  rw [h.bs.sb] at c97 f97
  simp only [i64] at c97
  have h2 := h.sN 5097 (wrap64 (n9 + 1)) (.inr rfl)
  have hch := Lib.hid (chooseP_c h2)
  clear h2 hn9
  replace h := Lib.hid h
  go_enter Tryz.func35, Tryz.ntmps35
  go_upto_region 3 with fail
  go_wp2_with (first
    | (go_at_call 45; refine hch.out.mono ?_; rintro e w2 ⟨v, rfl, hP, h3⟩; have hps := Lib.hid (ps_c hP h3); clear h3; replace hP := Lib.hid hP)
    | (go_at_call 44; refine hps.out.mono ?_; rintro e w3 hw3; obtain ⟨k, rfl, ⟨v5, c5⟩, f5, hres⟩ := hw3.st; replace hres := Lib.hid hres; clear hw3))
  go_ret
  exact ⟨k, rfl, hres.out⟩
end
end Go.Proofs.YtiimddkopiknpaaGreatDoor

/-
  Solve.
-/
namespace Go.Proofs.YtiimddkopiknpaaGreatDoor
open Go.RowKit

theorem Hd.set16 {s : St} (h : Hd s) (v : Value) : Hd (s.setSc 16 v) := by
  have ho : ∀ k, 16 ≠ k → (s.sc.set 16 v)[k]? = s.sc[k]? := fun k hk => set_ne_get _ _ _ _ hk
  obtain ⟨h1, h3, h4, h5, h6, h7, h8, h9, h10, h11, h12, h13, h14, h15, h17, h18, h19, h20, h21, h22, h23, h24, h25, h26, h27, h28, h29, h30, h31, h32, h33, h34, h35, h36, h5087, h5088, h5094, h5097, h5098, h5099, ha, hb', hc⟩ := h
  constructor <;> simp only [St.setSc]
  case f21 => intro hh; rw [ho _ (by omega)]; exact h21 hh
  case f36 => intro j' a b; rw [ho _ (by omega)]; exact h36 j' a b
  case f5087 => intro j' a b c; rw [ho _ (by omega)]; exact h5087 j' a b c
  case fact => exact ha
  case facc => exact hb'
  case ftb => exact hc
  all_goals
    (first
      | (rw [ho _ (by omega)]; assumption)
      | (simp only [ho 24 (by omega), ho 25 (by omega), ho 26 (by omega), ho 27 (by omega), ho 30 (by omega), ho 31 (by omega), ho 32 (by omega), ho 35 (by omega), ho 5097 (by omega), ho 5098 (by omega)]; assumption))
theorem Hd.c16 {s : St} (h : Hd s) : ∃ v, s.sc[16]? = some v := by
  have := (List.getElem?_eq_some_iff.1 h.f5099).1
  exact ⟨_, List.getElem?_eq_getElem (by omega)⟩
/-- the solver has found values: they lie in a block of their own -/
def Found (F : List (List Nat)) (nv sb : Nat) (w : World) : Prop :=
  ∃ (mb : Nat) (vs : List Int), vs.length = nv ∧ w.cell? ⟨sb, 16, none⟩ = some (.slice (some ⟨mb, 0, none⟩) nv nv) ∧ w.cell? ⟨sb, 4, none⟩ = some (.int .i64 (nv : Int)) ∧ (∀ i, i < nv → w.cell? ⟨mb, i, none⟩ = some (.int .i64 (vs.getD i 0))) ∧
    ∀ C ∈ F, ∃ x ∈ C, tru (fun v => decide (0 < vs.getD v 0)) x = true
def SolPost (F : List (List Nat)) (nv : Nat) (s0 : St) (w0 : World) (e : Ending) (w : World) : Prop :=
  Fr (Own s0.row) w0 w ∧ ((e = .returned (.int .u8 2) ∧ ∀ σ : Nat → Bool, ¬ ∀ C ∈ F, ∃ x ∈ C, tru σ x = true) ∨ (e = .returned (.int .u8 1) ∧ Found F nv s0.sb w))

def mdR (g n : Nat) (xs : List Value) : Unit → Row := fun _ => ⟨84, 1, .slice (some ⟨g, 0, none⟩) n n, n, xs⟩
/-- the values are copied -/
theorem found_rows {F : List (List Nat)} {s0 s : St} {w0 w : World} (b : Bs s0 w0 s w) (hs : ∀ C ∈ F, ∃ x ∈ C, tru (sigM s.toMS) x = true) (hn0 : 0 < s.nv) (hnv : s.nv ≤ 1000000) :
    let wa := (w.alloc (.cells (Array.replicate s.nv (.int .i64 0)) 84)).setCell ⟨s0.sb, 16, none⟩ (.slice (some ⟨w.heap.size, 0, none⟩) s.nv s.nv)
    (∃ v, (w.alloc (.cells (Array.replicate s.nv (.int .i64 0)) 84)).cell? ⟨s0.sb, 16, none⟩ = some v) ∧ (w.alloc (.cells (Array.replicate s.nv (.int .i64 0)) 84)).frozen? ⟨s0.sb, 16, none⟩ = false ∧
    wa.cell? ⟨s0.sb, 16, none⟩ = some (.slice (some ⟨w.heap.size, 0, none⟩) s.nv s.nv) ∧ wa.cell? ⟨s0.sb, 15, none⟩ = some (.slice (some ⟨s.modelB, 0, none⟩) s.nv s.nv) ∧
    ∀ q, ∃ w2, (Builtin.copy_ #[62, 62] 3 #[.slice (some ⟨w.heap.size, 0, none⟩) s.nv s.nv, .slice (some ⟨s.modelB, 0, none⟩) s.nv s.nv]).run Tryz.prog (wa.drewN q) = .ok (goInt s.nv) w2 ∧
      w2.cell? ⟨s0.sb, 5, none⟩ = some (.int .u8 (s.status : Int)) ∧ Fr (Own s0.row) w0 w2 ∧ Found F s.nv s0.sb w2 := by
  intro wa
  have hA := b.rep.rows.besideNew (.cells (Array.replicate s.nv (.int .i64 0)) 84) ⟨84, 1, .slice (some ⟨w.heap.size, 0, none⟩) s.nv s.nv, s.nv, List.replicate s.nv (.int .i64 0)⟩ rfl (own_rep w 84 s.nv (.int .i64 0) (by unfold maxLen; omega))
  have hS := hA.rows.set (ρ' := Sum.elim (s.setSc 16 (.slice (some ⟨w.heap.size, 0, none⟩) s.nv s.nv)).row (mdR w.heap.size s.nv (List.replicate s.nv (.int .i64 0)))) (.inl .sol) rfl 16 (.slice (some ⟨w.heap.size, 0, none⟩) s.nv s.nv) (by simp [Sum.elim, St.row, St.setSc, Row.one]) (fun r hr => by
    rcases r with r | r
    · cases r <;> first | rfl | contradiction
    · rfl)
  obtain ⟨v16, h16⟩ := b.hd.c16
  have hRl : Rep s (w.alloc (.cells (Array.replicate s.nv (.int .i64 0)) 84)) := ⟨hA.rows.left, b.hd⟩
  have hd2 := b.hd.set16 (.slice (some ⟨w.heap.size, 0, none⟩) s.nv s.nv)
  have hsb := b.sb
  have t0 := b.tr.trans (hA.trans hS)
  have hwa : (w.alloc (.cells (Array.replicate s.nv (.int .i64 0)) 84)).setCell ⟨s.sb, 16, none⟩ (.slice (some ⟨w.heap.size, 0, none⟩) s.nv s.nv) = wa := by show _ = World.setCell _ ⟨s0.sb, 16, none⟩ _; rw [hsb]
  rw [hwa] at hS t0
  have hR2 : Rep (s.setSc 16 (.slice (some ⟨w.heap.size, 0, none⟩) s.nv s.nv)) wa := ⟨hS.rows.left, hd2⟩
  have c16 := hRl.sc h16
  have f16 := hRl.scf 16
  have d16 := hR2.sc (j := 16) (set_eq_get _ _ _ _ h16)
  have d15 := hR2.sc hd2.f15
  rw [hsb] at c16 f16
  have hsb2 : (s.setSc 16 (.slice (some ⟨w.heap.size, 0, none⟩) s.nv s.nv)).sb = s0.sb := hsb
  rw [hsb2] at d16 d15
  refine ⟨⟨_, c16⟩, f16, d16, d15, fun q => ?_⟩
  have tq := hS.drewN q
  have hvl : s.val.length = s.nv := b.rep.val_len
  obtain ⟨w2, hrun, ht⟩ := run_copy_rows (P := Tryz.prog) (ρ := Sum.elim (s.setSc 16 (.slice (some ⟨w.heap.size, 0, none⟩) s.nv s.nv)).row (mdR w.heap.size s.nv (List.replicate s.nv (.int .i64 0)))) (ρ' := Sum.elim (s.setSc 16 (.slice (some ⟨w.heap.size, 0, none⟩) s.nv s.nv)).row (mdR w.heap.size s.nv (s.val.map i64)))
    62 62 3 84 1 Tryz.underlying62 (by kernel_rfl) tq.rows (.inr ()) (b := w.heap.size) rfl 0 s.nv s.nv s.nv s.nv s.nv ⟨s.modelB, 0, none⟩ (s.val.map i64) (Nat.min_self _).symm (by rw [List.length_map, hvl, Nat.mul_one])
    (fun j v hj => by
      rw [Addr.add_lit, Nat.zero_add]
      exact tq.rows.cell (.inl .model) (b := s.modelB) rfl hj)
    (by show 0 + (s.val.map i64).length ≤ (List.replicate s.nv (Value.int .i64 0)).length
        rw [List.length_map, List.length_replicate, hvl]; omega)
    (by intro v hv
        obtain ⟨y, _, rfl⟩ := List.mem_map.1 hv
        rfl)
    (by show (⟨_, _, _, _, _⟩ : Row) = ⟨_, _, _, _, _⟩
        simp [mdR, hvl])
    (by intro r hr
        cases r with
        | inl r => rfl
        | inr r => exact (hr rfl).elim)
  have tF := t0.trans ((Tr.drewN (Tr.refl hS.rows) q).trans ht)
  have hR3 : Rep (s.setSc 16 (.slice (some ⟨w.heap.size, 0, none⟩) s.nv s.nv)) w2 := ⟨ht.rows.left, hd2⟩
  have g5 := hR3.sc hd2.f5
  have g4 := hR3.sc hd2.f4
  have g16 := hR3.sc (j := 16) (set_eq_get _ _ _ _ h16)
  rw [hsb2] at g5 g4 g16
  refine ⟨w2, hrun, g5, tF.fr, w.heap.size, s.val, hvl, g16, g4, fun i hi => ?_, hs⟩
  refine ht.rows.cell (.inr ()) (b := w.heap.size) rfl ?_
  show (s.val.map i64)[i]? = _
  rw [List.getElem?_map, List.getElem?_eq_getElem (by omega), List.getD_eq_getElem?_getD, List.getElem?_eq_getElem (by omega)]
  rfl

/-- where the loop of Solve stands -/
def SoRel (F : List (List Nat)) (u0 nv : Nat) (s0 : St) (w0 : World) (g : Nat) (w : World) : Prop :=
  (∃ (jr : Nat) (N0 : Int) (s : St), SG F u0 nv jr 1 N0 s0 w0 s w ∧ s.status = 0 ∧ s.nconf ≤ N0 ∧ (4000000 - s.nconf).toNat + 1 ≤ g) ∨
  (∃ (jr lvl : Nat) (N0 : Int) (s : St), SG F u0 nv jr lvl N0 s0 w0 s w ∧ (∀ v, v < nv → s.toMS.va v ≠ 0) ∧ s.status = 1) ∨
  UNS F s0 w0 w
set_option maxRecDepth 100000 in
set_option maxHeartbeats 8000000 in
theorem solve_c {F : List (List Nat)} {u0 nv : Nat} {s0 : St} {w0 : World} (h : SG F u0 nv 0 1 0 s0 w0 s0 w0) (hst : s0.status < 2) (hnc : s0.nconf = 0) :
    Calls Tryz.prog 21 #[.pointer (some ⟨s0.sb, 0, none⟩)] w0 (SolPost F nv s0 w0) := by
  have c5 := h.bs.rep.sc h.bs.hd.f5
  have f5 := h.bs.rep.scf 5
  have h1 := h.sS 0
  obtain ⟨n9, hn9⟩ := h.bs.hd.f5097
  have c97 := h.bs.rep.sc hn9
  have f97 := h.bs.rep.scf 5097
  simp only [i64] at c97
  have h2 := h1.sN 5097 0 (.inr rfl)
  have h2st : ((s0.setStatus 0).setSc 5097 (i64 0)).status = 0 := rfl
  have h2nc : ((s0.setStatus 0).setSc 5097 (i64 0)).nconf = s0.nconf := rfl
  have hn0 := h.hg.gp.n0
  have hstI : ((s0.status : Int) == 2) = false := by simp; omega
  generalize (s0.setStatus 0).setSc 5097 (i64 0) = s2 at h2 h2st h2nc
  have hstart : SoRel F u0 nv s0 w0 4000001 ((w0.setCell ⟨s0.sb, 5, none⟩ (.int .u8 0)).setCell ⟨s0.sb, 5097, none⟩ (.int .i64 0)) := .inl ⟨0, 0, s2, h2, h2st, by omega, by omega⟩
  replace hstart := Lib.hid hstart
  have hn8 := h.hg.gp.n8
  have hn1 := h.hg.gp.n1
  replace h := Lib.hid h
  replace hst := Lib.hid hst
  clear h1 h2 h2st h2nc hn9 hn0
  replace hnc := Lib.hid hnc
  go_enter Tryz.func21, Tryz.ntmps21
  go_upto_block 0 with fail
  go_wp2_with fail
  go_loopg [] 4000001 (fun g wr => SoRel F u0 nv s0 w0 g wr)
  case atStart => exact hstart.out
  case round =>
    clear hstart
    rcases hrel with ⟨jr, N0, s, hS, hs0, hnN, hg⟩ | ⟨jr, lvl, N0, s, hS, hall, hs1⟩ | ⟨⟨s, hB, hs2⟩, hU⟩
    · have c5 := hS.bs.rep.sc hS.bs.hd.f5
      rw [hs0, hS.bs.sb] at c5
      have hse := Lib.hid (search_c hS)
      have hlb := hS.lb
      replace hS := Lib.hid hS
      replace hs0 := Lib.hid hs0
      clear hlb
      go_upto_if 29 with (go_at_call 35; refine hse.out.mono ?_; rintro e w2 ⟨k, rfl, hR⟩; have c5b := hR.c5; replace hR := Lib.hid hR)
      clear hse c5
      rcases hR.out with ⟨rfl, jr', lvl', s', z1, z2, z3⟩ | ⟨rfl, z1, z2⟩ | ⟨rfl, jr', s', z1, z2, z3, z4⟩
      · replace z1 := Lib.hid z1
        replace z2 := Lib.hid z2
        go_wp2_with fail
        go_roundg 0
        case measure => omega
        case rel => exact .inr (.inl ⟨jr', lvl', N0, s', z1.out, z2.out, z3⟩)
      · replace z1 := Lib.hid z1
        replace z2 := Lib.hid z2
        go_wp2_with fail
        go_roundg 0
        case measure => omega
        case rel => exact .inr (.inr ⟨z1.out, z2.out⟩)
      · have hN' : s'.nconf ≤ 4000000 - 10 := z1.hg.gp.N_le z1.hg.gs.core
        obtain ⟨n8, hn8'⟩ := z1.bs.hd.f5087 5087 (by omega) (by omega) (by omega)
        have c87 := z1.bs.rep.sc hn8'
        have f87 := z1.bs.rep.scf 5087
        rw [z1.bs.sb] at c87 f87
        simp only [i64] at c87
        have y1 := z1.sN 5087 (wrap64 (n8 + 1)) (.inl ⟨by omega, by omega, by omega⟩)
        have y2 : (s'.setSc 5087 (i64 (wrap64 (n8 + 1)))).nconf = s'.nconf := rfl
        have y3 : (s'.setSc 5087 (i64 (wrap64 (n8 + 1)))).status = 0 := z4
        have hrq := Lib.hid (y1.requeue_c z2)
        generalize s'.setSc 5087 (i64 (wrap64 (n8 + 1))) = s'' at y2 y3 hrq
        have hdec : (4000000 - s'.nconf).toNat + 1 < gk := by have := hS.out.lb; have := hS.out.qs.st.n; omega
        replace hdec := Lib.hid hdec
        clear y1 hn8' hR z1 z2 z3 z4 hN' hg
        replace y2 := Lib.hid y2
        replace y3 := Lib.hid y3
        go_wp2_with (go_at_call 36; refine hrq.out.mono ?_; rintro e w3 ⟨rfl, s3, x1, x2, _, _, x3⟩; replace x1 := Lib.hid x1; replace x2 := Lib.hid x2; replace x3 := Lib.hid x3)
        go_roundg ((4000000 - s'.nconf).toNat + 1)
        case measure => exact hdec.out
        case rel => exact .inl ⟨jr', _, s3, x1.out, x3.out.trans y3.out, by rw [x2.out]; exact Int.le_refl _, by rw [x2.out, y2.out]; exact Nat.le_refl _⟩
    · have hrep := hS.bs.rep
      have hsb := hS.bs.sb
      have hnv : s.nv = nv := hS.hg.nvs
      have c5 := hrep.sc hrep.hd.f5
      have c15 := hrep.sc hrep.hd.f15
      unfold slV at c15
      rw [hs1, hsb] at c5
      rw [hsb, hnv] at c15
      obtain ⟨⟨v16, c16⟩, f16, d16, d15, hcp⟩ := found_rows hS.bs (hS.model hall) (by omega) (by omega)
      obtain ⟨w9, hrun, g5, hfr, hF⟩ := hcp 1
      rw [hnv] at c16 f16 d16 d15 hrun hF
      rw [hs1] at g5
      have mk1 := make_rep (P := Tryz.prog) 62 84 (.int .i64 0) 8 Tryz.underlying62 infoDl rfl nv (by omega) (by unfold maxLen; omega)
      replace hS := Lib.hid hS
      replace hall := Lib.hid hall
      replace hfr := Lib.hid hfr
      replace hF := Lib.hid hF
      replace hrep := Lib.hid hrep
      replace hs1 := Lib.hid hs1
      clear hcp
      go_upto_region 12 with fail
      obtain ⟨wa, hwa⟩ : ∃ wa, wa = (wr.alloc (.cells (Array.replicate nv (.int .i64 0)) 84)).setCell ⟨s0.sb, 16, none⟩ (.slice (some ⟨wr.heap.size, 0, none⟩) nv nv) := ⟨_, rfl⟩
      rw [← hwa] at d16 d15 hrun ⊢
      clear hwa c16 f16 c15 c5
      refine wp_region_still_tail 8 (by kernel_rfl) (by kernel_rfl) ?_
      simp only [List.take_succ_cons, List.take_zero, List.drop_succ_cons, List.drop_zero]
      repeat still_step
      refine wpStill_nil ?_
      obtain ⟨wq, hwq⟩ : ∃ wq, wq = wa.drewN 1 := ⟨_, rfl⟩
      have hwe : ({ heap := wa.heap, tape := wa.tape, drawn := wa.drawn + 1, os := wa.os, output := wa.output } : World) = wq := hwq.symm
      rw [hwe]
      rw [← hwq] at hrun
      clear hwe hwq d15 d16
      go_wp2_with fail
      go_ret
      exact ⟨hfr.out, .inr ⟨rfl, hF.out⟩⟩
    · have hrep := hB.rep
      have c5 := hrep.sc hrep.hd.f5
      rw [hs2, hB.sb] at c5
      replace hrep := Lib.hid hrep
      have hfr := hB.tr.fr
      replace hfr := Lib.hid hfr
      replace hU := Lib.hid hU
      replace hB := Lib.hid hB
      replace hs2 := Lib.hid hs2
      go_wp2_with fail
      go_ret
      exact ⟨hfr.out, .inl ⟨rfl, hU.out⟩⟩
end Go.Proofs.YtiimddkopiknpaaGreatDoor
