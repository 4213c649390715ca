/-
  The steps of the search.
-/
import Derived.Test.YtiimddkopiknpaaGreatDoorB17
import Derived.Test.YtiimddkopiknpaaGreatDoorB10
import Derived.Test.YtiimddkopiknpaaGreatDoorB15
set_option linter.unusedVariables false
set_option linter.unusedSimpArgs false

/-
  The search, its steps: each call of propagateAndSearch leads from one kind of state to the next.
-/
namespace Go.Proofs.YtiimddkopiknpaaGreatDoor
open Go.RowKit

def St.keepN (s : St) := (s.status, s.nbMax, s.idx, s.nconf, s.lbdN, s.lbdP, s.tdN, s.tdP)
theorem QT.kn {s s' : St} {w w' : World} (h : QT s w s' w') : s'.keepN = s.keepN := by have := congrArg St.keepN h.same; simpa [St.noQ, St.keepN] using this
theorem CT.kn {s s' : St} {w w' : World} (h : CT s w s' w') : s'.keepN = s.keepN := by have := congrArg St.keepN h.same; simpa [St.noC, St.keepN] using this
theorem BT.kn {s s' : St} {w w' : World} (h : BT s w s' w') : s'.keepN = s.keepN := by
  have := h.kp
  unfold St.keep2 at this
  unfold St.keepN
  injections
  simp_all
theorem StatOk.kn {s s' : St} (h : StatOk s) (e : s'.keepN = s.keepN) : StatOk s' := by
  unfold St.keepN at e
  injections
  obtain ⟨a, b, c, d⟩ := h
  constructor <;> simp_all

/-- from the start of the search to this state -/
structure Bs (s0 : St) (w0 : World) (s : St) (w : World) : Prop where
  tr : Tr s0.row w0 s.row w
  hd : Hd s
  sb : s.sb = s0.sb
theorem Bs.rep {s0 s : St} {w0 w : World} (h : Bs s0 w0 s w) : Rep s w := ⟨h.tr.rows, h.hd⟩
theorem Bs.step {s0 s s' : St} {w0 w w' : World} (h : Bs s0 w0 s w) (t : Tr s.row w s'.row w') (hd : Hd s') (e : s'.sb = s.sb) : Bs s0 w0 s' w' := ⟨h.tr.trans t, hd, e.trans h.sb⟩
theorem Bs.drewN {s0 s : St} {w0 w : World} (h : Bs s0 w0 s w) (n : Nat) : Bs s0 w0 s (w.drewN n) := ⟨h.tr.drewN n, h.hd, h.sb⟩
/-- the queue and the statistics -/
structure Qs (nv : Nat) (s : St) (b : Int) : Prop where
  q : QI nv s.qc s.qi
  qil : s.qi.length = nv
  qcl : (s.qc.length : Int) ≤ b
  st : StatOk s

section
variable {F : List (List Nat)} {u0 nv jr lvl l c : Nat} {N0 : Int} {s0 s s' : St} {w0 w w' : World} {m1 : MS} {N : Int}
/-- all is propagated -/
structure SG (F : List (List Nat)) (u0 nv jr lvl : Nat) (N0 : Int) (s0 : St) (w0 : World) (s : St) (w : World) : Prop where
  bs : Bs s0 w0 s w
  hg : HG F u0 nv jr lvl s.toMS s.nconf s.nbMax s.idx
  qs : Qs nv s (16 * (s.nconf + 1))
  lb : s.lbdN ≤ s.nconf - N0
  un : ∀ v, v < nv → s.toMS.va v = 0 → v ∈ s.qc
/-- a literal is about to be bound -/
structure SL (F : List (List Nat)) (u0 nv jr lvl l : Nat) (m1 : MS) (N0 : Int) (s0 : St) (w0 : World) (s : St) (w : World) : Prop where
  bs : Bs s0 w0 s w
  hl : HL F u0 nv jr lvl l s.toMS m1 s.nconf s.nbMax s.idx
  qs : Qs nv s (16 * (s.nconf + 1))
  lb : s.lbdN ≤ s.nconf - N0
  un : ∀ v, v < nv → m1.va v = 0 → v ∈ s.qc
/-- a clause is false; N: how many conflicts there were before this one -/
structure SC (F : List (List Nat)) (u0 nv jr lvl c : Nat) (N B : Int) (s0 : St) (w0 : World) (s : St) (w : World) : Prop where
  bs : Bs s0 w0 s w
  hc : HC F u0 nv jr lvl c s.toMS N s.nbMax s.idx
  qs : Qs nv s (16 * (N + 1))
  lb : s.lbdN ≤ B
  un : ∀ v, v < nv → s.toMS.va v = 0 → v ∈ s.qc

theorem SL.drewN (h : SL F u0 nv jr lvl l m1 N0 s0 w0 s w) (n : Nat) : SL F u0 nv jr lvl l m1 N0 s0 w0 s (w.drewN n) := ⟨h.bs.drewN n, h.hl, h.qs, h.lb, h.un⟩
theorem SG.drewN (h : SG F u0 nv jr lvl N0 s0 w0 s w) (n : Nat) : SG F u0 nv jr lvl N0 s0 w0 s (w.drewN n) := ⟨h.bs.drewN n, h.hg, h.qs, h.lb, h.un⟩
theorem SC.drewN {B : Int} (h : SC F u0 nv jr lvl c N B s0 w0 s w) (n : Nat) : SC F u0 nv jr lvl c N B s0 w0 s (w.drewN n) := ⟨h.bs.drewN n, h.hc, h.qs, h.lb, h.un⟩

/-- unifyLiteral -/
def UHPost (F : List (List Nat)) (u0 nv jr lvl : Nat) (N N0 : Int) (s0 : St) (w0 : World) (tl : Nat) (e : Ending) (w' : World) : Prop :=
  (e = .returned (.pointer none) ∧ ∃ s', SG F u0 nv jr lvl N0 s0 w0 s' w' ∧ s'.nconf = N ∧ tl < s'.trail.length) ∨
  (∃ c s', e = .returned (.pointer (some ⟨c, 0, none⟩)) ∧ SC F u0 nv jr lvl c N (N - N0) s0 w0 s' w' ∧ s'.nconf = N)
theorem HL.nvs {m m1 : MS} {nb ix : Int} (h : HL F u0 nv jr lvl l m m1 N nb ix) : m.nv = nv := by have := h.gp.nvE; rw [← h.eq] at this; exact this
theorem unifyH_c (h : SL F u0 nv jr lvl l m1 N0 s0 w0 s w) :
    Calls Tryz.prog 63 #[.pointer (some ⟨s0.sb, 0, none⟩), .int .i32 (l : Int), .int .i64 (lvl : Int)] w (UHPost F u0 nv jr lvl s.nconf N0 s0 w0 s.trail.length) := by
  have hnv := h.hl.nvs
  have hnv' : s.nv = nv := hnv
  have h8 := h.hl.gp.n8
  have hb : u0 + m1.nv ≤ 1000000000 := by have := h.hl.gp.u0b; have := h.hl.gp.nvE; omega
  have htl : s.trail.length ≤ 1000000000 := by
    have h1 := h.hl.core.wf.trl
    rw [← h.hl.eq] at h1
    have h2 : ((s.toMS.setVal (l / 2) (sgn l (lvl : Int))).push l).trail = s.trail ++ [l] := rfl
    rw [h2] at h1
    simp at h1; omega
  have hlv := h.hl.lvl_le
  have hU := unify_c h.bs.rep (l := l) (lvl := (lvl : Int)) (by rw [hnv']; exact h.hl.ll) (by omega) htl (by omega) (by omega) (pri2 h.hl.l1 hb) (by rw [h.hl.eq]; exact ⟨h.hl.ji, WQ.refl m1⟩)
  rw [h.bs.sb] at hU
  refine hU.mono ?_
  have hva : ∀ m' : MS, Ext m1 m' → ∀ v, m'.va v = 0 → m1.va v = 0 := by
    intro m' hE v hv
    apply Classical.byContradiction
    intro hne
    rw [(hE.old v hne).1] at hv
    exact hne hv
  have hm1l : m1.trail.length = s.trail.length + 1 := by
    rw [← h.hl.eq]
    show (s.trail ++ [l]).length = _
    simp
  rintro e w' (⟨rfl, s', p, ⟨hJ, hQ⟩, hp, hr, hsb⟩ | ⟨s', c, rfl, ⟨hC, hQ⟩, hr, hsb⟩)
  · have hnn : s'.nv = nv := by show s'.toMS.nv = nv; rw [hJ.pi.ext.nv]; exact h.hl.gp.nvE
    have b := hr.bt (by rw [hnn, hnv'])
    have ek := b.kn
    have e1 : s'.nconf = s.nconf := congrArg (fun p => p.2.2.2.1) ek
    have e2 : s'.nbMax = s.nbMax := congrArg (fun p => p.2.1) ek
    have e3 : s'.idx = s.idx := congrArg (fun p => p.2.2.1) ek
    have e4 : s'.lbdN = s.lbdN := congrArg (fun p => p.2.2.2.2.1) ek
    have q1 : s'.qc = s.qc := congrArg (fun p => p.2.1) hr.kp
    have q2 : s'.qi = s.qi := congrArg (fun p => p.2.2.1) hr.kp
    refine .inl ⟨rfl, s', ⟨h.bs.step hr.tr hr.hd hsb, by rw [e1, e2, e3]; exact h.hl.done hJ hQ hp, ⟨by rw [q1, q2]; exact h.qs.q, by rw [q2]; exact h.qs.qil, by rw [q1, e1]; exact h.qs.qcl, h.qs.st.kn ek⟩, by rw [e1, e4]; exact h.lb, fun v hv hz => by rw [q1]; exact h.un v hv (hva _ hJ.pi.ext v hz)⟩, e1, ?_⟩
    have := hJ.pi.ext.len
    show s.trail.length < s'.toMS.trail.length
    omega
  · obtain ⟨p, hp, hP⟩ := hC.pi
    have hnn : s'.nv = nv := by show s'.toMS.nv = nv; rw [hP.ext.nv]; exact h.hl.gp.nvE
    have b := hr.bt (by rw [hnn, hnv'])
    have ek := b.kn
    have e1 : s'.nconf = s.nconf := congrArg (fun p => p.2.2.2.1) ek
    have e2 : s'.nbMax = s.nbMax := congrArg (fun p => p.2.1) ek
    have e3 : s'.idx = s.idx := congrArg (fun p => p.2.2.1) ek
    have e4 : s'.lbdN = s.lbdN := congrArg (fun p => p.2.2.2.2.1) ek
    have q1 : s'.qc = s.qc := congrArg (fun p => p.2.1) hr.kp
    have q2 : s'.qi = s.qi := congrArg (fun p => p.2.2.1) hr.kp
    refine .inr ⟨c, s', rfl, ⟨h.bs.step hr.tr hr.hd hsb, by rw [e2, e3]; exact h.hl.conf hC hQ, ⟨by rw [q1, q2]; exact h.qs.q, by rw [q2]; exact h.qs.qil, by rw [q1]; exact h.qs.qcl, h.qs.st.kn ek⟩, by rw [e4]; exact h.lb, fun v hv hz => by rw [q1]; exact h.un v hv (hva _ hP.ext v hz)⟩, e1⟩

/-- chooseLit -/
def CHPost (F : List (List Nat)) (u0 nv jr lvl : Nat) (N N0 : Int) (s0 : St) (w0 : World) (tl : Nat) (e : Ending) (w' : World) : Prop :=
  (e = .returned (.int .i32 (-1)) ∧ ∃ s', SG F u0 nv jr lvl N0 s0 w0 s' w' ∧ ∀ v, v < nv → s'.toMS.va v ≠ 0) ∨
  (∃ l m1 s', e = .returned (.int .i32 ((l : Nat) : Int)) ∧ SL F u0 nv jr (lvl + 1) l m1 N0 s0 w0 s' w' ∧ s'.nconf = N ∧ s'.trail.length = tl)
theorem HG.nvs {m : MS} {nb ix : Int} (h : HG F u0 nv jr lvl m N nb ix) : m.nv = nv := h.gp.nvE
theorem SG.N_le (h : SG F u0 nv jr lvl N0 s0 w0 s w) : s.nconf ≤ 4000000 - 10 := h.hg.gp.N_le h.hg.gs.core
theorem chooseH_c (h : SG F u0 nv jr lvl N0 s0 w0 s w) : Calls Tryz.prog 45 #[.pointer (some ⟨s0.sb, 0, none⟩)] w (CHPost F u0 nv jr lvl s.nconf N0 s0 w0 s.trail.length) := by
  have hnv : s.nv = nv := h.hg.nvs
  have h8 := h.hg.gp.n8
  have h1 := h.hg.gp.n1
  have hN := h.N_le
  have hq := h.qs.qcl
  have hC := chooseLit_c h.bs.rep (by rw [hnv]; exact h.qs.q) (by rw [hnv]; exact h.qs.qil) (by omega) (by omega) (by omega)
  rw [h.bs.sb] at hC
  refine hC.mono ?_
  rintro e w' ⟨s', hT, k1, k2, k3, hcase⟩
  have ek := hT.kn
  have em := hT.ms
  have e1 : s'.nconf = s.nconf := congrArg (fun p => p.2.2.2.1) ek
  have e2 : s'.nbMax = s.nbMax := congrArg (fun p => p.2.1) ek
  have e3 : s'.idx = s.idx := congrArg (fun p => p.2.2.1) ek
  have e4 : s'.lbdN = s.lbdN := congrArg (fun p => p.2.2.2.2.1) ek
  rw [hnv] at k1 k2
  have qs' : Qs nv s' (16 * (s'.nconf + 1)) := ⟨k2, k1, by rw [e1]; omega, h.qs.st.kn ek⟩
  have bs' := h.bs.step hT.tr hT.hd hT.sb
  rcases hcase with ⟨rfl, hall⟩ | ⟨l, rfl, hl, hz, hin⟩
  · have hall' : ∀ v, v < nv → s.toMS.va v ≠ 0 := fun v hv hz => hall v (h.un v hv hz) hz
    refine .inl ⟨rfl, s', ⟨bs', by rw [em, e1, e2, e3]; exact h.hg, qs', by rw [e1, e4]; exact h.lb, fun v hv hz => ?_⟩, fun v hv => by rw [em]; exact hall' v hv⟩
    rw [em] at hz; exact (hall' v hv hz).elim
  · have hll : l < nv * 2 := by omega
    have hD := h.hg.decide hll hz
    refine .inr ⟨l, _, s', rfl, ⟨bs', by rw [em, e1, e2, e3]; exact hD, qs', by rw [e1, e4]; exact h.lb, fun v hv hz' => ?_⟩, e1, by show s'.toMS.trail.length = _; rw [em]⟩
    have hlm : l < s.toMS.nv * 2 := by rw [h.hg.nvs]; exact hll
    rw [bind_va h.hg.gs.core.vl hlm] at hz'
    by_cases e : l / 2 = v
    · rw [if_pos e] at hz'
      have := sgn_abs l (lvl + 1)
      rw [hz'] at this
      simp at this
    · rw [if_neg e] at hz'
      exact hin v (h.un v hv hz') hz' (fun e' => e e'.symm)
end
end Go.Proofs.YtiimddkopiknpaaGreatDoor

/-
  The search, its steps: what follows a conflict; a restart.
-/
namespace Go.Proofs.YtiimddkopiknpaaGreatDoor
open Go.RowKit

theorem LT.ms {s s' : St} {w w' : World} (h : LT s w s' w') : s'.toMS = s.toMS := by have := congrArg St.toMS h.same; simpa [St.noStat] using this
theorem LT.eqs {s s' : St} {w w' : World} (h : LT s w s' w') : s'.nbMax = s.nbMax ∧ s'.idx = s.idx ∧ s'.nconf = s.nconf ∧ s'.qc = s.qc ∧ s'.qi = s.qi := by
  refine ⟨?_, ?_, ?_, ?_, ?_⟩
  · have := congrArg St.nbMax h.same; simpa [St.noStat] using this
  · have := congrArg St.idx h.same; simpa [St.noStat] using this
  · have := congrArg St.nconf h.same; simpa [St.noStat] using this
  · have := congrArg St.qc h.same; simpa [St.noStat] using this
  · have := congrArg St.qi h.same; simpa [St.noStat] using this

section
variable {F : List (List Nat)} {u0 nv jr lvl l c : Nat} {N0 : Int} {s0 s s' : St} {w0 w w' : World} {m1 : MS} {N B B' : Int}
theorem SG.lt (h : SG F u0 nv jr lvl N0 s0 w0 s w) (t : LT s w s' w') (hk : StatOk s') (hl : s'.lbdN ≤ s.lbdN) : SG F u0 nv jr lvl N0 s0 w0 s' w' := by
  obtain ⟨e1, e2, e3, e4, e5⟩ := t.eqs
  have em := t.ms
  exact ⟨h.bs.step t.tr t.hd t.sb, by rw [em, e1, e2, e3]; exact h.hg, ⟨by rw [e4, e5]; exact h.qs.q, by rw [e5]; exact h.qs.qil, by rw [e3, e4]; exact h.qs.qcl, hk⟩, by rw [e3]; have := h.lb; omega, fun v hv hz => by rw [e4]; rw [em] at hz; exact h.un v hv hz⟩
theorem SC.lt (h : SC F u0 nv jr lvl c N B s0 w0 s w) (t : LT s w s' w') (hk : StatOk s') (hl : s'.lbdN ≤ B') : SC F u0 nv jr lvl c N B' s0 w0 s' w' := by
  obtain ⟨e1, e2, e3, e4, e5⟩ := t.eqs
  have em := t.ms
  exact ⟨h.bs.step t.tr t.hd t.sb, by rw [em, e1, e2]; exact h.hc, ⟨by rw [e4, e5]; exact h.qs.q, by rw [e5]; exact h.qs.qil, by rw [e4]; exact h.qs.qcl, hk⟩, hl, fun v hv hz => by rw [e4]; rw [em] at hz; exact h.un v hv hz⟩
/-- a change of single numbers that stand for nothing -/
theorem SC.qt (h : SC F u0 nv jr lvl c N B s0 w0 s w) (t : QT s w s' w') (e4 : s'.qc = s.qc) (e5 : s'.qi = s.qi) : SC F u0 nv jr lvl c N B s0 w0 s' w' := by
  have ek := t.kn
  have em := t.ms
  have e2 : s'.nbMax = s.nbMax := congrArg (fun p => p.2.1) ek
  have e3 : s'.idx = s.idx := congrArg (fun p => p.2.2.1) ek
  have e6 : s'.lbdN = s.lbdN := congrArg (fun p => p.2.2.2.2.1) ek
  exact ⟨h.bs.step t.tr t.hd t.sb, by rw [em, e2, e3]; exact h.hc, ⟨by rw [e4, e5]; exact h.qs.q, by rw [e5]; exact h.qs.qil, by rw [e4]; exact h.qs.qcl, h.qs.st.kn ek⟩, by rw [e6]; exact h.lb, fun v hv hz => by rw [e4]; rw [em] at hz; exact h.un v hv hz⟩
theorem HC.nvs {m : MS} {nb ix : Int} (h : HC F u0 nv jr lvl c m N nb ix) : m.nv = nv := h.gp.nvE
theorem HC.lvl_le {m : MS} {nb ix : Int} (h : HC F u0 nv jr lvl c m N nb ix) : lvl ≤ 2000 := by
  have h1 := h.lvi.le
  have h2 := h.core.bound
  have h3 := h.gp.nvE
  have h4 := h.gp.n8
  have h5 := h.gp.u0b
  omega
/-- the analysis' end: a literal -/
theorem SC.at_ (h : SC F u0 nv jr lvl c N B s0 w0 s w) (t : AT s w s' w') : SC F u0 nv jr lvl c N B s0 w0 s' w' := by
  have ek := t.bt.kn
  have em := t.ms
  have e2 : s'.nbMax = s.nbMax := congrArg (fun p => p.2.1) ek
  have e3 : s'.idx = s.idx := congrArg (fun p => p.2.2.1) ek
  have e6 : s'.lbdN = s.lbdN := congrArg (fun p => p.2.2.2.2.1) ek
  have hnv : s.nv = nv := h.hc.nvs
  have hnv' : s'.nv = nv := by show s'.toMS.nv = nv; rw [em]; exact hnv
  have hq := t.q (by rw [hnv]; exact h.qs.q)
  rw [hnv'] at hq
  exact ⟨h.bs.step t.tr t.hd t.sb, by rw [em, e2, e3]; exact h.hc, ⟨hq, by rw [t.qil]; exact h.qs.qil, by rw [t.qcl]; exact h.qs.qcl, h.qs.st.kn ek⟩, by rw [e6]; exact h.lb, fun v hv hz => t.mem.mem_iff.2 (by rw [em] at hz; exact h.un v hv hz)⟩
theorem learnH_c (h : SC F u0 nv jr lvl c N B s0 w0 s w) : Calls Tryz.prog 70 #[.pointer (some ⟨s0.sb, 0, none⟩), .pointer (some ⟨c, 0, none⟩), .int .i64 (lvl : Int)] w (LearnPost s w lvl u0) := by
  have hnv : s.nv = nv := h.hc.nvs
  have h8 := h.hc.gp.n8
  have h1 := h.hc.gp.n1
  have hN := h.hc.gp.N_le h.hc.core
  have hlv := h.hc.lvl_le
  have hq := h.qs.qcl
  have hql := h.qs.qil
  have hlen := h.hc.gp.len
  have hL := learn_c h.bs.rep h.hc.core h.hc.lu (by omega) h.hc.hc h.hc.f h.hc.at_ (by rw [hnv]; exact h.qs.q) (by omega) (by omega) (fun c hc => (h.hc.gp.lrnI c hc).1) (by show s.toMS.lrn.length ≤ _; omega) (by omega) (by omega)
  rw [h.bs.sb] at hL
  exact hL

/-- what is needed of the trail's cut -/
theorem CBP.cut {i : Nat} (h : CBP s w lvl i s' w') (hw : ∀ c ∈ s.ids, s.word c < 4294967296) : Cut s.toMS s'.toMS i := by
  have hs := h.ct.same
  have e1 : s'.ids = s.ids := h.ct.ids
  have e2 : s'.lits = s.lits := by have := congrArg (fun s : St => s.lits) hs; simpa [St.noC] using this
  have e3 : s'.wl = s.wl := by have := congrArg (fun s : St => s.wl) hs; simpa [St.noC] using this
  have e4 : s'.wb = s.wb := by have := congrArg (fun s : St => s.wb) hs; simpa [St.noC] using this
  have e5 : s'.orig = s.orig := by have := congrArg (fun s : St => s.orig) hs; simpa [St.noC] using this
  have e6 : s'.lrn = s.lrn := by have := congrArg (fun s : St => s.lrn) hs; simpa [St.noC] using this
  refine ⟨h.ct.nv, e1, e2, e3, e4, e5, e6, h.trail, by rw [h.ct.rep.val_len]; exact h.ct.nv, by rw [h.ct.rep.rsn_len]; exact h.ct.nv, h.off, h.on, fun c hc => ?_⟩
  have hcw := hw c hc
  rcases h.wk c with e | ⟨e, _⟩
  · show s'.word c < _; rw [e]; exact hcw
  · show s'.word c < _; rw [e]; exact Nat.lt_of_le_of_lt Nat.and_le_left hcw

/-- a restart -/
structure SR (F : List (List Nat)) (u0 nv jr : Nat) (N0 : Int) (s0 : St) (w0 : World) (s : St) (w : World) : Prop where
  bs : Bs s0 w0 s w
  hg : HG F u0 nv jr 1 s.toMS s.nconf s.nbMax s.idx
  qs : Qs nv s (16 * (s.nconf + 1) + 16)
  un : ∀ v, v < nv → s.toMS.va v = 0 → v ∈ s.qc
def RSPost (F : List (List Nat)) (u0 nv jr : Nat) (N L N0 : Int) (s0 : St) (w0 : World) (e : Ending) (w' : World) : Prop := e = .returned (.tuple #[]) ∧ ∃ s', SR F u0 nv jr N0 s0 w0 s' w' ∧ s'.nconf = N ∧ s'.lbdN = L
theorem cut_len {u0 lv0 i : Nat} {m : MS} (hC : Core u0 lv0 m) (hu : u0 ≤ i) : m.trail.length ≤ i + m.nv := by have := hC.bound; omega
theorem cut_un {i bt : Nat} (h : CBP s w bt i s' w') (hn : s'.nv = s.nv) (hu : ∀ v, v < nv → s.toMS.va v = 0 → v ∈ s.qc) : ∀ v, v < nv → s'.toMS.va v = 0 → v ∈ s'.qc := by
  intro v hv hz
  by_cases hd : ∃ k, i ≤ k ∧ k < s.trail.length ∧ nth s.trail k / 2 = v
  · obtain ⟨k, k1, k2, k3⟩ := hd
    rw [← k3]; exact h.memn k k1 k2
  · have := (h.on v fun k k1 k2 k3 => hd ⟨k, k1, k2, k3⟩).1
    rw [this] at hz
    exact h.mem v (hu v hv hz)
theorem restartH_c (h : SG F u0 nv jr lvl N0 s0 w0 s w) (htl : 0 < s.trail.length) :
    Calls Tryz.prog 66 #[.pointer (some ⟨s0.sb, 0, none⟩), .int .i64 1] w (RSPost F u0 nv jr s.nconf s.lbdN N0 s0 w0) := by
  have hnv : s.nv = nv := h.hg.nvs
  have h8 := h.hg.gp.n8
  have hN := h.N_le
  have hq := h.qs.qcl
  have hC := h.hg.gs.core
  have hlv : lvl ≤ 2000 := by
    have h1 := h.hg.lvi.le
    have h2 := hC.bound
    have h3 := h.hg.gp.nvE
    have h5 := h.hg.gp.u0b
    omega
  have hbd := hC.bound
  have hub := h.hg.gp.u0b
  have hnm : s.toMS.nv = nv := hnv
  have htl2 : s.toMS.trail.length = s.trail.length := rfl
  have hcl := cleanup_c h.bs.rep hC (lvl := 1) (Nat.le_refl 1) (by omega) (by omega) (by rw [hnv]; exact h.qs.q) (by rw [hnv]; exact h.qs.qil) (by omega) (by omega) (fun i hi => by have := u0_lev h.hg.gp i hi; show s.toMS.lev (nth s.trail i / 2) ≤ 1; have e : s.toMS.trail = s.trail := rfl; rw [e] at this; omega) htl (by omega)
  rw [h.bs.sb] at hcl
  refine hcl.mono ?_
  rintro e w' ⟨rfl, i, s', hB⟩
  have ct := hB.cut hC.wf.word
  have ek := hB.ct.kn
  have e1 : s'.nconf = s.nconf := congrArg (fun p => p.2.2.2.1) ek
  have e2 : s'.nbMax = s.nbMax := congrArg (fun p => p.2.1) ek
  have e3 : s'.idx = s.idx := congrArg (fun p => p.2.2.1) ek
  have e4 : s'.lbdN = s.lbdN := congrArg (fun p => p.2.2.2.2.1) ek
  have hu := HC.u0i h.hg.gp (Nat.le_refl 1) hB.hi
  have hlen := cut_len hC hu
  have hl1 := hB.qcl
  have hg' := h.hg.restart ct hB.il hB.lo hB.hi hB.wk
  refine ⟨rfl, s', ⟨h.bs.step hB.ct.tr hB.ct.hd hB.ct.sb, by rw [e1, e2, e3]; exact hg', ⟨by rw [← hnv]; exact hB.q, by rw [hB.qil, hnv], by rw [e1]; omega, h.qs.st.kn ek⟩, cut_un hB hB.ct.nv h.un⟩, e1, e4⟩

/-- behind a literal that is learned: the trail is cut -/
def UNPost (F : List (List Nat)) (u0 nv jr l : Nat) (N N0 : Int) (s0 : St) (w0 : World) (e : Ending) (w' : World) : Prop := e = .returned (.tuple #[]) ∧ ∃ m1 s', SL F u0 nv jr 1 l m1 N0 s0 w0 s' w' ∧ s'.nconf = N
theorem unitH_c (h : SC F u0 nv jr lvl c N B s0 w0 s w) (hNc : s.nconf = N + 1) (hB : B = s.nconf - N0) (hl : 2 ≤ lvl) (hL : Lrn s.toMS lvl u0 [l]) :
    Calls Tryz.prog 66 #[.pointer (some ⟨s0.sb, 0, none⟩), .int .i64 1] w (UNPost F u0 nv jr l s.nconf N0 s0 w0) := by
  have hnv : s.nv = nv := h.hc.nvs
  have h8 := h.hc.gp.n8
  have hC := h.hc.core
  have hN := h.hc.gp.N_le hC
  have hq := h.qs.qcl
  have hlv := h.hc.lvl_le
  have hbd := hC.bound
  have hub := h.hc.gp.u0b
  have hnm : s.toMS.nv = nv := hnv
  have htl2 : s.toMS.trail.length = s.trail.length := rfl
  obtain ⟨m0, p, hp, hP⟩ := h.hc.pi
  have hcl := cleanup_c h.bs.rep hC (lvl := 1) (Nat.le_refl 1) (by omega) (by omega) (by rw [hnv]; exact h.qs.q) (by rw [hnv]; exact h.qs.qil) (by omega) (by omega) (fun i hi => by have := u0_lev h.hc.gp i hi; show s.toMS.lev (nth s.trail i / 2) ≤ 1; have e : s.toMS.trail = s.trail := rfl; rw [e] at this; omega) (by omega) (by omega)
  rw [h.bs.sb] at hcl
  refine hcl.mono ?_
  rintro e w' ⟨rfl, i, s', hcb⟩
  have ct := hcb.cut hC.wf.word
  have ek := hcb.ct.kn
  have e1 : s'.nconf = s.nconf := congrArg (fun p => p.2.2.2.1) ek
  have e2 : s'.nbMax = s.nbMax := congrArg (fun p => p.2.1) ek
  have e3 : s'.idx = s.idx := congrArg (fun p => p.2.2.1) ek
  have e4 : s'.lbdN = s.lbdN := congrArg (fun p => p.2.2.2.2.1) ek
  have hu := HC.u0i h.hc.gp (Nat.le_refl 1) hcb.hi
  have hlen := cut_len hC hu
  have hl1 := hcb.qcl
  have hg' := h.hc.unit hl hL ct hcb.il hcb.lo hcb.hi hcb.wk
  have hun := cut_un hcb hcb.ct.nv h.un
  refine ⟨rfl, _, s', ⟨h.bs.step hcb.ct.tr hcb.ct.hd hcb.ct.sb, by rw [e1, e2, e3, hNc]; exact hg', ⟨by rw [← hnv]; exact hcb.q, by rw [hcb.qil, hnv], by rw [e1, hNc]; omega, h.qs.st.kn ek⟩, by rw [e1, e4, ← hB]; exact h.lb, fun v hv hz => ?_⟩, e1⟩
  have hlm : l < s'.toMS.nv * 2 := by rw [hg'.nvs]; exact hg'.ll
  have hvl : s'.toMS.val.length = s'.toMS.nv := by rw [ct.vl, ct.nv]
  rw [bind_va hvl hlm] at hz
  by_cases e : l / 2 = v
  · rw [if_pos e] at hz
    have := sgn_abs l 1
    rw [hz] at this
    simp at this
  · rw [if_neg e] at hz
    exact hun v hv hz
end
end Go.Proofs.YtiimddkopiknpaaGreatDoor

/-
  The search, its steps: a clause that is learned.
-/
namespace Go.Proofs.YtiimddkopiknpaaGreatDoor
open Go.RowKit

/-- a clause is learned; m: the plain state at the conflict; M: the plain state now -/
structure SN (F : List (List Nat)) (u0 nv jr lvl c0 c : Nat) (L : List Nat) (x : Nat) (m : MS) (N B : Int) (s0 : St) (w0 : World) (M : MS) (s : St) (w : World) : Prop where
  bs : Bs s0 w0 s w
  hc : HC F u0 nv jr lvl c0 m N s.nbMax s.idx
  l2 : 2 ≤ lvl
  hL : Lrn m lvl u0 L
  h2 : 2 ≤ L.length
  h12 : L.length ≤ 12
  hcn : c ∉ m.ids
  hx1 : 2147483649 ≤ x
  hx2 : x ≤ 2147483648 + L.length
  ms : s.toMS = M
  qs : Qs nv s (16 * (N + 1))
  lb : s.lbdN ≤ B
  un : ∀ v, v < nv → m.va v = 0 → v ∈ s.qc
section
variable {F : List (List Nat)} {u0 nv jr lvl c0 c x : Nat} {L : List Nat} {m M : MS} {N0 : Int} {s0 s s' : St} {w0 w w' : World} {N B B' : Int}
theorem nth1_tail {L : List Nat} (h2 : 2 ≤ L.length) : nth L 1 ∈ L.tail := by
  match L, h2 with
  | a :: b :: r, _ => simp [nth]
theorem Lrn.two (hL : Lrn m lvl u0 L) (h2 : 2 ≤ L.length) : 2 ≤ lvl := by
  have hm1 := nth1_tail h2
  have := hL.low _ hm1
  have h3 := lst_va (m := m) (x := nth L 1) (by rw [(hL.fl _ (List.mem_of_mem_tail hm1)).1]; decide)
  unfold MS.lev at this
  omega
theorem SC.learnt (h : SC F u0 nv jr lvl c0 N B s0 w0 s w) (hL : Lrn s.toMS lvl u0 L) (h2 : 2 ≤ L.length) (h12 : L.length ≤ 12) (hcn : c ∉ s.ids) (hx1 : 2147483649 ≤ x) (hx2 : x ≤ 2147483648 + L.length) (t : AC s w s' w' c L x) :
    SN F u0 nv jr lvl c0 c L x s.toMS N B s0 w0 (s.toMS.addC c L x) s' w' := by
  have ek := t.bt.kn
  have em := t.ms
  have e2 : s'.nbMax = s.nbMax := congrArg (fun p => p.2.1) ek
  have e3 : s'.idx = s.idx := congrArg (fun p => p.2.2.1) ek
  have e6 : s'.lbdN = s.lbdN := congrArg (fun p => p.2.2.2.2.1) ek
  have hnv : s.nv = nv := h.hc.nvs
  have hnv' : s'.nv = nv := by show s'.toMS.nv = nv; rw [em]; exact hnv
  have hq := t.q (by rw [hnv]; exact h.qs.q)
  rw [hnv'] at hq
  exact ⟨h.bs.step t.tr t.hd t.bt.sb, by rw [e2, e3]; exact h.hc, hL.two h2, hL, h2, h12, hcn, hx1, hx2, em, ⟨hq, by rw [t.qil]; exact h.qs.qil, by rw [t.qcl]; exact h.qs.qcl, h.qs.st.kn ek⟩, by rw [e6]; exact h.lb, fun v hv hz => t.mem.mem_iff.2 (h.un v hv hz)⟩
theorem SN.lt (h : SN F u0 nv jr lvl c0 c L x m N B s0 w0 M s w) (t : LT s w s' w') (hk : StatOk s') (hl : s'.lbdN ≤ B') : SN F u0 nv jr lvl c0 c L x m N B' s0 w0 M s' w' := by
  obtain ⟨e1, e2, e3, e4, e5⟩ := t.eqs
  exact ⟨h.bs.step t.tr t.hd t.sb, by rw [e1, e2]; exact h.hc, h.l2, h.hL, h.h2, h.h12, h.hcn, h.hx1, h.hx2, t.ms.trans h.ms, ⟨by rw [e4, e5]; exact h.qs.q, by rw [e5]; exact h.qs.qil, by rw [e4]; exact h.qs.qcl, hk⟩, hl, fun v hv hz => by rw [e4]; exact h.un v hv hz⟩
theorem SN.qt (h : SN F u0 nv jr lvl c0 c L x m N B s0 w0 M s w) (t : QT s w s' w') (e4 : s'.qc = s.qc) (e5 : s'.qi = s.qi) : SN F u0 nv jr lvl c0 c L x m N B s0 w0 M s' w' := by
  have ek := t.kn
  have e2 : s'.nbMax = s.nbMax := congrArg (fun p => p.2.1) ek
  have e3 : s'.idx = s.idx := congrArg (fun p => p.2.2.1) ek
  have e6 : s'.lbdN = s.lbdN := congrArg (fun p => p.2.2.2.2.1) ek
  exact ⟨h.bs.step t.tr t.hd t.sb, by rw [e2, e3]; exact h.hc, h.l2, h.hL, h.h2, h.h12, h.hcn, h.hx1, h.hx2, t.ms.trans h.ms, ⟨by rw [e4, e5]; exact h.qs.q, by rw [e5]; exact h.qs.qil, by rw [e4]; exact h.qs.qcl, h.qs.st.kn ek⟩, by rw [e6]; exact h.lb, fun v hv hz => by rw [e4]; exact h.un v hv hz⟩
theorem SN.drewN (h : SN F u0 nv jr lvl c0 c L x m N B s0 w0 M s w) (n : Nat) : SN F u0 nv jr lvl c0 c L x m N B s0 w0 M s (w.drewN n) := ⟨h.bs.drewN n, h.hc, h.l2, h.hL, h.h2, h.h12, h.hcn, h.hx1, h.hx2, h.ms, h.qs, h.lb, h.un⟩
theorem SN.wf1 (h : SN F u0 nv jr lvl c0 c L x m N B s0 w0 M s w) : Wf (m.addC c L x) := h.hc.core.wf.addC h.h2 (by have := h.h12; omega) (fun y hy => (h.hL.fl y hy).2) (by have := h.hx2; have := h.h12; omega)
theorem SN.core2 (h : SN F u0 nv jr lvl c0 c L x m N B s0 w0 M s w) : Core u0 lvl (((m.addC c L x).watch c).addLrn c) :=
  (learnt_core h.hc.core h.hc.wtd h.hcn h.h2 (by have := h.h12; omega) h.hL.nd (fun y hy => (h.hL.fl y hy).2) (by have := h.hx2; have := h.h12; omega) (by have := h.hc.gp.idl; have := h.hc.gp.len; omega)).addLrn c
def ADPost (F : List (List Nat)) (u0 nv jr lvl c0 c : Nat) (L : List Nat) (x : Nat) (m : MS) (N B : Int) (s0 : St) (w0 : World) (Nc : Int) (e : Ending) (w' : World) : Prop :=
  e = .returned (.tuple #[]) ∧ ∃ s', SN F u0 nv jr lvl c0 c L x m N B s0 w0 (((m.addC c L x).watch c).addLrn c) s' w' ∧ s'.nconf = Nc
theorem addH_c (h : SN F u0 nv jr lvl c0 c L x m N B s0 w0 (m.addC c L x) s w) : Calls Tryz.prog 78 #[.pointer (some ⟨s0.sb, 0, none⟩), .pointer (some ⟨c, 0, none⟩)] w (ADPost F u0 nv jr lvl c0 c L x m N B s0 w0 s.nconf) := by
  have em := h.ms
  have hnvm : m.nv = nv := h.hc.nvs
  have hnv : s.nv = nv := by show s.toMS.nv = nv; rw [em]; exact hnvm
  have hid : ∀ d, d ∈ s.ids ↔ d = c ∨ d ∈ m.ids := fun d => by show d ∈ s.toMS.ids ↔ _; rw [em]; show d ∈ c :: m.ids ↔ _; exact List.mem_cons
  have hlr : s.lrn = m.lrn := by show s.toMS.lrn = _; rw [em]; rfl
  have hlen := h.hc.gp.len
  have hA := addLearned_c h.bs.rep (c := c) (by rw [em]; exact h.wf1) ((hid c).2 (.inl rfl)) (by
    show 2147483648 ≤ s.toMS.word c
    rw [em]
    show 2147483648 ≤ if c = c then x else m.word c
    rw [if_pos rfl]; have := h.hx1; omega) (fun d hd => by rw [hlr] at hd; exact (hid d).2 (.inr (h.hc.gp.lrnI d hd).1)) (by rw [hlr]; omega)
  rw [h.bs.sb] at hA
  refine hA.mono ?_
  rintro e w' ⟨rfl, s', t, e1⟩
  have ek := t.kn
  have e2 : s'.nbMax = s.nbMax := congrArg (fun p => p.2.1) ek
  have e3 : s'.idx = s.idx := congrArg (fun p => p.2.2.1) ek
  have e5 : s'.nconf = s.nconf := congrArg (fun p => p.2.2.2.1) ek
  have e6 : s'.lbdN = s.lbdN := congrArg (fun p => p.2.2.2.2.1) ek
  have eM : s'.toMS = ((m.addC c L x).watch c).addLrn c := by rw [e1, em, watch_addLrn]
  have hnv' : s'.nv = nv := by
    show s'.toMS.nv = nv
    rw [eM]
    show ((m.addC c L x).watch c).nv = nv
    rw [(watch_same (m.addC c L x) c).1]; exact hnvm
  have hq := t.q (by rw [hnv]; exact h.qs.q)
  rw [hnv'] at hq
  exact ⟨rfl, s', ⟨h.bs.step t.tr t.hd t.sb, by rw [e2, e3]; exact h.hc, h.l2, h.hL, h.h2, h.h12, h.hcn, h.hx1, h.hx2, eM, ⟨hq, by rw [t.qil]; exact h.qs.qil, by rw [t.qcl]; exact h.qs.qcl, h.qs.st.kn ek⟩, by rw [e6]; exact h.lb, fun v hv hz => t.mem.mem_iff.2 (h.un v hv hz)⟩, e5⟩

/-- what is so of the plain state with the clause -/
theorem SN.m2 (h : SN F u0 nv jr lvl c0 c L x m N B s0 w0 (((m.addC c L x).watch c).addLrn c) s w) :
    c ∈ s.ids ∧ s.lits c = L ∧ s.nv = nv ∧ s.trail = m.trail ∧ (∀ v, s.toMS.va v = m.va v) ∧ (∀ v, s.toMS.ra v = m.ra v) ∧ Core u0 lvl s.toMS := by
  obtain ⟨a1, a2, a3, a4, a5, a6, a7, a8, a9⟩ := watch_same (m.addC c L x) c
  have em := h.ms
  refine ⟨?_, ?_, ?_, ?_, fun v => ?_, fun v => ?_, by rw [em]; exact h.core2⟩
  · show c ∈ s.toMS.ids
    rw [em]
    show c ∈ ((m.addC c L x).watch c).ids
    rw [a7]; exact List.mem_cons_self
  · show s.toMS.lits c = L
    rw [em]
    show ((m.addC c L x).watch c).lits c = L
    rw [a5]; exact addC_self
  · show s.toMS.nv = nv
    rw [em]
    show ((m.addC c L x).watch c).nv = nv
    rw [a1]; exact h.hc.nvs
  · show s.toMS.trail = _
    rw [em]; exact a3
  · rw [em]
    show ((m.addC c L x).watch c).va v = _
    unfold MS.va; rw [a2]; rfl
  · rw [em]
    show ((m.addC c L x).watch c).ra v = _
    unfold MS.ra; rw [a4]; rfl
theorem backH_c (h : SN F u0 nv jr lvl c0 c L x m N B s0 w0 (((m.addC c L x).watch c).addLrn c) s w) :
    Calls Tryz.prog 79 #[.pointer (some ⟨c, 0, none⟩), .slice (some ⟨s.modelB, 0, none⟩) nv nv] w fun e w' => e = .returned (.tuple #[.int .i64 (m.lev (nth L 1 / 2) : Int), .int .i32 (nth L 0 : Nat)]) ∧ w' = w := by
  obtain ⟨b1, b2, b3, b4, b5, b6, b7⟩ := h.m2
  have h8 := h.hc.gp.n8
  have hlv := h.hc.lvl_le
  have hlow : m.lev (nth L 1 / 2) < lvl := h.hL.low _ (nth1_tail h.h2)
  have hb := backtrack_c h.bs.rep b7.wf b1 (by rw [b2, b5]; show m.lev _ < _; omega) (by omega)
  rw [b2, b3] at hb
  have e : s.toMS.lev (nth L 1 / 2) = m.lev (nth L 1 / 2) := by unfold MS.lev; rw [b5]
  rw [e] at hb
  exact hb
def LCPost (F : List (List Nat)) (u0 nv jr c : Nat) (L : List Nat) (m : MS) (N0 Nc : Int) (s0 : St) (w0 : World) (e : Ending) (w' : World) : Prop :=
  e = .returned (.tuple #[]) ∧ ∃ s3 m1, Bs s0 w0 s3 w' ∧ c ∈ s3.ids ∧ s3.nv = nv ∧ s3.word c < 4294967296 ∧ nth L 0 < nv * 2 ∧
    ∀ s4 w4, RT s3 w' s4 w4 → s4.toMS = (s3.toMS.setRsn (nth L 0 / 2) (some c)).lockC c → SL F u0 nv jr (m.lev (nth L 1 / 2)) (nth L 0) m1 N0 s0 w0 s4 w4 ∧ s4.nconf = Nc
theorem learntH_c (h : SN F u0 nv jr lvl c0 c L x m N B s0 w0 (((m.addC c L x).watch c).addLrn c) s w) (hNc : s.nconf = N + 1) (hB : B = s.nconf - N0) :
    Calls Tryz.prog 66 #[.pointer (some ⟨s0.sb, 0, none⟩), .int .i64 (m.lev (nth L 1 / 2) : Int)] w (LCPost F u0 nv jr c L m N0 s.nconf s0 w0) := by
  obtain ⟨b1, b2, b3, b4, b5, b6, b7⟩ := h.m2
  have h8 := h.hc.gp.n8
  have hN := h.hc.gp.N_le h.hc.core
  have hq := h.qs.qcl
  have hlv := h.hc.lvl_le
  have hbd := h.hc.core.bound
  have hub := h.hc.gp.u0b
  have hnm : m.nv = nv := h.hc.nvs
  have hm1 := nth1_tail h.h2
  have hlow := h.hL.low _ hm1
  have hb1 : 1 ≤ m.lev (nth L 1 / 2) := by
    have := lst_va (m := m) (x := nth L 1) (by rw [(h.hL.fl _ (List.mem_of_mem_tail hm1)).1]; decide)
    unfold MS.lev; omega
  have hlev : ∀ v, s.toMS.lev v = m.lev v := fun v => by unfold MS.lev; rw [b5]
  obtain ⟨m0, p, hp, hP⟩ := h.hc.pi
  have htl : 0 < s.trail.length := by rw [b4]; omega
  have hcl := cleanup_c h.bs.rep b7 hb1 (by omega) (by omega) (by rw [b3]; exact h.qs.q) (by rw [b3]; exact h.qs.qil) (by omega) (by omega) (fun i hi => by rw [hlev, b4, u0_lev h.hc.gp i hi]; exact hb1) htl (by rw [b4]; omega)
  rw [h.bs.sb] at hcl
  refine hcl.mono ?_
  rintro e w' ⟨rfl, i, s3, hcb⟩
  have ct := hcb.cut b7.wf.word
  have ek := hcb.ct.kn
  have e1 : s3.nconf = s.nconf := congrArg (fun p => p.2.2.2.1) ek
  have e2 : s3.nbMax = s.nbMax := congrArg (fun p => p.2.1) ek
  have e3 : s3.idx = s.idx := congrArg (fun p => p.2.2.1) ek
  have e4 : s3.lbdN = s.lbdN := congrArg (fun p => p.2.2.2.2.1) ek
  have hlo : ∀ j, j < i → m.lev (nth m.trail j / 2) ≤ m.lev (nth L 1 / 2) := fun j hj => by have := hcb.lo j hj; rw [hlev, b4] at this; exact this
  have hhi : ∀ j, i ≤ j → j < m.trail.length → m.lev (nth L 1 / 2) < m.lev (nth m.trail j / 2) := fun j h1 h2 => by have := hcb.hi j h1 (by rw [b4]; exact h2); rw [hlev, b4] at this; exact this
  have hil : i ≤ m.trail.length := by rw [← b4]; exact hcb.il
  have hu := HC.u0i h.hc.gp hb1 hhi
  have hlen := cut_len h.hc.core hu
  have hl1 := hcb.qcl
  rw [b4] at hl1
  have em := h.ms
  have ct2 : Cut (((m.addC c L x).watch c).addLrn c) s3.toMS i := by rw [← em]; exact ct
  have hw : ∀ d, s3.toMS.word d = (((m.addC c L x).watch c).addLrn c).word d ∨ (s3.toMS.word d = (((m.addC c L x).watch c).addLrn c).word d &&& 3221225471 ∧ ∃ k, i ≤ k ∧ k < m.trail.length ∧ m.ra (nth m.trail k / 2) = some d) := by
    intro d
    rw [← em]
    rcases hcb.wk d with e | ⟨e, k, k1, k2, k3⟩
    · exact .inl e
    · exact .inr ⟨e, k, k1, by rw [b4] at k2; exact k2, by rw [b6, b4] at k3; exact k3⟩
  obtain ⟨hH, _⟩ := h.hc.learn h.l2 h.hL h.hcn h.h2 h.h12 h.hx1 h.hx2 ct2 hil hlo hhi hw
  have hun := cut_un hcb hcb.ct.nv (nv := nv) (fun v hv hz => h.un v hv (by rw [← b5]; exact hz))
  have hid3 : c ∈ s3.ids := by rw [hcb.ct.ids]; exact b1
  refine ⟨rfl, s3, (s3.toMS.lockC c).bind (nth L 0) (some c) (m.lev (nth L 1 / 2)), h.bs.step hcb.ct.tr hcb.ct.hd hcb.ct.sb, hid3, hcb.ct.nv.trans b3, ct.word c b1, hH.ll, ?_⟩
  intro s4 w4 hr hms
  have f1 : s4.nconf = s3.nconf := congrArg (fun p => p.2.2.2.2.2.2.1) hr.kp
  have f2 : s4.nbMax = s3.nbMax := congrArg (fun p => p.2.2.2.2.1) hr.kp
  have f3 : s4.idx = s3.idx := congrArg (fun p => p.2.2.2.2.2.1) hr.kp
  have f4 : s4.lbdN = s3.lbdN := congrArg (fun p => p.2.2.2.2.2.2.2.1) hr.kp
  have q1 : s4.qc = s3.qc := congrArg (fun p => p.2.1) hr.kp
  have q2 : s4.qi = s3.qi := congrArg (fun p => p.2.2.1) hr.kp
  have hnv4 : s4.nv = s3.nv := by show s4.toMS.nv = _; rw [hms]; rfl
  have ek4 := (hr.bt hnv4).kn
  refine ⟨⟨(h.bs.step hcb.ct.tr hcb.ct.hd hcb.ct.sb).step hr.tr hr.hd hr.sb, by rw [hms, f1, f2, f3, e1, e2, e3, hNc]; exact hH, ⟨by rw [q1, q2, ← b3]; exact hcb.q, by rw [q2, hcb.qil, b3], by rw [q1, f1, e1, hNc]; omega, (h.qs.st.kn ek).kn ek4⟩, by rw [f1, f4, e1, e4, ← hB]; exact h.lb, fun v hv hz => ?_⟩, by rw [f1, e1]⟩
  rw [q1]
  have hlm : nth L 0 < (s3.toMS.lockC c).nv * 2 := by show nth L 0 < s3.nv * 2; rw [hcb.ct.nv, b3]; exact hH.ll
  have hvl : (s3.toMS.lockC c).val.length = (s3.toMS.lockC c).nv := by show s3.val.length = s3.nv; rw [hcb.ct.rep.val_len]
  rw [bind_va hvl hlm] at hz
  by_cases e : nth L 0 / 2 = v
  · rw [if_pos e] at hz
    have := sgn_abs (nth L 0) (m.lev (nth L 1 / 2))
    rw [hz] at this
    simp at this
    omega
  · rw [if_neg e] at hz
    exact hun v hv hz
end
end Go.Proofs.YtiimddkopiknpaaGreatDoor

/-
  Learned clauses that are dropped, in plain terms.
-/
namespace Go.Proofs.YtiimddkopiknpaaGreatDoor

/-- the clauses R are dropped -/
structure Red (m m' : MS) (R : List Nat) : Prop where
  nv : m'.nv = m.nv
  val : m'.val = m.val
  trail : m'.trail = m.trail
  rsn : m'.rsn = m.rsn
  lits : m'.lits = m.lits
  word : m'.word = m.word
  wb : m'.wb = m.wb
  lrn : (m'.lrn ++ R).Perm m.lrn
  ids : (m'.ids ++ R).Perm m.ids
  wl : ∀ t, t < m.nv * 2 → (m'.wl t).Perm ((m.wl t).filter fun e => !R.contains e.2)
  half : 2 * R.length ≤ m.lrn.length
  free : ∀ d ∈ R, 3 ≤ (m.lits d).length ∧ ∀ v, m.ra v ≠ some d

section
variable {F : List (List Nat)} {u0 nv jr lvl : Nat} {m m' : MS} {R : List Nat} {N nb ix nb' ix' : Int}
theorem Red.va (h : Red m m' R) (v : Nat) : m'.va v = m.va v := by unfold MS.va; rw [h.val]
theorem Red.ra (h : Red m m' R) (v : Nat) : m'.ra v = m.ra v := by unfold MS.ra; rw [h.rsn]
theorem Red.lst (h : Red m m' R) (v : Nat) : m'.lst v = m.lst v := lst_congr (h.va _)
theorem Red.lev (h : Red m m' R) (v : Nat) : m'.lev v = m.lev v := by unfold MS.lev; rw [h.va]
theorem Red.nd (h : Red m m' R) (hn : m.ids.Nodup) : (m'.ids ++ R).Nodup := h.ids.nodup_iff.2 hn
theorem Red.mem (h : Red m m' R) (hn : m.ids.Nodup) (d : Nat) : d ∈ m'.ids ↔ d ∈ m.ids ∧ d ∉ R := by
  have hnd := h.nd hn
  rw [List.nodup_append] at hnd
  have hm := h.ids.mem_iff (a := d)
  rw [List.mem_append] at hm
  constructor
  · intro hd
    exact ⟨hm.1 (.inl hd), fun hr => hnd.2.2 d hd d hr rfl⟩
  · rintro ⟨h1, h2⟩
    rcases hm.2 h1 with h' | h'
    · exact h'
    · exact (h2 h').elim
theorem Red.wle (h : Red m m' R) {t : Nat} (ht : t < m.nv * 2) (e : Nat × Nat) : e ∈ m'.wl t ↔ e ∈ m.wl t ∧ e.2 ∉ R := by
  rw [(h.wl t ht).mem_iff, List.mem_filter]
  simp
theorem HG.reduce (h : HG F u0 nv jr lvl m N nb ix) (r : Red m m' R) (hN : ix * nb ≤ N) (hix : ix' = N / nb + 1) (hnb : nb ≤ nb' ∧ nb' ≤ nb + 1000) : HG F u0 nv (jr + 1) lvl m' N (nb' + 300) ix' := by
  have hC := h.gs.core
  have hG := h.gp
  have hmem := r.mem hC.idn
  have hsub : ∀ d ∈ m'.ids, d ∈ m.ids := fun d hd => ((hmem d).1 hd).1
  have hnd' : m'.ids.Nodup := (List.nodup_append.1 (r.nd hC.idn)).1
  have hlen : m'.ids.length + R.length = m.ids.length := by have := r.ids.length_eq; simpa using this
  have hlenL : m'.lrn.length + R.length = m.lrn.length := by have := r.lrn.length_eq; simpa using this
  have hlrnsub : ∀ d ∈ m'.lrn, d ∈ m.lrn ∧ d ∈ m'.ids := by
    intro d hd
    have hndL : (m'.lrn ++ R).Nodup := r.lrn.nodup_iff.2 hG.nodup
    rw [List.nodup_append] at hndL
    have h1 := r.lrn.mem_iff.1 (List.mem_append_left R hd)
    exact ⟨h1, (hmem d).2 ⟨(hG.lrnI d h1).1, fun hr => hndL.2.2 d hd d hr rfl⟩⟩
  have hW : Wf m' := by
    have w := hC.wf
    refine ⟨by rw [r.nv]; exact w.nv0, by rw [r.nv]; exact w.nv1, fun d hd => by rw [r.lits]; exact w.len d (hsub d hd), fun d hd => by rw [r.lits, r.nv]; exact w.lit d (hsub d hd), fun d hd => by rw [r.word]; exact w.word d (hsub d hd), ?_, ?_, ?_, by rw [r.nv, r.wb]; exact w.wbl, by rw [r.trail, r.nv]; exact w.tr, by rw [r.trail]; exact w.trl⟩
    · intro t ht i hi
      rw [r.nv] at ht ⊢
      have hm := ent_mem _ _ hi
      obtain ⟨h1, h2⟩ := (r.wle ht _).1 hm
      obtain ⟨b1, b2, _, _⟩ := h.gs.wtd.en t ht _ h1
      exact ⟨hC.litlt b2 b1, (hmem _).2 ⟨b2, h2⟩⟩
    · intro t ht i hi
      rw [r.nv] at ht ⊢
      rw [r.wb] at hi ⊢
      have hm := ent_mem _ _ hi
      obtain ⟨b1, b2, b3, _, _⟩ := h.gs.wtd.wbe t ht _ hm
      exact ⟨hC.litlt b2 b1, (hmem _).2 ⟨b2, fun hr => by have := (r.free _ hr).1; omega⟩⟩
    · intro t ht
      rw [r.nv] at ht
      rw [(r.wl t ht).length_eq]
      exact Nat.le_trans (List.length_filter_le _ _) (w.wll t ht)
  have hT := hC.tl
  have hT' : Tl m' lvl := by
    refine ⟨fun v hv hz => ?_, fun i hi => ?_, fun i j hij hj => ?_, fun i hi => ?_, fun i j hi hj e h2 => ?_, fun i d hi hr => ?_, fun i j hi hr h2 hj => ?_⟩
    · rw [r.nv] at hv; rw [r.va] at hz; rw [r.trail]; exact hT.on v hv hz
    · rw [r.trail] at hi ⊢; rw [r.lst]; exact hT.tr1 i hi
    · rw [r.trail] at hj ⊢; rw [r.lev, r.lev]; exact hT.mono i j hij hj
    · rw [r.trail] at hi ⊢; rw [r.lev]; exact hT.top i hi
    · rw [r.trail] at hi hj e h2; rw [r.lev] at h2; exact hT.uni i j hi hj e h2
    · rw [r.trail] at hi hr ⊢
      rw [r.ra] at hr
      obtain ⟨b1, b2, b3⟩ := hT.rsn i d hi hr
      rw [r.lits]
      exact ⟨(hmem d).2 ⟨b1, fun hd => (r.free d hd).2 _ hr⟩, b2, b3⟩
    · rw [r.trail] at hi hr h2 ⊢
      rw [r.ra] at hr
      rw [r.lev] at h2
      rw [r.lev, r.lev]; exact hT.dec i j hi hr h2 hj
  have hC' : Core u0 lvl m' := by
    refine ⟨hW, hT', by rw [r.val, r.nv]; exact hC.vl, by rw [r.rsn, r.nv]; exact hC.rl, by rw [r.trail]; exact hC.u0l, by rw [r.trail]; exact hC.nd, fun d hd => by rw [r.lits]; exact hC.ndc d (hsub d hd), hnd', by have := hC.idl; omega, fun v hv hz => by rw [r.nv] at hv; rw [r.va] at hz; rw [r.ra]; exact hC.un v hv hz, ?_, ?_⟩
    · intro t ht e he
      rw [r.nv] at ht
      rw [r.wb] at he
      obtain ⟨b1, b2, b3, b4, b5⟩ := hC.wbe t ht e he
      rw [r.lits]
      exact ⟨b1, (hmem _).2 ⟨b2, fun hr => by have := (r.free _ hr).1; omega⟩, b3, b4, b5⟩
    · intro d hd hl y hy
      rw [r.lits] at hl hy
      rw [r.wb]
      exact hC.wba d (hsub d hd) hl y hy
  have hWt : WtD m' (fun d => d ∈ m'.ids) := by
    have w := h.gs.wtd
    refine ⟨?_, ?_, ?_, ?_, ?_, hC'.wba⟩
    · intro t ht e he
      rw [r.nv] at ht
      obtain ⟨h1, h2⟩ := (r.wle ht e).1 he
      obtain ⟨b1, b2, b3, b4⟩ := w.en t ht e h1
      rw [r.lits]
      exact ⟨b1, (hmem _).2 ⟨b2, h2⟩, b3, b4⟩
    · intro t ht
      rw [r.nv] at ht
      rw [((r.wl t ht).map Prod.snd).nodup_iff]
      exact List.Nodup.sublist (List.Sublist.map _ List.filter_sublist) (w.uniq t ht)
    · intro d hd hl k hk
      rw [r.lits] at hl ⊢
      obtain ⟨h1, h2⟩ := (hmem d).1 hd
      obtain ⟨e, he, hed⟩ := List.mem_map.1 (w.all d h1 hl k hk)
      exact List.mem_map.2 ⟨e, (r.wle (negL_lt (hC.wf.lit d h1 k (by omega))) e).2 ⟨he, by rw [hed]; exact h2⟩, hed⟩
    · intro t ht e he; exact hC'.wbe t ht e he
    · intro t ht
      rw [r.nv] at ht
      rw [r.wb]; exact w.wbu t ht
  have hPc : Pc m' m'.wl m'.trail.length := by
    refine ⟨fun i hi e he => ?_, fun i hi e he => ?_⟩
    · rw [r.trail] at hi he ⊢
      obtain ⟨h1, h2⟩ := (r.wle (hC.wf.tr i hi) e).1 he
      obtain ⟨x, x1, x2, x3⟩ := h.gs.pc.l i hi e h1
      exact ⟨x, by rw [r.lits]; exact x1, by rw [r.lst]; exact x2, by rw [r.lev, r.lev]; exact x3⟩
    · rw [r.trail] at hi he ⊢
      rw [r.wb] at he
      rw [r.lst, r.lev, r.lev]
      exact h.gs.pc.b i hi e he
  obtain ⟨hix1, hix2⟩ := hG.idx
  obtain ⟨hnb1, hnb2⟩ := hG.nbm
  have hn0 := hG.n0
  have hnbp : 0 < nb := by omega
  have hdiv : ix ≤ N / nb := (Int.le_ediv_iff_mul_le hnbp).2 hN
  have hdiv2 : N / nb ≤ N := Int.ediv_le_self _ hn0
  have hcnt := hG.cnt
  have hml := hG.len
  obtain ⟨p, p1, p2, p3, p4⟩ := hcnt
  -- how often it can have come to this
  have hjr : jr + 1 ≤ 105 := by
    have hbd := hC.bound
    have h8 := hG.n8
    have hnvE := hG.nvE
    have e1 : ((jr : Int) + 1) * (2000 + 300 * (jr : Int)) ≤ ix * nb := Int.mul_le_mul hix1 hnb1 (by omega) (by omega)
    have e2 : ((jr : Int) + 1) * (2000 + 300 * (jr : Int)) ≤ 65544 + 32768 * (jr : Int) := by omega
    apply Classical.byContradiction
    intro hn
    have hj : (105 : Int) ≤ (jr : Int) := by omega
    have e3 : ((jr : Int) + 1) * (2000 + 300 * 105) ≤ ((jr : Int) + 1) * (2000 + 300 * (jr : Int)) := Int.mul_le_mul_of_nonneg_left (by omega) (by omega)
    omega
  refine ⟨h.l1, ⟨hC', hWt, hPc⟩, ⟨r.nv.trans hG.nvE, hG.n1, hG.n8, hG.u0b, by rw [r.trail]; exact hG.u0t, ?_, ?_, ?_, ?_, ?_, ?_, hn0, by omega, by omega, hjr, by have := hG.idl; omega, fun _ => ?_, fun σ h1 h2 => hG.mod σ (fun d hd hl => by have := h1 d ((hmem d).2 ⟨hd, fun hr => hl (r.lrn.mem_iff.1 (List.mem_append_right _ hr))⟩) (fun h' => hl (hlrnsub d h').1); rw [r.lits] at this; exact this) (fun i hi => by have := h2 i hi; rw [r.trail] at this; exact this)⟩, ?_⟩
  · intro i hi d hd y hy
    rw [r.lits] at hy
    rw [r.trail]
    exact hG.cu i hi d (hsub d hd) y hy
  · refine ⟨fun σ hσ d hd => ?_, fun σ hσ j hj h1 hr => ?_⟩
    · rw [r.lits]; exact hG.sd.sat σ hσ d (hsub d hd)
    · rw [r.trail] at hj h1 hr ⊢
      rw [r.lev] at h1
      rw [r.ra] at hr
      exact hG.sd.base σ hσ j hj h1 hr
  · intro d hd
    obtain ⟨h1, h2⟩ := hlrnsub d hd
    obtain ⟨b1, b2, b3⟩ := hG.lrnI d h1
    rw [r.word, r.lits]
    exact ⟨h2, b2, b3⟩
  · rw [r.lits]
    have := (r.lrn.map fun d => maskN 16 (m.lits d)).nodup_iff.2 hG.msk
    rw [List.map_append] at this
    exact (List.nodup_append.1 this).1
  · intro v d hr hd h3
    rw [r.ra] at hr
    rw [r.lits] at h3
    rw [r.word]
    exact hG.lock v d hr (hlrnsub d hd).1 h3
  · refine ⟨p, p1, by rw [r.trail]; exact p2, fun i hi => by rw [r.trail, r.lev]; exact p3 i hi, ?_⟩
    have := r.half
    omega
  · have := r.half
    have h1 : 0 < m.lrn.length := by
      by_cases e : 1 ≤ jr
      · exact hG.lne e
      · have e0 : jr = 0 := by omega
        have hbd := hC.bound
        have h8 := hG.n8
        have hnvE := hG.nvE
        have e1 : (1 : Int) * 2000 ≤ ix * nb := Int.mul_le_mul (by omega) (by omega) (by omega) (by omega)
        omega
    omega
  · intro k k1 k2
    obtain ⟨j, hj, e⟩ := h.lvi k k1 k2
    exact ⟨j, by rw [r.trail]; exact hj, by rw [r.trail, r.lev]; exact e⟩
/-- there are clauses to drop of -/
theorem HG.lne (h : HG F u0 nv jr lvl m N nb ix) (hN : ix * nb ≤ N) : 0 < m.lrn.length := by
  have hG := h.gp
  by_cases e : 1 ≤ jr
  · exact hG.lne e
  · have e0 : jr = 0 := by omega
    have hbd := h.gs.core.bound
    have h8 := hG.n8
    have hnvE := hG.nvE
    obtain ⟨hix1, hix2⟩ := hG.idx
    obtain ⟨hnb1, hnb2⟩ := hG.nbm
    obtain ⟨p, p1, p2, p3, p4⟩ := hG.cnt
    have e1 : (1 : Int) * 2000 ≤ ix * nb := Int.mul_le_mul (by omega) (by omega) (by omega) (by omega)
    omega
end
end Go.Proofs.YtiimddkopiknpaaGreatDoor
