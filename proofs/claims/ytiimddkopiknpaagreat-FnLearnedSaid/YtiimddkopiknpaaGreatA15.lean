/-
  Decisions one by one, and the clause that is learned of the first conflict.
-/
import Derived.Test.YtiimddkopiknpaaGreatA14
import Derived.Test.YtiimddkopiknpaaGreatA11
import Derived.Test.YtiimddkopiknpaaGreatA12
import Derived.Test.YtiimddkopiknpaaGreatA07
import Derived.Test.YtiimddkopiknpaaGreatA05
set_option linter.unusedVariables false
set_option linter.unusedSimpArgs false

/-
  zzDecided: decisions taken one by one, up to the first conflict.
-/
namespace Go.Proofs.YtiimddkopiknpaaGreat
open Go.RowKit

/-- clauses closed under the values -/
def Clos (F : List (List Int)) (τ : Nat → Prop) : Prop := ∀ C ∈ fl F, Clo τ C
/-- a conflict, ready to be learned of -/
structure CW (F : List (List Int)) (nv : Nat) (ds : List Nat) (w0 : World) (lvl c : Nat) (s : St) (w : World) : Prop where
  tr : Tr eR w0 s.row w
  hd : Hd s
  core : ∃ u0, Core u0 lvl s.toMS
  l2 : 2 ≤ lvl
  lb : lvl ≤ ds.length + 1
  hc : c ∈ s.ids
  hf : ∀ y ∈ s.lits c, s.toMS.lst y = 2
  hat : ∃ y ∈ s.lits c, s.toMS.lev (y / 2) = lvl
  q : QI s.nv s.qc s.qi
  qcl : s.qc.length = s.nv
  qil : s.qi.length = s.nv
  lrn : s.lrn = []
  nv : s.nv = nv
  sat : ∀ σ, (∀ C ∈ fl F, ∃ x ∈ C, tru σ x = true) → s.toMS.Sat σ
  no : ∀ τ, Con τ → Clos F τ → ¬ ∀ d ∈ ds, τ d
def DecPost (F : List (List Int)) (nv : Nat) (ds : List Nat) (w0 : World) (e : Ending) (w : World) : Prop :=
  (e = .returned (.tuple #[.pointer none, .pointer none, .int .i64 0, .bool true]) ∧ Fr (Own eR) w0 w ∧ ∀ τ, Con τ → ¬ Clos F τ) ∨
  (∃ (p : Nat) (l : Int), e = .returned (.tuple #[.pointer (some ⟨p, 0, none⟩), .pointer none, .int .i64 l, .bool true]) ∧ Fr (Own eR) w0 w ∧ ∃ k, k < ds.length ∧ ∀ τ, Con τ → Clos F τ → (∀ d ∈ ds.take k, τ d) → τ (negL (nth ds k))) ∨
  (∃ (s : St) (c lvl : Nat), e = .returned (.tuple #[.pointer (some ⟨s.sb, 0, none⟩), .pointer (some ⟨c, 0, none⟩), .int .i64 (lvl : Int), .bool true]) ∧ CW F nv ds w0 lvl c s w) ∨
  (∃ (p : Nat) (l : Int), e = .returned (.tuple #[.pointer (some ⟨p, 0, none⟩), .pointer none, .int .i64 l, .bool false]) ∧ Fr (Own eR) w0 w ∧ ∃ τ, Con τ ∧ Clos F τ ∧ ∀ d ∈ ds, τ d)

/-- behind k decisions -/
structure DW (p : PSt) (s0 : St) (ds : List Nat) (w0 : World) (k lvl : Nat) (s : St) (w : World) : Prop where
  tr : Tr eR w0 s.row w
  hd : Hd s
  ds : DS p.us ds k lvl s.toMS
  l0 : 1 ≤ lvl
  l1 : lvl ≤ k + 1
  nv : s.nv = p.nv
  ids : s.ids = p.cs
  pm : ∀ c ∈ p.cs, (s.lits c).Perm (p.lits c)
  kp : s.keep = s0.keep
  lrn : s.lrn = []
  sb : s.sb = s0.sb

theorem PFin.split {F : List (List Int)} {p : PSt} (hF : PFin (fl F) p) {τ : Nat → Prop} (hc : Con τ) (h : Clos F τ) : (∀ u ∈ p.us, τ u) ∧ ∀ c ∈ p.cs, Clo τ (p.lits c) := by
  obtain ⟨h1, h2⟩ := (hF.eqv τ hc).1 h
  exact ⟨h1, fun c hc => h2 _ (List.mem_map_of_mem hc)⟩
theorem PFin.join {F : List (List Int)} {p : PSt} (hF : PFin (fl F) p) {τ : Nat → Prop} (hc : Con τ) (h1 : ∀ u ∈ p.us, τ u) (h2 : ∀ c ∈ p.cs, Clo τ (p.lits c)) : Clos F τ := by
  refine (hF.eqv τ hc).2 ⟨h1, fun D hD => ?_⟩
  obtain ⟨c, hc, rfl⟩ := List.mem_map.1 hD
  exact h2 c hc
section
variable {F : List (List Int)} {p : PSt} {s0 : St} {ds : List Nat} {w0 w w' : World} {k lvl : Nat} {s s1 : St}
theorem DW.clo (h : DW p s0 ds w0 k lvl s w) {τ : Nat → Prop} (h2 : ∀ c ∈ p.cs, Clo τ (p.lits c)) : ∀ c ∈ s.ids, Clo τ (s.lits c) := by
  intro c hc
  rw [h.ids] at hc
  exact (Clo.perm (h.pm c hc)).2 (h2 c hc)
theorem DW.skip (h : DW p s0 ds w0 k lvl s w) (hk : k < ds.length) (hu : s.toMS.lst (nth ds k) = 1) (n : Nat) : DW p s0 ds w0 (k + 1) lvl s (w.drewN n) :=
  ⟨h.tr.drewN n, h.hd, h.ds.skip hk hu, h.l0, by have := h.l1; omega, h.nv, h.ids, h.pm, h.kp, h.lrn, h.sb⟩
theorem DW.unsat (h : DW p s0 ds w0 k lvl s w) (hF : PFin (fl F) p) (hx : nth ds k < p.nv * 2) (hf : s.toMS.lst (nth ds k) = 2) {τ : Nat → Prop} (hc : Con τ) (hcl : Clos F τ) (hd : ∀ d ∈ ds.take k, τ d) : τ (negL (nth ds k)) := by
  obtain ⟨h1, h2⟩ := hF.split hc hcl
  exact h.ds.unsat hc h1 hd (h.clo h2) (by rw [h.nv]; exact hx) hf
theorem DW.fin (h : DW p s0 ds w0 k lvl s w) (hF : PFin (fl F) p) (hk : ds.length ≤ k) : ∃ τ, Con τ ∧ Clos F τ ∧ ∀ d ∈ ds, τ d := by
  refine ⟨_, h.ds.con, hF.join h.ds.con h.ds.units ?_, fun d hd => h.ds.hold d (by rw [List.take_of_length_le hk]; exact hd)⟩
  intro c hc
  exact (Clo.perm (h.pm c hc)).1 (h.ds.clo c (by rw [h.ids]; exact hc))
theorem DW.next {q : Nat} {n : Nat} (h : DW p s0 ds w0 k lvl s w) (hk : k < ds.length) (hl : nth ds k < p.nv * 2) (hu : s.toMS.lst (nth ds k) = 0) (hJ : JI p.us.length (lvl + 1) (s.toMS.bind (nth ds k) none (lvl + 1)) q s1.toMS) (hq : s1.trail.length ≤ q) (hr : RT s (w.drewN n) s1 w') :
    DW p s0 ds w0 (k + 1) (lvl + 1) s1 w' := by
  have hE := hJ.pi.ext
  refine ⟨(h.tr.drewN n).trans hr.tr, hr.hd, h.ds.next hk (by rw [h.nv]; exact hl) hu hJ hq, by omega, by have := h.l1; omega, ?_, ?_, ?_, hr.kp.trans h.kp, ?_, hr.sb.trans h.sb⟩
  · exact hE.nv.trans h.nv
  · exact hE.ids.trans h.ids
  · intro c hc
    exact (hE.pm c (by show c ∈ s.ids; rw [h.ids]; exact hc)).trans (h.pm c hc)
  · exact hE.lrn.trans h.lrn
theorem DW.conf {c n : Nat} (h : DW p s0 ds w0 k lvl s w) (hF : PFin (fl F) p) (hk : k < ds.length) (hl : nth ds k < p.nv * 2) (hu : s.toMS.lst (nth ds k) = 0) (hC : CI p.us.length (lvl + 1) (s.toMS.bind (nth ds k) none (lvl + 1)) c s1.toMS)
    (hr : RT s (w.drewN n) s1 w') (hq0 : QI p.nv s0.qc s0.qi) (hqc : s0.qc.length = p.nv) (hqi : s0.qi.length = p.nv) : CW F p.nv ds w0 (lvl + 1) c s1 w' := by
  obtain ⟨q, _, hP⟩ := hC.pi
  have hE := hP.ext
  have hnv : s1.nv = p.nv := hE.nv.trans h.nv
  have hids : s1.ids = p.cs := hE.ids.trans h.ids
  have hpm : ∀ c ∈ p.cs, (s1.lits c).Perm (p.lits c) := fun c hc => (hE.pm c (by show c ∈ s.ids; rw [h.ids]; exact hc)).trans (h.pm c hc)
  have hkp := hr.kp.trans h.kp
  have k1 : s1.qc = s0.qc := congrArg (fun p => p.2.1) hkp
  have k2 : s1.qi = s0.qi := congrArg (fun p => p.2.2.1) hkp
  refine ⟨(h.tr.drewN n).trans hr.tr, hr.hd, ⟨_, hP.core⟩, by have := h.l0; omega, by have := h.l1; omega, hC.hc, hC.f, hC.at_, by rw [hnv, k1, k2]; exact hq0, by rw [hnv, k1]; exact hqc, by rw [hnv, k2]; exact hqi, hE.lrn.trans h.lrn, hnv, ?_, ?_⟩
  · intro σ hσ c' hc'
    have hc' : c' ∈ s1.ids := hc'
    rw [hids] at hc'
    have hcl : Clos F (fun x => tru σ x = true) := fun C hC => Clo.tru.2 (hσ C hC)
    obtain ⟨_, h2⟩ := hF.split (Con.tru σ) hcl
    obtain ⟨x, hx, hx2⟩ := Clo.tru.1 (h2 c' hc')
    exact ⟨x, (hpm c' hc').mem_iff.2 hx, hx2⟩
  · intro τ hc hcl hd
    obtain ⟨h1, h2⟩ := hF.split hc hcl
    exact h.ds.conf hk (by rw [h.nv]; exact hl) hu hC hc h1 hd (h.clo h2)
/-- no decision is taken -/
theorem DW.start (h : NewOk p w s w') (t : Tr eR w0 p.row w) (ds : List Nat) : DW p s ds w0 0 1 s w' := by
  have hwt := h.wtd.wt
  refine ⟨t.trans h.tr, h.hd, ⟨h.core, hwt, h.pc, ?_, ?_, ?_⟩, by omega, by omega, h.nv, h.ids, ?_, rfl, h.lrn, rfl⟩
  · intro i _; rw [h.trail]
  · intro i h1 h2 _
    rw [h.trail] at h2; omega
  · intro d hd; simp at hd
  · intro c _; rw [h.lits]
end
end Go.Proofs.YtiimddkopiknpaaGreat

/-
  zzDecided, the walk.
-/
namespace Go.Proofs.YtiimddkopiknpaaGreat
open Go.RowKit

set_option maxRecDepth 100000 in
set_option maxHeartbeats 8000000 in
theorem decided_c {F : List (List Int)} {ds : List Int} {w0 : World} {g n ca nv db dn dc : Nat} (hF : FOk nv F) (hn : n = F.length) (hA : CnfAt w0 g w0.heap.size F) (hnv0 : 0 < nv) (hnv1 : nv ≤ 100000)
    (hdb : db < w0.heap.size) (hD : ∀ i x, ds[i]? = some x → w0.cell? ⟨db, i, none⟩ = some (.int .i64 x)) (hds : ∀ x ∈ ds, x ≠ 0 ∧ x.natAbs ≤ nv) (hdn : dn = ds.length) (hdl : ds.length ≤ 100000) :
    Calls Tryz.prog 20 #[.slice (some ⟨g, 0, none⟩) n ca, .int .i64 (nv : Int), .slice (some ⟨db, 0, none⟩) dn dc] w0 (DecPost F nv (ds.map litOf) w0) := by
  have hP := parseNb_c (ca := ca) hF hn hA hnv0 hnv1
  have hdl2 : dn ≤ 100000 := by omega
  replace hP := Lib.hid hP
  replace hD := Lib.hid hD
  replace hds := Lib.hid hds
  replace hdn := Lib.hid hdn
  clear hF hn hA
  go_enter Tryz.func20, Tryz.ntmps20
  go_upto_region 2 with (go_at_call 30; refine hP.out.mono ?_; rintro e w1 ⟨p, rfl, hT, hpn, hp⟩; replace hpn := Lib.hid hpn; replace hp := Lib.hid hp; replace hT := Lib.hid hT)
  have f2 : w1.cell? ⟨p.pb, 2, none⟩ = some (.int .u8 (p.st : Int)) := PSt.pbc hT.out.rows (j := 2) rfl
  rcases hp.out with ⟨hst, hno⟩ | ⟨hPF, hmv⟩
  · have hstI : ((p.st : Int) == 2) = true := by rw [hst]; rfl
    have hfin : DecPost F nv (ds.map litOf) w0 (.returned (.tuple #[.pointer none, .pointer none, .int .i64 0, .bool true])) w1 := .inl ⟨rfl, hT.out.fr, hno⟩
    replace hfin := Lib.hid hfin
    replace hst := Lib.hid hst
    replace hno := Lib.hid hno
    go_wp2_with fail
    go_returns
    exact hfin.out
  · have hst : p.st < 2 := by rw [hPF.st]; split <;> omega
    have hstI : ((p.st : Int) == 2) = false := by simp; omega
    have hN := new_c hT.out.rows hPF (by rw [hpn.out]; exact hnv0) (by rw [hpn.out]; exact hnv1) hmv
    replace hN := Lib.hid hN
    replace hPF := Lib.hid hPF
    replace hmv := Lib.hid hmv
    clear hst
    go_wp2_with (go_at_call 31; refine hN.out.mono ?_; rintro e w2 ⟨s0, rfl, hO⟩; replace hO := Lib.hid hO)
    have hS := DW.start hO.out hT.out (ds.map litOf)
    replace hS := Lib.hid hS
    clear f2
    go_loopw [12, 29] (fun v12 v29 wr => ∃ (k lvl : Nat) (s : St), v12 = .int .i64 (lvl : Int) ∧ v29 = .int .i64 (k : Int) ∧ k ≤ dn ∧ DW p s0 (ds.map litOf) w0 k lvl s wr) (fun _ v29 _ => dn - (intOf v29).toNat)
    case atStart => exact ⟨0, 1, s0, rfl, rfl, Nat.zero_le _, hS.out⟩
    case round =>
      clear hS
      obtain ⟨k, lvl, s, rfl, rfl, hk, hW⟩ := hrel
      have hsb := hW.sb
      have hnv : s.nv = nv := hW.nv.trans hpn.out
      by_cases hlt : k < dn
      · have hkI : (k : Int) < (dn : Int) := by omega
        have hkd : k < ds.length := by have := hdn.out; omega
        have hkm : k < (ds.map litOf).length := by rw [List.length_map]; exact hkd
        obtain ⟨x, hx⟩ : ∃ x, x = ds[k] := ⟨_, rfl⟩
        have hxc : wr.cell? ⟨db, k, none⟩ = some (.int .i64 x) := by
          have e := hD.out k x (by rw [hx]; exact List.getElem?_eq_getElem hkd)
          rw [hW.tr.fr.cell hdb eR_own]; exact e
        have hx0 := hds.out x (by rw [hx]; exact List.getElem_mem hkd)
        have hl : nth (ds.map litOf) k = litOf x := by rw [nth_lt _ _ hkm, List.getElem_map, hx]
        have hlx : litOf x < nv * 2 := by have := litOf_div x hx0.1; omega
        have hw32 : IntKind.i32.wrap x = x := IntWalk.i32_in _ (by omega)
        have hI := fun w => IntToLit_c x w hx0.1 (by omega)
        have hR : Rep s wr := ⟨hW.tr.rows, hW.hd⟩
        obtain ⟨st, hst⟩ : ∃ st, s.toMS.lst (litOf x) = st := ⟨_, rfl⟩
        have hSt := litStatus_c hR (l := litOf x) (by rw [hnv]; exact hlx) (by rw [hnv]; omega) st hst
        rw [hsb] at hSt
        have hlp : nth (ds.map litOf) k < p.nv * 2 := by rw [hl, hpn.out]; exact hlx
        have h3 : st = 0 ∨ st = 1 ∨ st = 2 := by
          rw [← hst]; unfold MS.lst
          split
          · exact .inl rfl
          · split
            · exact .inr (.inl rfl)
            · exact .inr (.inr rfl)
        have hlvl := hW.l1
        have hlv0 := hW.l0
        have hun : st = 0 → ∀ q, Calls Tryz.prog 34 #[.pointer (some ⟨s0.sb, 0, none⟩), .int .i32 (litOf x : Int), .int .i64 ((lvl + 1 : Nat) : Int)] (wr.drewN q) fun e w' =>
            (e = .returned (.pointer none) ∧ ∃ s1, DW p s0 (ds.map litOf) w0 (k + 1) (lvl + 1) s1 w') ∨ (∃ c s1, e = .returned (.pointer (some ⟨c, 0, none⟩)) ∧ s1.sb = s0.sb ∧ CW F nv (ds.map litOf) w0 (lvl + 1) c s1 w') := by
          intro h0 q
          rw [h0] at hst
          have hb : p.us.length + s.nv ≤ 1000000000 := by have := hPF.out.usl; omega
          have hstart := hW.ds.start (l := litOf x) (by rw [hnv]; exact hlx) hst hlv0 hb
          have hPr := pri (u0 := p.us.length) (lvl := lvl + 1) (m0 := s.toMS.bind (litOf x) none (lvl + 1)) (by omega) hb
          have hU := unify_c (hR.drewN q) (l := litOf x) (lvl := ((lvl + 1 : Nat) : Int)) (by rw [hnv]; exact hlx) (by rw [hnv]; omega) (by have := hW.ds.core.wf.trl; exact this) (by omega) (by omega) hPr (by rw [hstart.2]; exact hstart.1)
          rw [hsb] at hU
          refine hU.mono ?_
          rintro e w' (⟨rfl, s1, q1, z1, z2, z3, _⟩ | ⟨s1, c, rfl, z1, z2, z3⟩)
          · exact .inl ⟨rfl, s1, hW.next hkm hlp (by rw [hl]; exact hst) (by rw [hl]; exact z1) z2 z3⟩
          · have hc := hW.conf hPF.out hkm hlp (by rw [hl]; exact hst) (by rw [hl]; exact z1) z2 (by rw [← hO.out.nv]; exact hO.out.q) (by rw [← hO.out.nv]; exact hO.out.qcl) (by rw [← hO.out.nv]; exact hO.out.qil)
            rw [hpn.out] at hc
            exact .inr ⟨c, s1, rfl, z3.trans hsb, hc⟩
        have hfin2 : st = 2 → ∀ q, DecPost F nv (ds.map litOf) w0 (.returned (.tuple #[.pointer (some ⟨s0.sb, 0, none⟩), .pointer none, .int .i64 (lvl : Int), .bool true])) (wr.drewN q) := by
          intro h2 q
          rw [h2] at hst
          exact .inr (.inl ⟨_, _, rfl, (hW.tr.drewN q).fr, k, hkm, fun τ hc hcl hd => hW.unsat hPF.out hlp (by rw [hl]; exact hst) hc hcl hd⟩)
        have hskip : st = 1 → ∀ q, DW p s0 (ds.map litOf) w0 (k + 1) lvl s (wr.drewN q) := by
          intro h1 q
          rw [h1] at hst
          exact hW.skip hkm (by rw [hl]; exact hst) q
        have hwl : IntKind.i64.wrap ((lvl : Int) + 1) = ((lvl + 1 : Nat) : Int) := by rw [IntWalk.i64_in _ (by omega)]; omega
        replace hun := Lib.hid hun
        replace hfin2 := Lib.hid hfin2
        replace hskip := Lib.hid hskip
        replace hW := Lib.hid hW
        replace hSt := Lib.hid hSt
        replace hx := Lib.hid hx
        replace hl := Lib.hid hl
        replace hst := Lib.hid hst
        clear hR hsb hnv
        rcases h3 with rfl | rfl | rfl
        · have hu := hun.out rfl
          replace hu := Lib.hid hu
          clear hfin2 hskip hun
          go_wp2_with (first
            | (go_at_call 32; refine Calls.ret (hI _) ?_)
            | (go_at_call 33; refine Calls.retq hSt.out ?_; intro q1)
            | (go_at_call 34; refine (hu.out q1).mono ?_; rintro e w3 (⟨rfl, s1, hz⟩ | ⟨c, s1, rfl, hsb1, hz⟩) <;> replace hz := Lib.hid hz))
          · exact ⟨⟨k + 1, lvl + 1, s1, by go_num, by go_num, by omega, hz.out⟩, by simp [intOf]; omega⟩
          · have hfin : DecPost F nv (ds.map litOf) w0 (.returned (.tuple #[.pointer (some ⟨s0.sb, 0, none⟩), .pointer (some ⟨c, 0, none⟩), .int .i64 ((lvl : Int) + 1), .bool true])) w3 :=
              .inr (.inr (.inl ⟨s1, c, lvl + 1, by rw [hsb1]; rfl, hz.out⟩))
            replace hfin := Lib.hid hfin
            clear hsb1
            go_returns
            exact hfin.out
        · have hu := hskip.out rfl
          replace hu := Lib.hid hu
          clear hfin2 hskip hun
          go_wp2_with (first
            | (go_at_call 32; refine Calls.ret (hI _) ?_)
            | (go_at_call 33; refine Calls.retq hSt.out ?_; intro q1))
          exact ⟨⟨k + 1, lvl, s, rfl, by go_num, by omega, hu.out q1⟩, by simp [intOf]; omega⟩
        · have hu := hfin2.out rfl
          replace hu := Lib.hid hu
          clear hfin2 hskip hun
          go_wp2_with (first
            | (go_at_call 32; refine Calls.ret (hI _) ?_)
            | (go_at_call 33; refine Calls.retq hSt.out ?_; intro q1))
          go_returns
          exact hu.out q1
      · have hkI : ¬ ((k : Int) < (dn : Int)) := by omega
        have e : k = dn := by omega
        subst e
        have hfin : DecPost F nv (ds.map litOf) w0 (.returned (.tuple #[.pointer (some ⟨s0.sb, 0, none⟩), .pointer none, .int .i64 (lvl : Int), .bool false])) wr :=
          .inr (.inr (.inr ⟨_, _, rfl, hW.tr.fr, hW.fin hPF.out (by rw [List.length_map, hdn.out]; exact Nat.le_refl _)⟩))
        replace hfin := Lib.hid hfin
        replace hW := Lib.hid hW
        clear hsb hnv
        go_wp2_with fail
        go_returns
        exact hfin.out
end Go.Proofs.YtiimddkopiknpaaGreat

/-
  ZZLearned: the clause that is learned of the first conflict, as numbers.
-/
namespace Go.Proofs.YtiimddkopiknpaaGreat
open Go.RowKit

/-- a literal as a number -/
def intL (l : Nat) : Int := if l % 2 = 0 then (l / 2 : Nat) + 1 else -((l / 2 : Nat) + 1)
theorem litOf_intL (l : Nat) : litOf (intL l) = l := by unfold litOf intL; split <;> split <;> omega
theorem intL_ne (l : Nat) : intL l ≠ 0 := by unfold intL; split <;> omega
theorem intL_litOf {x : Int} (h : x ≠ 0) : intL (litOf x) = x := litOf_inj (intL_ne _) h (litOf_intL _)

set_option maxRecDepth 100000 in
theorem Int_c (l : Nat) (w : World) (hl : l < 2147483646) : Calls Tryz.prog 22 #[.int .i32 (l : Int)] w fun e w' => e = .returned (.int .i32 (intL l)) ∧ w' = w := by
  have hb0 := bits_one l (by omega)
  by_cases hp : l % 2 = 0
  · have e : intL l = (l : Int) / 2 + 1 := by unfold intL; rw [if_pos hp]; omega
    rw [e]
    have hb : (bits .and .i32 (l : Int) 1 == 1) = false := by rw [hb0, hp]; rfl
    clear e hb0
    go_enter Tryz.func22, Tryz.ntmps22
    go_wp2_with fail
    go_ret
    exact ⟨rfl, rfl⟩
  · have e : intL l = -((l : Int) / 2 + 1) := by unfold intL; rw [if_neg hp]; omega
    rw [e]
    have hb : (bits .and .i32 (l : Int) 1 == 1) = true := by rw [hb0, show l % 2 = 1 by omega]; rfl
    clear e hb0
    go_enter Tryz.func22, Tryz.ntmps22
    go_wp2_with fail
    go_ret
    exact ⟨rfl, rfl⟩

def outR (V : Value) (L : List Nat) : Unit → Row := fun _ => ⟨3, 1, V, L.length, L.map fun l => i64 (intL l)⟩
def LPost (F : List (List Int)) (nv : Nat) (ds : List Nat) (w0 : World) (e : Ending) (w : World) : Prop :=
  (e = .returned (.tuple #[.slice none 0 0, .bool false]) ∧ Fr (Own eR) w0 w ∧ ((∀ τ, Con τ → ¬ Clos F τ) ∨ (∃ k, k < ds.length ∧ ∀ τ, Con τ → Clos F τ → (∀ d ∈ ds.take k, τ d) → τ (negL (nth ds k))) ∨ ∃ τ, Con τ ∧ Clos F τ ∧ ∀ d ∈ ds, τ d)) ∨
  (∃ (V : Value) (L : List Nat), e = .returned (.tuple #[V, .bool true]) ∧ Fr (Own eR) w0 w ∧ Rows (outR V L) w ∧ (∀ b, V.ownBlock = some b → w0.heap.size ≤ b) ∧ 1 ≤ L.length ∧ L.length ≤ 100 ∧ (∀ x ∈ L, x < nv * 2) ∧ (L.map (· / 2)).Nodup ∧
    (∀ σ, (∀ C ∈ fl F, ∃ x ∈ C, tru σ x = true) → ∃ x ∈ L, tru σ x = true) ∧ ∀ τ, Con τ → Clos F τ → ¬ ∀ d ∈ ds, τ d)

set_option maxRecDepth 100000 in
set_option maxHeartbeats 8000000 in
theorem zlearned_c {F : List (List Int)} {ds : List Int} {w0 : World} {g n ca nv db dn dc : Nat} (hF : FOk nv F) (hn : n = F.length) (hA : CnfAt w0 g w0.heap.size F) (hnv0 : 0 < nv) (hnv1 : nv ≤ 11)
    (hdb : db < w0.heap.size) (hD : ∀ i x, ds[i]? = some x → w0.cell? ⟨db, i, none⟩ = some (.int .i64 x)) (hds : ∀ x ∈ ds, x ≠ 0 ∧ x.natAbs ≤ nv) (hdn : dn = ds.length) (hdl : ds.length ≤ 100000) :
    Calls Tryz.prog 15 #[.slice (some ⟨g, 0, none⟩) n ca, .int .i64 (nv : Int), .slice (some ⟨db, 0, none⟩) dn dc] w0 (LPost F nv (ds.map litOf) w0) := by
  have hP := decided_c (ca := ca) (dc := dc) hF hn hA hnv0 (by omega) hdb hD hds hdn hdl
  have hdl2 : (ds.map litOf).length ≤ 100000 := by rw [List.length_map]; exact hdl
  obtain ⟨dl, hdle⟩ : ∃ dl, dl = ds.map litOf := ⟨_, rfl⟩
  rw [← hdle] at hP hdl2 ⊢
  replace hP := Lib.hid hP
  clear hF hn hA hdb hD hds hdn hdl hdle
  obtain ⟨iN, hiN, hz0, hz1, hz2⟩ := info_parts infoInt
  go_enter Tryz.func15, Tryz.ntmps15
  go_upto_region 2 with (go_at_call 20; refine hP.out.mono ?_; rintro e w1 (⟨rfl, h1, h2⟩ | ⟨p, l, rfl, h1, h2⟩ | ⟨s, c, lvl, rfl, h1⟩ | ⟨p, l, rfl, h1, h2⟩))
  · have hfin : LPost F nv dl w0 (.returned (.tuple #[.slice none 0 0, .bool false])) w1 := .inl ⟨rfl, h1, .inl h2⟩
    replace hfin := Lib.hid hfin
    clear h1 h2
    go_wp2_with fail
    go_returns
    exact hfin.out
  · have hfin : LPost F nv dl w0 (.returned (.tuple #[.slice none 0 0, .bool false])) w1 := .inl ⟨rfl, h1, .inr (.inl h2)⟩
    replace hfin := Lib.hid hfin
    clear h1 h2
    go_wp2_with fail
    go_returns
    exact hfin.out
  · obtain ⟨u0, hC⟩ := h1.core
    have hL := learn_c ⟨h1.tr.rows, h1.hd⟩ hC h1.l2 (by have := h1.lb; omega) h1.hc h1.hf h1.hat h1.q (by rw [h1.qcl, h1.nv]; omega) (by rw [h1.qil, h1.nv]; omega) (by rw [h1.lrn]; intro c hc; cases hc) (by rw [h1.lrn]; decide) (by rw [h1.nv]; exact hnv1) (by rw [h1.qil, h1.nv]; exact hnv0)
    replace hL := Lib.hid hL
    replace h1 := Lib.hid h1
    clear hC
    go_upto_region 5 with (go_at_call 21; refine hL.out.mono ?_; rintro e w2 (⟨l, s', rfl, h2, h3⟩ | ⟨c', L, x, s', rfl, h2, hl1, hl2, h3, h4, h5, h6⟩))
    · have hlt : l < nv * 2 := by have := (h2.fl l (by simp)).2; rw [h1.out.nv] at this; exact this
      have hlI : ((l : Int) == -1) = false := by simp
      have hI := fun w => Int_c l w (by omega)
      have hw32 : IntKind.i64.wrap (intL l) = intL l := IntWalk.i64_in _ (by unfold intL; split <;> omega)
      have hfin : LPost F nv dl w0 (.returned (.tuple #[.slice (some ⟨w2.heap.size, 0, none⟩) 1 1, .bool true])) (w2.alloc (.cells #[.int .i64 (intL l)] 3)) := by
        refine .inr ⟨_, [l], rfl, ((h1.out.tr.trans h3.tr).alloc _).fr, ?_, ?_, by simp, by simp, by simpa using hlt, by simp, ?_, h1.out.no⟩
        · refine ⟨fun _ => ?_, fun _ _ _ _ _ => rfl⟩
          exact own_new w2 3 1 1 [.int .i64 (intL l)] (by decide) rfl
        · intro b hb
          have hb : some w2.heap.size = some b := hb
          injection hb with hb
          rw [← hb]; exact (h1.out.tr.trans h3.tr).fr.size
        · intro σ hσ; exact h2.snd σ (h1.out.sat σ hσ)
      replace hfin := Lib.hid hfin
      replace h2 := Lib.hid h2
      replace h3 := Lib.hid h3
      replace hI := hI
      go_wp2_with (go_at_call 22; refine Calls.ret (hI _) ?_)
      go_returns
      exact hfin.out
    · have hm := h6.ms
      have hcm : c' ∈ s'.ids := by
        have e : s'.ids = c' :: s.ids := congrArg MS.ids hm
        rw [e]; exact List.mem_cons_self
      have hlc : s'.lits c' = L := by
        have e : s'.lits = fun c'' => if c'' = c' then L else s.lits c'' := congrArg MS.lits hm
        rw [e]; exact if_pos rfl
      have hR : Rep s' w2 := ⟨h6.tr.rows, h6.hd⟩
      have c0 : w2.cell? ⟨c', 0, none⟩ = some (s'.litV c') := hR.clc hcm (j := 0) rfl
      obtain ⟨lb, lcap, hlv, _, _, hlit, _⟩ := hR.lits hcm (by rw [hlc]; omega)
      rw [hlv, hlc] at c0
      rw [hlc] at hlit
      have hlt : ∀ y ∈ L, y < nv * 2 := fun y hy => by have := (h2.fl y hy).2; rw [h1.out.nv] at this; exact this
      obtain ⟨n2, hn2⟩ : ∃ n2, n2 = L.length := ⟨_, rfl⟩
      have hT0 : Tr s'.row w2 (Sum.elim s'.row (outR (.slice none 0 0) (L.take 0))) w2 := by
        have e := hR.rows.rename (ρ' := Sum.elim s'.row (outR (.slice none 0 0) (L.take 0))) (Sum.elim some (fun _ => none)) (by
          intro r' r hr
          rcases r' with r' | r'
          · cases hr; rfl
          · cases hr) (by
          intro r' hr
          rcases r' with r' | r'
          · cases hr
          · exact ⟨rfl, rfl, rfl⟩) (by
          intro r1 r2 r h1 h2
          rcases r1 with r1 | r1 <;> rcases r2 with r2 | r2
          · cases h1; cases h2; rfl
          · cases h2
          · cases h1
          · cases h1)
        exact ⟨e.1, Fr.refl _ _, fun b hb => .inl (e.2 b hb)⟩
      have hfin : ∀ V w3, Tr s'.row w2 (Sum.elim s'.row (outR V L)) w3 → LPost F nv dl w0 (.returned (.tuple #[V, .bool true])) w3 := by
        intro V w3 ht
        have hbig := (h1.out.tr.trans h6.tr).trans ht
        refine .inr ⟨V, L, rfl, hbig.fr, ht.rows.right, ?_, h2.ne, by omega, hlt, h2.nd, fun σ hσ => h2.snd σ (h1.out.sat σ hσ), h1.out.no⟩
        intro b hb
        rcases hbig.own b ⟨.inr (), hb⟩ with h' | h'
        · exact (eR_own h').elim
        · exact h'
      have hlitv : ∀ i (w3 : World) V, i < n2 → Tr s'.row w2 (Sum.elim s'.row (outR V (L.take i))) w3 → w3.cell? ⟨lb, i, none⟩ = some (.int .i32 (nth L i : Nat)) := by
        intro i w3 V hi ht
        have e := ht.rows.cell (.inl (.li c')) (b := lb) (by show (s'.row (.li c')).v.ownBlock = _; simp [St.row, hcm, hlv, Value.ownBlock]) (j := i) (u := i32 (nth L i)) (by
          show (s'.row (.li c')).xs[i]? = _
          simp only [St.row, hcm, if_true, hlc]
          exact getElem?_map_getD i32 L 0 i (by omega))
        exact e
      rw [← hn2] at hl1 hl2 c0
      replace hT0 := Lib.hid hT0
      replace hfin := Lib.hid hfin
      replace hlitv := Lib.hid hlitv
      replace hlt := Lib.hid hlt
      replace hn2 := Lib.hid hn2
      replace h2 := Lib.hid h2
      replace h6 := Lib.hid h6
      replace hm := Lib.hid hm
      replace hlv := Lib.hid hlv
      clear hlit hR hcm hlc h4 h5 h3
      go_wp2_with fail
      go_loopw [14, 48] (fun v14 v48 wr => ∃ i : Nat, v48 = .int .i64 (i : Int) ∧ i ≤ n2 ∧ Tr s'.row w2 (Sum.elim s'.row (outR v14 (L.take i))) wr) (fun _ v48 _ => n2 - (intOf v48).toNat)
      case atStart => exact ⟨0, rfl, Nat.zero_le _, hT0.out⟩
      case round =>
        obtain ⟨i, rfl, hi, ht⟩ := hrel
        by_cases hlt2 : i < n2
        · have hiI : (i : Int) < (n2 : Int) := by omega
          have ci := hlitv.out i wr _ hlt2 ht
          have hil : i < L.length := by have := hn2.out; omega
          have hll := hlt.out _ (nth_mem L i hil)
          have htk : L.take (i + 1) = L.take i ++ [nth L i] := by rw [List.take_succ_eq_append_getElem hil, nth_lt _ _ hil]
          obtain ⟨l, hl⟩ : ∃ l, l = nth L i := ⟨_, rfl⟩
          rw [← hl] at ci hll htk
          replace hl := Lib.hid hl
          replace htk := Lib.hid htk
          have hI := fun w => Int_c l w (by omega)
          have hw32 : IntKind.i64.wrap (intL l) = intL l := IntWalk.i64_in _ (by unfold intL; split <;> omega)
          have hlen : (L.take i).length = i := by rw [List.length_take]; omega
          have hlen1 : (L.take i).length ≤ 12 := by omega
          replace hlen := Lib.hid hlen
          replace ht := Lib.hid ht
          clear hil
          go_wp2_with (first
            | (go_at_call 22; refine Calls.ret (hI _) ?_)
            | (at_builtin; apply keepHid))
          refine Lib.hid ?_
          refine wpList_append_rows rfl _ _ 23 rfl 3 iN (.int .i64 0) 1 8 Tryz.underlying23 hiN hz0 hz1 hz2 rfl (by decide) _ (L.take i).length ((L.take i).map fun l => i64 (intL l)) rfl ((ht.out.alloc _).rows.own (.inr ())) ⟨wr.heap.size, 0, none⟩ 1 1 [i64 (intL l)] rfl rfl (cell_new_one1 _ _ _ _ rfl) (by simp [i64, Value.oneCell']) (by unfold maxLen; omega) (by omega) ?_
          intro V' w4 ho hg hf
          have t2 := (ht.out.alloc (.cells #[.int .i64 (intL l)] 3)).rows.grow (ρ' := Sum.elim s'.row (outR V' (L.take (i + 1)))) (.inr ()) ho hg hf (by
            rw [htk.out]
            show (⟨_, _, _, _, _⟩ : Row) = ⟨_, _, _, _, _⟩
            simp [outR]) (by
            intro r hr
            rcases r with r | r
            · rfl
            · exact (hr rfl).elim)
          have t3 := (ht.out.alloc _).trans t2
          obtain ⟨g4, cap4, rfl, _, _⟩ := own_form ho (by omega)
          replace t3 := Lib.hid t3
          clear ho hg hf t2
          go_wp2_with fail
          have t4 := t3.out
          rw [List.length_take] at t4
          exact ⟨⟨i + 1, by go_num, by omega, t4⟩, by simp [intOf]; omega⟩
        · have hiI : ¬ ((i : Int) < (n2 : Int)) := by omega
          have e : i = L.length := by have := hn2.out; omega
          rw [e, List.take_length] at ht
          rw [e] at hiI
          have hf := hfin.out _ _ ht
          replace hf := Lib.hid hf
          replace ht := Lib.hid ht
          clear hlt2 hi
          subst e
          go_wp2_with fail
          go_returns
          exact hf.out
  · have hfin : LPost F nv dl w0 (.returned (.tuple #[.slice none 0 0, .bool false])) w1 := .inl ⟨rfl, h1, .inr (.inr h2)⟩
    replace hfin := Lib.hid hfin
    clear h1 h2
    go_wp2_with fail
    go_returns
    exact hfin.out
end Go.Proofs.YtiimddkopiknpaaGreat
