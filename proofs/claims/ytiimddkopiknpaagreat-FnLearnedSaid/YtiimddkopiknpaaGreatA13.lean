/-
  The watch lists of a new solver.
-/
import Derived.Test.YtiimddkopiknpaaGreatA12
import Derived.Test.YtiimddkopiknpaaGreatA05
set_option linter.unusedVariables false
set_option linter.unusedSimpArgs false

/-
  initWatcherList: the watch lists are made, and each clause is watched.
-/
namespace Go.Proofs.YtiimddkopiknpaaGreat
open Go.RowKit

theorem infoCp3 : (Tryz.prog.info? 49).map (fun i => (i.zero, i.size, i.bytes)) = some (some (.pointer none), 1, 8) := by kernel_rfl
theorem quiet_build {P : Program} {a : Act} {o : Oper} {t : TypeId} {parts : Array (Nat × Operand)} {L : Array (Nat × Value)} {w : World} {V V' : Value} (ho : o.op = .build t parts) (hL : (parts.map fun (i, x) => (i, a.eval x)) = L)
    (hb : (Instr.build t L).run P w = .ok V' w) (hV : V' = V) : Oper.quietUpon P (fun w'' => w'' = w) w V ((execOp a.eval o).run P w) := by
  subst hV hL
  unfold execOp
  simp only [ho, Sem.run_bind, hb, Result.andThen_ok, Sem.run_pure]
  exact ⟨rfl, rfl⟩

def val3 (sb nv ob n : Nat) (b : Nat → Nat) : Nat → Value
  | 0 => .pointer (some ⟨sb, 0, none⟩)
  | 1 => .int .i64 2000
  | 2 => .pointer (some ⟨sb, 0, none⟩)
  | 3 => .pointer (some ⟨sb, 0, none⟩)
  | 4 => .pointer (some ⟨sb, 4, none⟩)
  | 5 => .int .i64 (nv : Int)
  | 6 => .int .i64 ((nv * 2 : Nat) : Int)
  | 7 => slV (b 7) (nv * 2)
  | 8 => .pointer (some ⟨sb, 0, none⟩)
  | 9 => .pointer (some ⟨sb, 0, none⟩)
  | 10 => .pointer (some ⟨sb, 4, none⟩)
  | 11 => .int .i64 (nv : Int)
  | 12 => .int .i64 ((nv * 2 : Nat) : Int)
  | 13 => slV (b 13) (nv * 2)
  | 14 => .pointer (some ⟨sb, 0, none⟩)
  | 15 => .pointer (some ⟨sb, 0, none⟩)
  | 16 => .pointer (some ⟨sb, 4, none⟩)
  | 17 => .int .i64 (nv : Int)
  | 18 => .int .i64 ((nv * 2 : Nat) : Int)
  | 19 => slV (b 19) (nv * 2)
  | 20 => .pointer (some ⟨sb, 0, none⟩)
  | 21 => .pointer (some ⟨sb, 0, none⟩)
  | 22 => .pointer (some ⟨sb, 4, none⟩)
  | 23 => .int .i64 (nv : Int)
  | 24 => .int .i64 ((nv * 2 : Nat) : Int)
  | 25 => slV (b 25) (nv * 2)
  | 26 => slV ob n
  | 27 => .agg #[.int .i64 2000, .int .i64 1, slV (b 7) (nv * 2), slV (b 13) (nv * 2), slV (b 19) (nv * 2), slV (b 25) (nv * 2), slV ob n, .slice none 0 0]
  | 28 => .pointer (some ⟨sb, 0, none⟩)
  | 29 => .pointer (some ⟨sb, 6, none⟩)
  | _ => undef
def mk3 : Nat → Bool
  | 7 => true
  | 13 => true
  | 19 => true
  | 25 => true
  | _ => false
def made3 (nv : Nat) : Nat → Array Value × TypeId
  | 7 => (Array.replicate (nv * 2) (.slice none 0 0), 130)
  | 13 => (Array.replicate (nv * 2) (.slice none 0 0), 130)
  | 19 => (Array.replicate (nv * 2) (.slice none 0 0), 71)
  | 25 => (Array.replicate (nv * 2) (.slice none 0 0), 71)
  | _ => (#[], 0)
def pl3 (sb nv ob n : Nat) : Plan := ⟨fun i => 14 + i, val3 sb nv ob n, mk3, fun _ => made3 nv⟩

/-- the solver behind the making of the watch lists -/
def St.initW (s : St) (b1 b2 b3 b4 ob : Nat) : St :=
  { s with sc := setsL s.sc 6 [.int .i64 2000, .int .i64 1, slV b1 (s.nv * 2), slV b2 (s.nv * 2), slV b3 (s.nv * 2), slV b4 (s.nv * 2), slV ob s.ids.length, .slice none 0 0],
           wbHB := b1, wlHB := b2, pbHB := b3, amoHB := b4, origV := slV ob s.ids.length, orig := s.ids, nbMax := 2000, idx := 1 }
/-- with the list of the clauses -/
def St.preO (s : St) (ob : Nat) (xs : List Value) : Role → Row
  | .orig => ⟨49, 1, slV ob s.ids.length, s.ids.length, xs⟩
  | r => s.pre r
/-- with the watch lists' headers, not yet in the solver's cells -/
def St.preW (s : St) (s' : St) : Role → Row
  | .sol => s.row .sol
  | r => s'.row r

structure SameMS (m m0 : MS) : Prop where
  nv : m.nv = m0.nv
  val : m.val = m0.val
  trail : m.trail = m0.trail
  rsn : m.rsn = m0.rsn
  lits : m.lits = m0.lits
  word : m.word = m0.word
  ids : m.ids = m0.ids
  orig : m.orig = m0.orig
  lrn : m.lrn = m0.lrn
theorem SameMS.watch {m m0 : MS} (h : SameMS m m0) (c : Nat) : SameMS (m.watch c) m0 := by
  obtain ⟨a1, a2, a3, a4, a5, a6, a7, a8, a9⟩ := watch_same m c
  exact ⟨a1.trans h.nv, a2.trans h.val, a3.trans h.trail, a4.trans h.rsn, a5.trans h.lits, a6.trans h.word, a7.trans h.ids, a8.trans h.orig, a9.trans h.lrn⟩
/-- what the watch lists are made of -/
structure WPre (S : St) : Prop where
  len : ∀ c ∈ S.ids, 2 ≤ (S.lits c).length ∧ (S.lits c).length ≤ 1000000
  lit : ∀ c ∈ S.ids, ∀ x ∈ S.lits c, x < S.nv * 2
  nd : S.ids.Nodup
  ndv : ∀ c ∈ S.ids, ((S.lits c).map (· / 2)).Nodup
  wd : ∀ c, S.word c = 0
  wl : ∀ t, S.wl t = []
  wb : ∀ t, S.wb t = []
  wlV : S.wlV = fun _ => .slice none 0 0
  wbV : S.wbV = fun _ => .slice none 0 0
  tr : ∀ i, i < S.trail.length → nth S.trail i < S.nv * 2
  trl : S.trail.length ≤ 1000000000
  hd : ∀ b1 b2 b3 b4 ob, Hd (S.initW b1 b2 b3 b4 ob)
/-- i clauses are watched -/
structure WLp (S0 : St) (σ : PK → Row) (w0 : World) (i : Nat) (s : St) (w : World) : Prop where
  tr : Tr (Sum.elim S0.pre σ) w0 (Sum.elim s.row σ) w
  hd : Hd s
  kp : s.keep = (S0.initW 0 0 0 0 0).keep
  ms : SameMS s.toMS (S0.initW 0 0 0 0 0).toMS
  wt : WtD s.toMS (fun c => c ∈ S0.ids.take i)
theorem WLp.wf {S0 : St} {σ : PK → Row} {w0 w : World} {i : Nat} {s : St} (h : WLp S0 σ w0 i s w) (hp : WPre S0) (n1 : 1 ≤ S0.nv) (n2 : S0.nv ≤ 100000) (hil : S0.ids.length ≤ 1000000) : Wf s.toMS := by
  have hi : s.ids = S0.ids := h.ms.ids
  have hn : s.nv = S0.nv := h.ms.nv
  have hl : s.lits = S0.lits := h.ms.lits
  have ht : s.trail = S0.trail := h.ms.trail
  refine h.wt.wf ?_ ?_ ?_ ?_ ?_ ?_ ?_ ?_ ?_
  · intro c hc; rw [hi]; exact List.mem_of_mem_take hc
  · rw [hi]; omega
  · rw [hn]; exact n1
  · rw [hn]; omega
  · rw [hi, hl]; exact hp.len
  · rw [hi, hl, hn]; exact hp.lit
  · intro c _
    have e : s.word = S0.word := h.ms.word
    rw [e, hp.wd]; decide
  · rw [ht, hn]; exact hp.tr
  · rw [ht]; exact hp.trl
theorem WLp.step {S0 s s' : St} {σ : PK → Row} {w0 w w' : World} {i : Nat} (h : WLp S0 σ w0 i s w) (hp : WPre S0) (hi : i < S0.ids.length) (hm : s'.toMS = s.toMS.watch (nth S0.ids i)) (hr : RT s w s' w') : WLp S0 σ w0 (i + 1) s' w' := by
  have hl : s.lits = S0.lits := h.ms.lits
  have hc : nth S0.ids i ∈ S0.ids := nth_mem _ _ hi
  refine ⟨h.tr.trans (Tr.beside h.tr.rows hr.tr), hr.hd, hr.kp.trans h.kp, by rw [hm]; exact h.ms.watch _, ?_⟩
  rw [hm]
  have hst := h.wt.step (c := nth S0.ids i) ?_ ?_ ?_
  · refine hst.mono fun c => ?_
    rw [List.take_succ_eq_append_getElem hi, List.mem_append, nth_lt _ _ hi]
    simp
  · intro hmem
    have hnd := hp.nd
    rw [← List.take_append_drop i S0.ids, List.nodup_append] at hnd
    refine hnd.2.2 _ hmem (nth S0.ids i) ?_ rfl
    rw [nth_lt _ _ hi, List.drop_eq_getElem_cons hi]
    exact List.mem_cons_self
  · rw [hl]; exact (hp.len _ hc).1
  · rw [hl]
    have hn := hp.ndv _ hc
    have hlen := (hp.len _ hc).1
    match hL : S0.lits (nth S0.ids i), hlen with
    | x :: y :: r, _ =>
      rw [hL] at hn
      show x / 2 ≠ y / 2
      intro e
      simp [e] at hn
/-- the watch lists are made: nothing is watched yet -/
theorem WLp.start {S : St} {σ : PK → Row} {w0 w : World} {b1 b2 b3 b4 ob : Nat} (hp : WPre S) (t : Tr (Sum.elim S.pre σ) w0 (Sum.elim (S.initW b1 b2 b3 b4 ob).row σ) w) : WLp S σ w0 0 (S.initW b1 b2 b3 b4 ob) w := by
  refine ⟨t, hp.hd _ _ _ _ _, rfl, ⟨rfl, rfl, rfl, rfl, rfl, rfl, rfl, rfl, rfl⟩, ?_⟩
  refine (WtD.start _ ?_ ?_).mono fun c => ?_
  · exact hp.wl
  · exact hp.wb
  · simp
def WLPost (S : St) (σ : PK → Row) (w0 : World) (e : Ending) (w : World) : Prop := e = .returned (.tuple #[]) ∧ ∃ s, WLp S σ w0 S.ids.length s w

set_option maxRecDepth 100000 in
set_option maxHeartbeats 8000000 in
theorem initW_c {S : St} {csV : Value} {σ : PK → Row} {w0 : World} (h : Rows (Sum.elim S.pre σ) w0) (hσ : σ .cs = ⟨49, 1, csV, S.ids.length, S.ids.map (ptrV ∘ some)⟩) (hsl : S.sc.length = 5102) (h4 : S.sc[4]? = some (i64 S.nv))
    (hn1 : 1 ≤ S.nv) (hn2 : S.nv ≤ 100000) (hil : S.ids.length ≤ 1000000) (hp : WPre S) :
    Calls Tryz.prog 55 #[.pointer (some ⟨S.sb, 0, none⟩), csV] w0 (WLPost S σ w0) := by
  obtain ⟨pc, cc, hcs⟩ := h.shape (.inr .cs)
  have hcs : (σ .cs).v = .slice pc (σ .cs).n cc := hcs
  rw [hσ] at hcs
  have hcs : csV = .slice pc S.ids.length cc := hcs
  subst hcs
  have hcs2 : (σ .cs).v.ownBlock = (Value.slice pc S.ids.length cc).ownBlock := by rw [hσ]
  have hsrc0 : ∀ b, (Value.slice pc S.ids.length cc).ownBlock = some b → ∃ c, (Value.slice pc S.ids.length cc) = .slice (some ⟨b, 0, none⟩) S.ids.length c ∧ S.ids.length ≤ c ∧ c ≤ maxLen := by
    intro b hb
    obtain ⟨c, h1, h2, h3⟩ := h.form (.inr .cs) (b := b) (hcs2.trans hb)
    have h1 : (σ .cs).v = .slice (some ⟨b, 0, none⟩) (σ .cs).n c := h1
    have h2 : (σ .cs).n ≤ c := h2
    rw [hσ] at h1 h2
    exact ⟨c, h1, h2, h3⟩
  have hpos0 : 0 < S.ids.length → ∃ b, (Value.slice pc S.ids.length cc).ownBlock = some b := by
    intro hp
    obtain ⟨b, hb⟩ := h.pos (.inr .cs) (by show 0 < (σ .cs).n; rw [hσ]; exact hp)
    exact ⟨b, hcs2.symm.trans hb⟩
  obtain ⟨n, hn⟩ : ∃ n, n = S.ids.length := ⟨_, rfl⟩
  obtain ⟨nv, hnv⟩ : ∃ nv, nv = S.nv := ⟨_, rfl⟩
  obtain ⟨sb, hsb⟩ : ∃ sb, sb = S.sb := ⟨_, rfl⟩
  obtain ⟨ob, hob⟩ : ∃ ob, ob = w0.heap.size := ⟨_, rfl⟩
  rw [← hn] at hsrc0 hpos0 hil ⊢
  rw [← hsb]
  rw [← hnv] at h4 hn1 hn2
  have mk1 := make_rep (P := Tryz.prog) 71 49 (.pointer none) 8 Tryz.underlying71 infoCp3 rfl n (by omega) (by unfold maxLen; omega)
  have mw := make_rep (P := Tryz.prog) 82 130 (.slice none 0 0) 24 Tryz.underlying82 infoWss rfl (nv * 2) (by omega) (by unfold maxLen; omega)
  have mc := make_rep (P := Tryz.prog) 83 71 (.slice none 0 0) 24 Tryz.underlying83 infoCss rfl (nv * 2) (by omega) (by unfold maxLen; omega)
  have hwr : IntKind.i64.wrap ((nv : Int) * 2) = ((nv * 2 : Nat) : Int) := by rw [IntWalk.i64_in _ (by omega)]; omega
  -- the list of the clauses
  obtain ⟨w1, hw1⟩ : ∃ w1, w1 = w0.alloc (.cells (Array.replicate n (.pointer none)) 49) := ⟨_, rfl⟩
  have t1 : Tr (Sum.elim S.pre σ) w0 (Sum.elim (S.preO ob (List.replicate n (.pointer none))) σ) w1 := by
    rw [hw1]
    have hown := own_rep w0 49 n (.pointer none) (by unfold maxLen; omega)
    refine h.make (v' := slV ob n) (.inl .orig) _ ?_ ?_ ?_ ?_
    · show World.ownsRow _ 0 49 1 _ S.ids.length _
      rw [← hn, hob]; exact hown
    · rw [hob]; rfl
    · show slV ob S.ids.length = _
      rw [← hn]
    · intro r hr
      rcases r with r | r
      · cases r <;> first | rfl | contradiction
      · rfl
  obtain ⟨w2, hrun, t2⟩ : ∃ w2, (Builtin.copy_ #[71, 71] 3 #[.slice (some ⟨ob, 0, none⟩) n n, .slice pc n cc]).run Tryz.prog w1 = .ok (goInt n) w2 ∧ Tr (Sum.elim (S.preO ob (List.replicate n (.pointer none))) σ) w1 (Sum.elim (S.preO ob (S.ids.map (ptrV ∘ some))) σ) w2 := by
    by_cases hz : n = 0
    · refine ⟨w1, ?_, ?_⟩
      · have := run_copy_none (P := Tryz.prog) w1 71 71 3 49 (some ⟨ob, 0, none⟩) pc n n n cc Tryz.underlying71 (by kernel_rfl) (by rw [hz]; rfl)
        rw [this, hz]; rfl
      · have : (List.replicate n (Value.pointer none)) = S.ids.map (ptrV ∘ some) := by
          have hz' : S.ids.length = 0 := by omega
          rw [hz, List.length_eq_zero_iff.1 hz']; rfl
        rw [this]; rw [this] at t1; exact Tr.refl t1.rows
    · obtain ⟨b, hb⟩ := hpos0 (by omega)
      obtain ⟨c, e1, e2, e3⟩ := hsrc0 b hb
      rw [e1]
      have hbo : (σ .cs).v.ownBlock = some b := hcs2.trans (by rw [← hn]; exact hb)
      refine run_copy_rows (P := Tryz.prog) 71 71 3 49 1 Tryz.underlying71 (by kernel_rfl) t1.rows (.inl .orig) (b := ob) rfl 0 n n n c n ⟨b, 0, none⟩ (S.ids.map (ptrV ∘ some)) (Nat.min_self n).symm (by rw [List.length_map, ← hn, Nat.mul_one]) ?_ ?_ ?_ ?_ ?_
      · intro j v hj
        rw [Addr.add_lit, Nat.zero_add]
        exact t1.rows.cell (.inr .cs) (b := b) hbo (by show (σ .cs).xs[j]? = some v; rw [hσ]; exact hj)
      · show 0 + (S.ids.map (ptrV ∘ some)).length ≤ (List.replicate n (Value.pointer none)).length
        rw [List.length_map, List.length_replicate, ← hn]; omega
      · intro v hv
        obtain ⟨y, _, rfl⟩ := List.mem_map.1 hv
        rfl
      · show (⟨_, _, _, _, _⟩ : Row) = ⟨_, _, _, _, _⟩
        simp [Sum.elim_inl, St.preO, hn]
      · intro r hr
        rcases r with r | r
        · cases r <;> first | rfl | contradiction
        · rfl
  have f4 : w2.cell? ⟨sb, 4, none⟩ = some (.int .i64 (nv : Int)) := t2.rows.cell (.inl .sol) (b := sb) (by rw [hsb]; rfl) h4
  have hsbl : sb < w2.heap.size := t2.rows.lt ⟨.inl .sol, by rw [hsb]; rfl⟩
  replace hn := Lib.hid hn
  replace hnv := Lib.hid hnv
  replace hsb := Lib.hid hsb
  replace hw1 := Lib.hid hw1
  replace t1 := Lib.hid t1
  replace t2 := Lib.hid t2
  replace hsrc0 := Lib.hid hsrc0
  replace hpos0 := Lib.hid hpos0
  replace hcs2 := Lib.hid hcs2
  replace hσ := Lib.hid hσ
  replace hp := Lib.hid hp
  replace h := Lib.hid h
  replace hsl := Lib.hid hsl
  replace h4 := Lib.hid h4
  go_enter Tryz.func55, Tryz.ntmps55
  go_upto_region 2 with fail
  rw [← hob, ← hw1.out]
  replace hob := Lib.hid hob
  go_upto_region 3 with fail
  go_cut [] (fun wx => ∃ b1 b2 b3 b4, Tr (Sum.elim S.pre σ) w0 (Sum.elim (S.initW b1 b2 b3 b4 ob).row σ) wx)
  case first =>
    have hinj : ∀ i j, i < 30 → j < 30 → (pl3 sb nv ob n).dst i = (pl3 sb nv ob n).dst j → i = j := by
      intro i j _ _ e
      have e : 14 + i = 14 + j := e
      omega
    have hin : ∀ i, i < 30 → (pl3 sb nv ob n).dst i < 54 := by
      intro i hi
      show 14 + i < 54
      omega
    refine wp_region_planS (pl3 sb nv ob n) 30 (by kernel_rfl) rfl rfl (gd_ofS (by kernel_rfl)) (fun o ho => by cases ho; rfl) (need_of (by kernel_rfl)) hinj hin (ord_of (by kernel_rfl)) ?_ ?_ ?_
    · intro D b x i j hi hj hmk hcl hDj hDi
      have key : ∀ k, D k → updB b i x k = b k := by
        intro k hk
        unfold updB
        rw [if_neg]
        intro e
        subst e
        exact hDi hk
      refine ⟨?_, rfl⟩
      have hor : j = 0 ∨ j = 1 ∨ j = 2 ∨ j = 3 ∨ j = 4 ∨ j = 5 ∨ j = 6 ∨ j = 7 ∨ j = 8 ∨ j = 9 ∨ j = 10 ∨ j = 11 ∨ j = 12 ∨ j = 13 ∨ j = 14 ∨ j = 15 ∨ j = 16 ∨ j = 17 ∨ j = 18 ∨ j = 19 ∨ j = 20 ∨ j = 21 ∨ j = 22 ∨ j = 23 ∨ j = 24 ∨ j = 25 ∨ j = 26 ∨ j = 27 ∨ j = 28 ∨ j = 29 := by omega
      rcases hor with rfl | rfl | rfl | rfl | rfl | rfl | rfl | rfl | rfl | rfl | rfl | rfl | rfl | rfl | rfl | rfl | rfl | rfl | rfl | rfl | rfl | rfl | rfl | rfl | rfl | rfl | rfl | rfl | rfl | rfl
      all_goals first | rfl | skip
      · show slV (updB b i x 7) (nv * 2) = slV (b 7) (nv * 2); rw [key 7 hDj]
      · show slV (updB b i x 13) (nv * 2) = slV (b 13) (nv * 2); rw [key 13 hDj]
      · show slV (updB b i x 19) (nv * 2) = slV (b 19) (nv * 2); rw [key 19 hDj]
      · show slV (updB b i x 25) (nv * 2) = slV (b 25) (nv * 2); rw [key 25 hDj]
      · have k7 := key 7 (hcl 27 _ rfl hDj ⟨7, .data⟩ (by simp) rfl)
        have k13 := key 13 (hcl 27 _ rfl hDj ⟨13, .data⟩ (by simp) rfl)
        have k19 := key 19 (hcl 27 _ rfl hDj ⟨19, .data⟩ (by simp) rfl)
        have k25 := key 25 (hcl 27 _ rfl hDj ⟨25, .data⟩ (by simp) rfl)
        show Value.agg #[.int .i64 2000, .int .i64 1, slV (updB b i x 7) (nv * 2), slV (updB b i x 13) (nv * 2), slV (updB b i x 19) (nv * 2), slV (updB b i x 25) (nv * 2), slV ob n, .slice none 0 0] = _
        rw [k7, k13, k19, k25]; rfl
    · intro D b a w i o hi ho hdep hA hM
      have hor : i = 0 ∨ i = 1 ∨ i = 2 ∨ i = 3 ∨ i = 4 ∨ i = 5 ∨ i = 6 ∨ i = 7 ∨ i = 8 ∨ i = 9 ∨ i = 10 ∨ i = 11 ∨ i = 12 ∨ i = 13 ∨ i = 14 ∨ i = 15 ∨ i = 16 ∨ i = 17 ∨ i = 18 ∨ i = 19 ∨ i = 20 ∨ i = 21 ∨ i = 22 ∨ i = 23 ∨ i = 24 ∨ i = 25 ∨ i = 26 ∨ i = 27 ∨ i = 28 ∨ i = 29 := by omega
      have k0 : a.tmps.getD 0 undef = .pointer (some ⟨sb, 0, none⟩) := (hA.keep 0 (fun i hi => by show 14 + i ≠ 0; omega)).trans rfl
      have k4 : a.tmps.getD 4 undef = .int .i64 2000 := (hA.keep 4 (fun i hi => by show 14 + i ≠ 4; omega)).trans rfl
      have k5 : a.tmps.getD 5 undef = slV ob n := (hA.keep 5 (fun i hi => by show 14 + i ≠ 5; omega)).trans rfl
      have f4 : w.cell? ⟨sb, 4, none⟩ = some (.int .i64 (nv : Int)) := (World.cell?_of_block (a := ⟨sb, 4, none⟩) (hM.old sb hsbl)).trans f4
      rcases hor with rfl | rfl | rfl | rfl | rfl | rfl | rfl | rfl | rfl | rfl | rfl | rfl | rfl | rfl | rfl | rfl | rfl | rfl | rfl | rfl | rfl | rfl | rfl | rfl | rfl | rfl | rfl | rfl | rfl | rfl
      all_goals (injection ho with ho; subst ho)
      · -- 0
        refine .inl ⟨rfl, ?_⟩
        show Oper.quietUpon _ _ _ (.pointer (some ⟨sb, 0, none⟩)) _
        go_simp
      · -- 1
        refine .inl ⟨rfl, ?_⟩
        show Oper.quietUpon _ _ _ (.int .i64 2000) _
        go_simp
      · -- 2
        refine .inl ⟨rfl, ?_⟩
        show Oper.quietUpon _ _ _ (.pointer (some ⟨sb, 0, none⟩)) _
        go_simp
      · -- 3
        have d2 : a.tmps.getD 16 undef = .pointer (some ⟨sb, 0, none⟩) := hA.val 2 (by omega) (hdep ⟨2, .data⟩ (by simp) rfl)
        refine .inl ⟨rfl, ?_⟩
        show Oper.quietUpon _ _ _ (.pointer (some ⟨sb, 0, none⟩)) _
        go_simp
      · -- 4
        have d3 : a.tmps.getD 17 undef = .pointer (some ⟨sb, 0, none⟩) := hA.val 3 (by omega) (hdep ⟨3, .data⟩ (by simp) rfl)
        refine .inl ⟨rfl, ?_⟩
        show Oper.quietUpon _ _ _ (.pointer (some ⟨sb, 4, none⟩)) _
        go_simp
      · -- 5
        have d4 : a.tmps.getD 18 undef = .pointer (some ⟨sb, 4, none⟩) := hA.val 4 (by omega) (hdep ⟨4, .data⟩ (by simp) rfl)
        refine .inl ⟨rfl, ?_⟩
        show Oper.quietUpon _ _ _ (.int .i64 (nv : Int)) _
        go_simp
      · -- 6
        have d5 : a.tmps.getD 19 undef = .int .i64 (nv : Int) := hA.val 5 (by omega) (hdep ⟨5, .data⟩ (by simp) rfl)
        refine .inl ⟨rfl, ?_⟩
        show Oper.quietUpon _ _ _ (.int .i64 ((nv * 2 : Nat) : Int)) _
        have e2 : IntKind.i64.wrap ((nv : Int) * 2) = ((nv * 2 : Nat) : Int) := hwr
        go_simp
      · -- 7
        have d6 : a.tmps.getD 20 undef = .int .i64 ((nv * 2 : Nat) : Int) := hA.val 6 (by omega) (hdep ⟨6, .data⟩ (by simp) rfl)
        refine .inr ⟨rfl, ?_⟩
        show _ = Result.ok (Next.value (.slice (some ⟨w.heap.size, 0, none⟩) (nv * 2) (nv * 2))) (w.alloc (.cells (Array.replicate (nv * 2) (.slice none 0 0)) 130))
        have mm := mw w
        rw [show ((nv * 2 : Nat) : Int) = (nv : Int) * 2 by omega] at mm
        go_simp
      · -- 8
        refine .inl ⟨rfl, ?_⟩
        show Oper.quietUpon _ _ _ (.pointer (some ⟨sb, 0, none⟩)) _
        go_simp
      · -- 9
        have d8 : a.tmps.getD 22 undef = .pointer (some ⟨sb, 0, none⟩) := hA.val 8 (by omega) (hdep ⟨8, .data⟩ (by simp) rfl)
        refine .inl ⟨rfl, ?_⟩
        show Oper.quietUpon _ _ _ (.pointer (some ⟨sb, 0, none⟩)) _
        go_simp
      · -- 10
        have d9 : a.tmps.getD 23 undef = .pointer (some ⟨sb, 0, none⟩) := hA.val 9 (by omega) (hdep ⟨9, .data⟩ (by simp) rfl)
        refine .inl ⟨rfl, ?_⟩
        show Oper.quietUpon _ _ _ (.pointer (some ⟨sb, 4, none⟩)) _
        go_simp
      · -- 11
        have d10 : a.tmps.getD 24 undef = .pointer (some ⟨sb, 4, none⟩) := hA.val 10 (by omega) (hdep ⟨10, .data⟩ (by simp) rfl)
        refine .inl ⟨rfl, ?_⟩
        show Oper.quietUpon _ _ _ (.int .i64 (nv : Int)) _
        go_simp
      · -- 12
        have d11 : a.tmps.getD 25 undef = .int .i64 (nv : Int) := hA.val 11 (by omega) (hdep ⟨11, .data⟩ (by simp) rfl)
        refine .inl ⟨rfl, ?_⟩
        show Oper.quietUpon _ _ _ (.int .i64 ((nv * 2 : Nat) : Int)) _
        have e2 : IntKind.i64.wrap ((nv : Int) * 2) = ((nv * 2 : Nat) : Int) := hwr
        go_simp
      · -- 13
        have d12 : a.tmps.getD 26 undef = .int .i64 ((nv * 2 : Nat) : Int) := hA.val 12 (by omega) (hdep ⟨12, .data⟩ (by simp) rfl)
        refine .inr ⟨rfl, ?_⟩
        show _ = Result.ok (Next.value (.slice (some ⟨w.heap.size, 0, none⟩) (nv * 2) (nv * 2))) (w.alloc (.cells (Array.replicate (nv * 2) (.slice none 0 0)) 130))
        have mm := mw w
        rw [show ((nv * 2 : Nat) : Int) = (nv : Int) * 2 by omega] at mm
        go_simp
      · -- 14
        refine .inl ⟨rfl, ?_⟩
        show Oper.quietUpon _ _ _ (.pointer (some ⟨sb, 0, none⟩)) _
        go_simp
      · -- 15
        have d14 : a.tmps.getD 28 undef = .pointer (some ⟨sb, 0, none⟩) := hA.val 14 (by omega) (hdep ⟨14, .data⟩ (by simp) rfl)
        refine .inl ⟨rfl, ?_⟩
        show Oper.quietUpon _ _ _ (.pointer (some ⟨sb, 0, none⟩)) _
        go_simp
      · -- 16
        have d15 : a.tmps.getD 29 undef = .pointer (some ⟨sb, 0, none⟩) := hA.val 15 (by omega) (hdep ⟨15, .data⟩ (by simp) rfl)
        refine .inl ⟨rfl, ?_⟩
        show Oper.quietUpon _ _ _ (.pointer (some ⟨sb, 4, none⟩)) _
        go_simp
      · -- 17
        have d16 : a.tmps.getD 30 undef = .pointer (some ⟨sb, 4, none⟩) := hA.val 16 (by omega) (hdep ⟨16, .data⟩ (by simp) rfl)
        refine .inl ⟨rfl, ?_⟩
        show Oper.quietUpon _ _ _ (.int .i64 (nv : Int)) _
        go_simp
      · -- 18
        have d17 : a.tmps.getD 31 undef = .int .i64 (nv : Int) := hA.val 17 (by omega) (hdep ⟨17, .data⟩ (by simp) rfl)
        refine .inl ⟨rfl, ?_⟩
        show Oper.quietUpon _ _ _ (.int .i64 ((nv * 2 : Nat) : Int)) _
        have e2 : IntKind.i64.wrap ((nv : Int) * 2) = ((nv * 2 : Nat) : Int) := hwr
        go_simp
      · -- 19
        have d18 : a.tmps.getD 32 undef = .int .i64 ((nv * 2 : Nat) : Int) := hA.val 18 (by omega) (hdep ⟨18, .data⟩ (by simp) rfl)
        refine .inr ⟨rfl, ?_⟩
        show _ = Result.ok (Next.value (.slice (some ⟨w.heap.size, 0, none⟩) (nv * 2) (nv * 2))) (w.alloc (.cells (Array.replicate (nv * 2) (.slice none 0 0)) 71))
        have mm := mc w
        rw [show ((nv * 2 : Nat) : Int) = (nv : Int) * 2 by omega] at mm
        go_simp
      · -- 20
        refine .inl ⟨rfl, ?_⟩
        show Oper.quietUpon _ _ _ (.pointer (some ⟨sb, 0, none⟩)) _
        go_simp
      · -- 21
        have d20 : a.tmps.getD 34 undef = .pointer (some ⟨sb, 0, none⟩) := hA.val 20 (by omega) (hdep ⟨20, .data⟩ (by simp) rfl)
        refine .inl ⟨rfl, ?_⟩
        show Oper.quietUpon _ _ _ (.pointer (some ⟨sb, 0, none⟩)) _
        go_simp
      · -- 22
        have d21 : a.tmps.getD 35 undef = .pointer (some ⟨sb, 0, none⟩) := hA.val 21 (by omega) (hdep ⟨21, .data⟩ (by simp) rfl)
        refine .inl ⟨rfl, ?_⟩
        show Oper.quietUpon _ _ _ (.pointer (some ⟨sb, 4, none⟩)) _
        go_simp
      · -- 23
        have d22 : a.tmps.getD 36 undef = .pointer (some ⟨sb, 4, none⟩) := hA.val 22 (by omega) (hdep ⟨22, .data⟩ (by simp) rfl)
        refine .inl ⟨rfl, ?_⟩
        show Oper.quietUpon _ _ _ (.int .i64 (nv : Int)) _
        go_simp
      · -- 24
        have d23 : a.tmps.getD 37 undef = .int .i64 (nv : Int) := hA.val 23 (by omega) (hdep ⟨23, .data⟩ (by simp) rfl)
        refine .inl ⟨rfl, ?_⟩
        show Oper.quietUpon _ _ _ (.int .i64 ((nv * 2 : Nat) : Int)) _
        have e2 : IntKind.i64.wrap ((nv : Int) * 2) = ((nv * 2 : Nat) : Int) := hwr
        go_simp
      · -- 25
        have d24 : a.tmps.getD 38 undef = .int .i64 ((nv * 2 : Nat) : Int) := hA.val 24 (by omega) (hdep ⟨24, .data⟩ (by simp) rfl)
        refine .inr ⟨rfl, ?_⟩
        show _ = Result.ok (Next.value (.slice (some ⟨w.heap.size, 0, none⟩) (nv * 2) (nv * 2))) (w.alloc (.cells (Array.replicate (nv * 2) (.slice none 0 0)) 71))
        have mm := mc w
        rw [show ((nv * 2 : Nat) : Int) = (nv : Int) * 2 by omega] at mm
        go_simp
      · -- 26
        refine .inl ⟨rfl, ?_⟩
        show Oper.quietUpon _ _ _ (slV ob n) _
        go_simp
      · -- 27
        have d1 : a.tmps.getD 15 undef = .int .i64 2000 := hA.val 1 (by omega) (hdep ⟨1, .data⟩ (by simp) rfl)
        have d7 : a.tmps.getD 21 undef = slV (b 7) (nv * 2) := hA.val 7 (by omega) (hdep ⟨7, .data⟩ (by simp) rfl)
        have d13 : a.tmps.getD 27 undef = slV (b 13) (nv * 2) := hA.val 13 (by omega) (hdep ⟨13, .data⟩ (by simp) rfl)
        have d19 : a.tmps.getD 33 undef = slV (b 19) (nv * 2) := hA.val 19 (by omega) (hdep ⟨19, .data⟩ (by simp) rfl)
        have d25 : a.tmps.getD 39 undef = slV (b 25) (nv * 2) := hA.val 25 (by omega) (hdep ⟨25, .data⟩ (by simp) rfl)
        have d26 : a.tmps.getD 40 undef = slV ob n := hA.val 26 (by omega) (hdep ⟨26, .data⟩ (by simp) rfl)
        refine .inl ⟨rfl, ?_⟩
        refine quiet_build (L := _) rfl ?_ (build_wl (b 7) (b 13) (b 19) (b 25) ob (nv * 2) n w) rfl
        simp [Act.eval, -Array.getD_eq_getD_getElem?, d1, d7, d13, d19, d25, d26]
      · -- 28
        have d0 : a.tmps.getD 14 undef = .pointer (some ⟨sb, 0, none⟩) := hA.val 0 (by omega) (hdep ⟨0, .data⟩ (by simp) rfl)
        refine .inl ⟨rfl, ?_⟩
        show Oper.quietUpon _ _ _ (.pointer (some ⟨sb, 0, none⟩)) _
        go_simp
      · -- 29
        have d28 : a.tmps.getD 42 undef = .pointer (some ⟨sb, 0, none⟩) := hA.val 28 (by omega) (hdep ⟨28, .data⟩ (by simp) rfl)
        refine .inl ⟨rfl, ?_⟩
        show Oper.quietUpon _ _ _ (.pointer (some ⟨sb, 6, none⟩)) _
        go_simp
    · intro b a w o ho hA hM
      have hv29 : a.tmps.getD 43 undef = .pointer (some ⟨sb, 6, none⟩) := hA.val 29 (by omega) (by omega)
      have hv27 : a.tmps.getD 41 undef = .agg #[.int .i64 2000, .int .i64 1, slV (b 7) (nv * 2), slV (b 13) (nv * 2), slV (b 19) (nv * 2), slV (b 25) (nv * 2), slV ob n, .slice none 0 0] := hA.val 27 (by omega) (by omega)
      have hfin := hA.fin hinj hin
      have n7 := hM.new 7 (by omega) (by omega) rfl
      have n13 := hM.new 13 (by omega) (by omega) rfl
      have n19 := hM.new 19 (by omega) (by omega) rfl
      have n25 := hM.new 25 (by omega) (by omega) rfl
      have hj := fun i j h1 h2 h3 h4 => hM.inj i j h1 h2 h1 h2 h3 h4
      have t3 : Tr (Sum.elim (S.preO ob (S.ids.map (ptrV ∘ some))) σ) w2 (Sum.elim (S.preW (S.initW (b 7) (b 13) (b 19) (b 25) ob)) σ) w := by
        have hmk : ∀ (m : Nat) (e : TypeId) (V : Nat → Value), V = (fun _ => .slice none 0 0) → w.heap[m]? = some (.cells (Array.replicate (nv * 2) (.slice none 0 0)) e) → w.ownsRow 0 e 1 (slV m (S.nv * 2)) (S.nv * 2) ((List.range (S.nv * 2)).map V) := by
          intro m e V hV hm
          refine own_at hm (by rw [← hnv.out]; exact Nat.le_refl _) (by rw [← hnv.out]; unfold maxLen; omega) (by rw [← hnv.out]; simp) ?_
          rw [hV, ← hnv.out, List.map_const', List.length_range]
          simp
        have hmk2 : ∀ (m : Nat) (e : TypeId), w.heap[m]? = some (.cells (Array.replicate (nv * 2) (.slice none 0 0)) e) → w.ownsRow 0 e 1 (slV m (S.nv * 2)) (S.nv * 2) (List.replicate (S.nv * 2) (.slice none 0 0)) := by
          intro m e hm
          refine own_at hm (by rw [← hnv.out]; exact Nat.le_refl _) (by rw [← hnv.out]; unfold maxLen; omega) (by rw [← hnv.out]; simp) ?_
          rw [← hnv.out]
          simp
        refine rows_of t2.out.rows hM.os hM.tape hM.output hM.size hM.old (fun r => match r with | .inl .wbH => none | .inl .wlH => none | .inl .pbH => none | .inl .amoH => none | r => some r) ?_ ?_ ?_ ?_
        · intro r' r hr
          rcases r' with r' | r'
          · cases r' <;> first | (cases hr; done) | (cases hr; rfl)
          · cases hr; rfl
        · intro r hr
          rcases r with r | r
          · cases r <;> first | (cases hr; done) | skip
            case wbH => exact ⟨hmk (b 7) _ _ hp.out.wbV n7.1, fun b' hb => by cases hb; exact n7.2.1⟩
            case wlH => exact ⟨hmk (b 13) _ _ hp.out.wlV n13.1, fun b' hb => by cases hb; exact n13.2.1⟩
            case pbH => exact ⟨hmk2 (b 19) _ n19.1, fun b' hb => by cases hb; exact n19.2.1⟩
            case amoH => exact ⟨hmk2 (b 25) _ n25.1, fun b' hb => by cases hb; exact n25.2.1⟩
          · cases hr
        · intro r1 r2 r h1 h2
          have key : ∀ r1, (match r1 with | .inl .wbH => none | .inl .wlH => none | .inl .pbH => none | .inl .amoH => none | r => some r : Option (Role ⊕ PK)) = some r → r1 = r := by
            intro r1 h1
            rcases r1 with r1 | r1
            · cases r1 <;> first | (cases h1; done) | (cases h1; rfl)
            · cases h1; rfl
          rw [key r1 h1, key r2 h2]
        · intro r1 r2 b' h1 h2 e1 e2
          rcases r1 with r1 | r1
          case inr => cases h1
          rcases r2 with r2 | r2
          case inr => cases h2
          cases r1 <;> first | (cases h1; done) | skip
          all_goals (cases r2 <;> first | (cases h2; done) | rfl | skip)
          all_goals
            exfalso
            have e1 := Option.some.inj e1
            have e2 := Option.some.inj e2
            have e3 := hj _ _ (by omega) (by omega) rfl rfl (e1.trans e2.symm)
            omega
      have t4 : Tr (Sum.elim (S.preW (S.initW (b 7) (b 13) (b 19) (b 25) ob)) σ) w (Sum.elim (S.initW (b 7) (b 13) (b 19) (b 25) ob).row σ) (w.setCells sb 6 [.int .i64 2000, .int .i64 1, slV (b 7) (nv * 2), slV (b 13) (nv * 2), slV (b 19) (nv * 2), slV (b 25) (nv * 2), slV ob n, .slice none 0 0]) := by
        refine Rows.sets (.inl .sol) _ t3.rows (by rw [hsb.out]; rfl) 6 ?_ ?_
        · rw [hnv.out, hn.out]; rfl
        · intro r hr
          rcases r with r | r
          · cases r <;> first | rfl | contradiction
          · rfl
      have hth : w.there sb 6 8 := t3.rows.there (.inl .sol) (by rw [hsb.out]; rfl) (by show 6 + 8 ≤ S.sc.length; rw [hsl.out]; omega)
      injection ho with ho
      subst ho
      refine wp_store_mid 85 (.tmp 43) (.tmp 41) rfl sb 6 _ hv29 hv27 hth sizeWl (by simp [slV, Value.oneCell']) ?_
      have t5 := (t1.out.trans t2.out).trans (t3.trans t4)
      replace t5 := Lib.hid t5
      have hE : planEnd (pl3 sb nv ob n) b ⟨#[.pointer (some ⟨sb, 0, none⟩), .slice pc n cc, undef, undef, .int .i64 2000, .slice (some ⟨ob, 0, none⟩) n n, undef, undef, .slice pc n cc, .int .i64 (n : Int), .slice (some ⟨ob, 0, none⟩) n n, .slice (some ⟨ob, 0, none⟩) n n, .slice pc n cc, .int .i64 (n : Int), undef, undef, undef, undef, undef, undef, undef, undef, undef, undef, undef, undef, undef, undef, undef, undef, undef, undef, undef, undef, undef, undef, undef, undef, undef, undef, undef, undef, undef, undef, undef, undef, undef, undef, undef, undef, undef, undef, undef, undef], []⟩ 30 = ⟨#[.pointer (some ⟨sb, 0, none⟩), .slice pc n cc, undef, undef, .int .i64 2000, .slice (some ⟨ob, 0, none⟩) n n, undef, undef, .slice pc n cc, .int .i64 (n : Int), .slice (some ⟨ob, 0, none⟩) n n, .slice (some ⟨ob, 0, none⟩) n n, .slice pc n cc, .int .i64 (n : Int), .pointer (some ⟨sb, 0, none⟩), .int .i64 2000, .pointer (some ⟨sb, 0, none⟩), .pointer (some ⟨sb, 0, none⟩), .pointer (some ⟨sb, 4, none⟩), .int .i64 (nv : Int), .int .i64 ((nv * 2 : Nat) : Int), slV (b 7) (nv * 2), .pointer (some ⟨sb, 0, none⟩), .pointer (some ⟨sb, 0, none⟩), .pointer (some ⟨sb, 4, none⟩), .int .i64 (nv : Int), .int .i64 ((nv * 2 : Nat) : Int), slV (b 13) (nv * 2), .pointer (some ⟨sb, 0, none⟩), .pointer (some ⟨sb, 0, none⟩), .pointer (some ⟨sb, 4, none⟩), .int .i64 (nv : Int), .int .i64 ((nv * 2 : Nat) : Int), slV (b 19) (nv * 2), .pointer (some ⟨sb, 0, none⟩), .pointer (some ⟨sb, 0, none⟩), .pointer (some ⟨sb, 4, none⟩), .int .i64 (nv : Int), .int .i64 ((nv * 2 : Nat) : Int), slV (b 25) (nv * 2), slV ob n, .agg #[.int .i64 2000, .int .i64 1, slV (b 7) (nv * 2), slV (b 13) (nv * 2), slV (b 19) (nv * 2), slV (b 25) (nv * 2), slV ob n, .slice none 0 0], .pointer (some ⟨sb, 0, none⟩), .pointer (some ⟨sb, 6, none⟩), undef, undef, undef, undef, undef, undef, undef, undef, undef, undef], []⟩ := by kernel_rfl
      replace hfin := hfin.trans hE
      rw [hfin]
      clear hfin hE hv29 hv27 hA hM t3 t4 hth n7 n13 n19 n25 hj
      rename_i J K' hJ hK
      show K' _ _
      refine hK _ _ (Met.intro (hJ _ _ ?_))
      (repeat apply Exists.intro)
      exact ⟨⟨_, _, _, _, t5.out⟩, rfl⟩

  case rest =>
    obtain ⟨b1, b2, b3, b4, tc⟩ := hcut
    have hL0 := WLp.start hp.out tc
    clear tc t1 t2 hw1 f4 hsbl mk1 mw mc hwr hrun
    replace hL0 := Lib.hid hL0
    have hwf := fun (i : Nat) (s : St) (w : World) (hw : WLp S σ w0 i s w) => hw.wf hp.out (by rw [← hnv.out]; exact hn1) (by rw [← hnv.out]; exact hn2) (by rw [← hn.out]; exact hil)
    replace hwf := Lib.hid hwf
    clear h h4 hsl
    go_wp2_with fail
    go_loopw [46] (fun v46 wr => ∃ (i : Nat) (s : St), v46 = .int .i64 (i : Int) ∧ i ≤ n ∧ WLp S σ w0 i s wr) (fun v46 _ => n - (intOf v46).toNat)
    case atStart => exact ⟨0, _, rfl, Nat.zero_le _, hL0.out⟩
    case round =>
      obtain ⟨i, s, rfl, hi, hw⟩ := hrel
      by_cases hlt : i < n
      · have hltI : (i : Int) < (n : Int) := by omega
        obtain ⟨b, hb⟩ := hpos0.out (by omega)
        obtain ⟨c, e1, _, _⟩ := hsrc0.out b hb
        have hpc : pc = some ⟨b, 0, none⟩ ∧ cc = c := by simpa using e1
        obtain ⟨rfl, rfl⟩ := hpc
        have hcl : wr.cell? ⟨b, i, none⟩ = some (.pointer (some ⟨nth S.ids i, 0, none⟩)) := hw.tr.rows.cell (.inr .cs) (b := b) (hcs2.out.trans (by rw [← hn.out]; exact hb)) (by show (σ .cs).xs[i]? = _; rw [hσ.out]; exact getElem?_map_getD (ptrV ∘ some) S.ids 0 i (by rw [← hn.out]; exact hlt))
        have hsbs : s.sb = sb := by
          have e := congrArg (fun p => p.1) hw.kp
          have e : s.sb = S.sb := e
          rw [e, hsb.out]
        have hids : s.ids = S.ids := hw.ms.ids
        have hwc := watch_c (⟨hw.tr.rows.left, hw.hd⟩ : Rep s wr) (hwf.out i s wr hw) (c := nth S.ids i) (by rw [hids]; exact nth_mem _ _ (by rw [← hn.out]; exact hlt))
          (.inr (by have e : s.word = S.word := hw.ms.word
                    rw [e, hp.out.wd]))
        rw [hsbs] at hwc
        have hstep := fun (s' : St) (w' : World) (hm : s'.toMS = s.toMS.watch (nth S.ids i)) (hr : RT s wr s' w') => hw.step hp.out (by rw [← hn.out]; exact hlt) hm hr
        generalize nth S.ids i = c at hcl hwc hstep
        replace hwc := Lib.hid hwc
        replace hstep := Lib.hid hstep
        replace hw := Lib.hid hw
        clear hsbs hids hb e1
        go_wp2_with (go_at_call 69; refine hwc.out.mono ?_; rintro e w2 ⟨rfl, s2, h1, h2⟩; replace h1 := Lib.hid h1; replace h2 := Lib.hid h2)
        exact ⟨⟨i + 1, s2, by go_num, by omega, hstep.out s2 _ h1.out h2.out⟩, by simp [intOf]; omega⟩
      · have hltI : ¬ ((i : Int) < (n : Int)) := by omega
        have e : i = n := by omega
        subst e
        replace hw := Lib.hid hw
        go_wp2_with fail
        go_end0
        exact ⟨rfl, s, by rw [← hn.out]; exact hw.out⟩
end Go.Proofs.YtiimddkopiknpaaGreat

/-
  New: the solver's cells are as they should be.
-/
namespace Go.Proofs.YtiimddkopiknpaaGreat
open Go.RowKit

def cells7 (z : Array Value) (pb nv st ul tc mb : Nat) (b : Nat → Nat) : Array Value := layL [(4, .int .i64 (nv : Int)), (5, .int .u8 (st : Int)), (14, .slice (some ⟨b 11, 0, none⟩) ul tc), (15, .slice (some ⟨mb, 0, none⟩) nv nv), (17, .slice (some ⟨b 17, 0, none⟩) nv nv), (18, .slice (some ⟨b 19, 0, none⟩) nv nv), (19, .slice (some ⟨b 21, 0, none⟩) nv nv), (20, .slice (some ⟨b 23, 0, none⟩) nv nv), (24, .float .f64 4607182418800017408), (25, .float .f32 1065353216), (5086, .int .i64 512), (5094, .slice none 0 0), (5095, .slice none 0 0), (5098, .float .f64 4605380978949069210), (5099, .slice (some ⟨b 36, 0, none⟩) nv nv), (5100, .slice (some ⟨b 38, 0, none⟩) nv nv), (5101, .slice (some ⟨b 40, 0, none⟩) nv nv)] z

theorem solN_hd {p : PSt} {z : Array Value} {ul tc mb : Nat} {b : Nat → Nat} (hz1 : z.size = 5102) (hz2 : ∀ j, j < 5102 → ∃ v, z[j]? = some v ∧ kindV v = solK j) (b1 b2 b3 b4 ob : Nat) :
    Hd ((solN p (cells7 z p.pb p.nv p.st ul tc mb b).toList ul tc mb b).initW b1 b2 b3 b4 ob) := by
  let vs : List Value := [.int .i64 2000, .int .i64 1, slV b1 (p.nv * 2), slV b2 (p.nv * 2), slV b3 (p.nv * 2), slV b4 (p.nv * 2), slV ob p.cs.length, .slice none 0 0]
  have hcl : (cells7 z p.pb p.nv p.st ul tc mb b).toList.length = 5102 := by rw [Array.length_toList]; unfold cells7; rw [layL_size, hz1]
  have go : ∀ j, (j < 6 ∨ 14 ≤ j) → (setsL (cells7 z p.pb p.nv p.st ul tc mb b).toList 6 vs)[j]? = (cells7 z p.pb p.nv p.st ul tc mb b)[j]? := by
    intro j hj
    rw [setsL_out _ _ _ _ (by show j < 6 ∨ 6 + 8 ≤ j; omega), Array.getElem?_toList]
  have gi' : ∀ i, i < 8 → (setsL (cells7 z p.pb p.nv p.st ul tc mb b).toList 6 vs)[6 + i]? = vs[i]? := fun i hi => setsL_in _ _ _ _ (by rw [hcl]; show 6 + 8 ≤ 5102; omega) hi
  have gz : ∀ j, j < 5102 → j ∉ [4, 5, 14, 15, 17, 18, 19, 20, 24, 25, 5086, 5094, 5095, 5098, 5099, 5100, 5101] → (j < 6 ∨ 14 ≤ j) → ∃ v, (setsL (cells7 z p.pb p.nv p.st ul tc mb b).toList 6 vs)[j]? = some v ∧ kindV v = solK j := by
    intro j hj hk h6
    rw [go j h6]
    unfold cells7
    rw [layL_ne _ _ _ (fun x hx e => hk (by rw [← e]; exact List.mem_map_of_mem (f := Prod.fst) hx))]
    exact hz2 j hj
  have ga : ∀ (j : Nat) (v : Value), (j < 6 ∨ 14 ≤ j) → j < 5102 → (j, v) ∈ [(4, Value.int .i64 (p.nv : Int)), (5, .int .u8 (p.st : Int)), (14, .slice (some ⟨b 11, 0, none⟩) ul tc), (15, .slice (some ⟨mb, 0, none⟩) p.nv p.nv), (17, .slice (some ⟨b 17, 0, none⟩) p.nv p.nv), (18, .slice (some ⟨b 19, 0, none⟩) p.nv p.nv), (19, .slice (some ⟨b 21, 0, none⟩) p.nv p.nv), (20, .slice (some ⟨b 23, 0, none⟩) p.nv p.nv), (24, .float .f64 4607182418800017408), (25, .float .f32 1065353216), (5086, .int .i64 512), (5094, .slice none 0 0), (5095, .slice none 0 0), (5098, .float .f64 4605380978949069210), (5099, .slice (some ⟨b 36, 0, none⟩) p.nv p.nv), (5100, .slice (some ⟨b 38, 0, none⟩) p.nv p.nv), (5101, .slice (some ⟨b 40, 0, none⟩) p.nv p.nv)] →
      (setsL (cells7 z p.pb p.nv p.st ul tc mb b).toList 6 vs)[j]? = some v := by
    intro j v h6 hj hm
    rw [go j h6]
    unfold cells7
    exact layL_at _ _ _ _ (by rw [hz1]; exact hj) (by show [4, 5, 14, 15, 17, 18, 19, 20, 24, 25, 5086, 5094, 5095, 5098, 5099, 5100, 5101].Nodup; decide) hm
  obtain ⟨SC, hSC⟩ : ∃ SC, SC = setsL (cells7 z p.pb p.nv p.st ul tc mb b).toList 6 vs := ⟨_, rfl⟩
  have e : ∀ C : List Value, (solN p C ul tc mb b).initW b1 b2 b3 b4 ob = { (solN p [] ul tc mb b).initW b1 b2 b3 b4 ob with sc := setsL C 6 vs } := fun C => rfl
  rw [e, ← hSC]
  rw [← hSC] at gz ga gi'
  clear e hSC go
  have z1 : ∀ j, j < 5102 → j ∉ [4, 5, 14, 15, 17, 18, 19, 20, 24, 25, 5086, 5094, 5095, 5098, 5099, 5100, 5101] → (j < 6 ∨ 14 ≤ j) → solK j = 1 → SC[j]? = some (.bool false) := by
    intro j a1 a2 a3 a4
    obtain ⟨v, e1, e2⟩ := gz j a1 a2 a3
    rw [e1, kind_1 (e2.trans a4)]
  have z2 : ∀ j, j < 5102 → j ∉ [4, 5, 14, 15, 17, 18, 19, 20, 24, 25, 5086, 5094, 5095, 5098, 5099, 5100, 5101] → (j < 6 ∨ 14 ≤ j) → solK j = 2 → SC[j]? = some (.slice none 0 0) := by
    intro j a1 a2 a3 a4
    obtain ⟨v, e1, e2⟩ := gz j a1 a2 a3
    rw [e1, kind_2 (e2.trans a4)]
  have z3 : ∀ j, j < 5102 → j ∉ [4, 5, 14, 15, 17, 18, 19, 20, 24, 25, 5086, 5094, 5095, 5098, 5099, 5100, 5101] → (j < 6 ∨ 14 ≤ j) → solK j = 3 → SC[j]? = some (i64 0) := by
    intro j a1 a2 a3 a4
    obtain ⟨v, e1, e2⟩ := gz j a1 a2 a3
    rw [e1, kind_3 (e2.trans a4)]; rfl
  have z5 : ∀ j, j < 5102 → j ∉ [4, 5, 14, 15, 17, 18, 19, 20, 24, 25, 5086, 5094, 5095, 5098, 5099, 5100, 5101] → (j < 6 ∨ 14 ≤ j) → solK j = 5 → SC[j]? = some (.float .f64 0) := by
    intro j a1 a2 a3 a4
    obtain ⟨v, e1, e2⟩ := gz j a1 a2 a3
    rw [e1, kind_5 (e2.trans a4)]
  constructor
  case f1 => exact z1 1 (by decide) (by decide) (by decide) rfl
  case f3 => exact z1 3 (by decide) (by decide) (by decide) rfl
  case f4 => exact ga 4 (.int .i64 (p.nv : Int)) (by decide) (by decide) (by simp)
  case f5 => exact ga 5 (.int .u8 (p.st : Int)) (by decide) (by decide) (by simp)
  case f6 => exact gi' 0 (by decide)
  case f7 => exact gi' 1 (by decide)
  case f8 => exact gi' 2 (by decide)
  case f9 => exact gi' 3 (by decide)
  case f10 => exact gi' 4 (by decide)
  case f11 => exact gi' 5 (by decide)
  case f12 => exact gi' 6 (by decide)
  case f13 => exact gi' 7 (by decide)
  case f14 => exact ga 14 (.slice (some ⟨b 11, 0, none⟩) ul tc) (by decide) (by decide) (by simp)
  case f15 => exact ga 15 (.slice (some ⟨mb, 0, none⟩) p.nv p.nv) (by decide) (by decide) (by simp)
  case f17 => exact ga 17 (.slice (some ⟨b 17, 0, none⟩) p.nv p.nv) (by decide) (by decide) (by simp)
  case f18 => exact ga 18 (.slice (some ⟨b 19, 0, none⟩) p.nv p.nv) (by decide) (by decide) (by simp)
  case f19 => exact ga 19 (.slice (some ⟨b 21, 0, none⟩) p.nv p.nv) (by decide) (by decide) (by simp)
  case f20 => exact ga 20 (.slice (some ⟨b 23, 0, none⟩) p.nv p.nv) (by decide) (by decide) (by simp)
  case f21 => intro hne; exact (hne rfl).elim
  case f22 => exact z2 22 (by decide) (by decide) (by decide) rfl
  case f23 => exact z2 23 (by decide) (by decide) (by decide) rfl
  case f24 => exact ⟨_, ga 24 (.float .f64 4607182418800017408) (by decide) (by decide) (by simp), by unfold NN; decide⟩
  case f25 => exact ⟨_, ga 25 (.float .f32 1065353216) (by decide) (by decide) (by simp), by unfold NN; decide⟩
  case f26 => exact ⟨_, z3 26 (by decide) (by decide) (by decide) rfl⟩
  case f27 => exact ⟨_, z3 27 (by decide) (by decide) (by decide) rfl⟩
  case f28 => exact z3 28 (by decide) (by decide) (by decide) rfl
  case f29 => exact z3 29 (by decide) (by decide) (by decide) rfl
  case f30 => exact ⟨_, z5 30 (by decide) (by decide) (by decide) rfl⟩
  case f31 => exact ⟨_, z3 31 (by decide) (by decide) (by decide) rfl⟩
  case f32 => exact ⟨_, z3 32 (by decide) (by decide) (by decide) rfl⟩
  case f33 => exact z3 33 (by decide) (by decide) (by decide) rfl
  case f34 => exact z3 34 (by decide) (by decide) (by decide) rfl
  case f35 => exact ⟨_, z5 35 (by decide) (by decide) (by decide) rfl⟩
  case f36 =>
    intro j h1 h2
    refine ⟨_, z3 j (by omega) ?_ (by omega) ?_⟩
    · simp; omega
    · unfold solK; rw [if_neg (by omega), if_pos h2]
  case f5087 =>
    intro j h1 h2 _
    have : j = 5087 ∨ j = 5088 ∨ j = 5089 ∨ j = 5090 ∨ j = 5091 ∨ j = 5092 ∨ j = 5093 := by omega
    rcases this with rfl | rfl | rfl | rfl | rfl | rfl | rfl <;> exact ⟨_, z3 _ (by decide) (by decide) (by decide) rfl⟩
  case f5088 => exact z3 5088 (by decide) (by decide) (by decide) rfl
  case f5094 => exact ga 5094 (.slice none 0 0) (by decide) (by decide) (by simp)
  case f5097 => exact ⟨_, z3 5097 (by decide) (by decide) (by decide) rfl⟩
  case f5098 => exact ⟨_, ga 5098 (.float .f64 4605380978949069210) (by decide) (by decide) (by simp), by unfold decayL; simp⟩
  case f5099 => exact ga 5099 (.slice (some ⟨b 36, 0, none⟩) p.nv p.nv) (by decide) (by decide) (by simp)
  case fact =>
    intro x hx
    have := List.eq_of_mem_replicate hx
    rw [this]; exact ⟨0, rfl, Nat.zero_le _⟩
  case facc => intro c _; exact ⟨0, rfl, Nat.zero_le _⟩
  case ftb =>
    intro x hx
    have := List.eq_of_mem_replicate hx
    rw [this]; exact ⟨0, rfl⟩
end Go.Proofs.YtiimddkopiknpaaGreat

/-
  New: the queue's cells, the units on the trail, and what holds of the solver that New gives.
-/
namespace Go.Proofs.YtiimddkopiknpaaGreat
open Go.RowKit

theorem cells7_len {z : Array Value} (hz1 : z.size = 5102) (pb nv st ul tc mb : Nat) (b : Nat → Nat) : (cells7 z pb nv st ul tc mb b).toList.length = 5102 := by
  rw [Array.length_toList]; unfold cells7; rw [layL_size, hz1]
theorem cells7_4 {z : Array Value} (hz1 : z.size = 5102) (pb nv st ul tc mb : Nat) (b : Nat → Nat) : (cells7 z pb nv st ul tc mb b).toList[4]? = some (i64 nv) := by
  rw [Array.getElem?_toList]
  unfold cells7
  exact layL_at _ _ _ _ (by rw [hz1]; omega) (by show [4, 5, 14, 15, 17, 18, 19, 20, 24, 25, 5086, 5094, 5095, 5098, 5099, 5100, 5101].Nodup; decide) (by simp [i64])
theorem cells7_5094 {z : Array Value} (hz1 : z.size = 5102) (pb nv st ul tc mb : Nat) (b : Nat → Nat) : (cells7 z pb nv st ul tc mb b).toList[5094]? = some (.slice none 0 0) := by
  rw [Array.getElem?_toList]
  unfold cells7
  exact layL_at _ _ _ _ (by rw [hz1]; omega) (by show [4, 5, 14, 15, 17, 18, 19, 20, 24, 25, 5086, 5094, 5095, 5098, 5099, 5100, 5101].Nodup; decide) (by simp)

def St.withQ (s : St) (vc vi : Value) (C : List Nat) (I : List Int) : St := { s with sc := setsL s.sc 21 [slV s.actB s.nv, vc, vi], qcV := vc, qiV := vi, qc := C, qi := I }
theorem Hd.withQ {s : St} (h : Hd s) (hl : s.sc.length = 5102) (vc vi : Value) (C : List Nat) (I : List Int) : Hd (s.withQ vc vi C I) := by
  have ho : ∀ j, (j < 21 ∨ 24 ≤ j) → (setsL s.sc 21 [slV s.actB s.nv, vc, vi])[j]? = s.sc[j]? := fun j hj => setsL_out _ _ _ _ (by show j < 21 ∨ 21 + 3 ≤ j; omega)
  have hi : ∀ i, i < 3 → (setsL s.sc 21 [slV s.actB s.nv, vc, vi])[21 + i]? = [slV s.actB s.nv, vc, vi][i]? := fun i hi => setsL_in _ _ _ _ (by rw [hl]; show 21 + 3 ≤ 5102; omega) hi
  have i0 := hi 0 (by omega)
  have i1 := hi 1 (by omega)
  have i2 := hi 2 (by omega)
  obtain ⟨SC, hSC⟩ : ∃ SC, SC = setsL s.sc 21 [slV s.actB s.nv, vc, vi] := ⟨_, rfl⟩
  have e : s.withQ vc vi C I = { s with sc := SC, qcV := vc, qiV := vi, qc := C, qi := I } := by rw [hSC]; rfl
  rw [e]
  rw [← hSC] at ho i0 i1 i2
  clear hSC hi e
  obtain ⟨h1, h3, h4, h5, h6, h7, h8, h9, h10, h11, h12, h13, h14, h15, h17, h18, h19, h20, h21, h22, h23, h24, h25, h26, h27, h28, h29, h30, h31, h32, h33, h34, h35, h36, h5087, h5088, h5094, h5097, h5098, h5099, ha, hb, hc⟩ := h
  constructor <;> dsimp only
  case f21 => intro _; exact i0
  case f22 => exact i1
  case f23 => exact i2
  case f36 => intro j a b; rw [ho j (by omega)]; exact h36 j a b
  case f5087 => intro j a b c; rw [ho j (by omega)]; exact h5087 j a b c
  case fact => exact ha
  case facc => exact hb
  case ftb => exact hc
  all_goals
    rw [ho _ (by omega)]
    assumption

theorem Tr.nq {ι : Type} {ρ : ι → Row} {w : World} (h : Rows ρ w) : Tr ρ w (Sum.elim ρ nqNil) w := by
  refine ⟨h.nqNil, Fr.refl _ _, ?_⟩
  rintro b ⟨r, hr⟩
  rcases r with r | r
  · exact .inl ⟨r, hr⟩
  · simp only [Sum.elim_inr, nqNil_v] at hr; cases hr

theorem withQ_tr {s : St} {σ : PK → Row} {ρ1 : (Role ⊕ PK) ⊕ NQ → Row} {w2 w3 : World} {qb aB n : Nat} {C : List Nat} {I : List Int} (h2 : Rows (Sum.elim s.row σ) w2) (hQ : QRow ρ1 (.inr .q) (.inr .c) (.inr .i) (.inl (.inl .act)) qb 0 aB n C I)
    (t : Tr (Sum.elim (Sum.elim s.row σ) nqNil) w2 ρ1 w3) (hρ : ∀ r, ρ1 (.inl r) = Sum.elim s.row σ r) (hl : s.sc.length = 5102) :
    w3.there s.sb 21 3 ∧ Tr (Sum.elim s.row σ) w2 (Sum.elim (s.withQ (ρ1 (.inr .c)).v (ρ1 (.inr .i)).v C I).row σ) (w3.setCells s.sb 21 [slV s.actB s.nv, (ρ1 (.inr .c)).v, (ρ1 (.inr .i)).v]) := by
  have ta := (Tr.nq h2).trans t
  obtain ⟨vc, hvc⟩ : ∃ vc, vc = (ρ1 (.inr .c)).v := ⟨_, rfl⟩
  obtain ⟨vi, hvi⟩ : ∃ vi, vi = (ρ1 (.inr .i)).v := ⟨_, rfl⟩
  rw [← hvc, ← hvi]
  have hown : (ρ1 (.inl (.inl .sol))).v.ownBlock = some s.sb := by rw [hρ]; rfl
  let ρ2 : (Role ⊕ PK) ⊕ NQ → Row := fun r => match r with | .inl (.inl .sol) => { s.row .sol with xs := setsL s.sc 21 [slV s.actB s.nv, vc, vi] } | r => ρ1 r
  have tb : Tr ρ1 w3 ρ2 (w3.setCells s.sb 21 [slV s.actB s.nv, vc, vi]) := by
    refine Rows.sets (.inl (.inl .sol)) _ ta.rows hown 21 ?_ ?_
    · rw [hρ]; rfl
    · intro r hr
      rcases r with (r | r) | r
      · cases r <;> first | rfl | contradiction
      · rfl
      · rfl
  refine ⟨ta.rows.there (.inl (.inl .sol)) hown (by rw [hρ]; show 21 + 3 ≤ s.sc.length; omega), ta.trans (tb.trans ?_)⟩
  have hr := tb.rows.rename (ρ' := Sum.elim (s.withQ vc vi C I).row σ) (fun r => match r with | .inl .qc => some (.inr .c) | .inl .qi => some (.inr .i) | r => some (.inl r)) ?_ ?_ ?_
  · exact ⟨hr.1, Fr.refl _ _, fun b hb => .inl (hr.2 b hb)⟩
  · intro r' r hr
    rcases r' with r' | r'
    · cases r'
      case qc =>
        cases hr
        obtain ⟨V, hV⟩ := hQ.c
        show (⟨3, 1, vc, C.length, _⟩ : Row) = ρ1 (.inr .c)
        rw [hvc, hV]; rfl
      case qi =>
        cases hr
        obtain ⟨V, hV⟩ := hQ.i
        show (⟨3, 1, vi, I.length, _⟩ : Row) = ρ1 (.inr .i)
        rw [hvi, hV]; rfl
      case sol => cases hr; rfl
      all_goals
        cases hr
        change _ = ρ1 _
        rw [hρ]; rfl
    · cases hr
      change _ = ρ1 _
      rw [hρ]; rfl
  · intro r' hr
    rcases r' with r' | r'
    · cases r' <;> cases hr
    · cases hr
  · intro r1 r2 r h1 h2
    rcases r1 with r1 | r1 <;> rcases r2 with r2 | r2
    · cases r1 <;> cases r2 <;> first | rfl | (cases h1; cases h2; done) | (cases h1; cases h2; rfl)
    · cases r1 <;> (cases h1; cases h2)
    · cases r2 <;> (cases h1; cases h2)
    · cases h1; cases h2; rfl

/-- the first i units are on the trail -/
def St.trU (s : St) (us : List Nat) (i : Nat) : St := { s with trail := us.take i ++ List.replicate (us.length - i) 0 }
theorem trU_set (us : List Nat) (i : Nat) (hi : i < us.length) : (us.take i ++ List.replicate (us.length - i) 0).set i (nth us i) = us.take (i + 1) ++ List.replicate (us.length - (i + 1)) 0 := by
  rw [List.take_succ_eq_append_getElem hi, nth_lt us i hi, List.set_append, if_neg (by rw [List.length_take]; omega)]
  have e : i - (us.take i).length = 0 := by rw [List.length_take]; omega
  rw [e, show us.length - i = (us.length - (i + 1)) + 1 by omega, List.replicate_succ, List.set_cons_zero, List.append_assoc]
  rfl
theorem trU_len (us : List Nat) (i : Nat) (hi : i ≤ us.length) : (us.take i ++ List.replicate (us.length - i) 0).length = us.length := by
  rw [List.length_append, List.length_take, List.length_replicate]; omega
theorem Rows.trU {s : St} {σ : PK → Row} {w : World} {us : List Nat} {i : Nat} (h : Rows (Sum.elim (s.trU us i).row σ) w) (hi : i < us.length) {tb n cap : Nat} (ht : s.trailV = .slice (some ⟨tb, 0, none⟩) n cap) :
    Tr (Sum.elim (s.trU us i).row σ) w (Sum.elim (s.trU us (i + 1)).row σ) (w.setCell ⟨tb, i, none⟩ (.int .i32 (nth us i : Nat))) := by
  refine h.set (.inl .trail) (by show s.trailV.ownBlock = _; rw [ht]; rfl) i (i32 (nth us i)) ?_ ?_
  · have e1 := trU_set us i hi
    have e2 := trU_len us i (by omega)
    have e3 := trU_len us (i + 1) (by omega)
    show (⟨53, 1, s.trailV, (us.take (i + 1) ++ List.replicate (us.length - (i + 1)) 0).length, (us.take (i + 1) ++ List.replicate (us.length - (i + 1)) 0).map i32⟩ : Row) =
      ⟨53, 1, s.trailV, (us.take i ++ List.replicate (us.length - i) 0).length, ((us.take i ++ List.replicate (us.length - i) 0).map i32).set i (i32 (nth us i))⟩
    rw [map_set_c, e1, e2, e3]
  · intro r hr
    rcases r with r | r
    · cases r <;> first | rfl | contradiction
    · rfl
theorem Rows.valSame {s : St} {σ : PK → Row} {w : World} (h : Rows (Sum.elim s.row σ) w) {v : Nat} {x : Int} (hv : s.va v = x) : Tr (Sum.elim s.row σ) w (Sum.elim s.row σ) (w.setCell ⟨s.modelB, v, none⟩ (.int .i64 x)) := by
  refine h.set (.inl .model) rfl v (i64 x) ?_ (fun r _ => rfl)
  show s.row .model = { s.row .model with xs := (s.val.map i64).set v (i64 x) }
  rw [map_set_c]
  have : s.val.set v x = s.val := by
    apply List.ext_getElem?
    intro j
    rw [List.getElem?_set]
    by_cases e : v = j
    · subst e
      rw [if_pos rfl]
      split
      · rename_i hl
        rw [List.getElem?_eq_getElem hl]
        have hv : s.val.getD v 0 = x := hv
        rw [List.getD_eq_getElem?_getD, List.getElem?_eq_getElem hl] at hv
        simpa using hv.symm
      · rename_i hl
        rw [List.getElem?_eq_none (by omega)]
    · rw [if_neg e]
  rw [this]; rfl

/-- what New gives -/
structure NewOk (p : PSt) (w0 : World) (s : St) (w : World) : Prop where
  tr : Tr p.row w0 s.row w
  hd : Hd s
  core : Core p.us.length 1 s.toMS
  wtd : WtD s.toMS (fun c => c ∈ s.ids)
  pc : Pc s.toMS s.wl s.trail.length
  nv : s.nv = p.nv
  val : s.val = p.val
  trail : s.trail = p.us
  rsn : ∀ v, s.ra v = none
  lits : s.lits = p.lits
  word : ∀ c, s.word c = 0
  ids : s.ids = p.cs
  orig : s.orig = p.cs
  lrn : s.lrn = []
  q : QI s.nv s.qc s.qi
  qcl : s.qc.length = s.nv
  qil : s.qi.length = s.nv
  mem : ∀ v, 0 ≤ gi s.qi v ↔ v < s.nv
  kp : s.keep = (s.sb, s.qc, s.qi, p.st, 2000, 1, 0, 0, 0, 0, 0, List.replicate p.nv false)
def NewPost (p : PSt) (w0 : World) (e : Ending) (w : World) : Prop := ∃ s : St, e = .returned (.pointer (some ⟨s.sb, 0, none⟩)) ∧ NewOk p w0 s w
theorem newOk_of {F : List (List Nat)} {p : PSt} {CL : List Value} {ul tc mb : Nat} {b : Nat → Nat} {w0 w wc w2 : World} {sW : St} {C : List Nat} {I : List Int} {vc vi : Value} (hF : PFin F p) (hule : ul = p.us.length) (hn0 : 0 < p.nv) (hn1 : p.nv ≤ 100000)
    (hL : WLp (solN p CL ul tc mb b) p.left wc (solN p CL ul tc mb b).ids.length sW w2) (hHQ : Hd (sW.withQ vc vi C I)) (hCl : C.length = p.nv) (hIl : I.length = p.nv) (hQI : QI p.nv C I) (hmem : ∀ u, 0 ≤ gi I u ↔ u < p.nv)
    (hw : Tr p.row w0 (Sum.elim ((sW.withQ vc vi C I).trU p.us p.us.length).row p.left) w) : NewPost p w0 (.returned (.pointer (some ⟨sW.sb, 0, none⟩))) w := by
  have htr : ((sW.withQ vc vi C I).trU p.us p.us.length).trail = p.us := by
    show p.us.take p.us.length ++ List.replicate (p.us.length - p.us.length) 0 = p.us
    simp
  have hnv : ((sW.withQ vc vi C I).trU p.us p.us.length).nv = p.nv := hL.ms.nv
  have hval : ((sW.withQ vc vi C I).trU p.us p.us.length).val = p.val := hL.ms.val
  have hrsn : ((sW.withQ vc vi C I).trU p.us p.us.length).rsn = List.replicate p.nv none := hL.ms.rsn
  have hlits : ((sW.withQ vc vi C I).trU p.us p.us.length).lits = p.lits := hL.ms.lits
  have hword : ((sW.withQ vc vi C I).trU p.us p.us.length).word = fun _ => 0 := hL.ms.word
  have hids : ((sW.withQ vc vi C I).trU p.us p.us.length).ids = p.cs := hL.ms.ids
  have horig : ((sW.withQ vc vi C I).trU p.us p.us.length).orig = p.cs := hL.ms.orig
  have hlrn : ((sW.withQ vc vi C I).trU p.us p.us.length).lrn = [] := hL.ms.lrn
  have hwt0 : WtD ((sW.withQ vc vi C I).trU p.us p.us.length).toMS (fun c => c ∈ p.cs) := by
    have h := hL.wt
    have h : WtD sW.toMS (fun c => c ∈ p.cs) := h.mono fun c => by rw [List.take_length]; exact Iff.rfl
    exact ⟨h.en, h.uniq, h.all, h.wbe, h.wbu, h.wba⟩
  have hd : Hd ((sW.withQ vc vi C I).trU p.us p.us.length) := hHQ.congr rfl rfl rfl rfl rfl rfl rfl rfl rfl rfl rfl rfl rfl rfl rfl rfl rfl rfl rfl rfl rfl rfl rfl rfl rfl hHQ.fact hHQ.facc hHQ.ftb
  have hkp : ((sW.withQ vc vi C I).trU p.us p.us.length).keep = (sW.sb, C, I, p.st, 2000, 1, 0, 0, 0, 0, 0, List.replicate p.nv false) := by
    have h := hL.kp
    unfold St.keep at h ⊢
    simp only [Prod.mk.injEq] at h ⊢
    obtain ⟨_, _, _, h4, h5, h6, h7, h8, h9, h10, h11, h12⟩ := h
    exact ⟨rfl, rfl, rfl, h4, h5, h6, h7, h8, h9, h10, h11, h12⟩
  have hqc : ((sW.withQ vc vi C I).trU p.us p.us.length).qc = C := rfl
  have hqi : ((sW.withQ vc vi C I).trU p.us p.us.length).qi = I := rfl
  have hsb : ((sW.withQ vc vi C I).trU p.us p.us.length).sb = sW.sb := rfl
  generalize (sW.withQ vc vi C I).trU p.us p.us.length = sf at *
  have hwt : WtD sf.toMS (fun c => c ∈ sf.ids) := hwt0.mono fun c => by rw [hids]
  have hva : ∀ v, sf.va v = p.va v := fun v => by unfold MS.va PSt.va; rw [hval]
  have hu : ∀ u ∈ sf.trail, u < sf.nv * 2 ∧ sf.va (u / 2) = sgn u 1 := by
    intro u h1
    rw [htr] at h1
    rw [hnv, hva]; exact hF.us u h1
  have hW : Wf sf.toMS := by
    refine hwt.wf (fun c h => h) ?_ ?_ ?_ ?_ ?_ ?_ ?_ ?_
    · rw [hids]; have := hF.csl; omega
    · rw [hnv]; omega
    · rw [hnv]; omega
    · rw [hids, hlits]; exact hF.len
    · rw [hids, hlits, hnv]; exact hF.lit
    · intro c _; rw [hword]; show 0 < 4294967296; omega
    · intro i hi; exact (hu _ (nth_mem _ _ hi)).1
    · rw [htr]; have := hF.usl; omega
  have hrn : ∀ v, sf.ra v = none := by
    intro v
    unfold MS.ra
    rw [hrsn, List.getD_eq_getElem?_getD, List.getElem?_replicate]
    split <;> rfl
  have hcore := Core.first hW hwt (by rw [hval, hnv]; exact hF.vl) hrn (by rw [hrsn, hnv, List.length_replicate]) hu (by
    intro v h1 h2
    rw [hnv] at h1
    rw [hva] at h2
    rw [htr]; exact hF.va v h1 h2) (by rw [hids, hlits]; exact hF.ndv) (by rw [hids]; exact hF.nd) (by rw [hids]; have := hF.csl; omega)
  rw [htr] at hcore
  refine ⟨sf, by rw [hsb], hw.leftOf, hd, hcore, hwt, Pc.first hwt hu ?_, hnv, hval, htr, hrn, hlits, fun c => by rw [hword], hids, horig, hlrn, ?_, ?_, ?_, ?_, ?_⟩
  · intro c h1 x h2
    rw [hids] at h1
    rw [hlits] at h2
    rw [hva]; exact hF.cl c h1 x h2
  · rw [hqc, hqi, hnv]; exact hQI
  · rw [hqc, hnv]; exact hCl
  · rw [hqi, hnv]; exact hIl
  · rw [hqi, hnv]; exact hmem
  · rw [hkp, hsb, hqc, hqi]
end Go.Proofs.YtiimddkopiknpaaGreat
