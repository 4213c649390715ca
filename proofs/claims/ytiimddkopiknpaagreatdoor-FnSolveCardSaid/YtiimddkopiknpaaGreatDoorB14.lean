/-
  The trail is cut; what follows of a conflict; operations on floats.
-/
import Derived.Test.YtiimddkopiknpaaGreatDoorB11
import Derived.Test.YtiimddkopiknpaaGreatDoorB04
import Derived.Test.YtiimddkopiknpaaGreatDoorB03
import Derived.Test.YtiimddkopiknpaaGreatDoorB01
set_option linter.unusedVariables false
set_option linter.unusedSimpArgs false

/-
  The trail is cut: what holds of the solver's plain state behind a backjump. A learned clause is watched.
-/
namespace Go.Proofs.YtiimddkopiknpaaGreatDoor

/-- the trail is cut to its first i literals -/
structure Cut (m m' : MS) (i : Nat) : Prop where
  nv : m'.nv = m.nv
  ids : m'.ids = m.ids
  lits : m'.lits = m.lits
  wl : m'.wl = m.wl
  wb : m'.wb = m.wb
  orig : m'.orig = m.orig
  lrn : m'.lrn = m.lrn
  trail : m'.trail = m.trail.take i
  vl : m'.val.length = m.nv
  rl : m'.rsn.length = m.nv
  off : ∀ j, i ≤ j → j < m.trail.length → m'.va (nth m.trail j / 2) = 0 ∧ m'.ra (nth m.trail j / 2) = none
  on : ∀ v, (∀ j, i ≤ j → j < m.trail.length → nth m.trail j / 2 ≠ v) → m'.va v = m.va v ∧ m'.ra v = m.ra v
  word : ∀ c ∈ m.ids, m'.word c < 4294967296

theorem nth_takeB (L : List Nat) (i j : Nat) (h : j < i) : nth (L.take i) j = nth L j := by
  unfold nth
  rw [List.getD_eq_getElem?_getD, List.getD_eq_getElem?_getD, List.getElem?_take, if_pos h]

section
variable {u0 lvl lv0 i p : Nat} {m m' : MS}
/-- what is at the level or below is as it was -/
theorem Cut.low (c : Cut m m' i) (hhi : ∀ j, i ≤ j → j < m.trail.length → lvl < m.lev (nth m.trail j / 2)) {v : Nat} (hv : m.lev v ≤ lvl) : m'.va v = m.va v ∧ m'.ra v = m.ra v := by
  refine c.on v fun j h1 h2 e => ?_
  have := hhi j h1 h2
  rw [e] at this; omega
theorem Cut.core (h : Core u0 lv0 m) (c : Cut m m' i) (hi : i ≤ m.trail.length) (hu : u0 ≤ i) (hlo : ∀ j, j < i → m.lev (nth m.trail j / 2) ≤ lvl) (hhi : ∀ j, i ≤ j → j < m.trail.length → lvl < m.lev (nth m.trail j / 2)) : Core u0 lvl m' := by
  have hlen : m'.trail.length = i := by rw [c.trail, List.length_take]; omega
  have hnth : ∀ j, j < i → nth m'.trail j = nth m.trail j := fun j hj => by rw [c.trail]; exact nth_takeB _ _ _ hj
  have hk : ∀ j, j < i → m'.va (nth m.trail j / 2) = m.va (nth m.trail j / 2) ∧ m'.ra (nth m.trail j / 2) = m.ra (nth m.trail j / 2) := fun j hj => c.low hhi (hlo j hj)
  have hlev : ∀ j, j < i → m'.lev (nth m'.trail j / 2) = m.lev (nth m.trail j / 2) := fun j hj => by unfold MS.lev; rw [hnth j hj, (hk j hj).1]
  have hW := h.wf
  refine ⟨⟨?_, ?_, ?_, ?_, ?_, ?_, ?_, ?_, ?_, ?_, ?_⟩, ⟨?_, ?_, ?_, ?_, ?_, ?_, ?_⟩, by rw [c.vl, c.nv], by rw [c.rl, c.nv], by rw [hlen]; exact hu, ?_, ?_, ?_, ?_, ?_, ?_, ?_⟩
  · rw [c.nv]; exact hW.nv0
  · rw [c.nv]; exact hW.nv1
  · rw [c.ids, c.lits]; exact hW.len
  · rw [c.ids, c.lits, c.nv]; exact hW.lit
  · rw [c.ids]; exact c.word
  · rw [c.nv, c.wl, c.ids]; exact hW.wl
  · rw [c.nv, c.wb, c.ids]; exact hW.wb
  · rw [c.nv, c.wl]; exact hW.wll
  · rw [c.nv, c.wb]; exact hW.wbl
  · intro j hj
    rw [hlen] at hj
    rw [hnth j hj, c.nv]; exact hW.tr j (by omega)
  · rw [hlen]; have := hW.trl; omega
  · intro v hv hne
    have hnd : ∀ j, i ≤ j → j < m.trail.length → nth m.trail j / 2 ≠ v := by
      intro j h1 h2 e
      have := (c.off j h1 h2).1
      rw [e] at this; exact hne this
    rw [c.nv] at hv
    rw [(c.on v hnd).1] at hne
    obtain ⟨j, hj, e⟩ := h.tl.on v hv hne
    have hji : j < i := by
      apply Classical.byContradiction
      intro hn
      exact hnd j (by omega) hj e
    exact ⟨j, by rw [hlen]; exact hji, by rw [hnth j hji]; exact e⟩
  · intro j hj
    rw [hlen] at hj
    rw [hnth j hj, lst_congr (hk j hj).1]; exact h.tl.tr1 j (by omega)
  · intro a b hab hb
    rw [hlen] at hb
    rw [hlev a (by omega), hlev b hb]; exact h.tl.mono a b hab (by omega)
  · intro j hj
    rw [hlen] at hj
    rw [hlev j hj]; exact hlo j hj
  · intro a b ha hb e h2
    rw [hlen] at ha hb
    rw [hlev a ha] at h2
    rw [hnth a ha, hnth b hb] at e
    exact h.tl.uni a b (by omega) (by omega) e h2
  · intro j d hj hr
    rw [hlen] at hj
    rw [hnth j hj, (hk j hj).2] at hr
    obtain ⟨z1, z2, z3⟩ := h.tl.rsn j d (by omega) hr
    rw [c.ids, c.lits, hnth j hj]
    refine ⟨z1, z2, fun y hy hne => ?_⟩
    obtain ⟨k, hkj, e⟩ := z3 y hy hne
    exact ⟨k, hkj, by rw [hnth k (by omega)]; exact e⟩
  · intro a b ha hr h2 hba
    rw [hlen] at ha
    rw [hlev b (by omega), hlev a ha]
    rw [hlev a ha] at h2
    rw [hnth a ha, (hk a ha).2] at hr
    exact h.tl.dec a b (by omega) hr h2 hba
  · rw [c.trail]
    refine List.Nodup.sublist ?_ h.nd
    refine List.Sublist.map _ ?_
    rw [List.drop_take]
    exact List.take_sublist _ _
  · rw [c.ids, c.lits]; exact h.ndc
  · rw [c.ids]; exact h.idn
  · rw [c.ids]; exact h.idl
  · intro v hv h0
    rw [c.nv] at hv
    by_cases hd : ∃ j, i ≤ j ∧ j < m.trail.length ∧ nth m.trail j / 2 = v
    · obtain ⟨j, h1, h2, e⟩ := hd
      rw [← e]; exact (c.off j h1 h2).2
    · have hnd : ∀ j, i ≤ j → j < m.trail.length → nth m.trail j / 2 ≠ v := fun j h1 h2 e => hd ⟨j, h1, h2, e⟩
      rw [(c.on v hnd).1] at h0
      rw [(c.on v hnd).2]; exact h.un v hv h0
  · rw [c.nv, c.wb, c.lits, c.ids]; exact h.wbe
  · rw [c.ids, c.lits, c.wb]; exact h.wba
theorem Cut.wtd {D : Nat → Prop} (h : WtD m D) (c : Cut m m' i) : WtD m' D := by
  obtain ⟨h1, h2, h3, h4, h5, h6⟩ := h
  refine ⟨?_, ?_, ?_, ?_, ?_, ?_⟩
  · rw [c.nv, c.wl, c.lits]; exact h1
  · rw [c.nv, c.wl]; exact h2
  · rw [c.lits, c.wl]; exact h3
  · rw [c.nv, c.wb, c.lits]; exact h4
  · rw [c.nv, c.wb]; exact h5
  · rw [c.lits, c.wb]; exact h6
/-- what was propagated, but for the clause c0: so it is behind the cut -/
structure PcX (m : MS) (c0 : Nat) (p : Nat) : Prop where
  l : ∀ j, j < p → ∀ e ∈ m.wl (nth m.trail j), e.2 ≠ c0 → ∃ x ∈ m.lits e.2, m.lst x = 1 ∧ m.lev (x / 2) ≤ m.lev (nth m.trail j / 2)
  b : ∀ j, j < p → ∀ e ∈ m.wb (nth m.trail j), e.2 ≠ c0 → m.lst e.1 = 1 ∧ m.lev (e.1 / 2) ≤ m.lev (nth m.trail j / 2)
theorem Cut.pcx {c0 : Nat} (h : PcX m c0 p) (c : Cut m m' i) (hip : i ≤ p) (hi : i ≤ m.trail.length) (hlo : ∀ j, j < i → m.lev (nth m.trail j / 2) ≤ lvl) (hhi : ∀ j, i ≤ j → j < m.trail.length → lvl < m.lev (nth m.trail j / 2)) : PcX m' c0 m'.trail.length := by
  have hlen : m'.trail.length = i := by rw [c.trail, List.length_take]; omega
  have hnth : ∀ j, j < i → nth m'.trail j = nth m.trail j := fun j hj => by rw [c.trail]; exact nth_takeB _ _ _ hj
  have hlev : ∀ v, m.lev v ≤ lvl → m'.lev v = m.lev v := fun v hv => by unfold MS.lev; rw [(c.low hhi hv).1]
  refine ⟨?_, ?_⟩
  · intro j hj e he hne
    rw [hlen] at hj
    rw [hnth j hj, c.wl] at he
    obtain ⟨x, h1, h2, h3⟩ := h.l j (by omega) e he hne
    have hj2 := hlo j hj
    have hx : m.lev (x / 2) ≤ lvl := by omega
    refine ⟨x, by rw [c.lits]; exact h1, ?_, ?_⟩
    · rw [lst_congr (c.low hhi hx).1]; exact h2
    · rw [hnth j hj, hlev _ hx, hlev _ hj2]; exact h3
  · intro j hj e he hne
    rw [hlen] at hj
    rw [hnth j hj, c.wb] at he
    obtain ⟨h2, h3⟩ := h.b j (by omega) e he hne
    have hj2 := hlo j hj
    have hx : m.lev (e.1 / 2) ≤ lvl := by omega
    refine ⟨?_, ?_⟩
    · rw [lst_congr (c.low hhi hx).1]; exact h2
    · rw [hnth j hj, hlev _ hx, hlev _ hj2]; exact h3
end

/- a learned clause -/
section
variable {u0 lvl p c x : Nat} {L : List Nat} {m : MS}
theorem addC_lits (hc : c ∉ m.ids) {c' : Nat} (h : c' ∈ m.ids) : (m.addC c L x).lits c' = m.lits c' := by
  show (if c' = c then L else m.lits c') = _
  have hne : c' ≠ c := fun e => hc (by rw [← e]; exact h)
  rw [if_neg hne]
theorem addC_self : (m.addC c L x).lits c = L := by
  show (if c = c then L else m.lits c) = L
  rw [if_pos rfl]
theorem addC_wtd (h : WtD m (fun d => d ∈ m.ids)) (hc : c ∉ m.ids) : WtD (m.addC c L x) (fun d => d ∈ m.ids) := by
  refine ⟨fun t ht e he => ?_, h.uniq, fun d hd hl k hk => ?_, fun t ht e he => ?_, h.wbu, fun d hd hl y hy => ?_⟩
  · obtain ⟨a1, a2, a3, a4⟩ := h.en t ht e he
    rw [addC_lits hc a2]; exact ⟨a1, a2, a3, a4⟩
  · rw [addC_lits hc hd] at hl ⊢
    exact h.all d hd hl k hk
  · obtain ⟨a1, a2, a3, a4, a5⟩ := h.wbe t ht e he
    rw [addC_lits hc a2]; exact ⟨a1, a2, a3, a4, a5⟩
  · rw [addC_lits hc hd] at hl hy
    exact h.wba d hd hl y hy
theorem fst_ne (hl : 2 ≤ L.length) (hnd : (L.map (· / 2)).Nodup) : nth L 0 / 2 ≠ nth L 1 / 2 := by
  match L, hl with
  | a :: b :: r, _ =>
    show a / 2 ≠ b / 2
    intro e
    simp [e] at hnd
theorem learnt_wtd (h : WtD m (fun d => d ∈ m.ids)) (hc : c ∉ m.ids) (hl : 2 ≤ L.length) (hnd : (L.map (· / 2)).Nodup) : WtD ((m.addC c L x).watch c) (fun d => d ∈ ((m.addC c L x).watch c).ids) := by
  have hs := (addC_wtd (L := L) (x := x) h hc).step (c := c) hc (by rw [addC_self]; exact hl) (by rw [addC_self]; exact fst_ne hl hnd)
  obtain ⟨_, _, _, _, _, _, a7, _, _⟩ := watch_same (m.addC c L x) c
  refine hs.mono fun d => ?_
  rw [a7]
  show d ∈ m.ids ∨ d = c ↔ d ∈ c :: m.ids
  rw [List.mem_cons]
  constructor
  · rintro (h' | h')
    · exact .inr h'
    · exact .inl h'
  · rintro (h' | h')
    · exact .inr h'
    · exact .inl h'
theorem learnt_core (hC : Core u0 lvl m) (h : WtD m (fun d => d ∈ m.ids)) (hc : c ∉ m.ids) (hl : 2 ≤ L.length) (hl2 : L.length ≤ 1000000) (hnd : (L.map (· / 2)).Nodup) (hlt : ∀ y ∈ L, y < m.nv * 2) (hx : x < 4294967296) (hid : m.ids.length < 1000000000) :
    Core u0 lvl ((m.addC c L x).watch c) := by
  have hW := learnt_wtd (x := x) h hc hl hnd
  have hwf := hC.wf
  obtain ⟨a1, a2, a3, a4, a5, a6, a7, _, _⟩ := watch_same (m.addC c L x) c
  have hlits : ∀ d ∈ m.ids, ((m.addC c L x).watch c).lits d = m.lits d := fun d hd => by rw [a5]; exact addC_lits hc hd
  have hself : ((m.addC c L x).watch c).lits c = L := by rw [a5]; exact addC_self
  have hids : ((m.addC c L x).watch c).ids = c :: m.ids := a7
  have hnv : ((m.addC c L x).watch c).nv = m.nv := a1
  have htr : ((m.addC c L x).watch c).trail = m.trail := a3
  have hval : ((m.addC c L x).watch c).val = m.val := a2
  have hrsn : ((m.addC c L x).watch c).rsn = m.rsn := a4
  have hva : ∀ v, ((m.addC c L x).watch c).va v = m.va v := fun v => by unfold MS.va; rw [hval]
  have hra : ∀ v, ((m.addC c L x).watch c).ra v = m.ra v := fun v => by unfold MS.ra; rw [hrsn]
  have hlst : ∀ y, ((m.addC c L x).watch c).lst y = m.lst y := fun y => by unfold MS.lst; rw [hva]
  have hlev : ∀ v, ((m.addC c L x).watch c).lev v = m.lev v := fun v => by unfold MS.lev; rw [hva]
  have hcase : ∀ d ∈ c :: m.ids, (d = c ∧ ((m.addC c L x).watch c).lits d = L) ∨ (d ∈ m.ids ∧ ((m.addC c L x).watch c).lits d = m.lits d) := by
    intro d hd
    rcases List.mem_cons.1 hd with rfl | hd
    · exact .inl ⟨rfl, hself⟩
    · exact .inr ⟨hd, hlits d hd⟩
  refine ⟨hW.wf (fun d hd => hd) ?_ ?_ ?_ ?_ ?_ ?_ ?_ ?_, ⟨?_, ?_, ?_, ?_, ?_, ?_, ?_⟩, by rw [hval, hnv]; exact hC.vl, by rw [hrsn, hnv]; exact hC.rl, by rw [htr]; exact hC.u0l, by rw [htr]; exact hC.nd, ?_, ?_, ?_, ?_, hW.wbe, hW.wba⟩
  · rw [hids, List.length_cons]; omega
  · rw [hnv]; exact hwf.nv0
  · rw [hnv]; exact hwf.nv1
  · rw [hids]
    intro d hd
    rcases hcase d hd with ⟨_, e⟩ | ⟨h', e⟩ <;> rw [e]
    · exact ⟨hl, hl2⟩
    · exact hwf.len d h'
  · rw [hids, hnv]
    intro d hd y hy
    rcases hcase d hd with ⟨_, e⟩ | ⟨h', e⟩ <;> rw [e] at hy
    · exact hlt y hy
    · exact hC.litlt h' hy
  · rw [hids, a6]
    intro d hd
    show (if d = c then x else m.word d) < _
    split
    · exact hx
    · rename_i hne
      rcases List.mem_cons.1 hd with h' | h'
      · exact (hne h').elim
      · exact hwf.word d h'
  · rw [htr, hnv]; exact hwf.tr
  · rw [htr]; exact hwf.trl
  · intro v h1 h2
    rw [hnv] at h1
    rw [hva] at h2
    rw [htr]; exact hC.tl.on v h1 h2
  · intro j hj
    rw [htr] at hj ⊢
    rw [hlst]; exact hC.tl.tr1 j hj
  · intro a b hab hb
    rw [htr] at hb ⊢
    rw [hlev, hlev]; exact hC.tl.mono a b hab hb
  · intro j hj
    rw [htr] at hj ⊢
    rw [hlev]; exact hC.tl.top j hj
  · intro a b ha hb e h2
    rw [htr] at ha hb e h2
    rw [hlev] at h2
    exact hC.tl.uni a b ha hb e h2
  · intro j d hj hr
    rw [htr] at hj hr ⊢
    rw [hra] at hr
    obtain ⟨z1, z2, z3⟩ := hC.tl.rsn j d hj hr
    rw [hids, hlits d z1]
    exact ⟨List.mem_cons_of_mem _ z1, z2, z3⟩
  · intro a b ha hr h2 hba
    rw [htr] at ha hr h2 ⊢
    rw [hra] at hr
    rw [hlev] at h2
    rw [hlev, hlev]; exact hC.tl.dec a b ha hr h2 hba
  · rw [hids]
    intro d hd
    rcases hcase d hd with ⟨_, e⟩ | ⟨h', e⟩ <;> rw [e]
    · exact hnd
    · exact hC.ndc d h'
  · rw [hids, List.nodup_cons]; exact ⟨hc, hC.idn⟩
  · rw [hids, List.length_cons]; omega
  · intro v h1 h2
    rw [hnv] at h1
    rw [hva] at h2
    rw [hra]; exact hC.un v h1 h2
theorem learnt_pcx (h : Pc m m.wl p) (hw : WtD m (fun d => d ∈ m.ids)) (hn : ∀ j, j < p → nth m.trail j < m.nv * 2) (hc : c ∉ m.ids) (hl : 2 ≤ L.length) (hnd : (L.map (· / 2)).Nodup) : PcX ((m.addC c L x).watch c) c p := by
  obtain ⟨a1, a2, a3, a4, a5, a6, a7, _, _⟩ := watch_same (m.addC c L x) c
  have hne := fst_ne hl hnd
  have hn1 : negL (nth ((m.addC c L x).lits c) 0) ≠ negL (nth ((m.addC c L x).lits c) 1) := by
    rw [addC_self]
    intro e
    have : nth L 0 = nth L 1 := by rw [← negL_negL (nth L 0), e, negL_negL]
    exact hne (by rw [this])
  have hva : ∀ v, ((m.addC c L x).watch c).va v = m.va v := fun v => by unfold MS.va; rw [a2]; rfl
  have hlst : ∀ y, ((m.addC c L x).watch c).lst y = m.lst y := fun y => by unfold MS.lst; rw [hva]
  have hlev : ∀ v, ((m.addC c L x).watch c).lev v = m.lev v := fun v => by unfold MS.lev; rw [hva]
  have htr : ((m.addC c L x).watch c).trail = m.trail := a3
  have hwl : ∀ t e, e ∈ ((m.addC c L x).watch c).wl t → e.2 ≠ c → e ∈ m.wl t := by
    intro t e he hec
    rw [watch_wl _ _ hn1] at he
    split at he
    · exact he
    · rw [mem_app2 hn1] at he
      rcases he with he | ⟨_, rfl⟩ | ⟨_, rfl⟩
      · exact he
      · exact (hec rfl).elim
      · exact (hec rfl).elim
  have hwb : ∀ t e, e ∈ ((m.addC c L x).watch c).wb t → e.2 ≠ c → e ∈ m.wb t := by
    intro t e he hec
    rw [watch_wb _ _ hn1] at he
    split at he
    · rw [mem_app2 hn1] at he
      rcases he with he | ⟨_, rfl⟩ | ⟨_, rfl⟩
      · exact he
      · exact (hec rfl).elim
      · exact (hec rfl).elim
    · exact he
  refine ⟨?_, ?_⟩
  · intro j hj e he hec
    rw [htr] at he ⊢
    have he := hwl _ _ he hec
    obtain ⟨y, h1, h2, h3⟩ := h.l j hj e he
    have hid := (hw.en _ (hn j hj) e he).2.1
    refine ⟨y, ?_, by rw [hlst]; exact h2, by rw [hlev, hlev]; exact h3⟩
    rw [a5, addC_lits hc hid]; exact h1
  · intro j hj e he hec
    rw [htr] at he ⊢
    obtain ⟨h2, h3⟩ := h.b j hj e (hwb _ _ he hec)
    exact ⟨by rw [hlst]; exact h2, by rw [hlev, hlev]; exact h3⟩
end

/-- a learned clause binds its first literal: the start of its propagation -/
theorem assert_start {u0 lvl c l1 : Nat} {m : MS} {l0 : Nat} (hC : Core u0 lvl m) (hw : WtD m (fun d => d ∈ m.ids)) (hp : PcX m c m.trail.length) (hc : c ∈ m.ids) (h0 : nth (m.lits c) 0 = l0) (h1 : nth (m.lits c) 1 = l1)
    (hu : m.lst l0 = 0) (hf : ∀ y ∈ m.lits c, y ≠ l0 → m.lst y = 2) (hl1 : m.lev (l1 / 2) = lvl) (h1l : 1 ≤ lvl) (hb : u0 + m.nv ≤ 1000000000) :
    JI u0 lvl (m.bind l0 (some c) lvl) m.trail.length (m.bind l0 (some c) lvl) := by
  have hlen := (hC.wf.len c hc).1
  have hm0 : l0 ∈ m.lits c := by rw [← h0]; exact nth_mem _ _ (by omega)
  have hl := hC.litlt hc hm0
  have hu' : m.va (l0 / 2) = 0 := by
    unfold MS.lst at hu
    split at hu
    · assumption
    · split at hu <;> cases hu
  have hvl := hC.vl
  have hBC := hC.bind (o := l0) (r := some c) (Nat.le_refl lvl) h1l hu' hl hb (.inr ⟨c, rfl, hc, hm0, hf⟩)
  have hself := bind_self (r := some c) (lvl := lvl) hvl hl h1l
  -- the first literal is on the trail neither so nor so
  have hno : ∀ j, j < m.trail.length → nth m.trail j ≠ negL l0 := by
    intro j hj e
    have := (hC.tl.ne hu' hj).2.2
    rw [e] at this
    exact this (by unfold negL; split <;> omega)
  have hlev1 : ∀ j, j < m.trail.length → nth m.trail j = negL l1 → m.lev (nth m.trail j / 2) = lvl := by
    intro j _ e
    rw [e, show negL l1 / 2 = l1 / 2 by unfold negL; split <;> omega]; exact hl1
  refine ⟨⟨hBC, ⟨hw.en, hw.uniq, hw.all⟩, ⟨?_, ?_⟩, ?_, Ext.refl _⟩, by rw [bind_len]; omega⟩
  · intro j hj e he
    rw [bind_tr j hj] at he ⊢
    have hb1 := (hC.tl.ne hu' hj).2.1
    by_cases hec : e.2 = c
    · refine ⟨l0, by rw [hec]; exact hm0, hself.1, ?_⟩
      rw [hself.2, bind_lev hvl hl hu' hb1]
      obtain ⟨_, _, _, h4⟩ := hw.en _ (hC.wf.tr j hj) e he
      rw [hec, h0, h1] at h4
      rcases h4 with h4 | h4
      · exact (hno j hj h4).elim
      · rw [hlev1 j hj h4]; exact Nat.le_refl _
    · obtain ⟨x, a1, a2, a3⟩ := hp.l j hj e he hec
      have hx : m.lst x ≠ 0 := by rw [a2]; decide
      exact ⟨x, a1, by rw [bind_lst hvl hl hu' hx]; exact a2, by rw [bind_lev hvl hl hu' (lst_va hx), bind_lev hvl hl hu' hb1]; exact a3⟩
  · intro j hj e he
    rw [bind_tr j hj] at he ⊢
    have hb1 := (hC.tl.ne hu' hj).2.1
    by_cases hec : e.2 = c
    · obtain ⟨q1, q2, q3, q4, q5⟩ := hw.wbe _ (hC.wf.tr j hj) e he
      rw [hec] at q1 q3 q4
      have hneg : negL (nth m.trail j) = l1 := by
        rcases pair_mem q3 q4 with e' | e'
        · rw [h0] at e'
          exact (hno j hj (by rw [← e', negL_negL])).elim
        · rw [e', h1]
      have he1 : e.1 = l0 := by
        rcases pair_mem q3 q1 with e' | e'
        · rw [e', h0]
        · rw [h1] at e'
          exact (q5 (by rw [e', hneg])).elim
      rw [he1]
      refine ⟨hself.1, ?_⟩
      rw [hself.2, bind_lev hvl hl hu' hb1, hlev1 j hj (by rw [← hneg, negL_negL])]
      exact Nat.le_refl _
    · obtain ⟨a2, a3⟩ := hp.b j hj e he hec
      have hx : m.lst e.1 ≠ 0 := by rw [a2]; decide
      exact ⟨by rw [bind_lst hvl hl hu' hx]; exact a2, by rw [bind_lev hvl hl hu' (lst_va hx), bind_lev hvl hl hu' hb1]; exact a3⟩
  · intro j h2 h3
    rw [bind_len] at h3
    have : j = m.trail.length := by omega
    subst this
    rw [bind_tr2]
    exact hself.2
end Go.Proofs.YtiimddkopiknpaaGreatDoor

/-
  The solver between propagations: all is propagated; what is known at level one follows.
-/
namespace Go.Proofs.YtiimddkopiknpaaGreatDoor

structure GS (u0 lvl : Nat) (m : MS) : Prop where
  core : Core u0 lvl m
  wtd : WtD m (fun d => d ∈ m.ids)
  pc : Pc m m.wl m.trail.length
section
variable {u0 lvl lv0 l p c : Nat} {m m0 : MS}
theorem GS.start (h : GS u0 lv0 m) (hle : lv0 ≤ lvl) (h1 : 1 ≤ lvl) (hcase : lv0 < lvl ∨ lvl = 1) (hl : l < m.nv * 2) (hu : m.lst l = 0) (hb : u0 + m.nv ≤ 1000000000) :
    JI u0 lvl (m.bind l none lvl) m.trail.length (m.bind l none lvl) ∧ (m.setVal (l / 2) (sgn l (lvl : Int))).push l = m.bind l none lvl := by
  have hu' : m.va (l / 2) = 0 := by
    unfold MS.lst at hu
    split at hu
    · assumption
    · split at hu <;> cases hu
  have hC := h.core.bind (o := l) (r := none) (lvl := lvl) hle h1 hu' hl hb (.inl ⟨rfl, hcase⟩)
  have hvl := h.core.vl
  refine ⟨⟨⟨hC, ⟨h.wtd.en, h.wtd.uniq, h.wtd.all⟩, ⟨?_, ?_⟩, ?_, Ext.refl _⟩, by rw [bind_len]; omega⟩, ?_⟩
  · intro i hi e he
    rw [bind_tr i (by omega)] at he ⊢
    obtain ⟨x, a1, a2, a3⟩ := h.pc.l i hi e he
    have hx : m.lst x ≠ 0 := by rw [a2]; decide
    exact ⟨x, a1, by rw [bind_lst hvl hl hu' hx]; exact a2, by rw [bind_lev hvl hl hu' (lst_va hx), bind_lev hvl hl hu' (h.core.tl.ne hu' (by omega)).2.1]; exact a3⟩
  · intro i hi e he
    rw [bind_tr i (by omega)] at he ⊢
    obtain ⟨a2, a3⟩ := h.pc.b i hi e he
    have hx : m.lst e.1 ≠ 0 := by rw [a2]; decide
    exact ⟨by rw [bind_lst hvl hl hu' hx]; exact a2, by rw [bind_lev hvl hl hu' (lst_va hx), bind_lev hvl hl hu' (h.core.tl.ne hu' (by omega)).2.1]; exact a3⟩
  · intro i h2 h3
    rw [bind_len] at h3
    have : i = m.trail.length := by omega
    subst this
    rw [bind_tr2]
    exact (bind_self hvl hl h1).2
  · unfold MS.bind
    rw [setRsn_none' (h.core.un _ (by omega) hu')]
where
  setRsn_none' {m : MS} {v : Nat} (h : m.ra v = none) : m.setRsn v none = m := by
    unfold MS.setRsn
    have : m.rsn.set v none = m.rsn := by
      apply List.ext_getElem?
      intro j
      rw [List.getElem?_set]
      by_cases e : v = j
      · subst e
        rw [if_pos rfl]
        unfold MS.ra at h
        rw [List.getD_eq_getElem?_getD] at h
        split
        · rename_i hl
          rw [List.getElem?_eq_getElem hl] at h ⊢
          simpa using h.symm
        · rename_i hl
          rw [List.getElem?_eq_none (by omega)]
      · rw [if_neg e]
    rw [this]
/-- a propagation has come to its end -/
theorem GS.of (hw : WtD m0 (fun d => d ∈ m0.ids)) (h : JI u0 lvl m0 p m) (hp : m.trail.length ≤ p) : GS u0 lvl m := by
  have : p = m.trail.length := by have := h.hp; omega
  subst this
  have hE := h.pi.ext
  refine ⟨h.pi.core, ⟨h.pi.wt.en, h.pi.wt.uniq, h.pi.wt.all, h.pi.core.wbe, ?_, h.pi.core.wba⟩, h.pi.pc⟩
  rw [hE.nv, hE.wb]; exact hw.wbu

/-- what follows of the clauses F -/
structure SD (F : List (List Nat)) (m : MS) : Prop where
  sat : ∀ σ, (∀ C ∈ F, ∃ x ∈ C, tru σ x = true) → m.Sat σ
  base : ∀ σ, (∀ C ∈ F, ∃ x ∈ C, tru σ x = true) → ∀ j, j < m.trail.length → m.lev (nth m.trail j / 2) = 1 → m.ra (nth m.trail j / 2) = none → tru σ (nth m.trail j) = true
theorem SD.one {F : List (List Nat)} (h : SD F m) (hT : Tl m lvl) {σ : Nat → Bool} (hσ : ∀ C ∈ F, ∃ x ∈ C, tru σ x = true) : ∀ j, j < m.trail.length → m.lev (nth m.trail j / 2) = 1 → tru σ (nth m.trail j) = true := by
  intro j
  induction j using Nat.strongRecOn with
  | _ j ih =>
    intro hj h1
    cases hr : m.ra (nth m.trail j / 2) with
    | none => exact h.base σ hσ j hj h1 hr
    | some d =>
      obtain ⟨a1, a2, a3⟩ := hT.rsn j d hj hr
      obtain ⟨x, hx, hx2⟩ := h.sat σ hσ d a1
      by_cases e : x = nth m.trail j
      · rw [← e]; exact hx2
      · exfalso
        obtain ⟨k, hk, hk2⟩ := a3 x hx e
        have hm := hT.mono k j (by omega) hj
        have hpos : m.lev (nth m.trail k / 2) ≠ 0 := by
          have := lst_va (m := m) (x := nth m.trail k) (by rw [hT.tr1 k (by omega)]; decide)
          unfold MS.lev; omega
        have := ih k hk (by omega) (by omega)
        rw [hk2, tru_neg, hx2] at this
        cases this
/-- a clause is false at level one: there are no values -/
theorem SD.unsat {F : List (List Nat)} (h : SD F m) (hC : Core u0 1 m) (hc : c ∈ m.ids) (hf : ∀ y ∈ m.lits c, m.lst y = 2) (σ : Nat → Bool) : ¬ ∀ C ∈ F, ∃ x ∈ C, tru σ x = true := by
  intro hσ
  obtain ⟨x, hx, hx2⟩ := h.sat σ hσ c hc
  obtain ⟨j, hj, e⟩ := hC.tl.at_ (hC.litlt hc hx) (hf x hx)
  have hle := hC.tl.top j hj
  have hpos : m.lev (nth m.trail j / 2) ≠ 0 := by
    have := lst_va (m := m) (x := nth m.trail j) (by rw [hC.tl.tr1 j hj]; decide)
    unfold MS.lev; omega
  have := h.one hC.tl hσ j hj (by omega)
  rw [e, tru_neg, hx2] at this
  cases this
/-- kept by propagation -/
theorem SD.ext {F : List (List Nat)} (h : SD F m0) (hT : ∀ j, j < m0.trail.length → m0.lst (nth m0.trail j) = 1) (hE : Ext m0 m) : SD F m := by
  refine ⟨fun σ hσ d hd => ?_, fun σ hσ j hj h1 hr => ?_⟩
  · have hd : d ∈ m.ids := hd
    rw [hE.ids] at hd
    obtain ⟨x, hx, hx2⟩ := h.sat σ hσ d hd
    exact ⟨x, (hE.pm d hd).mem_iff.2 hx, hx2⟩
  · by_cases hjl : j < m0.trail.length
    · have e := hE.pre j hjl
      rw [e] at h1 hr ⊢
      obtain ⟨e1, e2⟩ := hE.old _ (lst_va (by rw [hT j hjl]; decide))
      refine h.base σ hσ j hjl ?_ (by rw [← e2]; exact hr)
      unfold MS.lev at h1 ⊢
      rw [← e1]; exact h1
    · exact (hE.new j (by omega) hj hr).elim
/-- a literal is bound -/
theorem SD.bind {F : List (List Nat)} {o : Nat} {r : Option Nat} (h : SD F m) (hC : Core u0 lv0 m) (ho : o < m.nv * 2) (hu : m.va (o / 2) = 0) (h1 : 1 ≤ lvl) (hn : r = none → lvl = 1 → ∀ σ, (∀ C ∈ F, ∃ x ∈ C, tru σ x = true) → tru σ o = true) : SD F (m.bind o r lvl) := by
  have hvl := hC.vl
  refine ⟨h.sat, fun σ hσ j hj h2 hr => ?_⟩
  rw [bind_len] at hj
  by_cases e : j < m.trail.length
  · rw [bind_tr j e] at h2 hr ⊢
    have hb := hC.tl.ne hu e
    rw [bind_lev hvl ho hu hb.2.1] at h2
    rw [bind_ra hC.rl ho, if_neg (fun e' => hb.2.2 e'.symm)] at hr
    exact h.base σ hσ j e h2 hr
  · have : j = m.trail.length := by omega
    subst this
    rw [bind_tr2] at h2 hr ⊢
    rw [(bind_self hvl ho h1).2] at h2
    rw [bind_ra hC.rl ho, if_pos rfl] at hr
    exact hn hr h2 σ hσ
/-- the trail is cut -/
theorem SD.cut {F : List (List Nat)} {m' : MS} {i : Nat} (h : SD F m) (c : Cut m m' i) (hi : i ≤ m.trail.length) (hlo : ∀ j, j < i → m.lev (nth m.trail j / 2) ≤ lvl) (hhi : ∀ j, i ≤ j → j < m.trail.length → lvl < m.lev (nth m.trail j / 2)) : SD F m' := by
  refine ⟨fun σ hσ d hd => ?_, fun σ hσ j hj h1 hr => ?_⟩
  · have hd : d ∈ m'.ids := hd
    rw [c.ids] at hd
    rw [c.lits]; exact h.sat σ hσ d hd
  · rw [c.trail, List.length_take] at hj
    have hji : j < i := by omega
    rw [c.trail, nth_takeB _ _ _ hji] at h1 hr ⊢
    obtain ⟨e1, e2⟩ := c.low hhi (hlo j hji)
    refine h.base σ hσ j (by omega) ?_ (by rw [← e2]; exact hr)
    unfold MS.lev at h1 ⊢
    rw [← e1]; exact h1
/-- a clause is learned -/
theorem SD.learnt {F : List (List Nat)} {L : List Nat} {x : Nat} (h : SD F m) (hc : c ∉ m.ids) (hl : 2 ≤ lvl) {b : Nat} (hL : Lrn m lvl b L) : SD F ((m.addC c L x).watch c) := by
  obtain ⟨a1, a2, a3, a4, a5, a6, a7, _, _⟩ := watch_same (m.addC c L x) c
  refine ⟨fun σ hσ d hd => ?_, fun σ hσ j hj h1 hr => ?_⟩
  · have hd : d ∈ ((m.addC c L x).watch c).ids := hd
    rw [a7] at hd
    rw [a5]
    rcases List.mem_cons.1 (show d ∈ c :: m.ids from hd) with rfl | hd
    · rw [addC_self]; exact hL.snd hl σ (h.sat σ hσ)
    · rw [addC_lits hc hd]; exact h.sat σ hσ d hd
  · rw [a3] at hj h1 hr ⊢
    have e1 : ∀ v, ((m.addC c L x).watch c).lev v = m.lev v := fun v => by unfold MS.lev MS.va; rw [a2]; rfl
    have e2 : ∀ v, ((m.addC c L x).watch c).ra v = m.ra v := fun v => by unfold MS.ra; rw [a4]; rfl
    rw [e1] at h1
    rw [e2] at hr
    exact h.base σ hσ j hj h1 hr
/-- all variables are bound and all is propagated: a model -/
theorem GS.model (h : GS u0 lvl m) (hall : ∀ v, v < m.nv → m.va v ≠ 0) : ∀ d ∈ m.ids, ∃ y ∈ m.lits d, m.lst y = 1 := by
  intro d hd
  have hlt : ∀ y ∈ m.lits d, y < m.nv * 2 := fun y hy => h.core.litlt hd hy
  have hl := (h.core.wf.len d hd).1
  have hst : ∀ y ∈ m.lits d, m.lst y = 1 ∨ m.lst y = 2 := by
    intro y hy
    have := hall (y / 2) (by have := hlt y hy; omega)
    unfold MS.lst
    rw [if_neg this]
    split
    · exact .inl rfl
    · exact .inr rfl
  have m0 : nth (m.lits d) 0 ∈ m.lits d := nth_mem _ _ (by omega)
  rcases hst _ m0 with h1 | h1
  · exact ⟨_, m0, h1⟩
  · obtain ⟨i, hi, e⟩ := h.core.tl.at_ (hlt _ m0) h1
    by_cases h2 : (m.lits d).length = 2
    · obtain ⟨e', he, he2⟩ := h.wtd.wba d hd h2 _ m0
      have hb := h.pc.b i hi e' (by rw [e]; exact he)
      have hw := h.wtd.wbe (negL (nth (m.lits d) 0)) (negL_lt (hlt _ m0)) e' he
      exact ⟨e'.1, he2 ▸ hw.1, hb.1⟩
    · obtain ⟨e', he, he2⟩ := List.mem_map.1 (h.wtd.all d hd (by omega) 0 (by omega))
      obtain ⟨x, x1, x2, _⟩ := h.pc.l i hi e' (by rw [e]; exact he)
      exact ⟨x, he2 ▸ x1, x2⟩
end
end Go.Proofs.YtiimddkopiknpaaGreatDoor

/-
  percolateDown, over any rows. (FnSolve's seat only.)
-/
namespace Go.Proofs.YtiimddkopiknpaaGreatDoor
open Go.RowKit

theorem left_c (i : Nat) (w : World) (hi : i ≤ 1000000000) : Calls Tryz.prog 111 #[.int .i64 (i : Int)] w fun e w' => e = .returned (.int .i64 ((2 * i + 1 : Nat) : Int)) ∧ w' = w := by
  have h1 : IntKind.i64.wrap ((i : Int) * 2) = (i : Int) * 2 := IntWalk.i64_in _ (by omega)
  have h2 : IntKind.i64.wrap ((i : Int) * 2 + 1) = (i : Int) * 2 + 1 := IntWalk.i64_in _ (by omega)
  have h3 : ((2 * i + 1 : Nat) : Int) = (i : Int) * 2 + 1 := by omega
  rw [h3]
  clear h3
  go_enter Tryz.func111, Tryz.ntmps111
  go_wp2_with fail
  go_ret
  exact ⟨rfl, rfl⟩
theorem right_c (i : Nat) (w : World) (hi : i ≤ 1000000000) : Calls Tryz.prog 112 #[.int .i64 (i : Int)] w fun e w' => e = .returned (.int .i64 ((2 * i + 2 : Nat) : Int)) ∧ w' = w := by
  have h1 : IntKind.i64.wrap ((i : Int) + 1) = (i : Int) + 1 := IntWalk.i64_in _ (by omega)
  have h2 : IntKind.i64.wrap (((i : Int) + 1) * 2) = ((i : Int) + 1) * 2 := IntWalk.i64_in _ (by omega)
  have h3 : ((2 * i + 2 : Nat) : Int) = ((i : Int) + 1) * 2 := by omega
  rw [h3]
  clear h3
  go_enter Tryz.func112, Tryz.ntmps112
  go_wp2_with fail
  go_ret
  exact ⟨rfl, rfl⟩

theorem LtAt.drewN {w : World} {qb qo aB n : Nat} (h : LtAt w qb qo aB n) (q : Nat) : LtAt (w.drewN q) qb qo aB n := ⟨h.hd, h.at_⟩
theorem QI.touch {n : Nat} {C : List Nat} {I : List Int} (h : QI n C I) {i : Nat} (hi : i < C.length) : QI n C (I.set (nth C i) (i : Int)) := by
  obtain ⟨k1, k2⟩ := h.c i hi
  refine ⟨fun k hk => ?_, fun v hv => ?_⟩
  · obtain ⟨z1, z2⟩ := h.c k hk
    exact ⟨z1, by simpa using z2⟩
  · simp only [List.length_set] at hv
    rw [gi_set _ _ _ _ k2]
    by_cases e : nth C i = v
    · rw [if_pos e]; exact .inr ⟨i, rfl, hi, e⟩
    · rw [if_neg e]; exact h.i v hv

/-- the loop: a hole at place i for x -/
def PDRel {ι : Type} (ρ0 : ι → Row) (w0 : World) (rq rc ri ra : ι) (qb qo aB n : Nat) (qc0 : List Nat) (qi0 : List Int) (nc x : Nat) (v1 : Value) (wr : World) : Prop :=
  ∃ (ρ : ι → Row) (C : List Nat) (I : List Int) (i : Nat), v1 = .int .i64 (i : Int) ∧ i < nc ∧ C.length = nc ∧ I.length = qi0.length ∧
    QRow ρ rq rc ri ra qb qo aB n C I ∧ QI n (C.set i x) (I.set x (i : Int)) ∧ (C.set i x).Perm qc0 ∧ Tr ρ0 w0 ρ wr ∧
    (ρ rc).v = (ρ0 rc).v ∧ (ρ ri).v = (ρ0 ri).v ∧ (∀ r, r ≠ rc → r ≠ ri → ρ r = ρ0 r)

attribute [local irreducible] Go.wpStill Go.wpList
set_option maxRecDepth 100000 in
set_option maxHeartbeats 8000000 in
theorem percDn_c {ι : Type} {ρ0 : ι → Row} {w0 : World} {rq rc ri ra : ι} {qb qo aB n : Nat} {qc : List Nat} {qi : List Int} (h : QRow ρ0 rq rc ri ra qb qo aB n qc qi) (hw : Rows ρ0 w0)
    (hQ : QI n qc qi) {i0 : Nat} (hi0 : i0 < qc.length) (hb : qc.length ≤ 400000000) (hbi : qi.length ≤ 1000000000) :
    Calls Tryz.prog 84 #[.pointer (some ⟨qb, qo, none⟩), .int .i64 (i0 : Int)] w0 fun e w' => e = .returned (.tuple #[]) ∧ QPost ρ0 w0 rq rc ri ra qb qo aB n qc qi w' := by
  obtain ⟨k1, k2⟩ := hQ.c i0 hi0
  obtain ⟨cb, ib, cc, ic, e1, e2, e3, e4⟩ := h.at_ hw (by omega) (by omega)
  have hQ0 := hQ.touch hi0
  have c1 := h.hd1 hw
  rw [e3] at c1
  have c2 := h.gc hw e1 hi0
  obtain ⟨x, hx⟩ : ∃ x, x = nth qc i0 := ⟨_, rfl⟩
  rw [← hx] at k1 k2 c2 hQ0
  obtain ⟨nc, hnc⟩ : ∃ nc, nc = qc.length := ⟨_, rfl⟩
  obtain ⟨ni, hni⟩ : ∃ ni, ni = qi.length := ⟨_, rfl⟩
  rw [← hnc] at hi0 hb c1 e3
  rw [← hni] at k2 hbi e4
  replace e1 := Lib.hid e1
  replace e2 := Lib.hid e2
  replace e3 := Lib.hid e3
  replace e4 := Lib.hid e4
  replace hx := Lib.hid hx
  replace hnc := Lib.hid hnc
  replace hni := Lib.hid hni
  replace hQ0 := Lib.hid hQ0
  clear hQ
  go_enter Tryz.func84, Tryz.ntmps84
  go_wp2_with fail
  go_loopw [1] (fun v1 wr => PDRel ρ0 w0 rq rc ri ra qb qo aB n qc qi nc x v1 wr) (fun v1 _ => nc - (intOf v1).toNat)
  case atStart =>
    refine ⟨ρ0, qc, qi, i0, rfl, hi0, hnc.out.symm, rfl, h, ?_, ?_, Tr.refl hw, rfl, rfl, fun _ _ _ => rfl⟩
    · rw [hx.out, nth_self _ _ (by rw [← hnc.out]; exact hi0), ← hx.out]; exact hQ0.out
    · rw [hx.out, nth_self _ _ (by rw [← hnc.out]; exact hi0)]
  case round =>
    obtain ⟨ρ, C, I, i, rfl, hi, hC, hI, hq, hqi, hpm, hT, hv1, hv2, hother⟩ := hrel
    have b1 : (ρ rc).v.ownBlock = some cb := by rw [hv1]; exact e1.out
    have b2 : (ρ ri).v.ownBlock = some ib := by rw [hv2]; exact e2.out
    have hR := hT.rows
    have d1 := hq.hd1 hR
    have d2 := hq.hd2 hR
    rw [hv1, e3.out] at d1
    rw [hv2, e4.out] at d2
    have xs1 : x < I.length := by rw [hI, ← hni.out]; exact k2
    have iC : i < C.length := by rw [hC]; exact hi
    have gci := hq.gc hR b1 iC
    have gix := hq.gi hR b2 xs1
    clear c1 c2
    have xI : (x : Int) < ni := by omega
    have iI : (i : Int) < nc := by omega
    have hle := fun w => left_c i w (by omega)
    have hri := fun w => right_c i w (by omega)
    obtain ⟨l, hl0⟩ : ∃ l, l = 2 * i + 1 := ⟨_, rfl⟩
    obtain ⟨r, hr0⟩ : ∃ r, r = 2 * i + 2 := ⟨_, rfl⟩
    rw [← hl0] at hle
    rw [← hr0] at hri
    replace hl0 := Lib.hid hl0
    replace hr0 := Lib.hid hr0
    replace hqi := Lib.hid hqi
    replace hpm := Lib.hid hpm
    replace hI := Lib.hid hI
    replace hC := Lib.hid hC
    replace hv1 := Lib.hid hv1
    replace hv2 := Lib.hid hv2
    replace hother := Lib.hid hother
    replace b1 := Lib.hid b1
    replace b2 := Lib.hid b2
    by_cases hl : l < nc
    · have hlI : (l : Int) < (nc : Int) := by omega
      go_upto_region 1 with fail
      refine wp_region_tail 7 (by kernel_rfl) (by kernel_rfl) ?_
      simp only [List.take_succ_cons, List.take_zero, List.drop_succ_cons, List.drop_zero]
      repeat still_step
      still_call (hle _)
      repeat still_step
      refine wpStill_nil ?_
      go_upto_region 3 with fail
      go_cut [48] (fun v48 wx => ∃ bb q, v48 = .bool bb ∧ (bb = true → r < nc) ∧ wx = wr.drewN q)
      case first =>
        by_cases hr : r < nc
        · have hrI : (r : Int) < (nc : Int) := by omega
          have gr := hq.gc hR b1.out (i := r) (by rw [hC.out]; exact hr)
          have gl := hq.gc hR b1.out (i := l) (by rw [hC.out]; exact hl)
          obtain ⟨z1, _⟩ := hqi.out.c (r) (by rw [List.length_set, hC.out]; exact hr)
          obtain ⟨z2, _⟩ := hqi.out.c (l) (by rw [List.length_set, hC.out]; exact hl)
          rw [nth_set' _ _ _ _ iC, if_neg (by have := hl0.out; have := hr0.out; omega)] at z1 z2
          obtain ⟨bb, hlt⟩ := lt_c ((hq.lt hR).drewN 2) z1 z2
          replace hlt := Lib.hid hlt
          refine wp_region_tail 26 (by kernel_rfl) (by kernel_rfl) ?_
          simp only [List.take_succ_cons, List.take_zero, List.drop_succ_cons, List.drop_zero]
          repeat first | still_step | still_call (hri _) | still_call (hle _)
          refine wpStill_nil ?_
          go_wp2_with (first
            | (go_at_call 88; refine hlt.out.mono ?_; rintro e w2 ⟨rfl, q, rfl⟩))
          go_meet
          exact ⟨bb, 2 + q, rfl, fun _ => hr, rfl⟩
        · have hrI : ¬ (r : Int) < (nc : Int) := by omega
          clear hr
          refine wp_region_tail 26 (by kernel_rfl) (by kernel_rfl) ?_
          simp only [List.take_succ_cons, List.take_zero, List.drop_succ_cons, List.drop_zero]
          repeat first | still_step | still_call (hri _)
          refine wpStill_nil ?_
          go_wp2_with fail
          go_meet
          exact ⟨false, 2, rfl, fun h => Bool.noConfusion h, rfl⟩
      case rest =>
        obtain ⟨bb, q, rfl, hbr, rfl⟩ := hcut
        replace hbr := Lib.hid hbr
        go_upto_if 48 with fail
        go_cut [5] (fun v5 wx => ∃ c : Nat, v5 = .int .i64 (c : Int) ∧ i < c ∧ c < nc ∧ wx = wr.drewN q)
        case first =>
          cases bb with
          | true =>
            go_wp2_with (go_at_call 112; refine Calls.ret (hri _) ?_)
            go_meet
            exact ⟨r, rfl, by have := hr0.out; omega, hbr.out trivial, rfl⟩
          | false =>
            go_wp2_with (go_at_call 111; refine Calls.ret (hle _) ?_)
            go_meet
            exact ⟨l, rfl, by have := hl0.out; omega, hl, rfl⟩
        case rest =>
          obtain ⟨c, rfl, hic, hcn, rfl⟩ := hcut
          have hcI : (c : Int) < (nc : Int) := by omega
          have cC : c < C.length := by rw [hC.out]; exact hcn
          have gcc := hq.gc hR b1.out cC
          have hne : i ≠ c := by omega
          obtain ⟨z1, z2⟩ := hqi.out.c c (by rw [List.length_set]; exact cC)
          rw [nth_set' _ _ _ _ iC, if_neg hne] at z1 z2
          rw [List.length_set] at z2
          obtain ⟨y, hy⟩ : ∃ y, y = nth C c := ⟨_, rfl⟩
          rw [← hy] at z1 z2 gcc
          obtain ⟨b3, hlt⟩ := lt_c ((hq.lt hR).drewN q) z1 k1
          have yI : (y : Int) < ni := by have := hni.out; have := hI.out; omega
          replace hlt := Lib.hid hlt
          replace hy := Lib.hid hy
          cases b3 with
          | false =>
            go_wp2_with (first
              | (go_at_call 88; refine hlt.out.mono ?_; rintro e w2 ⟨rfl, q2, rfl⟩
                 have hRq := hR.drewN (q + q2)
                 obtain ⟨ρ1, q1, t1, m1, m2, m3⟩ := hq.setC hRq b1.out i x
                 have d3 := q1.hd2 t1.rows
                 rw [m2, hv2.out, e4.out] at d3
                 have f1 := hRq.frozen rc b1.out i
                 have f2 := t1.rows.frozen ri (by rw [m2]; exact b2.out) x
                 have g3 := q1.gi t1.rows (by rw [m2]; exact b2.out) xs1
                 obtain ⟨ρ2, q2', t2, o1, o2, o3⟩ := q1.setI t1.rows (by rw [m2]; exact b2.out) x (i : Nat)
                 have tt := (hT.drewN (q + q2)).trans (t1.trans t2)
                 replace m1 := Lib.hid m1
                 replace m2 := Lib.hid m2
                 replace m3 := Lib.hid m3
                 replace o1 := Lib.hid o1
                 replace o2 := Lib.hid o2
                 replace o3 := Lib.hid o3
                 replace tt := Lib.hid tt))
            go_end0
            refine ⟨rfl, ρ2, _, _, ?_, ?_, q2', hqi.out, hpm.out, tt.out, ?_, ?_, ?_⟩
            · rw [List.length_set, hC.out, hnc.out]
            · rw [List.length_set, hI.out]
            · rw [o1.out, m1.out]; exact hv1.out
            · rw [o2.out, m2.out]; exact hv2.out
            · intro r h1 h2; rw [o3.out r h1 h2, m3.out r h1 h2]; exact hother.out r h1 h2
          | true =>
            go_upto_region 7 with (first
              | (go_at_call 88; refine hlt.out.mono ?_; rintro e w2 ⟨rfl, q2, rfl⟩))
            have hRq := hR.drewN (q + q2)
            obtain ⟨ρ1, q1, t1, m1, m2, m3⟩ := hq.setC (hRq.drewN 1) b1.out i y
            have f1 := hR.frozen rc b1.out i
            refine wp_region_tail 12 (by kernel_rfl) (by kernel_rfl) ?_
            simp only [List.take_succ_cons, List.take_zero, List.drop_succ_cons, List.drop_zero]
            repeat still_step
            refine wpStill_nil ?_
            go_upto_region 8 with fail
            obtain ⟨w3, hw3⟩ : ∃ w3, w3 = ((wr.drewN (q + q2 + 1)).setCell ⟨cb, i, none⟩ (.int .i64 (y : Int))) := ⟨_, rfl⟩
            have t1 : Tr ρ ((wr.drewN (q + q2)).drewN 1) ρ1 w3 := by rw [hw3]; exact t1
            rw [← hw3]
            clear hw3
            have d3 := q1.hd2 t1.rows
            have d4 := q1.hd1 t1.rows
            rw [m2, hv2.out, e4.out] at d3
            rw [m1, hv1.out, e3.out] at d4
            have b21 : (ρ1 ri).v.ownBlock = some ib := by rw [m2]; exact b2.out
            have b11 : (ρ1 rc).v.ownBlock = some cb := by rw [m1]; exact b1.out
            have gci1 := q1.gc t1.rows b11 (i := i) (by simpa using iC)
            rw [nth_set' _ _ _ _ iC, if_pos rfl] at gci1
            have giy := q1.gi t1.rows b21 z2
            have f2 := t1.rows.frozen ri b21 y
            obtain ⟨ρ2, q2', t2, o1, o2, o3⟩ := q1.setI (t1.rows.drewN 1) b21 y (i : Nat)
            have tt := (hT.drewN (q + q2 + 1)).trans ((t1.drewN 1).trans t2)
            clear gcc gci gix d1 d2 t1 t2
            replace m1 := Lib.hid m1
            replace m2 := Lib.hid m2
            replace m3 := Lib.hid m3
            replace o1 := Lib.hid o1
            replace o2 := Lib.hid o2
            replace o3 := Lib.hid o3
            replace tt := Lib.hid tt
            refine wp_region_tail 12 (by kernel_rfl) (by kernel_rfl) ?_
            simp only [List.take_succ_cons, List.take_zero, List.drop_succ_cons, List.drop_zero]
            repeat still_step
            refine wpStill_nil ?_
            go_wp2_with fail
            go_roundw
            case rel =>
              have s1 := hqi.out.swap (i := i) (p := c) (by simpa using iC) (by simpa using cC) hne
              have s2 := perm_swap (C := C.set i x) (i := i) (p := c) (by simpa using iC) (by simpa using cC)
              have ny : nth (C.set i x) c = y := by rw [nth_set' _ _ _ _ iC, if_neg hne, hy.out]
              have nx : nth (C.set i x) i = x := by rw [nth_set' _ _ _ _ iC, if_pos rfl]
              rw [ny, nx, List.set_set] at s1 s2
              have s3 : ((I.set x (i : Int)).set y (i : Int)).set x (c : Int) = (I.set y (i : Int)).set x (c : Int) := by
                by_cases hxy : x = y
                · rw [hxy, List.set_set, List.set_set]
                · rw [List.set_comm _ _ hxy, List.set_set]
              rw [s3] at s1
              refine ⟨ρ2, C.set i y, I.set y (i : Nat), c, rfl, hcn, ?_, ?_, q2', s1, s2.trans hpm.out, tt.out, ?_, ?_, ?_⟩
              · rw [List.length_set]; exact hC.out
              · rw [List.length_set]; exact hI.out
              · rw [o1.out, m1.out]; exact hv1.out
              · rw [o2.out, m2.out]; exact hv2.out
              · intro r h1 h2; rw [o3.out r h1 h2, m3.out r h1 h2]; exact hother.out r h1 h2
            case measure => simp [intOf]; omega
    · have hlI : ¬ (l : Int) < (nc : Int) := by omega
      go_upto_region 1 with fail
      refine wp_region_tail 7 (by kernel_rfl) (by kernel_rfl) ?_
      simp only [List.take_succ_cons, List.take_zero, List.drop_succ_cons, List.drop_zero]
      repeat still_step
      still_call (hle _)
      repeat still_step
      refine wpStill_nil ?_
      obtain ⟨ρ1, q1, t1, m1, m2, m3⟩ := hq.setC hR b1.out i x
      have d3 := q1.hd2 t1.rows
      rw [m2, hv2.out, e4.out] at d3
      have f1 := hR.frozen rc b1.out i
      have f2 := t1.rows.frozen ri (by rw [m2]; exact b2.out) x
      have g3 := q1.gi t1.rows (by rw [m2]; exact b2.out) xs1
      obtain ⟨ρ2, q2, t2, o1, o2, o3⟩ := q1.setI t1.rows (by rw [m2]; exact b2.out) x (i : Nat)
      have tt := hT.trans (t1.trans t2)
      replace m1 := Lib.hid m1
      replace m2 := Lib.hid m2
      replace m3 := Lib.hid m3
      replace o1 := Lib.hid o1
      replace o2 := Lib.hid o2
      replace o3 := Lib.hid o3
      replace tt := Lib.hid tt
      go_wp2_with fail
      go_end0
      refine ⟨rfl, ρ2, _, _, ?_, ?_, q2, hqi.out, hpm.out, tt.out.drewN 1, ?_, ?_, ?_⟩
      · rw [List.length_set, hC.out, hnc.out]
      · rw [List.length_set, hI.out]
      · rw [o1.out, m1.out]; exact hv1.out
      · rw [o2.out, m2.out]; exact hv2.out
      · intro r h1 h2; rw [o3.out r h1 h2, m3.out r h1 h2]; exact hother.out r h1 h2
end Go.Proofs.YtiimddkopiknpaaGreatDoor

/-
  Float operations of which nothing need be known: each gives some float, and draws at most once.
-/
namespace Go.Proofs.YtiimddkopiknpaaGreatDoor
open Go.RowKit

def arith4 (op : BinOp) : Bool := match op with | .add | .sub | .mul | .quo => true | _ => false
/-- what an operation on floats gives in a world -/
def fRes (op : BinOp) (k : FloatKind) (x y : Nat) (w : World) : Nat := match floatBits op k x y with
  | some r => r
  | none => if (Question.nanBits k x y).forced then 0 else (Question.nanBits k x y).cut (w.tape w.drawn (.nanBits k x y))
def fQ (op : BinOp) (k : FloatKind) (x y : Nat) : Nat := match floatBits op k x y with
  | some _ => 0
  | none => if (Question.nanBits k x y).forced then 0 else 1
theorem run_float_any {P : Program} (w : World) (op : BinOp) (h4 : arith4 op = true) (t : TypeId) (k : FloatKind) (x y : Nat) :
    (binOp op t (.float k x) (.float k y)).run P w = .ok (.float k (fRes op k x y w)) (w.drewN (fQ op k x y)) := by
  unfold fRes fQ
  cases hf : floatBits op k x y with
  | some r => exact run_float_arith w op t k x y r hf
  | none =>
    unfold floatBits at hf
    cases op <;> simp only [arith4] at h4 <;> first | (cases h4; done) | skip
    all_goals
      simp only [] at hf
      simp only [binOp, Op.floatArith, hf]
      by_cases hq : (Question.nanBits k x y).forced = true
      · (simp [hq]; rfl)
      · (simp [hq]; rfl)
theorem run_add_any {P : Program} (w : World) (t : TypeId) (k : FloatKind) (x y : Nat) : (binOp .add t (.float k x) (.float k y)).run P w = .ok (.float k (fRes .add k x y w)) (w.drewN (fQ .add k x y)) := run_float_any w .add rfl t k x y
theorem run_sub_any {P : Program} (w : World) (t : TypeId) (k : FloatKind) (x y : Nat) : (binOp .sub t (.float k x) (.float k y)).run P w = .ok (.float k (fRes .sub k x y w)) (w.drewN (fQ .sub k x y)) := run_float_any w .sub rfl t k x y
theorem run_mul_any {P : Program} (w : World) (t : TypeId) (k : FloatKind) (x y : Nat) : (binOp .mul t (.float k x) (.float k y)).run P w = .ok (.float k (fRes .mul k x y w)) (w.drewN (fQ .mul k x y)) := run_float_any w .mul rfl t k x y
theorem run_quo_any {P : Program} (w : World) (t : TypeId) (k : FloatKind) (x y : Nat) : (binOp .quo t (.float k x) (.float k y)).run P w = .ok (.float k (fRes .quo k x y w)) (w.drewN (fQ .quo k x y)) := run_float_any w .quo rfl t k x y

def cRes (s : FloatKind) (b : Nat) (k : IntKind) (w : World) : Int := match floatToIntVal s b k with
  | some n => n
  | none => if (Question.floatToInt s b k).forced then k.wrap 0 else k.wrap ((Question.floatToInt s b k).cut (w.tape w.drawn (.floatToInt s b k)))
def cQ (s : FloatKind) (b : Nat) (k : IntKind) : Nat := match floatToIntVal s b k with
  | some _ => 0
  | none => if (Question.floatToInt s b k).forced then 0 else 1
theorem run_convert_any {P : Program} (w : World) (src dst : TypeId) (s : FloatKind) (k : IntKind) (b : Nat) (hs : (P.underlying src).isSome = true) (hd : P.underlying dst = some (.int k)) :
    (convert src dst (.float s b)).run P w = .ok (.int k (cRes s b k w)) (w.drewN (cQ s b k)) := by
  unfold cRes cQ
  cases hf : floatToIntVal s b k with
  | some n => exact run_convert_float_int w src dst s k b n hs hd hf
  | none =>
    obtain ⟨u, hs'⟩ := Option.isSome_iff_exists.1 hs
    unfold floatToIntVal at hf
    by_cases hq : (Question.floatToInt s b k).forced = true
    · cases hn : (s.decode b).toInt .zero with
      | none => (cases u <;> simp [convert, run_underlying hs', run_underlying hd, Conv.floatToInt, hn, hq] <;> rfl)
      | some n =>
        rw [hn] at hf
        simp only [] at hf
        have hne : ¬ (k.min ≤ n ∧ n ≤ k.max) := by intro h; rw [if_pos h] at hf; cases hf
        (cases u <;> simp [convert, run_underlying hs', run_underlying hd, Conv.floatToInt, hn, hq, hne] <;> rfl)
    · cases hn : (s.decode b).toInt .zero with
      | none => (cases u <;> simp [convert, run_underlying hs', run_underlying hd, Conv.floatToInt, hn, hq] <;> rfl)
      | some n =>
        rw [hn] at hf
        simp only [] at hf
        have hne : ¬ (k.min ≤ n ∧ n ≤ k.max) := by intro h; rw [if_pos h] at hf; cases hf
        (cases u <;> simp [convert, run_underlying hs', run_underlying hd, Conv.floatToInt, hn, hq, hne] <;> rfl)
theorem run_convert_if {P : Program} (w : World) (src dst : TypeId) (k : IntKind) (f : FloatKind) (n : Int) (hs : (P.underlying src).isSome = true) (hd : P.underlying dst = some (.float f)) :
    (convert src dst (.int k n)).run P w = .ok (.float f (f.nearest n)) w := by
  obtain ⟨u, hs'⟩ := Option.isSome_iff_exists.1 hs
  cases u <;> simp [convert, run_underlying hs', run_underlying hd, Conv.intToFloat]
end Go.Proofs.YtiimddkopiknpaaGreatDoor

/-
  A region that draws its order, of reads and of operations on floats that may draw: each operation's value is known but for its kind.
-/
namespace Go.Proofs.YtiimddkopiknpaaGreatDoor
open Go.RowKit

structure TypAct (T : Nat → Value → Prop) (dst : Nat → Nat) (N : Nat) (a0 : Act) (D : Nat → Prop) (a : Act) : Prop where
  defers : a.defers = a0.defers
  size : a.tmps.size = a0.tmps.size
  keep : ∀ k, (∀ i, i < N → dst i ≠ k) → a.tmps.getD k undef = a0.tmps.getD k undef
  val : ∀ i, i < N → D i → T i (a.tmps.getD (dst i) undef)

section
variable {P : Program} {l : List Oper} {T : Nat → Value → Prop} {dst : Nat → Nat} {a0 : Act} {w0 : World} {N : Nat}
theorem TypAct.put {D D' : Nat → Prop} {a : Act} {i : Nat} {v : Value} (h : TypAct T dst N a0 D a) (hi : i < N) (hinj : ∀ i j, i < N → j < N → dst i = dst j → i = j) (hin : dst i < a0.tmps.size) (hD : ∀ j, D' j ↔ j = i ∨ D j) (hv : T i v) :
    TypAct T dst N a0 D' (a.put (some (dst i)) v) := by
  have hds : dst i < a.tmps.size := by rw [h.size]; exact hin
  refine ⟨(put_defers _ _ _).trans h.defers, (put_size _ _ _).trans h.size, fun k hk => ?_, fun j hj hDj => ?_⟩
  · rw [putD _ _ _ _ hds, if_neg (hk i hi)]; exact h.keep k hk
  · rw [putD _ _ _ _ hds]
    by_cases e : j = i
    · subst e; rw [if_pos rfl]; exact hv
    · rw [if_neg (fun e2 => e (hinj i j hi hj e2).symm)]
      rcases (hD j).1 hDj with h' | h'
      · exact (e h').elim
      · exact h.val j hj h'
def TypI (l : List Oper) (T : Nat → Value → Prop) (dst : Nat → Nat) (N : Nat) (a0 : Act) (w0 : World) (listed : Array Bool) (a : Act) (w : World) : Prop :=
  listed.size = l.length ∧ TypAct T dst N a0 (doneL listed) a ∧ ∃ q, w = w0.drewN q
theorem wp_region_typed {id : Nat} {Q : Exit → Act → World → Prop} (T : Nat → Value → Prop) (dst : Nat → Nat) (N : Nat) (hm : P.follows .mixedOrders = true) (hN : N = l.length)
    (hg : ∀ i o, l[i]? = some o → o.guard = none ∧ o.dst = some (dst i))
    (hinj : ∀ i j, i < N → j < N → dst i = dst j → i = j) (hin : ∀ i, i < N → dst i < a0.tmps.size)
    (hord : ∀ i o, l[i]? = some o → ∀ e ∈ o.after, Region.binds .any e = true → e.on < i)
    (hop : ∀ (D : Nat → Prop) (a : Act) (q : Nat) (i : Nat) (o : Oper), l[i]? = some o → (∀ e ∈ o.after, Region.binds .any e = true → D e.on) → TypAct T dst N a0 D a →
      (∃ v, T i v ∧ Oper.quietUpon P (fun w'' => w'' = w0.drewN q) (w0.drewN q) v ((execOp a.eval o).run P (w0.drewN q))) ∨
      (∃ v q', T i v ∧ (execOp a.eval o).run P (w0.drewN q) = .ok (.value v) ((w0.drewN q).drewN q')))
    (hend : ∀ (a : Act) (q : Nat), TypAct T dst N a0 (fun i => i < N) a → Q .normal a (w0.drewN q)) : (Code.region id l.toArray true).wp P Q a0 w0 := by
  have hop0 : ∀ i, i < N → ∃ o, l[i]? = some o := fun i hi => ⟨l[i]'(by omega), by simp [hN ▸ hi]⟩
  refine wp_region_inv (TypI l T dst N a0 w0) hm ?_ ?_ ?_
  · have hnd : ∀ i, i < N → ¬ doneL (Array.replicate l.length false) i := by
      intro i hi h
      unfold doneL at h
      rw [Array.getD_eq_getD_getElem?, Array.getElem?_replicate, if_pos (by omega)] at h
      cases h
    exact ⟨by simp, ⟨rfl, rfl, fun _ _ => rfl, fun i hi h => (hnd i hi h).elim⟩, 1, rfl⟩
  · rintro listed a w1 ⟨hsl, hA, q, rfl⟩ i hi
    obtain ⟨h1, h2⟩ := ready_mem hi
    have hiN : i < N := by rw [hN]; simpa using h1
    obtain ⟨o, ho⟩ := hop0 i hiN
    have ho' : l.toArray[i]? = some o := by simpa using ho
    have hdep : ∀ e ∈ o.after, Region.binds .any e = true → doneL listed e.on := by
      intro e he hb
      have := ready_dep hi ho' he hb
      unfold doneL
      simp only [Array.getD_eq_getD_getElem?] at this ⊢
      cases hx : listed[e.on]? with
      | none => rw [hx] at this; cases this
      | some v => rw [hx] at this; simpa using this
    obtain ⟨hgd, hdst⟩ := hg i o ho
    have hwant : Region.wanted o (yielded l.toArray a.tmps) = true := by unfold Region.wanted; rw [hgd]
    have hsl' : (listed.setIfInBounds i true).size = l.length := by simpa using hsl
    have hnext : ∀ v q', T i v → TypI l T dst N a0 w0 (listed.setIfInBounds i true) (a.put o.dst v) ((w0.drewN q).drewN q') := by
      intro v q' hv
      rw [hdst]
      exact ⟨hsl', hA.put hiN hinj (hin i hiN) (fun j => done_set h2) hv, q + q', by simp [World.drewN, Nat.add_assoc]⟩
    unfold wpOp
    simp only [ho', hwant, if_true]
    refine .inl ?_
    rcases hop (doneL listed) a q i o ho hdep hA with ⟨v, hv, h3⟩ | ⟨v, q', hv, h3⟩
    · unfold Oper.wp
      have hn := hnext v 0 hv
      generalize (execOp a.eval o).run P (w0.drewN q) = r at *
      cases r with
      | ok n w' =>
        cases n <;> simp only [Oper.quietUpon] at h3 <;> simp only [Oper.upon]
        case value u => obtain ⟨e1, e2⟩ := h3; rw [e1, e2]; exact hn
        case skip => obtain ⟨e1, e2⟩ := h3; rw [e1, ← e2]; exact hn
        case enter f args =>
          obtain ⟨e1, hc⟩ := h3
          rw [e1]
          exact hc.mono fun e w'' ⟨he, hw''⟩ => by subst he; subst hw''; exact hn
      | halt x w' => simp only [Oper.quietUpon] at h3
    · unfold Oper.wp
      rw [h3]
      exact hnext v q' hv
  · rintro listed a w1 ⟨hsl, hA, q, rfl⟩ hr
    have hlsz : ∀ j, j < N → j < listed.size := fun j hj => by rw [hsl]; omega
    have hall : ∀ i, i < N → doneL listed i := by
      intro i
      induction i using Nat.strongRecOn with
      | _ i ih =>
        intro hi
        obtain ⟨o, ho⟩ := hop0 i hi
        apply Classical.byContradiction
        intro hnd
        have hmem : i ∈ Region.ready .any l.toArray listed := by
          unfold Region.ready
          rw [List.mem_filter, List.mem_range]
          refine ⟨by simp; omega, ?_⟩
          have ho' : l.toArray[i]? = some o := by simpa using ho
          simp only [ho', Option.map_some, Option.getD_some, Bool.and_eq_true]
          have h1 : listed.getD i true = false := by
            unfold doneL at hnd
            simpa using hnd
          refine ⟨by rw [h1]; rfl, ?_⟩
          rw [Array.all_eq_true]
          intro k hk
          cases hb : Region.binds .any o.after[k] with
          | false => rfl
          | true =>
            have hlt := hord i o ho _ (Array.getElem_mem hk) hb
            have hd := ih _ hlt (by omega)
            have hsz : (o.after[k]).on < listed.size := hlsz _ (by omega)
            unfold doneL at hd
            simp only [Array.getD_eq_getD_getElem?] at hd ⊢
            rw [Array.getElem?_eq_getElem hsz] at hd ⊢
            simpa using hd
        rw [hr] at hmem
        simp at hmem
    exact hend a q ⟨hA.defers, hA.size, hA.keep, fun i hi _ => hA.val i hi (hall i hi)⟩
end
end Go.Proofs.YtiimddkopiknpaaGreatDoor
