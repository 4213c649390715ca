/-
  The clause that is learned of a conflict.
-/
import Derived.Test.YtiimddkopiknpaaGreatDoorB04
set_option linter.unusedVariables false
set_option linter.unusedSimpArgs false

/-
  learnClause, whole.
-/
namespace Go.Proofs.YtiimddkopiknpaaGreatDoor
open Go.RowKit

theorem infoBool : (Tryz.prog.info? 4).map (fun i => (i.zero, i.size, i.bytes)) = some (some (.bool false), 1, 1) := by kernel_rfl
def loNil : Lo → Row
  | .met => .nil 4 1
  | .box => .nil 53 1
  | .lits => .nil 82 1
  | .l2 => .nil 82 1
  | .ncl => .nil 112 4
theorem loNil_v (r : Lo) : (loNil r).v.ownBlock = none := by cases r <;> rfl
theorem Rows.nilR {s : St} {w : World} (h : Rows s.row w) : Rows (s.rl loNil) w := by
  refine ⟨fun r => ?_, fun r r' b h1 h2 => ?_⟩
  · cases r with
    | inl r => exact h.own r
    | inr r => cases r <;> exact World.ownsRow_nil _ _ _ _
  · cases r with
    | inr r => simp only [St.rl, Sum.elim_inr, loNil_v] at h1; cases h1
    | inl r => cases r' with
      | inr r => simp only [St.rl, Sum.elim_inr, loNil_v] at h2; cases h2
      | inl r' => rw [h.inj r r' b h1 h2]
theorem own_nilR {s : St} {b : Nat} (h : Own (s.rl loNil) b) : Own s.row b := by
  obtain ⟨r, hr⟩ := h
  cases r with
  | inr r => simp only [St.rl, Sum.elim_inr, loNil_v] at hr; cases hr
  | inl r => exact ⟨r, hr⟩

theorem Rep.trl {s : St} {w : World} (h : Rep s w) (hn : 0 < s.trail.length) : ∃ b cap, w.cell? ⟨s.sb, 14, none⟩ = some (.slice (some ⟨b, 0, none⟩) s.trail.length cap) ∧ ∀ i, i < s.trail.length → w.cell? ⟨b, i, none⟩ = some (.int .i32 (nth s.trail i : Nat)) := by
  obtain ⟨b, cap, h1, h2, h3, h4⟩ := h.rows.open .trail hn
  have h1 : s.trailV = .slice (some ⟨b, 0, none⟩) s.trail.length cap := h1
  have := h.sc h.hd.f14
  rw [h1] at this
  exact ⟨b, cap, this, fun i hi => h.rows.cell .trail h2 (getElem?_map_getD i32 s.trail 0 i hi)⟩
def LRel (s0 : St) (w0 : World) (mB bB lvl ub : Nat) (v12 v13 : Value) (wr : World) : Prop :=
  ∃ (q : Nat) (a : LS) (s : St) (V : Value) (z : Int), v12 = .int .i64 (a.n : Int) ∧ v13 = .int .i64 z ∧ z + 1 = (q : Int) ∧ LI s0.toMS lvl ub q a [] ∧ 1 ≤ a.n ∧ AX s0 loNil w0 s (lo s0.nv mB bB V a.B a.L) wr
def LRel2 (s0 : St) (w0 : World) (mB bB lvl ub : Nat) (q : Nat) (a : LS) (s : St) (V : Value) (v13 : Value) (wr : World) : Prop :=
  ∃ (q' : Nat) (a' : LS) (z : Int), v13 = .int .i64 z ∧ z + 1 = (q' : Int) ∧ q' ≤ q ∧ LI s0.toMS lvl ub q' a' [] ∧ a'.n = a.n ∧ a'.L = a.L ∧ AX s0 loNil w0 s (lo s0.nv mB bB V a'.B a.L) wr

def LRel3 (s0 : St) (w0 : World) (mB bB lvl c : Nat) (a : LS) (v12 v16 : Value) (wr : World) : Prop :=
  ∃ (i : Nat) (s : St) (V : Value), v16 = .int .i64 (i : Int) ∧ i ≤ (s0.lits c).length ∧ v12 = .int .i64 ((newAll s0.toMS lvl a ((s0.lits c).take i)).n : Int) ∧
    AX s0 loNil w0 s (lo s0.nv mB bB V (newAll s0.toMS lvl a ((s0.lits c).take i)).B (newAll s0.toMS lvl a ((s0.lits c).take i)).L) wr

theorem Core.rid {u0 lvl : Nat} {m : MS} (h : Core u0 lvl m) {v c : Nat} (hv : v < m.nv) (hr : m.ra v = some c) : c ∈ m.ids := by
  by_cases e : m.va v = 0
  · rw [h.un v hv e] at hr; cases hr
  · obtain ⟨i, h1, h2⟩ := h.tl.on v hv e
    exact (h.tl.rsn i c h1 (by rw [h2]; exact hr)).1

theorem AX.at0 {s0 s : St} {σ : Lo → Row} {w0 w : World} (h : AX s0 loNil w0 s σ w) : AT s0 w0 s w := by
  refine ⟨⟨h.rows.left, ⟨h.tr.fr.os, h.tr.fr.tape, h.tr.fr.output, h.tr.fr.size, fun k hk hn => h.tr.fr.block k hk fun ho => hn (own_nilR ho)⟩, ?_⟩, h.hd, h.kp, h.ms, h.qcl, h.qil, h.q, h.mem⟩
  rintro b ⟨r, hr⟩
  rcases h.tr.own b ⟨.inl r, hr⟩ with h' | h'
  · exact .inl (own_nilR h')
  · exact .inr h'
/-- from one state to the next, with a clause more -/
structure AC (s : St) (w : World) (s' : St) (w' : World) (c : Nat) (L : List Nat) (x : Nat) : Prop where
  tr : Tr s.row w s'.row w'
  hd : Hd s'
  kp : s'.keep2 = s.keep2
  ms : s'.toMS = s.toMS.addC c L x
  qcl : s'.qc.length = s.qc.length
  qil : s'.qi.length = s.qi.length
  q : QI s.nv s.qc s.qi → QI s'.nv s'.qc s'.qi
  mem : s'.qc.Perm s.qc
def LearnPost (s0 : St) (w0 : World) (lvl ub : Nat) (e : Ending) (w' : World) : Prop :=
  (∃ (l : Nat) (s' : St), e = .returned (.tuple #[.pointer none, .int .i32 (l : Int)]) ∧ Lrn s0.toMS lvl ub [l] ∧ AT s0 w0 s' w') ∨
  (∃ (c : Nat) (L : List Nat) (x : Nat) (s' : St), e = .returned (.tuple #[.pointer (some ⟨c, 0, none⟩), .int .i32 (-1)]) ∧ Lrn s0.toMS lvl ub L ∧ 2 ≤ L.length ∧ L.length ≤ 12 ∧ c ∉ s0.ids ∧ 2147483649 ≤ x ∧ x ≤ 2147483648 + L.length ∧ AC s0 w0 s' w' c L x)

theorem AX.ofTr {s s1 : St} {σ σ1 σ2 : Lo → Row} {w w1 w2 : World} (h : AX s σ w s1 σ1 w1) (t : Tr (s1.rl σ1) w1 (s1.rl σ2) w2) : AX s σ w s1 σ2 w2 := ⟨h.tr.trans t, h.hd, h.kp, h.ms, h.qcl, h.qil, h.q, h.mem⟩
theorem run_copy_rows {P : Program} {ι : Type} {ρ ρ' : ι → Row} {w : World} (dT sT ty : TypeId) (elem : TypeId) (k : Nat) (hu : P.underlying dT = some (.slice elem)) (hsz : (P.info? elem).map (·.size) = some k)
    (h : Rows ρ w) (r : ι) {b : Nat} (hb : (ρ r).v.ownBlock = some b) (off dLen dCap sLen sCap m : Nat) (ad : Addr) (cs : List Value) (hm : m = Nat.min sLen dLen) (hn : cs.length = m * k)
    (hsrc : ∀ j v, cs[j]? = some v → w.cell? (ad.add j) = some v) (hfit : off + cs.length ≤ (ρ r).xs.length) (h1 : ∀ v ∈ cs, v.oneCell' = true)
    (hr : ρ' r = { ρ r with xs := (ρ r).xs.take off ++ cs ++ (ρ r).xs.drop (off + cs.length) }) (hne : ∀ r', r' ≠ r → ρ' r' = ρ r') :
    ∃ w', (Builtin.copy_ #[dT, sT] ty #[.slice (some ⟨b, off, none⟩) dLen dCap, .slice (some ad) sLen sCap]).run P w = .ok (goInt m) w' ∧ Tr ρ w ρ' w' := by
  obtain ⟨cur, t, hg, hsz2, ht⟩ := h.splice r hb off cs hfit hr hne
  exact ⟨_, run_copy_size (P := P) w dT sT ty elem k b off dLen dCap ad sLen sCap m cur t cs hu hsz hg hm hn hsrc hsz2 h1, ht⟩
/-- with a row for the clause's own literals; with the clause -/
def loL (σ : Lo → Row) (g : Nat) (n : Nat) (xs : List Value) : Lo → Row
  | .l2 => ⟨82, 1, slV g n, n, xs⟩
  | r => σ r
def loC (σ : Lo → Row) (c : Nat) (xs : List Value) : Lo → Row
  | .ncl => .one 112 4 c xs
  | r => σ r
theorem addC_setWord (m : MS) (c : Nat) (L : List Nat) (x y : Nat) : (m.addC c L x).setWord c y = m.addC c L y := by
  unfold MS.addC MS.setWord
  simp only []
  congr 1
  funext c'
  split <;> rfl
theorem Wf.addC {m : MS} (h : Wf m) {c : Nat} {L : List Nat} {x : Nat} (hl : 2 ≤ L.length) (hl2 : L.length ≤ 1000000) (hL : ∀ y ∈ L, y < m.nv * 2) (hx : x < 4294967296) : Wf (m.addC c L x) := by
  refine ⟨h.nv0, h.nv1, ?_, ?_, ?_, ?_, ?_, h.wll, h.wbl, h.tr, h.trl⟩
  · intro c' hc'
    simp only [MS.addC] at hc' ⊢
    split
    · exact ⟨hl, hl2⟩
    · rename_i e; exact h.len c' (by simpa [e] using hc')
  · intro c' hc' i hi
    simp only [MS.addC] at hc' hi ⊢
    split at hi
    · rename_i e; rw [if_pos e]; exact hL _ (nth_mem _ _ hi)
    · rename_i e; rw [if_neg e]; exact h.lit c' (by simpa [e] using hc') i hi
  · intro c' hc'
    simp only [MS.addC] at hc' ⊢
    split
    · exact hx
    · rename_i e; exact h.word c' (by simpa [e] using hc')
  · intro t ht i hi
    obtain ⟨a, b⟩ := h.wl t ht i hi
    exact ⟨a, List.mem_cons_of_mem _ b⟩
  · intro t ht i hi
    obtain ⟨a, b⟩ := h.wb t ht i hi
    exact ⟨a, List.mem_cons_of_mem _ b⟩
theorem AX.ac {s0 s : St} {σ : Lo → Row} {w0 w w' : World} {c : Nat} {L : List Nat} {V : Value} {x : Nat} {act : Value} (h : AX s0 loNil w0 s σ w) (hr : Rows (s.addC c L V 2147483648 act).row w ∧ ∀ b, Own (s.addC c L V 2147483648 act).row b → Own (s.rl σ) b)
    (t : RT (s.addC c L V 2147483648 act) w ((s.addC c L V 2147483648 act).setWord c x) w') : AC s0 w0 ((s.addC c L V 2147483648 act).setWord c x) w' c L x := by
  have t0 : Tr s0.row w0 (s.addC c L V 2147483648 act).row w := by
    refine ⟨hr.1, ⟨h.tr.fr.os, h.tr.fr.tape, h.tr.fr.output, h.tr.fr.size, fun k hk hn => h.tr.fr.block k hk fun ho => hn (own_nilR ho)⟩, fun b hb => ?_⟩
    rcases h.tr.own b (hr.2 b hb) with h' | h'
    · exact .inl (own_nilR h')
    · exact .inr h'
  refine ⟨t0.trans t.tr, t.hd, h.kp, ?_, h.qcl, h.qil, h.q, h.mem⟩
  show ((s.addC c L V 2147483648 act).toMS).setWord c x = _
  rw [St.addC_ms, h.ms, addC_setWord]

/-- rows after the literals' row, the box, the marks -/
def lo1 (b : Nat) : Lo → Row
  | .lits => ⟨82, 1, slV b 1, 1, [i32 0]⟩
  | r => loNil r
def lo2 (b bB : Nat) (V : Value) : Lo → Row
  | .lits => ⟨82, 1, slV b 1, 1, [i32 0]⟩
  | .box => .one 53 1 bB [V]
  | r => loNil r

set_option maxRecDepth 100000 in
set_option maxHeartbeats 8000000 in
theorem learn_c {s0 : St} {w0 : World} (h : Rep s0 w0) {u0 lvl ub c : Nat} (hC : Core u0 lvl s0.toMS) (hU : LU s0.toMS lvl ub) (hlv : lvl < 1000000) (hc : c ∈ s0.ids) (hf : ∀ y ∈ s0.lits c, s0.toMS.lst y = 2) (hat : ∃ y ∈ s0.lits c, s0.toMS.lev (y / 2) = lvl)
    (hQ : QI s0.nv s0.qc s0.qi) (hbc : s0.qc.length ≤ 1000000000) (hbi : s0.qi.length ≤ 1000000000) (hlr : ∀ c ∈ s0.lrn, c ∈ s0.ids) (hll : s0.lrn.length ≤ 1000000000) (hnv : s0.nv ≤ 11) (hq0 : 0 < s0.qi.length) :
    Calls Tryz.prog 70 #[.pointer (some ⟨s0.sb, 0, none⟩), .pointer (some ⟨c, 0, none⟩), .int .i64 (lvl : Int)] w0 (LearnPost s0 w0 lvl ub) := by
  obtain ⟨iL, hiL, hz0, hz1, hz2⟩ := info_parts infoLit
  have hW := hC.wf
  have hT := hC.tl
  have hnv1 := hW.nv1
  have htrl := hW.trl
  have hst := LI.start hT hU hc hf (fun y hy => hC.litlt hc hy)
  have hal := hst.1.allI hU hW.tr (hC.ndc c hc) (fun y hy => ⟨hst.2 y hy, by
    show List.getD _ _ _ = false
    rw [List.getD_eq_getElem?_getD, List.getElem?_replicate]
    split <;> rfl⟩)
  have hn1 : 1 ≤ (addAll s0.toMS lvl ⟨List.replicate (s0.nv * 2) false, [0], 0⟩ (s0.lits c)).n := by
    rw [← hal.2]
    obtain ⟨y, h1, h2⟩ := hat
    have : 0 < ((s0.lits c).filter fun y => decide (s0.toMS.lev (y / 2) = lvl)).length := List.length_pos_of_mem (List.mem_filter.2 ⟨h1, by simpa using h2⟩)
    omega
  have hva : ∀ v, v < s0.nv → (s0.toMS.va v).natAbs < 1000000 := by
    intro v hv
    by_cases e : s0.toMS.va v = 0
    · rw [e]; decide
    · obtain ⟨i, h1, h2⟩ := hT.on v hv e
      have := hT.top i h1
      rw [h2] at this
      show s0.toMS.lev v < _
      omega
  obtain ⟨a1, ha1⟩ : ∃ a1, a1 = addAll s0.toMS lvl ⟨List.replicate (s0.nv * 2) false, [0], 0⟩ (s0.lits c) := ⟨_, rfl⟩
  rw [← ha1] at hal hn1
  replace ha1 := Lib.hid ha1
  have hB1 := Lib.hid (clauseBump_c h hc (hW.word c hc) hlr hll)
  have hX0 := Lib.hid (AX.refl h.rows.nilR h.hd)
  have mk1 := make_rep (P := Tryz.prog) 53 82 (.int .i32 0) 4 Tryz.underlying53 infoLit rfl 1 (by omega) (by decide)
  have mk2 := make_rep (P := Tryz.prog) 27 4 (.bool false) 1 Tryz.underlying27 infoBool rfl (s0.nv * 2) (by omega) (by unfold maxLen; omega)
  have c2 : ((s0.nv * 2 : Nat) : Int) = (s0.nv : Int) * 2 := by omega
  rw [c2] at mk2
  clear c2
  simp only [Int.cast_ofNat_Int] at mk1
  replace hal := Lib.hid hal.1
  replace hT := Lib.hid hT
  replace hW := Lib.hid hW
  replace hC := Lib.hid hC
  replace hU := Lib.hid hU
  replace hva := Lib.hid hva
  clear hst
  replace hf := Lib.hid hf
  replace hat := Lib.hid hat
  replace hQ := Lib.hid hQ
  replace hlr := Lib.hid hlr
  go_enter Tryz.func70, Tryz.ntmps70
  go_upto_region 2 with (go_at_call 99; refine hB1.out.mono ?_; rintro e w1 ⟨rfl, s1, hA1⟩)
  have hX1 := hX0.out.at_ hA1
  have hR1 := hX1.rep
  have hsb1 := hX1.sb
  have hnvE : s1.nv = s0.nv := congrArg MS.nv hX1.ms
  have f4 : w1.cell? ⟨s0.sb, 4, none⟩ = some (.int .i64 (s0.nv : Int)) := by rw [← hsb1, ← hnvE]; exact hR1.sc hR1.hd.f4
  go_upto_region 3 with fail
  -- the literals' row and the box
  have hX2 : AX s0 loNil w0 s1 (lo1 w1.heap.size) (w1.alloc (.cells #[.int .i32 0] 82)) :=
    hX1.makeR (σ2 := lo1 w1.heap.size) .lits _ (own_new w1 82 1 1 [.int .i32 0] (by decide) rfl) rfl rfl (fun r hr => by cases r <;> first | rfl | contradiction)
  have hX3 : AX s0 loNil w0 s1 (lo2 w1.heap.size (w1.heap.size + 1) (slV w1.heap.size 1)) ((w1.alloc (.cells #[.int .i32 0] 82)).alloc (.cells #[slV w1.heap.size 1] 53)) :=
    hX2.makeR (σ2 := lo2 w1.heap.size (w1.heap.size + 1) (slV w1.heap.size 1)) .box _ (by
      have := own_box (w1.alloc (.cells #[.int .i32 0] 82)) 53 [slV w1.heap.size 1]
      simpa [lo2, Row.one] using this) (by simp [Value.ownBlock]) (by simp [lo2, Row.one]) (fun r hr => by cases r <;> first | rfl | contradiction)
  have hsbl : s0.sb < w1.heap.size := by have := (hX1.rows.lt (b := s0.sb) ⟨.inl .sol, by show (Row.one _ _ _ _).v.ownBlock = _; rw [hsb1]; rfl⟩); exact this
  have f4 : ((w1.alloc (.cells #[.int .i32 0] 82)).alloc (.cells #[slV w1.heap.size 1] 53)).cell? ⟨s0.sb, 4, none⟩ = some (.int .i64 (s0.nv : Int)) := by rw [← hsb1, ← hnvE]; exact hX3.rep.sc hX3.rep.hd.f4
  obtain ⟨lb, hlb⟩ : ∃ lb, lb = w1.heap.size := ⟨_, rfl⟩
  rw [← hlb] at hX3 f4 ⊢
  simp only [slV] at f4
  obtain ⟨w2, hw2⟩ : ∃ w2, w2 = ((w1.alloc (.cells #[.int .i32 0] 82)).alloc (.cells #[.slice (some ⟨lb, 0, none⟩) 1 1] 53)) := ⟨_, rfl⟩
  have hw2' := hw2
  rw [← hw2] at f4 ⊢
  have hX3 : AX s0 loNil w0 s1 (lo2 lb (lb + 1) (slV lb 1)) w2 := by rw [hw2]; exact hX3
  clear hw2 hw2' hX2 hX1 hlb hsbl
  go_upto_region 4 with fail
  obtain ⟨mB, hmB⟩ : ∃ mB, mB = w2.heap.size := ⟨_, rfl⟩
  have hX4 : AX s0 loNil w0 s1 (lo s0.nv mB (lb + 1) (slV lb 1) (List.replicate (s0.nv * 2) false) [0]) (w2.alloc (.cells (Array.replicate (s0.nv * 2) (.bool false)) 4)) :=
    hX3.makeR (σ2 := lo s0.nv mB (lb + 1) (slV lb 1) (List.replicate (s0.nv * 2) false) [0]) .met _ (by
      have := own_rep w2 4 (s0.nv * 2) (.bool false) (by unfold maxLen; omega)
      simpa [lo] using this) rfl (by rw [hmB]; rfl) (fun r hr => by cases r <;> first | rfl | contradiction)
  rw [← hmB]
  obtain ⟨w3, hw3⟩ : ∃ w3, w3 = w2.alloc (.cells (Array.replicate (s0.nv * 2) (.bool false)) 4) := ⟨_, rfl⟩
  rw [← hw3] at hX4 ⊢
  have f4 : w3.cell? ⟨s0.sb, 4, none⟩ = some (.int .i64 (s0.nv : Int)) := by rw [← hsb1, ← hnvE]; exact hX4.rep.sc hX4.rep.hd.f4
  clear hw3 hX3 hmB mk1 mk2
  have e1 : s0.nv * 2 - s0.nv = s0.nv := by omega
  have e2 : ¬ (s0.nv * 2 = s0.nv) := by have := hW.out.nv0; omega
  have hX4' := hX4
  replace ha1 := ha1.out
  rw [← hnvE] at hX4'
  have hms1 := hX4.ms
  have hAL := addLits_c (mB := mB) (bB := lb + 1) (V0 := slV lb 1) (a0 := ⟨List.replicate (s0.nv * 2) false, [0], 0⟩) (by rw [hnvE]; exact hX4.rows) hX4.hd (by rw [hms1]; exact hW.out) (c := c) hlv (by show c ∈ s1.toMS.ids; rw [hms1]; exact hc)
    (hX4.q hQ.out) (by rw [hX4.qcl]; exact hbc) (by rw [hX4.qil]; exact hbi) (by simp) rfl (by rw [hms1]; exact hva.out) (by rw [hX4.qil]; exact hq0)
  have hms1' : s1.toMS = s0.toMS := hms1
  have hAL2 : Calls Tryz.prog 100 #[.pointer (some ⟨s0.sb, 0, none⟩), .pointer (some ⟨c, 0, none⟩), .int .i64 (lvl : Int), .slice (some ⟨mB, 0, none⟩) s0.nv (s0.nv * 2), .slice (some ⟨mB, s0.nv, none⟩) s0.nv s0.nv, .pointer (some ⟨lb + 1, 0, none⟩)] w3
      (fun e w' => e = .returned (.int .i64 (a1.n : Int)) ∧ ∃ (s : St) (V : Value), AX s0 loNil w0 s (lo s0.nv mB (lb + 1) V a1.B a1.L) w') := by
    rw [hsb1, hnvE] at hAL
    refine hAL.mono ?_
    rintro e w' ⟨he, s, V, hX⟩
    rw [hms1', ← ha1] at he
    rw [hms1', ← ha1] at hX
    refine ⟨he, s, V, hX4.trans ?_⟩
    exact hX
  replace hAL2 := Lib.hid hAL2
  replace ha1 := Lib.hid ha1
  clear hX4' hAL hX4 hms1 hms1' hA1 hR1
  go_upto_region 7 with (go_at_call 100; refine hAL2.out.mono ?_; rintro e w4 ⟨rfl, s2, V2, hX5⟩)
  have hq1 := hal.out.qpos hn1
  have hms2 : s2.toMS = s0.toMS := hX5.ms
  obtain ⟨tb2, tc2, f14, _⟩ := hX5.rep.trl (by show 0 < s2.toMS.trail.length; rw [hms2]; exact hq1)
  rw [hX5.sb, show s2.trail.length = s0.trail.length from by show s2.toMS.trail.length = _; rw [hms2]] at f14
  obtain ⟨tl, htl⟩ : ∃ tl, tl = s0.trail.length := ⟨_, rfl⟩
  rw [← htl] at f14 hq1 htrl
  replace hX5 := Lib.hid hX5
  replace hms2 := Lib.hid hms2
  replace htl := Lib.hid htl
  go_wp2_with fail
  clear f4 f14
  go_loopw [12, 13] (fun v12 v13 wr => LRel s0 w0 mB (lb + 1) lvl ub v12 v13 wr) (fun _ v13 _ => (intOf v13 + 1).toNat)
  case atStart => exact ⟨s0.trail.length, a1, s2, V2, _, rfl, rfl, by have := htl.out; omega, hal.out, hn1, hX5.out⟩
  case round =>
    obtain ⟨q, a, s, V, z, rfl, rfl, hz, hI, hn, hX⟩ := hrel
    have hms : s.toMS = s0.toMS := hX.ms
    have hsb := hX.sb
    have hann := hI.llen.2
    have hann2 : a.n ≤ 1000000000 := by have := hW.out.trl; omega
    by_cases h1 : 1 < a.n
    · --<D
      have h1I : (1 : Int) < (a.n : Int) := by omega
      replace hI := Lib.hid hI
      replace hX := Lib.hid hX
      replace hms := Lib.hid hms
      replace hsb := Lib.hid hsb
      replace hz := Lib.hid hz
      go_wp2_with fail
      go_loopw [13] (fun v13 wq => LRel2 s0 w0 mB (lb + 1) lvl ub q a s V v13 wq) (fun v13 _ => (intOf v13 + 1).toNat)
      case atStart => exact ⟨q, a, z, rfl, hz.out, Nat.le_refl _, hI.out, rfl, rfl, hX.out⟩
      case round =>
        obtain ⟨q', a', z', rfl, hz', hqq, hI', hn', hL', hX'⟩ := hrel
        have hq' := hI'.qpos (by omega)
        obtain ⟨p, rfl⟩ : ∃ p, q' = p + 1 := ⟨q' - 1, by omega⟩
        have hzp : z' = (p : Int) := by omega
        subst hzp
        have hR' := hX'.rep
        have hnvs : s.nv = s0.nv := by show s.toMS.nv = _; rw [hms.out]
        have hpl : p < s0.trail.length := by have := hI'.ql; omega
        obtain ⟨tb, tc, f14, ft⟩ := hR'.trl (by show 0 < s.toMS.trail.length; rw [hms.out]; omega)
        have ft := ft p (by show p < s.toMS.trail.length; rw [hms.out]; exact hpl)
        rw [hsb.out, show s.trail.length = tl from by show s.toMS.trail.length = _; rw [hms.out, htl.out]] at f14
        rw [show nth s.trail p = nth s0.trail p from by show nth s.toMS.trail p = _; rw [hms.out]] at ft
        have hptl : p < tl := by have := htl.out; omega
        have hpI : (p : Int) < (tl : Int) := by omega
        have hxl := hW.out.tr p hpl
        have hml := hX'.met (i := s0.nv + nth s0.trail p / 2) (by have := hX'.metl; omega)
        have hmd : a'.B.getD (s0.nv + nth s0.trail p / 2) false = a'.ml s0.nv (nth s0.trail p / 2) := rfl
        rw [hmd] at hml
        have k1 : (nth s0.trail p : Int) / 2 < (s0.nv : Int) := by omega
        have k2 : (0 : Int) ≤ (nth s0.trail p : Int) / 2 := by omega
        have k3 : ((nth s0.trail p : Int) / 2).toNat = nth s0.trail p / 2 := by omega
        have hxs : nth s0.trail p < 2147483648 := by omega
        have hpass := fun hm => hI'.pass hU.out hW.out.tr hm
        have htake := fun hm => hI'.take hT.out hW.out hU.out hm (by omega)
        obtain ⟨x, hx⟩ : ∃ x, x = nth s0.trail p := ⟨_, rfl⟩
        rw [← hx] at ft hml k1 k2 k3 hxs hxl hpass htake
        replace hx := Lib.hid hx
        replace hpass := Lib.hid hpass
        replace htake := Lib.hid htake
        clear hmd
        replace hI' := Lib.hid hI'
        cases hm : a'.ml s0.nv (x / 2) with
        | false =>
          rw [hm] at hml
          have hI2 := hpass.out hm
          have f15 := hR'.sc hR'.hd.f15
          rw [hsb.out, hnvs] at f15
          unfold slV at f15
          have g1 := hR'.val (v := x / 2) (by rw [hnvs]; omega)
          have hva1 := hva.out (x / 2) (by omega)
          have hval : s.va (x / 2) = s0.toMS.va (x / 2) := by show s.toMS.va _ = _; rw [hms.out]
          rw [hval] at g1
          have hlev : s0.toMS.lev (x / 2) = (s0.toMS.va (x / 2)).natAbs := rfl
          obtain ⟨y, hy⟩ : ∃ y, y = s0.toMS.va (x / 2) := ⟨_, rfl⟩
          rw [← hy] at g1 hva1 hlev
          clear hval
          replace hy := Lib.hid hy
          have ha1 := fun w => abs_c y w (by omega) (by omega)
          have hpd : a'.pass s0.toMS lvl (x / 2) = if s0.toMS.lev (x / 2) = lvl then a'.mark (x / 2) else a' := rfl
          have hm1 := hX'.metf (x / 2)
          have hm2 := hX'.met (i := x / 2) (by have := hX'.metl; omega)
          have hX2 := hX'.mark (x / 2) true
          replace hX' := Lib.hid hX'
          replace hX2 := Lib.hid hX2
          clear hm
          by_cases hlv5 : y.natAbs = lvl
          · have hlvb : ((y.natAbs : Int) == (lvl : Int)) = true := by simp [hlv5]
            rw [if_pos (hlev.trans hlv5)] at hpd
            rw [hpd] at hI2
            replace hI2 := Lib.hid hI2
            clear hpd hlev hlv5
            go_wp2_with (go_at_call 29; refine Calls.ret (Var_c x _ hxs) ?_)
            refine wp_region_tail 16 (by kernel_rfl) (by kernel_rfl) ?_
            simp only [List.take_succ_cons, List.take_zero, List.drop_succ_cons, List.drop_zero]
            repeat still_step
            still_call (Var_c x _ hxs)
            repeat still_step
            still_call (ha1 _)
            repeat still_step
            refine wpStill_nil ?_
            go_wp2_with (go_at_call 29; refine Calls.ret (Var_c x _ hxs) ?_)
            exact ⟨⟨p, a'.mark (x / 2), (p : Int) - 1, rfl, by omega, by omega, hI2.out, hn', hL', hX2.out.drew⟩, by simp [intOf]; try omega⟩
          · have hlvb : ((y.natAbs : Int) == (lvl : Int)) = false := by simp; omega
            rw [if_neg (by rw [hlev]; exact hlv5)] at hpd
            rw [hpd] at hI2
            replace hI2 := Lib.hid hI2
            clear hpd hlev hlv5
            go_wp2_with (go_at_call 29; refine Calls.ret (Var_c x _ hxs) ?_)
            refine wp_region_tail 16 (by kernel_rfl) (by kernel_rfl) ?_
            simp only [List.take_succ_cons, List.take_zero, List.drop_succ_cons, List.drop_zero]
            repeat still_step
            still_call (Var_c x _ hxs)
            repeat still_step
            still_call (ha1 _)
            repeat still_step
            refine wpStill_nil ?_
            go_wp2_with fail
            exact ⟨⟨p, a', (p : Int) - 1, rfl, by omega, by omega, hI2.out, hn', hL', hX'.out.drew⟩, by simp [intOf]; try omega⟩
        | true =>
          rw [hm] at hml
          obtain ⟨hp1, htk⟩ := htake.out hm
          have f19 := hR'.sc hR'.hd.f19
          rw [hsb.out, hnvs] at f19
          unfold slV at f19
          have g19 := hR'.ass (v := x / 2) (by rw [hnvs]; omega)
          have f20 := hR'.sc hR'.hd.f20
          rw [hsb.out, hnvs] at f20
          unfold slV at f20
          have g20 := hR'.rsn (v := x / 2) (by rw [hnvs]; omega)
          rcases htk with ⟨hra, hI2⟩ | ⟨c', hra, hc', hI2, hgood⟩
          · rw [show s.ra (x / 2) = none from by show s.toMS.ra _ = _; rw [hms.out]; exact hra] at g20
            simp only [ptrV, Option.map_none] at g20
            obtain ⟨a2, ha2⟩ : ∃ a2, a2 = ({ a' with n := a'.n - 1 } : LS) := ⟨_, rfl⟩
            have hn2 : (a2.n : Int) = (a.n : Int) - 1 := by rw [ha2]; show ((a'.n - 1 : Nat) : Int) = _; omega
            have hn3 : 1 ≤ a2.n := by omega
            have hI2' : LI s0.toMS lvl ub p a2 [] := by rw [ha2]; exact hI2
            have hX3 : AX s0 loNil w0 s (lo s0.nv mB (lb + 1) V a2.B a2.L) wr := by rw [ha2]; simp only []; rw [hL']; exact hX'
            replace ha2 := Lib.hid ha2
            replace hI2' := Lib.hid hI2'
            replace hI2 := Lib.hid hI2
            replace hX3 := Lib.hid hX3
            replace hX' := Lib.hid hX'
            replace hra := Lib.hid hra
            clear hm hR'
            go_wp2_with (go_at_call 29; refine Calls.ret (Var_c x _ hxs) ?_)
            exact ⟨⟨p, a2, s, V, (p : Int) - 1, by rw [hn2], rfl, by omega, hI2'.out, hn3, hX3.out⟩, by have := hz.out; simp [intOf]; omega⟩
          rw [show s.ra (x / 2) = some c' from by show s.toMS.ra _ = _; rw [hms.out]; exact hra] at g20
          simp only [ptrV, Option.map_some] at g20
          have hcs : c' ∈ s.ids := by show c' ∈ s.toMS.ids; rw [hms.out]; exact hc'
          have hcB := clauseBump_c hR' hcs (by show s.toMS.word c' < _; rw [hms.out]; exact hW.out.word c' hc') (by show ∀ c ∈ s.toMS.lrn, c ∈ s.toMS.ids; rw [hms.out]; exact hlr.out) (by show s.toMS.lrn.length ≤ _; rw [hms.out]; exact hll)
          rw [hsb.out] at hcB
          replace hcB := Lib.hid hcB
          replace hX' := Lib.hid hX'
          replace hI2 := Lib.hid hI2
          replace hgood := Lib.hid hgood
          replace hra := Lib.hid hra
          clear hm hR'
          go_upto_region 21 with (first
            | (go_at_call 29; refine Calls.ret (Var_c x _ hxs) ?_)
            | (go_at_call 99; refine hcB.out.mono ?_; rintro e w5 ⟨rfl, s3, hA3⟩))
          have hX3 := hX'.out.at_ hA3
          obtain ⟨a2, ha2⟩ : ∃ a2, a2 = ({ a' with n := a'.n - 1 } : LS) := ⟨_, rfl⟩
          have hn2 : (a2.n : Int) = (a.n : Int) - 1 := by rw [ha2]; show ((a'.n - 1 : Nat) : Int) = _; omega
          have hn3 : 1 ≤ a2.n := by omega
          have hI2' : LI s0.toMS lvl ub p a2 (s0.lits c') := by rw [ha2]; exact hI2.out
          have hgood' : ∀ y ∈ s0.lits c', a2.met (y / 2) = true ∨ LGood s0.toMS lvl ub p y := by rw [ha2]; exact hgood.out
          have hX3 : AX s0 loNil w0 s3 (lo s0.nv mB (lb + 1) V a2.B a2.L) w5 := by rw [ha2]; simp only []; rw [hL']; exact hX3
          have ha2n : a2.n ≤ 1000000000 := by omega
          have ha2L := hI2'.llen.1
          replace ha2 := Lib.hid ha2
          replace hI2' := Lib.hid hI2'
          replace hgood' := Lib.hid hgood'
          replace hX3 := Lib.hid hX3
          obtain ⟨cl, hcl⟩ : ∃ cl, cl = (s0.lits c').length := ⟨_, rfl⟩
          have hcl1 : cl ≤ 1000000 := by rw [hcl]; exact (hW.out.len c' hc').2
          replace hcl := Lib.hid hcl
          clear hA3 f14 ft f19 g19 f20 g20 hml
          go_wp2_with fail
          go_loopw [12, 16] (fun v12 v16 wq => LRel3 s0 w0 mB (lb + 1) lvl c' a2 v12 v16 wq) (fun _ v16 _ => cl - (intOf v16).toNat)
          case atStart => exact ⟨0, s3, V, rfl, Nat.zero_le _, by rw [← hn2]; rfl, hX3.out⟩
          case round =>
            clear hX3
            obtain ⟨i, s4, V4, rfl, hi, rfl, hX4⟩ := hrel
            have hR4 := hX4.rep
            have hms4 : s4.toMS = s0.toMS := hX4.ms
            have hsb4 := hX4.sb
            have hW4 : Wf s4.toMS := by rw [hms4]; exact hW.out
            have hcs4 : c' ∈ s4.ids := by show c' ∈ s4.toMS.ids; rw [hms4]; exact hc'
            have hlits4 : s4.lits c' = s0.lits c' := by show s4.toMS.lits c' = _; rw [hms4]
            have hnv4 : s4.nv = s0.nv := by show s4.toMS.nv = _; rw [hms4]
            have hQ4 := hX4.q hQ.out
            have hbc4 : s4.qc.length ≤ 1000000000 := by rw [hX4.qcl]; exact hbc
            have hbi4 : s4.qi.length ≤ 1000000000 := by rw [hX4.qil]; exact hbi
            have hq04 : 0 < s4.qi.length := by rw [hX4.qil]; exact hq0
            obtain ⟨b, hb⟩ : ∃ b, b = newAll s0.toMS lvl a2 ((s0.lits c').take i) := ⟨_, rfl⟩
            have hbl := newAll_len s0.toMS lvl a2 ((s0.lits c').take i)
            rw [← hb] at hX4 hbl ⊢
            have hti : ((s0.lits c').take i).length ≤ i := by rw [List.length_take]; omega
            rw [← hcl.out] at hi
            have hb1 : b.L.length ≤ 10000000 := by omega
            have hb2 : b.n ≤ 1001000000 := by omega
            have hlenS : Calls Tryz.prog 50 #[.pointer (some ⟨c', 0, none⟩)] wr fun e w' => e = .returned (.int .i64 (cl : Int)) ∧ w' = wr := by rw [hcl.out, ← hlits4]; exact Len_s hR4 hW4 hcs4
            replace hlenS := Lib.hid hlenS
            clear hti
            by_cases hlt : i < cl
            · have hltI : (i : Int) < (cl : Int) := by omega
              have hi1 : i + 1 ≤ (s0.lits c').length := by rw [← hcl.out]; exact hlt
              have hget := Get_s hR4 hW4 hcs4 (i := i) (by rw [hlits4]; omega)
              rw [hlits4] at hget
              have hyl : nth (s0.lits c') i < s0.nv * 2 := hW.out.lit c' hc' i (by omega)
              have hsucc := newAll_succ s0.toMS lvl a2 (s0.lits c') i (by omega)
              rw [← hb] at hsucc
              generalize nth (s0.lits c') i = l at *
              have hls : l < 2147483648 := by omega
              have hst := litStatus_c hR4 (l := l) (by rw [hnv4]; exact hyl) (by rw [hnv4]; exact hnv1) (s0.toMS.lst l) (by rw [hms4])
              rw [hsb4] at hst
              have hmt := hX4.met (i := l / 2) (by have := hX4.metl; omega)
              have hmd : b.B.getD (l / 2) false = b.met (l / 2) := rfl
              rw [hmd] at hmt
              have hmf := hX4.metf (l / 2)
              have j1 : (l : Int) / 2 < (s0.nv : Int) := by omega
              have j2 : (0 : Int) ≤ (l : Int) / 2 := by omega
              have j3 : ((l : Int) / 2).toNat = l / 2 := by omega
              have hnd : b.new s0.toMS lvl l = if b.met (l / 2) = true then b else b.add s0.toMS lvl l := rfl
              clear hmd
              replace hms4 := Lib.hid hms4
              replace hW4 := Lib.hid hW4
              replace hb := Lib.hid hb
              replace hX4 := Lib.hid hX4
              replace hlits4 := Lib.hid hlits4
              replace hQ4 := Lib.hid hQ4
              replace hst := Lib.hid hst
              replace hget := Lib.hid hget
              cases hmb : b.met (l / 2) with
              | true =>
                rw [if_pos hmb] at hnd
                rw [hnd] at hsucc
                rw [hmb] at hmt
                clear hnd hmb hR4
                replace hsucc := Lib.hid hsucc
                go_wp2_with (first
                  | (go_at_call 50; refine Calls.ret hlenS.out ?_)
                  | (go_at_call 52; refine Calls.ret hget.out ?_)
                  | (go_at_call 29; refine Calls.ret (Var_c l _ hls) ?_))
                exact ⟨⟨i + 1, s4, V4, by go_num, hi1, by rw [hsucc.out], by rw [hsucc.out]; exact hX4.out⟩, by simp [intOf]; omega⟩
              | false =>
                rw [if_neg (by rw [hmb]; decide)] at hnd
                rw [hnd] at hsucc
                rw [hmb] at hmt
                clear hnd hmb hR4
                by_cases h2 : s0.toMS.lst l = 2
                · --<B
                  have habs : b.add s0.toMS lvl l = if s0.toMS.lev (l / 2) = lvl then ⟨(b.B.set (l / 2) true).set (s0.toMS.nv + l / 2) true, b.L, b.n + 1⟩ else ⟨b.B.set (l / 2) true, b.L ++ [l], b.n⟩ := by
                    unfold LS.add; rw [if_pos h2]
                  rw [h2] at hst
                  replace hst := Lib.hid hst.out
                  go_upto_region 29 with (first
                    | (go_at_call 50; refine Calls.ret hlenS.out ?_)
                    | (go_at_call 52; refine Calls.ret hget.out ?_)
                    | (go_at_call 29; refine Calls.ret (Var_c l _ hls) ?_)
                    | (go_at_call 72; refine Calls.retq hst.out ?_; intro q1))
                  have t1 := (hX4.out.drewN q1).mark (l / 2) true
                  obtain ⟨w6, hw6⟩ : ∃ w6, w6 = (wr.drewN q1).setCell ⟨mB, l / 2, none⟩ (.bool true) := ⟨_, rfl⟩
                  rw [← hw6] at t1 ⊢
                  clear hw6 hmt hmf
                  have hvb := varBump_c t1.rep (v := l / 2) (by rw [hnv4]; omega) (by rw [hnv4]; exact hnv1) hQ4.out hbc4 hbi4 hq04
                  rw [hsb4] at hvb
                  have hcast : ((l / 2 : Nat) : Int) = (l : Int) / 2 := by omega
                  rw [hcast] at hvb
                  replace hvb := Lib.hid hvb
                  replace t1 := Lib.hid t1
                  clear hcast
                  go_upto_region 30 with (go_at_call 101; refine hvb.out.mono ?_; rintro e w7 ⟨rfl, s6, hT6⟩; replace hT6 := Lib.hid hT6)
                  have t2 := t1.out.at_ hT6.out
                  have hR6 := t2.rep
                  have hms6 : s6.toMS = s0.toMS := t2.ms
                  have hnv6 : s6.nv = s0.nv := by show s6.toMS.nv = _; rw [hms6]
                  have hsb6 := t2.sb
                  have f15 : w7.cell? ⟨s0.sb, 15, none⟩ = some (.slice (some ⟨s6.modelB, 0, none⟩) s0.nv s0.nv) := by rw [← hsb6, ← hnv6]; exact hR6.sc hR6.hd.f15
                  have g1 := hR6.val (v := l / 2) (by rw [hnv6]; omega)
                  have hva1 := hva.out (l / 2) (by omega)
                  have hval : s6.va (l / 2) = s0.toMS.va (l / 2) := by show s6.toMS.va _ = _; rw [hms6]
                  rw [hval] at g1
                  have hlev : s0.toMS.lev (l / 2) = (s0.toMS.va (l / 2)).natAbs := rfl
                  obtain ⟨y, hy⟩ : ∃ y, y = s0.toMS.va (l / 2) := ⟨_, rfl⟩
                  rw [← hy] at g1 hva1 hlev
                  clear hval
                  replace hy := Lib.hid hy
                  have ha1 := fun w => abs_c y w (by omega) (by omega)
                  replace t2 := Lib.hid t2
                  replace hR6 := Lib.hid hR6
                  replace hms6 := Lib.hid hms6
                  by_cases hlv5 : y.natAbs = lvl
                  · have hlvb : ((y.natAbs : Int) == (lvl : Int)) = true := by simp [hlv5]
                    have hm1 := t2.out.metf (s0.nv + l / 2)
                    have hm2 := t2.out.met (i := s0.nv + l / 2) (by have := t2.out.metl; omega)
                    rw [if_pos (hlev.trans hlv5)] at habs
                    rw [habs] at hsucc
                    replace hsucc := Lib.hid hsucc
                    replace habs := Lib.hid habs
                    go_wp2_with (first
                      | (go_at_call 71; refine Calls.ret (ha1 _) ?_))
                    refine ⟨⟨i + 1, s6, V4, by go_num, hi1, by rw [hsucc.out]; go_num, ?_⟩, by simp [intOf]; omega⟩
                    rw [hsucc.out]
                    exact t2.out.mark (s0.nv + l / 2) true
                  · have hlvb : ((y.natAbs : Int) == (lvl : Int)) = false := by simp; omega
                    rw [if_neg (by rw [hlev]; exact hlv5)] at habs
                    rw [habs] at hsucc
                    replace hsucc := Lib.hid hsucc
                    replace habs := Lib.hid habs
                    have hbx := t2.out.box
                    go_wp2_with (first
                      | (go_at_call 71; refine Calls.ret (ha1 _) ?_)
                      | (at_builtin; apply keepHid))
                    refine Lib.hid ?_
                    refine wpList_append_rows rfl _ _ 53 rfl 82 iL (.int .i32 0) 1 4 Tryz.underlying53 hiL hz0 hz1 hz2 rfl (by decide) V4 b.L.length (b.L.map i32) rfl ((t2.out.alloc _).rows.own (.inr .lits)) ⟨w7.heap.size, 0, none⟩ 1 1 [i32 l] rfl rfl (cell_new_one1 _ _ _ _ rfl) (by simp [i32, Value.oneCell']) (by unfold maxLen; omega) (by omega) ?_
                    intro V' w8 ho hg hf
                    obtain ⟨p1, p2, p3⟩ := (t2.out.alloc _).app l ho hg hf
                    obtain ⟨u14, hu14⟩ := Option.isSome_iff_exists.1 p1
                    obtain ⟨g4, cap4, rfl, _, _⟩ := own_form ho (by omega)
                    replace p3 := Lib.hid p3
                    clear p1 ho hg hf
                    go_wp2_with fail
                    refine ⟨⟨i + 1, s6, .slice (some ⟨g4, 0, none⟩) (b.L.length + 1) cap4, by go_num, hi1, by rw [hsucc.out], ?_⟩, by simp [intOf]; omega⟩
                    rw [hsucc.out]
                    exact p3.out
                · have h2b : (s0.toMS.lst l == 2) = false := by simpa using h2
                  have hadd : b.add s0.toMS lvl l = b := by unfold LS.add; rw [if_neg h2]
                  rw [hadd] at hsucc
                  replace hsucc := Lib.hid hsucc
                  clear hadd
                  go_wp2_with (first
                    | (go_at_call 50; refine Calls.ret hlenS.out ?_)
                    | (go_at_call 52; refine Calls.ret hget.out ?_)
                    | (go_at_call 29; refine Calls.ret (Var_c l _ hls) ?_)
                    | (go_at_call 72; refine Calls.retq hst.out ?_; intro q1))
                  exact ⟨⟨i + 1, s4, V4, by go_num, hi1, by rw [hsucc.out], by rw [hsucc.out]; exact hX4.out.drewN q1⟩, by simp [intOf]; omega⟩
            · have e : (s0.lits c').take i = s0.lits c' := List.take_of_length_le (by have := hcl.out; omega)
              rw [e] at hb
              have hI3 := hI2'.out.newsI hU.out hW.out.tr (fun y hy => hC.out.litlt hc' hy) hgood'.out
              rw [← hb] at hI3
              have hn4 : 1 ≤ b.n := by have := newAll_n_le (m := s0.toMS) (lvl := lvl) a2 (s0.lits c'); rw [← hb] at this; omega
              replace hb := Lib.hid hb
              replace hI3 := Lib.hid hI3
              replace hX4 := Lib.hid hX4
              clear hR4 e
              go_wp2_with (first
                  | (go_at_call 50; refine Calls.ret hlenS.out ?_))
              exact ⟨⟨p, b, s4, V4, (p : Int) - 1, rfl, rfl, by omega, hI3.out, hn4, hX4.out⟩, by have := hz.out; simp [intOf]; omega⟩
    · have h1I : ¬ ((1 : Int) < (a.n : Int)) := by omega
      have h1n : a.n = 1 := by omega
      obtain ⟨u, hu, hu2, hu3⟩ := hI.first hn
      have hR := hX.rep
      obtain ⟨tb, tc, f14, ft⟩ := hR.trl (by show 0 < s.toMS.trail.length; rw [hms]; omega)
      rw [hsb, show s.trail.length = tl from by show s.toMS.trail.length = _; rw [hms, htl.out]] at f14
      have hutl : u < tl := by have := htl.out; omega
      replace hI := Lib.hid hI
      replace hX := Lib.hid hX
      replace hms := Lib.hid hms
      replace hsb := Lib.hid hsb
      replace hz := Lib.hid hz
      replace hu2 := Lib.hid hu2
      replace hu3 := Lib.hid hu3
      replace ft := Lib.hid ft
      go_wp2_with fail
      go_loopw [181] (fun v181 wq => ∃ i : Nat, v181 = .int .i64 (i : Int) ∧ i ≤ u ∧ wq = wr) (fun v181 _ => tl - (intOf v181).toNat)
      case atStart => exact ⟨0, rfl, Nat.zero_le _, rfl⟩
      case round =>
        obtain ⟨i, rfl, hiu, rfl⟩ := hrel
        have hil : (i : Int) < (tl : Int) := by omega
        have ft1 := ft.out i (by show i < s.toMS.trail.length; rw [hms.out]; omega)
        rw [show nth s.trail i = nth s0.trail i from by show nth s.toMS.trail i = _; rw [hms.out]] at ft1
        have hxl := hW.out.tr i (by omega)
        have hml := hX.out.met (i := s0.nv + nth s0.trail i / 2) (by have := hX.out.metl; omega)
        have hmd : a.B.getD (s0.nv + nth s0.trail i / 2) false = a.ml s0.nv (nth s0.trail i / 2) := rfl
        rw [hmd] at hml
        clear hmd
        by_cases hiu2 : i = u
        · subst hiu2
          rw [hu2.out] at hml
          obtain ⟨x, hx⟩ : ∃ x, x = nth s0.trail i := ⟨_, rfl⟩
          rw [← hx] at ft1 hml hxl
          replace hx := Lib.hid hx
          have k1 : (x : Int) / 2 < (s0.nv : Int) := by omega
          have k2 : (0 : Int) ≤ (x : Int) / 2 := by omega
          have k3 : ((x : Int) / 2).toNat = x / 2 := by omega
          have hxs : x < 2147483648 := by omega
          have hne := hI.out.ne
          obtain ⟨b, cap, hV, _, _, hlit, hlf⟩ := hX.out.lits (by omega)
          have hbx := hX.out.box
          rw [hV] at hbx
          have g0 := hlit 0 (by omega)
          have gf := hlf 0
          have hLl := hI.out.llen.1
          have h0L : (0 : Int) < (a.L.length : Int) := by omega
          have hX2 := hX.out.litset hV 0 (negL x)
          replace hX2 := Lib.hid hX2
          replace hV := Lib.hid hV
          clear hlit hlf hR
          go_upto_region 38 with (go_at_call 29; refine Calls.ret (Var_c x _ hxs) ?_)
          refine wp_region_tail 3 (by kernel_rfl) (by kernel_rfl) ?_
          simp only [List.take_succ_cons, List.take_zero, List.drop_succ_cons, List.drop_zero]
          repeat still_step
          still_call (Neg_c x _ hxs)
          repeat still_step
          refine wpStill_nil ?_
          go_upto_region 40 with fail
          have hX3 := hX2.out.drew
          obtain ⟨w5, hw5⟩ : ∃ w5, w5 = (wr.setCell ⟨b, 0, none⟩ (.int .i32 (negL x : Nat))).drew := ⟨_, rfl⟩
          rw [← hw5] at hX3 ⊢
          clear hw5 g0 gf ft1 f14 hml hbx
          have hR3 := hX3.rep
          have hvd := varDecay_c hR3
          rw [hsb.out] at hvd
          replace hX3 := Lib.hid hX3
          replace hvd := Lib.hid hvd
          clear hR3
          go_upto_region 41 with (go_at_call 102; refine hvd.out.mono ?_; rintro e w6 ⟨rfl, s6, hA6⟩)
          have hX4 := hX3.out.at_ hA6
          have hcd := clauseDecay_c hX4.rep
          rw [hX4.sb] at hcd
          replace hX4 := Lib.hid hX4
          replace hcd := Lib.hid hcd
          clear hA6
          go_upto_region 42 with (go_at_call 103; refine hcd.out.mono ?_; rintro e w7 ⟨rfl, s7, hA7⟩)
          have hX5 := (hX4.out.at_ hA7).drew
          have hR5 := hX5.rep
          have hms7 : s7.toMS = s0.toMS := hX5.ms
          have hnv7 : s7.nv = s0.nv := by show s7.toMS.nv = _; rw [hms7]
          have hsb7 := hX5.sb
          have f15 : w7.cell? ⟨s7.sb, 15, none⟩ = some (slV s7.modelB s7.nv) := hR5.sc hR5.hd.f15
          rw [hsb7, hnv7] at f15
          unfold slV at f15
          have hbx : w7.cell? ⟨lb + 1, 0, none⟩ = some V := hX5.box
          rw [hV.out] at hbx
          have hxneg := negL_lt hxl
          have hLlt : ∀ y ∈ a.L.set 0 (negL x), y < s0.nv * 2 := by
            intro y hy
            rw [show a.L.set 0 (negL x) = negL x :: a.L.tail from by
              have := hI.out.ne
              cases hL : a.L with
              | nil => rw [hL] at this; simp at this
              | cons y L => rfl] at hy
            rcases List.mem_cons.1 hy with rfl | hy
            · exact hxneg
            · exact (hI.out.fl y hy).2.2.1
          have hsl : (a.L.set 0 (negL x)).length = a.L.length := by simp
          have hsort := sortL_c (mB := mB) (bB := lb + 1) (V := V) (B := a.B) (L := a.L.set 0 (negL x)) hR5.hd (by rw [hnv7]; exact hX5.rows) (by omega) (by omega) (by rw [hnv7]; exact hLlt) (by rw [hnv7]; exact hnv1) (by rw [hnv7, hms7]; exact hva.out)
          rw [hnv7, hV.out] at hsort
          replace hsort := Lib.hid hsort
          replace hX5 := Lib.hid hX5
          replace hms7 := Lib.hid hms7
          replace hLlt := Lib.hid hLlt
          clear hA7 hR5
          go_wp2_with fail
          refine wp_region_tail 5 (by kernel_rfl) (by kernel_rfl) ?_
          simp only [List.take_succ_cons, List.take_zero, List.drop_succ_cons, List.drop_zero]
          repeat still_step
          refine wpStill_nil ?_
          go_upto_region 43 with (go_at_call 104; refine hsort.out.mono ?_; rintro e w8 ⟨rfl, L2, hL2p, hL2s, hX8⟩)
          rw [hnv7, ← hV.out] at hX8
          have hX9 := hX5.out.trans hX8
          have hL2l : L2.length = a.L.length := by rw [hL2p.length_eq, hsl]
          have hrid : ∀ y ∈ L2, ∀ c, s0.toMS.ra (y / 2) = some c → c ∈ s0.ids := fun y hy c hyc => hC.out.rid (by have := hLlt.out y (hL2p.mem_iff.1 hy); omega) hyc
          have hmin := minim_c (mB := mB) (bB := lb + 1) (V := V) (a := a) (L := L2) hX9.hd (by rw [hnv7]; exact hX9.rows) (by rw [hms7.out]; exact hW.out) (by omega) (by omega) (fun y hy => by rw [hnv7]; exact hLlt.out y (hL2p.mem_iff.1 hy))
            (by show ∀ y ∈ L2, ∀ c, s7.toMS.ra (y / 2) = some c → c ∈ s7.toMS.ids; rw [hms7.out]; exact hrid)
          rw [hnv7, hV.out, hsb7] at hmin
          have hlrn := hI.out.lrn hT.out hW.out h1n hu hu2.out hu3.out (L2 := L2) (by rw [← hx.out]; exact hL2p) (by have := hL2s; rw [hsl, ← hL2l] at this; rw [show s0.toMS.val = s7.toMS.val from by rw [hms7.out]]; exact this)
          have hbx := hX9.box
          rw [hV.out] at hbx
          have hL2n1 : 1 ≤ L2.length := by omega
          have hL2n2 : L2.length ≤ 12 := by omega
          replace hL2l := Lib.hid hL2l
          replace hsl := Lib.hid hsl
          replace hmin := Lib.hid hmin
          replace hX9 := Lib.hid hX9
          replace hlrn := Lib.hid hlrn
          clear hL2p hL2s hX8 hrid f15
          go_upto_region 44 with (go_at_call 105; refine hmin.out.mono ?_; rintro e w9 ⟨rfl, L3, hM, hX10⟩)
          rw [hnv7, ← hV.out] at hX10
          have hX11 := hX9.out.trans hX10
          rw [hms7.out] at hM ⊢
          obtain ⟨LL, hLL⟩ : ∃ LL, LL = minL s0.toMS a L2 L2.length := ⟨_, rfl⟩
          have htk := hM.tk
          have hL3l := hM.len
          rw [← hLL] at hlrn htk ⊢
          have hne := hlrn.out.ne
          have hLL1 : LL.length ≤ L2.length := by rw [hLL]; exact minL_len _ _ _ _ (by omega) (Nat.le_refl _)
          replace hLL := Lib.hid hLL
          have hL3n : L3.length ≤ 12 := by omega
          replace hL3l := Lib.hid hL3l
          clear hX10 hM
          by_cases hs1 : LL.length = 1
          · obtain ⟨l, hl⟩ : ∃ l, LL = [l] := by
              match LL, hs1 with
              | [l], _ => exact ⟨l, rfl⟩
            have hn0 : nth L3 0 = l := by
              rw [hs1, hl] at htk
              cases L3 with
              | nil => simp at htk
              | cons y L => simp at htk; simpa [nth] using htk
            obtain ⟨b', cap', hV', _, _, hlit, hlf⟩ := hX11.lits (by have := hL3l.out; omega)
            have g0 := hlit 0 (by have := hL3l.out; omega)
            rw [hn0] at g0
            have hbx := hX11.box
            rw [hV'] at hbx
            have hbb : b' = b ∧ L3.length = a.L.length ∧ cap' = cap := by
              have := hV.out.symm.trans hV'
              simp at this
              exact ⟨this.1.symm, this.2.1.symm, this.2.2.symm⟩
            have h3L : (0 : Int) < (L3.length : Int) := by have := hL3l.out; omega
            have hfin : LearnPost s0 w0 lvl ub (.returned (.tuple #[.pointer none, .int .i32 (l : Int)])) w9.drew := .inl ⟨l, s7, rfl, by rw [← hl]; exact hlrn.out, hX11.drew.at0⟩
            replace hfin := Lib.hid hfin
            replace hX11 := Lib.hid hX11
            clear hlit hlf hl hn0 htk hbb hV'
            have hs1I : ((LL.length : Int) == 1) = true := by simp [hs1]
            go_wp2_with fail
            go_region
            all_goals
              go_wp2_with fail
              go_returns
              exact hfin.out
          · have hLL2 : 2 ≤ LL.length := by omega
            have hs1I : ((LL.length : Int) == 1) = false := by simp; omega
            have mk3 := make_rep (P := Tryz.prog) 53 82 (.int .i32 0) 4 Tryz.underlying53 infoLit rfl LL.length (by omega) (by unfold maxLen; omega)
            obtain ⟨sz, hsz⟩ : ∃ sz, sz = LL.length := ⟨_, rfl⟩
            rw [← hsz] at hs1I mk3 ⊢
            have hszb : 2 ≤ sz ∧ sz ≤ 12 := by omega
            replace hsz := Lib.hid hsz
            clear hs1
            go_upto_region 47 with fail
            have hX12 : AX s0 loNil w0 s7 (loL (lo s0.nv mB (lb + 1) V a.B L3) w9.heap.size sz (List.replicate sz (.int .i32 0))) (w9.alloc (.cells (Array.replicate sz (.int .i32 0)) 82)) :=
              hX11.makeR .l2 _ (own_rep w9 82 sz (.int .i32 0) (by unfold maxLen; omega)) rfl rfl (fun r hr => by cases r <;> first | rfl | contradiction)
            have hVL : V = .slice (some ⟨b, 0, none⟩) L3.length cap := by rw [hV.out, hL3l.out, hL2l.out]
            have hbx : (w9.alloc (.cells (Array.replicate sz (.int .i32 0)) 82)).cell? ⟨lb + 1, 0, none⟩ = some (.slice (some ⟨b, 0, none⟩) L3.length cap) := by
              rw [← hVL]; exact hX12.rows.cell (.inr .box) (b := lb + 1) rfl rfl
            have hsrc : ∀ j v, (LL.map i32)[j]? = some v → (w9.alloc (.cells (Array.replicate sz (.int .i32 0)) 82)).cell? ((⟨b, 0, none⟩ : Addr).add j) = some v := by
              intro j v hj
              have hjl : j < LL.length := by
                have := (List.getElem?_eq_some_iff.1 hj).1
                simpa using this
              rw [Addr.add_lit, Nat.zero_add]
              refine hX12.rows.cell (.inr .lits) (b := b) (by show V.ownBlock = some b; rw [hVL]; rfl) ?_
              show (L3.map i32)[j]? = some v
              rw [← htk, List.map_take, List.getElem?_take] at hj
              rw [if_pos (by omega)] at hj
              exact hj
            have hX13 : AX s0 loNil w0 s7 (loL (lo s0.nv mB (lb + 1) V a.B L3) w9.heap.size sz (List.replicate sz (.int .i32 0))) (w9.alloc (.cells (Array.replicate sz (.int .i32 0)) 82)) := hX12
            have hcapn : L3.length ≤ cap := by
              obtain ⟨cap', h1, h2, _⟩ := hX12.rows.form (.inr .lits) (b := b) (by show V.ownBlock = some b; rw [hVL]; rfl)
              have h1 : V = .slice (some ⟨b, 0, none⟩) L3.length cap' := h1
              rw [hVL] at h1
              simp at h1
              rw [h1]; exact h2
            have hszL : sz ≤ L3.length := by have := hsz.out; have := hL3l.out; omega
            have hszc : (sz : Int) ≤ (cap : Int) := by omega
            obtain ⟨g, hg⟩ : ∃ g, g = w9.heap.size := ⟨_, rfl⟩
            rw [← hg] at hX12 hX13 ⊢
            obtain ⟨wa, hwa⟩ : ∃ wa, wa = w9.alloc (.cells (Array.replicate sz (.int .i32 0)) 82) := ⟨_, rfl⟩
            rw [← hwa] at hX12 hX13 hbx hsrc ⊢
            clear hwa hX13
            replace hVL := Lib.hid hVL
            replace hX12 := Lib.hid hX12
            replace hsrc := Lib.hid hsrc
            replace hg := Lib.hid hg
            obtain ⟨wb, hrun, ht⟩ := run_copy_rows (P := Tryz.prog) (ρ := s7.rl (loL (lo s0.nv mB (lb + 1) V a.B L3) g sz (List.replicate sz (.int .i32 0)))) (ρ' := s7.rl (loL (lo s0.nv mB (lb + 1) V a.B L3) g sz (LL.map i32))) 53 53 3 82 1 Tryz.underlying53 (by kernel_rfl) hX12.out.rows (.inr .l2) (b := g) rfl 0 sz sz sz cap sz ⟨b, 0, none⟩ (LL.map i32) (Nat.min_self sz).symm (by rw [List.length_map, ← hsz.out, Nat.mul_one]) hsrc.out
              (by show 0 + (LL.map i32).length ≤ (List.replicate sz (Value.int .i32 0)).length
                  rw [List.length_map, List.length_replicate, ← hsz.out]; omega)
              (by intro v hv
                  obtain ⟨y, _, rfl⟩ := List.mem_map.1 hv
                  rfl)
              (by show (⟨_, _, _, _, _⟩ : Row) = ⟨_, _, _, _, _⟩
                  simp [St.rl, loL, ← hsz.out])
              (by intro r hr
                  cases r with
                  | inl r => rfl
                  | inr r => cases r <;> first | rfl | contradiction)
            have hX14 := hX12.out.ofTr ht
            replace hX14 := Lib.hid hX14
            clear ht
            go_upto_region 48 with fail
            have hcn : wb.heap.size ∉ s7.ids := fun hm => Nat.lt_irrefl _ (hX14.out.rep.fresh hm)
            have hX15 : AX s0 loNil w0 s7 (loC (loL (lo s0.nv mB (lb + 1) V a.B L3) g sz (LL.map i32)) wb.heap.size [slV g sz, .int .u32 2147483648, .float .f32 0, .pointer none]) (wb.alloc (.cells #[slV g sz, .int .u32 2147483648, .float .f32 0, .pointer none] 112)) :=
              hX14.out.makeR .ncl _ (own_box wb 112 [slV g sz, .int .u32 2147483648, .float .f32 0, .pointer none]) rfl rfl (fun r hr => by cases r <;> first | rfl | contradiction)
            have hRC := hX15.rows.addC (c := wb.heap.size) (L := LL) (V := slV g sz) (x := 2147483648) (act := .float .f32 0) hcn (by show (⟨_, _, _, _, _⟩ : Row) = ⟨_, _, _, _, _⟩; rw [hsz.out]) rfl
            have hms7' := hms7.out
            have hRep : Rep (s7.addC wb.heap.size LL (slV g sz) 2147483648 (.float .f32 0)) (wb.alloc (.cells #[slV g sz, .int .u32 2147483648, .float .f32 0, .pointer none] 112)) :=
              ⟨hRC.1, hX15.hd.addC _ _ _ _ _ ⟨0, rfl, by unfold NN; exact Nat.zero_le _⟩⟩
            have hWC : Wf (s7.addC wb.heap.size LL (slV g sz) 2147483648 (.float .f32 0)).toMS := by
              rw [St.addC_ms, hms7']
              exact hW.out.addC (by rw [← hsz.out]; exact hszb.1) (by rw [← hsz.out]; omega) (fun y hy => (hlrn.out.fl y hy).2) (by decide)
            have hlbd := lbd_c hRep hWC (c := wb.heap.size) (by show wb.heap.size ∈ wb.heap.size :: s7.ids; simp) (by show (if wb.heap.size = wb.heap.size then _ else _) = _; rw [if_pos rfl]) (by show ∀ v, v < s7.toMS.nv → (s7.toMS.va v).natAbs < 1000000; rw [hms7']; exact hva.out)
            have f15 := hRep.sc hRep.hd.f15
            rw [show (s7.addC wb.heap.size LL (slV g sz) 2147483648 (.float .f32 0)).sb = s0.sb from hsb7, show (s7.addC wb.heap.size LL (slV g sz) 2147483648 (.float .f32 0)).nv = s0.nv from hnv7] at f15
            rw [show (s7.addC wb.heap.size LL (slV g sz) 2147483648 (.float .f32 0)).nv = s0.nv from hnv7] at hlbd
            have hNL := newL_c (some ⟨g, 0, none⟩) sz sz wb
            obtain ⟨cc, hcc⟩ : ∃ cc, cc = wb.heap.size := ⟨_, rfl⟩
            rw [← hcc] at hNL hlbd hRC hcn f15 hX15
            obtain ⟨wc, hwc⟩ : ∃ wc, wc = wb.alloc (.cells #[slV g sz, .int .u32 2147483648, .float .f32 0, .pointer none] 112) := ⟨_, rfl⟩
            have hNL2 : Calls Tryz.prog 106 #[.slice (some ⟨g, 0, none⟩) sz sz] wb fun e w' => e = .returned (.pointer (some ⟨cc, 0, none⟩)) ∧ w' = wc := by rw [hwc]; exact hNL
            rw [← hwc] at hlbd hRC hX15 f15
            have f15 : wc.cell? ⟨s0.sb, 15, none⟩ = some (.slice (some ⟨s7.modelB, 0, none⟩) s0.nv s0.nv) := f15
            have hlbd2 : Calls Tryz.prog 107 #[.pointer (some ⟨cc, 0, none⟩), .slice (some ⟨s7.modelB, 0, none⟩) s0.nv s0.nv] wc fun e w' => e = .returned (.tuple #[]) ∧ LearnPost s0 w0 lvl ub (.returned (.tuple #[.pointer (some ⟨cc, 0, none⟩), .int .i32 (-1)])) w' := by
              refine hlbd.mono ?_
              rintro e w' ⟨he, y, y1, y2, y3⟩
              have y2 : y ≤ 2147483648 + LL.length := by
                have : (s7.addC cc LL (slV g sz) 2147483648 (.float .f32 0)).lits cc = LL := by show (if cc = cc then LL else _) = LL; rw [if_pos rfl]
                rw [this] at y2; exact y2
              refine ⟨he, .inr ⟨cc, LL, y, _, rfl, hlrn.out, by rw [← hsz.out]; exact hszb.1, by rw [← hsz.out]; exact hszb.2, ?_, y1, y2, hX15.ac hRC y3⟩⟩
              have : s7.ids = s0.ids := by show s7.toMS.ids = _; rw [hms7']
              rw [← this]; exact hcn
            replace hlbd2 := Lib.hid hlbd2
            replace hNL2 := Lib.hid hNL2
            clear hlbd hNL hRC hX15 hRep hWC hcn hwc hcc hms7' hrun
            go_wp2_with (first
              | (go_at_call 106; refine hNL2.out.mono ?_; rintro e w' ⟨rfl, rfl⟩)
              | (go_at_call 107; refine hlbd2.out.mono ?_; rintro e w' ⟨rfl, hfin⟩; replace hfin := Lib.hid hfin))
            go_returns
            exact hfin.out
        · rw [hu3.out i (by omega)] at hml
          have hxs : nth s0.trail i < 2147483648 := by omega
          have k1 : (nth s0.trail i : Int) / 2 < (s0.nv : Int) := by omega
          have k2 : (0 : Int) ≤ (nth s0.trail i : Int) / 2 := by omega
          have k3 : ((nth s0.trail i : Int) / 2).toNat = nth s0.trail i / 2 := by omega
          generalize nth s0.trail i = x at *
          go_wp2_with (go_at_call 29; refine Calls.ret (Var_c x _ hxs) ?_)
          exact ⟨⟨i + 1, by go_num, by omega, trivial⟩, by simp [intOf]; omega⟩
end Go.Proofs.YtiimddkopiknpaaGreatDoor
