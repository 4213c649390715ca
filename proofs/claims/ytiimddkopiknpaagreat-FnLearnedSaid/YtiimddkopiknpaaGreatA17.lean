/-
  The statement's own functions, second part.
-/
import Derived.Test.YtiimddkopiknpaaGreatA16
import Derived.Deep.LoopGhost
set_option linter.unusedVariables false
set_option linter.unusedSimpArgs false

/-
  True, Sum, Holds.
-/
namespace Go.Proofs.YtiimddkopiknpaaGreat
open Go.RowKit

def BoolsR (w : World) (P : Option Addr) (bs : List Bool) : Prop := ∀ j b, bs[j]? = some b → ∃ a, P = some a ∧ w.cell? (a.add j) = some (.bool b)
theorem BoolsR.old {w w' : World} {P : Option Addr} {bs : List Bool} (h : BoolsR w P bs) (ho : Old w w') : BoolsR w' P bs := by
  intro j b hj
  obtain ⟨a, h1, h2⟩ := h j b hj
  exact ⟨a, h1, ho.cell h2⟩
def trueB (bs : List Bool) (x : Int) : Bool := bs.getD (x.natAbs - 1) false == decide (0 < x)
theorem beq_dec (a : Bool) (p : Prop) [Decidable p] : (a == decide p) = (a == decide p) := rfl

set_option maxRecDepth 100000 in
set_option maxHeartbeats 2000000 in
theorem true_c {w : World} {P : Option Addr} {bs : List Bool} {cb : Nat} {x : Int} (h : BoolsR w P bs) (hb : bs.length = 8) (h0 : x ≠ 0) (h8 : x.natAbs ≤ 8) :
    Calls Tryz.prog 66 #[.int .i64 x, .slice P 8 cb] w fun e w' => e = .returned (.bool (trueB bs x)) ∧ w' = w := by
  have hO := fun w => Of_c x w (by omega)
  have hv1 : 1 ≤ x.natAbs := by omega
  obtain ⟨a, rfl, hc⟩ := h (x.natAbs - 1) _ (List.getElem?_eq_getElem (by omega))
  have ht : trueB bs x = (bs[x.natAbs - 1]'(by omega) == decide (0 < x)) := by
    unfold trueB
    rw [List.getD_eq_getElem?_getD, List.getElem?_eq_getElem (by omega)]; rfl
  rw [ht]
  clear ht h
  generalize bs[x.natAbs - 1]'(by omega) = bb at hc
  generalize x.natAbs = v at hO hv1 h8 hc
  have hvI : (v : Int) ≤ 8 := by omega
  have hv2 : IntKind.i64.wrap ((v : Int) - 1) = ((v - 1 : Nat) : Int) := by rw [IntWalk.i64_in _ (by omega)]; omega
  clear hb
  go_enter Tryz.func66, Tryz.ntmps66
  go_wp2_with (go_at_call 14; refine Calls.ret (hO _) ?_)
  go_ret
  exact ⟨rfl, rfl⟩

def cntT (bs : List Bool) (l : List Int) : Nat := (l.filter (trueB bs)).length
theorem cntT_le (bs : List Bool) (l : List Int) : cntT bs l ≤ l.length := List.length_filter_le _ _
theorem cntT_succ (bs : List Bool) (l : List Int) (i : Nat) (hi : i < l.length) : cntT bs (l.take (i + 1)) = cntT bs (l.take i) + if trueB bs l[i] = true then 1 else 0 := by
  unfold cntT
  rw [List.take_succ_eq_append_getElem hi, List.filter_append, List.length_append]
  congr 1
  cases h : trueB bs l[i] <;> simp [h]

set_option maxRecDepth 100000 in
set_option maxHeartbeats 4000000 in
theorem sum_c {w : World} {A P : Option Addr} {bs : List Bool} {l : List Int} {c cb : Nat} (h : IntsR w A l) (hP : BoolsR w P bs) (hb : bs.length = 8) (hl : ∀ x ∈ l, x ≠ 0 ∧ x.natAbs ≤ 8) (hn : l.length ≤ 1000) :
    Calls Tryz.prog 50 #[.slice A l.length c, .slice none 0 0, .slice P 8 cb] w fun e w' => e = .returned (.int .i64 (cntT bs l : Int)) ∧ w' = w := by
  obtain ⟨n, hnn⟩ : ∃ n, n = l.length := ⟨_, rfl⟩
  obtain ⟨r, hr⟩ : ∃ r, r = cntT bs l := ⟨_, rfl⟩
  rw [← hnn] at hn ⊢
  rw [← hr]
  replace hnn := Lib.hid hnn
  replace hr := Lib.hid hr
  replace h := Lib.hid h
  replace hl := Lib.hid hl
  replace hP := Lib.hid hP
  replace hb := Lib.hid hb
  go_enter Tryz.func50, Tryz.ntmps50
  go_wp2_with fail
  go_loopw [7, 13] (fun v7 v13 wr => ∃ (i : Nat), v13 = .int .i64 (i : Int) ∧ v7 = .int .i64 (cntT bs (l.take i) : Int) ∧ i ≤ n ∧ wr = w) (fun _ v13 _ => n - (intOf v13).toNat)
  case atStart => exact ⟨0, rfl, rfl, Nat.zero_le _, rfl⟩
  case round =>
    obtain ⟨i, rfl, rfl, hi, rfl⟩ := hrel
    by_cases hlt : i < n
    · have hiI : (i : Int) < (n : Int) := by omega
      have hil : i < l.length := by have := hnn.out; omega
      obtain ⟨a, rfl, hc⟩ := h.out i _ (List.getElem?_eq_getElem hil)
      have hs := cntT_succ bs l i hil
      have hlx := hl.out _ (List.getElem_mem hil)
      have hT := true_c (cb := cb) hP.out hb.out hlx.1 hlx.2
      have hcl := cntT_le bs (l.take i)
      rw [List.length_take] at hcl
      have hcl : cntT bs (l.take i) ≤ 1000 := by omega
      generalize cntT bs (l.take i) = q at hs hcl
      generalize l[i] = x at hc hs hT hlx
      replace hlx := Lib.hid hlx
      clear hil
      cases hb9 : trueB bs x
      · rw [hb9] at hT hs
        simp only [Bool.false_eq_true, if_false, Nat.add_zero] at hs
        replace hT := Lib.hid hT
        replace hs := Lib.hid hs
        replace hb9 := Lib.hid hb9
        go_wp2_with (go_at_call 66; refine Calls.ret hT.out ?_)
        exact ⟨⟨i + 1, by go_num, by rw [hs.out], by omega, trivial⟩, by simp [intOf]; omega⟩
      · rw [hb9] at hT hs
        simp only [if_true] at hs
        replace hT := Lib.hid hT
        replace hs := Lib.hid hs
        replace hb9 := Lib.hid hb9
        go_wp2_with (go_at_call 66; refine Calls.ret hT.out ?_)
        exact ⟨⟨i + 1, by go_num, by rw [hs.out]; go_num, by omega, trivial⟩, by simp [intOf]; omega⟩
    · have hiI : ¬ ((i : Int) < (n : Int)) := by omega
      have e : i = l.length := by have := hnn.out; omega
      have hq : cntT bs (l.take i) = r := by rw [e, List.take_length, hr.out]
      rw [hq]
      replace hq := Lib.hid hq
      clear e
      go_wp2_with fail
      go_ret
      exact ⟨rfl, rfl⟩

def holdsB (bs : List Bool) (l : List Int) : Bool := decide (1 ≤ cntT bs l)
theorem holdsB_iff (bs : List Bool) (l : List Int) : holdsB bs l = true ↔ ∃ x ∈ l, trueB bs x = true := by
  unfold holdsB cntT
  rw [decide_eq_true_iff]
  constructor
  · intro h
    obtain ⟨x, hx⟩ := List.exists_mem_of_length_pos (show 0 < (l.filter (trueB bs)).length by omega)
    rw [List.mem_filter] at hx
    exact ⟨x, hx⟩
  · rintro ⟨x, h1, h2⟩
    exact List.length_pos_of_mem (List.mem_filter.2 ⟨h1, h2⟩)
def OldRet (w : World) (v : Value) (e : Ending) (w' : World) : Prop := e = .returned v ∧ Old w w'
set_option maxRecDepth 100000 in
set_option maxHeartbeats 4000000 in
theorem holds_c {w : World} {A P : Option Addr} {bs : List Bool} {l : List Int} {c cb : Nat} (h : IntsR w A l) (hP : BoolsR w P bs) (hb : bs.length = 8) (hl : ∀ x ∈ l, x ≠ 0 ∧ x.natAbs ≤ 8) (hn : l.length ≤ 1000) :
    Calls Tryz.prog 25 #[.agg #[.slice A l.length c, .slice none 0 0, .int .i64 1], .slice P 8 cb] w (OldRet w (.bool (holdsB bs l))) := by
  have hS := fun w' (ho : Old w w') => sum_c (c := c) (cb := cb) (h.old ho) (hP.old ho) hb hl hn
  have hh : holdsB bs l = decide ((1 : Int) ≤ (cntT bs l : Int)) := by unfold holdsB; rw [decide_eq_decide]; omega
  rw [hh]
  generalize cntT bs l = r at hS
  generalize l.length = n at hS hn
  replace hS := Lib.hid hS
  clear h hP hb hl hh
  go_enter Tryz.func25, Tryz.ntmps25
  go_wp2_with fail
  refine wp_region_tail 9 (by kernel_rfl) (by kernel_rfl) ?_
  simp only [List.take_succ_cons, List.take_zero, List.drop_succ_cons, List.drop_zero]
  repeat still_step
  still_call (hS.out _ (((Old.refl w).alloc _).drew))
  repeat still_step
  refine wpStill_nil ?_
  go_wp2_with fail
  go_ret
  exact ⟨rfl, ((Old.refl w).alloc _).drew⟩

set_option maxRecDepth 100000 in
set_option maxHeartbeats 4000000 in
theorem allHold1_c {w : World} {A P : Option Addr} {bs : List Bool} {l : List Int} {c cb vb : Nat} (h : IntsR w A l) (hP : BoolsR w P bs) (hb : bs.length = 8) (hl : ∀ x ∈ l, x ≠ 0 ∧ x.natAbs ≤ 8) (hn : l.length ≤ 1000)
    (hv : w.cell? ⟨vb, 0, none⟩ = some (.slice P 8 cb)) :
    Calls Tryz.prog 24 #[.agg #[.slice A l.length c, .slice none 0 0, .int .i64 1], .pointer (some ⟨vb, 0, none⟩)] w (OldRet w (.bool (!holdsB bs l))) := by
  have hH := fun w' (ho : Old w w') => holds_c (c := c) (cb := cb) (h.old ho) (hP.old ho) hb hl hn
  have hvl := cell_lt hv
  generalize holdsB bs l = r at hH
  generalize l.length = n at hH hn
  replace hH := Lib.hid hH
  clear h hP hb hl
  have hv2 : (w.alloc (.cells #[.slice A n c, .slice none 0 0, .int .i64 1] 44)).cell? ⟨vb, 0, none⟩ = some (.slice P 8 cb) := ((Old.refl w).alloc _).cell hv
  go_enter Tryz.func24, Tryz.ntmps24
  go_wp2_with (go_at_call 25; refine (hH.out _ ((Old.refl w).alloc _)).mono ?_; rintro e w2 ⟨rfl, ho⟩; replace ho := Lib.hid ho)
  go_ret
  exact ⟨rfl, ((Old.refl w).alloc _).trans ho.out⟩
end Go.Proofs.YtiimddkopiknpaaGreat

/-
  AllHold, CNFHolds, Models.
-/
namespace Go.Proofs.YtiimddkopiknpaaGreat
open Go.RowKit

def IxPost (F : List (List Int)) (bs : List Bool) (w : World) (e : Ending) (w' : World) : Prop := ∃ r : Int, e = .returned (.int .i64 r) ∧ Old w w' ∧ ((0 ≤ r ∧ ∃ l ∈ F, holdsB bs l = false) ∨ (r < 0 ∧ ∀ l ∈ F, holdsB bs l = true))
set_option maxRecDepth 100000 in
set_option maxHeartbeats 4000000 in
theorem index_c {w : World} {g : Nat} {Q : Option Addr} {bs : List Bool} {F : List (List Int)} {c cb vb : Nat} (h : CstR w g F) (hP : BoolsR w Q bs) (hb : bs.length = 8) (hF : ∀ l ∈ F, (∀ x ∈ l, x ≠ 0 ∧ x.natAbs ≤ 8) ∧ l.length ≤ 1000) (hn : F.length ≤ 1000)
    (hv : w.cell? ⟨vb, 0, none⟩ = some (.slice Q 8 cb)) :
    Calls Tryz.prog 49 #[.slice (some ⟨g, 0, none⟩) F.length c, .func (.func 24) #[] #[.pointer (some ⟨vb, 0, none⟩)]] w (IxPost F bs w) := by
  obtain ⟨n, hnn⟩ : ∃ n, n = F.length := ⟨_, rfl⟩
  rw [← hnn] at hn ⊢
  replace hnn := Lib.hid hnn
  replace h := Lib.hid h
  replace hP := Lib.hid hP
  replace hF := Lib.hid hF
  replace hb := Lib.hid hb
  replace hv := Lib.hid hv
  go_enter Tryz.func49, Tryz.ntmps49
  go_wp2_with fail
  go_loopw [8] (fun v8 wr => ∃ (i : Nat), v8 = .int .i64 (i : Int) ∧ i ≤ n ∧ (∀ l ∈ F.take i, holdsB bs l = true) ∧ Old w wr) (fun v8 _ => n - (intOf v8).toNat)
  case atStart => exact ⟨0, rfl, Nat.zero_le _, by simp, Old.refl w⟩
  case round =>
    obtain ⟨i, rfl, hi, hok, ho⟩ := hrel
    by_cases hlt : i < n
    · have hiI : (i : Int) < (n : Int) := by omega
      have hil : i < F.length := by have := hnn.out; omega
      obtain ⟨B, c2, g1, g2, g3, hm, hq⟩ := h.out i _ (List.getElem?_eq_getElem hil)
      have h1 := ho.cell g1
      have h2 := ho.cell g2
      have h3 := ho.cell g3
      clear g1 g2 g3
      have hl := hF.out _ (List.getElem_mem hil)
      have hA := fun w' (ho' : Old w w') => allHold1_c (c := c2) (hq.old ho') (hP.out.old ho') hb.out hl.1 hl.2 (ho'.cell hv.out)
      have hnx : holdsB bs F[i] = true → ∀ l ∈ F.take (i + 1), holdsB bs l = true := by
        intro z l hl
        rw [List.take_succ_eq_append_getElem hil] at hl
        rcases List.mem_append.1 hl with hl | hl
        · exact hok l hl
        · have : l = F[i] := by simpa using hl
          rw [this]; exact z
      have hbad : holdsB bs F[i] = false → ∃ l ∈ F, holdsB bs l = false := fun z => ⟨_, List.getElem_mem hil, z⟩
      generalize F[i].length = m at h1 hA
      generalize holdsB bs F[i] = r at hA hnx hbad
      clear hm hq hl hil
      replace hA := Lib.hid hA
      replace hnx := Lib.hid hnx
      replace hbad := Lib.hid hbad
      replace hok := Lib.hid hok
      replace ho := Lib.hid ho
      cases r
      · have hb9 := hbad.out rfl
        replace hb9 := Lib.hid hb9
        clear hnx hbad
        go_wp2_with (go_at_call 24; refine (hA.out _ ho.out).mono ?_; rintro e w2 ⟨rfl, ho2⟩; replace ho2 := Lib.hid ho2)
        have hfin : IxPost F bs w (.returned (.int .i64 (i : Int))) w2 := ⟨i, rfl, ho.out.trans ho2.out, .inl ⟨by omega, hb9.out⟩⟩
        replace hfin := Lib.hid hfin
        go_ret
        exact hfin.out
      · have hn9 := hnx.out rfl
        replace hn9 := Lib.hid hn9
        clear hnx hbad
        go_wp2_with (go_at_call 24; refine (hA.out _ ho.out).mono ?_; rintro e w2 ⟨rfl, ho2⟩; replace ho2 := Lib.hid ho2)
        exact ⟨⟨i + 1, by go_num, by omega, hn9.out, ho.out.trans ho2.out⟩, by simp [intOf]; omega⟩
    · have hiI : ¬ ((i : Int) < (n : Int)) := by omega
      have e : i = F.length := by have := hnn.out; omega
      rw [e, List.take_length] at hok
      have hfin : IxPost F bs w (.returned (.int .i64 (-1))) wr := ⟨-1, rfl, ho, .inr ⟨by omega, hok⟩⟩
      replace hfin := Lib.hid hfin
      replace hok := Lib.hid hok
      clear e
      go_wp2_with fail
      go_ret
      exact hfin.out

def CtPost (F : List (List Int)) (bs : List Bool) (w : World) (e : Ending) (w' : World) : Prop := ∃ r : Bool, e = .returned (.bool r) ∧ Old w w' ∧ ((r = true ∧ ∃ l ∈ F, holdsB bs l = false) ∨ (r = false ∧ ∀ l ∈ F, holdsB bs l = true))
set_option maxRecDepth 100000 in
theorem anyBad_c {w : World} {g : Nat} {Q : Option Addr} {bs : List Bool} {F : List (List Int)} {c cb vb : Nat} (h : CstR w g F) (hP : BoolsR w Q bs) (hb : bs.length = 8) (hF : ∀ l ∈ F, (∀ x ∈ l, x ≠ 0 ∧ x.natAbs ≤ 8) ∧ l.length ≤ 1000) (hn : F.length ≤ 1000)
    (hv : w.cell? ⟨vb, 0, none⟩ = some (.slice Q 8 cb)) :
    Calls Tryz.prog 23 #[.slice (some ⟨g, 0, none⟩) F.length c, .func (.func 24) #[] #[.pointer (some ⟨vb, 0, none⟩)]] w (CtPost F bs w) := by
  have hI := index_c (c := c) h hP hb hF hn hv
  replace hI := Lib.hid hI
  clear h hP hb hF hn hv
  go_enter Tryz.func23, Tryz.ntmps23
  go_wp2_with (go_at_call 49; refine hI.out.mono ?_; rintro e w2 ⟨r, rfl, ho, hr⟩; replace ho := Lib.hid ho; replace hr := Lib.hid hr)
  have hfin : CtPost F bs w (.returned (.bool (decide (0 ≤ r)))) w2 := by
    refine ⟨_, rfl, ho.out, ?_⟩
    rcases hr.out with ⟨h1, h2⟩ | ⟨h1, h2⟩
    · exact .inl ⟨decide_eq_true h1, h2⟩
    · exact .inr ⟨decide_eq_false (by omega), h2⟩
  replace hfin := Lib.hid hfin
  go_ret
  exact hfin.out
def AHPost (F : List (List Int)) (bs : List Bool) (w : World) (e : Ending) (w' : World) : Prop := ∃ r : Bool, e = .returned (.bool r) ∧ Old w w' ∧ (r = true ↔ ∀ l ∈ F, holdsB bs l = true)
set_option maxRecDepth 100000 in
theorem allHold_c {w : World} {g : Nat} {Q : Option Addr} {bs : List Bool} {F : List (List Int)} {c cb : Nat} (h : CstR w g F) (hP : BoolsR w Q bs) (hb : bs.length = 8) (hF : ∀ l ∈ F, (∀ x ∈ l, x ≠ 0 ∧ x.natAbs ≤ 8) ∧ l.length ≤ 1000) (hn : F.length ≤ 1000) :
    Calls Tryz.prog 18 #[.slice (some ⟨g, 0, none⟩) F.length c, .slice Q 8 cb] w (AHPost F bs w) := by
  have ho0 : Old w (w.alloc (.cells #[.slice Q 8 cb] 34)) := (Old.refl w).alloc _
  have hI := anyBad_c (c := c) (cb := cb) (vb := w.heap.size) (h.old ho0) (hP.old ho0) hb hF hn (by rw [World.cell?_alloc_at (w := w) _ _ _ 0 rfl]; rfl)
  replace hI := Lib.hid hI
  replace ho0 := Lib.hid ho0
  clear h hP hb hF hn
  go_enter Tryz.func18, Tryz.ntmps18
  go_wp2_with (go_at_call 23; refine hI.out.mono ?_; rintro e w2 ⟨r, rfl, ho, hr⟩; replace ho := Lib.hid ho; replace hr := Lib.hid hr)
  have hfin : AHPost F bs w (.returned (.bool (!r))) w2 := by
    refine ⟨_, rfl, ho0.out.trans ho.out, ?_⟩
    rcases hr.out with ⟨h1, l, h2, h3⟩ | ⟨h1, h2⟩
    · rw [h1]
      constructor
      · intro h; cases h
      · intro h; rw [h l h2] at h3; cases h3
    · rw [h1]
      exact ⟨fun _ => h2, fun _ => rfl⟩
  replace hfin := Lib.hid hfin
  go_ret
  exact hfin.out
set_option maxRecDepth 100000 in
theorem cnfHolds_c {w : World} {A Q : Option Addr} {bs : List Bool} {F : List (List Int)} {c cb : Nat} (h : CnfR w A F) (hP : BoolsR w Q bs) (hb : bs.length = 8) (hF : ∀ l ∈ F, (∀ x ∈ l, x ≠ 0 ∧ x.natAbs ≤ 8) ∧ l.length ≤ 1000) (hn : F.length ≤ 1000) (hF0 : 0 < F.length) :
    Calls Tryz.prog 12 #[.slice A F.length c, .slice Q 8 cb] w (AHPost F bs w) := by
  have hC := clauses_c (c := c) h hn hF0
  have hA := fun w' (g c : Nat) (ho : Old w w') (hc : CstR w' g F) => allHold_c (c := c) (cb := cb) hc (hP.old ho) hb hF hn
  replace hC := Lib.hid hC
  replace hA := Lib.hid hA
  clear h hP hb hF hn
  go_enter Tryz.func12, Tryz.ntmps12
  go_wp2_with (first
    | (go_at_call 11; refine hC.out.mono ?_; rintro e w2 ⟨g, c2, rfl, h1, ho⟩; replace ho := Lib.hid ho; replace h1 := Lib.hid h1)
    | (go_at_call 18; refine (hA.out _ _ _ ho.out h1.out).mono ?_; rintro e w3 ⟨r, rfl, ho2, hr⟩; replace ho2 := Lib.hid ho2; replace hr := Lib.hid hr))
  have hfin : AHPost F bs w (.returned (.bool r)) w3 := ⟨r, rfl, ho.out.trans ho2.out, hr.out⟩
  replace hfin := Lib.hid hfin
  go_ret
  exact hfin.out

theorem infoBs : (Tryz.prog.info? 34).map (fun i => (i.zero, i.size, i.bytes)) = some (some (.slice none 0 0), 1, 24) := by kernel_rfl
/-- lists of values under which the clauses hold -/
structure MoI (F : List (List Int)) (V : Value) (Vs : List (Value × List Bool)) (w : World) : Prop where
  ok : ∀ p ∈ Vs, p.2.length = 8 ∧ (∀ l ∈ F, holdsB p.2 l = true) ∧ ∃ g c, p.1 = .slice (some ⟨g, 0, none⟩) 8 c ∧ BoolsR w (some ⟨g, 0, none⟩) p.2 ∧ g < w.heap.size ∧ V.ownBlock ≠ some g
theorem MoI.old {F : List (List Int)} {V : Value} {Vs : List (Value × List Bool)} {w w' : World} (h : MoI F V Vs w) (ho : Old w w') : MoI F V Vs w' := by
  refine ⟨fun p hp => ?_⟩
  obtain ⟨h1, h2, P, c, h3, h4, h5, h6⟩ := h.ok p hp
  exact ⟨h1, h2, P, c, h3, h4.old ho, Nat.lt_of_lt_of_le h5 ho.size, h6⟩
def moR (V : Value) (Vs : List (Value × List Bool)) : Unit → Row := fun _ => ⟨34, 1, V, Vs.length, Vs.map Prod.fst⟩
def MoPost (F : List (List Int)) (w0 : World) (e : Ending) (w : World) : Prop := ∃ V Vs, e = .returned V ∧ Old w0 w ∧ Rows (moR V Vs) w ∧ MoI F V Vs w ∧ Vs.length ≤ 256
theorem values_bools {w0 w : World} {V : Value} {bs : List Bool} (h : Tr eR w0 (bsR V bs) w) (hb : bs.length = 8) : ∃ g c, V = .slice (some ⟨g, 0, none⟩) 8 c ∧ BoolsR w (some ⟨g, 0, none⟩) bs ∧ w0.heap.size ≤ g ∧ g < w.heap.size := by
  obtain ⟨g, cap, h1, h2, _, _⟩ := h.rows.open () (by show 0 < bs.length; omega)
  have h1 : V = .slice (some ⟨g, 0, none⟩) bs.length cap := h1
  refine ⟨g, cap, by rw [h1, hb], fun j b hj => ⟨_, rfl, ?_⟩, ?_, h.rows.lt ⟨(), h2⟩⟩
  · rw [Addr.add_lit, Nat.zero_add]
    exact h.rows.cell () h2 (by show (bs.map Value.bool)[j]? = _; rw [List.getElem?_map, hj]; rfl)
  · rcases h.own g ⟨(), h2⟩ with h' | h'
    · exact (eR_own h').elim
    · exact h'

theorem Tr.old {ι ι' : Type} {ρ : ι → Row} {ρ' : ι' → Row} {w w1 w2 : World} (t : Tr ρ w ρ' w1) (ho : Old w1 w2) : Tr ρ w ρ' w2 := by
  refine t.trans ⟨⟨fun r => ownsRow_of_block (t.rows.own r) fun b hb => ho.block b (t.rows.lt ⟨r, hb⟩) eR_own, t.rows.inj⟩, ⟨ho.os, ho.tape, ho.output, ho.size, fun k hk _ => ho.block k hk eR_own⟩, fun b hb => .inl hb⟩

set_option maxRecDepth 100000 in
set_option maxHeartbeats 4000000 in
theorem models_c {w : World} {g : Nat} {F : List (List Int)} {c : Nat} (h : CstR w g F) (hF : ∀ l ∈ F, (∀ x ∈ l, x ≠ 0 ∧ x.natAbs ≤ 8) ∧ l.length ≤ 1000) (hn : F.length ≤ 1000) :
    Calls Tryz.prog 10 #[.slice (some ⟨g, 0, none⟩) F.length c, .int .i64 8] w (MoPost F w) := by
  obtain ⟨iN, hiN, hz0, hz1, hz2⟩ := info_parts infoBs
  have hA := fun w' (Q : Option Addr) (bs : List Bool) (cb : Nat) (ho : Old w w') (hq : BoolsR w' Q bs) (hb : bs.length = 8) => allHold_c (c := c) (cb := cb) (h.old ho) hq hb hF hn
  generalize F.length = fn at hA
  have hV : ∀ (i : Nat) (w' : World), i ≤ 256 → Calls Tryz.prog 17 #[.int .i64 (i : Int), .int .i64 8] w' (VPost 8 w') := fun i w' hi => values_c i 8 w' (by omega) (by omega) (by omega)
  have hT0 : Tr eR w (moR (.slice (some ⟨w.heap.size, 0, none⟩) 0 0) []) (w.alloc (.cells #[] 34)) := fresh_any w 34 1
  replace hT0 := Lib.hid hT0
  replace hV := Lib.hid hV
  replace hA := Lib.hid hA
  clear h hF hn
  go_enter Tryz.func10, Tryz.ntmps10
  go_wp2_with fail
  go_loopw [5, 11] (fun v5 v11 wr => ∃ (i : Nat) (Vs : List (Value × List Bool)), v11 = .int .i64 (i : Int) ∧ i ≤ 256 ∧ Vs.length ≤ i ∧ Tr eR w (moR v5 Vs) wr ∧ MoI F v5 Vs wr) (fun _ v11 _ => 256 - (intOf v11).toNat)
  case atStart => exact ⟨0, [], rfl, Nat.zero_le _, Nat.le_refl _, hT0.out, ⟨fun p hp => by cases hp⟩⟩
  case round =>
    clear hT0
    obtain ⟨i, Vs, rfl, hi, hvl, hT, hM⟩ := hrel
    by_cases hlt : i < 256
    · have hiI : (i : Int) < 256 := by omega
      have hv := hV.out i wr hi
      have hlt5 : ∀ b, u5.ownBlock = some b → b < wr.heap.size := fun b hb => hT.rows.lt ⟨(), hb⟩
      replace hlt5 := Lib.hid hlt5
      replace hv := Lib.hid hv
      replace hT := Lib.hid hT
      replace hM := Lib.hid hM
      go_upto_if 19 with (first
        | (go_at_call 17; refine hv.out.mono ?_; rintro e w2 ⟨V, bs, rfl, hb, ht⟩
           obtain ⟨gv, cv, rfl, hq, hg1, hg2⟩ := values_bools ht hb
           have ho2 : Old wr w2 := ht.fr
           have hA2 := hA.out w2 _ bs cv (Old.trans hT.out.fr ho2) hq hb
           replace hA2 := Lib.hid hA2
           replace ht := Lib.hid ht
           replace hq := Lib.hid hq
           replace hb := Lib.hid hb
           replace ho2 := Lib.hid ho2)
        | (go_at_call 18; refine hA2.out.mono ?_; rintro e w3 ⟨r, rfl, ho3, hr⟩; replace ho3 := Lib.hid ho3; replace hr := Lib.hid hr))
      have hT3 := ((hT.out.old ho2.out).old ho3.out)
      have ho23 := ho2.out.trans ho3.out
      have hM3 := hM.out.old ho23
      cases r
      · replace hT3 := Lib.hid hT3
        replace hM3 := Lib.hid hM3
        replace ho23 := Lib.hid ho23
        go_wp2_with fail
        exact ⟨⟨i + 1, Vs, by go_num, by omega, by omega, hT3.out, hM3.out⟩, by simp [intOf]; omega⟩
      · have hM4 : MoI F u5 (Vs ++ [(.slice (some ⟨gv, 0, none⟩) 8 cv, bs)]) w3 := by
          refine ⟨fun p hp => ?_⟩
          rcases List.mem_append.1 hp with hp | hp
          · exact hM3.ok p hp
          · have : p = (.slice (some ⟨gv, 0, none⟩) 8 cv, bs) := by simpa using hp
            rw [this]
            exact ⟨hb.out, hr.out.1 rfl, _, _, rfl, hq.out.old ho3.out, Nat.lt_of_lt_of_le hg2 ho3.out.size, fun e => by have := hlt5.out gv e; omega⟩
        replace hT3 := Lib.hid hT3
        replace hM3 := Lib.hid hM3
        replace hM4 := Lib.hid hM4
        replace ho23 := Lib.hid ho23
        go_wp2_with (at_builtin; apply keepHid)
        refine Lib.hid ?_
        refine wpList_append_rows rfl _ _ 30 rfl 34 iN (.slice none 0 0) 1 24 Tryz.underlying30 hiN hz0 hz1 hz2 rfl (by decide) _ Vs.length (Vs.map Prod.fst) rfl ((hT3.out.alloc _).rows.own ()) ⟨w3.heap.size, 0, none⟩ 1 1 [.slice (some ⟨gv, 0, none⟩) 8 cv] rfl rfl (cell_new_one1 _ _ _ _ rfl) (by simp [Value.oneCell']) (by unfold maxLen; omega) (by omega) ?_
        intro V' w4 ho hg hf
        have tg := (hT3.out.alloc (.cells #[.slice (some ⟨gv, 0, none⟩) 8 cv] 34)).rows.grow (ρ' := moR V' (Vs ++ [(.slice (some ⟨gv, 0, none⟩) 8 cv, bs)])) () ho hg hf (by
          show (⟨_, _, _, _, _⟩ : Row) = ⟨_, _, _, _, _⟩
          simp [moR]) (fun r hr => (hr rfl).elim)
        have hT4 := (hT3.out.alloc (.cells #[.slice (some ⟨gv, 0, none⟩) 8 cv] 34)).trans tg
        have hM5 : MoI F V' (Vs ++ [(.slice (some ⟨gv, 0, none⟩) 8 cv, bs)]) w4 := by
          refine ⟨fun p hp => ?_⟩
          obtain ⟨z1, z2, gp, cp, z3, z4, z5, z6⟩ := (hM4.out.old ((Old.refl w3).alloc (.cells #[.slice (some ⟨gv, 0, none⟩) 8 cv] 34))).ok p hp
          have hno : ¬ Own (moR u5 Vs) gp := by rintro ⟨_, h⟩; exact z6 h
          refine ⟨z1, z2, gp, cp, z3, ?_, Nat.lt_of_lt_of_le z5 tg.fr.size, ?_⟩
          · intro j b hj
            obtain ⟨a, q1, q2⟩ := z4 j b hj
            cases q1
            refine ⟨_, rfl, ?_⟩
            rw [Addr.add_lit] at q2 ⊢
            rw [tg.fr.cell z5 hno]; exact q2
          · intro e
            rcases hf with hf | ⟨b, hf, hb2⟩
            · rw [hf] at e; exact z6 e
            · rw [hf] at e
              injection e with e
              omega
        obtain ⟨g4, cap4, rfl, _, _⟩ := own_form ho (by omega)
        clear ho hg hf
        clear tg
        replace hT4 := Lib.hid hT4
        replace hM5 := Lib.hid hM5
        go_wp2_with fail
        exact ⟨⟨i + 1, _, by go_num, by omega, by simp; omega, hT4.out, hM5.out⟩, by simp [intOf]; omega⟩
    · have hiI : ¬ ((i : Int) < 256) := by omega
      have hfin : MoPost F w (.returned u5) wr := ⟨u5, Vs, rfl, hT.fr, hT.rows, hM, by omega⟩
      replace hfin := Lib.hid hfin
      replace hT := Lib.hid hT
      replace hM := Lib.hid hM
      go_wp2_with fail
      go_ret
      exact hfin.out
end Go.Proofs.YtiimddkopiknpaaGreat

/-
  Vars; what is known of variables: of, set, force.
-/
namespace Go.Proofs.YtiimddkopiknpaaGreat
open Go.RowKit

def VsPost (F : List (List Int)) (w : World) (e : Ending) (w' : World) : Prop := ∃ v : Nat, e = .returned (.int .i64 (v : Int)) ∧ w' = w ∧ v ≤ 8 ∧ ∀ l ∈ F, ∀ x ∈ l, x.natAbs ≤ v
set_option maxRecDepth 100000 in
set_option maxHeartbeats 4000000 in
theorem vars_c {w : World} {A : Option Addr} {F : List (List Int)} {c : Nat} (h : CnfR w A F) (hF : ∀ l ∈ F, (∀ x ∈ l, x.natAbs ≤ 8) ∧ l.length ≤ 1000) (hn : F.length ≤ 1000) :
    Calls Tryz.prog 26 #[.slice A F.length c] w (VsPost F w) := by
  obtain ⟨n, hnn⟩ : ∃ n, n = F.length := ⟨_, rfl⟩
  rw [← hnn] at hn ⊢
  replace hnn := Lib.hid hnn
  replace h := Lib.hid h
  replace hF := Lib.hid hF
  go_enter Tryz.func26, Tryz.ntmps26
  go_wp2_with fail
  go_loopw [3, 10] (fun v3 v10 wr => ∃ (i v : Nat), v10 = .int .i64 (i : Int) ∧ v3 = .int .i64 (v : Int) ∧ i ≤ n ∧ v ≤ 8 ∧ (∀ l ∈ F.take i, ∀ x ∈ l, x.natAbs ≤ v) ∧ wr = w) (fun _ v10 _ => n - (intOf v10).toNat)
  case atStart => exact ⟨0, 0, rfl, rfl, Nat.zero_le _, Nat.zero_le _, by simp, rfl⟩
  case round =>
    obtain ⟨i, v, rfl, rfl, hi, hv, hok, rfl⟩ := hrel
    by_cases hlt : i < n
    · have hiI : (i : Int) < (n : Int) := by omega
      have hil : i < F.length := by have := hnn.out; omega
      obtain ⟨a, B, c2, rfl, hc, _, hq⟩ := h.out i _ (List.getElem?_eq_getElem hil)
      have hl := hF.out _ (List.getElem_mem hil)
      have hnx : ∀ v', v ≤ v' → (∀ x ∈ F[i], x.natAbs ≤ v') → ∀ l ∈ F.take (i + 1), ∀ x ∈ l, x.natAbs ≤ v' := by
        intro v' h1 h2 l hl x hx
        rw [List.take_succ_eq_append_getElem hil] at hl
        rcases List.mem_append.1 hl with hl | hl
        · have := hok l hl x hx; omega
        · have : l = F[i] := by simpa using hl
          rw [this] at hx; exact h2 x hx
      generalize F[i] = l at hc hq hl hnx
      obtain ⟨hl1, hl2⟩ := hl
      obtain ⟨m, hm⟩ : ∃ m, m = l.length := ⟨_, rfl⟩
      rw [← hm] at hc hl2
      replace hm := Lib.hid hm
      replace hq := Lib.hid hq
      replace hl1 := Lib.hid hl1
      replace hnx := Lib.hid hnx
      replace hok := Lib.hid hok
      go_wp2_with fail
      go_loopw [3, 16] (fun v3 v16 wq => ∃ (j v' : Nat), v16 = .int .i64 (j : Int) ∧ v3 = .int .i64 (v' : Int) ∧ j ≤ m ∧ v ≤ v' ∧ v' ≤ 8 ∧ (∀ x ∈ l.take j, x.natAbs ≤ v') ∧ wq = wr) (fun _ v16 _ => m - (intOf v16).toNat)
      case atStart => exact ⟨0, v, rfl, rfl, Nat.zero_le _, Nat.le_refl _, hv, by simp, rfl⟩
      case round =>
        obtain ⟨j, v', rfl, rfl, hj, hv1, hv2, hok2, hwq⟩ := hrel
        subst hwq
        by_cases hjt : j < m
        · have hjI : (j : Int) < (m : Int) := by omega
          have hjl : j < l.length := by have := hm.out; omega
          obtain ⟨b, rfl, hc2⟩ := hq.out j _ (List.getElem?_eq_getElem hjl)
          have hx8 := hl1.out _ (List.getElem_mem hjl)
          have hO := fun w => Of_c l[j] w (by omega)
          have hnx2 : ∀ v'', v' ≤ v'' → l[j].natAbs ≤ v'' → ∀ x ∈ l.take (j + 1), x.natAbs ≤ v'' := by
            intro v'' h1 h2 x hx
            rw [List.take_succ_eq_append_getElem hjl] at hx
            rcases List.mem_append.1 hx with hx | hx
            · have := hok2 x hx; omega
            · have : x = l[j] := by simpa using hx
              rw [this]; exact h2
          generalize l[j] = x at hc2 hx8 hO hnx2
          obtain ⟨y, hy⟩ : ∃ y, y = x.natAbs := ⟨_, rfl⟩
          rw [← hy] at hx8 hO hnx2
          have hmx : max (v' : Int) (y : Int) = ((max v' y : Nat) : Int) := by omega
          replace hy := Lib.hid hy
          replace hok2 := Lib.hid hok2
          replace hnx2 := Lib.hid hnx2
          go_wp2_with (go_at_call 14; refine Calls.ret (hO _) ?_)
          exact ⟨⟨j + 1, max v' y, by go_num, by go_num, by omega, by omega, by omega, hnx2.out _ (by omega) (by omega), trivial⟩, by simp [intOf]; omega⟩
        · have hjI : ¬ ((j : Int) < (m : Int)) := by omega
          have e : j = l.length := by have := hm.out; omega
          rw [e, List.take_length] at hok2
          have hn9 := hnx.out v' hv1 hok2
          replace hok2 := Lib.hid hok2
          replace hn9 := Lib.hid hn9
          clear e
          go_wp2_with fail
          exact ⟨⟨i + 1, v', by go_num, rfl, by omega, hv2, hn9.out, trivial⟩, by simp [intOf]; omega⟩
    · have hiI : ¬ ((i : Int) < (n : Int)) := by omega
      have e : i = F.length := by have := hnn.out; omega
      rw [e, List.take_length] at hok
      have hfin : VsPost F wr (.returned (.int .i64 (v : Int))) wr := ⟨v, rfl, rfl, hv, hok⟩
      replace hfin := Lib.hid hfin
      replace hok := Lib.hid hok
      clear e
      go_wp2_with fail
      go_ret
      exact hfin.out

/- standing -/
def ofS (S : List Int) (x : Int) : Int := if x < 0 then -(S.getD x.natAbs 0) else S.getD x.natAbs 0
def setS (S : List Int) (x : Int) : List Int := S.set x.natAbs (if x < 0 then -1 else 1)
def stR (g n : Nat) (S : List Int) : Unit → Row := fun _ => ⟨3, 1, slV g n, n, S.map i64⟩
structure Three (S : List Int) : Prop where
  v : ∀ j, S.getD j 0 = 0 ∨ S.getD j 0 = 1 ∨ S.getD j 0 = -1
theorem stR_len {g n : Nat} {S : List Int} {w : World} (h : Rows (stR g n S) w) : S.length = n := by have := (h.own ()).1; simpa [stR] using this
theorem stR_cell {g n : Nat} {S : List Int} {w : World} (h : Rows (stR g n S) w) {j : Nat} (hj : j < n) : w.cell? ⟨g, j, none⟩ = some (.int .i64 (S.getD j 0)) :=
  h.cell () (b := g) rfl (getElem?_map_getD i64 S 0 j (by rw [stR_len h]; exact hj))
theorem setS_len (S : List Int) (x : Int) : (setS S x).length = S.length := by unfold setS; simp
theorem setS_three {S : List Int} (h : Three S) (x : Int) : Three (setS S x) := by
  refine ⟨fun j => ?_⟩
  unfold setS
  rw [List.getD_eq_getElem?_getD, List.getElem?_set]
  by_cases e : x.natAbs = j
  · subst e
    rw [if_pos rfl]
    split
    · split
      · exact .inr (.inr rfl)
      · exact .inr (.inl rfl)
    · exact .inl rfl
  · rw [if_neg e, ← List.getD_eq_getElem?_getD]; exact h.v j
theorem ofS_three {S : List Int} (h : Three S) (x : Int) : ofS S x = 0 ∨ ofS S x = 1 ∨ ofS S x = -1 := by
  unfold ofS
  rcases h.v x.natAbs with e | e | e <;> rw [e] <;> split <;> decide
theorem ofS_neg (S : List Int) {x : Int} (h : x ≠ 0) : ofS S (-x) = -ofS S x := by
  unfold ofS
  rw [Int.natAbs_neg]
  split <;> split <;> omega
theorem ofS_set_same {S : List Int} {x : Int} (h0 : x ≠ 0) (hl : x.natAbs < S.length) : ofS (setS S x) x = 1 := by
  unfold ofS setS
  rw [List.getD_eq_getElem?_getD, List.getElem?_set, if_pos rfl, if_pos hl]
  show (if x < 0 then -(if x < 0 then (-1 : Int) else 1) else (if x < 0 then (-1 : Int) else 1)) = 1
  split <;> rfl
theorem ofS_set_ne {S : List Int} {x y : Int} (h : x.natAbs ≠ y.natAbs) : ofS (setS S x) y = ofS S y := by
  unfold ofS setS
  rw [List.getD_eq_getElem?_getD, List.getElem?_set, if_neg h, ← List.getD_eq_getElem?_getD]
/-- what is true stays true when a literal that is not false is set -/
theorem ofS_keep {S : List Int} {x y : Int} (hx : ¬ ofS S x = -1) (h0 : x ≠ 0) (hl : x.natAbs < S.length) (hy : ofS S y = 1) : ofS (setS S x) y = 1 := by
  by_cases e : x.natAbs = y.natAbs
  · have : x = y ∨ x = -y := by omega
    rcases this with rfl | rfl
    · exact ofS_set_same h0 hl
    · exfalso
      have hy0 : y ≠ 0 := by omega
      rw [ofS_neg S hy0, hy] at hx
      exact hx rfl
  · rw [ofS_set_ne e]; exact hy
def tauS (S : List Int) : Nat → Prop := fun y => ofS S (intL y) = 1
theorem intL_negL (y : Nat) : intL (negL y) = -intL y := by unfold intL negL; split <;> split <;> omega
theorem tauS_con (S : List Int) : Con (tauS S) := by
  intro y hy hn
  unfold tauS at hy hn
  rw [intL_negL, ofS_neg S (intL_ne y), hy] at hn
  cases hn
theorem tauS_lit (S : List Int) {x : Int} (h : x ≠ 0) : tauS S (litOf x) ↔ ofS S x = 1 := by unfold tauS; rw [intL_litOf h]
theorem tauS_open (S : List Int) {x : Int} (h : x ≠ 0) (h0 : ofS S x = 0) : ¬ tauS S (negL (litOf x)) := by
  unfold tauS
  rw [intL_negL, intL_litOf h, ofS_neg S h, h0]
  decide

set_option maxRecDepth 100000 in
theorem stOf_c {w : World} {g n : Nat} {S : List Int} {x : Int} (h : Rows (stR g n S) w) (hS : Three S) (hx : x.natAbs < n) (hn : n ≤ 1000) :
    Calls Tryz.prog 27 #[.slice (some ⟨g, 0, none⟩) n n, .int .i64 x] w fun e w' => e = .returned (.int .i64 (ofS S x)) ∧ w' = w := by
  have hc := stR_cell h hx
  have h3 := hS.v x.natAbs
  unfold ofS
  generalize S.getD x.natAbs 0 = y at hc h3
  clear h hS
  by_cases hneg : x < 0
  · obtain ⟨m, rfl⟩ : ∃ m : Nat, x = -(m : Int) := ⟨(-x).toNat, by omega⟩
    rw [Int.natAbs_neg, Int.natAbs_natCast] at hc hx
    rw [if_pos hneg]
    have hmI : (m : Int) < (n : Int) := by omega
    have hmp : 0 < m := by omega
    rcases h3 with rfl | rfl | rfl
    all_goals
      go_enter Tryz.func27, Tryz.ntmps27
      go_wp2_with fail
      go_ret
      exact ⟨rfl, rfl⟩
  · obtain ⟨m, rfl⟩ : ∃ m : Nat, x = (m : Int) := ⟨x.toNat, by omega⟩
    rw [Int.natAbs_natCast] at hc hx
    rw [if_neg hneg]
    have hmI : (m : Int) < (n : Int) := by omega
    clear hneg
    go_enter Tryz.func27, Tryz.ntmps27
    go_wp2_with fail
    go_ret
    exact ⟨rfl, rfl⟩
def StPost (g n : Nat) (S : List Int) (w : World) (S' : List Int) (e : Ending) (w' : World) : Prop := e = .returned (.tuple #[]) ∧ Tr (stR g n S) w (stR g n S') w'
set_option maxRecDepth 100000 in
theorem stSet_c {w : World} {g n : Nat} {S : List Int} {x : Int} (h : Rows (stR g n S) w) (hx : x.natAbs < n) (hn : n ≤ 1000) :
    Calls Tryz.prog 28 #[.slice (some ⟨g, 0, none⟩) n n, .int .i64 x] w (StPost g n S w (setS S x)) := by
  have hc := stR_cell h hx
  have hf := h.frozen () (b := g) rfl x.natAbs
  have ht := h.set (ρ' := stR g n (setS S x)) () (b := g) rfl x.natAbs (.int .i64 (if x < 0 then -1 else 1)) (by
    show (⟨_, _, _, _, _⟩ : Row) = ⟨_, _, _, _, _⟩
    simp [stR, setS, List.map_set, i64]) (fun r hr => (hr rfl).elim)
  generalize S.getD x.natAbs 0 = y at hc
  by_cases hneg : x < 0
  · obtain ⟨m, rfl⟩ : ∃ m : Nat, x = -(m : Int) := ⟨(-x).toNat, by omega⟩
    rw [if_pos hneg] at ht
    rw [Int.natAbs_neg, Int.natAbs_natCast] at hc hx hf ht
    have hmI : (m : Int) < (n : Int) := by omega
    have hmp : 0 < m := by omega
    replace ht := Lib.hid ht
    clear h
    go_enter Tryz.func28, Tryz.ntmps28
    go_wp2_with fail
    go_end0
    exact ⟨rfl, ht.out⟩
  · obtain ⟨m, rfl⟩ : ∃ m : Nat, x = (m : Int) := ⟨x.toNat, by omega⟩
    rw [if_neg hneg] at ht
    rw [Int.natAbs_natCast] at hc hx hf ht
    have hmI : (m : Int) < (n : Int) := by omega
    replace ht := Lib.hid ht
    clear h hneg
    go_enter Tryz.func28, Tryz.ntmps28
    go_wp2_with fail
    go_end0
    exact ⟨rfl, ht.out⟩
end Go.Proofs.YtiimddkopiknpaaGreat

/-
  force, stand, Propagated: where no closed values hold the literals, a clause is empty.
-/
namespace Go.Proofs.YtiimddkopiknpaaGreat
open Go.RowKit

def zeros (S : List Int) : Nat := (S.filter (fun x => x == 0)).length
theorem zeros_set {S : List Int} {j : Nat} {y : Int} (hj : j < S.length) (h0 : S.getD j 0 = 0) (hy : y ≠ 0) : zeros (S.set j y) + 1 = zeros S := by
  unfold zeros
  induction S generalizing j with
  | nil => simp at hj
  | cons a S ih =>
    cases j with
    | zero =>
      have : a = 0 := h0
      subst this
      simp [hy]
    | succ j =>
      have := ih (by simpa using hj) h0
      simp only [List.set_cons_succ, List.filter_cons]
      split
      · simp only [List.length_cons]; omega
      · exact this
theorem zeros_setS {S : List Int} {x : Int} (h0 : ofS S x = 0) (hl : x.natAbs < S.length) : zeros (setS S x) + 1 = zeros S := by
  unfold setS
  refine zeros_set hl ?_ (by split <;> decide)
  unfold ofS at h0
  split at h0 <;> omega

/-- what forcing one clause comes to -/
structure FoR (S : List Int) (l : List Int) (forced empty : Bool) (S' : List Int) : Prop where
  f : forced = true → ∃ x ∈ l, ofS S x = 0 ∧ S' = setS S x
  n : forced = false → S' = S ∧ (empty = false → Clo (tauS S) (l.map litOf))
def FoPost (g n : Nat) (S l : List Int) (w : World) (e : Ending) (w' : World) : Prop := ∃ forced empty S', e = .returned (.tuple #[.bool forced, .bool empty]) ∧ FoR S l forced empty S' ∧ Tr (stR g n S) w (stR g n S') w'
/-- i literals of the clause are seen: many of them are free, one of which is free -/
structure FoI (S l : List Int) (i many : Nat) (free : Int) : Prop where
  le : many ≤ i
  one : many ≠ 0 → free ∈ l.take i ∧ ofS S free = 0
  two : 2 ≤ many → ∃ x ∈ l.take i, ∃ y ∈ l.take i, x ≠ y ∧ ofS S x = 0 ∧ ofS S y = 0
theorem FoI.skip {S l : List Int} {i many : Nat} {free : Int} (h : FoI S l i many free) : FoI S l (i + 1) many free := by
  have hs : ∀ x, x ∈ l.take i → x ∈ l.take (i + 1) := fun x hx => (List.take_subset_take_left l (Nat.le_succ i)) hx
  refine ⟨by have := h.le; omega, fun h1 => ⟨hs _ (h.one h1).1, (h.one h1).2⟩, fun h2 => ?_⟩
  obtain ⟨x, h3, y, h4, h5⟩ := h.two h2
  exact ⟨x, hs x h3, y, hs y h4, h5⟩
theorem FoI.add {S l : List Int} {i many : Nat} {free : Int} (h : FoI S l i many free) (hi : i < l.length) (h0 : ofS S l[i] = 0) (hne : many ≠ 0 → l[i] ≠ free) : FoI S l (i + 1) (many + 1) l[i] := by
  have ht := List.take_succ_eq_append_getElem hi
  refine ⟨by have := h.le; omega, fun h1 => ?_, fun h2 => ?_⟩
  · rw [ht]; exact ⟨List.mem_append_right _ (List.mem_singleton.2 rfl), h0⟩
  · by_cases e : many = 1
    · obtain ⟨q1, q2⟩ := h.one (by omega)
      exact ⟨free, by rw [ht]; exact List.mem_append_left _ q1, l[i], by rw [ht]; exact List.mem_append_right _ (List.mem_singleton.2 rfl), Ne.symm (hne (by omega)), q2, h0⟩
    · obtain ⟨x, h3, y, h4, h5⟩ := h.two (by omega)
      exact ⟨x, by rw [ht]; exact List.mem_append_left _ h3, y, by rw [ht]; exact List.mem_append_left _ h4, h5⟩
/-- of different variables: a literal more is another than the free one -/
theorem fo_ne {l : List Int} {i : Nat} {free : Int} (hnd : (l.map Int.natAbs).Nodup) (hi : i < l.length) (hf : free ∈ l.take i) : l[i] ≠ free := by
  intro e
  rw [← List.take_append_drop i l, List.map_append, List.nodup_append] at hnd
  refine hnd.2.2 free.natAbs (List.mem_map_of_mem hf) l[i].natAbs ?_ (by rw [e])
  refine List.mem_map_of_mem ?_
  rw [List.drop_eq_getElem_cons hi]
  exact List.mem_cons_self

set_option maxRecDepth 100000 in
set_option maxHeartbeats 4000000 in
theorem force_c {w : World} {B : Option Addr} {g n c : Nat} {S l : List Int} (h : Rows (stR g n S) w) (hS : Three S) (hl : IntsR w B l) (hlx : ∀ x ∈ l, x ≠ 0 ∧ x.natAbs < n) (hnd : (l.map Int.natAbs).Nodup) (hn : n ≤ 1000) (hll : l.length ≤ 1000) :
    Calls Tryz.prog 29 #[.slice (some ⟨g, 0, none⟩) n n, .slice B l.length c] w (FoPost g n S l w) := by
  obtain ⟨m, hm⟩ : ∃ m, m = l.length := ⟨_, rfl⟩
  rw [← hm] at hll ⊢
  have hof := fun (x : Int) (hx : x.natAbs < n) => stOf_c (x := x) h hS hx hn
  have hse := fun (x : Int) (hx : x.natAbs < n) => stSet_c (x := x) h hx hn
  replace hof := Lib.hid hof
  replace hse := Lib.hid hse
  replace h := Lib.hid h
  replace hS := Lib.hid hS
  replace hl := Lib.hid hl
  replace hlx := Lib.hid hlx
  replace hnd := Lib.hid hnd
  replace hm := Lib.hid hm
  go_enter Tryz.func29, Tryz.ntmps29
  go_wp2_with fail
  go_loopw [6, 7, 12] (fun v6 v7 v12 wr => ∃ (i many : Nat) (free : Int), v6 = .int .i64 free ∧ v7 = .int .i64 (many : Int) ∧ v12 = .int .i64 (i : Int) ∧ i ≤ m ∧ FoI S l i many free ∧ wr = w) (fun _ _ v12 _ => m - (intOf v12).toNat)
  case atStart => exact ⟨0, 0, 0, rfl, rfl, rfl, Nat.zero_le _, ⟨Nat.le_refl _, fun h => (h rfl).elim, fun h => by omega⟩, rfl⟩
  case round =>
    obtain ⟨i, many, free, rfl, rfl, rfl, hi, hI, rfl⟩ := hrel
    have hmany := hI.le
    by_cases hlt : i < m
    · have hiI : (i : Int) < (m : Int) := by omega
      have hil : i < l.length := by have := hm.out; omega
      obtain ⟨b, rfl, hc⟩ := hl.out i _ (List.getElem?_eq_getElem hil)
      have hx := hlx.out _ (List.getElem_mem hil)
      have ho := hof.out _ hx.2
      have h3 := ofS_three hS.out l[i]
      have hadd := fun h0 hne => hI.add hil h0 hne
      have hne : many ≠ 0 → l[i] ≠ free := fun h1 => fo_ne hnd.out hil (hI.one h1).1
      have hclo : ofS S l[i] = 1 → Clo (tauS S) (l.map litOf) := fun h1 => .inl ⟨litOf l[i], List.mem_map_of_mem (List.getElem_mem hil), (tauS_lit S hx.1).2 h1⟩
      have hnx := hI.skip
      generalize l[i] = x at hc hx ho h3 hadd hne hclo
      generalize ofS S x = q at ho h3 hadd hclo
      replace ho := Lib.hid ho
      replace hadd := Lib.hid hadd
      replace hne := Lib.hid hne
      replace hclo := Lib.hid hclo
      replace hnx := Lib.hid hnx
      replace hI := Lib.hid hI
      replace hx := Lib.hid hx
      clear hil
      rcases h3 with rfl | rfl | rfl
      · -- free
        clear hclo
        have hadd9 := hadd.out rfl hne.out
        replace hadd9 := Lib.hid hadd9
        by_cases hz : many = 0
        · subst hz
          clear hadd hne
          go_wp2_with (go_at_call 27; refine Calls.ret ho.out ?_)
          exact ⟨⟨i + 1, 1, x, rfl, by go_num, by go_num, by omega, hadd9.out, trivial⟩, by simp [intOf]; omega⟩
        · have hzb : ((many : Int) == 0) = false := by simp; omega
          have hxf : (x == free) = false := by simpa using hne.out hz
          clear hadd hne
          go_wp2_with (go_at_call 27; refine Calls.ret ho.out ?_)
          exact ⟨⟨i + 1, many + 1, x, rfl, by go_num, by go_num, by omega, hadd9.out, trivial⟩, by simp [intOf]; omega⟩
      · have hfin : FoPost g n S l wr (.returned (.tuple #[.bool false, .bool false])) wr := ⟨false, false, S, rfl, ⟨fun h => (by cases h), fun _ => ⟨rfl, fun _ => hclo.out rfl⟩⟩, Tr.refl h.out⟩
        replace hfin := Lib.hid hfin
        clear hadd hne hclo
        go_wp2_with (go_at_call 27; refine Calls.ret ho.out ?_)
        go_returns
        exact hfin.out
      · clear hadd hne hclo
        go_wp2_with (go_at_call 27; refine Calls.ret ho.out ?_)
        exact ⟨⟨i + 1, many, free, rfl, rfl, by go_num, by omega, hnx.out, trivial⟩, by simp [intOf]; omega⟩
    · have hiI : ¬ ((i : Int) < (m : Int)) := by omega
      have e : i = l.length := by have := hm.out; omega
      rw [e] at hI
      have hone := hI.one
      have htwo := hI.two
      rw [List.take_length] at hone htwo
      by_cases h1 : many = 1
      · obtain ⟨q1, q2⟩ := hone (by omega)
        have hx := hlx.out _ q1
        have hs := hse.out _ hx.2
        have hfin : ∀ w', Tr (stR g n S) wr (stR g n (setS S free)) w' → FoPost g n S l wr (.returned (.tuple #[.bool true, .bool false])) w' := fun w' ht => ⟨true, false, _, rfl, ⟨fun _ => ⟨free, q1, q2, rfl⟩, fun h => (by cases h)⟩, ht⟩
        replace hfin := Lib.hid hfin
        replace hs := Lib.hid hs
        replace hI := Lib.hid hI
        clear hone htwo q1 q2 hx e
        subst h1
        go_wp2_with (go_at_call 28; refine hs.out.mono ?_; rintro e w2 ⟨rfl, ht⟩; replace ht := Lib.hid ht)
        go_returns
        exact hfin.out _ ht.out
      · have h1b : ((many : Int) == 1) = false := by simp; omega
        by_cases h0 : many = 0
        · have hfin : FoPost g n S l wr (.returned (.tuple #[.bool false, .bool true])) wr := ⟨false, true, S, rfl, ⟨fun h => (by cases h), fun _ => ⟨rfl, fun h => (by cases h)⟩⟩, Tr.refl h.out⟩
          replace hfin := Lib.hid hfin
          replace hI := Lib.hid hI
          clear hone htwo e h1
          subst h0
          go_wp2_with fail
          go_returns
          exact hfin.out
        · have h0b : ((many : Int) == 0) = false := by simp; omega
          obtain ⟨x, hx, y, hy, hxy, hx0, hy0⟩ := htwo (by omega)
          have hclo : Clo (tauS S) (l.map litOf) := by
            have nx := (hlx.out x hx).1
            have ny := (hlx.out y hy).1
            exact .inr ⟨_, List.mem_map_of_mem hx, _, List.mem_map_of_mem hy, fun e => hxy (litOf_inj nx ny e), tauS_open S nx hx0, tauS_open S ny hy0⟩
          have hfin : FoPost g n S l wr (.returned (.tuple #[.bool false, .bool false])) wr := ⟨false, false, S, rfl, ⟨fun h => (by cases h), fun _ => ⟨rfl, fun _ => hclo⟩⟩, Tr.refl h.out⟩
          replace hfin := Lib.hid hfin
          replace hI := Lib.hid hI
          clear hone htwo e h1 h0 hx hy hxy hx0 hy0 hclo
          go_wp2_with fail
          go_returns
          exact hfin.out
end Go.Proofs.YtiimddkopiknpaaGreat

/-
  stand, Propagated: where no closed values hold the literals, a clause is empty.
-/
namespace Go.Proofs.YtiimddkopiknpaaGreat
open Go.RowKit

theorem litsOk_len {l : List Int} (h : LitsOkP l) : l.length ≤ 9 := by
  have := h.2.2.length_le_of_subset (l₂ := List.range 9) (fun v hv => by
    obtain ⟨x, hx, rfl⟩ := List.mem_map.1 hv
    rw [List.mem_range]
    have := (h.2.1 x hx).2; omega)
  simpa using this
/-- the round over the clauses -/
def PaI (F : List (List Int)) (ds S0 : List Int) (n j : Nat) (S : List Int) (b : Bool) : Prop :=
  Three S ∧ S.length = n ∧ (∀ x ∈ ds, ofS S x = 1) ∧ ((b = true ∧ zeros S < zeros S0) ∨ (b = false ∧ S = S0 ∧ ∀ l ∈ F.take j, Clo (tauS S0) (l.map litOf)))
theorem PaI.next {F : List (List Int)} {ds S0 : List Int} {n j : Nat} {S S' : List Int} {b forced : Bool} (h : PaI F ds S0 n j S b) (hj : j < F.length) (hl : ∀ x ∈ F[j], x ≠ 0 ∧ x.natAbs < n) (hf : FoR S F[j] forced false S') : PaI F ds S0 n (j + 1) S' (b || forced) := by
  obtain ⟨h1, h2, h3, h4⟩ := h
  cases hfc : forced
  · obtain ⟨q1, q2⟩ := hf.n hfc
    subst q1
    refine ⟨h1, h2, h3, ?_⟩
    rcases h4 with ⟨q3, q4⟩ | ⟨q3, q4, q5⟩
    · exact .inl ⟨by rw [q3]; rfl, q4⟩
    · refine .inr ⟨by rw [q3]; rfl, q4, fun l hl2 => ?_⟩
      rw [List.take_succ_eq_append_getElem hj] at hl2
      rcases List.mem_append.1 hl2 with hl2 | hl2
      · exact q5 l hl2
      · have : l = F[j] := by simpa using hl2
        rw [this, ← q4]; exact q2 rfl
  · obtain ⟨x, hx, hx0, rfl⟩ := hf.f hfc
    obtain ⟨n0, nx⟩ := hl x hx
    have hz := zeros_setS hx0 (by rw [h2]; exact nx)
    refine ⟨setS_three h1 x, by rw [setS_len]; exact h2, fun y hy => ofS_keep (by rw [hx0]; decide) n0 (by rw [h2]; exact nx) (h3 y hy), .inl ⟨by simp, ?_⟩⟩
    rcases h4 with ⟨_, q4⟩ | ⟨_, q4, _⟩
    · omega
    · rw [← q4]; omega

def PrPost (w : World) (e : Ending) (w' : World) : Prop := e = .returned (.tuple #[.slice none 0 0, .bool true]) ∧ Old w w'
set_option maxRecDepth 100000 in
set_option maxHeartbeats 8000000 in
theorem stand_c {w : World} {A B : Option Addr} {F : List (List Int)} {ds : List Int} {c d : Nat} (h : CnfR w A F) (hF : ∀ l ∈ F, LitsOkP l) (hFn : F.length ≤ 1000) (hD : IntsR w B ds) (hds : LitsOkP ds)
    (hno : ∀ τ, Con τ → Clos F τ → ¬ ∀ y ∈ ds.map litOf, τ y) : Calls Tryz.prog 19 #[.slice A F.length c, .slice B ds.length d] w (PrPost w) := by
  have hdl := litsOk_len hds
  have hV1 := vars_c (c := c) h (fun l hl => ⟨fun x hx => ((hF l hl).2.1 x hx).2, by have := litsOk_len (hF l hl); omega⟩) hFn
  have hV2 : ∀ w', Old w w' → ∀ g, w'.cell? ⟨g, 0, none⟩ = some (.slice B ds.length d) → Calls Tryz.prog 26 #[.slice (some ⟨g, 0, none⟩) 1 1] w' (VsPost [ds] w') := by
    intro w' ho g hg
    refine vars_c (F := [ds]) (c := 1) ?_ ?_ (by simp)
    · intro i l hl
      cases i with
      | zero =>
        simp at hl
        subst hl
        exact ⟨_, B, d, rfl, by rw [Addr.add_lit]; exact hg, by unfold maxLen; omega, hD.old ho⟩
      | succ i => simp at hl
    · intro l hl
      have : l = ds := by simpa using hl
      rw [this]
      exact ⟨fun x hx => (hds.2.1 x hx).2, by omega⟩
  obtain ⟨fn, hfn⟩ : ∃ fn, fn = F.length := ⟨_, rfl⟩
  obtain ⟨dn, hdn⟩ : ∃ dn, dn = ds.length := ⟨_, rfl⟩
  rw [← hfn] at hV1 hFn ⊢
  rw [← hdn] at hV2 hdl ⊢
  have hmk := fun (n : Nat) (hn : n ≤ 1000) => make_rep (P := Tryz.prog) 45 3 (.int .i64 0) 8 Tryz.underlying45 infoInt rfl n (by omega) (by unfold maxLen; omega)
  replace hmk := Lib.hid hmk
  replace hV1 := Lib.hid hV1
  replace hV2 := Lib.hid hV2
  replace hfn := Lib.hid hfn
  replace hdn := Lib.hid hdn
  replace h := Lib.hid h
  replace hF := Lib.hid hF
  replace hD := Lib.hid hD
  replace hds := Lib.hid hds
  replace hno := Lib.hid hno
  go_enter Tryz.func19, Tryz.ntmps19
  go_upto_region 1 with fail
  go_cut [6] (fun v6 wx => ∃ n g : Nat, v6 = .slice (some ⟨g, 0, none⟩) n n ∧ n ≤ 9 ∧ (∀ l ∈ F, ∀ x ∈ l, x.natAbs < n) ∧ (∀ x ∈ ds, x.natAbs < n) ∧ Tr eR w (stR g n (List.replicate n 0)) wx)
  case first =>
    have hfin : ∀ n : Nat, n ≤ 1000 → Tr eR w (stR (w.heap.size + 1) n (List.replicate n 0)) ((w.alloc (.cells #[.slice B dn d] 23)).alloc (.cells (Array.replicate n (.int .i64 0)) 3)) := by
      intro n hn
      have ho : Old w (w.alloc (.cells #[.slice B dn d] 23)) := (Old.refl w).alloc _
      have hsz : (w.alloc (.cells #[.slice B dn d] 23)).heap.size = w.heap.size + 1 := by simp
      rw [← hsz]
      refine ⟨⟨fun _ => ?_, fun _ _ _ _ _ => rfl⟩, ho.alloc _, ?_⟩
      · have e := own_rep (w.alloc (.cells #[.slice B dn d] 23)) 3 n (.int .i64 0) (by unfold maxLen; omega)
        have e2 : (List.replicate n (0 : Int)).map i64 = List.replicate n (.int .i64 0) := by rw [List.map_replicate]; rfl
        show World.ownsRow _ 0 3 1 (slV _ n) n ((List.replicate n (0 : Int)).map i64)
        rw [e2]; exact e
      · rintro b ⟨_, hb⟩
        have hb : some (w.alloc (.cells #[.slice B dn d] 23)).heap.size = some b := hb
        injection hb with hb
        rw [← hb]; exact .inr ho.size
    replace hfin := Lib.hid hfin
    go_wp2_with (first
      | (go_at_call 26; (with_reducible refine hV1.out.mono ?_); rintro e w1 ⟨v1, rfl, hw1, hv1, hok1⟩; rw [hw1]; clear hw1; replace hok1 := Lib.hid hok1)
      | (go_at_call 26
         refine (hV2.out _ ((Old.refl w).alloc _) w.heap.size (by rw [World.cell?_alloc_at (w := w) _ _ _ 0 rfl]; rfl)).mono ?_
         rintro e w2 ⟨v2, rfl, hw2, hv2, hok2⟩
         rw [hw2]
         clear hw2
         replace hok2 := Lib.hid hok2
         have hm1 := hmk.out (v1 + 1) (by omega)
         have hm2 := hmk.out (v2 + 1) (by omega)
         rw [show ((v1 + 1 : Nat) : Int) = (v1 : Int) + 1 by omega] at hm1
         rw [show ((v2 + 1 : Nat) : Int) = (v2 : Int) + 1 by omega] at hm2))
    · go_meet
      exact ⟨v2 + 1, _, rfl, by omega, fun l hl x hx => by have := hok1.out l hl x hx; omega, fun x hx => by have := hok2.out ds (by simp) x hx; omega, hfin.out (v2 + 1) (by omega)⟩
    · go_meet
      exact ⟨v1 + 1, _, rfl, by omega, fun l hl x hx => by have := hok1.out l hl x hx; omega, fun x hx => by have := hok2.out ds (by simp) x hx; omega, hfin.out (v1 + 1) (by omega)⟩
  case rest =>
    obtain ⟨n, g, rfl, hn9, hFx, hdx, hT0⟩ := hcut
    have hZ : Three (List.replicate n 0) := ⟨fun j => .inl (by rw [List.getD_eq_getElem?_getD, List.getElem?_replicate]; split <;> rfl)⟩
    have hdx0 := fun x (hx : x ∈ ds) => (hds.out.2.1 x hx).1
    replace hFx := Lib.hid hFx
    replace hdx := Lib.hid hdx
    replace hdx0 := Lib.hid hdx0
    replace hT0 := Lib.hid hT0
    replace hZ := Lib.hid hZ
    clear hV1 hV2 hmk
    go_wp2_with fail
    go_loopw [24] (fun v24 wr => ∃ (i : Nat) (S : List Int), v24 = .int .i64 (i : Int) ∧ i ≤ dn ∧ Three S ∧ (∀ x ∈ ds.take i, ofS S x = 1) ∧ Tr eR w (stR g n S) wr) (fun v24 _ => dn - (intOf v24).toNat)
    case atStart => exact ⟨0, _, rfl, Nat.zero_le _, hZ.out, by simp, hT0.out⟩
    case round =>
      clear hT0
      obtain ⟨i, S, rfl, hi, hS, hok, hT⟩ := hrel
      have hempty : PrPost w (.returned (.tuple #[.slice none 0 0, .bool true])) wr := ⟨rfl, hT.fr⟩
      have hlen := stR_len hT.rows
      by_cases hlt : i < dn
      · have hiI : (i : Int) < (dn : Int) := by omega
        have hil : i < ds.length := by have := hdn.out; omega
        obtain ⟨b, rfl, hc⟩ := hD.out i _ (List.getElem?_eq_getElem hil)
        have hc := Old.cell hT.fr hc
        have hxn := hdx.out _ (List.getElem_mem hil)
        have hx0 := hdx0.out _ (List.getElem_mem hil)
        have ho := stOf_c hT.rows hS hxn (by omega)
        have hse := stSet_c hT.rows hxn (by omega)
        have h3 := ofS_three hS ds[i]
        have hnx : ¬ ofS S ds[i] = -1 → ∀ x ∈ ds.take (i + 1), ofS (setS S ds[i]) x = 1 := by
          intro hne x hx
          rw [List.take_succ_eq_append_getElem hil] at hx
          rcases List.mem_append.1 hx with hx | hx
          · exact ofS_keep hne hx0 (by rw [hlen]; exact hxn) (hok x hx)
          · have : x = ds[i] := by simpa using hx
            rw [this]; exact ofS_set_same hx0 (by rw [hlen]; exact hxn)
        have hS2 := setS_three hS ds[i]
        generalize ds[i] = x at hc hxn hx0 ho hse h3 hnx hS2
        generalize ofS S x = q at ho h3 hnx
        replace ho := Lib.hid ho
        replace hse := Lib.hid hse
        replace hnx := Lib.hid hnx
        replace hS2 := Lib.hid hS2
        replace hS := Lib.hid hS
        replace hok := Lib.hid hok
        replace hT := Lib.hid hT
        replace hempty := Lib.hid hempty
        replace hxn := Lib.hid hxn
        replace hx0 := Lib.hid hx0
        rcases h3 with rfl | rfl | rfl
        · have hn9' := hnx.out (by decide)
          replace hn9' := Lib.hid hn9'
          clear hnx
          go_wp2_with (first
            | (go_at_call 27; refine Calls.ret ho.out ?_)
            | (go_at_call 28; refine hse.out.mono ?_; rintro e w2 ⟨rfl, ht⟩; replace ht := Lib.hid ht))
          exact ⟨⟨i + 1, _, by go_num, by omega, hS2.out, hn9'.out, hT.out.trans ht.out⟩, by simp [intOf]; omega⟩
        · have hn9' := hnx.out (by decide)
          replace hn9' := Lib.hid hn9'
          clear hnx
          go_wp2_with (first
            | (go_at_call 27; refine Calls.ret ho.out ?_)
            | (go_at_call 28; refine hse.out.mono ?_; rintro e w2 ⟨rfl, ht⟩; replace ht := Lib.hid ht))
          exact ⟨⟨i + 1, _, by go_num, by omega, hS2.out, hn9'.out, hT.out.trans ht.out⟩, by simp [intOf]; omega⟩
        · clear hnx
          go_wp2_with (go_at_call 27; refine Calls.ret ho.out ?_)
          go_returns
          exact hempty.out
      · have hiI : ¬ ((i : Int) < (dn : Int)) := by omega
        have e : i = ds.length := by have := hdn.out; omega
        rw [e, List.take_length] at hok
        replace hS := Lib.hid hS
        replace hok := Lib.hid hok
        replace hT := Lib.hid hT
        replace hlen := Lib.hid hlen
        clear hempty e
        go_wp2_with fail
        go_loopg [9] (zeros S * 2 + 1) (fun kq v9 wr2 => ∃ (S' : List Int) (b : Bool), v9 = .bool b ∧ kq = zeros S' * 2 + (if b = true then 1 else 0) ∧ Three S' ∧ S'.length = n ∧ (∀ x ∈ ds, ofS S' x = 1) ∧ (b = false → ∀ l ∈ F, Clo (tauS S') (l.map litOf)) ∧ Tr eR w (stR g n S') wr2)
        case atStart => exact ⟨S, true, rfl, rfl, hS.out, hlen.out, hok.out, fun h => (by cases h), hT.out⟩
        case round =>
          clear hT hS hok
          obtain ⟨S0, b, rfl, hk, hS0, hl0, hd0, hcl, hT9⟩ := hrel
          cases b
          · exfalso
            refine hno.out (tauS S0) (tauS_con S0) ?_ ?_
            · intro C hC
              obtain ⟨l, hl, rfl⟩ := List.mem_map.1 hC
              exact hcl rfl l hl
            · intro y hy
              obtain ⟨x, hx, rfl⟩ := List.mem_map.1 hy
              exact (tauS_lit S0 (hdx0.out x hx)).2 (hd0 x hx)
          · have hP0 : PaI F ds S0 n 0 S0 false := ⟨hS0, hl0, hd0, .inr ⟨rfl, rfl, by simp⟩⟩
            rw [if_pos rfl] at hk
            replace hP0 := Lib.hid hP0
            replace hT9 := Lib.hid hT9
            replace hk := Lib.hid hk
            clear hS0 hl0 hd0 hcl
            go_wp2_with fail
            go_loopw [9, 39] (fun v9 v39 wq => ∃ (j : Nat) (S' : List Int) (b : Bool), v9 = .bool b ∧ v39 = .int .i64 (j : Int) ∧ j ≤ fn ∧ PaI F ds S0 n j S' b ∧ Tr eR w (stR g n S') wq) (fun _ v39 _ => fn - (intOf v39).toNat)
            case atStart => exact ⟨0, S0, false, rfl, rfl, Nat.zero_le _, hP0.out, hT9.out⟩
            case round =>
              clear hP0 hT9
              obtain ⟨j, S', b, rfl, rfl, hj, hP, hT⟩ := hrel
              by_cases hjt : j < fn
              · have hjI : (j : Int) < (fn : Int) := by omega
                have hjl : j < F.length := by have := hfn.out; omega
                obtain ⟨a, B2, c2, rfl, hc0, hc1, hq⟩ := h.out j _ (List.getElem?_eq_getElem hjl)
                have hc := Old.cell hT.fr hc0
                clear hc0 hc1
                have hlo := hF.out _ (List.getElem_mem hjl)
                have hlx : ∀ x ∈ F[j], x ≠ 0 ∧ x.natAbs < n := fun x hx => ⟨(hlo.2.1 x hx).1, hFx.out _ (List.getElem_mem hjl) x hx⟩
                have hfo := force_c (c := c2) hT.rows hP.1 (hq.old hT.fr) hlx hlo.2.2 (by omega) (by have := litsOk_len hlo; omega)
                have hnx := fun (forced : Bool) (S2 : List Int) (hf : FoR S' F[j] forced false S2) => hP.next hjl hlx hf
                generalize F[j] = l at hc hfo hnx
                replace hfo := Lib.hid hfo
                replace hnx := Lib.hid hnx
                replace hT := Lib.hid hT
                replace hP := Lib.hid hP
                clear hq hlo hlx hjl
                go_wp2_with (go_at_call 29; refine hfo.out.mono ?_; rintro e w2 ⟨forced, empty, S2, rfl, hf, ht⟩; replace hf := Lib.hid hf; replace ht := Lib.hid ht; cases empty <;> cases forced <;> cases b)
                · exact ⟨⟨j + 1, S2, false, rfl, by go_num, by omega, hnx.out false S2 hf.out, hT.out.trans ht.out⟩, by simp [intOf]; omega⟩
                · exact ⟨⟨j + 1, S2, true, rfl, by go_num, by omega, hnx.out false S2 hf.out, hT.out.trans ht.out⟩, by simp [intOf]; omega⟩
                · exact ⟨⟨j + 1, S2, true, rfl, by go_num, by omega, hnx.out true S2 hf.out, hT.out.trans ht.out⟩, by simp [intOf]; omega⟩
                · exact ⟨⟨j + 1, S2, true, rfl, by go_num, by omega, hnx.out true S2 hf.out, hT.out.trans ht.out⟩, by simp [intOf]; omega⟩
                all_goals
                  have hfin : PrPost w (.returned (.tuple #[.slice none 0 0, .bool true])) w2 := ⟨rfl, (hT.out.trans ht.out).fr⟩
                  replace hfin := Lib.hid hfin
                  go_returns
                  exact hfin.out
              · have hjI : ¬ ((j : Int) < (fn : Int)) := by omega
                have e : j = F.length := by have := hfn.out; omega
                obtain ⟨q1, q2, q3, q4⟩ := hP
                rcases q4 with ⟨rfl, q5⟩ | ⟨rfl, rfl, q6⟩
                · replace hT := Lib.hid hT
                  replace q1 := Lib.hid q1
                  replace q3 := Lib.hid q3
                  clear e
                  go_wp2_with fail
                  go_roundg (zeros S' * 2 + 1)
                  case measure => rw [hk.out]; omega
                  case rel => exact ⟨S', true, rfl, rfl, q1.out, q2, q3.out, fun h => (by cases h), hT.out⟩
                · rw [e, List.take_length] at q6
                  replace hT := Lib.hid hT
                  replace q1 := Lib.hid q1
                  replace q3 := Lib.hid q3
                  replace q6 := Lib.hid q6
                  clear e
                  go_wp2_with fail
                  go_roundg (zeros S' * 2)
                  case measure => rw [hk.out]; omega
                  case rel => exact ⟨S', false, rfl, rfl, q1.out, q2, q3.out, fun _ => q6.out, hT.out⟩

set_option maxRecDepth 100000 in
theorem propagated_c {w : World} {A B : Option Addr} {F : List (List Int)} {ds : List Int} {c d : Nat} (h : CnfR w A F) (hF : ∀ l ∈ F, LitsOkP l) (hFn : F.length ≤ 1000) (hD : IntsR w B ds) (hds : LitsOkP ds)
    (hno : ∀ τ, Con τ → Clos F τ → ¬ ∀ y ∈ ds.map litOf, τ y) : Calls Tryz.prog 13 #[.slice A F.length c, .slice B ds.length d] w (PrPost w) := by
  have hS := stand_c (c := c) (d := d) h hF hFn hD hds hno
  generalize F.length = fn at hS
  generalize ds.length = dn at hS
  replace hS := Lib.hid hS
  clear h hF hFn hD hds hno
  go_enter Tryz.func13, Tryz.ntmps13
  go_wp2_with (go_at_call 19; refine hS.out.mono ?_; rintro e w2 ⟨rfl, ho⟩; replace ho := Lib.hid ho)
  go_returns
  exact ⟨rfl, ho.out⟩
end Go.Proofs.YtiimddkopiknpaaGreat
