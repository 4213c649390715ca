/-
  The statement's own functions, second part; the answer.
-/
import Derived.Test.YtiimddkopiknpaaGreatDoorB24
import Derived.Test.YtiimddkopiknpaaGreatDoorB23
import Derived.Test.YtiimddkopiknpaaGreatDoorB13
import Derived.Lib.LazyBuf
set_option linter.unusedVariables false
set_option linter.unusedSimpArgs false

/-
  True, Sum, Holds.
-/
namespace Go.Proofs.YtiimddkopiknpaaGreatDoor
open Go.RowKit

def BoolsR (w : World) (P : Option Addr) (bs : List Bool) : Prop := ∀ j b, bs[j]? = some b → ∃ a, P = some a ∧ w.cell? (a.add j) = some (.bool b)
theorem BoolsR.old {w w' : World} {P : Option Addr} {bs : List Bool} (h : BoolsR w P bs) (ho : Old w w') : BoolsR w' P bs := by
  intro j b hj
  obtain ⟨a, h1, h2⟩ := h j b hj
  exact ⟨a, h1, ho.cell h2⟩
def trueB (bs : List Bool) (x : Int) : Bool := bs.getD (x.natAbs - 1) false == decide (0 < x)
theorem beq_dec (a : Bool) (p : Prop) [Decidable p] : (a == decide p) = (a == decide p) := rfl

set_option maxRecDepth 100000 in
set_option maxHeartbeats 2000000 in
theorem true_c {w : World} {P : Option Addr} {bs : List Bool} {cb nb : Nat} {x : Int} (h : BoolsR w P bs) (hb : bs.length = nb) (hb8 : nb ≤ 8) (h0 : x ≠ 0) (h8 : x.natAbs ≤ nb) :
    Calls Tryz.prog 61 #[.int .i64 x, .slice P nb cb] w fun e w' => e = .returned (.bool (trueB bs x)) ∧ w' = w := by
  have hO := fun w => Of_c x w (by omega)
  have hv1 : 1 ≤ x.natAbs := by omega
  obtain ⟨a, rfl, hc⟩ := h (x.natAbs - 1) _ (List.getElem?_eq_getElem (by omega))
  have ht : trueB bs x = (bs[x.natAbs - 1]'(by omega) == decide (0 < x)) := by
    unfold trueB
    rw [List.getD_eq_getElem?_getD, List.getElem?_eq_getElem (by omega)]; rfl
  rw [ht]
  clear ht h
  generalize bs[x.natAbs - 1]'(by omega) = bb at hc
  generalize x.natAbs = v at hO hv1 h8 hc
  have hvI : (v : Int) ≤ (nb : Int) := by omega
  have hv2 : IntKind.i64.wrap ((v : Int) - 1) = ((v - 1 : Nat) : Int) := by rw [IntWalk.i64_in _ (by omega)]; omega
  clear hb
  go_enter Tryz.func61, Tryz.ntmps61
  go_wp2_with (go_at_call 20; refine Calls.ret (hO _) ?_)
  go_ret
  exact ⟨rfl, rfl⟩

def cntT (bs : List Bool) (l : List Int) : Nat := (l.filter (trueB bs)).length
theorem cntT_le (bs : List Bool) (l : List Int) : cntT bs l ≤ l.length := List.length_filter_le _ _
theorem cntT_succ (bs : List Bool) (l : List Int) (i : Nat) (hi : i < l.length) : cntT bs (l.take (i + 1)) = cntT bs (l.take i) + if trueB bs l[i] = true then 1 else 0 := by
  unfold cntT
  rw [List.take_succ_eq_append_getElem hi, List.filter_append, List.length_append]
  congr 1
  cases h : trueB bs l[i] <;> simp [h]

set_option maxRecDepth 100000 in
set_option maxHeartbeats 4000000 in
theorem sum_c {w : World} {A P : Option Addr} {bs : List Bool} {l : List Int} {c cb nb : Nat} (h : IntsR w A l) (hP : BoolsR w P bs) (hb : bs.length = nb) (hb8 : nb ≤ 8) (hl : ∀ x ∈ l, x ≠ 0 ∧ x.natAbs ≤ nb) (hn : l.length ≤ 1000) :
    Calls Tryz.prog 43 #[.slice A l.length c, .slice none 0 0, .slice P nb cb] w fun e w' => e = .returned (.int .i64 (cntT bs l : Int)) ∧ w' = w := by
  obtain ⟨n, hnn⟩ : ∃ n, n = l.length := ⟨_, rfl⟩
  obtain ⟨r, hr⟩ : ∃ r, r = cntT bs l := ⟨_, rfl⟩
  rw [← hnn] at hn ⊢
  rw [← hr]
  replace hnn := Lib.hid hnn
  replace hr := Lib.hid hr
  replace h := Lib.hid h
  replace hl := Lib.hid hl
  replace hP := Lib.hid hP
  replace hb := Lib.hid hb
  go_enter Tryz.func43, Tryz.ntmps43
  go_wp2_with fail
  go_loopw [7, 13] (fun v7 v13 wr => ∃ (i : Nat), v13 = .int .i64 (i : Int) ∧ v7 = .int .i64 (cntT bs (l.take i) : Int) ∧ i ≤ n ∧ wr = w) (fun _ v13 _ => n - (intOf v13).toNat)
  case atStart => exact ⟨0, rfl, rfl, Nat.zero_le _, rfl⟩
  case round =>
    obtain ⟨i, rfl, rfl, hi, rfl⟩ := hrel
    by_cases hlt : i < n
    · have hiI : (i : Int) < (n : Int) := by omega
      have hil : i < l.length := by have := hnn.out; omega
      obtain ⟨a, rfl, hc⟩ := h.out i _ (List.getElem?_eq_getElem hil)
      have hs := cntT_succ bs l i hil
      have hlx := hl.out _ (List.getElem_mem hil)
      have hT := true_c (cb := cb) hP.out hb.out hb8 hlx.1 hlx.2
      have hcl := cntT_le bs (l.take i)
      rw [List.length_take] at hcl
      have hcl : cntT bs (l.take i) ≤ 1000 := by omega
      generalize cntT bs (l.take i) = q at hs hcl
      generalize l[i] = x at hc hs hT hlx
      replace hlx := Lib.hid hlx
      clear hil
      cases hb9 : trueB bs x
      · rw [hb9] at hT hs
        simp only [Bool.false_eq_true, if_false, Nat.add_zero] at hs
        replace hT := Lib.hid hT
        replace hs := Lib.hid hs
        replace hb9 := Lib.hid hb9
        go_wp2_with (go_at_call 61; refine Calls.ret hT.out ?_)
        exact ⟨⟨i + 1, by go_num, by rw [hs.out], by omega, trivial⟩, by simp [intOf]; omega⟩
      · rw [hb9] at hT hs
        simp only [if_true] at hs
        replace hT := Lib.hid hT
        replace hs := Lib.hid hs
        replace hb9 := Lib.hid hb9
        go_wp2_with (go_at_call 61; refine Calls.ret hT.out ?_)
        exact ⟨⟨i + 1, by go_num, by rw [hs.out]; go_num, by omega, trivial⟩, by simp [intOf]; omega⟩
    · have hiI : ¬ ((i : Int) < (n : Int)) := by omega
      have e : i = l.length := by have := hnn.out; omega
      have hq : cntT bs (l.take i) = r := by rw [e, List.take_length, hr.out]
      rw [hq]
      replace hq := Lib.hid hq
      clear e
      go_wp2_with fail
      go_ret
      exact ⟨rfl, rfl⟩

def holdsB (bs : List Bool) (l : List Int) : Bool := decide (1 ≤ cntT bs l)
theorem holdsB_iff (bs : List Bool) (l : List Int) : holdsB bs l = true ↔ ∃ x ∈ l, trueB bs x = true := by
  unfold holdsB cntT
  rw [decide_eq_true_iff]
  constructor
  · intro h
    obtain ⟨x, hx⟩ := List.exists_mem_of_length_pos (show 0 < (l.filter (trueB bs)).length by omega)
    rw [List.mem_filter] at hx
    exact ⟨x, hx⟩
  · rintro ⟨x, h1, h2⟩
    exact List.length_pos_of_mem (List.mem_filter.2 ⟨h1, h2⟩)
def OldRet (w : World) (v : Value) (e : Ending) (w' : World) : Prop := e = .returned v ∧ Old w w'
set_option maxRecDepth 100000 in
set_option maxHeartbeats 4000000 in
theorem holds_c {w : World} {A P : Option Addr} {bs : List Bool} {l : List Int} {c cb nb : Nat} (h : IntsR w A l) (hP : BoolsR w P bs) (hb : bs.length = nb) (hb8 : nb ≤ 8) (hl : ∀ x ∈ l, x ≠ 0 ∧ x.natAbs ≤ nb) (hn : l.length ≤ 1000) :
    Calls Tryz.prog 33 #[.agg #[.slice A l.length c, .slice none 0 0, .int .i64 1], .slice P nb cb] w (OldRet w (.bool (holdsB bs l))) := by
  have hS := fun w' (ho : Old w w') => sum_c (c := c) (cb := cb) (h.old ho) (hP.old ho) hb hb8 hl hn
  have hh : holdsB bs l = decide ((1 : Int) ≤ (cntT bs l : Int)) := by unfold holdsB; rw [decide_eq_decide]; omega
  rw [hh]
  generalize cntT bs l = r at hS
  generalize l.length = n at hS hn
  replace hS := Lib.hid hS
  clear h hP hb hl hh
  go_enter Tryz.func33, Tryz.ntmps33
  go_wp2_with fail
  refine wp_region_tail 9 (by kernel_rfl) (by kernel_rfl) ?_
  simp only [List.take_succ_cons, List.take_zero, List.drop_succ_cons, List.drop_zero]
  repeat still_step
  still_call (hS.out _ (((Old.refl w).alloc _).drew))
  repeat still_step
  refine wpStill_nil ?_
  go_wp2_with fail
  go_ret
  exact ⟨rfl, ((Old.refl w).alloc _).drew⟩

set_option maxRecDepth 100000 in
set_option maxHeartbeats 4000000 in
theorem allHold1_c {w : World} {A P : Option Addr} {bs : List Bool} {l : List Int} {c cb vb nb : Nat} (h : IntsR w A l) (hP : BoolsR w P bs) (hb : bs.length = nb) (hb8 : nb ≤ 8) (hl : ∀ x ∈ l, x ≠ 0 ∧ x.natAbs ≤ nb) (hn : l.length ≤ 1000)
    (hv : w.cell? ⟨vb, 0, none⟩ = some (.slice P nb cb)) :
    Calls Tryz.prog 32 #[.agg #[.slice A l.length c, .slice none 0 0, .int .i64 1], .pointer (some ⟨vb, 0, none⟩)] w (OldRet w (.bool (!holdsB bs l))) := by
  have hH := fun w' (ho : Old w w') => holds_c (c := c) (cb := cb) (h.old ho) (hP.old ho) hb hb8 hl hn
  have hvl := cell_lt hv
  generalize holdsB bs l = r at hH
  generalize l.length = n at hH hn
  replace hH := Lib.hid hH
  clear h hP hb hl
  have hv2 : (w.alloc (.cells #[.slice A n c, .slice none 0 0, .int .i64 1] 46)).cell? ⟨vb, 0, none⟩ = some (.slice P nb cb) := ((Old.refl w).alloc _).cell hv
  go_enter Tryz.func32, Tryz.ntmps32
  go_wp2_with (go_at_call 33; refine (hH.out _ ((Old.refl w).alloc _)).mono ?_; rintro e w2 ⟨rfl, ho⟩; replace ho := Lib.hid ho)
  go_ret
  exact ⟨rfl, ((Old.refl w).alloc _).trans ho.out⟩
end Go.Proofs.YtiimddkopiknpaaGreatDoor

/-
  AllHold, CNFHolds, Models.
-/
namespace Go.Proofs.YtiimddkopiknpaaGreatDoor
open Go.RowKit

def IxPost (F : List (List Int)) (bs : List Bool) (w : World) (e : Ending) (w' : World) : Prop := ∃ r : Int, e = .returned (.int .i64 r) ∧ Old w w' ∧ ((0 ≤ r ∧ ∃ l ∈ F, holdsB bs l = false) ∨ (r < 0 ∧ ∀ l ∈ F, holdsB bs l = true))
set_option maxRecDepth 100000 in
set_option maxHeartbeats 4000000 in
theorem index_c {w : World} {g : Nat} {Q : Option Addr} {bs : List Bool} {F : List (List Int)} {c cb vb nb : Nat} (h : CstR w g F) (hP : BoolsR w Q bs) (hb : bs.length = nb) (hb8 : nb ≤ 8) (hF : ∀ l ∈ F, (∀ x ∈ l, x ≠ 0 ∧ x.natAbs ≤ nb) ∧ l.length ≤ 1000) (hn : F.length ≤ 1000)
    (hv : w.cell? ⟨vb, 0, none⟩ = some (.slice Q nb cb)) :
    Calls Tryz.prog 42 #[.slice (some ⟨g, 0, none⟩) F.length c, .func (.func 32) #[] #[.pointer (some ⟨vb, 0, none⟩)]] w (IxPost F bs w) := by
  obtain ⟨n, hnn⟩ : ∃ n, n = F.length := ⟨_, rfl⟩
  rw [← hnn] at hn ⊢
  replace hnn := Lib.hid hnn
  replace h := Lib.hid h
  replace hP := Lib.hid hP
  replace hF := Lib.hid hF
  replace hb := Lib.hid hb
  replace hv := Lib.hid hv
  go_enter Tryz.func42, Tryz.ntmps42
  go_wp2_with fail
  go_loopw [8] (fun v8 wr => ∃ (i : Nat), v8 = .int .i64 (i : Int) ∧ i ≤ n ∧ (∀ l ∈ F.take i, holdsB bs l = true) ∧ Old w wr) (fun v8 _ => n - (intOf v8).toNat)
  case atStart => exact ⟨0, rfl, Nat.zero_le _, by simp, Old.refl w⟩
  case round =>
    obtain ⟨i, rfl, hi, hok, ho⟩ := hrel
    by_cases hlt : i < n
    · have hiI : (i : Int) < (n : Int) := by omega
      have hil : i < F.length := by have := hnn.out; omega
      obtain ⟨B, c2, g1, g2, g3, hm, hq⟩ := h.out i _ (List.getElem?_eq_getElem hil)
      have h1 := ho.cell g1
      have h2 := ho.cell g2
      have h3 := ho.cell g3
      clear g1 g2 g3
      have hl := hF.out _ (List.getElem_mem hil)
      have hA := fun w' (ho' : Old w w') => allHold1_c (c := c2) (hq.old ho') (hP.out.old ho') hb.out hb8 hl.1 hl.2 (ho'.cell hv.out)
      have hnx : holdsB bs F[i] = true → ∀ l ∈ F.take (i + 1), holdsB bs l = true := by
        intro z l hl
        rw [List.take_succ_eq_append_getElem hil] at hl
        rcases List.mem_append.1 hl with hl | hl
        · exact hok l hl
        · have : l = F[i] := by simpa using hl
          rw [this]; exact z
      have hbad : holdsB bs F[i] = false → ∃ l ∈ F, holdsB bs l = false := fun z => ⟨_, List.getElem_mem hil, z⟩
      generalize F[i].length = m at h1 hA
      generalize holdsB bs F[i] = r at hA hnx hbad
      clear hm hq hl hil
      replace hA := Lib.hid hA
      replace hnx := Lib.hid hnx
      replace hbad := Lib.hid hbad
      replace hok := Lib.hid hok
      replace ho := Lib.hid ho
      cases r
      · have hb9 := hbad.out rfl
        replace hb9 := Lib.hid hb9
        clear hnx hbad
        go_wp2_with (go_at_call 32; refine (hA.out _ ho.out).mono ?_; rintro e w2 ⟨rfl, ho2⟩; replace ho2 := Lib.hid ho2)
        have hfin : IxPost F bs w (.returned (.int .i64 (i : Int))) w2 := ⟨i, rfl, ho.out.trans ho2.out, .inl ⟨by omega, hb9.out⟩⟩
        replace hfin := Lib.hid hfin
        go_ret
        exact hfin.out
      · have hn9 := hnx.out rfl
        replace hn9 := Lib.hid hn9
        clear hnx hbad
        go_wp2_with (go_at_call 32; refine (hA.out _ ho.out).mono ?_; rintro e w2 ⟨rfl, ho2⟩; replace ho2 := Lib.hid ho2)
        exact ⟨⟨i + 1, by go_num, by omega, hn9.out, ho.out.trans ho2.out⟩, by simp [intOf]; omega⟩
    · have hiI : ¬ ((i : Int) < (n : Int)) := by omega
      have e : i = F.length := by have := hnn.out; omega
      rw [e, List.take_length] at hok
      have hfin : IxPost F bs w (.returned (.int .i64 (-1))) wr := ⟨-1, rfl, ho, .inr ⟨by omega, hok⟩⟩
      replace hfin := Lib.hid hfin
      replace hok := Lib.hid hok
      clear e
      go_wp2_with fail
      go_ret
      exact hfin.out

def CtPost (F : List (List Int)) (bs : List Bool) (w : World) (e : Ending) (w' : World) : Prop := ∃ r : Bool, e = .returned (.bool r) ∧ Old w w' ∧ ((r = true ∧ ∃ l ∈ F, holdsB bs l = false) ∨ (r = false ∧ ∀ l ∈ F, holdsB bs l = true))
set_option maxRecDepth 100000 in
theorem anyBad_c {w : World} {g : Nat} {Q : Option Addr} {bs : List Bool} {F : List (List Int)} {c cb vb nb : Nat} (h : CstR w g F) (hP : BoolsR w Q bs) (hb : bs.length = nb) (hb8 : nb ≤ 8) (hF : ∀ l ∈ F, (∀ x ∈ l, x ≠ 0 ∧ x.natAbs ≤ nb) ∧ l.length ≤ 1000) (hn : F.length ≤ 1000)
    (hv : w.cell? ⟨vb, 0, none⟩ = some (.slice Q nb cb)) :
    Calls Tryz.prog 31 #[.slice (some ⟨g, 0, none⟩) F.length c, .func (.func 32) #[] #[.pointer (some ⟨vb, 0, none⟩)]] w (CtPost F bs w) := by
  have hI := index_c (c := c) h hP hb hb8 hF hn hv
  replace hI := Lib.hid hI
  clear h hP hb hb8 hF hn hv
  go_enter Tryz.func31, Tryz.ntmps31
  go_wp2_with (go_at_call 42; refine hI.out.mono ?_; rintro e w2 ⟨r, rfl, ho, hr⟩; replace ho := Lib.hid ho; replace hr := Lib.hid hr)
  have hfin : CtPost F bs w (.returned (.bool (decide (0 ≤ r)))) w2 := by
    refine ⟨_, rfl, ho.out, ?_⟩
    rcases hr.out with ⟨h1, h2⟩ | ⟨h1, h2⟩
    · exact .inl ⟨decide_eq_true h1, h2⟩
    · exact .inr ⟨decide_eq_false (by omega), h2⟩
  replace hfin := Lib.hid hfin
  go_ret
  exact hfin.out
def AHPost (F : List (List Int)) (bs : List Bool) (w : World) (e : Ending) (w' : World) : Prop := ∃ r : Bool, e = .returned (.bool r) ∧ Old w w' ∧ (r = true ↔ ∀ l ∈ F, holdsB bs l = true)
set_option maxRecDepth 100000 in
theorem allHold_c {w : World} {g : Nat} {Q : Option Addr} {bs : List Bool} {F : List (List Int)} {c cb nb : Nat} (h : CstR w g F) (hP : BoolsR w Q bs) (hb : bs.length = nb) (hb8 : nb ≤ 8) (hF : ∀ l ∈ F, (∀ x ∈ l, x ≠ 0 ∧ x.natAbs ≤ nb) ∧ l.length ≤ 1000) (hn : F.length ≤ 1000) :
    Calls Tryz.prog 18 #[.slice (some ⟨g, 0, none⟩) F.length c, .slice Q nb cb] w (AHPost F bs w) := by
  have ho0 : Old w (w.alloc (.cells #[.slice Q nb cb] 27)) := (Old.refl w).alloc _
  have hI := anyBad_c (c := c) (cb := cb) (vb := w.heap.size) (h.old ho0) (hP.old ho0) hb hb8 hF hn (by rw [World.cell?_alloc_at (w := w) _ _ _ 0 rfl]; rfl)
  replace hI := Lib.hid hI
  replace ho0 := Lib.hid ho0
  clear h hP hb hF hn
  go_enter Tryz.func18, Tryz.ntmps18
  go_wp2_with (go_at_call 31; refine hI.out.mono ?_; rintro e w2 ⟨r, rfl, ho, hr⟩; replace ho := Lib.hid ho; replace hr := Lib.hid hr)
  have hfin : AHPost F bs w (.returned (.bool (!r))) w2 := by
    refine ⟨_, rfl, ho0.out.trans ho.out, ?_⟩
    rcases hr.out with ⟨h1, l, h2, h3⟩ | ⟨h1, h2⟩
    · rw [h1]
      constructor
      · intro h; cases h
      · intro h; rw [h l h2] at h3; cases h3
    · rw [h1]
      exact ⟨fun _ => h2, fun _ => rfl⟩
  replace hfin := Lib.hid hfin
  go_ret
  exact hfin.out
theorem infoBs : (Tryz.prog.info? 27).map (fun i => (i.zero, i.size, i.bytes)) = some (some (.slice none 0 0), 1, 24) := by kernel_rfl
/-- lists of values under which the clauses hold -/
structure MoI (nb : Nat) (F : List (List Int)) (V : Value) (Vs : List (Value × List Bool)) (w : World) : Prop where
  ok : ∀ p ∈ Vs, p.2.length = nb ∧ (∀ l ∈ F, holdsB p.2 l = true) ∧ ∃ g c, p.1 = .slice (some ⟨g, 0, none⟩) nb c ∧ BoolsR w (some ⟨g, 0, none⟩) p.2 ∧ g < w.heap.size ∧ V.ownBlock ≠ some g
theorem MoI.old {nb : Nat} {F : List (List Int)} {V : Value} {Vs : List (Value × List Bool)} {w w' : World} (h : MoI nb F V Vs w) (ho : Old w w') : MoI nb F V Vs w' := by
  refine ⟨fun p hp => ?_⟩
  obtain ⟨h1, h2, P, c, h3, h4, h5, h6⟩ := h.ok p hp
  exact ⟨h1, h2, P, c, h3, h4.old ho, Nat.lt_of_lt_of_le h5 ho.size, h6⟩
def moR (V : Value) (Vs : List (Value × List Bool)) : Unit → Row := fun _ => ⟨27, 1, V, Vs.length, Vs.map Prod.fst⟩
def MoPost (nb : Nat) (F : List (List Int)) (w0 : World) (e : Ending) (w : World) : Prop := ∃ V Vs, e = .returned V ∧ Old w0 w ∧ Rows (moR V Vs) w ∧ MoI nb F V Vs w ∧ Vs.length ≤ 256
theorem values_bools {w0 w : World} {V : Value} {bs : List Bool} {nb : Nat} (h : Tr eR w0 (bsR V bs) w) (hb : bs.length = nb) (hb1 : 0 < nb) : ∃ g c, V = .slice (some ⟨g, 0, none⟩) nb c ∧ BoolsR w (some ⟨g, 0, none⟩) bs ∧ w0.heap.size ≤ g ∧ g < w.heap.size := by
  obtain ⟨g, cap, h1, h2, _, _⟩ := h.rows.open () (by show 0 < bs.length; omega)
  have h1 : V = .slice (some ⟨g, 0, none⟩) bs.length cap := h1
  refine ⟨g, cap, by rw [h1, hb], fun j b hj => ⟨_, rfl, ?_⟩, ?_, h.rows.lt ⟨(), h2⟩⟩
  · rw [Addr.add_lit, Nat.zero_add]
    exact h.rows.cell () h2 (by show (bs.map Value.bool)[j]? = _; rw [List.getElem?_map, hj]; rfl)
  · rcases h.own g ⟨(), h2⟩ with h' | h'
    · exact (eR_own h').elim
    · exact h'

theorem Tr.old {ι ι' : Type} {ρ : ι → Row} {ρ' : ι' → Row} {w w1 w2 : World} (t : Tr ρ w ρ' w1) (ho : Old w1 w2) : Tr ρ w ρ' w2 := by
  refine t.trans ⟨⟨fun r => ownsRow_of_block (t.rows.own r) fun b hb => ho.block b (t.rows.lt ⟨r, hb⟩) eR_own, t.rows.inj⟩, ⟨ho.os, ho.tape, ho.output, ho.size, fun k hk _ => ho.block k hk eR_own⟩, fun b hb => .inl hb⟩

set_option maxRecDepth 100000 in
set_option maxHeartbeats 4000000 in
theorem models_c {w : World} {g : Nat} {F : List (List Int)} {c nb : Nat} (hb1 : 0 < nb) (hb8 : nb ≤ 8) (h : CstR w g F) (hF : ∀ l ∈ F, (∀ x ∈ l, x ≠ 0 ∧ x.natAbs ≤ nb) ∧ l.length ≤ 1000) (hn : F.length ≤ 1000) :
    Calls Tryz.prog 19 #[.slice (some ⟨g, 0, none⟩) F.length c, .int .i64 (nb : Int)] w (MoPost nb F w) := by
  obtain ⟨iN, hiN, hz0, hz1, hz2⟩ := info_parts infoBs
  have hA := fun w' (Q : Option Addr) (bs : List Bool) (cb : Nat) (ho : Old w w') (hq : BoolsR w' Q bs) (hb : bs.length = nb) => allHold_c (c := c) (cb := cb) (h.old ho) hq hb hb8 hF hn
  generalize F.length = fn at hA
  have hK2 : 2 ^ nb ≤ 256 := Nat.le_trans (Nat.pow_le_pow_right (by omega) hb8) (by decide)
  obtain ⟨K, hK⟩ : ∃ K : Nat, K = 2 ^ nb := ⟨_, rfl⟩
  have hKi : (2 : Int) ^ nb = (K : Int) := by rw [hK]; simp
  rw [← hK] at hK2
  clear hK
  have hV : ∀ (i : Nat) (w' : World), i ≤ 256 → Calls Tryz.prog 34 #[.int .i64 (i : Int), .int .i64 (nb : Int)] w' (VPost nb w') := fun i w' hi => values_c i nb w' (by omega) (by omega) (by omega)
  have hT0 : Tr eR w (moR (.slice (some ⟨w.heap.size, 0, none⟩) 0 0) []) (w.alloc (.cells #[] 27)) := fresh_any w 27 1
  replace hT0 := Lib.hid hT0
  replace hV := Lib.hid hV
  replace hA := Lib.hid hA
  clear h hF hn
  go_enter Tryz.func19, Tryz.ntmps19
  go_wp2_with fail
  go_loopw [5, 11] (fun v5 v11 wr => ∃ (i : Nat) (Vs : List (Value × List Bool)), v11 = .int .i64 (i : Int) ∧ i ≤ K ∧ Vs.length ≤ i ∧ Tr eR w (moR v5 Vs) wr ∧ MoI nb F v5 Vs wr) (fun _ v11 _ => K - (intOf v11).toNat)
  case atStart => exact ⟨0, [], rfl, Nat.zero_le _, Nat.le_refl _, hT0.out, ⟨fun p hp => by cases hp⟩⟩
  case round =>
    clear hT0
    obtain ⟨i, Vs, rfl, hi, hvl, hT, hM⟩ := hrel
    by_cases hlt : i < K
    · have hiI : (i : Int) < (K : Int) := by omega
      have hv := hV.out i wr (by omega)
      have hlt5 : ∀ b, u5.ownBlock = some b → b < wr.heap.size := fun b hb => hT.rows.lt ⟨(), hb⟩
      replace hlt5 := Lib.hid hlt5
      replace hv := Lib.hid hv
      replace hT := Lib.hid hT
      replace hM := Lib.hid hM
      go_upto_if 19 with (first
        | (go_at_call 34; refine hv.out.mono ?_; rintro e w2 ⟨V, bs, rfl, hb, ht⟩
           obtain ⟨gv, cv, rfl, hq, hg1, hg2⟩ := values_bools ht hb hb1
           have ho2 : Old wr w2 := ht.fr
           have hA2 := hA.out w2 _ bs cv (Old.trans hT.out.fr ho2) hq hb
           replace hA2 := Lib.hid hA2
           replace ht := Lib.hid ht
           replace hq := Lib.hid hq
           replace hb := Lib.hid hb
           replace ho2 := Lib.hid ho2)
        | (go_at_call 18; refine hA2.out.mono ?_; rintro e w3 ⟨r, rfl, ho3, hr⟩; replace ho3 := Lib.hid ho3; replace hr := Lib.hid hr))
      have hT3 := ((hT.out.old ho2.out).old ho3.out)
      have ho23 := ho2.out.trans ho3.out
      have hM3 := hM.out.old ho23
      cases r
      · replace hT3 := Lib.hid hT3
        replace hM3 := Lib.hid hM3
        replace ho23 := Lib.hid ho23
        go_wp2_with fail
        exact ⟨⟨i + 1, Vs, by go_num, by omega, by omega, hT3.out, hM3.out⟩, by simp [intOf]; omega⟩
      · have hM4 : MoI nb F u5 (Vs ++ [(.slice (some ⟨gv, 0, none⟩) nb cv, bs)]) w3 := by
          refine ⟨fun p hp => ?_⟩
          rcases List.mem_append.1 hp with hp | hp
          · exact hM3.ok p hp
          · have : p = (.slice (some ⟨gv, 0, none⟩) nb cv, bs) := by simpa using hp
            rw [this]
            exact ⟨hb.out, hr.out.1 rfl, _, _, rfl, hq.out.old ho3.out, Nat.lt_of_lt_of_le hg2 ho3.out.size, fun e => by have := hlt5.out gv e; omega⟩
        replace hT3 := Lib.hid hT3
        replace hM3 := Lib.hid hM3
        replace hM4 := Lib.hid hM4
        replace ho23 := Lib.hid ho23
        go_wp2_with (at_builtin; apply keepHid)
        refine Lib.hid ?_
        refine wpList_append_rows rfl _ _ 43 rfl 27 iN (.slice none 0 0) 1 24 Tryz.underlying43 hiN hz0 hz1 hz2 rfl (by decide) _ Vs.length (Vs.map Prod.fst) rfl ((hT3.out.alloc _).rows.own ()) ⟨w3.heap.size, 0, none⟩ 1 1 [.slice (some ⟨gv, 0, none⟩) nb cv] rfl rfl (cell_new_one1 _ _ _ _ rfl) (by simp [Value.oneCell']) (by unfold maxLen; omega) (by omega) ?_
        intro V' w4 ho hg hf
        have tg := (hT3.out.alloc (.cells #[.slice (some ⟨gv, 0, none⟩) nb cv] 27)).rows.grow (ρ' := moR V' (Vs ++ [(.slice (some ⟨gv, 0, none⟩) nb cv, bs)])) () ho hg hf (by
          show (⟨_, _, _, _, _⟩ : Row) = ⟨_, _, _, _, _⟩
          simp [moR]) (fun r hr => (hr rfl).elim)
        have hT4 := (hT3.out.alloc (.cells #[.slice (some ⟨gv, 0, none⟩) nb cv] 27)).trans tg
        have hM5 : MoI nb F V' (Vs ++ [(.slice (some ⟨gv, 0, none⟩) nb cv, bs)]) w4 := by
          refine ⟨fun p hp => ?_⟩
          obtain ⟨z1, z2, gp, cp, z3, z4, z5, z6⟩ := (hM4.out.old ((Old.refl w3).alloc (.cells #[.slice (some ⟨gv, 0, none⟩) nb cv] 27))).ok p hp
          have hno : ¬ Own (moR u5 Vs) gp := by rintro ⟨_, h⟩; exact z6 h
          refine ⟨z1, z2, gp, cp, z3, ?_, Nat.lt_of_lt_of_le z5 tg.fr.size, ?_⟩
          · intro j b hj
            obtain ⟨a, q1, q2⟩ := z4 j b hj
            cases q1
            refine ⟨_, rfl, ?_⟩
            rw [Addr.add_lit] at q2 ⊢
            rw [tg.fr.cell z5 hno]; exact q2
          · intro e
            rcases hf with hf | ⟨b, hf, hb2⟩
            · rw [hf] at e; exact z6 e
            · rw [hf] at e
              injection e with e
              omega
        obtain ⟨g4, cap4, rfl, _, _⟩ := own_form ho (by omega)
        clear ho hg hf
        clear tg
        replace hT4 := Lib.hid hT4
        replace hM5 := Lib.hid hM5
        go_wp2_with fail
        exact ⟨⟨i + 1, _, by go_num, by omega, by simp; omega, hT4.out, hM5.out⟩, by simp [intOf]; omega⟩
    · have hiI : ¬ ((i : Int) < (K : Int)) := by omega
      have hfin : MoPost nb F w (.returned u5) wr := ⟨u5, Vs, rfl, hT.fr, hT.rows, hM, by omega⟩
      replace hfin := Lib.hid hfin
      replace hT := Lib.hid hT
      replace hM := Lib.hid hM
      go_wp2_with fail
      go_ret
      exact hfin.out
end Go.Proofs.YtiimddkopiknpaaGreatDoor

/-
  Vars, varsOf, right.
-/
namespace Go.Proofs.YtiimddkopiknpaaGreatDoor
open Go.RowKit

def VsPost (F : List (List Int)) (w : World) (e : Ending) (w' : World) : Prop := ∃ v : Nat, e = .returned (.int .i64 (v : Int)) ∧ w' = w ∧ v ≤ 8 ∧ ∀ l ∈ F, ∀ x ∈ l, x.natAbs ≤ v
set_option maxRecDepth 100000 in
set_option maxHeartbeats 4000000 in
theorem vars_c {w : World} {A : Option Addr} {F : List (List Int)} {c : Nat} (h : CnfR w A F) (hF : ∀ l ∈ F, (∀ x ∈ l, x.natAbs ≤ 8) ∧ l.length ≤ 1000) (hn : F.length ≤ 1000) :
    Calls Tryz.prog 13 #[.slice A F.length c] w (VsPost F w) := by
  obtain ⟨n, hnn⟩ : ∃ n, n = F.length := ⟨_, rfl⟩
  rw [← hnn] at hn ⊢
  replace hnn := Lib.hid hnn
  replace h := Lib.hid h
  replace hF := Lib.hid hF
  go_enter Tryz.func13, Tryz.ntmps13
  go_wp2_with fail
  go_loopw [3, 10] (fun v3 v10 wr => ∃ (i v : Nat), v10 = .int .i64 (i : Int) ∧ v3 = .int .i64 (v : Int) ∧ i ≤ n ∧ v ≤ 8 ∧ (∀ l ∈ F.take i, ∀ x ∈ l, x.natAbs ≤ v) ∧ wr = w) (fun _ v10 _ => n - (intOf v10).toNat)
  case atStart => exact ⟨0, 0, rfl, rfl, Nat.zero_le _, Nat.zero_le _, by simp, rfl⟩
  case round =>
    obtain ⟨i, v, rfl, rfl, hi, hv, hok, rfl⟩ := hrel
    by_cases hlt : i < n
    · have hiI : (i : Int) < (n : Int) := by omega
      have hil : i < F.length := by have := hnn.out; omega
      obtain ⟨a, B, c2, rfl, hc, _, hq⟩ := h.out i _ (List.getElem?_eq_getElem hil)
      have hl := hF.out _ (List.getElem_mem hil)
      have hnx : ∀ v', v ≤ v' → (∀ x ∈ F[i], x.natAbs ≤ v') → ∀ l ∈ F.take (i + 1), ∀ x ∈ l, x.natAbs ≤ v' := by
        intro v' h1 h2 l hl x hx
        rw [List.take_succ_eq_append_getElem hil] at hl
        rcases List.mem_append.1 hl with hl | hl
        · have := hok l hl x hx; omega
        · have : l = F[i] := by simpa using hl
          rw [this] at hx; exact h2 x hx
      generalize F[i] = l at hc hq hl hnx
      obtain ⟨hl1, hl2⟩ := hl
      obtain ⟨m, hm⟩ : ∃ m, m = l.length := ⟨_, rfl⟩
      rw [← hm] at hc hl2
      replace hm := Lib.hid hm
      replace hq := Lib.hid hq
      replace hl1 := Lib.hid hl1
      replace hnx := Lib.hid hnx
      replace hok := Lib.hid hok
      go_wp2_with fail
      go_loopw [3, 16] (fun v3 v16 wq => ∃ (j v' : Nat), v16 = .int .i64 (j : Int) ∧ v3 = .int .i64 (v' : Int) ∧ j ≤ m ∧ v ≤ v' ∧ v' ≤ 8 ∧ (∀ x ∈ l.take j, x.natAbs ≤ v') ∧ wq = wr) (fun _ v16 _ => m - (intOf v16).toNat)
      case atStart => exact ⟨0, v, rfl, rfl, Nat.zero_le _, Nat.le_refl _, hv, by simp, rfl⟩
      case round =>
        obtain ⟨j, v', rfl, rfl, hj, hv1, hv2, hok2, hwq⟩ := hrel
        subst hwq
        by_cases hjt : j < m
        · have hjI : (j : Int) < (m : Int) := by omega
          have hjl : j < l.length := by have := hm.out; omega
          obtain ⟨b, rfl, hc2⟩ := hq.out j _ (List.getElem?_eq_getElem hjl)
          have hx8 := hl1.out _ (List.getElem_mem hjl)
          have hO := fun w => Of_c l[j] w (by omega)
          have hnx2 : ∀ v'', v' ≤ v'' → l[j].natAbs ≤ v'' → ∀ x ∈ l.take (j + 1), x.natAbs ≤ v'' := by
            intro v'' h1 h2 x hx
            rw [List.take_succ_eq_append_getElem hjl] at hx
            rcases List.mem_append.1 hx with hx | hx
            · have := hok2 x hx; omega
            · have : x = l[j] := by simpa using hx
              rw [this]; exact h2
          generalize l[j] = x at hc2 hx8 hO hnx2
          obtain ⟨y, hy⟩ : ∃ y, y = x.natAbs := ⟨_, rfl⟩
          rw [← hy] at hx8 hO hnx2
          have hmx : max (v' : Int) (y : Int) = ((max v' y : Nat) : Int) := by omega
          replace hy := Lib.hid hy
          replace hok2 := Lib.hid hok2
          replace hnx2 := Lib.hid hnx2
          go_wp2_with (go_at_call 20; refine Calls.ret (hO _) ?_)
          exact ⟨⟨j + 1, max v' y, by go_num, by go_num, by omega, by omega, by omega, hnx2.out _ (by omega) (by omega), trivial⟩, by simp [intOf]; omega⟩
        · have hjI : ¬ ((j : Int) < (m : Int)) := by omega
          have e : j = l.length := by have := hm.out; omega
          rw [e, List.take_length] at hok2
          have hn9 := hnx.out v' hv1 hok2
          replace hok2 := Lib.hid hok2
          replace hn9 := Lib.hid hn9
          clear e
          go_wp2_with fail
          exact ⟨⟨i + 1, v', by go_num, rfl, by omega, hv2, hn9.out, trivial⟩, by simp [intOf]; omega⟩
    · have hiI : ¬ ((i : Int) < (n : Int)) := by omega
      have e : i = F.length := by have := hnn.out; omega
      rw [e, List.take_length] at hok
      have hfin : VsPost F wr (.returned (.int .i64 (v : Int))) wr := ⟨v, rfl, rfl, hv, hok⟩
      replace hfin := Lib.hid hfin
      replace hok := Lib.hid hok
      clear e
      go_wp2_with fail
      go_ret
      exact hfin.out

/- standing -/
theorem litsOk_len {l : List Int} (h : LitsOkP l) : l.length ≤ 9 := by
  have := h.2.2.length_le_of_subset (l₂ := List.range 9) (fun v hv => by
    obtain ⟨x, hx, rfl⟩ := List.mem_map.1 hv
    rw [List.mem_range]
    have := (h.2.1 x hx).2; omega)
  simpa using this
theorem tru_trueB {bs : List Bool} {x : Int} (h0 : x ≠ 0) : tru (fun v => bs.getD v false) (litOf x) = true ↔ trueB bs x = true := by
  unfold tru trueB
  rw [litOf_div x h0]
  have hp : litOf x % 2 = 0 ↔ 0 < x := by unfold litOf; split <;> omega
  by_cases h : 0 < x
  · rw [if_pos (hp.2 h)]
    simp [h]
  · rw [if_neg (fun e => h (hp.1 e))]
    simp [h]


def VoPost (F : List (List Int)) (w : World) (e : Ending) (w' : World) : Prop := ∃ v : Nat, e = .returned (.int .i64 (v : Int)) ∧ w' = w ∧ 1 ≤ v ∧ v ≤ 8 ∧ ∀ l ∈ F, ∀ x ∈ l, x.natAbs ≤ v
set_option maxRecDepth 100000 in
set_option maxHeartbeats 4000000 in
theorem varsOf_c {w : World} {A : Option Addr} {F : List (List Int)} {c : Nat} {m : Int} (h : CnfR w A F) (hC : CnfOkP F) (hm0 : 0 ≤ m) (hm1 : m < 256) :
    Calls Tryz.prog 8 #[.slice A F.length c, .int .u8 m] w (VoPost F w) := by
  have hV := vars_c (c := c) h (fun l hl => ⟨fun x hx => ((hC.1 l hl).2.1 x hx).2, by have := litsOk_len (hC.1 l hl); omega⟩) (by have := hC.2.2; omega)
  obtain ⟨k, rfl⟩ : ∃ k : Nat, m = (k : Int) := ⟨m.toNat, by omega⟩
  have hpos : ∀ v : Nat, (∀ l ∈ F, ∀ x ∈ l, x.natAbs ≤ v) → 1 ≤ v := by
    intro v hv
    have h0 := hC.2.1
    have hl := List.getElem_mem h0
    have hlo := hC.1 _ hl
    have hne := List.length_pos_iff.2 hlo.1
    have hx := List.getElem_mem hne
    have h1 := hv _ hl _ hx
    have h2 := (hlo.2.1 _ hx).1
    omega
  generalize F.length = fn at hV
  replace hV := Lib.hid hV
  replace hpos := Lib.hid hpos
  replace hC := Lib.hid hC
  clear h
  go_enter Tryz.func8, Tryz.ntmps8
  go_wp2_with (go_at_call 13; refine hV.out.mono ?_; rintro e w1 ⟨v, rfl, hw, hv8, hvl⟩; rw [hw]; clear hw; replace hvl := Lib.hid hvl)
  go_ret
  have hmn : min (8 : Int) ((v : Int) + (k : Int) % 3) = ((min 8 (v + k % 3) : Nat) : Int) := by omega
  refine ⟨min 8 (v + k % 3), ?_, rfl, ?_, by omega, fun l hl x hx => ?_⟩
  · show Ending.returned (.int .i64 (min (8 : Int) ((v : Int) + (k : Int) % 3))) = _
    rw [hmn]
  · have := hpos.out v hvl.out; omega
  · have := hvl.out l hl x hx; have := ((hC.out.1 l hl).2.1 x hx).2; omega
def RiPost (w : World) (e : Ending) (w' : World) : Prop := e = .returned (.bool true) ∧ Old w w'
set_option maxRecDepth 100000 in
set_option maxHeartbeats 4000000 in
theorem right_sat_c {w : World} {g0 g c0 c nv : Nat} {F : List (List Int)} {bs : List Bool} (h : CstR w g F) (hF : ∀ l ∈ F, (∀ x ∈ l, x ≠ 0 ∧ x.natAbs ≤ nv) ∧ l.length ≤ 1000) (hn : F.length ≤ 1000) (hb : bs.length = nv) (h8 : nv ≤ 8) (hP : BoolsR w (some ⟨g0, 0, none⟩) bs) (hok : ∀ l ∈ F, holdsB bs l = true) :
    Calls Tryz.prog 10 #[.int .i64 1, .slice (some ⟨g0, 0, none⟩) nv c0, .slice (some ⟨g, 0, none⟩) F.length c, .int .i64 (nv : Int)] w (RiPost w) := by
  have hA := allHold_c (c := c) (cb := c0) h hP hb h8 hF hn
  replace hok := Lib.hid hok
  generalize F.length = fn at hA
  replace hA := Lib.hid hA
  have hnn : ((nv : Int) == (nv : Int)) = true := by simp
  clear h hP hb hF hn
  go_enter Tryz.func10, Tryz.ntmps10
  go_wp2_with (go_at_call 18; refine hA.out.mono ?_; rintro e w2 ⟨r, rfl, ho, hr⟩; obtain rfl : r = true := hr.2 hok.out; replace ho := Lib.hid ho; clear hr)
  go_ret
  exact ⟨rfl, ho.out⟩
set_option maxRecDepth 100000 in
set_option maxHeartbeats 4000000 in
theorem right_unsat_c {w : World} {g c nv : Nat} {F : List (List Int)} (h : CstR w g F) (hF : ∀ l ∈ F, (∀ x ∈ l, x ≠ 0 ∧ x.natAbs ≤ nv) ∧ l.length ≤ 1000) (hn : F.length ≤ 1000) (h1 : 1 ≤ nv) (h8 : nv ≤ 8) (hno : ∀ bs : List Bool, ¬ ∀ l ∈ F, holdsB bs l = true) :
    Calls Tryz.prog 10 #[.int .i64 2, .slice none 0 0, .slice (some ⟨g, 0, none⟩) F.length c, .int .i64 (nv : Int)] w (RiPost w) := by
  have hM := models_c (c := c) h1 h8 h hF hn
  have hM2 : Calls Tryz.prog 19 #[.slice (some ⟨g, 0, none⟩) F.length c, .int .i64 (nv : Int)] w fun e w' => ∃ p cap, e = .returned (.slice p 0 cap) ∧ Old w w' := by
    refine hM.mono ?_
    rintro e w' ⟨V, Vs, rfl, ho, hR, hI, _⟩
    have hVs : Vs = [] := by
      cases Vs with
      | nil => rfl
      | cons p Vs => exact (hno _ (hI.ok p (by simp)).2.1).elim
    subst hVs
    obtain ⟨p, cap, hV⟩ := hR.shape ()
    have hV : V = .slice p 0 cap := hV
    exact ⟨p, cap, by rw [hV], ho⟩
  generalize F.length = fn at hM2
  replace hM2 := Lib.hid hM2
  replace hno := Lib.hid hno
  clear h hF hn hM
  go_enter Tryz.func10, Tryz.ntmps10
  go_wp2_with (go_at_call 19; refine hM2.out.mono ?_; rintro e w2 ⟨p, cap, rfl, ho⟩; replace ho := Lib.hid ho)
  go_ret
  exact ⟨rfl, ho.out⟩
end Go.Proofs.YtiimddkopiknpaaGreatDoor

/-
  Model, answer; New and Solve where the problem cannot be satisfied.
-/
namespace Go.Proofs.YtiimddkopiknpaaGreatDoor
open Go.RowKit

theorem zc_size : Tryz.zeroCells77.size = 5102 := by kernel_rfl
def N2Post (w : World) (e : Ending) (w' : World) : Prop := ∃ sb, e = .returned (.pointer (some ⟨sb, 0, none⟩)) ∧ Old w w' ∧ w'.cell? ⟨sb, 5, none⟩ = some (.int .u8 2)
set_option maxRecDepth 100000 in
set_option maxHeartbeats 4000000 in
theorem new2_c {pb : Nat} {w : World} (h : w.cell? ⟨pb, 2, none⟩ = some (.int .u8 2)) : Calls Tryz.prog 15 #[.pointer (some ⟨pb, 0, none⟩)] w (N2Post w) := by
  have hfin : N2Post w (.returned (.pointer (some ⟨w.heap.size, 0, none⟩))) (w.alloc (.cells (Tryz.zeroCells77.setIfInBounds 5 (.int .u8 2)) 77)) := by
    refine ⟨_, rfl, (Old.refl w).alloc _, ?_⟩
    rw [World.cell?_alloc_at (w := w) _ _ _ 5 rfl]
    show (Tryz.zeroCells77.setIfInBounds 5 (Value.int .u8 2))[5]? = _
    rw [Array.getElem?_setIfInBounds, if_pos rfl, if_pos (by rw [zc_size]; omega)]
  replace hfin := Lib.hid hfin
  go_enter Tryz.func15, Tryz.ntmps15
  go_wp2_with fail
  go_ret
  exact hfin.out
set_option maxRecDepth 100000 in
theorem solve2_c {sb : Nat} {w : World} (h : w.cell? ⟨sb, 5, none⟩ = some (.int .u8 2)) : Calls Tryz.prog 21 #[.pointer (some ⟨sb, 0, none⟩)] w fun e w' => e = .returned (.int .u8 2) ∧ w' = w := by
  go_enter Tryz.func21, Tryz.ntmps21
  go_wp2_with fail
  go_ret
  exact ⟨rfl, rfl⟩

theorem fresh_rep (w : World) (T : TypeId) (n : Nat) (z : Value) (hn : n ≤ maxLen) : Tr eR w (fun _ : Unit => (⟨T, 1, .slice (some ⟨w.heap.size, 0, none⟩) n n, n, List.replicate n z⟩ : Row)) (w.alloc (.cells (Array.replicate n z) T)) := by
  refine ⟨⟨fun _ => own_rep w T n z hn, fun _ _ _ _ _ => rfl⟩, (Old.refl w).alloc _, ?_⟩
  rintro b ⟨_, hb⟩
  have hb : some w.heap.size = some b := hb
  injection hb with hb
  exact .inr (by omega)
/-- the model, as it is told -/
def MlPost (nv : Nat) (vs : List Int) (w : World) (e : Ending) (w' : World) : Prop :=
  ∃ (g : Nat) (bs : List Bool), e = .returned (.slice (some ⟨g, 0, none⟩) nv nv) ∧ bs.length = nv ∧ (∀ i, i < nv → bs.getD i false = decide (0 < vs.getD i 0)) ∧ Tr eR w (bsR (.slice (some ⟨g, 0, none⟩) nv nv) bs) w'
theorem infoB3 : (Tryz.prog.info? 4).map (fun i => (i.zero, i.size, i.bytes)) = some (some (.bool false), 1, 1) := by kernel_rfl
set_option maxRecDepth 100000 in
set_option maxHeartbeats 4000000 in
theorem model_c {sb mb nv : Nat} {vs : List Int} {w : World} (h16 : w.cell? ⟨sb, 16, none⟩ = some (.slice (some ⟨mb, 0, none⟩) nv nv)) (h4 : w.cell? ⟨sb, 4, none⟩ = some (.int .i64 (nv : Int))) (hm : ∀ i, i < nv → w.cell? ⟨mb, i, none⟩ = some (.int .i64 (vs.getD i 0))) (hn : nv ≤ 1000) :
    Calls Tryz.prog 22 #[.pointer (some ⟨sb, 0, none⟩)] w (MlPost nv vs w) := by
  have hnil := fun w => Go.run_eql_slice_nil (P := Tryz.prog) w 62 84 (some ⟨mb, 0, none⟩) nv nv Tryz.underlying62
  simp only [Option.isNone_some] at hnil
  have hO : Old w (w.alloc (.cells (Array.replicate nv (.bool false)) 4)) := (Old.refl w).alloc _
  have h16b := hO.cell h16
  have mk1 := make_rep (P := Tryz.prog) 27 4 (.bool false) 1 Tryz.underlying27 infoB3 rfl nv (by omega) (by unfold maxLen; omega)
  have hT0 : Tr eR w (bsR (.slice (some ⟨w.heap.size, 0, none⟩) nv nv) (List.replicate nv false)) (w.alloc (.cells (Array.replicate nv (.bool false)) 4)) := by
    have := fresh_rep w 4 nv (.bool false) (by unfold maxLen; omega)
    have e : (fun _ : Unit => (⟨4, 1, .slice (some ⟨w.heap.size, 0, none⟩) nv nv, nv, List.replicate nv (.bool false)⟩ : Row)) = bsR (.slice (some ⟨w.heap.size, 0, none⟩) nv nv) (List.replicate nv false) := by
      funext _; unfold bsR; simp
    rw [e] at this; exact this
  replace hm := Lib.hid hm
  replace hT0 := Lib.hid hT0
  obtain ⟨g, hg⟩ : ∃ g, g = w.heap.size := ⟨_, rfl⟩
  go_enter Tryz.func22, Tryz.ntmps22
  go_wp2_with fail
  go_loopw [22] (fun v22 wr => ∃ (i : Nat) (bs : List Bool), v22 = .int .i64 (i : Int) ∧ i ≤ nv ∧ bs.length = nv ∧ (∀ j, j < i → bs.getD j false = decide (0 < vs.getD j 0)) ∧ Tr eR w (bsR (.slice (some ⟨w.heap.size, 0, none⟩) nv nv) bs) wr) (fun v22 _ => nv - (intOf v22).toNat)
  case atStart => exact ⟨0, _, rfl, Nat.zero_le _, List.length_replicate, fun j hj => by omega, hT0.out⟩
  case round =>
    clear hT0
    obtain ⟨i, bs, rfl, hi, hb, hok, hT⟩ := hrel
    by_cases hlt : i < nv
    · have hiI : (i : Int) < (nv : Int) := by omega
      have c1 := Old.cell (hT.fr : Old w wr) (hm.out i hlt)
      have c2 := hT.rows.cell () (b := w.heap.size) rfl (j := i) (u := .bool (bs.getD i false)) (by
        show (bs.map Value.bool)[i]? = _
        rw [List.getElem?_map, List.getElem?_eq_getElem (by omega), List.getD_eq_getElem?_getD, List.getElem?_eq_getElem (by omega)]
        rfl)
      have f2 := hT.rows.frozen () (b := w.heap.size) rfl i
      have hx : ∀ b : Bool, Tr eR w (bsR (.slice (some ⟨w.heap.size, 0, none⟩) nv nv) (bs.set i b)) (wr.setCell ⟨w.heap.size, i, none⟩ (.bool b)) := fun b => by
        refine hT.trans (hT.rows.set () rfl i (.bool b) ?_ (fun r hr => (hr rfl).elim))
        show (⟨_, _, _, _, _⟩ : Row) = ⟨_, _, _, _, _⟩
        simp [bsR, List.map_set]
      obtain ⟨x, hxv⟩ : ∃ x, x = vs.getD i 0 := ⟨_, rfl⟩
      rw [← hxv] at c1
      replace hxv := Lib.hid hxv
      replace hT := Lib.hid hT
      replace hok := Lib.hid hok
      replace hx := Lib.hid hx
      replace hb := Lib.hid hb
      go_wp2_with fail
      refine ⟨⟨i + 1, bs.set i (decide (0 < x)), by go_num, by omega, by rw [List.length_set]; exact hb.out, fun j hj => ?_, hx.out _⟩, by simp [intOf]; omega⟩
      rw [List.getD_eq_getElem?_getD, List.getElem?_set]
      by_cases e : i = j
      · subst e
        rw [if_pos rfl, if_pos (by rw [hb.out]; exact hlt), hxv.out]
        rfl
      · rw [if_neg e, ← List.getD_eq_getElem?_getD]
        exact hok.out j (by omega)
    · have hiI : ¬ ((i : Int) < (nv : Int)) := by omega
      have e : i = nv := by omega
      subst e
      have hfin : MlPost i vs w (.returned (.slice (some ⟨w.heap.size, 0, none⟩) i i)) wr := ⟨_, bs, rfl, hb, hok, hT⟩
      replace hfin := Lib.hid hfin
      replace hT := Lib.hid hT
      replace hok := Lib.hid hok
      replace hb := Lib.hid hb
      go_wp2_with fail
      go_ret
      exact hfin.out
end Go.Proofs.YtiimddkopiknpaaGreatDoor

/-
  answer; impl.Solve.
-/
namespace Go.Proofs.YtiimddkopiknpaaGreatDoor
open Go.RowKit

theorem Found.old {F : List (List Nat)} {nv sb : Nat} {w w' : World} (h : Found F nv sb w) (ho : Old w w') : Found F nv sb w' := by
  obtain ⟨mb, vs, h1, h2, h3, h4, h5⟩ := h
  exact ⟨mb, vs, h1, ho.cell h2, ho.cell h3, fun i hi => ho.cell (h4 i hi), h5⟩
def AnPost (F : List (List Nat)) (nv : Nat) (w0 : World) (e : Ending) (w : World) : Prop :=
  Old w0 w ∧ ((e = .returned (.tuple #[.int .i64 2, .slice none 0 0]) ∧ ∀ σ : Nat → Bool, ¬ ∀ C ∈ F, ∃ x ∈ C, tru σ x = true) ∨
  (∃ (g c : Nat) (bs : List Bool), e = .returned (.tuple #[.int .i64 1, .slice (some ⟨g, 0, none⟩) nv c]) ∧ bs.length = nv ∧ BoolsR w (some ⟨g, 0, none⟩) bs ∧ ∀ C ∈ F, ∃ x ∈ C, tru (fun v => bs.getD v false) x = true))
theorem tru_congr {σ τ : Nat → Bool} {x n : Nat} (h : ∀ v, v < n → σ v = τ v) (hx : x / 2 < n) : tru σ x = tru τ x := by
  unfold tru; rw [h _ hx]
theorem Found.model {F : List (List Nat)} {nv sb : Nat} {w : World} (h : Found F nv sb w) (hn : nv ≤ 1000) (hF : ∀ C ∈ F, ∀ x ∈ C, x < nv * 2) :
    Calls Tryz.prog 22 #[.pointer (some ⟨sb, 0, none⟩)] w fun e w' => ∃ (g : Nat) (bs : List Bool), e = .returned (.slice (some ⟨g, 0, none⟩) nv nv) ∧ bs.length = nv ∧ Tr eR w (bsR (.slice (some ⟨g, 0, none⟩) nv nv) bs) w' ∧ ∀ C ∈ F, ∃ x ∈ C, tru (fun v => bs.getD v false) x = true := by
  obtain ⟨mb, vs, h1, h2, h3, h4, h5⟩ := h
  refine (model_c h2 h3 h4 hn).mono ?_
  rintro e w' ⟨g, bs, rfl, hb, hv, hT⟩
  refine ⟨g, bs, rfl, hb, hT, fun C hC => ?_⟩
  obtain ⟨x, hx, ht⟩ := h5 C hC
  refine ⟨x, hx, ?_⟩
  rw [← ht]
  exact tru_congr (n := nv) (fun v hv' => hv v hv') (by have := hF C hC x hx; omega)
theorem answer2_c {F : List (List Nat)} {nv sb : Nat} {wb w : World} (h : w.cell? ⟨sb, 5, none⟩ = some (.int .u8 2)) (ho : Old wb w) (hU : ∀ σ : Nat → Bool, ¬ ∀ C ∈ F, ∃ x ∈ C, tru σ x = true) : Calls Tryz.prog 14 #[.pointer (some ⟨sb, 0, none⟩)] w (AnPost F nv wb) := by
  have hs := solve2_c h
  replace ho := Lib.hid ho
  replace hU := Lib.hid hU
  go_enter Tryz.func14, Tryz.ntmps14
  go_wp2_with (go_at_call 21; refine Calls.ret hs ?_)
  go_returns
  exact ⟨ho.out, .inl ⟨rfl, hU.out⟩⟩
set_option maxRecDepth 100000 in
set_option maxHeartbeats 4000000 in
theorem answer_c {F : List (List Nat)} {u0 nv : Nat} {s0 : St} {wb w0 : World} (h : SG F u0 nv 0 1 0 s0 w0 s0 w0) (hst : s0.status < 2) (hnc : s0.nconf = 0) (hT : Tr eR wb s0.row w0) (hF : ∀ C ∈ F, ∀ x ∈ C, x < nv * 2) :
    Calls Tryz.prog 14 #[.pointer (some ⟨s0.sb, 0, none⟩)] w0 (AnPost F nv wb) := by
  obtain ⟨iN, hiN, hz0, hz1, hz2⟩ := info_parts infoB3
  have hn8 := h.hg.gp.n8
  have hn1 := h.hg.gp.n1
  have hs := Lib.hid (solve_c h hst hnc)
  have hold : ∀ w1, Fr (Own s0.row) w0 w1 → Old wb w1 := fun w1 hf => Fr.trans hT.fr hf (fun b hb ho => by
    rcases hT.own b ho with h' | h'
    · exact h'
    · omega)
  replace hold := Lib.hid hold
  replace hF := Lib.hid hF
  clear h hst hnc hT
  go_enter Tryz.func14, Tryz.ntmps14
  go_upto_if 8 with (go_at_call 21; refine hs.out.mono ?_; rintro e w1 ⟨hfr, hcase⟩; rcases hcase with ⟨rfl, hU⟩ | ⟨rfl, hFd⟩)
  · replace hU := Lib.hid hU
    have ho1 := Lib.hid (hold.out _ hfr)
    replace hfr := Lib.hid hfr
    go_wp2_with fail
    go_returns
    exact ⟨ho1.out, .inl ⟨rfl, hU.out⟩⟩
  · have ho1 := Lib.hid (hold.out _ hfr)
    have hE := fresh_any w1 4 1
    have hmd := Lib.hid ((hFd.old hE.fr).model (by omega) hF.out)
    replace hE := Lib.hid hE
    replace hfr := Lib.hid hfr
    replace hFd := Lib.hid hFd
    go_wp2_with (first
      | (go_at_call 22; refine hmd.out.mono ?_; rintro e w2 ⟨g, bs, rfl, hb, hT2, hsat⟩; replace hsat := Lib.hid hsat)
      | (at_builtin; apply keepHid))
    refine Lib.hid ?_
    have hE2 := hE.out.old hT2.fr
    refine wpList_append_rows rfl _ _ 27 rfl 4 iN (.bool false) 1 1 Tryz.underlying27 hiN hz0 hz1 hz2 rfl (by decide) (.slice (some ⟨w1.heap.size, 0, none⟩) 0 0) 0 [] rfl (hE2.rows.own ()) ⟨g, 0, none⟩ nv nv (bs.map .bool) rfl (by rw [List.length_map, hb, Nat.mul_one]) (fun j u hj => by rw [Addr.add_lit, Nat.zero_add]; exact hT2.rows.cell () (b := g) rfl hj) (by intro u hu; obtain ⟨y, _, rfl⟩ := List.mem_map.1 hu; rfl) (by unfold maxLen; omega) (by omega) ?_
    intro V' w4 ho4 hg hf
    have ho5 : w4.ownsRow 0 4 1 V' bs.length (bs.map .bool) := by
      rw [Nat.zero_add, List.nil_append, ← hb] at ho4; exact ho4
    have tg := hE2.trans (hE2.rows.grow (ρ' := bsR V' bs) () ho5 hg hf rfl (fun r hr => (hr rfl).elim))
    obtain ⟨g4, cap4, rfl, _, _⟩ := own_form ho5 (by omega)
    have hBR : BoolsR w4 (some ⟨g4, 0, none⟩) bs := fun j b hj => ⟨_, rfl, by
      rw [Addr.add_lit, Nat.zero_add]
      exact tg.rows.cell () (b := g4) rfl (by show (bs.map Value.bool)[j]? = _; rw [List.getElem?_map, hj]; rfl)⟩
    have hfin : AnPost F nv wb (.returned (.tuple #[.int .i64 1, .slice (some ⟨g4, 0, none⟩) nv cap4])) w4 := ⟨ho1.out.trans tg.fr, .inr ⟨g4, cap4, bs, rfl, hb, hBR, hsat.out⟩⟩
    rw [hb]
    clear ho4 ho5 hg hf tg hE2 hT2 hBR
    replace hb := Lib.hid hb
    replace hfin := Lib.hid hfin
    go_wp2_with fail
    go_returns
    exact hfin.out
def SoPost (F : List (List Int)) (nv : Nat) (w0 : World) (e : Ending) (w : World) : Prop := AnPost (fl F) nv w0 e w
theorem AnPost.base {F : List (List Nat)} {nv : Nat} {wb w0 w : World} {e : Ending} (ho : Old wb w0) (h : AnPost F nv w0 e w) : AnPost F nv wb e w := ⟨ho.trans h.1, h.2⟩
theorem fl_lt {F : List (List Int)} {nv : Nat} (hF : FOk nv F) : ∀ C ∈ fl F, ∀ x ∈ C, x < nv * 2 := by
  intro C hC x hx
  obtain ⟨l, hl, rfl⟩ := List.mem_map.1 hC
  obtain ⟨y, hy, rfl⟩ := List.mem_map.1 hx
  have := hF.ok l hl y hy
  exact litOf_lt this.1 this.2
set_option maxRecDepth 100000 in
set_option maxHeartbeats 4000000 in
theorem implSolve_c {w : World} {A : Option Addr} {F : List (List Int)} {c nv : Nat} (h : CnfR w A F) (hF : FOk nv F) (hF0 : 0 < F.length) (hFn : F.length ≤ 1000) (hFl : ∀ l ∈ F, l.length ≤ 1000) (hnv0 : 0 < nv) (hnv1 : nv ≤ 8) :
    Calls Tryz.prog 9 #[.slice A F.length c, .int .i64 (nv : Int)] w (AnPost (fl F) nv w) := by
  have hC := copied_c (c := c) h hF0 hFn (fun l hl => ⟨hF.ne l hl, hFl l hl⟩)
  obtain ⟨fn, hfn⟩ : ∃ fn, fn = F.length := ⟨_, rfl⟩
  rw [← hfn] at hC ⊢
  replace hfn := Lib.hid hfn
  replace hC := Lib.hid hC
  replace hF := Lib.hid hF
  replace hFl := Lib.hid hFl
  replace hF0 := Lib.hid hF0
  replace hFn := Lib.hid hFn
  clear h
  go_enter Tryz.func9, Tryz.ntmps9
  go_wp2_with (first
    | (go_at_call 17; refine hC.out.mono ?_; rintro e w1 ⟨g, ca, rfl, hA, ho⟩; have hP := Lib.hid (parseNb_c (n := F.length) (ca := ca) hF.out rfl hA hnv0 (by omega)); replace hA := Lib.hid hA; replace ho := Lib.hid ho)
    | (go_at_call 16; refine hP.out.mono ?_; rintro e w2 ⟨p, rfl, hT, hpn, hp⟩; replace hpn := Lib.hid hpn; replace hp := Lib.hid hp; replace hT := Lib.hid hT)
    | (go_at_call 15
       have hN : Calls Tryz.prog 15 #[.pointer (some ⟨p.pb, 0, none⟩)] w2 (fun e w3 => ∃ sb, e = .returned (.pointer (some ⟨sb, 0, none⟩)) ∧ Calls Tryz.prog 14 #[.pointer (some ⟨sb, 0, none⟩)] w3 (AnPost (fl F) nv w1)) := by
         rcases hp.out with ⟨hst, hno⟩ | ⟨hPF, hmv⟩
         · have f2 : w2.cell? ⟨p.pb, 2, none⟩ = some (.int .u8 (p.st : Int)) := PSt.pbc hT.out.rows (j := 2) rfl
           rw [hst] at f2
           refine (new2_c f2).mono ?_
           rintro e w3 ⟨sb, rfl, ho3, h5⟩
           refine ⟨sb, rfl, answer2_c h5 (Old.trans hT.out.fr ho3) (fun σ hσ => hno _ (Con.tru σ) fun C hC => Clo.tru.2 (hσ C hC))⟩
         · refine (new_c hT.out.rows hPF (by rw [hpn.out]; exact hnv0) (by rw [hpn.out]; omega) hmv).mono ?_
           rintro e w3 ⟨s0, rfl, hO⟩
           have k := hO.kp
           unfold St.keep at k
           simp only [Prod.mk.injEq] at k
           obtain ⟨_, _, _, k4, _, _, k7, _⟩ := k
           have hlF : (fl F).length ≤ 1000 := by unfold fl; rw [List.length_map]; exact hFn.out
           have hS := hO.sg hPF (by rw [hpn.out]; exact hnv0) (by rw [hpn.out]; exact hnv1) hlF
           rw [hpn.out] at hS
           exact ⟨s0.sb, rfl, answer_c hS (by rw [k4, hPF.st]; split <;> omega) k7 (hT.out.trans hO.tr) (fl_lt hF.out)⟩
       refine hN.mono ?_
       rintro e w3 ⟨sb, rfl, hAn⟩
       replace hAn := Lib.hid hAn
       clear hN)
    | (go_at_call 14; refine hAn.out.mono ?_; intro e w4 hp4; have hp5 := Lib.hid (hp4.base ho.out); rcases hp4 with ⟨_, ⟨rfl, _⟩ | ⟨g4, c4, bs4, rfl, _⟩⟩))
  all_goals
    go_returns
    exact hp5.out
end Go.Proofs.YtiimddkopiknpaaGreatDoor
