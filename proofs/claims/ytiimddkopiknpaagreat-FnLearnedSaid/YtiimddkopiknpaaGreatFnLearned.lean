/-
  The given statement Rows.FnLearnedSaid holds: for every two arguments that can be read (a list of lists of numbers and a list of numbers) the law FnLearned returns true and the arguments read afterwards as they read before; no condition.
-/
import Derived.Test.YtiimddkopiknpaaGreatA17
import Derived.Test.YtiimddkopiknpaaGreatRows
import Derived.WalkKit
import Derived.ProofKit
import Derived.OpenShut
import Derived.ShutString
import Derived.ChangeOld
import Derived.Below
import Derived.SizedLaws
import Derived.Deep.Matrix
set_option linter.unusedVariables false
set_option linter.unusedSimpArgs false

/-
  FnLearned.
-/
namespace Go.Proofs.YtiimddkopiknpaaGreat
open Go.RowKit

/-- the second call's clauses -/
def F2 : List (List Int) := [[-1, 2], [-1, -2]]
theorem F2_ok : FOk 2 F2 := by
  refine ⟨?_, ?_, ?_, by decide⟩
  · intro l hl; simp [F2] at hl; rcases hl with rfl | rfl <;> simp
  · intro l hl x hx
    simp [F2] at hl
    rcases hl with rfl | rfl <;> (simp at hx; rcases hx with rfl | rfl <;> decide)
  · intro l hl; simp [F2] at hl; rcases hl with rfl | rfl <;> decide
theorem fl_F2 : fl F2 = [[1, 2], [1, 3]] := by decide
/-- there is a conflict in the second call -/
theorem F2_true {w0 w : World} {e : Ending} (h : LPost F2 2 ([1].map litOf) w0 e w) : ∃ V, e = .returned (.tuple #[V, .bool true]) ∧ Old w0 w := by
  have hl : ([1] : List Int).map litOf = [0] := by decide
  rw [hl] at h
  have hn : negL 0 = 1 := by decide
  have hn1 : negL 1 = 0 := by decide
  have hn2 : negL 2 = 3 := by decide
  have hn3 : negL 3 = 2 := by decide
  have h0 : Con (fun _ => False) ∧ Clos F2 (fun _ => False) := by
    refine ⟨fun x h => h.elim, ?_⟩
    intro C hC
    rw [fl_F2] at hC
    simp at hC
    rcases hC with rfl | rfl
    · exact .inr ⟨1, by simp, 2, by simp, by decide, fun h => h, fun h => h⟩
    · exact .inr ⟨1, by simp, 3, by simp, by decide, fun h => h, fun h => h⟩
  rcases h with ⟨_, _, h | ⟨k, hk, h⟩ | ⟨τ, hc, hcl, hd⟩⟩ | ⟨V, L, h1, h2, _⟩
  · exact (h _ h0.1 h0.2).elim
  · have : k = 0 := by simp at hk; omega
    subst this
    exact (h _ h0.1 h0.2 (by simp)).elim
  · exfalso
    have t0 : τ 0 := hd 0 (by simp)
    have n1 : ¬ τ 1 := by have := hc 0 t0; rwa [hn] at this
    have c1 := hcl [1, 2] (by rw [fl_F2]; simp)
    have c2 := hcl [1, 3] (by rw [fl_F2]; simp)
    have key : ∀ y, y ≠ 1 → Clo τ [1, y] → τ y := by
      intro y hy h
      rcases h with ⟨x, hx, hx2⟩ | ⟨x, hx, z, hz, hxz, hx2, hz2⟩
      · simp at hx
        rcases hx with rfl | rfl
        · exact (n1 hx2).elim
        · exact hx2
      · simp at hx hz
        rcases hx with rfl | rfl
        · rw [hn1] at hx2; exact (hx2 t0).elim
        · rcases hz with rfl | rfl
          · rw [hn1] at hz2; exact (hz2 t0).elim
          · exact (hxz rfl).elim
    have t2 := key 2 (by decide) c1
    have t3 := key 3 (by decide) c2
    have := hc 2 t2
    rw [hn2] at this
    exact this t3
  · exact ⟨V, h1, h2⟩

theorem tru_trueB {bs : List Bool} {x : Int} (h0 : x ≠ 0) : tru (fun v => bs.getD v false) (litOf x) = true ↔ trueB bs x = true := by
  unfold tru trueB
  rw [litOf_div x h0]
  have hp : litOf x % 2 = 0 ↔ 0 < x := by unfold litOf; split <;> omega
  by_cases h : 0 < x
  · rw [if_pos (hp.2 h)]
    simp [h]
  · rw [if_neg (fun e => h (hp.1 e))]
    simp [h]

theorem ints_alloc (w : World) (l : List Int) {b : Nat} (hb : b = w.heap.size) : IntsR (w.alloc (.cells (l.map i64).toArray 3)) (some ⟨b, 0, none⟩) l := by
  intro j x hj
  refine ⟨_, rfl, ?_⟩
  rw [Addr.add_lit, Nat.zero_add, World.cell?_alloc_at (w := w) _ _ _ j hb]
  simp [hj, i64]
theorem second_c (w : World) : Calls Tryz.prog 9 #[.slice (some ⟨w.heap.size + 1 + 1, 0, none⟩) 2 2, .int .i64 2, .slice (some ⟨w.heap.size + 1 + 1 + 1, 0, none⟩) 1 1]
    ((((w.alloc (.cells #[.int .i64 (-1), .int .i64 2] 3)).alloc (.cells #[.int .i64 (-1), .int .i64 (-2)] 3)).alloc (.cells #[.slice (some ⟨w.heap.size, 0, none⟩) 2 2, .slice (some ⟨w.heap.size + 1, 0, none⟩) 2 2] 23)).alloc (.cells #[.int .i64 1] 3))
    (LPost F2 2 ([1].map litOf) ((((w.alloc (.cells #[.int .i64 (-1), .int .i64 2] 3)).alloc (.cells #[.int .i64 (-1), .int .i64 (-2)] 3)).alloc (.cells #[.slice (some ⟨w.heap.size, 0, none⟩) 2 2, .slice (some ⟨w.heap.size + 1, 0, none⟩) 2 2] 23)).alloc (.cells #[.int .i64 1] 3))) := by
  have a1 := ints_alloc w [-1, 2] rfl
  have a2 := ints_alloc (w.alloc (.cells #[.int .i64 (-1), .int .i64 2] 3)) [-1, -2] (b := w.heap.size + 1) (by simp)
  have a4 := ints_alloc (((w.alloc (.cells #[.int .i64 (-1), .int .i64 2] 3)).alloc (.cells #[.int .i64 (-1), .int .i64 (-2)] 3)).alloc (.cells #[.slice (some ⟨w.heap.size, 0, none⟩) 2 2, .slice (some ⟨w.heap.size + 1, 0, none⟩) 2 2] 23)) [1] (b := w.heap.size + 1 + 1 + 1) (by simp)
  have c3 : ∀ j, (((w.alloc (.cells #[.int .i64 (-1), .int .i64 2] 3)).alloc (.cells #[.int .i64 (-1), .int .i64 (-2)] 3)).alloc (.cells #[.slice (some ⟨w.heap.size, 0, none⟩) 2 2, .slice (some ⟨w.heap.size + 1, 0, none⟩) 2 2] 23)).cell? ⟨w.heap.size + 1 + 1, j, none⟩ = #[.slice (some ⟨w.heap.size, 0, none⟩) 2 2, .slice (some ⟨w.heap.size + 1, 0, none⟩) 2 2][j]? := fun j => World.cell?_alloc_at _ _ _ j (by simp)
  refine learned_c (c := 2) (d := 1) (nv := 2) (F := F2) (ds := [1]) ?_ F2_ok (by decide) (by decide) ?_ a4 (by simp) (by simp) ?_ (by omega) (by omega)
  · intro i l hl
    match i, hl with
    | 0, hl =>
      have : l = [-1, 2] := by simpa [F2] using hl.symm
      subst this
      exact ⟨_, some ⟨w.heap.size, 0, none⟩, 2, rfl, by rw [Addr.add_lit]; exact ((Old.refl _).alloc _).cell (c3 0), by decide, ((a1.old ((Old.refl _).alloc _)).old ((Old.refl _).alloc _)).old ((Old.refl _).alloc _)⟩
    | 1, hl =>
      have : l = [-1, -2] := by simpa [F2] using hl.symm
      subst this
      exact ⟨_, some ⟨w.heap.size + 1, 0, none⟩, 2, rfl, by rw [Addr.add_lit]; exact ((Old.refl _).alloc _).cell (c3 1), by decide, (a2.old ((Old.refl _).alloc _)).old ((Old.refl _).alloc _)⟩
    | i + 2, hl => simp [F2] at hl
  · intro l hl; simp [F2] at hl; rcases hl with rfl | rfl <;> decide
  · intro x hx; simp at hx; subst hx; decide
end Go.Proofs.YtiimddkopiknpaaGreat

/-
  FnLearned, the walk.
-/
namespace Go.Proofs.YtiimddkopiknpaaGreat
open Go.RowKit

def LawPost (w : World) (e : Ending) (w' : World) : Prop := e = .returned (.bool true) ∧ Old w w'
theorem intL_abs (y : Nat) : (intL y).natAbs = y / 2 + 1 := by unfold intL; split <;> omega

set_option maxRecDepth 100000 in
set_option maxHeartbeats 8000000 in
theorem fnLearned_c {w : World} {A B : Option Addr} {F : List (List Int)} {ds : List Int} {c d : Nat} (h : CnfR w A F) (hn : F.length ≤ maxLen) (hD : IntsR w B ds) (hdn : ds.length ≤ maxLen) :
    Calls Tryz.prog 3 #[.slice A F.length c, .slice B ds.length d] w (LawPost w) := by
  have h1 := zzFits_c (c := c) h hn
  have h2 := sumInts_c (c := c) h hn
  have h3 := fun w' (ho : Old w w') => cnfOk_c (c := c) (h.old ho) hn
  have h4 := fun w' (ho : Old w w') => litsOk_c (c := d) (hD.old ho) hdn
  obtain ⟨fn, hfn⟩ : ∃ fn, fn = F.length := ⟨_, rfl⟩
  obtain ⟨dn, hdne⟩ : ∃ dn, dn = ds.length := ⟨_, rfl⟩
  have hdn' : ds.length ≤ 9223372036854775807 := hdn
  rw [← hfn] at h1 h2 h3 ⊢
  rw [← hdne] at h4 hdn' ⊢
  replace h1 := Lib.hid h1
  replace h2 := Lib.hid h2
  replace h3 := Lib.hid h3
  replace h4 := Lib.hid h4
  replace hfn := Lib.hid hfn
  replace hdne := Lib.hid hdne
  replace h := Lib.hid h
  replace hD := Lib.hid hD
  have hend : ∀ w', Old w w' → LawPost w (.returned (.bool true)) w' := fun w' ho => ⟨rfl, ho⟩
  replace hend := Lib.hid hend
  clear hn hdn
  go_enter Tryz.func3, Tryz.ntmps3
  go_upto_region 3 with (go_at_call 4; refine h1.out.mono ?_; rintro e w1 ⟨b, rfl, hw⟩; rw [hw]; clear hw; cases b)
  · go_ret
    exact hend.out _ (Old.refl w)
  · go_ret
    exact hend.out _ (Old.refl w)
  go_upto_region 7 with (first
    | (go_at_call 6; refine h2.out.mono ?_; rintro e w1 ⟨x, rfl, hw⟩; rw [hw]; clear hw)
    | (go_at_call 5
       refine (beyond_c (x := x) (by rw [World.cell?_alloc_at (w := w) _ _ _ 0 rfl]; rfl)).mono ?_
       rintro e w1 ⟨b, rfl, hw⟩
       rw [hw]
       clear hw
       cases b)
    | (go_at_call 7; refine (h3.out _ ((Old.refl w).alloc _)).mono ?_; rintro e w2 ⟨b, rfl, ho2, hok⟩; have ho2 := Lib.hid (((Old.refl w).alloc _).trans ho2); replace hok := Lib.hid hok; cases b)
    | (go_at_call 8; refine (h4.out _ ho2.out).mono ?_; rintro e w3 ⟨b, rfl, ho3, hlo⟩; have ho3 := Lib.hid (ho2.out.trans ho3); replace hlo := Lib.hid hlo; cases b))
  · go_ret
    exact hend.out _ ho2.out
  · go_ret
    exact hend.out _ ho3.out
  · have hC := hok.out (by trivial)
    have hL := hlo.out (by trivial)
    have hFOk : FOk 8 F := ⟨fun l hl => (hC.1 l hl).1, fun l hl x hx => (hC.1 l hl).2.1 x hx, fun l hl => (hC.1 l hl).2.2, by have := hC.2.2; omega⟩
    have hll : ∀ l ∈ F, l.length ≤ 1000 := fun l hl => by have := litsOk_len (hC.1 l hl); omega
    have hLe : Calls Tryz.prog 9 #[.slice A fn c, .int .i64 8, .slice B dn d] w3 (LPost F 8 (ds.map litOf) w3) := by
      rw [hfn.out, hdne.out]
      exact learned_c (c := c) (d := d) (nv := 8) (h.out.old ho3.out) hFOk hC.2.1 (by have := hC.2.2; omega) hll (hD.out.old ho3.out) hL.1 (by have := litsOk_len hL; omega) hL.2.1 (by omega) (by omega)
    replace hC := Lib.hid hC
    replace hL := Lib.hid hL
    replace hll := Lib.hid hll
    replace hLe := Lib.hid hLe
    clear h1 h2 h3 h4 hFOk hok hlo
    go_upto_if 40 with (go_at_call 9; refine hLe.out.mono ?_; rintro e w4 (⟨rfl, ho4, hcase⟩ | ⟨V, L, rfl, ho4, hr, hge, hl1, hl2, hlv, hnd, hsnd, hno⟩))
    · have ho4 := Lib.hid (ho3.out.trans ho4)
      clear hcase hLe
      go_wp2_with (go_at_call 9; refine (second_c w4).mono ?_; intro e w5 hp; obtain ⟨V, rfl, ho5⟩ := F2_true hp; clear hp; replace ho5 := Lib.hid ho5)
      go_ret
      exact hend.out _ (ho4.out.trans ((((((Old.refl w4).alloc _).alloc _).alloc _).alloc _).trans ho5.out))
    · have ho4 := Lib.hid (ho3.out.trans ho4)
      obtain ⟨vb, vcap, hV, hvb, _, _⟩ := hr.open () (by show 0 < L.length; omega)
      have hV : V = .slice (some ⟨vb, 0, none⟩) L.length vcap := hV
      subst hV
      have hgot : IntsR w4 (some ⟨vb, 0, none⟩) (L.map intL) := by
        intro j x hj
        refine ⟨_, rfl, ?_⟩
        rw [Addr.add_lit, Nat.zero_add]
        refine hr.cell () (b := vb) rfl ?_
        show (L.map fun l => i64 (intL l))[j]? = _
        rw [List.getElem?_map] at hj ⊢
        cases hq : L[j]? with
        | none => rw [hq] at hj; cases hj
        | some y => rw [hq] at hj; cases hj; rfl
      replace hgot := Lib.hid hgot
      obtain ⟨ln, hln⟩ : ∃ ln, ln = L.length := ⟨_, rfl⟩
      rw [← hln] at hl1 hl2 ⊢
      replace hln := Lib.hid hln
      clear hge hLe hnd hvb
      replace hr := Lib.hid hr
      replace hlv := Lib.hid hlv
      replace hsnd := Lib.hid hsnd
      replace hno := Lib.hid hno
      have hcl := fun w' (ho : Old w w') => clauses_c (c := c) (h.out.old ho) (by have := hC.out.2.2; omega) hC.out.2.1
      rw [← hfn.out] at hcl
      replace hcl := Lib.hid hcl
      go_upto_region 12 with (first
        | (go_at_call 11; refine (hcl.out _ ho4.out).mono ?_; rintro e w5 ⟨g, cc, rfl, hcst, ho5⟩
           have hM := models_c (c := cc) hcst (fun l hl => ⟨(hC.out.1 l hl).2.1, hll.out l hl⟩) (by have := hC.out.2.2; omega)
           rw [← hfn.out] at hM
           replace hM := Lib.hid hM
           have ho51 := ho5
           have ho5 := Lib.hid (ho4.out.trans ho5)
           rw [← hfn.out]
           clear hcst)
        | (go_at_call 10; refine hM.out.mono ?_; rintro e w6 ⟨VM, Vs, rfl, ho6, hrm, hMI, hvl⟩
           obtain ⟨pm, cm, hVM⟩ := hrm.shape ()
           have hVM : VM = .slice pm Vs.length cm := hVM
           subst hVM
           have ho6' := Lib.hid (ho5.out.trans ho6)
           have ho46 := Lib.hid (Old.trans ho51 ho6)
           obtain ⟨vn, hvn⟩ : ∃ vn, vn = Vs.length := ⟨_, rfl⟩
           rw [← hvn] at hvl ⊢
           replace hvn := Lib.hid hvn
           replace hrm := Lib.hid hrm
           replace hMI := Lib.hid hMI))
      go_wp2_with fail
      go_loopw [54] (fun v54 wr => ∃ i : Nat, v54 = .int .i64 (i : Int) ∧ i ≤ vn ∧ Old w6 wr) (fun v54 _ => vn - (intOf v54).toNat)
      case atStart => exact ⟨0, rfl, Nat.zero_le _, Old.refl w6⟩
      case round =>
        obtain ⟨i, rfl, hi, ho⟩ := hrel
        by_cases hlt : i < vn
        · have hiI : (i : Int) < (vn : Int) := by omega
          have hil : i < Vs.length := by have := hvn.out; omega
          obtain ⟨z1, z2, gv, cv, z3, z4, _, _⟩ := hMI.out.ok _ (List.getElem_mem hil)
          obtain ⟨bm, capm, hb1, hb2, _, _⟩ := hrm.out.open () (by show 0 < Vs.length; omega)
          have hb1 : Value.slice pm Vs.length cm = .slice (some ⟨bm, 0, none⟩) Vs.length capm := hb1
          have hpm : pm = some ⟨bm, 0, none⟩ := by simp at hb1; exact hb1.1
          subst hpm
          have hcell : w6.cell? ⟨bm, i, none⟩ = some (.slice (some ⟨gv, 0, none⟩) 8 cv) := hrm.out.cell () hb2 (by
            show (Vs.map Prod.fst)[i]? = _
            rw [List.getElem?_map, List.getElem?_eq_getElem hil, ← z3]; rfl)
          have hcell := ho.cell hcell
          have hoA : Old w6 (wr.alloc (.cells #[.slice (some ⟨vb, 0, none⟩) ln vcap] 23)) := ho.alloc _
          have hcnf : CnfR (wr.alloc (.cells #[.slice (some ⟨vb, 0, none⟩) ln vcap] 23)) (some ⟨wr.heap.size, 0, none⟩) [L.map intL] := by
            intro j l hl
            match j, hl with
            | 0, hl =>
              have : l = L.map intL := by simpa using hl.symm
              subst this
              refine ⟨_, some ⟨vb, 0, none⟩, vcap, rfl, ?_, by rw [List.length_map, ← hln.out]; unfold maxLen; omega, (hgot.out.old ho46.out).old hoA⟩
              rw [Addr.add_lit, World.cell?_alloc_at (w := wr) _ _ _ 0 rfl, List.length_map, ← hln.out]; rfl
            | j + 1, hl => simp at hl
          have hH := cnfHolds_c (c := 1) (cb := cv) hcnf (z4.old hoA) z1 (by
            intro l hl
            have : l = L.map intL := by simpa using hl
            subst this
            refine ⟨fun x hx => ?_, by rw [List.length_map, ← hln.out]; omega⟩
            obtain ⟨y, hy, rfl⟩ := List.mem_map.1 hx
            have := hlv.out y hy
            exact ⟨intL_ne y, by rw [intL_abs]; omega⟩) (by simp) (by simp)
          have hall : ∀ l ∈ [L.map intL], holdsB Vs[i].2 l = true := by
            intro l hl
            have : l = L.map intL := by simpa using hl
            subst this
            obtain ⟨y, hy, hy2⟩ := hsnd.out (fun v => Vs[i].2.getD v false) (by
              intro C hC9
              obtain ⟨l, hl, rfl⟩ := List.mem_map.1 hC9
              obtain ⟨x, hx, hx2⟩ := (holdsB_iff _ _).1 (z2 l hl)
              exact ⟨litOf x, List.mem_map_of_mem hx, (tru_trueB ((hC.out.1 l hl).2.1 x hx).1).2 hx2⟩)
            refine (holdsB_iff _ _).2 ⟨intL y, List.mem_map_of_mem hy, ?_⟩
            rw [← tru_trueB (intL_ne y), litOf_intL]; exact hy2
          clear hcnf z1 z2 z3 z4 hb1 hb2
          replace hH := Lib.hid hH
          replace hall := Lib.hid hall
          replace hoA := Lib.hid hoA
          replace ho := Lib.hid ho
          go_wp2_with (go_at_call 12; refine hH.out.mono ?_; rintro e w7 ⟨r, rfl, ho7, hr7⟩; have hrt := hr7.2 hall.out; subst hrt; clear hr7; have ho7 := Lib.hid (hoA.out.trans ho7))
          exact ⟨⟨i + 1, by go_num, by omega, ho7.out⟩, by simp [intOf]; omega⟩
        · have hiI : ¬ ((i : Int) < (vn : Int)) := by omega
          have hoW := ho6'.out.trans ho
          have hPr := propagated_c (c := c) (d := d) (h.out.old hoW) hC.out.1 (by have := hC.out.2.2; omega) (hD.out.old hoW) hL.out hno.out
          rw [← hfn.out, ← hdne.out] at hPr
          replace hPr := Lib.hid hPr
          replace ho := Lib.hid ho
          replace hoW := Lib.hid hoW
          go_wp2_with (go_at_call 13; refine hPr.out.mono ?_; rintro e w7 ⟨rfl, ho7⟩; replace ho7 := Lib.hid ho7)
          go_ret
          exact hend.out _ (hoW.out.trans ho7.out)
  · go_ret
    exact hend.out _ ((Old.refl w).alloc _)
end Go.Proofs.YtiimddkopiknpaaGreat

/-
  The given statement FnLearnedSaid: for every input that can be read, the law FnLearned returns true, and the input reads as it did.
-/
namespace Go.Proofs.YtiimddkopiknpaaGreat
open Go.ChangeShapes Go.WideShapes Go.ChangeAt Go.RowKit Go.Deep

theorem law_own : ownKnob Tryz.prog.godebug = none := by kernel_rfl
theorem law_laidOut : laidOutB Tryz.prog = true := by kernel_rfl
set_option maxRecDepth 100000 in
theorem law_lifted (os : Os) (started : os.Started) (H : Type) (enc : TypeId × Value → H) :
    ReturnsInHanded {} Tryz.checked os 3 .any (Rows.fnLearnedSpec.pre6 enc Tryz.prog Tryz.f3 Rows.fnLearnedRow.domain false) (Rows.fnLearnedSpec.post enc Tryz.prog Tryz.f3 false true false false) := by
  refine returnsInHanded_of_change_sized (C := Tryz.checked) law_own started (by kernel_rfl) Tryz.func3
    (ChangeSpec.witness6 (enc := enc) (C := Tryz.checked) false ⟨#[], #[.slice none 0 0, .slice none 0 0], []⟩ 8 (by kernel_rfl) (by kernel_rfl) (by kernel_rfl) (by kernel_rfl)) ?_
  intro W base args ds gs before hval0 hW hcnd hsz0 _
  have hval : ∀ (j : Nat) t v, Tryz.f3.params[j]? = some t → args[j]? = some v → Value.okWide Tryz.prog W .any base t v := hval0
  have hW' := hW
  obtain ⟨p, q, hA0, hV, rfl, hfz, hnd⟩ := hW
  have hA : DataW.TrodAll enc Tryz.prog W 0 (fun _ => true) true Tryz.f3.params.toList args.toList ds p := hA0
  rw [Tryz.params3] at hA hval
  obtain ⟨v0, vs0, d0, ds0, p0, q0, hargs, rfl, rfl, h0, r0⟩ := trodAll_cons hA
  obtain ⟨v1, vs1, d1, ds1, p1, q1, rfl, rfl, rfl, h1, r1⟩ := trodAll_cons r0
  obtain ⟨rfl, rfl, rfl⟩ := trodAll_nil r1
  obtain rfl : args = #[v0, v1] := by cases args; simp_all
  obtain ⟨rfl, rfl⟩ := trodVars_none hV
  obtain ⟨a0, len0, cap0, rfl⟩ := okWide_slice Tryz.underlying22 (hval 0 22 v0 rfl rfl)
  obtain ⟨a1, len1, cap1, rfl⟩ := okWide_slice Tryz.underlying23 (hval 1 23 v1 rfl rfl)
  have k0 := h0
  have k1 := h1
  have lt0 : ∀ x ∈ p0, x.block < W.heap.size := by obtain ⟨m, hm⟩ := k0; exact DataW.trod_lt m _ _ _ hm
  have lt1 : ∀ x ∈ p1, x.block < W.heap.size := by obtain ⟨m, hm⟩ := k1; exact DataW.trod_lt m _ _ _ hm
  obtain ⟨F, hFl, hFm, hFR⟩ : ∃ F : List (List Int), F.length = len0 ∧ len0 ≤ maxLen ∧ CnfR W a0 F := by
    obtain ⟨fuel, hf⟩ := h0
    rcases open_int_rows Tryz.underlying22 Tryz.underlying23 Tryz.underlying3 (by kernel_rfl) (by kernel_rfl) hf with ⟨hcs, _⟩ | ⟨x, l, c, A, L, C, Z, hcs, _, hl, hm, _, hc⟩
    · simp [Value.cells] at hcs
      obtain ⟨rfl, rfl, rfl⟩ := hcs
      exact ⟨[], rfl, Nat.zero_le _, fun i l hi => by simp at hi⟩
    · simp [Value.cells] at hcs
      obtain ⟨rfl, rfl, rfl⟩ := hcs
      refine ⟨(List.range len0).map fun r => (Z r).take (L r), by simp, by omega, fun i l hi => ?_⟩
      rw [List.getElem?_map] at hi
      have hil : i < len0 := by
        apply Classical.byContradiction
        intro hn
        rw [List.getElem?_eq_none (by simp; omega)] at hi
        cases hi
      rw [List.getElem?_range hil] at hi
      have hi : (Z i).take (L i) = l := by simpa using hi
      obtain ⟨c1, c2, c3, c4, _, c5, c6⟩ := hc i (by omega)
      have hlen : l.length = L i := by rw [← hi, List.length_take]; omega
      refine ⟨x, A i, C i, rfl, by rw [hlen]; exact c1, by rw [hlen]; omega, fun j y hj => ?_⟩
      have hjl : j < L i := by rw [← hlen]; exact (List.getElem?_eq_some_iff.1 hj).1
      cases hA : A i with
      | none => have := c5 hA; omega
      | some a' =>
        refine ⟨a', rfl, ?_⟩
        rw [(c6 a' hA).2 j (by omega)]
        rw [← hi, List.getElem?_take, if_pos hjl] at hj
        rw [List.getD_eq_getElem?_getD, hj]; rfl
  obtain ⟨D, hDl, hDm, hDR⟩ : ∃ D : List Int, D.length = len1 ∧ len1 ≤ maxLen ∧ IntsR W a1 D := by
    obtain ⟨fuel, hf⟩ := h1
    rcases open_ints Tryz.underlying23 Tryz.underlying3 (by kernel_rfl) hf with ⟨hcs, _⟩ | ⟨x, l, c, zs, hcs, _, hl, hm, hz, _, hcell, _⟩
    · simp [Value.cells] at hcs
      obtain ⟨rfl, rfl, rfl⟩ := hcs
      exact ⟨[], rfl, Nat.zero_le _, fun i l hi => by simp at hi⟩
    · simp [Value.cells] at hcs
      obtain ⟨rfl, rfl, rfl⟩ := hcs
      have hz : zs.length = cap1 := by simpa using hz
      refine ⟨zs.take len1, by rw [List.length_take]; omega, by omega, fun j y hj => ⟨x, rfl, ?_⟩⟩
      have hjl : j < len1 := by
        have := (List.getElem?_eq_some_iff.1 hj).1
        rw [List.length_take] at this; omega
      rw [hcell j (by omega)]
      rw [List.getElem?_take, if_pos hjl] at hj
      rw [List.getD_eq_getElem?_getD, hj]; rfl
  subst hFl hDl
  refine (fnLearned_c (c := cap0) (d := cap1) hFR hFm hDR hDm).mono fun e W' ⟨he, ho⟩ => ?_
  have bel : Below W.heap.size W W' := ⟨ho.os, ho.tape, ho.output, ho.size, fun k hk => ho.block k hk eR_own⟩
  subst he
  exact ⟨_, rfl, _, _, _, [], _, [], hW', trodAll_mk1 (shut_bool Tryz.underlying4 _), (trodAll_cons_mk (Below.trod law_laidOut (by kernel_rfl) (of_decide_eq_true (by kernel_rfl)) k0 bel lt0) (trodAll_cons_mk (Below.trod law_laidOut (by kernel_rfl) (of_decide_eq_true (by kernel_rfl)) k1 bel lt1) trodAll_mk0)), rfl, bel.frame _, fun h => by cases h⟩
theorem law_over : Rows.fnLearnedRow.holds Tryz.pinned (OpenSpec.ofChange Rows.fnLearnedSpec) :=
  OpenClaim.holds_of_wide 3 Tryz.f3 rfl rfl rfl rfl rfl rfl rfl ⟨rfl, rfl, rfl, rfl, rfl⟩ rfl rfl rfl rfl rfl (by kernel_rfl) Tryz.func3 (by kernel_rfl)
    (of_decide_eq_true (by kernel_rfl)) (by unfold Func.isWrapper; first | (rw [if_pos (by decide +kernel)]; kernel_rfl) | (rw [if_neg (by decide +kernel)]; exact ⟨rfl, rfl⟩))
    (fun os started H enc _ => law_lifted os started H enc)
theorem fnLearned_holds : Rows.FnLearnedSaid := law_over
#print axioms fnLearned_holds
end Go.Proofs.YtiimddkopiknpaaGreat
