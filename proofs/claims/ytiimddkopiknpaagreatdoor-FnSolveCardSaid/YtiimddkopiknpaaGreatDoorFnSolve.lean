/-
  The tied card Rows.FnSolveCardSaid of the law FnSolve holds: for every two arguments that can be read (a list of lists of numbers and a number) the law FnSolve returns true and the arguments read afterwards as they read before; the condition is the card's own: that the listed package-level variables (three tables) hold what the program's text lays in them.
-/
import Derived.Test.YtiimddkopiknpaaGreatDoorB25
import Derived.Test.YtiimddkopiknpaaGreatDoorRows
import Derived.Test.YtiimddkopiknpaaGreatDoorCards
import Derived.Test.YtiimddkopiknpaaGreatDoorTie
import Derived.WalkKit
import Derived.ProofKit
import Derived.LaidMore
import Derived.OpenShut
import Derived.ShutString
import Derived.ChangeOld
import Derived.Below
import Derived.SizedLaws
import Derived.Deep.Matrix
import Derived.Stop.Joined
import Derived.SevenTiedAt
set_option linter.unusedVariables false
set_option linter.unusedSimpArgs false

/-
  FnSolve, the walk.
-/
namespace Go.Proofs.YtiimddkopiknpaaGreatDoor
open Go.RowKit

def LawPost (w : World) (e : Ending) (w' : World) : Prop := e = .returned (.bool true) ∧ Old w w'
/-- values that satisfy, in the two ways of saying it -/
theorem holds_tru {F : List (List Int)} (h0 : ∀ l ∈ F, ∀ x ∈ l, x ≠ 0) (bs : List Bool) : (∀ l ∈ F, holdsB bs l = true) ↔ ∀ C ∈ fl F, ∃ x ∈ C, tru (fun v => bs.getD v false) x = true := by
  constructor
  · intro h C hC
    obtain ⟨l, hl, rfl⟩ := List.mem_map.1 hC
    obtain ⟨x, hx, ht⟩ := (holdsB_iff bs l).1 (h l hl)
    exact ⟨litOf x, List.mem_map.2 ⟨x, hx, rfl⟩, (tru_trueB (h0 l hl x hx)).2 ht⟩
  · intro h l hl
    obtain ⟨y, hy, ht⟩ := h _ (List.mem_map.2 ⟨l, hl, rfl⟩)
    obtain ⟨x, hx, rfl⟩ := List.mem_map.1 hy
    exact (holdsB_iff bs l).2 ⟨x, hx, (tru_trueB (h0 l hl x hx)).1 ht⟩
set_option maxRecDepth 100000 in
set_option maxHeartbeats 8000000 in
theorem fnSolve_c {w : World} {A : Option Addr} {F : List (List Int)} {c : Nat} {m : Int} (h : CnfR w A F) (hn : F.length ≤ maxLen) (hm0 : 0 ≤ m) (hm1 : m < 256) :
    Calls Tryz.prog 3 #[.slice A F.length c, .int .u8 m] w (LawPost w) := by
  have h1 := zzFits_c (c := c) h hn
  have h2 := sumInts_c (c := c) h hn
  have h3 := fun w' (ho : Old w w') => cnfOk_c (c := c) (h.old ho) hn
  obtain ⟨fn, hfn⟩ : ∃ fn, fn = F.length := ⟨_, rfl⟩
  rw [← hfn] at h1 h2 h3 ⊢
  replace h1 := Lib.hid h1
  replace h2 := Lib.hid h2
  replace h3 := Lib.hid h3
  replace hfn := Lib.hid hfn
  replace h := Lib.hid h
  have hend : ∀ w', Old w w' → LawPost w (.returned (.bool true)) w' := fun w' ho => ⟨rfl, ho⟩
  replace hend := Lib.hid hend
  clear hn
  replace hm0 := Lib.hid hm0
  replace hm1 := Lib.hid hm1
  go_enter Tryz.func3, Tryz.ntmps3
  go_upto_region 3 with (go_at_call 4; refine h1.out.mono ?_; rintro e w1 ⟨b, rfl, hw⟩; rw [hw]; clear hw; cases b)
  · go_ret
    exact hend.out _ (Old.refl w)
  go_upto_region 7 with (first
    | (go_at_call 6; refine h2.out.mono ?_; rintro e w1 ⟨x, rfl, hw⟩; rw [hw]; clear hw)
    | (go_at_call 5
       refine (beyond_c (x := x) (by rw [World.cell?_alloc_at (w := w) _ _ _ 0 rfl]; rfl)).mono ?_
       rintro e w1 ⟨b, rfl, hw⟩
       rw [hw]
       clear hw
       cases b)
    | (go_at_call 7; refine (h3.out _ ((Old.refl w).alloc _)).mono ?_; rintro e w2 ⟨b, rfl, ho2, hok⟩; have ho2 := Lib.hid (((Old.refl w).alloc _).trans ho2); replace hok := Lib.hid hok; cases b))
  · go_ret
    exact hend.out _ ho2.out
  · have hC := hok.out (by trivial)
    have hV : Calls Tryz.prog 8 #[.slice A fn c, .int .u8 m] w2 (VoPost F w2) := by
      rw [hfn.out]
      exact varsOf_c (h.out.old ho2.out) hC hm0.out hm1.out
    have hll : ∀ l ∈ F, l.length ≤ 1000 := fun l hl => by have := litsOk_len (hC.1 l hl); omega
    have hCl := fun w' (ho : Old w w') => clauses_c (c := c) (h.out.old ho) (show F.length ≤ 1000 by have := hC.2.2; omega) hC.2.1
    rw [← hfn.out] at hCl
    replace hC := Lib.hid hC
    replace hV := Lib.hid hV
    replace hll := Lib.hid hll
    replace hCl := Lib.hid hCl
    clear h1 h2 h3 hok
    go_upto_region 8 with (go_at_call 8; refine hV.out.mono ?_; rintro e w3 ⟨nv, rfl, hw, hnv1, hnv8, hnv⟩; rw [hw]; clear hw; replace hnv := Lib.hid hnv)
    have hFOk : FOk nv F := ⟨fun l hl => (hC.out.1 l hl).1, fun l hl x hx => ⟨((hC.out.1 l hl).2.1 x hx).1, hnv.out l hl x hx⟩, fun l hl => (hC.out.1 l hl).2.2, by have := hC.out.2.2; omega⟩
    have hS : Calls Tryz.prog 9 #[.slice A fn c, .int .i64 (nv : Int)] w2 (AnPost (fl F) nv w2) := by
      rw [hfn.out]
      exact implSolve_c (h.out.old ho2.out) hFOk hC.out.2.1 (by have := hC.out.2.2; omega) hll.out hnv1 hnv8
    have hFx : ∀ l ∈ F, (∀ x ∈ l, x ≠ 0 ∧ x.natAbs ≤ nv) ∧ l.length ≤ 1000 := fun l hl => ⟨hFOk.ok l hl, hll.out l hl⟩
    have hF0 : ∀ l ∈ F, ∀ x ∈ l, x ≠ 0 := fun l hl x hx => (hFOk.ok l hl x hx).1
    have hFn : F.length ≤ 1000 := by have := hC.out.2.2; omega
    replace hS := Lib.hid hS
    replace hFx := Lib.hid hFx
    replace hF0 := Lib.hid hF0
    replace hFn := Lib.hid hFn
    clear hV hFOk
    go_upto_region 9 with (go_at_call 9; refine hS.out.mono ?_; rintro e w4 ⟨ho4, ⟨rfl, hU⟩ | ⟨g, ca, bs, rfl, hb, hBR, hsat⟩⟩)
    · have ho4 := Lib.hid (ho2.out.trans ho4)
      have hno : ∀ bs : List Bool, ¬ ∀ l ∈ F, holdsB bs l = true := fun bs hb => hU _ ((holds_tru hF0.out bs).1 hb)
      replace hno := Lib.hid hno
      replace hU := Lib.hid hU
      go_wp2_with (first
        | (go_at_call 11; refine (hCl.out _ ho4.out).mono ?_; rintro e w5 ⟨g5, c5, rfl, h5, ho5⟩; have hri := Lib.hid (right_unsat_c (c := c5) h5 hFx.out hFn.out hnv1 hnv8 hno.out); replace ho5 := Lib.hid ho5; replace h5 := Lib.hid h5)
        | (go_at_call 10; refine hri.out.mono ?_; rintro e w6 ⟨rfl, ho6⟩; replace ho6 := Lib.hid ho6))
      go_ret
      exact hend.out _ ((ho4.out.trans ho5.out).trans ho6.out)
    · have ho4 := Lib.hid (ho2.out.trans ho4)
      have hok := (holds_tru hF0.out bs).2 hsat
      replace hok := Lib.hid hok
      replace hsat := Lib.hid hsat
      replace hBR := Lib.hid hBR
      replace hb := Lib.hid hb
      go_wp2_with (first
        | (go_at_call 11; refine (hCl.out _ ho4.out).mono ?_; rintro e w5 ⟨g5, c5, rfl, h5, ho5⟩; have hri := Lib.hid (right_sat_c (c := c5) (c0 := ca) h5 hFx.out hFn.out hb.out hnv8 (hBR.out.old ho5) hok.out); replace ho5 := Lib.hid ho5; replace h5 := Lib.hid h5)
        | (go_at_call 10; refine hri.out.mono ?_; rintro e w6 ⟨rfl, ho6⟩; replace ho6 := Lib.hid ho6))
      go_ret
      exact hend.out _ ((ho4.out.trans ho5.out).trans ho6.out)
  · go_ret
    exact hend.out _ ((Old.refl w).alloc _)
end Go.Proofs.YtiimddkopiknpaaGreatDoor

/-
  The given statement FnSolveSaid: for every input that can be read, the law FnSolve returns true, and the input reads as it did; the tied card.
-/
namespace Go.Proofs.YtiimddkopiknpaaGreatDoor
open Go.ChangeShapes Go.WideShapes Go.ChangeAt Go.WideMaps Go.WideElems Go.RowKit Go.Deep

theorem law_own : ownKnob Tryz.prog.godebug = none := by kernel_rfl
theorem law_laidOut : laidOutB Tryz.prog = true := by kernel_rfl
def laidL : List (String × DataW Unit) := [("math/bits.deBruijn32tab", Rows.laid_math_bits_deBruijn32tab), ("math/bits.deBruijn64tab", Rows.laid_math_bits_deBruijn64tab), ("internal/strconv.uint64pow10", Rows.laid_internal_strconv_uint64pow10)]
theorem door_met (os : Os) (args : Array Value) : laidMetH Tryz.prog laidL ((World.doorLaid Tryz.prog 24 os).forCall (fun _ _ => 0) ⟨#[], args, []⟩).memory :=
  laidMetH_of_parts3 (fuel := 8) (laidMet_of_run' 8 (by kernel_rfl) (by kernel_rfl)) (by kernel_rfl) (by kernel_rfl)
set_option maxRecDepth 100000 in
theorem law_lifted (os : Os) (started : os.Started) (H : Type) (enc : TypeId × Value → H) :
    ReturnsInHanded {} Tryz.checked os 3 .any (fun w args => (Rows.fnSolveSpec.pre enc Tryz.prog Tryz.f3 [] false w args ∧ laidMetH Tryz.prog laidL w) ∧ sizedMet enc Tryz.prog Tryz.f3 (OpenSpec.ofChange Rows.fnSolveSpec) false w args)
      (Rows.fnSolveSpec.post enc Tryz.prog Tryz.f3 false true false false) := by
  refine returnsInHanded_of_change_and (C := Tryz.checked) (X := fun w _ => laidMetH Tryz.prog laidL w) (fun _ _ _ hh h => h.of_heap hh) law_own started (by kernel_rfl) Tryz.func3
    (ChangeSpec.witness_shaped (enc := enc) (C := Tryz.checked) (os := os) (X := fun w _ => laidMetH Tryz.prog laidL w) false (World.doorLaid Tryz.prog 24 os) #[.slice none 0 0, .int .u8 0] 8 rfl (World.shaped_of_RefB (by kernel_rfl) (by kernel_rfl)) (by kernel_rfl) (by kernel_rfl) (by kernel_rfl) (door_met os _)) ?_
  intro W base args ds gs before hval0 hW _ _ hL _
  have hval : ∀ (j : Nat) t v, Tryz.f3.params[j]? = some t → args[j]? = some v → Value.okWide Tryz.prog W .any base t v := hval0
  have hW' := hW
  obtain ⟨p, q, hA0, hV, rfl, hfz, hnd⟩ := hW
  have hA : DataW.TrodAll enc Tryz.prog W 0 (fun _ => true) true Tryz.f3.params.toList args.toList ds p := hA0
  rw [Tryz.params3] at hA hval
  obtain ⟨v0, vs0, d0, ds0, p0, q0, hargs, rfl, rfl, h0, r0⟩ := trodAll_cons hA
  obtain ⟨v1, vs1, d1, ds1, p1, q1, rfl, rfl, rfl, h1, r1⟩ := trodAll_cons r0
  obtain ⟨rfl, rfl, rfl⟩ := trodAll_nil r1
  obtain rfl : args = #[v0, v1] := by cases args; simp_all
  obtain ⟨rfl, rfl⟩ := trodVars_none hV
  obtain ⟨a0, len0, cap0, rfl⟩ := okWide_slice Tryz.underlying22 (hval 0 22 v0 rfl rfl)
  obtain ⟨m, rfl, rfl, rfl, hwm⟩ := open_int Tryz.underlying5 (hval 1 5 v1 rfl rfl) h1
  have k0 := h0
  have k1 := h1
  have lt0 : ∀ x ∈ p0, x.block < W.heap.size := by obtain ⟨m, hm⟩ := k0; exact DataW.trod_lt m _ _ _ hm
  have lt1 : ∀ x ∈ ([] : List MemPlace), x.block < W.heap.size := fun x hx => by cases hx
  obtain ⟨F, hFl, hFm, hFR⟩ : ∃ F : List (List Int), F.length = len0 ∧ len0 ≤ maxLen ∧ CnfR W a0 F := by
    obtain ⟨fuel, hf⟩ := h0
    rcases open_int_rows Tryz.underlying22 Tryz.underlying34 Tryz.underlying3 (by kernel_rfl) (by kernel_rfl) hf with ⟨hcs, _⟩ | ⟨x, l, c, A, L, C, Z, hcs, _, hl, hm, _, hc⟩
    · simp [Value.cells] at hcs
      obtain ⟨rfl, rfl, rfl⟩ := hcs
      exact ⟨[], rfl, Nat.zero_le _, fun i l hi => by simp at hi⟩
    · simp [Value.cells] at hcs
      obtain ⟨rfl, rfl, rfl⟩ := hcs
      refine ⟨(List.range len0).map fun r => (Z r).take (L r), by simp, by omega, fun i l hi => ?_⟩
      rw [List.getElem?_map] at hi
      have hil : i < len0 := by
        apply Classical.byContradiction
        intro hn
        rw [List.getElem?_eq_none (by simp; omega)] at hi
        cases hi
      rw [List.getElem?_range hil] at hi
      have hi : (Z i).take (L i) = l := by simpa using hi
      obtain ⟨c1, c2, c3, c4, _, c5, c6⟩ := hc i (by omega)
      have hlen : l.length = L i := by rw [← hi, List.length_take]; omega
      refine ⟨x, A i, C i, rfl, by rw [hlen]; exact c1, by rw [hlen]; omega, fun j y hj => ?_⟩
      have hjl : j < L i := by rw [← hlen]; exact (List.getElem?_eq_some_iff.1 hj).1
      cases hA : A i with
      | none => have := c5 hA; omega
      | some a' =>
        refine ⟨a', rfl, ?_⟩
        rw [(c6 a' hA).2 j (by omega)]
        rw [← hi, List.getElem?_take, if_pos hjl] at hj
        rw [List.getD_eq_getElem?_getD, hj]; rfl
  subst hFl
  have hmb : 0 ≤ m ∧ m < 256 := by
    simp only [Lit.wf, IntKind.min, IntKind.max, IntKind.signed, IntKind.bits, Bool.and_eq_true, decide_eq_true_eq] at hwm
    have e1 := hwm.1
    have e2 := hwm.2
    simp at e1 e2
    omega
  refine (fnSolve_c (c := cap0) hFR hFm hmb.1 hmb.2).mono fun e W' ⟨he, ho⟩ => ?_
  have bel : Below W.heap.size W W' := ⟨ho.os, ho.tape, ho.output, ho.size, fun k hk => ho.block k hk eR_own⟩
  subst he
  exact ⟨_, rfl, _, _, _, [], _, [], hW', trodAll_mk1 (shut_bool Tryz.underlying4 _), (trodAll_cons_mk (Below.trod law_laidOut (by kernel_rfl) (of_decide_eq_true (by kernel_rfl)) k0 bel lt0) (trodAll_cons_mk (Below.trod law_laidOut (by kernel_rfl) (of_decide_eq_true (by kernel_rfl)) k1 bel lt1) trodAll_mk0)), rfl, bel.frame _, fun h => by cases h⟩
theorem law_over : Rows.FnSolveSaid :=
  OpenClaim.holds_of_wide 3 Tryz.f3 rfl rfl rfl rfl rfl rfl rfl ⟨rfl, rfl, rfl, rfl, rfl⟩ rfl rfl rfl rfl rfl (by kernel_rfl) Tryz.func3 (by kernel_rfl)
    (of_decide_eq_true (by kernel_rfl)) (by unfold Func.isWrapper; first | (rw [if_pos (by decide +kernel)]; kernel_rfl) | (rw [if_neg (by decide +kernel)]; exact ⟨rfl, rfl⟩))
    (fun os started H enc _ => law_lifted os started H enc)
/-- the tied card -/
theorem fnSolveCard_holds : Rows.FnSolveCardSaid :=
  Claim7.holds_tied_plain_at .later [] [.data, .data, .data] true (true, "ddf7df6226233b89414af1d608a2df43c0991f5130029d146f0d939ecf89878e") false
    law_over (fun _ h => by cases h) (by kernel_rfl) (fun _ h => by cases h) fnSolve_row_tie rfl ⟨rfl, rfl⟩ (by kernel_rfl) rfl
    (fun f fn hf hfn => by
      obtain rfl : f = 3 := Option.some.inj ((show Tryz.prog.funcNamed "loop.example/pub-g03136/laws.FnSolve" = some 3 by kernel_rfl).symm.trans hf) |>.symm
      obtain rfl : fn = Tryz.f3 := (Option.some.inj (Tryz.func3.symm.trans hfn)).symm
      exact ⟨by kernel_rfl, fun j t ht => by
        rw [Tryz.params3] at ht
        have hm : t ∈ [22, 5] := by simpa using Array.mem_of_getElem? ht
        have hall : ([22, 5].all fun u => !Tryz.prog.wantsStandIn u) = true := by kernel_rfl
        exact (show Tryz.prog.wantsStandIn t = false by simpa using List.all_eq_true.1 hall t hm)⟩)
    (by kernel_rfl)
#print axioms fnSolveCard_holds
end Go.Proofs.YtiimddkopiknpaaGreatDoor
