/-
  A new solver.
-/
import Derived.Test.YtiimddkopiknpaaGreatA13
set_option linter.unusedVariables false
set_option linter.unusedSimpArgs false

/-
  New: the solver's rows are made.
-/
namespace Go.Proofs.YtiimddkopiknpaaGreat
open Go.RowKit

theorem infoF64 : (Tryz.prog.info? 90).map (fun i => (i.zero, i.size, i.bytes)) = some (some (.float .f64 0), 1, 8) := by kernel_rfl
theorem infoBool2 : (Tryz.prog.info? 4).map (fun i => (i.zero, i.size, i.bytes)) = some (some (.bool false), 1, 1) := by kernel_rfl
theorem exec_box {P : Program} {a : Act} {o : Oper} {t : TypeId} {x : Operand} {w : World} {C : Array Value} (ho : o.op = .box t x) (hx : a.eval x = .agg C) :
    (execOp a.eval o).run P w = .ok (.value (.pointer (some ⟨w.heap.size, 0, none⟩))) (w.alloc (.cells C t)) := by
  unfold execOp
  simp only [ho, hx, Sem.run_bind, Instr.box, newVar, newRow, run_newObj_alloc, Sem.run_pure, Result.andThen_ok]
  rfl
theorem updB_at (b : Nat → Nat) (i x : Nat) : updB b i x i = x := by simp [updB]
theorem cells7_upd (z : Array Value) (pb nv st ul tc mb : Nat) (b : Nat → Nat) (x : Nat) : cells7 z pb nv st ul tc mb (updB b 42 x) = cells7 z pb nv st ul tc mb b := by unfold cells7; simp [updB]
def val7 (z : Array Value) (pb nv st ul tc mb : Nat) (pu : Option Addr) (cu : Nat) (b : Nat → Nat) : Nat → Value
  | 0 => .int .i64 (nv : Int)
  | 1 => .pointer (some ⟨pb, 0, none⟩)
  | 2 => .pointer (some ⟨pb, 0, none⟩)
  | 3 => .pointer (some ⟨pb, 2, none⟩)
  | 4 => .int .u8 (st : Int)
  | 5 => .pointer (some ⟨pb, 0, none⟩)
  | 6 => .pointer (some ⟨pb, 0, none⟩)
  | 7 => .pointer (some ⟨pb, 3, none⟩)
  | 8 => .slice pu ul cu
  | 9 => .int .i64 (ul : Int)
  | 10 => .int .i64 (tc : Int)
  | 11 => .slice (some ⟨b 11, 0, none⟩) ul tc
  | 12 => .pointer (some ⟨pb, 0, none⟩)
  | 13 => .pointer (some ⟨pb, 0, none⟩)
  | 14 => .pointer (some ⟨pb, 4, none⟩)
  | 15 => .slice (some ⟨mb, 0, none⟩) nv nv
  | 16 => .int .i64 (nv : Int)
  | 17 => .slice (some ⟨b 17, 0, none⟩) nv nv
  | 18 => .int .i64 (nv : Int)
  | 19 => .slice (some ⟨b 19, 0, none⟩) nv nv
  | 20 => .int .i64 (nv : Int)
  | 21 => .slice (some ⟨b 21, 0, none⟩) nv nv
  | 22 => .int .i64 (nv : Int)
  | 23 => .slice (some ⟨b 23, 0, none⟩) nv nv
  | 24 => .int .u64 1
  | 25 => .int .u64 512
  | 26 => .int .i64 512
  | 27 => .pointer (some ⟨pb, 0, none⟩)
  | 28 => .pointer (some ⟨pb, 0, none⟩)
  | 29 => .pointer (some ⟨pb, 5, none⟩)
  | 30 => .slice none 0 0
  | 31 => .pointer (some ⟨pb, 0, none⟩)
  | 32 => .pointer (some ⟨pb, 0, none⟩)
  | 33 => .pointer (some ⟨pb, 6, none⟩)
  | 34 => .slice none 0 0
  | 35 => .int .i64 (nv : Int)
  | 36 => .slice (some ⟨b 36, 0, none⟩) nv nv
  | 37 => .int .i64 (nv : Int)
  | 38 => .slice (some ⟨b 38, 0, none⟩) nv nv
  | 39 => .int .i64 (nv : Int)
  | 40 => .slice (some ⟨b 40, 0, none⟩) nv nv
  | 41 => .agg (cells7 z pb nv st ul tc mb b)
  | 42 => .pointer (some ⟨b 42, 0, none⟩)
  | 43 => .pointer (some ⟨b 42, 0, none⟩)
  | _ => undef
def mk7 : Nat → Bool
  | 11 => true
  | 17 => true
  | 19 => true
  | 21 => true
  | 23 => true
  | 36 => true
  | 38 => true
  | 40 => true
  | 42 => true
  | _ => false
def made7 (z : Array Value) (pb nv st ul tc mb : Nat) (b : Nat → Nat) : Nat → Array Value × TypeId
  | 11 => (Array.replicate tc (.int .i32 0), 53)
  | 17 => (Array.replicate nv (.float .f64 0), 90)
  | 19 => (Array.replicate nv (.bool false), 4)
  | 21 => (Array.replicate nv (.bool false), 4)
  | 23 => (Array.replicate nv (.pointer none), 49)
  | 36 => (Array.replicate nv (.int .i64 0), 3)
  | 38 => (Array.replicate nv (.int .i64 0), 3)
  | 40 => (Array.replicate nv (.int .i64 0), 3)
  | 42 => (cells7 z pb nv st ul tc mb b, 100)
  | _ => (#[], 0)
def pl7 (z : Array Value) (pb nv st ul tc mb : Nat) (pu : Option Addr) (cu : Nat) : Plan := ⟨fun i => if i < 43 then 32 + i else 5, val7 z pb nv st ul tc mb pu cu, mk7, made7 z pb nv st ul tc mb⟩
theorem pl7_cells42 (z : Array Value) (pb nv st ul tc mb : Nat) (pu : Option Addr) (cu : Nat) (b : Nat → Nat) : (pl7 z pb nv st ul tc mb pu cu).cells b 42 = (cells7 z pb nv st ul tc mb b, 100) := rfl
theorem pl7_val42 (z : Array Value) (pb nv st ul tc mb : Nat) (pu : Option Addr) (cu : Nat) (b : Nat → Nat) : (pl7 z pb nv st ul tc mb pu cu).val b 42 = .pointer (some ⟨b 42, 0, none⟩) := rfl
set_option maxRecDepth 100000 in
set_option maxHeartbeats 8000000 in
theorem new_c {F : List (List Nat)} {s : PSt} {w0 : World} (h : Rows s.row w0) (hF : PFin F s) (hnv0 : 0 < s.nv) (hnv1 : s.nv ≤ 100000) (hmv : ∃ mb, s.mV = slV mb s.nv) :
    Calls Tryz.prog 31 #[.pointer (some ⟨s.pb, 0, none⟩)] w0 (NewPost s w0) := by
  have hst : s.st < 2 := by rw [hF.st]; split <;> omega
  have hvl := hF.vl
  have hul := hF.usl
  replace hF := Lib.hid hF
  obtain ⟨mb, hmv⟩ := hmv
  obtain ⟨pu, cu, hus⟩ := h.shape .us
  have hus : s.usV = .slice pu s.us.length cu := hus
  have f0 : w0.cell? ⟨s.pb, 0, none⟩ = some (.int .i64 (s.nv : Int)) := PSt.pbc h (j := 0) rfl
  have f2 : w0.cell? ⟨s.pb, 2, none⟩ = some (.int .u8 (s.st : Int)) := PSt.pbc h (j := 2) rfl
  have f3 : w0.cell? ⟨s.pb, 3, none⟩ = some s.usV := PSt.pbc h (j := 3) rfl
  have f4 : w0.cell? ⟨s.pb, 4, none⟩ = some s.mV := PSt.pbc h (j := 4) rfl
  have f5 : w0.cell? ⟨s.pb, 5, none⟩ = some (.slice none 0 0) := PSt.pbc h (j := 5) rfl
  have f6 : w0.cell? ⟨s.pb, 6, none⟩ = some (.slice none 0 0) := PSt.pbc h (j := 6) rfl
  rw [hus] at f3
  rw [hmv] at f4
  unfold slV at f4
  have hstI : ((s.st : Int) == 2) = false := by simp; omega
  obtain ⟨ul, hule⟩ : ∃ ul, ul = s.us.length := ⟨_, rfl⟩
  rw [← hule] at f3 hul
  replace hule := Lib.hid hule
  replace hus := Lib.hid hus
  replace hmv := Lib.hid hmv
  replace hvl := Lib.hid hvl
  go_enter Tryz.func31, Tryz.ntmps31
  go_upto_if 26 with fail
  go_cut [4] (fun v4 wx => ∃ tc : Nat, v4 = .int .i64 (tc : Int) ∧ ul ≤ tc ∧ tc ≤ 1000000 ∧ w0 = wx)
  case first =>
    by_cases hlt : (s.nv : Int) < (ul : Int)
    · go_wp2_with fail
      go_meet
      exact ⟨ul, rfl, Nat.le_refl _, hul, rfl⟩
    · go_wp2_with fail
      go_meet
      exact ⟨s.nv, rfl, by omega, by omega, rfl⟩
  case rest =>
    obtain ⟨tc, rfl, htc1, htc2, rfl⟩ := hcut
    go_upto_region 7 with fail
    obtain ⟨z, hz1, hz2, hbuild⟩ := build_sol
    have hpl := h.lt ⟨.pb, rfl⟩
    have m11 := make_rep2 (P := Tryz.prog) 57 53 (.int .i32 0) 4 Tryz.underlying57 infoLit rfl ul tc htc1 (by omega) (by unfold maxLen; omega)
    have m17 := make_rep (P := Tryz.prog) 87 90 (.float .f64 0) 8 Tryz.underlying87 infoF64 rfl s.nv (by omega) (by unfold maxLen; omega)
    have m19 := make_rep (P := Tryz.prog) 34 4 (.bool false) 1 Tryz.underlying34 infoBool2 rfl s.nv (by omega) (by unfold maxLen; omega)
    have m21 := make_rep (P := Tryz.prog) 34 4 (.bool false) 1 Tryz.underlying34 infoBool2 rfl s.nv (by omega) (by unfold maxLen; omega)
    have m23 := make_rep (P := Tryz.prog) 71 49 (.pointer none) 8 Tryz.underlying71 infoCp3 rfl s.nv (by omega) (by unfold maxLen; omega)
    have m36 := make_rep (P := Tryz.prog) 23 3 (.int .i64 0) 8 Tryz.underlying23 infoInt rfl s.nv (by omega) (by unfold maxLen; omega)
    have m38 := make_rep (P := Tryz.prog) 23 3 (.int .i64 0) 8 Tryz.underlying23 infoInt rfl s.nv (by omega) (by unfold maxLen; omega)
    have m40 := make_rep (P := Tryz.prog) 23 3 (.int .i64 0) 8 Tryz.underlying23 infoInt rfl s.nv (by omega) (by unfold maxLen; omega)
    go_cut [5] (fun v5 wx => ∃ b, v5 = .pointer (some ⟨b 42, 0, none⟩) ∧ Made7 s.nv ul tc (cells7 z s.pb s.nv s.st ul tc mb b).toList b w0 wx)
    case first =>
      have hinj : ∀ i j, i < 44 → j < 44 → (pl7 z s.pb s.nv s.st ul tc mb pu cu).dst i = (pl7 z s.pb s.nv s.st ul tc mb pu cu).dst j → i = j := by
        intro i j hi hj e
        have e : (if i < 43 then 32 + i else 5) = (if j < 43 then 32 + j else 5) := e
        split at e <;> split at e <;> omega
      have hin : ∀ i, i < 44 → (pl7 z s.pb s.nv s.st ul tc mb pu cu).dst i < 128 := by
        intro i hi
        show (if i < 43 then 32 + i else 5) < 128
        split <;> omega
      refine wp_region_plan (pl7 z s.pb s.nv s.st ul tc mb pu cu) 44 (by kernel_rfl) rfl rfl (gd_of (by kernel_rfl)) hinj hin (ord_of (by kernel_rfl)) ?_ ?_ ?_
      · intro D b x i j hi hj hmk hcl hDj hDi
        have key : ∀ k, D k → updB b i x k = b k := by
          intro k hk
          unfold updB
          rw [if_neg]
          intro e
          subst e
          exact hDi hk
        have c41 : D 41 → cells7 z s.pb s.nv s.st ul tc mb (updB b i x) = cells7 z s.pb s.nv s.st ul tc mb b := by
          intro h41
          have k11 := key 11 (hcl 41 _ rfl h41 ⟨11, .data⟩ (by simp) rfl)
          have k17 := key 17 (hcl 41 _ rfl h41 ⟨17, .data⟩ (by simp) rfl)
          have k19 := key 19 (hcl 41 _ rfl h41 ⟨19, .data⟩ (by simp) rfl)
          have k21 := key 21 (hcl 41 _ rfl h41 ⟨21, .data⟩ (by simp) rfl)
          have k23 := key 23 (hcl 41 _ rfl h41 ⟨23, .data⟩ (by simp) rfl)
          have k36 := key 36 (hcl 41 _ rfl h41 ⟨36, .data⟩ (by simp) rfl)
          have k38 := key 38 (hcl 41 _ rfl h41 ⟨38, .data⟩ (by simp) rfl)
          have k40 := key 40 (hcl 41 _ rfl h41 ⟨40, .data⟩ (by simp) rfl)
          unfold cells7
          rw [k11, k17, k19, k21, k23, k36, k38, k40]
        have hor : j = 0 ∨ j = 1 ∨ j = 2 ∨ j = 3 ∨ j = 4 ∨ j = 5 ∨ j = 6 ∨ j = 7 ∨ j = 8 ∨ j = 9 ∨ j = 10 ∨ j = 11 ∨ j = 12 ∨ j = 13 ∨ j = 14 ∨ j = 15 ∨ j = 16 ∨ j = 17 ∨ j = 18 ∨ j = 19 ∨ j = 20 ∨ j = 21 ∨ j = 22 ∨ j = 23 ∨ j = 24 ∨ j = 25 ∨ j = 26 ∨ j = 27 ∨ j = 28 ∨ j = 29 ∨ j = 30 ∨ j = 31 ∨ j = 32 ∨ j = 33 ∨ j = 34 ∨ j = 35 ∨ j = 36 ∨ j = 37 ∨ j = 38 ∨ j = 39 ∨ j = 40 ∨ j = 41 ∨ j = 42 ∨ j = 43 := by omega
        rcases hor with rfl | rfl | rfl | rfl | rfl | rfl | rfl | rfl | rfl | rfl | rfl | rfl | rfl | rfl | rfl | rfl | rfl | rfl | rfl | rfl | rfl | rfl | rfl | rfl | rfl | rfl | rfl | rfl | rfl | rfl | rfl | rfl | rfl | rfl | rfl | rfl | rfl | rfl | rfl | rfl | rfl | rfl | rfl | rfl
        · exact ⟨rfl, rfl⟩
        · exact ⟨rfl, rfl⟩
        · exact ⟨rfl, rfl⟩
        · exact ⟨rfl, rfl⟩
        · exact ⟨rfl, rfl⟩
        · exact ⟨rfl, rfl⟩
        · exact ⟨rfl, rfl⟩
        · exact ⟨rfl, rfl⟩
        · exact ⟨rfl, rfl⟩
        · exact ⟨rfl, rfl⟩
        · exact ⟨rfl, rfl⟩
        · refine ⟨?_, rfl⟩
          show Value.slice (some ⟨updB b i x 11, 0, none⟩) ul tc = .slice (some ⟨b 11, 0, none⟩) ul tc
          rw [key 11 hDj]
        · exact ⟨rfl, rfl⟩
        · exact ⟨rfl, rfl⟩
        · exact ⟨rfl, rfl⟩
        · exact ⟨rfl, rfl⟩
        · exact ⟨rfl, rfl⟩
        · refine ⟨?_, rfl⟩
          show Value.slice (some ⟨updB b i x 17, 0, none⟩) s.nv s.nv = .slice (some ⟨b 17, 0, none⟩) s.nv s.nv
          rw [key 17 hDj]
        · exact ⟨rfl, rfl⟩
        · refine ⟨?_, rfl⟩
          show Value.slice (some ⟨updB b i x 19, 0, none⟩) s.nv s.nv = .slice (some ⟨b 19, 0, none⟩) s.nv s.nv
          rw [key 19 hDj]
        · exact ⟨rfl, rfl⟩
        · refine ⟨?_, rfl⟩
          show Value.slice (some ⟨updB b i x 21, 0, none⟩) s.nv s.nv = .slice (some ⟨b 21, 0, none⟩) s.nv s.nv
          rw [key 21 hDj]
        · exact ⟨rfl, rfl⟩
        · refine ⟨?_, rfl⟩
          show Value.slice (some ⟨updB b i x 23, 0, none⟩) s.nv s.nv = .slice (some ⟨b 23, 0, none⟩) s.nv s.nv
          rw [key 23 hDj]
        · exact ⟨rfl, rfl⟩
        · exact ⟨rfl, rfl⟩
        · exact ⟨rfl, rfl⟩
        · exact ⟨rfl, rfl⟩
        · exact ⟨rfl, rfl⟩
        · exact ⟨rfl, rfl⟩
        · exact ⟨rfl, rfl⟩
        · exact ⟨rfl, rfl⟩
        · exact ⟨rfl, rfl⟩
        · exact ⟨rfl, rfl⟩
        · exact ⟨rfl, rfl⟩
        · exact ⟨rfl, rfl⟩
        · refine ⟨?_, rfl⟩
          show Value.slice (some ⟨updB b i x 36, 0, none⟩) s.nv s.nv = .slice (some ⟨b 36, 0, none⟩) s.nv s.nv
          rw [key 36 hDj]
        · exact ⟨rfl, rfl⟩
        · refine ⟨?_, rfl⟩
          show Value.slice (some ⟨updB b i x 38, 0, none⟩) s.nv s.nv = .slice (some ⟨b 38, 0, none⟩) s.nv s.nv
          rw [key 38 hDj]
        · exact ⟨rfl, rfl⟩
        · refine ⟨?_, rfl⟩
          show Value.slice (some ⟨updB b i x 40, 0, none⟩) s.nv s.nv = .slice (some ⟨b 40, 0, none⟩) s.nv s.nv
          rw [key 40 hDj]
        · refine ⟨?_, rfl⟩
          show Value.agg _ = Value.agg _
          rw [c41 hDj]
        · refine ⟨?_, ?_⟩
          · rw [pl7_val42, pl7_val42, key 42 hDj]
          · rw [pl7_cells42, pl7_cells42, c41 (hcl 42 _ rfl hDj ⟨41, .data⟩ (by simp) rfl)]
        · refine ⟨?_, rfl⟩
          show Value.pointer (some ⟨updB b i x 42, 0, none⟩) = .pointer (some ⟨b 42, 0, none⟩)
          rw [key 42 (hcl 43 _ rfl hDj ⟨42, .data⟩ (by simp) rfl)]
      · intro D b a w i o ho hdep hA hM
        have hi : i < 44 := by have := (List.getElem?_eq_some_iff.1 ho).1; simpa using this
        have hor : i = 0 ∨ i = 1 ∨ i = 2 ∨ i = 3 ∨ i = 4 ∨ i = 5 ∨ i = 6 ∨ i = 7 ∨ i = 8 ∨ i = 9 ∨ i = 10 ∨ i = 11 ∨ i = 12 ∨ i = 13 ∨ i = 14 ∨ i = 15 ∨ i = 16 ∨ i = 17 ∨ i = 18 ∨ i = 19 ∨ i = 20 ∨ i = 21 ∨ i = 22 ∨ i = 23 ∨ i = 24 ∨ i = 25 ∨ i = 26 ∨ i = 27 ∨ i = 28 ∨ i = 29 ∨ i = 30 ∨ i = 31 ∨ i = 32 ∨ i = 33 ∨ i = 34 ∨ i = 35 ∨ i = 36 ∨ i = 37 ∨ i = 38 ∨ i = 39 ∨ i = 40 ∨ i = 41 ∨ i = 42 ∨ i = 43 := by omega
        have k0 : a.tmps.getD 0 undef = .pointer (some ⟨s.pb, 0, none⟩) := (hA.keep 0 (fun i hi => by show (if i < 43 then 32 + i else 5) ≠ 0; split <;> omega)).trans rfl
        have k3 : a.tmps.getD 3 undef = .int .i64 (s.nv : Int) := (hA.keep 3 (fun i hi => by show (if i < 43 then 32 + i else 5) ≠ 3; split <;> omega)).trans rfl
        have k4 : a.tmps.getD 4 undef = .int .i64 (tc : Int) := (hA.keep 4 (fun i hi => by show (if i < 43 then 32 + i else 5) ≠ 4; split <;> omega)).trans rfl
        have hcell : ∀ j, w.cell? ⟨s.pb, j, none⟩ = _ := fun j => World.cell?_of_block (a := ⟨s.pb, j, none⟩) (hM.old s.pb hpl)
        have f2 := (hcell 2).trans f2
        have f3 := (hcell 3).trans f3
        have f4 := (hcell 4).trans f4
        have f5 := (hcell 5).trans f5
        have f6 := (hcell 6).trans f6
        clear hcell
        rcases hor with rfl | rfl | rfl | rfl | rfl | rfl | rfl | rfl | rfl | rfl | rfl | rfl | rfl | rfl | rfl | rfl | rfl | rfl | rfl | rfl | rfl | rfl | rfl | rfl | rfl | rfl | rfl | rfl | rfl | rfl | rfl | rfl | rfl | rfl | rfl | rfl | rfl | rfl | rfl | rfl | rfl | rfl | rfl | rfl
        all_goals (injection ho with ho; subst ho)
        · -- 0
          refine .inl ⟨rfl, ?_⟩
          show Oper.quietUpon _ _ _ (.int .i64 (s.nv : Int)) _
          go_simp
        · -- 1
          refine .inl ⟨rfl, ?_⟩
          show Oper.quietUpon _ _ _ (.pointer (some ⟨s.pb, 0, none⟩)) _
          go_simp
        · -- 2
          have d1 : a.tmps.getD 33 undef = .pointer (some ⟨s.pb, 0, none⟩) := hA.val 1 (by omega) (hdep ⟨1, .data⟩ (by simp) rfl)
          refine .inl ⟨rfl, ?_⟩
          show Oper.quietUpon _ _ _ (.pointer (some ⟨s.pb, 0, none⟩)) _
          go_simp
        · -- 3
          have d2 : a.tmps.getD 34 undef = .pointer (some ⟨s.pb, 0, none⟩) := hA.val 2 (by omega) (hdep ⟨2, .data⟩ (by simp) rfl)
          refine .inl ⟨rfl, ?_⟩
          show Oper.quietUpon _ _ _ (.pointer (some ⟨s.pb, 2, none⟩)) _
          go_simp
        · -- 4
          have d3 : a.tmps.getD 35 undef = .pointer (some ⟨s.pb, 2, none⟩) := hA.val 3 (by omega) (hdep ⟨3, .data⟩ (by simp) rfl)
          refine .inl ⟨rfl, ?_⟩
          show Oper.quietUpon _ _ _ (.int .u8 (s.st : Int)) _
          go_simp
        · -- 5
          refine .inl ⟨rfl, ?_⟩
          show Oper.quietUpon _ _ _ (.pointer (some ⟨s.pb, 0, none⟩)) _
          go_simp
        · -- 6
          have d5 : a.tmps.getD 37 undef = .pointer (some ⟨s.pb, 0, none⟩) := hA.val 5 (by omega) (hdep ⟨5, .data⟩ (by simp) rfl)
          refine .inl ⟨rfl, ?_⟩
          show Oper.quietUpon _ _ _ (.pointer (some ⟨s.pb, 0, none⟩)) _
          go_simp
        · -- 7
          have d6 : a.tmps.getD 38 undef = .pointer (some ⟨s.pb, 0, none⟩) := hA.val 6 (by omega) (hdep ⟨6, .data⟩ (by simp) rfl)
          refine .inl ⟨rfl, ?_⟩
          show Oper.quietUpon _ _ _ (.pointer (some ⟨s.pb, 3, none⟩)) _
          go_simp
        · -- 8
          have d7 : a.tmps.getD 39 undef = .pointer (some ⟨s.pb, 3, none⟩) := hA.val 7 (by omega) (hdep ⟨7, .data⟩ (by simp) rfl)
          refine .inl ⟨rfl, ?_⟩
          show Oper.quietUpon _ _ _ (.slice pu ul cu) _
          go_simp
        · -- 9
          have d8 : a.tmps.getD 40 undef = .slice pu ul cu := hA.val 8 (by omega) (hdep ⟨8, .data⟩ (by simp) rfl)
          refine .inl ⟨rfl, ?_⟩
          show Oper.quietUpon _ _ _ (.int .i64 (ul : Int)) _
          go_simp
        · -- 10
          refine .inl ⟨rfl, ?_⟩
          show Oper.quietUpon _ _ _ (.int .i64 (tc : Int)) _
          go_simp
        · -- 11
          have d9 : a.tmps.getD 41 undef = .int .i64 (ul : Int) := hA.val 9 (by omega) (hdep ⟨9, .data⟩ (by simp) rfl)
          have d10 : a.tmps.getD 42 undef = .int .i64 (tc : Int) := hA.val 10 (by omega) (hdep ⟨10, .data⟩ (by simp) rfl)
          refine .inr ⟨rfl, ?_⟩
          show _ = Result.ok (Next.value (.slice (some ⟨w.heap.size, 0, none⟩) ul tc)) (w.alloc (.cells (Array.replicate tc (.int .i32 0)) 53))
          have mm := m11 w
          go_simp
        · -- 12
          refine .inl ⟨rfl, ?_⟩
          show Oper.quietUpon _ _ _ (.pointer (some ⟨s.pb, 0, none⟩)) _
          go_simp
        · -- 13
          have d12 : a.tmps.getD 44 undef = .pointer (some ⟨s.pb, 0, none⟩) := hA.val 12 (by omega) (hdep ⟨12, .data⟩ (by simp) rfl)
          refine .inl ⟨rfl, ?_⟩
          show Oper.quietUpon _ _ _ (.pointer (some ⟨s.pb, 0, none⟩)) _
          go_simp
        · -- 14
          have d13 : a.tmps.getD 45 undef = .pointer (some ⟨s.pb, 0, none⟩) := hA.val 13 (by omega) (hdep ⟨13, .data⟩ (by simp) rfl)
          refine .inl ⟨rfl, ?_⟩
          show Oper.quietUpon _ _ _ (.pointer (some ⟨s.pb, 4, none⟩)) _
          go_simp
        · -- 15
          have d14 : a.tmps.getD 46 undef = .pointer (some ⟨s.pb, 4, none⟩) := hA.val 14 (by omega) (hdep ⟨14, .data⟩ (by simp) rfl)
          refine .inl ⟨rfl, ?_⟩
          show Oper.quietUpon _ _ _ (.slice (some ⟨mb, 0, none⟩) s.nv s.nv) _
          go_simp
        · -- 16
          refine .inl ⟨rfl, ?_⟩
          show Oper.quietUpon _ _ _ (.int .i64 (s.nv : Int)) _
          go_simp
        · -- 17
          have d16 : a.tmps.getD 48 undef = .int .i64 (s.nv : Int) := hA.val 16 (by omega) (hdep ⟨16, .data⟩ (by simp) rfl)
          refine .inr ⟨rfl, ?_⟩
          show _ = Result.ok (Next.value (.slice (some ⟨w.heap.size, 0, none⟩) s.nv s.nv)) (w.alloc (.cells (Array.replicate s.nv (.float .f64 0)) 90))
          have mm := m17 w
          go_simp
        · -- 18
          refine .inl ⟨rfl, ?_⟩
          show Oper.quietUpon _ _ _ (.int .i64 (s.nv : Int)) _
          go_simp
        · -- 19
          have d18 : a.tmps.getD 50 undef = .int .i64 (s.nv : Int) := hA.val 18 (by omega) (hdep ⟨18, .data⟩ (by simp) rfl)
          refine .inr ⟨rfl, ?_⟩
          show _ = Result.ok (Next.value (.slice (some ⟨w.heap.size, 0, none⟩) s.nv s.nv)) (w.alloc (.cells (Array.replicate s.nv (.bool false)) 4))
          have mm := m19 w
          go_simp
        · -- 20
          refine .inl ⟨rfl, ?_⟩
          show Oper.quietUpon _ _ _ (.int .i64 (s.nv : Int)) _
          go_simp
        · -- 21
          have d20 : a.tmps.getD 52 undef = .int .i64 (s.nv : Int) := hA.val 20 (by omega) (hdep ⟨20, .data⟩ (by simp) rfl)
          refine .inr ⟨rfl, ?_⟩
          show _ = Result.ok (Next.value (.slice (some ⟨w.heap.size, 0, none⟩) s.nv s.nv)) (w.alloc (.cells (Array.replicate s.nv (.bool false)) 4))
          have mm := m21 w
          go_simp
        · -- 22
          refine .inl ⟨rfl, ?_⟩
          show Oper.quietUpon _ _ _ (.int .i64 (s.nv : Int)) _
          go_simp
        · -- 23
          have d22 : a.tmps.getD 54 undef = .int .i64 (s.nv : Int) := hA.val 22 (by omega) (hdep ⟨22, .data⟩ (by simp) rfl)
          refine .inr ⟨rfl, ?_⟩
          show _ = Result.ok (Next.value (.slice (some ⟨w.heap.size, 0, none⟩) s.nv s.nv)) (w.alloc (.cells (Array.replicate s.nv (.pointer none)) 49))
          have mm := m23 w
          go_simp
        · -- 24
          refine .inl ⟨rfl, ?_⟩
          show Oper.quietUpon _ _ _ (.int .u64 1) _
          go_simp
          exact luby_c w
        · -- 25
          have d24 : a.tmps.getD 56 undef = .int .u64 1 := hA.val 24 (by omega) (hdep ⟨24, .data⟩ (by simp) rfl)
          refine .inl ⟨rfl, ?_⟩
          show Oper.quietUpon _ _ _ (.int .u64 512) _
          go_simp
          rfl
        · -- 26
          have d25 : a.tmps.getD 57 undef = .int .u64 512 := hA.val 25 (by omega) (hdep ⟨25, .data⟩ (by simp) rfl)
          refine .inl ⟨rfl, ?_⟩
          show Oper.quietUpon _ _ _ (.int .i64 512) _
          go_simp
          rfl
        · -- 27
          refine .inl ⟨rfl, ?_⟩
          show Oper.quietUpon _ _ _ (.pointer (some ⟨s.pb, 0, none⟩)) _
          go_simp
        · -- 28
          have d27 : a.tmps.getD 59 undef = .pointer (some ⟨s.pb, 0, none⟩) := hA.val 27 (by omega) (hdep ⟨27, .data⟩ (by simp) rfl)
          refine .inl ⟨rfl, ?_⟩
          show Oper.quietUpon _ _ _ (.pointer (some ⟨s.pb, 0, none⟩)) _
          go_simp
        · -- 29
          have d28 : a.tmps.getD 60 undef = .pointer (some ⟨s.pb, 0, none⟩) := hA.val 28 (by omega) (hdep ⟨28, .data⟩ (by simp) rfl)
          refine .inl ⟨rfl, ?_⟩
          show Oper.quietUpon _ _ _ (.pointer (some ⟨s.pb, 5, none⟩)) _
          go_simp
        · -- 30
          have d29 : a.tmps.getD 61 undef = .pointer (some ⟨s.pb, 5, none⟩) := hA.val 29 (by omega) (hdep ⟨29, .data⟩ (by simp) rfl)
          refine .inl ⟨rfl, ?_⟩
          show Oper.quietUpon _ _ _ (.slice none 0 0) _
          go_simp
        · -- 31
          refine .inl ⟨rfl, ?_⟩
          show Oper.quietUpon _ _ _ (.pointer (some ⟨s.pb, 0, none⟩)) _
          go_simp
        · -- 32
          have d31 : a.tmps.getD 63 undef = .pointer (some ⟨s.pb, 0, none⟩) := hA.val 31 (by omega) (hdep ⟨31, .data⟩ (by simp) rfl)
          refine .inl ⟨rfl, ?_⟩
          show Oper.quietUpon _ _ _ (.pointer (some ⟨s.pb, 0, none⟩)) _
          go_simp
        · -- 33
          have d32 : a.tmps.getD 64 undef = .pointer (some ⟨s.pb, 0, none⟩) := hA.val 32 (by omega) (hdep ⟨32, .data⟩ (by simp) rfl)
          refine .inl ⟨rfl, ?_⟩
          show Oper.quietUpon _ _ _ (.pointer (some ⟨s.pb, 6, none⟩)) _
          go_simp
        · -- 34
          have d33 : a.tmps.getD 65 undef = .pointer (some ⟨s.pb, 6, none⟩) := hA.val 33 (by omega) (hdep ⟨33, .data⟩ (by simp) rfl)
          refine .inl ⟨rfl, ?_⟩
          show Oper.quietUpon _ _ _ (.slice none 0 0) _
          go_simp
        · -- 35
          refine .inl ⟨rfl, ?_⟩
          show Oper.quietUpon _ _ _ (.int .i64 (s.nv : Int)) _
          go_simp
        · -- 36
          have d35 : a.tmps.getD 67 undef = .int .i64 (s.nv : Int) := hA.val 35 (by omega) (hdep ⟨35, .data⟩ (by simp) rfl)
          refine .inr ⟨rfl, ?_⟩
          show _ = Result.ok (Next.value (.slice (some ⟨w.heap.size, 0, none⟩) s.nv s.nv)) (w.alloc (.cells (Array.replicate s.nv (.int .i64 0)) 3))
          have mm := m36 w
          go_simp
        · -- 37
          refine .inl ⟨rfl, ?_⟩
          show Oper.quietUpon _ _ _ (.int .i64 (s.nv : Int)) _
          go_simp
        · -- 38
          have d37 : a.tmps.getD 69 undef = .int .i64 (s.nv : Int) := hA.val 37 (by omega) (hdep ⟨37, .data⟩ (by simp) rfl)
          refine .inr ⟨rfl, ?_⟩
          show _ = Result.ok (Next.value (.slice (some ⟨w.heap.size, 0, none⟩) s.nv s.nv)) (w.alloc (.cells (Array.replicate s.nv (.int .i64 0)) 3))
          have mm := m38 w
          go_simp
        · -- 39
          refine .inl ⟨rfl, ?_⟩
          show Oper.quietUpon _ _ _ (.int .i64 (s.nv : Int)) _
          go_simp
        · -- 40
          have d39 : a.tmps.getD 71 undef = .int .i64 (s.nv : Int) := hA.val 39 (by omega) (hdep ⟨39, .data⟩ (by simp) rfl)
          refine .inr ⟨rfl, ?_⟩
          show _ = Result.ok (Next.value (.slice (some ⟨w.heap.size, 0, none⟩) s.nv s.nv)) (w.alloc (.cells (Array.replicate s.nv (.int .i64 0)) 3))
          have mm := m40 w
          go_simp
        · -- 41
          have d0 : a.tmps.getD 32 undef = .int .i64 (s.nv : Int) := hA.val 0 (by omega) (hdep ⟨0, .data⟩ (by simp) rfl)
          have d4 : a.tmps.getD 36 undef = .int .u8 (s.st : Int) := hA.val 4 (by omega) (hdep ⟨4, .data⟩ (by simp) rfl)
          have d11 : a.tmps.getD 43 undef = .slice (some ⟨b 11, 0, none⟩) ul tc := hA.val 11 (by omega) (hdep ⟨11, .data⟩ (by simp) rfl)
          have d15 : a.tmps.getD 47 undef = .slice (some ⟨mb, 0, none⟩) s.nv s.nv := hA.val 15 (by omega) (hdep ⟨15, .data⟩ (by simp) rfl)
          have d17 : a.tmps.getD 49 undef = .slice (some ⟨b 17, 0, none⟩) s.nv s.nv := hA.val 17 (by omega) (hdep ⟨17, .data⟩ (by simp) rfl)
          have d19 : a.tmps.getD 51 undef = .slice (some ⟨b 19, 0, none⟩) s.nv s.nv := hA.val 19 (by omega) (hdep ⟨19, .data⟩ (by simp) rfl)
          have d21 : a.tmps.getD 53 undef = .slice (some ⟨b 21, 0, none⟩) s.nv s.nv := hA.val 21 (by omega) (hdep ⟨21, .data⟩ (by simp) rfl)
          have d23 : a.tmps.getD 55 undef = .slice (some ⟨b 23, 0, none⟩) s.nv s.nv := hA.val 23 (by omega) (hdep ⟨23, .data⟩ (by simp) rfl)
          have d26 : a.tmps.getD 58 undef = .int .i64 512 := hA.val 26 (by omega) (hdep ⟨26, .data⟩ (by simp) rfl)
          have d30 : a.tmps.getD 62 undef = .slice none 0 0 := hA.val 30 (by omega) (hdep ⟨30, .data⟩ (by simp) rfl)
          have d34 : a.tmps.getD 66 undef = .slice none 0 0 := hA.val 34 (by omega) (hdep ⟨34, .data⟩ (by simp) rfl)
          have d36 : a.tmps.getD 68 undef = .slice (some ⟨b 36, 0, none⟩) s.nv s.nv := hA.val 36 (by omega) (hdep ⟨36, .data⟩ (by simp) rfl)
          have d38 : a.tmps.getD 70 undef = .slice (some ⟨b 38, 0, none⟩) s.nv s.nv := hA.val 38 (by omega) (hdep ⟨38, .data⟩ (by simp) rfl)
          have d40 : a.tmps.getD 72 undef = .slice (some ⟨b 40, 0, none⟩) s.nv s.nv := hA.val 40 (by omega) (hdep ⟨40, .data⟩ (by simp) rfl)
          refine .inl ⟨rfl, ?_⟩
          show Oper.quietUpon _ _ _ (.agg (cells7 z s.pb s.nv s.st ul tc mb b)) _
          have hb := hbuild (.int .i64 (s.nv : Int)) (.int .u8 (s.st : Int)) (.slice (some ⟨b 11, 0, none⟩) ul tc) (.slice (some ⟨mb, 0, none⟩) s.nv s.nv) (.slice (some ⟨b 17, 0, none⟩) s.nv s.nv) (.slice (some ⟨b 19, 0, none⟩) s.nv s.nv) (.slice (some ⟨b 21, 0, none⟩) s.nv s.nv) (.slice (some ⟨b 23, 0, none⟩) s.nv s.nv) (.float .f64 4607182418800017408) (.float .f32 1065353216) (.int .i64 512) (.slice none 0 0) (.slice none 0 0) (.float .f64 4605380978949069210) (.slice (some ⟨b 36, 0, none⟩) s.nv s.nv) (.slice (some ⟨b 38, 0, none⟩) s.nv s.nv) (.slice (some ⟨b 40, 0, none⟩) s.nv s.nv) (by simp [Value.oneCell']) w
          refine quiet_build (L := _) rfl ?_ hb rfl
          simp [Act.eval, -Array.getD_eq_getD_getElem?, d0, d4, d11, d15, d17, d19, d21, d23, d26, d30, d34, d36, d38, d40]
        · -- 42
          have d41 : a.tmps.getD 73 undef = .agg (cells7 z s.pb s.nv s.st ul tc mb b) := hA.val 41 (by omega) (hdep ⟨41, .data⟩ (by simp) rfl)
          refine .inr ⟨rfl, ?_⟩
          refine (exec_box (t := 100) (x := .tmp 73) rfl (show a.eval (.tmp 73) = _ from d41)).trans ?_
          rw [pl7_val42, pl7_cells42, cells7_upd, updB_at]
        · -- 43
          have d42 : a.tmps.getD 74 undef = .pointer (some ⟨b 42, 0, none⟩) := hA.val 42 (by omega) (hdep ⟨42, .data⟩ (by simp) rfl)
          refine .inl ⟨rfl, ?_⟩
          show Oper.quietUpon _ _ _ (.pointer (some ⟨b 42, 0, none⟩)) _
          go_simp
      · intro b a w hA hM
        have hfin := hA.fin hinj hin
        have hmk : ∀ i ∈ [11, 17, 19, 21, 23, 36, 42], i < 44 ∧ mk7 i = true := by
          intro i hi
          simp only [List.mem_cons, List.not_mem_nil, or_false] at hi
          rcases hi with rfl | rfl | rfl | rfl | rfl | rfl | rfl <;> exact ⟨by omega, rfl⟩
        have hmd : Made7 s.nv ul tc (cells7 z s.pb s.nv s.st ul tc mb b).toList b w0 w :=
          ⟨hM.os, hM.tape, hM.output, hM.size, hM.old, fun i hi => (hM.new i (hmk i hi).1 (hmk i hi).1 (hmk i hi).2).2.1, fun i hi j hj e => hM.inj i j (hmk i hi).1 (hmk j hj).1 (hmk i hi).1 (hmk j hj).1 (hmk i hi).2 (hmk j hj).2 e,
            (hM.new 11 (by omega) (by omega) rfl).1, (hM.new 17 (by omega) (by omega) rfl).1, (hM.new 19 (by omega) (by omega) rfl).1, (hM.new 21 (by omega) (by omega) rfl).1, (hM.new 23 (by omega) (by omega) rfl).1, (hM.new 36 (by omega) (by omega) rfl).1, by
            have h42 := (hM.new 42 (by omega) (by omega) rfl).1
            simp only [pl7_cells42] at h42
            simp only [Array.toArray_toList]
            exact h42⟩
        replace hmd := Lib.hid hmd
        have hE : planEnd (pl7 z s.pb s.nv s.st ul tc mb pu cu) b ⟨#[.pointer (some ⟨s.pb, 0, none⟩), undef, .pointer none, .int .i64 (s.nv : Int), .int .i64 (tc : Int), undef, undef, undef, u8, u9, u10, u11, u12, u13, u14, u15, u16, u17, u18, u19, u20, u21, u22, u23, u24, u25, u26, u27, u28, u29, u30, u31, u32, u33, u34, u35, u36, u37, u38, u39, u40, u41, u42, u43, u44, u45, u46, u47, u48, u49, u50, u51, u52, u53, u54, u55, u56, u57, u58, u59, u60, u61, u62, u63, u64, u65, u66, u67, u68, u69, u70, u71, u72, u73, u74, u75, u76, u77, u78, u79, u80, u81, u82, u83, u84, u85, u86, u87, u88, u89, u90, u91, u92, u93, u94, u95, undef, undef, undef, u99, u100, u101, u102, u103, u104, u105, u106, u107, u108, u109, u110, u111, u112, u113, u114, u115, u116, u117, u118, u119, u120, u121, u122, u123, u124, u125, u126, u127], []⟩ 44 = ⟨#[.pointer (some ⟨s.pb, 0, none⟩), undef, .pointer none, .int .i64 (s.nv : Int), .int .i64 (tc : Int), .pointer (some ⟨b 42, 0, none⟩), undef, undef, u8, u9, u10, u11, u12, u13, u14, u15, u16, u17, u18, u19, u20, u21, u22, u23, u24, u25, u26, u27, u28, u29, u30, u31, .int .i64 (s.nv : Int), .pointer (some ⟨s.pb, 0, none⟩), .pointer (some ⟨s.pb, 0, none⟩), .pointer (some ⟨s.pb, 2, none⟩), .int .u8 (s.st : Int), .pointer (some ⟨s.pb, 0, none⟩), .pointer (some ⟨s.pb, 0, none⟩), .pointer (some ⟨s.pb, 3, none⟩), .slice pu ul cu, .int .i64 (ul : Int), .int .i64 (tc : Int), .slice (some ⟨b 11, 0, none⟩) ul tc, .pointer (some ⟨s.pb, 0, none⟩), .pointer (some ⟨s.pb, 0, none⟩), .pointer (some ⟨s.pb, 4, none⟩), .slice (some ⟨mb, 0, none⟩) s.nv s.nv, .int .i64 (s.nv : Int), .slice (some ⟨b 17, 0, none⟩) s.nv s.nv, .int .i64 (s.nv : Int), .slice (some ⟨b 19, 0, none⟩) s.nv s.nv, .int .i64 (s.nv : Int), .slice (some ⟨b 21, 0, none⟩) s.nv s.nv, .int .i64 (s.nv : Int), .slice (some ⟨b 23, 0, none⟩) s.nv s.nv, .int .u64 1, .int .u64 512, .int .i64 512, .pointer (some ⟨s.pb, 0, none⟩), .pointer (some ⟨s.pb, 0, none⟩), .pointer (some ⟨s.pb, 5, none⟩), .slice none 0 0, .pointer (some ⟨s.pb, 0, none⟩), .pointer (some ⟨s.pb, 0, none⟩), .pointer (some ⟨s.pb, 6, none⟩), .slice none 0 0, .int .i64 (s.nv : Int), .slice (some ⟨b 36, 0, none⟩) s.nv s.nv, .int .i64 (s.nv : Int), .slice (some ⟨b 38, 0, none⟩) s.nv s.nv, .int .i64 (s.nv : Int), .slice (some ⟨b 40, 0, none⟩) s.nv s.nv, .agg (cells7 z s.pb s.nv s.st ul tc mb b), .pointer (some ⟨b 42, 0, none⟩), u75, u76, u77, u78, u79, u80, u81, u82, u83, u84, u85, u86, u87, u88, u89, u90, u91, u92, u93, u94, u95, undef, undef, undef, u99, u100, u101, u102, u103, u104, u105, u106, u107, u108, u109, u110, u111, u112, u113, u114, u115, u116, u117, u118, u119, u120, u121, u122, u123, u124, u125, u126, u127], []⟩ := by kernel_rfl
        replace hfin := hfin.trans hE
        rw [hfin]
        clear hfin hE hA hM hmk
        rename_i J K' hJ hK
        show K' _ _
        refine hK _ _ (Met.intro (hJ _ _ ?_))
        (repeat apply Exists.intro)
        exact ⟨⟨b, rfl, hmd.out⟩, rfl⟩
    case rest =>
      obtain ⟨b, rfl, hmd⟩ := hcut
      have hC := cells7_len hz1 s.pb s.nv s.st ul tc mb b
      have hT := solN_tr h hmd hC hF.out.mem hvl.out hmv.out (by omega) htc1 htc2
      have g4 := cells7_4 hz1 s.pb s.nv s.st ul tc mb b
      have g94 := cells7_5094 hz1 s.pb s.nv s.st ul tc mb b
      have hHd := fun b1 b2 b3 b4 ob => solN_hd (p := s) (ul := ul) (tc := tc) (mb := mb) (b := b) hz1 hz2 b1 b2 b3 b4 ob
      generalize (cells7 z s.pb s.nv s.st ul tc mb b).toList = CL at hC hT g4 g94 hHd hmd
      have hn0 : ∀ i, nth (List.replicate ul 0) i = 0 := by
        intro i
        unfold nth
        rw [List.getD_eq_getElem?_getD, List.getElem?_replicate]
        split <;> rfl
      have hWP : WPre (solN s CL ul tc mb b) := ⟨hF.out.len, hF.out.lit, hF.out.nd, hF.out.ndv, fun _ => rfl, fun _ => rfl, fun _ => rfl, rfl, rfl,
        fun i _ => by show nth (List.replicate ul 0) i < s.nv * 2; rw [hn0]; omega, by show (List.replicate ul 0).length ≤ _; rw [List.length_replicate]; omega, hHd⟩
      have f94 : wc.cell? ⟨b 42, 5094, none⟩ = some (.slice none 0 0) := hT.rows.cell (.inl .sol) (b := b 42) rfl g94
      have c1 : wc.cell? ⟨s.pb, 1, none⟩ = some s.csV := hT.rows.cell (.inr .pb) (b := s.pb) rfl rfl
      have hW : Calls Tryz.prog 55 #[.pointer (some ⟨b 42, 0, none⟩), s.csV] wc (WLPost (solN s CL ul tc mb b) s.left wc) := initW_c hT.rows rfl hC g4 hnv0 hnv1 hF.out.csl hWP
      obtain ⟨sb, hsb⟩ : ∃ sb, sb = b 42 := ⟨_, rfl⟩
      have hsN : (solN s CL ul tc mb b).sb = sb := hsb.symm
      obtain ⟨S, hS⟩ : ∃ S, S = solN s CL ul tc mb b := ⟨_, rfl⟩
      rw [← hS] at hT hWP hW hsN
      rw [← hsb] at f94 hW ⊢
      have hSid : S.ids.length = s.cs.length := by rw [hS]; rfl
      replace hS := Lib.hid hS
      replace hWP := Lib.hid hWP
      replace hW := Lib.hid hW
      replace hT := Lib.hid hT
      replace hsb := Lib.hid hsb
      replace hsN := Lib.hid hsN
      replace hSid := Lib.hid hSid
      replace hC := Lib.hid hC
      clear hmd hHd g4 g94 hn0 hz1 hz2 hbuild m11 m17 m19 m21 m23 m36 m38 m40 f0 f2 f3 f4 f5 f6 hpl
      go_upto_region 11 with (first
        | (go_at_call 53; refine Calls.ret (resetOpt_c f94) ?_)
        | (go_at_call 54; refine Calls.ret (initAct_c f94) ?_)
        | (go_at_call 55; refine hW.out.mono ?_; rintro e w2 ⟨rfl, sW, hL⟩; replace hL := Lib.hid hL))
      have hkp := hL.out.kp
      have hsbW : sW.sb = sb := (congrArg (fun p => p.1) hkp).trans hsN.out
      have hnvW : sW.nv = s.nv := by have e : sW.nv = S.nv := hL.out.ms.nv; rw [e, hS.out]; rfl
      have hTW := hL.out.tr
      have hlW : sW.sc.length = 5102 := by have e := (hTW.rows.own (.inl .sol)).1; exact e
      obtain ⟨aB, haB⟩ : ∃ aB, aB = sW.actB := ⟨_, rfl⟩
      have f17 : w2.cell? ⟨sb, 17, none⟩ = some (.slice (some ⟨aB, 0, none⟩) s.nv s.nv) := by
        have e := hTW.rows.cell (.inl .sol) (b := sb) (by rw [← hsbW]; rfl) hL.out.hd.f17
        rw [hnvW, ← haB] at e; exact e
      have hNQ := newQ_c (ra := .inl .act) hTW.rows rfl hL.out.hd.fact (by rw [hnvW]; omega)
      rw [← haB, hnvW] at hNQ
      replace hNQ := Lib.hid hNQ
      replace hkp := Lib.hid hkp
      replace hsbW := Lib.hid hsbW
      replace hnvW := Lib.hid hnvW
      replace hTW := Lib.hid hTW
      replace hlW := Lib.hid hlW
      replace haB := Lib.hid haB
      clear f94 c1 hW
      go_upto_region 12 with (go_at_call 56; refine hNQ.out.mono ?_; rintro e w3 ⟨ρ1, C, I, qb, rfl, hCl, hIl, hQ, hQI, hmem, hT1, hρ⟩
                              obtain ⟨pc, cc, hpc⟩ := hT1.rows.shape (.inr .c)
                              obtain ⟨pi, ci, hpi⟩ := hT1.rows.shape (.inr .i)
                              have hw := withQ_tr hTW.out.rows hQ hT1 hρ hlW.out
                              generalize (ρ1 (.inr .c)).n = nc at *
                              generalize (ρ1 (.inr .i)).n = ni at *
                              rw [hpc, hpi, hsbW.out, ← haB.out, hnvW.out] at hw
                              rw [hpc, hpi]
                              clear hpc hpi hQ hT1 hρ
                              obtain ⟨hth, hTQ⟩ := hw
                              obtain ⟨x0, hx0⟩ := Option.isSome_iff_exists.1 (hth 0 (by omega)).1
                              obtain ⟨x1, hx1⟩ := Option.isSome_iff_exists.1 (hth 1 (by omega)).1
                              obtain ⟨x2, hx2⟩ := Option.isSome_iff_exists.1 (hth 2 (by omega)).1
                              have y0 := (hth 0 (by omega)).2
                              have y1 := (hth 1 (by omega)).2
                              have y2 := (hth 2 (by omega)).2
                              simp only [Nat.add_zero, Nat.reduceAdd] at hx0 hx1 hx2 y0 y1 y2
                              unfold slV at hTQ ⊢
                              replace hTQ := Lib.hid hTQ
                              replace hQI := Lib.hid hQI
                              replace hmem := Lib.hid hmem
                              replace hCl := Lib.hid hCl
                              replace hIl := Lib.hid hIl
                              clear hth)
      obtain ⟨w4, hw4⟩ : ∃ w4, w4 = ((w3.setCell ⟨sb, 21, none⟩ (.slice (some ⟨aB, 0, none⟩) s.nv s.nv)).setCell ⟨sb, 22, none⟩ (.slice pc nc cc)).setCell ⟨sb, 23, none⟩ (.slice pi ni ci) := ⟨_, rfl⟩
      have hTQ' : Tr (Sum.elim sW.row s.left) w2 (Sum.elim (sW.withQ (.slice pc nc cc) (.slice pi ni ci) C I).row s.left) w4 := by rw [hw4]; exact hTQ.out
      rw [← hw4]
      replace hw4 := Lib.hid hw4
      clear hTQ x0 x1 x2 hx0 hx1 hx2 y0 y1 y2
      have hHQ := hL.out.hd.withQ hlW.out (.slice pc nc cc) (.slice pi ni ci) C I
      have hQsb : (sW.withQ (.slice pc nc cc) (.slice pi ni ci) C I).sb = sb := hsbW.out
      have hQnv : (sW.withQ (.slice pc nc cc) (.slice pi ni ci) C I).nv = s.nv := hnvW.out
      have hQv : (sW.withQ (.slice pc nc cc) (.slice pi ni ci) C I).val = s.val := by
        have e : sW.val = S.val := hL.out.ms.val
        show sW.val = s.val
        rw [e, hS.out]; rfl
      have hQt : (sW.withQ (.slice pc nc cc) (.slice pi ni ci) C I).trail = List.replicate s.us.length 0 := by
        have e : sW.trail = S.trail := hL.out.ms.trail
        show sW.trail = _
        rw [e, hS.out, ← hule.out]; rfl
      have hfinN : ∀ w, Tr s.row w0 (Sum.elim ((sW.withQ (.slice pc nc cc) (.slice pi ni ci) C I).trU s.us s.us.length).row s.left) w → NewPost s w0 (.returned (.pointer (some ⟨sb, 0, none⟩))) w := by
        intro w hw
        have e := newOk_of hF.out hule.out hnv0 hnv1 (by rw [← hS.out]; exact hL.out) hHQ hCl.out hIl.out hQI.out hmem.out hw
        rw [hsbW.out] at e; exact e
      have hT0 : Tr s.row w0 (Sum.elim ((sW.withQ (.slice pc nc cc) (.slice pi ni ci) C I).trU s.us 0).row s.left) w4 := by
        have e : (sW.withQ (.slice pc nc cc) (.slice pi ni ci) C I).trU s.us 0 = sW.withQ (.slice pc nc cc) (.slice pi ni ci) C I := by
          unfold St.trU
          rw [List.take_zero, List.nil_append, Nat.sub_zero, ← hQt]
        rw [e]
        exact (hT.out.trans hTW.out).trans hTQ'
      obtain ⟨sQ, hsQ⟩ : ∃ sQ, sQ = sW.withQ (.slice pc nc cc) (.slice pi ni ci) C I := ⟨_, rfl⟩
      rw [← hsQ] at hHQ hQsb hQnv hQv hQt hfinN hT0
      clear hsQ hTQ'
      have hus3 : ∀ w, (∃ i, Tr s.row w0 (Sum.elim (sQ.trU s.us i).row s.left) w) → w.cell? ⟨s.pb, 3, none⟩ = some (.slice pu ul cu) := by
        rintro w ⟨i, hw⟩
        have e := hw.rows.cell (.inr .pb) (b := s.pb) (j := 3) rfl (u := s.usV) rfl
        rw [hus.out, ← hule.out] at e; exact e
      have c3 := hus3 w4 ⟨0, hT0⟩
      replace hfinN := Lib.hid hfinN
      replace hT0 := Lib.hid hT0
      replace hHQ := Lib.hid hHQ
      replace hQsb := Lib.hid hQsb
      replace hQnv := Lib.hid hQnv
      replace hQv := Lib.hid hQv
      replace hQt := Lib.hid hQt
      clear hus3
      go_wp2_with fail
      clear c3
      go_loopw [98] (fun v98 wr => ∃ i : Nat, v98 = .int .i64 (i : Int) ∧ i ≤ ul ∧ Tr s.row w0 (Sum.elim (sQ.trU s.us i).row s.left) wr) (fun v98 _ => ul - (intOf v98).toNat)
      case atStart => exact ⟨0, rfl, Nat.zero_le _, hT0.out⟩
      case round =>
        clear hT0
        obtain ⟨i, rfl, hi, hX⟩ := hrel
        by_cases hlt : i < ul
        · have hltI : (i : Int) < (ul : Int) := by omega
          have hltu : i < s.us.length := by have := hule.out; omega
          obtain ⟨ub, uc, hub1, hub2, _, _⟩ := hX.rows.open (.inr .us) (by show 0 < s.us.length; omega)
          have hub1 : s.usV = .slice (some ⟨ub, 0, none⟩) s.us.length uc := hub1
          have hpu : pu = some ⟨ub, 0, none⟩ := by
            have e := hub1
            rw [hus.out] at e
            simp at e
            exact e.1
          subst hpu
          have cu : wr.cell? ⟨ub, i, none⟩ = some (.int .i32 (nth s.us i : Nat)) := hX.rows.cell (.inr .us) hub2 (getElem?_map_getD i32 s.us 0 i hltu)
          have hlen : (sQ.trU s.us i).trail.length = s.us.length := trU_len s.us i (by omega)
          obtain ⟨tb, tcap, htb1, htb2, _, _⟩ := hX.rows.open (.inl .trail) (by show 0 < (sQ.trU s.us i).trail.length; omega)
          have htb1 : sQ.trailV = .slice (some ⟨tb, 0, none⟩) (sQ.trU s.us i).trail.length tcap := htb1
          rw [hlen] at htb1
          have hun := hF.out.us _ (nth_mem s.us i hltu)
          have t1 : Tr (Sum.elim (sQ.trU s.us i).row s.left) wr (Sum.elim (sQ.trU s.us i).row s.left) (wr.setCell ⟨sQ.modelB, nth s.us i / 2, none⟩ (.int .i64 (sgn (nth s.us i) 1))) := Rows.valSame hX.rows (v := nth s.us i / 2) (x := sgn (nth s.us i) 1) (by
            have e : sQ.va (nth s.us i / 2) = s.va (nth s.us i / 2) := by unfold MS.va PSt.va; rw [hQv.out]
            exact e.trans hun.2)
          have t2 := Rows.trU t1.rows hltu htb1
          have hX2 := ((hX.trans t1).trans t2).drew
          have c15 : wr.cell? ⟨sb, 15, none⟩ = some (.slice (some ⟨sQ.modelB, 0, none⟩) s.nv s.nv) := by
            have e := hX.rows.cell (.inl .sol) (b := sb) (by rw [← hQsb.out]; rfl) hHQ.out.f15
            rw [hQnv.out] at e; exact e
          have hm14 : (wr.setCell ⟨sQ.modelB, nth s.us i / 2, none⟩ (.int .i64 (sgn (nth s.us i) 1))).cell? ⟨sb, 14, none⟩ = some (.slice (some ⟨tb, 0, none⟩) ul tcap) := by
            have e := t1.rows.cell (.inl .sol) (b := sb) (by rw [← hQsb.out]; rfl) hHQ.out.f14
            rw [htb1, ← hule.out] at e; exact e
          have hmv1 := hX.rows.cell (.inl .model) (b := sQ.modelB) rfl (getElem?_map_getD i64 sQ.val 0 (nth s.us i / 2) (by rw [hQv.out, hvl.out]; omega))
          have hmf := hX.rows.frozen (.inl .model) (b := sQ.modelB) rfl (nth s.us i / 2)
          have htl := t1.rows.cell (.inl .trail) (b := tb) htb2 (getElem?_map_getD i32 (sQ.trU s.us i).trail 0 i (by omega))
          have htf := t1.rows.frozen (.inl .trail) (b := tb) htb2 i
          obtain ⟨u, hu⟩ : ∃ u, u = nth s.us i := ⟨_, rfl⟩
          rw [← hu] at cu hun t1 hX2 hm14 hmv1 hmf htl htf
          generalize sQ.val.getD (u / 2) 0 = x at hmv1
          generalize (sQ.trU s.us i).trail.getD i 0 = y at htl
          generalize sQ.modelB = mB at c15 hX2 hm14 hmv1 hmf htl htf
          unfold i64 at hmv1
          unfold i32 at htl
          have hus : u < 2147483648 := by omega
          have k1 : (u : Int) / 2 < (s.nv : Int) := by omega
          have k2 : (0 : Int) ≤ (u : Int) / 2 := by omega
          have k3 : ((u : Int) / 2).toNat = u / 2 := by omega
          have hP := fun w => Pos_c u w hus
          replace hu := Lib.hid hu
          clear t1 t2 hub1 hub2 htb1 htb2 hX hlen hun
          by_cases hp : u % 2 = 0
          all_goals (first | rw [decide_eq_true hp] at hP | rw [decide_eq_false hp] at hP)
          all_goals
            have hsd : sgn u 1 = if u % 2 = 0 then 1 else -1 := rfl
            simp only [hp, if_true, if_false] at hsd
            rw [hsd] at hX2 hm14 htl htf
            replace hX2 := Lib.hid hX2
            clear hsd
            go_wp2_with (go_at_call 57; refine Calls.ret (hP _) ?_)
            refine wp_region_tail 7 (by kernel_rfl) (by kernel_rfl) ?_
            simp only [List.take_succ_cons, List.take_zero, List.drop_succ_cons, List.drop_zero]
            repeat still_step
            still_call (Var_c u _ hus)
            repeat still_step
            refine wpStill_nil ?_
            go_wp2_with fail
            exact ⟨⟨i + 1, by go_num, by omega, hX2.out⟩, by simp [intOf]; omega⟩
        · have hltI : ¬ ((i : Int) < (ul : Int)) := by omega
          have e : i = s.us.length := by have := hule.out; omega
          subst e
          replace hX := Lib.hid hX
          go_wp2_with fail
          go_ret
          exact hfinN.out _ hX.out
end Go.Proofs.YtiimddkopiknpaaGreat
