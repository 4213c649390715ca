/-
  The statistics of the search; the queue's first element.
-/
import Derived.Test.YtiimddkopiknpaaGreatDoorB14
import Derived.Test.YtiimddkopiknpaaGreatDoorB03
import Derived.Deep.CutBlock
set_option linter.unusedVariables false
set_option linter.unusedSimpArgs false

/-
  The solver's statistics on learned clauses (lbdStats): only that they stay in range.
-/
namespace Go.Proofs.YtiimddkopiknpaaGreatDoor
open Go.RowKit

/-- the state with one number of the statistics changed -/
def St.setS (s : St) (j : Nat) (n : Int) : St := { s with sc := s.sc.set j (i64 n), lbdN := if j = 28 then n else s.lbdN, lbdP := if j = 29 then n else s.lbdP, tdN := if j = 33 then n else s.tdN, tdP := if j = 34 then n else s.tdP }

theorem Hd.setS {s : St} (h : Hd s) (j : Nat) (n : Int) (h1 : 26 ≤ j) (h2 : j < 5086) (h3 : j ≠ 30) (h4 : j ≠ 35) : Hd (s.setS j n) := by
  obtain ⟨h1', h3', h4', h5', h6, h7, h8, h9, h10, h11, h12, h13, h14, h15, h17, h18, h19, h20, h21, h22, h23, h24, h25, h26, h27, h28, h29, h30, h31, h32, h33, h34, h35, h36, h5087, h5088, h5094, h5097, h5098, h5099, ha, hb, hc⟩ := h
  have ex : ∀ k : Nat, (∃ m : Int, s.sc[k]? = some (i64 m)) → ∃ m : Int, (s.sc.set j (i64 n))[k]? = some (i64 m) := by
    rintro k ⟨m, hm⟩
    by_cases e : j = k
    · subst e; exact ⟨n, set_eq_get _ _ _ _ hm⟩
    · exact ⟨m, by rw [set_ne_get _ _ _ _ e]; exact hm⟩
  have nm : ∀ (k : Nat) (m : Int), s.sc[k]? = some (i64 m) → (s.sc.set j (i64 n))[k]? = some (i64 (if j = k then n else m)) := by
    intro k m hm
    by_cases e : j = k
    · subst e; rw [if_pos rfl]; exact set_eq_get _ _ _ _ hm
    · rw [if_neg e, set_ne_get _ _ _ _ e]; exact hm
  constructor <;> simp only [St.setS]
  case f26 => exact ex _ h26
  case f27 => exact ex _ h27
  case f28 => exact nm _ _ h28
  case f29 => exact nm _ _ h29
  case f31 => exact ex _ h31
  case f32 => exact ex _ h32
  case f33 => exact nm _ _ h33
  case f34 => exact nm _ _ h34
  case f30 => rw [set_ne_get _ _ _ _ h3]; exact h30
  case f35 => rw [set_ne_get _ _ _ _ h4]; exact h35
  case f36 => intro j' a b; exact ex _ (h36 j' a b)
  case f5087 => intro j' a b c; rw [set_ne_get _ _ _ _ (by omega)]; exact h5087 j' a b c
  case fact => exact ha
  case facc => exact hb
  case ftb => exact hc
  all_goals
    (first
      | (rw [set_ne_get _ _ _ _ (by omega)]; assumption)
      | (simp only [set_ne_get _ j _ _ (show j ≠ 24 by omega), set_ne_get _ j _ _ (show j ≠ 25 by omega), set_ne_get _ j _ _ (show j ≠ 5097 by omega), set_ne_get _ j _ _ (show j ≠ 5098 by omega)]; assumption))

theorem Hd.setSF {s : St} (h : Hd s) (j : Nat) (b : Nat) (hj : j = 30 ∨ j = 35) : Hd (s.setSc j (.float .f64 b)) := by
  obtain ⟨h1', h3', h4', h5', h6, h7, h8, h9, h10, h11, h12, h13, h14, h15, h17, h18, h19, h20, h21, h22, h23, h24, h25, h26, h27, h28, h29, h30, h31, h32, h33, h34, h35, h36, h5087, h5088, h5094, h5097, h5098, h5099, ha, hb, hc⟩ := h
  have ex : ∀ k : Nat, (∃ m : Nat, s.sc[k]? = some (Value.float .f64 m)) → ∃ m : Nat, (s.sc.set j (.float .f64 b))[k]? = some (Value.float .f64 m) := by
    rintro k ⟨m, hm⟩
    by_cases e : j = k
    · subst e; exact ⟨b, set_eq_get _ _ _ _ hm⟩
    · exact ⟨m, by rw [set_ne_get _ _ _ _ e]; exact hm⟩
  constructor <;> simp only [St.setSc]
  case f30 => exact ex _ h30
  case f35 => exact ex _ h35
  case f36 => intro j' a b; rw [set_ne_get _ _ _ _ (by omega)]; exact h36 j' a b
  case f5087 => intro j' a b c; rw [set_ne_get _ _ _ _ (by omega)]; exact h5087 j' a b c
  case fact => exact ha
  case facc => exact hb
  case ftb => exact hc
  all_goals
    (first
      | (rw [set_ne_get _ _ _ _ (by omega)]; assumption)
      | (simp only [set_ne_get _ j _ _ (show j ≠ 24 by omega), set_ne_get _ j _ _ (show j ≠ 25 by omega), set_ne_get _ j _ _ (show j ≠ 26 by omega), set_ne_get _ j _ _ (show j ≠ 27 by omega), set_ne_get _ j _ _ (show j ≠ 31 by omega), set_ne_get _ j _ _ (show j ≠ 32 by omega), set_ne_get _ j _ _ (show j ≠ 5097 by omega), set_ne_get _ j _ _ (show j ≠ 5098 by omega)]; assumption))

/-- the statistics are in range -/
structure StatOk (s : St) : Prop where
  n : 0 ≤ s.lbdN ∧ s.lbdN ≤ 50
  p : 0 ≤ s.lbdP ∧ s.lbdP < 50
  tn : 0 ≤ s.tdN ∧ s.tdN ≤ 5000
  tp : 0 ≤ s.tdP ∧ s.tdP < 5000

/-- what a change of the statistics leaves: all but they -/
def St.noStat (s : St) : St := { s with sc := [], lbdN := 0, lbdP := 0, tdN := 0, tdP := 0 }
structure LT (s : St) (w : World) (s' : St) (w' : World) : Prop where
  tr : Tr s.row w s'.row w'
  hd : Hd s'
  same : s'.noStat = s.noStat

theorem LT.refl {s : St} {w : World} (h : Rep s w) : LT s w s w := ⟨Tr.refl h.rows, h.hd, rfl⟩
theorem LT.rep {s s' : St} {w w' : World} (h : LT s w s' w') : Rep s' w' := ⟨h.tr.rows, h.hd⟩
theorem LT.trans {s s1 s2 : St} {w w1 w2 : World} (h : LT s w s1 w1) (h' : LT s1 w1 s2 w2) : LT s w s2 w2 := ⟨h.tr.trans h'.tr, h'.hd, h'.same.trans h.same⟩
theorem LT.drewN {s s' : St} {w w' : World} (h : LT s w s' w') (n : Nat) : LT s w s' (w'.drewN n) := ⟨h.tr.drewN n, h.hd, h.same⟩
theorem LT.drew {s s' : St} {w w' : World} (h : LT s w s' w') : LT s w s' w'.drew := h.drewN 1
theorem LT.sb {s s' : St} {w w' : World} (h : LT s w s' w') : s'.sb = s.sb := by have := congrArg St.sb h.same; simpa [St.noStat] using this

section
variable {s : St} {w : World}
theorem Rep.setS (h : Rep s w) (j : Nat) (n : Int) (h1 : 26 ≤ j) (h2 : j < 5086) (h3 : j ≠ 30) (h4 : j ≠ 35) : LT s w (s.setS j n) (w.setCell ⟨s.sb, j, none⟩ (.int .i64 n)) :=
  ⟨h.rows.set .sol rfl j (.int .i64 n) (by simp [St.row, St.setS, Row.one, i64]) (fun r hr => by cases r <;> first | rfl | contradiction), h.hd.setS j n h1 h2 h3 h4, rfl⟩
theorem Rep.setSF (h : Rep s w) (j : Nat) (b : Nat) (hj : j = 30 ∨ j = 35) : LT s w (s.setSc j (.float .f64 b)) (w.setCell ⟨s.sb, j, none⟩ (.float .f64 b)) :=
  ⟨h.rows.set .sol rfl j (.float .f64 b) (by simp [St.row, St.setSc, Row.one]) (fun r hr => by cases r <;> first | rfl | contradiction), h.hd.setSF j b hj, rfl⟩
end

attribute [local go_sem] run_store_float run_add_any run_sub_any run_mul_any run_quo_any


set_option maxRecDepth 100000 in
set_option maxHeartbeats 4000000 in
theorem lbdClear_c {s : St} {w : World} (h : Rep s w) :
    Calls Tryz.prog 65 #[.pointer (some ⟨s.sb, 26, none⟩)] w fun e w' => e = .returned (.tuple #[]) ∧ LT s w (((s.setS 29 0).setS 28 0).setSc 30 (.float .f64 0)) w' := by
  have c1 : w.cell? ⟨s.sb, 28, none⟩ = some (.int .i64 s.lbdN) := h.sc h.hd.f28
  have c2 : w.cell? ⟨s.sb, 29, none⟩ = some (.int .i64 s.lbdP) := h.sc h.hd.f29
  obtain ⟨b, hb⟩ := h.hd.f30
  have c3 := h.sc hb
  have f1 := h.scf 28
  have f2 := h.scf 29
  have f3 := h.scf 30
  have t1 := h.setS 29 0 (by omega) (by omega) (by omega) (by omega)
  have t2 := t1.rep.setS 28 0 (by omega) (by omega) (by omega) (by omega)
  have t3 := t2.rep.setSF 30 0 (.inl rfl)
  have tt := Lib.hid ((t1.trans t2).trans t3)
  clear t1 t2 t3
  go_enter Tryz.func65, Tryz.ntmps65
  go_wp2_with fail
  go_end0
  exact ⟨rfl, tt.out⟩

def MRPost (s : St) (w : World) (e : Ending) (w' : World) : Prop := ∃ bb q, e = .returned (.bool bb) ∧ (bb = true → 50 ≤ s.lbdN) ∧ w' = w.drewN q
def mrDst (i : Nat) : Nat := if i = 20 then 2 else 9 + i
def isPtr (b k : Nat) (v : Value) : Prop := v = .pointer (some ⟨b, k, none⟩)
def anyF (v : Value) : Prop := ∃ r, v = .float .f64 r
def mrT (sb : Nat) (n1 n2 : Int) : Nat → Value → Prop
  | 0 => isPtr sb 26 | 1 => isPtr sb 26 | 2 => isPtr sb 26 | 3 => isPtr sb 30 | 4 => anyF | 5 => anyF
  | 6 => isPtr sb 26 | 7 => isPtr sb 26 | 8 => isPtr sb 26 | 9 => isPtr sb 27 | 10 => fun v => v = .int .i64 n2 | 11 => anyF
  | 12 => isPtr sb 26 | 13 => isPtr sb 26 | 14 => isPtr sb 26 | 15 => isPtr sb 26 | 16 => fun v => v = .int .i64 n1 | 17 => anyF
  | 18 => anyF | _ => fun v => ∃ bb, v = .bool bb

set_option maxRecDepth 100000 in
set_option maxHeartbeats 4000000 in
theorem mustRestart_c {s : St} {w : World} (h : Rep s w) :
    Calls Tryz.prog 64 #[.pointer (some ⟨s.sb, 26, none⟩)] w (MRPost s w) := by
  have c1 : w.cell? ⟨s.sb, 28, none⟩ = some (.int .i64 s.lbdN) := h.sc h.hd.f28
  obtain ⟨n1, hn1⟩ := h.hd.f26
  obtain ⟨n2, hn2⟩ := h.hd.f27
  obtain ⟨b, hb⟩ := h.hd.f30
  have c3 := h.sc hb
  have c4 : w.cell? ⟨s.sb, 26, none⟩ = some (.int .i64 n1) := h.sc hn1
  have c5 : w.cell? ⟨s.sb, 27, none⟩ = some (.int .i64 n2) := h.sc hn2
  obtain ⟨ln, hln⟩ : ∃ ln, ln = s.lbdN := ⟨_, rfl⟩
  rw [← hln] at c1
  by_cases hl : ln < 50
  · have hl' := hl
    replace hln := Lib.hid hln
    go_enter Tryz.func64, Tryz.ntmps64
    go_wp2_with fail
    go_ret
    exact ⟨false, 0, rfl, fun h => Bool.noConfusion h, rfl⟩
  · have hl' : 50 ≤ s.lbdN := by omega
    replace hl' := Lib.hid hl'
    replace hln := Lib.hid hln
    go_enter Tryz.func64, Tryz.ntmps64
    go_upto_region 3 with fail
    have hin : ∀ i, i < 21 → mrDst i < 29 := by
      intro i hi
      unfold mrDst
      split <;> omega
    have hinj : ∀ i j, i < 21 → j < 21 → mrDst i = mrDst j → i = j := by
      intro i j hi hj e
      unfold mrDst at e
      split at e <;> split at e <;> omega
    refine wp_region_typed (mrT s.sb n1 n2) mrDst 21 (by kernel_rfl) rfl (gd_of (by kernel_rfl)) hinj hin (ord_of (by kernel_rfl)) ?_ ?_
    · intro D a q i o ho hdep hA
      have hi : i < 21 := (List.getElem?_eq_some_iff.1 ho).1
      have hor : i = 0 ∨ i = 1 ∨ i = 2 ∨ i = 3 ∨ i = 4 ∨ i = 5 ∨ i = 6 ∨ i = 7 ∨ i = 8 ∨ i = 9 ∨ i = 10 ∨ i = 11 ∨ i = 12 ∨ i = 13 ∨ i = 14 ∨ i = 15 ∨ i = 16 ∨ i = 17 ∨ i = 18 ∨ i = 19 ∨ i = 20 := by omega
      have k0 : a.tmps.getD 0 undef = .pointer (some ⟨s.sb, 26, none⟩) := (hA.keep 0 (fun i hi => by unfold mrDst; split <;> omega)).trans rfl
      have c3 : (w.drewN q).cell? ⟨s.sb, 30, none⟩ = some (.float .f64 b) := c3
      have c4 : (w.drewN q).cell? ⟨s.sb, 26, none⟩ = some (.int .i64 n1) := c4
      have c5 : (w.drewN q).cell? ⟨s.sb, 27, none⟩ = some (.int .i64 n2) := c5
      rcases hor with rfl | rfl | rfl | rfl | rfl | rfl | rfl | rfl | rfl | rfl | rfl | rfl | rfl | rfl | rfl | rfl | rfl | rfl | rfl | rfl | rfl
      all_goals (injection ho with ho; subst ho)
      · -- 0
        refine .inl ⟨.pointer (some ⟨s.sb, 26, none⟩), rfl, ?_⟩
        go_simp
      · -- 1
        have d0 : a.tmps.getD 9 undef = .pointer (some ⟨s.sb, 26, none⟩) := hA.val 0 (by omega) (hdep ⟨0, .data⟩ (by simp) rfl)
        refine .inl ⟨.pointer (some ⟨s.sb, 26, none⟩), rfl, ?_⟩
        go_simp
      · -- 2
        have d1 : a.tmps.getD 10 undef = .pointer (some ⟨s.sb, 26, none⟩) := hA.val 1 (by omega) (hdep ⟨1, .data⟩ (by simp) rfl)
        refine .inl ⟨.pointer (some ⟨s.sb, 26, none⟩), rfl, ?_⟩
        go_simp
      · -- 3
        have d2 : a.tmps.getD 11 undef = .pointer (some ⟨s.sb, 26, none⟩) := hA.val 2 (by omega) (hdep ⟨2, .data⟩ (by simp) rfl)
        refine .inl ⟨.pointer (some ⟨s.sb, 30, none⟩), rfl, ?_⟩
        go_simp
      · -- 4
        have d3 : a.tmps.getD 12 undef = .pointer (some ⟨s.sb, 30, none⟩) := hA.val 3 (by omega) (hdep ⟨3, .data⟩ (by simp) rfl)
        refine .inl ⟨.float .f64 b, ⟨_, rfl⟩, ?_⟩
        go_simp
      · -- 5
        obtain ⟨r4, d4⟩ : ∃ r, a.tmps.getD 13 undef = .float .f64 r := hA.val 4 (by omega) (hdep ⟨4, .data⟩ (by simp) rfl)
        refine .inr ⟨.float .f64 (fRes .mul .f64 r4 4605380978949069210 (w.drewN q)), fQ .mul .f64 r4 4605380978949069210, ⟨_, rfl⟩, ?_⟩
        have mm := run_mul_any (P := Tryz.prog) (w.drewN q) 66 .f64 r4 4605380978949069210
        go_simp
      · -- 6
        refine .inl ⟨.pointer (some ⟨s.sb, 26, none⟩), rfl, ?_⟩
        go_simp
      · -- 7
        have d6 : a.tmps.getD 15 undef = .pointer (some ⟨s.sb, 26, none⟩) := hA.val 6 (by omega) (hdep ⟨6, .data⟩ (by simp) rfl)
        refine .inl ⟨.pointer (some ⟨s.sb, 26, none⟩), rfl, ?_⟩
        go_simp
      · -- 8
        have d7 : a.tmps.getD 16 undef = .pointer (some ⟨s.sb, 26, none⟩) := hA.val 7 (by omega) (hdep ⟨7, .data⟩ (by simp) rfl)
        refine .inl ⟨.pointer (some ⟨s.sb, 26, none⟩), rfl, ?_⟩
        go_simp
      · -- 9
        have d8 : a.tmps.getD 17 undef = .pointer (some ⟨s.sb, 26, none⟩) := hA.val 8 (by omega) (hdep ⟨8, .data⟩ (by simp) rfl)
        refine .inl ⟨.pointer (some ⟨s.sb, 27, none⟩), rfl, ?_⟩
        go_simp
      · -- 10
        have d9 : a.tmps.getD 18 undef = .pointer (some ⟨s.sb, 27, none⟩) := hA.val 9 (by omega) (hdep ⟨9, .data⟩ (by simp) rfl)
        refine .inl ⟨.int .i64 n2, rfl, ?_⟩
        go_simp
      · -- 11
        have d10 : a.tmps.getD 19 undef = .int .i64 n2 := hA.val 10 (by omega) (hdep ⟨10, .data⟩ (by simp) rfl)
        refine .inl ⟨.float .f64 (FloatKind.f64.nearest n2), ⟨_, rfl⟩, ?_⟩
        have mm := run_convert_if (P := Tryz.prog) (w.drewN q) 3 66 .i64 .f64 n2 rfl rfl
        go_simp
      · -- 12
        refine .inl ⟨.pointer (some ⟨s.sb, 26, none⟩), rfl, ?_⟩
        go_simp
      · -- 13
        have d12 : a.tmps.getD 21 undef = .pointer (some ⟨s.sb, 26, none⟩) := hA.val 12 (by omega) (hdep ⟨12, .data⟩ (by simp) rfl)
        refine .inl ⟨.pointer (some ⟨s.sb, 26, none⟩), rfl, ?_⟩
        go_simp
      · -- 14
        have d13 : a.tmps.getD 22 undef = .pointer (some ⟨s.sb, 26, none⟩) := hA.val 13 (by omega) (hdep ⟨13, .data⟩ (by simp) rfl)
        refine .inl ⟨.pointer (some ⟨s.sb, 26, none⟩), rfl, ?_⟩
        go_simp
      · -- 15
        have d14 : a.tmps.getD 23 undef = .pointer (some ⟨s.sb, 26, none⟩) := hA.val 14 (by omega) (hdep ⟨14, .data⟩ (by simp) rfl)
        refine .inl ⟨.pointer (some ⟨s.sb, 26, none⟩), rfl, ?_⟩
        go_simp
      · -- 16
        have d15 : a.tmps.getD 24 undef = .pointer (some ⟨s.sb, 26, none⟩) := hA.val 15 (by omega) (hdep ⟨15, .data⟩ (by simp) rfl)
        refine .inl ⟨.int .i64 n1, rfl, ?_⟩
        go_simp
      · -- 17
        have d16 : a.tmps.getD 25 undef = .int .i64 n1 := hA.val 16 (by omega) (hdep ⟨16, .data⟩ (by simp) rfl)
        refine .inl ⟨.float .f64 (FloatKind.f64.nearest n1), ⟨_, rfl⟩, ?_⟩
        have mm := run_convert_if (P := Tryz.prog) (w.drewN q) 3 66 .i64 .f64 n1 rfl rfl
        go_simp
      · -- 18
        obtain ⟨r11, d11⟩ : ∃ r, a.tmps.getD 20 undef = .float .f64 r := hA.val 11 (by omega) (hdep ⟨11, .data⟩ (by simp) rfl)
        obtain ⟨r17, d17⟩ : ∃ r, a.tmps.getD 26 undef = .float .f64 r := hA.val 17 (by omega) (hdep ⟨17, .data⟩ (by simp) rfl)
        refine .inr ⟨.float .f64 (fRes .quo .f64 r11 r17 (w.drewN q)), fQ .quo .f64 r11 r17, ⟨_, rfl⟩, ?_⟩
        have mm := run_quo_any (P := Tryz.prog) (w.drewN q) 66 .f64 r11 r17
        go_simp
      · -- 19
        obtain ⟨r5, d5⟩ : ∃ r, a.tmps.getD 14 undef = .float .f64 r := hA.val 5 (by omega) (hdep ⟨5, .data⟩ (by simp) rfl)
        obtain ⟨r18, d18⟩ : ∃ r, a.tmps.getD 27 undef = .float .f64 r := hA.val 18 (by omega) (hdep ⟨18, .data⟩ (by simp) rfl)
        refine .inl ⟨.bool (FloatKind.f64.format.order r5 r18 == some .gt), ⟨_, rfl⟩, ?_⟩
        go_simp
      · -- 20
        obtain ⟨b19, d19⟩ : ∃ b, a.tmps.getD 28 undef = .bool b := hA.val 19 (by omega) (hdep ⟨19, .data⟩ (by simp) rfl)
        refine .inl ⟨.bool b19, ⟨_, rfl⟩, ?_⟩
        go_simp
    · intro a q hA
      obtain ⟨bb, h2⟩ : ∃ bb, a.tmps.getD 2 undef = .bool bb := hA.val 20 (by omega) (by omega)
      go_wp2_with fail
      refine bodyPost_ret (results_tmp rfl _ _ _) (hA.defers.trans rfl) ?_
      exact ⟨bb, q, by rw [h2], fun _ => hl'.out, rfl⟩
end Go.Proofs.YtiimddkopiknpaaGreatDoor

/-
  The solver's statistics on learned clauses: addLbd.
-/
namespace Go.Proofs.YtiimddkopiknpaaGreatDoor
open Go.RowKit

attribute [local go_sem] run_store_float run_add_any run_sub_any run_mul_any run_quo_any

def ALbPost (s : St) (w : World) (e : Ending) (w' : World) : Prop := e = .returned (.tuple #[]) ∧ ∃ s', LT s w s' w' ∧ StatOk s' ∧ s'.lbdN ≤ s.lbdN + 1

theorem Rep.stC {s : St} {w : World} (h : Rep s w) {j : Nat} (h1 : 36 ≤ j) (h2 : j < 5086) : ∃ n, w.cell? ⟨s.sb, j, none⟩ = some (.int .i64 n) := by
  obtain ⟨n, hn⟩ := h.hd.f36 j h1 h2
  exact ⟨n, h.sc hn⟩

def St.st4 (s : St) : Int × Int × Int × Int := (s.lbdN, s.lbdP, s.tdN, s.tdP)
theorem LT.stS {s s1 : St} {w w1 : World} (h : LT s w s1 w1) (j : Nat) (n : Int) (h1 : 26 ≤ j) (h2 : j < 5086) (h3 : j ≠ 30) (h4 : j ≠ 35) : LT s w (s1.setS j n) (w1.setCell ⟨s.sb, j, none⟩ (.int .i64 n)) :=
  h.trans (by rw [← h.sb]; exact h.rep.setS j n h1 h2 h3 h4)
theorem LT.stF {s s1 : St} {w w1 : World} (h : LT s w s1 w1) (j : Nat) (b : Nat) (hj : j = 30 ∨ j = 35) : LT s w (s1.setSc j (.float .f64 b)) (w1.setCell ⟨s.sb, j, none⟩ (.float .f64 b)) :=
  h.trans (by rw [← h.sb]; exact h.rep.setSF j b hj)
theorem st4_S (s : St) (j : Nat) (n : Int) (h1 : j ≠ 28) (h2 : j ≠ 29) (h3 : j ≠ 33) (h4 : j ≠ 34) : (s.setS j n).st4 = s.st4 := by
  unfold St.st4 St.setS
  simp [h1, h2, h3, h4]
theorem StatOk.mk4 {s : St} {a b c d : Int} (h : s.st4 = (a, b, c, d)) (ha : 0 ≤ a ∧ a ≤ 50) (hb : 0 ≤ b ∧ b < 50) (hc : 0 ≤ c ∧ c ≤ 5000) (hd : 0 ≤ d ∧ d < 5000) : StatOk s := by
  have z1 : s.lbdN = a := congrArg (fun p => p.1) h
  have z2 : s.lbdP = b := congrArg (fun p => p.2.1) h
  have z3 : s.tdN = c := congrArg (fun p => p.2.2.1) h
  have z4 : s.tdP = d := congrArg (fun p => p.2.2.2) h
  exact ⟨by rw [z1]; exact ha, by rw [z2]; exact hb, by rw [z3]; exact hc, by rw [z4]; exact hd⟩
theorem st4_28 {s : St} {n : Int} {a b c d : Int} (h : s.st4 = (a, b, c, d)) : (s.setS 28 n).st4 = (n, b, c, d) := by
  have z2 : s.lbdP = b := congrArg (fun p => p.2.1) h
  have z3 : s.tdN = c := congrArg (fun p => p.2.2.1) h
  have z4 : s.tdP = d := congrArg (fun p => p.2.2.2) h
  unfold St.st4 St.setS
  simp [z2, z3, z4]
theorem st4_29 {s : St} {n : Int} {a b c d : Int} (h : s.st4 = (a, b, c, d)) : (s.setS 29 n).st4 = (a, n, c, d) := by
  have z1 : s.lbdN = a := congrArg (fun p => p.1) h
  have z3 : s.tdN = c := congrArg (fun p => p.2.2.1) h
  have z4 : s.tdP = d := congrArg (fun p => p.2.2.2) h
  unfold St.st4 St.setS
  simp [z1, z3, z4]
theorem st4_33 {s : St} {n : Int} {a b c d : Int} (h : s.st4 = (a, b, c, d)) : (s.setS 33 n).st4 = (a, b, n, d) := by
  have z1 : s.lbdN = a := congrArg (fun p => p.1) h
  have z2 : s.lbdP = b := congrArg (fun p => p.2.1) h
  have z4 : s.tdP = d := congrArg (fun p => p.2.2.2) h
  unfold St.st4 St.setS
  simp [z1, z2, z4]
theorem st4_34 {s : St} {n : Int} {a b c d : Int} (h : s.st4 = (a, b, c, d)) : (s.setS 34 n).st4 = (a, b, c, n) := by
  have z1 : s.lbdN = a := congrArg (fun p => p.1) h
  have z2 : s.lbdP = b := congrArg (fun p => p.2.1) h
  have z3 : s.tdN = c := congrArg (fun p => p.2.2.1) h
  unfold St.st4 St.setS
  simp [z1, z2, z3]
/-- what is read of the statistics -/
theorem LT.cell {s s1 : St} {w w1 : World} (h : LT s w s1 w1) {j : Nat} {u : Value} (hu : s1.sc[j]? = some u) : w1.cell? ⟨s.sb, j, none⟩ = some u := by rw [← h.sb]; exact h.rep.sc hu
theorem LT.fz {s s1 : St} {w w1 : World} (h : LT s w s1 w1) (j : Nat) : w1.frozen? ⟨s.sb, j, none⟩ = false := by rw [← h.sb]; exact h.rep.scf j

set_option maxRecDepth 100000 in
set_option maxHeartbeats 4000000 in
theorem addLbd_c {s : St} {w : World} (h : Rep s w) (hk : StatOk s) (x : Int) :
    Calls Tryz.prog 74 #[.pointer (some ⟨s.sb, 26, none⟩), .int .i64 x] w (ALbPost s w) := by
  obtain ⟨n1, hn1⟩ := h.hd.f26
  obtain ⟨n2, hn2⟩ := h.hd.f27
  have c26 : w.cell? ⟨s.sb, 26, none⟩ = some (.int .i64 n1) := h.sc hn1
  have c27 : w.cell? ⟨s.sb, 27, none⟩ = some (.int .i64 n2) := h.sc hn2
  have f26 := h.scf 26
  have f27 := h.scf 27
  have t2 := ((LT.refl h).stS 26 (wrap64 (n1 + 1)) (by omega) (by omega) (by omega) (by omega)).stS 27 (wrap64 (n2 + x)) (by omega) (by omega) (by omega) (by omega)
  have e2 : ((s.setS 26 (wrap64 (n1 + 1))).setS 27 (wrap64 (n2 + x))).st4 = s.st4 := by rw [st4_S _ _ _ (by decide) (by decide) (by decide) (by decide), st4_S _ _ _ (by decide) (by decide) (by decide) (by decide)]
  obtain ⟨w1, hw1⟩ : ∃ w1, w1 = (w.setCell ⟨s.sb, 26, none⟩ (.int .i64 (wrap64 (n1 + 1)))).setCell ⟨s.sb, 27, none⟩ (.int .i64 (wrap64 (n2 + x))) := ⟨_, rfl⟩
  rw [← hw1] at t2
  generalize (s.setS 26 (wrap64 (n1 + 1))).setS 27 (wrap64 (n2 + x)) = s1 at t2 e2
  replace t2 := Lib.hid t2
  replace hw1 := Lib.hid hw1
  replace e2 := Lib.hid e2
  go_enter Tryz.func74, Tryz.ntmps74
  go_upto_region 3 with fail
  rw [← hw1.out]
  clear c26 c27 f26 f27 hw1
  have z1 : s1.lbdN = s.lbdN := congrArg (fun p => p.1) e2.out
  have z2 : s1.lbdP = s.lbdP := congrArg (fun p => p.2.1) e2.out
  have z3 : s1.tdN = s.tdN := congrArg (fun p => p.2.2.1) e2.out
  have z4 : s1.tdP = s.tdP := congrArg (fun p => p.2.2.2) e2.out
  have hT := t2.out
  have c28 := hT.cell hT.hd.f28
  have c29 := hT.cell hT.hd.f29
  obtain ⟨b, hb⟩ := hT.hd.f30
  have c30 := hT.cell hb
  rw [z1] at c28
  rw [z2] at c29
  simp only [i64] at c28 c29
  obtain ⟨k, hk1⟩ : ∃ k : Nat, s.lbdN = (k : Int) := ⟨s.lbdN.toNat, by have := hk.n.1; omega⟩
  obtain ⟨p, hp1⟩ : ∃ p : Nat, s.lbdP = (p : Int) := ⟨s.lbdP.toNat, by have := hk.p.1; omega⟩
  rw [hk1] at c28
  rw [hp1] at c29
  have hk50 : k ≤ 50 := by have := hk.n.2; omega
  have hp50 : p < 50 := by have := hk.p.2; omega
  replace hk1 := Lib.hid hk1
  replace hp1 := Lib.hid hp1
  replace z1 := Lib.hid z1
  replace z2 := Lib.hid z2
  replace z3 := Lib.hid z3
  replace z4 := Lib.hid z4
  replace hk := Lib.hid hk
  replace hT := Lib.hid hT
  by_cases hlt : k < 50
  · have hltI : (k : Int) < 50 := by omega
    go_upto_region 4 with fail
    go_cut [] (fun wx => ∃ s2, LT s w s2 wx ∧ s2.st4 = s.st4)
    case first =>
      obtain ⟨nk, hnk⟩ := hT.out.hd.f36 (36 + k) (by omega) (by omega)
      have ck := hT.out.cell hnk
      have fk := hT.out.fz (36 + k)
      refine wp_region_tail 8 (by kernel_rfl) (by kernel_rfl) ?_
      simp only [List.take_succ_cons, List.take_zero, List.drop_succ_cons, List.drop_zero]
      repeat still_step
      refine wpStill_nil ?_
      go_wp2_with fail
      go_meet
      exact ⟨_, (hT.out.stS (36 + k) x (by omega) (by omega) (by omega) (by omega)).drew, by rw [st4_S _ _ _ (by omega) (by omega) (by omega) (by omega)]; exact e2.out⟩
    case rest =>
      obtain ⟨s2, hT2, e3⟩ := hcut
      clear c28 c29 c30
      have z1 : s2.lbdN = s.lbdN := congrArg (fun p => p.1) e3
      have c28 := hT2.cell hT2.hd.f28
      obtain ⟨b, hb⟩ := hT2.hd.f30
      have c30 := hT2.cell hb
      rw [z1, hk1.out] at c28
      simp only [i64] at c28
      have f28 := hT2.fz 28
      have f30 := hT2.fz 30
      replace e3 := Lib.hid e3
      replace z1 := Lib.hid z1
      replace hT2 := Lib.hid hT2
      go_wp2_with fail
      go_end0
      refine ⟨rfl, _, ((hT2.out.drewN _).stF 30 _ (.inl rfl)).stS 28 ((k : Int) + 1) (by omega) (by omega) (by omega) (by omega), ?_, ?_⟩
      · refine StatOk.mk4 (a := (k : Int) + 1) (b := s.lbdP) (c := s.tdN) (d := s.tdP) (st4_28 (a := s.lbdN) ?_) (by omega) hk.out.p hk.out.tn hk.out.tp
        exact e3.out
      · show ((k : Int) + 1) ≤ _
        rw [hk1.out]; exact Int.le_refl _
  · have hltI : ¬ ((k : Int) < 50) := by omega
    go_upto_region 9 with fail
    have hpI : (p : Int) < 50 := by omega
    obtain ⟨nk, hnk⟩ := hT.out.hd.f36 (36 + p) (by omega) (by omega)
    have ck := hT.out.cell hnk
    simp only [i64] at ck
    go_cut [7] (fun v7 wx => v7 = .int .i64 nk ∧ ∃ q, wx = w1.drewN q)
    case first =>
      refine wp_region_tail 9 (by kernel_rfl) (by kernel_rfl) ?_
      simp only [List.take_succ_cons, List.take_zero, List.drop_succ_cons, List.drop_zero]
      repeat still_step
      refine wpStill_nil ?_
      go_wp2_with fail
      go_meet
      exact ⟨rfl, 1, rfl⟩
    case rest =>
      obtain ⟨rfl, q, rfl⟩ := hcut
      go_upto_region 10 with fail
      go_cut [] (fun wx => ∃ s2, LT s w s2 wx ∧ s2.st4 = s.st4)
      case first =>
        have fk := hT.out.fz (36 + p)
        refine wp_region_tail 8 (by kernel_rfl) (by kernel_rfl) ?_
        simp only [List.take_succ_cons, List.take_zero, List.drop_succ_cons, List.drop_zero]
        repeat still_step
        refine wpStill_nil ?_
        go_wp2_with fail
        go_meet
        exact ⟨_, ((hT.out.drewN q).stS (36 + p) x (by omega) (by omega) (by omega) (by omega)).drew, by rw [st4_S _ _ _ (by omega) (by omega) (by omega) (by omega)]; exact e2.out⟩
      case rest =>
        obtain ⟨s2, hT2, e3⟩ := hcut
        clear c28 c29 c30 ck
        have z2 : s2.lbdP = s.lbdP := congrArg (fun p => p.2.1) e3
        have c29 := hT2.cell hT2.hd.f29
        obtain ⟨b, hb⟩ := hT2.hd.f30
        have c30 := hT2.cell hb
        rw [z2, hp1.out] at c29
        simp only [i64] at c29
        have f29 := hT2.fz 29
        have f30 := hT2.fz 30
        replace e3 := Lib.hid e3
        replace z2 := Lib.hid z2
        replace hT2 := Lib.hid hT2
        by_cases h50 : p = 49
        · have h50I : ((p : Int) + 1 == 50) = true := by simp; omega
          go_wp2_with fail
          go_end0
          refine ⟨rfl, _, (((hT2.out.stS 29 50 (by omega) (by omega) (by omega) (by omega)).stS 29 0 (by omega) (by omega) (by omega) (by omega)).drewN _).stF 30 _ (.inl rfl), ?_, ?_⟩
          · refine StatOk.mk4 (a := s.lbdN) (b := 0) (c := s.tdN) (d := s.tdP) (show ((s2.setS 29 50).setS 29 0).st4 = (s.lbdN, 0, s.tdN, s.tdP) from st4_29 (b := 50) (st4_29 (b := s.lbdP) ?_)) hk.out.n (by omega) hk.out.tn hk.out.tp
            exact e3.out
          · have e : s2.lbdN = s.lbdN := congrArg (fun p => p.1) e3.out
            show s2.lbdN ≤ _
            omega
        · have h50I : ((p : Int) + 1 == 50) = false := by simp; omega
          go_wp2_with fail
          go_end0
          refine ⟨rfl, _, ((hT2.out.stS 29 ((p : Int) + 1) (by omega) (by omega) (by omega) (by omega)).drewN _).stF 30 _ (.inl rfl), ?_, ?_⟩
          · refine StatOk.mk4 (a := s.lbdN) (b := (p : Int) + 1) (c := s.tdN) (d := s.tdP) (show (s2.setS 29 ((p : Int) + 1)).st4 = (s.lbdN, (p : Int) + 1, s.tdN, s.tdP) from st4_29 (b := s.lbdP) ?_) hk.out.n (by omega) hk.out.tn hk.out.tp
            exact e3.out
          · have e : s2.lbdN = s.lbdN := congrArg (fun p => p.1) e3.out
            show s2.lbdN ≤ _
            omega

def ACfPost (s : St) (w : World) (e : Ending) (w' : World) : Prop := e = .returned (.tuple #[]) ∧ ∃ s', LT s w s' w' ∧ StatOk s' ∧ s'.lbdN ≤ s.lbdN
set_option maxRecDepth 100000 in
set_option maxHeartbeats 4000000 in
theorem addConflict_c {s : St} {w : World} (h : Rep s w) (hk : StatOk s) (x : Int) :
    Calls Tryz.prog 69 #[.pointer (some ⟨s.sb, 26, none⟩), .int .i64 x] w (ACfPost s w) := by
  obtain ⟨n1, hn1⟩ := h.hd.f31
  obtain ⟨n2, hn2⟩ := h.hd.f32
  have c26 : w.cell? ⟨s.sb, 31, none⟩ = some (.int .i64 n1) := h.sc hn1
  have c27 : w.cell? ⟨s.sb, 32, none⟩ = some (.int .i64 n2) := h.sc hn2
  have f26 := h.scf 31
  have f27 := h.scf 32
  have t2 := ((LT.refl h).stS 31 (wrap64 (n1 + 1)) (by omega) (by omega) (by omega) (by omega)).stS 32 (wrap64 (n2 + x)) (by omega) (by omega) (by omega) (by omega)
  have e2 : ((s.setS 31 (wrap64 (n1 + 1))).setS 32 (wrap64 (n2 + x))).st4 = s.st4 := by rw [st4_S _ _ _ (by decide) (by decide) (by decide) (by decide), st4_S _ _ _ (by decide) (by decide) (by decide) (by decide)]
  obtain ⟨w1, hw1⟩ : ∃ w1, w1 = (w.setCell ⟨s.sb, 31, none⟩ (.int .i64 (wrap64 (n1 + 1)))).setCell ⟨s.sb, 32, none⟩ (.int .i64 (wrap64 (n2 + x))) := ⟨_, rfl⟩
  rw [← hw1] at t2
  generalize (s.setS 31 (wrap64 (n1 + 1))).setS 32 (wrap64 (n2 + x)) = s1 at t2 e2
  replace t2 := Lib.hid t2
  replace hw1 := Lib.hid hw1
  replace e2 := Lib.hid e2
  go_enter Tryz.func69, Tryz.ntmps69
  go_upto_region 3 with fail
  rw [← hw1.out]
  clear c26 c27 f26 f27 hw1
  have z1 : s1.lbdN = s.lbdN := congrArg (fun p => p.1) e2.out
  have z2 : s1.lbdP = s.lbdP := congrArg (fun p => p.2.1) e2.out
  have z3 : s1.tdN = s.tdN := congrArg (fun p => p.2.2.1) e2.out
  have z4 : s1.tdP = s.tdP := congrArg (fun p => p.2.2.2) e2.out
  have hT := t2.out
  have c28 := hT.cell hT.hd.f33
  have c29 := hT.cell hT.hd.f34
  obtain ⟨b, hb⟩ := hT.hd.f35
  have c30 := hT.cell hb
  rw [z3] at c28
  rw [z4] at c29
  simp only [i64] at c28 c29
  obtain ⟨k, hk1⟩ : ∃ k : Nat, s.tdN = (k : Int) := ⟨s.tdN.toNat, by have := hk.tn.1; omega⟩
  obtain ⟨p, hp1⟩ : ∃ p : Nat, s.tdP = (p : Int) := ⟨s.tdP.toNat, by have := hk.tp.1; omega⟩
  rw [hk1] at c28
  rw [hp1] at c29
  have hk50 : k ≤ 5000 := by have := hk.tn.2; omega
  have hp50 : p < 5000 := by have := hk.tp.2; omega
  replace hk1 := Lib.hid hk1
  replace hp1 := Lib.hid hp1
  replace z1 := Lib.hid z1
  replace z2 := Lib.hid z2
  replace z3 := Lib.hid z3
  replace z4 := Lib.hid z4
  replace hk := Lib.hid hk
  replace hT := Lib.hid hT
  go_upto_if 30 with fail
  go_cut [] (fun wx => ∃ s2, LT s w s2 wx ∧ StatOk s2 ∧ s2.lbdN = s.lbdN)
  case first =>
    by_cases hlt : k < 5000
    · have hltI : (k : Int) < 5000 := by omega
      go_upto_region 4 with fail
      go_cut [] (fun wx => ∃ s2, LT s w s2 wx ∧ s2.st4 = s.st4)
      case first =>
        obtain ⟨nk, hnk⟩ := hT.out.hd.f36 (86 + k) (by omega) (by omega)
        have ck := hT.out.cell hnk
        have fk := hT.out.fz (86 + k)
        refine wp_region_tail 8 (by kernel_rfl) (by kernel_rfl) ?_
        simp only [List.take_succ_cons, List.take_zero, List.drop_succ_cons, List.drop_zero]
        repeat still_step
        refine wpStill_nil ?_
        go_wp2_with fail
        go_meet
        exact ⟨_, (hT.out.stS (86 + k) x (by omega) (by omega) (by omega) (by omega)).drew, by rw [st4_S _ _ _ (by omega) (by omega) (by omega) (by omega)]; exact e2.out⟩
      case rest =>
        obtain ⟨s2, hT2, e3⟩ := hcut
        clear c28 c29 c30
        have z1 : s2.tdN = s.tdN := congrArg (fun p => p.2.2.1) e3
        have c28 := hT2.cell hT2.hd.f33
        obtain ⟨b, hb⟩ := hT2.hd.f35
        have c30 := hT2.cell hb
        rw [z1, hk1.out] at c28
        simp only [i64] at c28
        have f28 := hT2.fz 33
        have f30 := hT2.fz 35
        replace e3 := Lib.hid e3
        replace z1 := Lib.hid z1
        replace hT2 := Lib.hid hT2
        go_wp2_with fail
        go_meet
        refine ⟨_, ((hT2.out.drewN _).stF 35 _ (.inr rfl)).stS 33 ((k : Int) + 1) (by omega) (by omega) (by omega) (by omega), ?_, ?_⟩
        · refine StatOk.mk4 (a := s.lbdN) (b := s.lbdP) (c := (k : Int) + 1) (d := s.tdP) (st4_33 (c := s.tdN) ?_) hk.out.n hk.out.p (by omega) hk.out.tp
          exact e3.out
        · exact (congrArg (fun p => p.1) e3.out :)
    · have hltI : ¬ ((k : Int) < 5000) := by omega
      go_upto_region 9 with fail
      have hpI : (p : Int) < 5000 := by omega
      obtain ⟨nk, hnk⟩ := hT.out.hd.f36 (86 + p) (by omega) (by omega)
      have ck := hT.out.cell hnk
      simp only [i64] at ck
      go_cut [7] (fun v7 wx => v7 = .int .i64 nk ∧ ∃ q, wx = w1.drewN q)
      case first =>
        refine wp_region_tail 9 (by kernel_rfl) (by kernel_rfl) ?_
        simp only [List.take_succ_cons, List.take_zero, List.drop_succ_cons, List.drop_zero]
        repeat still_step
        refine wpStill_nil ?_
        go_wp2_with fail
        go_meet
        exact ⟨rfl, 1, rfl⟩
      case rest =>
        obtain ⟨rfl, q, rfl⟩ := hcut
        go_upto_region 10 with fail
        go_cut [] (fun wx => ∃ s2, LT s w s2 wx ∧ s2.st4 = s.st4)
        case first =>
          have fk := hT.out.fz (86 + p)
          refine wp_region_tail 8 (by kernel_rfl) (by kernel_rfl) ?_
          simp only [List.take_succ_cons, List.take_zero, List.drop_succ_cons, List.drop_zero]
          repeat still_step
          refine wpStill_nil ?_
          go_wp2_with fail
          go_meet
          exact ⟨_, ((hT.out.drewN q).stS (86 + p) x (by omega) (by omega) (by omega) (by omega)).drew, by rw [st4_S _ _ _ (by omega) (by omega) (by omega) (by omega)]; exact e2.out⟩
        case rest =>
          obtain ⟨s2, hT2, e3⟩ := hcut
          clear c28 c29 c30 ck
          have z2 : s2.tdP = s.tdP := congrArg (fun p => p.2.2.2) e3
          have c29 := hT2.cell hT2.hd.f34
          obtain ⟨b, hb⟩ := hT2.hd.f35
          have c30 := hT2.cell hb
          rw [z2, hp1.out] at c29
          simp only [i64] at c29
          have f29 := hT2.fz 34
          have f30 := hT2.fz 35
          replace e3 := Lib.hid e3
          replace z2 := Lib.hid z2
          replace hT2 := Lib.hid hT2
          by_cases h50 : p = 4999
          · have h50I : ((p : Int) + 1 == 5000) = true := by simp; omega
            go_wp2_with fail
            go_meet
            refine ⟨_, (((hT2.out.stS 34 5000 (by omega) (by omega) (by omega) (by omega)).stS 34 0 (by omega) (by omega) (by omega) (by omega)).drewN _).stF 35 _ (.inr rfl), ?_, ?_⟩
            · refine StatOk.mk4 (a := s.lbdN) (b := s.lbdP) (c := s.tdN) (d := 0) (show ((s2.setS 34 5000).setS 34 0).st4 = (s.lbdN, s.lbdP, s.tdN, 0) from st4_34 (d := 5000) (st4_34 (d := s.tdP) ?_)) hk.out.n hk.out.p hk.out.tn (by omega)
              exact e3.out
            · exact (congrArg (fun p => p.1) e3.out :)
          · have h50I : ((p : Int) + 1 == 5000) = false := by simp; omega
            go_wp2_with fail
            go_meet
            refine ⟨_, ((hT2.out.stS 34 ((p : Int) + 1) (by omega) (by omega) (by omega) (by omega)).drewN _).stF 35 _ (.inr rfl), ?_, ?_⟩
            · refine StatOk.mk4 (a := s.lbdN) (b := s.lbdP) (c := s.tdN) (d := (p : Int) + 1) (show (s2.setS 34 ((p : Int) + 1)).st4 = (s.lbdN, s.lbdP, s.tdN, (p : Int) + 1) from st4_34 (d := s.tdP) ?_) hk.out.n hk.out.p hk.out.tn (by omega)
              exact e3.out
            · exact (congrArg (fun p => p.1) e3.out :)
  case rest =>
    obtain ⟨s2, hT2, hk2, e3⟩ := hcut
    clear c28 c29 c30
    have c33 := hT2.cell hT2.hd.f33
    have c28 := hT2.cell hT2.hd.f28
    obtain ⟨b, hb⟩ := hT2.hd.f35
    have c35 := hT2.cell hb
    simp only [i64] at c33 c28
    have hcv := fun w b => run_convert_any (P := Tryz.prog) w 66 3 .f64 .i64 b rfl rfl
    have hcl := fun q => lbdClear_c (hT2.rep.drewN q)
    rw [hT2.sb] at hcl
    replace hcl := Lib.hid hcl
    have hno : ∀ q, ACfPost s w (.returned (.tuple #[])) (wc.drewN q) := fun q => ⟨rfl, s2, hT2.drewN q, hk2, by omega⟩
    replace hno := Lib.hid hno
    replace hk2 := Lib.hid hk2
    replace hT2 := Lib.hid hT2
    replace e3 := Lib.hid e3
    have hclr : ∀ q w', LT s2 (wc.drewN q) (((s2.setS 29 0).setS 28 0).setSc 30 (.float .f64 0)) w' → ACfPost s w (.returned (.tuple #[])) w' := by
      intro q w' hL
      have hk3 := hk2.out
      refine ⟨rfl, _, (hT2.out.drewN q).trans hL, StatOk.mk4 (a := 0) (b := 0) (c := s2.tdN) (d := s2.tdP) (show ((s2.setS 29 0).setS 28 0).st4 = _ from st4_28 (st4_29 rfl)) (by omega) (by omega) hk3.tn hk3.tp, ?_⟩
      show (0 : Int) ≤ _
      exact hk.out.n.1
    replace hclr := Lib.hid hclr
    go_wp2_with (go_at_call 65; refine (hcl.out _).mono ?_; rintro e w' ⟨rfl, hLc⟩; replace hLc := Lib.hid hLc)
    all_goals
      go_end0
      first
        | exact hclr.out _ _ hLc.out
        | exact hno.out _
        | exact hno.out 0
end Go.Proofs.YtiimddkopiknpaaGreatDoor

/-
  The queue: removeMin, empty. (FnSolve's seat only.)
-/
namespace Go.Proofs.YtiimddkopiknpaaGreatDoor
open Go.RowKit

section
variable {ι : Type} {ρ : ι → Row} {rq rc ri ra : ι} {qb qo aB n : Nat} {qc : List Nat} {qi : List Int} {w : World}
/-- the content is cut -/
theorem QRow.cutC (h : QRow ρ rq rc ri ra qb qo aB n qc qi) (hw : Rows ρ w) {b cap m : Nat} (hv : (ρ rc).v = .slice (some ⟨b, 0, none⟩) qc.length cap) (hm : m ≤ qc.length) :
    ∃ ρ', QRow ρ' rq rc ri ra qb qo aB n (qc.take m) qi ∧ Tr ρ w ρ' (w.setCell ⟨qb, qo + 1, none⟩ (.slice (some ⟨b, 0, none⟩) m cap)) ∧ (ρ' rc).v = .slice (some ⟨b, 0, none⟩) m cap ∧ ρ' ri = ρ ri ∧
      ρ' rq = { ρ rq with xs := (ρ rq).xs.set (qo + 1) (.slice (some ⟨b, 0, none⟩) m cap) } ∧ (∀ r, r ≠ rc → r ≠ rq → ρ' r = ρ r) := by
  obtain ⟨V, hV⟩ := h.c
  have hn : (ρ rc).n = qc.length := by rw [hV]
  have hk : (ρ rc).k = 1 := by rw [hV]
  have hx : (ρ rc).xs = qc.map fun (n : Nat) => i64 (n : Int) := by rw [hV]
  let R : Row := { ρ rc with v := .slice (some ⟨b, 0, none⟩) m cap, n := m, xs := (ρ rc).xs.take (m * (ρ rc).k) }
  have r1 : Rows (upd ρ rc R) w := hw.cut rc m (b := b) (cap := cap) (by rw [hv, hn]) (by rw [hn]; exact hm) (upd_same _ _ _) (fun r hr => upd_ne _ _ _ hr)
  have hown : ∀ r, (upd ρ rc R r).v.ownBlock = (ρ r).v.ownBlock := by
    intro r
    by_cases e : r = rc
    · subst e; rw [upd_same, hv]; rfl
    · rw [upd_ne _ _ _ e]
  have t1 : Tr ρ w (upd ρ rc R) w := Tr.same r1 hown
  have hqne : rq ≠ rc := h.qc'
  have t2 := r1.set (ρ' := upd (upd ρ rc R) rq { ρ rq with xs := (ρ rq).xs.set (qo + 1) (.slice (some ⟨b, 0, none⟩) m cap) }) rq (b := qb) (by rw [hown]; exact h.qb) (qo + 1) (.slice (some ⟨b, 0, none⟩) m cap)
    (by rw [upd_same, upd_ne _ _ _ hqne]) (fun r hr => upd_ne _ _ _ hr)
  refine ⟨upd (upd ρ rc R) rq { ρ rq with xs := (ρ rq).xs.set (qo + 1) (.slice (some ⟨b, 0, none⟩) m cap) }, ?_, t1.trans t2, ?_, ?_, upd_same _ _ _, fun r h1 h2 => by rw [upd_ne _ _ _ h2, upd_ne _ _ _ h1]⟩
  · constructor
    · rw [upd_same]; exact h.qb
    · rw [upd_same]; simp only []; rw [set_ne_get _ _ _ _ (by omega)]; exact h.q0
    · rw [upd_same, upd_ne _ _ _ (Ne.symm hqne), upd_same]; exact set_eq_get _ _ _ _ h.q1
    · rw [upd_same, upd_ne _ _ _ (Ne.symm h.qi'), upd_ne _ _ _ (Ne.symm h.ci)]; simp only []; rw [set_ne_get _ _ _ _ (by omega)]; exact h.q2
    · refine ⟨.slice (some ⟨b, 0, none⟩) m cap, ?_⟩
      rw [upd_ne _ _ _ (Ne.symm hqne), upd_same]
      have e1 : (ρ rc).e = 3 := by rw [hV]
      show R = _
      simp only [R, hk, hx, e1, Nat.mul_one, List.map_take, List.length_take, Nat.min_eq_left hm]
    · rw [upd_ne _ _ _ (Ne.symm h.qi'), upd_ne _ _ _ (Ne.symm h.ci)]; exact h.i
    · rw [upd_ne _ _ _ (Ne.symm h.qa), upd_ne _ _ _ (Ne.symm h.ca)]; exact h.a
    · exact h.qc'
    · exact h.qi'
    · exact h.ca
    · exact h.ia
    · exact h.ci
    · exact h.qa
  · rw [upd_ne _ _ _ (Ne.symm hqne), upd_same]
  · rw [upd_ne _ _ _ (Ne.symm h.qi'), upd_ne _ _ _ (Ne.symm h.ci)]
end

theorem qempty_c {ι : Type} {ρ : ι → Row} {rq rc ri ra : ι} {qb qo aB n : Nat} {qc : List Nat} {qi : List Int} {w : World} (h : QRow ρ rq rc ri ra qb qo aB n qc qi) (hw : Rows ρ w) :
    Calls Tryz.prog 81 #[.pointer (some ⟨qb, qo, none⟩)] w fun e w' => e = .returned (.bool (qc.length == 0)) ∧ w' = w := by
  have d1 := h.hd1 hw
  obtain ⟨V, hV⟩ := h.c
  obtain ⟨p, cap, hsh⟩ := hw.shape rc
  have hn : (ρ rc).n = qc.length := by rw [hV]
  rw [hsh, hn] at d1
  clear hsh hn hV h
  go_enter Tryz.func81, Tryz.ntmps81
  go_wp2_with fail
  go_ret
  refine ⟨?_, rfl⟩
  congr 2
  by_cases h : qc.length = 0
  · simp [h]
  · have : ((qc.length : Int) == 0) = false := by simp; exact fun e => h (by simp [e])
    rw [this]; simp; exact fun e => h (by simp [e])

def remL (C : List Nat) : List Nat := (C.set 0 (nth C (C.length - 1))).take (C.length - 1)
def remI (C : List Nat) (I : List Int) : List Int := (I.set (nth C (C.length - 1)) 0).set (nth C 0) (-1)
theorem remL_len {C : List Nat} : (remL C).length = C.length - 1 := by unfold remL; simp
theorem remL_nth {C : List Nat} {k : Nat} (hk : k < C.length - 1) : nth (remL C) k = if k = 0 then nth C (C.length - 1) else nth C k := by
  unfold remL nth
  rw [List.getD_eq_getElem?_getD, List.getElem?_take, if_pos hk, List.getElem?_set]
  by_cases e : k = 0
  · subst e
    simp only [if_true]
    rw [if_pos (by omega)]; rfl
  · rw [if_neg (fun h => e h.symm), if_neg e, List.getD_eq_getElem?_getD]
theorem QI.rem {n : Nat} {C : List Nat} {I : List Int} (h : QI n C I) (hc : 0 < C.length) : QI n (remL C) (remI C I) := by
  obtain ⟨x1, x2⟩ := h.c 0 hc
  obtain ⟨y1, y2⟩ := h.c (C.length - 1) (by omega)
  have hg : ∀ v, gi (remI C I) v = if nth C 0 = v then -1 else if nth C (C.length - 1) = v then 0 else gi I v := fun v => by
    unfold remI
    rw [gi_set _ _ _ _ (by simpa using x2), gi_set _ _ _ _ y2]
  have hl : (remI C I).length = I.length := by unfold remI; simp
  refine ⟨fun k hk => ?_, fun v hv => ?_⟩
  · rw [remL_len] at hk
    rw [remL_nth hk, hl]
    split
    · exact ⟨y1, y2⟩
    · exact h.c k (by omega)
  · rw [hl] at hv
    rw [hg]
    by_cases e : nth C 0 = v
    · rw [if_pos e]; exact .inl rfl
    · rw [if_neg e]
      by_cases e2 : nth C (C.length - 1) = v
      · rw [if_pos e2]
        have : 1 < C.length := by
          apply Classical.byContradiction
          intro h1
          have : C.length - 1 = 0 := by omega
          rw [this] at e2; exact e e2
        exact .inr ⟨0, rfl, by rw [remL_len]; omega, by rw [remL_nth (by omega), if_pos rfl]; exact e2⟩
      · rw [if_neg e2]
        rcases h.i v hv with h' | ⟨k, h1, h2, h3⟩
        · exact .inl h'
        · have k0 : k ≠ 0 := fun h' => e (by rw [← h']; exact h3)
          have k1 : k ≠ C.length - 1 := fun h' => e2 (by rw [← h']; exact h3)
          exact .inr ⟨k, h1, by rw [remL_len]; omega, by rw [remL_nth (by omega), if_neg k0]; exact h3⟩
theorem rem_mem {C : List Nat} {v : Nat} (hv : v ∈ C) (hne : v ≠ nth C 0) : v ∈ remL C := by
  obtain ⟨k, hk, e⟩ := List.getElem_of_mem hv
  have e : nth C k = v := by unfold nth; rw [List.getD_eq_getElem?_getD, List.getElem?_eq_getElem hk]; exact e
  have k0 : k ≠ 0 := fun h' => hne (by rw [← e, h'])
  have key : ∀ j, j < (remL C).length → nth (remL C) j ∈ remL C := by
    intro j hj
    unfold nth; rw [List.getD_eq_getElem?_getD, List.getElem?_eq_getElem hj]; exact List.getElem_mem hj
  by_cases k1 : k = C.length - 1
  · have := key 0 (by rw [remL_len]; omega)
    rw [remL_nth (by omega), if_pos rfl, ← k1, e] at this
    exact this
  · have := key k (by rw [remL_len]; omega)
    rw [remL_nth (by omega), if_neg k0, e] at this
    exact this

def RMPost {ι : Type} (ρ0 : ι → Row) (w0 : World) (rq rc ri ra : ι) (qb qo aB n : Nat) (qc : List Nat) (qi0 : List Int) (e : Ending) (wr : World) : Prop :=
  e = .returned (.int .i64 (nth qc 0 : Nat)) ∧ ∃ (ρ : ι → Row) (C : List Nat) (I : List Int), C.length + 1 = qc.length ∧ I.length = qi0.length ∧ QRow ρ rq rc ri ra qb qo aB n C I ∧ QI n C I ∧ (∀ v ∈ qc, v ≠ nth qc 0 → v ∈ C) ∧ Tr ρ0 w0 ρ wr ∧
    ρ rq = { ρ0 rq with xs := (ρ0 rq).xs.set (qo + 1) (ρ rc).v } ∧ (ρ ri).v = (ρ0 ri).v ∧ (∀ r, r ≠ rc → r ≠ ri → r ≠ rq → ρ r = ρ0 r)

set_option maxRecDepth 100000 in
set_option maxHeartbeats 8000000 in
theorem removeMin_c {ι : Type} {ρ0 : ι → Row} {w0 : World} {rq rc ri ra : ι} {qb qo aB n : Nat} {qc : List Nat} {qi : List Int} (h : QRow ρ0 rq rc ri ra qb qo aB n qc qi) (hw : Rows ρ0 w0)
    (hQ : QI n qc qi) (hc : 0 < qc.length) (hb : qc.length ≤ 400000000) (hbi : qi.length ≤ 1000000000) :
    Calls Tryz.prog 82 #[.pointer (some ⟨qb, qo, none⟩)] w0 (RMPost ρ0 w0 rq rc ri ra qb qo aB n qc qi) := by
  obtain ⟨x1, x2⟩ := hQ.c 0 hc
  obtain ⟨y1, y2⟩ := hQ.c (qc.length - 1) (by omega)
  obtain ⟨cb, ib, cc, ic, e1, e2, e3, e4⟩ := h.at_ hw (by omega) (by omega)
  have hrem := hQ.rem hc
  have hmem : ∀ v ∈ qc, v ≠ nth qc 0 → v ∈ remL qc := fun v h1 h2 => rem_mem h1 h2
  have c1 := h.hd1 hw
  have c2 := h.hd2 hw
  rw [e3] at c1
  rw [e4] at c2
  have g0 := h.gc hw e1 hc
  have g1 := h.gc hw e1 (i := qc.length - 1) (by omega)
  have fc := hw.frozen rc e1 0
  obtain ⟨L, hL⟩ : ∃ L, L = remL qc := ⟨_, rfl⟩
  obtain ⟨J, hJ⟩ : ∃ J, J = remI qc qi := ⟨_, rfl⟩
  have hLl : L.length = qc.length - 1 := by rw [hL]; exact remL_len
  have hJl : J.length = qi.length := by rw [hJ]; unfold remI; simp
  have hL0 : (qc.set 0 (nth qc (qc.length - 1))).take (qc.length - 1) = L := hL.symm
  have hJ0 : (qi.set (nth qc (qc.length - 1)) 0).set (nth qc 0) (-1) = J := hJ.symm
  rw [← hL, ← hJ] at hrem
  rw [← hL] at hmem
  clear hL hJ hQ x1 y1
  obtain ⟨nc, hnc⟩ : ∃ nc, nc = qc.length := ⟨_, rfl⟩
  obtain ⟨ni, hni⟩ : ∃ ni, ni = qi.length := ⟨_, rfl⟩
  obtain ⟨x, hx⟩ : ∃ x, x = nth qc 0 := ⟨_, rfl⟩
  obtain ⟨y, hy⟩ : ∃ y, y = nth qc (qc.length - 1) := ⟨_, rfl⟩
  rw [← hx] at x2 g0 hmem hJ0
  rw [← hy] at y2 g1 hL0 hJ0
  rw [← hni] at x2 y2 e4 c2 hbi hJl
  rw [← hnc] at e3 c1 hb hc hLl hL0 g1
  have xI : (x : Int) < (ni : Int) := by omega
  have yI : (y : Int) < (ni : Int) := by omega
  have cI : (0 : Int) < (nc : Int) := by omega
  have g1' : w0.cell? ⟨cb, nc - 1, none⟩ = some (.int .i64 (y : Int)) := g1
  have w64 : IntKind.i64.wrap ((nc : Int) - 1) = ((nc - 1 : Nat) : Int) := by rw [IntWalk.i64_in _ (by omega)]; omega
  have cI1 : ((nc - 1 : Nat) : Int) < (nc : Int) := by omega
  have cI2 : ((nc - 1 : Nat) : Int) ≤ (cc : Int) := by
    obtain ⟨cap, k1, k2, _⟩ := hw.form rc e1
    rw [e3] at k1
    simp at k1
    omega
  replace hL0 := Lib.hid hL0
  replace hJ0 := Lib.hid hJ0
  replace hrem := Lib.hid hrem
  replace hmem := Lib.hid hmem
  replace hnc := Lib.hid hnc
  replace hni := Lib.hid hni
  replace hx := Lib.hid hx
  replace hy := Lib.hid hy
  replace hLl := Lib.hid hLl
  replace hJl := Lib.hid hJl
  replace e1 := Lib.hid e1
  replace e2 := Lib.hid e2
  replace e3 := Lib.hid e3
  replace e4 := Lib.hid e4
  clear g1
  go_enter Tryz.func82, Tryz.ntmps82
  go_upto_region 2 with fail
  refine wp_region_tail 16 (by kernel_rfl) (by kernel_rfl) ?_
  simp only [List.take_succ_cons, List.take_zero, List.drop_succ_cons, List.drop_zero]
  repeat still_step
  refine wpStill_nil ?_
  go_upto_region 3 with fail
  obtain ⟨ρ1, q1, t1, m1, m2, m3⟩ := h.setC hw e1.out 0 y
  replace t1 := t1.drew
  obtain ⟨w1, hw1⟩ : ∃ w1, w1 = (w0.setCell ⟨cb, 0, none⟩ (.int .i64 (y : Int))).drew := ⟨_, rfl⟩
  rw [← hw1] at t1 ⊢
  clear hw1 g0 g1' fc c1 c2
  have b1 : (ρ1 rc).v.ownBlock = some cb := by rw [m1]; exact e1.out
  have b2 : (ρ1 ri).v.ownBlock = some ib := by rw [m2]; exact e2.out
  have c1 := q1.hd1 t1.rows
  have c2 := q1.hd2 t1.rows
  rw [m1, e3.out] at c1
  rw [m2, e4.out] at c2
  have g0 := q1.gc t1.rows b1 (i := 0) (by rw [List.length_set, ← hnc.out]; exact hc)
  rw [nth_set' _ _ _ _ (by rw [← hnc.out]; exact hc), if_pos rfl] at g0
  have g1 := q1.gi t1.rows b2 (i := y) (by rw [← hni.out]; exact y2)
  have fi := t1.rows.frozen ri b2 y
  replace t1 := Lib.hid t1
  replace m1 := Lib.hid m1
  replace m2 := Lib.hid m2
  replace m3 := Lib.hid m3
  replace b1 := Lib.hid b1
  replace b2 := Lib.hid b2
  refine wp_region_tail 10 (by kernel_rfl) (by kernel_rfl) ?_
  simp only [List.take_succ_cons, List.take_zero, List.drop_succ_cons, List.drop_zero]
  repeat still_step
  refine wpStill_nil ?_
  go_upto_region 4 with fail
  obtain ⟨ρ2, q2, t2, o1, o2, o3⟩ := q1.setI t1.out.rows b2.out y 0
  replace t2 := t1.out.trans t2.drew
  obtain ⟨w2, hw2⟩ : ∃ w2, w2 = (w1.setCell ⟨ib, y, none⟩ (.int .i64 0)).drew := ⟨_, rfl⟩
  rw [← hw2] at t2 ⊢
  clear hw2 g0 g1 fi c1 c2
  have c2 := q2.hd2 t2.rows
  rw [o2, m2.out, e4.out] at c2
  have b3 : (ρ2 ri).v.ownBlock = some ib := by rw [o2]; exact b2.out
  have g1 := q2.gi t2.rows b3 (i := x) (by rw [List.length_set, ← hni.out]; exact x2)
  have fi := t2.rows.frozen ri b3 x
  replace t2 := Lib.hid t2
  go_upto_region 5 with fail
  obtain ⟨ρ3, q3, t3, p1, p2, p3⟩ := q2.setI t2.out.rows b3 x (-1)
  replace t3 := t2.out.trans t3
  obtain ⟨w3, hw3⟩ : ∃ w3, w3 = w2.setCell ⟨ib, x, none⟩ (.int .i64 (-1)) := ⟨_, rfl⟩
  rw [← hw3] at t3 ⊢
  clear hw3 g1 fi c2
  rw [hJ0.out] at q3
  have c1 := q3.hd1 t3.rows
  rw [p1, o1, m1.out, e3.out] at c1
  have fq := t3.rows.frozen rq q3.qb (qo + 1)
  obtain ⟨ρ4, q4, t4, r1, r2, r3, r4⟩ := q3.cutC t3.rows (b := cb) (cap := cc) (m := nc - 1) (by rw [p1, o1, m1.out, List.length_set, ← hnc.out]; exact e3.out) (by rw [List.length_set, ← hnc.out]; omega)
  rw [hL0.out] at q4
  replace t3 := Lib.hid t3
  replace q3 := Lib.hid q3
  refine wp_region_tail 12 (by kernel_rfl) (by kernel_rfl) ?_
  simp only [List.take_succ_cons, List.take_zero, List.drop_succ_cons, List.drop_zero]
  repeat still_step
  refine wpStill_nil ?_
  go_upto_region 6 with fail
  replace t4 := t3.out.trans t4.drew
  obtain ⟨w4, hw4⟩ : ∃ w4, w4 = (w3.setCell ⟨qb, qo + 1, none⟩ (.slice (some ⟨cb, 0, none⟩) (nc - 1) cc)).drew := ⟨_, rfl⟩
  rw [← hw4] at t4 ⊢
  clear hw4 c1 fq
  have c1 := q4.hd1 t4.rows
  rw [r1] at c1
  have hpd := fun hi => percDn_c q4 t4.rows hrem.out (i0 := 0) hi (by have := hLl.out; omega) (by rw [hJl.out]; exact hbi)
  have hrq : ρ4 rq = { ρ0 rq with xs := (ρ0 rq).xs.set (qo + 1) (ρ4 rc).v } := by
    rw [r3, r1, p3 rq h.qc' h.qi', o3 rq h.qc' h.qi', m3.out rq h.qc' h.qi']
  have hri : (ρ4 ri).v = (ρ0 ri).v := by rw [r2, p2, o2, m2.out]
  have hoth : ∀ r, r ≠ rc → r ≠ ri → r ≠ rq → ρ4 r = ρ0 r := fun r h1 h2 h3 => by rw [r4 r h1 h3, p3 r h1 h2, o3 r h1 h2, m3.out r h1 h2]
  replace hpd := Lib.hid hpd
  replace t4 := Lib.hid t4
  replace hrq := Lib.hid hrq
  replace hri := Lib.hid hri
  replace hoth := Lib.hid hoth
  by_cases h1 : 1 < nc - 1
  · have h1I : (1 : Int) < ((nc - 1 : Nat) : Int) := by omega
    have hp := hpd.out (by have := hLl.out; omega)
    replace hp := Lib.hid hp
    go_wp2_with (go_at_call 84; refine hp.out.mono ?_; rintro e w5 ⟨rfl, hq5⟩; replace hq5 := Lib.hid hq5)
    go_ret
    obtain ⟨ρ5, C, I, s1, s2, s3, s4, s5, s6, s7, s8, s9⟩ := hq5.out
    refine ⟨by rw [hx.out]; rfl, ρ5, C, I, by have := hLl.out; have := hnc.out; omega, by rw [s2]; exact hJl.out.trans hni.out, s3, s4, ?_, t4.out.trans s6, ?_, by rw [s8]; exact hri.out, ?_⟩
    · intro v hv hne
      exact s5.mem_iff.2 (hmem.out v hv (by rw [hx.out]; exact hne))
    · rw [s9 rq h.qc' h.qi', s7]; exact hrq.out
    · intro r h1 h2 h3
      rw [s9 r h1 h2]; exact hoth.out r h1 h2 h3
  · have h1I : ¬ ((1 : Int) < ((nc - 1 : Nat) : Int)) := by omega
    go_wp2_with fail
    go_ret
    refine ⟨by rw [hx.out]; rfl, ρ4, L, J, by have := hLl.out; have := hnc.out; omega, hJl.out.trans hni.out, q4, hrem.out, ?_, t4.out, hrq.out, hri.out, hoth.out⟩
    intro v hv hne
    exact hmem.out v hv (by rw [hx.out]; exact hne)
end Go.Proofs.YtiimddkopiknpaaGreatDoor

/-
  The queue: build. (FnSolve's seat only.)
-/
namespace Go.Proofs.YtiimddkopiknpaaGreatDoor
open Go.RowKit

/-- a list of numbers in memory, in a block that is no row -/
structure NsAt (w : World) (b : Nat) (ns : List Nat) : Prop where
  at_ : ∀ k, k < ns.length → w.cell? ⟨b, k, none⟩ = some (.int .i64 (nth ns k : Nat))
theorem NsAt.fr {w w' : World} {B : Nat → Prop} {b : Nat} {ns : List Nat} (h : NsAt w b ns) (hf : Fr B w w') (hb : b < w.heap.size) (hn : ¬ B b) : NsAt w' b ns :=
  ⟨fun k hk => by rw [hf.cell hb hn]; exact h.at_ k hk⟩

theorem QRow.cut0 {ι : Type} {ρ : ι → Row} {rq rc ri ra : ι} {qb qo aB n : Nat} {qc : List Nat} {qi : List Int} {w : World} (h : QRow ρ rq rc ri ra qb qo aB n qc qi) (hw : Rows ρ w) {p : Option Addr} {cap nc : Nat} (hv : (ρ rc).v = .slice p nc cap) (hnc : nc = qc.length) :
    ∃ ρ' V, QRow ρ' rq rc ri ra qb qo aB n [] qi ∧ Tr ρ w ρ' (w.setCell ⟨qb, qo + 1, none⟩ V) ∧ ((∃ b, p = some ⟨b, 0, none⟩ ∧ V = .slice (some ⟨b, 0, none⟩) 0 cap) ∨ (p = none ∧ V = .slice none 0 0 ∧ nc = 0 ∧ cap = 0)) ∧ (ρ' rc).v = V ∧ ρ' ri = ρ ri ∧
      ρ' rq = { ρ rq with xs := (ρ rq).xs.set (qo + 1) V } ∧ (∀ r, r ≠ rc → r ≠ rq → ρ' r = ρ r) := by
  obtain ⟨V0, hV⟩ := h.c
  cases hob : (ρ rc).v.ownBlock with
  | some b =>
    obtain ⟨cap', k1, k2, k3⟩ := hw.form rc hob
    have hn : (ρ rc).n = qc.length := by rw [hV]
    rw [hn] at k1
    have := hv.symm.trans k1
    simp at this
    obtain ⟨e1, e2, e3⟩ := this
    subst e3
    obtain ⟨ρ', a1, a2, a3, a4, a5, a6⟩ := h.cutC hw (m := 0) k1 (Nat.zero_le _)
    exact ⟨ρ', _, by simpa using a1, a2, .inl ⟨b, e1, rfl⟩, a3, a4, a5, a6⟩
  | none =>
    have hl : qc.length = 0 := by
      apply Classical.byContradiction
      intro hne
      obtain ⟨b, hb⟩ := hw.pos rc (by rw [hV]; show 0 < qc.length; omega)
      rw [hob] at hb; cases hb
    have hqc : qc = [] := List.length_eq_zero_iff.1 hl
    subst hqc
    have ho := hw.own rc
    have hv0 : (ρ rc).v = .slice none 0 0 := by
      rcases ho.2 with ⟨h', _⟩ | ⟨g', cap', cur, h', _⟩
      · exact h'
      · rw [h'] at hob; cases hob
    have := hv.symm.trans hv0
    simp at this
    obtain ⟨e1, e2, e3⟩ := this
    have hx : (ρ rq).xs.set (qo + 1) (.slice none 0 0) = (ρ rq).xs := set_same _ _ _ (by rw [← hv0]; exact h.q1)
    refine ⟨ρ, .slice none 0 0, h, hw.set rq h.qb (qo + 1) _ (by rw [hx]) (fun _ _ => rfl), .inr ⟨e1, rfl, e2, e3⟩, hv0, rfl, by rw [hx], fun _ _ _ => rfl⟩
/-- the first loop: what stands in the content is said not to stand there -/
def BQ1 {ι : Type} (ρ0 : ι → Row) (w0 : World) (rq rc ri ra : ι) (qb qo aB n : Nat) (qc : List Nat) (qi0 : List Int) (v13 : Value) (wr : World) : Prop :=
  ∃ (ρ : ι → Row) (I : List Int) (i : Nat), v13 = .int .i64 (i : Int) ∧ i ≤ qc.length ∧ I.length = qi0.length ∧ QRow ρ rq rc ri ra qb qo aB n qc I ∧ Tr ρ0 w0 ρ wr ∧
    (∀ v, v < I.length → gi I v = -1 ∨ ∃ k, i ≤ k ∧ gi I v = (k : Int) ∧ k < qc.length ∧ nth qc k = v) ∧
    (ρ rc).v = (ρ0 rc).v ∧ (ρ ri).v = (ρ0 ri).v ∧ (∀ r, r ≠ rc → r ≠ ri → ρ r = ρ0 r)
/-- the second: the first i of the numbers are put in -/
def BQ2 {ι : Type} (ρ0 : ι → Row) (w0 : World) (rq rc ri ra : ι) (qb qo aB n : Nat) (ns : List Nat) (qi0 : List Int) (v39 : Value) (wr : World) : Prop :=
  ∃ (ρ : ι → Row) (I : List Int) (i : Nat), v39 = .int .i64 (i : Int) ∧ i ≤ ns.length ∧ I.length = qi0.length ∧ QRow ρ rq rc ri ra qb qo aB n (ns.take i) I ∧ Tr ρ0 w0 ρ wr ∧
    QI n (ns.take i) I ∧ (ρ ri).v = (ρ0 ri).v ∧ ρ rq = { ρ0 rq with xs := (ρ0 rq).xs.set (qo + 1) (ρ rc).v } ∧ (∀ r, r ≠ rc → r ≠ ri → r ≠ rq → ρ r = ρ0 r)
def BQ3 {ι : Type} (ρ0 : ι → Row) (w0 : World) (rq rc ri ra : ι) (qb qo aB n : Nat) (ns : List Nat) (qi0 : List Int) (wr : World) : Prop :=
  ∃ (ρ : ι → Row) (C : List Nat) (I : List Int), C.Perm ns ∧ I.length = qi0.length ∧ QRow ρ rq rc ri ra qb qo aB n C I ∧ Tr ρ0 w0 ρ wr ∧
    QI n C I ∧ (ρ ri).v = (ρ0 ri).v ∧ ρ rq = { ρ0 rq with xs := (ρ0 rq).xs.set (qo + 1) (ρ rc).v } ∧ (∀ r, r ≠ rc → r ≠ ri → r ≠ rq → ρ r = ρ0 r)

set_option maxRecDepth 100000 in
set_option maxHeartbeats 8000000 in
theorem build_c {ι : Type} {ρ0 : ι → Row} {w0 : World} {rq rc ri ra : ι} {qb qo aB n : Nat} {qc : List Nat} {qi : List Int} (h : QRow ρ0 rq rc ri ra qb qo aB n qc qi) (hw : Rows ρ0 w0)
    (hQ : QI n qc qi) (hb : qc.length ≤ 400000000) (hbi : qi.length ≤ 1000000000) (hi0 : 0 < qi.length) {ns : List Nat} {nb nn ncap : Nat} (hn : nn = ns.length) (hn1 : ns.length ≤ 100000000) (hN : NsAt w0 nb ns) (hnb : nb < w0.heap.size) (hno : ¬ Own ρ0 nb)
    (hns : ∀ v ∈ ns, v < n ∧ v < qi.length) :
    Calls Tryz.prog 46 #[.pointer (some ⟨qb, qo, none⟩), .slice (some ⟨nb, 0, none⟩) nn ncap] w0 fun e w' => e = .returned (.tuple #[]) ∧ BQ3 ρ0 w0 rq rc ri ra qb qo aB n ns qi w' := by
  obtain ⟨iN, hiN, hz0, hz1, hz2⟩ := info_parts infoInt
  obtain ⟨V, hV⟩ := h.c
  obtain ⟨ib, ic, e2, e2', _, _⟩ := hw.open ri (by obtain ⟨V', hV'⟩ := h.i; rw [hV']; exact hi0)
  have hin : (ρ0 ri).n = qi.length := by obtain ⟨V', hV'⟩ := h.i; rw [hV']
  rw [hin] at e2
  have d1 := h.hd1 hw
  obtain ⟨p1, cap1, hsh⟩ := hw.shape rc
  have hcn : (ρ0 rc).n = qc.length := by rw [hV]
  rw [hcn] at hsh
  rw [hsh] at d1
  obtain ⟨nc, hnc⟩ : ∃ nc, nc = qc.length := ⟨_, rfl⟩
  rw [← hnc] at d1 hsh hb
  replace hsh := Lib.hid hsh
  replace hnc := Lib.hid hnc
  replace hQ := Lib.hid hQ
  replace hN := Lib.hid hN
  replace hns := Lib.hid hns
  replace e2 := Lib.hid e2
  replace e2' := Lib.hid e2'
  replace hn := Lib.hid hn
  clear hV hin hcn
  go_enter Tryz.func46, Tryz.ntmps46
  go_upto_block 0 with fail
  go_cut [] (fun wx => ∃ (ρ : ι → Row) (I : List Int), I.length = qi.length ∧ QRow ρ rq rc ri ra qb qo aB n qc I ∧ Tr ρ0 w0 ρ wx ∧ (∀ v, v < I.length → gi I v = -1) ∧
    (ρ rc).v = (ρ0 rc).v ∧ (ρ ri).v = (ρ0 ri).v ∧ (∀ r, r ≠ rc → r ≠ ri → ρ r = ρ0 r))
  case first =>
    go_wp2_with fail
    go_loopw [13] (fun v13 wr => BQ1 ρ0 w0 rq rc ri ra qb qo aB n qc qi v13 wr) (fun v13 _ => nc - (intOf v13).toNat)
    case atStart =>
      refine ⟨ρ0, qi, 0, rfl, Nat.zero_le _, rfl, h, Tr.refl hw, fun v hv => ?_, rfl, rfl, fun _ _ _ => rfl⟩
      rcases hQ.out.i v hv with h' | ⟨k, h1, h2, h3⟩
      · exact .inl h'
      · exact .inr ⟨k, Nat.zero_le _, h1, h2, h3⟩
    case round =>
      obtain ⟨ρ, I, i, rfl, hi, hI, hq, hT, hg, hv1, hv2, hoth⟩ := hrel
      have hR := hT.rows
      rw [← hnc.out] at hi
      have b2 : (ρ ri).v.ownBlock = some ib := by rw [hv2]; exact e2'.out
      replace hI := Lib.hid hI
      replace hoth := Lib.hid hoth
      by_cases hlt : i < nc
      · have hltI : (i : Int) < (nc : Int) := by omega
        have c1 := hq.hd1 hR
        have c2 := hq.hd2 hR
        obtain ⟨cb, cc, f1, f2, _, _⟩ := hR.open rc (by obtain ⟨V', hV'⟩ := hq.c; rw [hV']; show 0 < qc.length; rw [← hnc.out]; omega)
        have f3 : (ρ rc).n = qc.length := by obtain ⟨V', hV'⟩ := hq.c; rw [hV']
        rw [f1, f3, ← hnc.out] at c1
        rw [hv2, e2.out] at c2
        have hil : i < qc.length := by rw [← hnc.out]; exact hlt
        have g1 := hq.gc hR f2 hil
        obtain ⟨x1, x2⟩ := hQ.out.c i hil
        obtain ⟨x, hx⟩ : ∃ x, x = nth qc i := ⟨_, rfl⟩
        rw [← hx] at g1 x1 x2
        have xI : (x : Int) < (qi.length : Int) := by omega
        have g2 := hq.gi hR b2 (i := x) (by rw [hI.out]; exact x2)
        have fz := hR.frozen ri b2 x
        obtain ⟨ρ', q', t', m1, m2, m3⟩ := hq.setI hR b2 x (-1)
        have hrel' : BQ1 ρ0 w0 rq rc ri ra qb qo aB n qc qi (.int .i64 ((i : Int) + 1)) ((wr.setCell ⟨ib, x, none⟩ (.int .i64 (-1))).drew) := by
          refine ⟨ρ', I.set x (-1), i + 1, by simp, hil, by rw [List.length_set]; exact hI.out, q', hT.trans t'.drew, fun v hv => ?_, by rw [m1]; exact hv1, by rw [m2]; exact hv2, fun r h1 h2 => by rw [m3 r h1 h2]; exact hoth.out r h1 h2⟩
          rw [List.length_set] at hv
          rw [gi_set _ _ _ _ (by rw [hI.out]; exact x2)]
          by_cases e : x = v
          · rw [if_pos e]; exact .inl rfl
          · rw [if_neg e]
            rcases hg v hv with h' | ⟨k, k1, k2, k3, k4⟩
            · exact .inl h'
            · refine .inr ⟨k, ?_, k2, k3, k4⟩
              have : k ≠ i := fun e' => e (by rw [hx, ← e']; exact k4)
              omega
        replace hrel' := Lib.hid hrel'
        replace hg := Lib.hid hg
        replace hT := Lib.hid hT
        replace hx := Lib.hid hx
        replace t' := Lib.hid t'
        clear f1 f3 hv1 hv2 m1 m2 m3
        go_upto_region 3 with fail
        refine wp_region_tail 11 (by kernel_rfl) (by kernel_rfl) ?_
        simp only [List.take_succ_cons, List.take_zero, List.drop_succ_cons, List.drop_zero]
        repeat still_step
        refine wpStill_nil ?_
        go_wp2_with fail
        exact ⟨hrel'.out, by simp [intOf]; omega⟩
      · have hltI : ¬ ((i : Int) < (nc : Int)) := by omega
        have hfin : ∀ v, v < I.length → gi I v = -1 := by
          intro v hv
          rcases hg v hv with h' | ⟨k, k1, k2, k3, k4⟩
          · exact h'
          · rw [← hnc.out] at k3; omega
        replace hg := Lib.hid hg
        replace hfin := Lib.hid hfin
        replace hT := Lib.hid hT
        go_wp2_with fail
        go_meet
        exact ⟨ρ, I, hI.out, hq, hT.out, hfin.out, hv1, hv2, hoth.out⟩
  case rest =>
    obtain ⟨ρ, I, hI, hq, hT, hg, hv1, hv2, hoth⟩ := hcut
    clear d1
    go_upto_region 5 with fail
    go_cut [] (fun wx => ∃ (ρ : ι → Row) (I : List Int), I.length = qi.length ∧ QRow ρ rq rc ri ra qb qo aB n [] I ∧ Tr ρ0 w0 ρ wx ∧
      QI n [] I ∧ (ρ ri).v = (ρ0 ri).v ∧ ρ rq = { ρ0 rq with xs := (ρ0 rq).xs.set (qo + 1) (ρ rc).v } ∧ (∀ r, r ≠ rc → r ≠ ri → r ≠ rq → ρ r = ρ0 r))
    case first =>
      have hR := hT.rows
      have c1 := hq.hd1 hR
      rw [hv1, hsh.out] at c1
      have fq := hR.frozen rq hq.qb (qo + 1)
      obtain ⟨ρ1, V1, q1, t1, r1, r2, r3, r4, r5⟩ := hq.cut0 hR (p := p1) (cap := cap1) (nc := nc) (by rw [hv1]; exact hsh.out) hnc.out
      have hfin : ∃ (ρ : ι → Row) (I : List Int), I.length = qi.length ∧ QRow ρ rq rc ri ra qb qo aB n [] I ∧ Tr ρ0 w0 ρ (wc.setCell ⟨qb, qo + 1, none⟩ V1) ∧
          QI n [] I ∧ (ρ ri).v = (ρ0 ri).v ∧ ρ rq = { ρ0 rq with xs := (ρ0 rq).xs.set (qo + 1) (ρ rc).v } ∧ (∀ r, r ≠ rc → r ≠ ri → r ≠ rq → ρ r = ρ0 r) := by
        refine ⟨ρ1, I, hI, q1, hT.trans t1, ⟨fun k hk => by simp at hk, fun v hv => .inl (hg v hv)⟩, by rw [r3]; exact hv2, by rw [r4, r2, hoth rq h.qc' h.qi'], fun r h1 h2 h3 => by rw [r5 r h1 h3]; exact hoth r h1 h2⟩
      replace hfin := Lib.hid hfin
      replace hoth := Lib.hid hoth
      replace hg := Lib.hid hg
      replace hT := Lib.hid hT
      replace hv1 := Lib.hid hv1
      replace hv2 := Lib.hid hv2
      replace r5 := Lib.hid r5
      have hsl : (0 : Int) ≤ (cap1 : Int) := by omega
      clear t1 r2 r3 r4
      rcases r1 with ⟨b0, rfl, rfl⟩ | ⟨rfl, rfl, rfl, rfl⟩
      · go_wp2_with fail
        go_meet
        exact hfin.out
      · go_wp2_with fail
        go_meet
        exact hfin.out
    case rest =>
      clear hI hq hT hg hv1 hv2 hoth I ρ
      obtain ⟨ρ, I, hI, hq, hT, hqi, hv2, hrq, hoth⟩ := hcut
      have hB2 : BQ2 ρ0 w0 rq rc ri ra qb qo aB n ns qi (.int .i64 0) wc := ⟨ρ, I, 0, rfl, Nat.zero_le _, hI, hq, hT, hqi, hv2, hrq, hoth⟩
      clear hI hq hT hqi hv2 hrq hoth I ρ
      go_upto_block 2 with fail
      go_cut [] (fun wx => BQ2 ρ0 w0 rq rc ri ra qb qo aB n ns qi (.int .i64 (nn : Int)) wx)
      case first =>
        go_wp2_with fail
        go_loopw [39] (fun v39 wr => BQ2 ρ0 w0 rq rc ri ra qb qo aB n ns qi v39 wr) (fun v39 _ => nn - (intOf v39).toNat)
        case atStart => exact hB2
        case round =>
          clear hB2
          obtain ⟨ρ, I, i, rfl, hi, hI, hq, hT, hqi, hv2, hrq, hoth⟩ := hrel
          rw [← hn.out] at hi
          have hR := hT.rows
          by_cases hlt : i < nn
          · have hltI : (i : Int) < (nn : Int) := by omega
            have hin : i < ns.length := by rw [← hn.out]; exact hlt
            have gN := (hN.out.fr hT.fr hnb hno).at_ i hin
            obtain ⟨x, hx⟩ : ∃ x, x = nth ns i := ⟨_, rfl⟩
            have hxm : x ∈ ns := by rw [hx]; unfold nth; rw [List.getD_eq_getElem?_getD, List.getElem?_eq_getElem hin]; exact List.getElem_mem hin
            obtain ⟨x1, x2⟩ := hns.out x hxm
            rw [← hx] at gN
            have xI : (x : Int) < (qi.length : Int) := by omega
            have b2 : (ρ ri).v.ownBlock = some ib := by rw [hv2]; exact e2'.out
            have c2 := hq.hd2 hR
            rw [hv2, e2.out] at c2
            have g2 := hq.gi hR b2 (i := x) (by rw [hI]; exact x2)
            have fz := hR.frozen ri b2 x
            obtain ⟨ρ1, q1, t1, n1, n2, n3⟩ := hq.setI hR b2 x (i : Nat)
            have hins := hqi.insert (v := x) x1 (by rw [hI]; exact x2)
            have htl : (ns.take i).length = i := by rw [List.length_take]; omega
            have htk : ns.take (i + 1) = ns.take i ++ [x] := by
              rw [List.take_add_one, List.getElem?_eq_getElem hin]
              have : ns[i] = x := by rw [hx]; unfold nth; rw [List.getD_eq_getElem?_getD, List.getElem?_eq_getElem hin]; rfl
              rw [this]; rfl
            rw [htl] at hins
            replace hins := Lib.hid hins.1
            replace htl := Lib.hid htl
            replace htk := Lib.hid htk
            replace hI := Lib.hid hI
            replace hT := Lib.hid hT
            replace hqi := Lib.hid hqi
            replace hv2 := Lib.hid hv2
            replace hrq := Lib.hid hrq
            replace hoth := Lib.hid hoth
            replace hx := Lib.hid hx
            replace b2 := Lib.hid b2
            go_upto_region 10 with fail
            obtain ⟨w5, hw5⟩ : ∃ w5, w5 = wr.setCell ⟨ib, x, none⟩ (.int .i64 (i : Int)) := ⟨_, rfl⟩
            have t1 : Tr ρ wr ρ1 w5 := by rw [hw5]; exact t1
            rw [← hw5]
            clear hw5 g2 c2 fz gN hR
            have hR5 := t1.rows
            obtain ⟨V5, hV5⟩ := q1.c
            have d5 := q1.hd1 hR5
            have own5 := hR5.own rc
            have hV52 : (ρ1 rc).v = V5 := by rw [hV5]
            rw [hV5] at own5 d5
            simp only [] at own5 d5
            replace hV5 := Lib.hid hV5
            have hti : (ns.take i).length ≤ 100000000 := by rw [htl.out]; omega
            go_wp2_with (at_builtin; apply keepHid)
            refine Lib.hid ?_
            refine wpList_append_rows rfl _ _ 34 rfl 3 iN (.int .i64 0) 1 8 Tryz.underlying34 hiN hz0 hz1 hz2 rfl (by decide) V5 (ns.take i).length ((ns.take i).map fun (n : Nat) => i64 (n : Int)) rfl (own5.alloc _) ⟨w5.heap.size, 0, none⟩ 1 1 [i64 (x : Nat)] rfl rfl (cell_new_one _ _ _ _ (by simp)) (by simp [i64, Value.oneCell']) (by unfold maxLen; omega) (by omega) ?_
            intro v' w6 ho hg hf
            obtain ⟨g4, cap4, rfl, _, _⟩ := own_form ho (by omega)
            obtain ⟨p1, p2, ρ2, q2, t2, m1, m2, m3, m4⟩ := q1.appC (hR5.alloc _) x ho (by rw [hV52]; exact hg) (by rw [hV52]; exact hf)
            obtain ⟨u14, hu14⟩ := Option.isSome_iff_exists.1 p1
            have tt := (hT.out.trans (t1.alloc _)).trans t2
            rw [← htk.out] at q2
            have hfin : BQ2 ρ0 w0 rq rc ri ra qb qo aB n ns qi (.int .i64 ((i : Int) + 1)) (w6.setCell ⟨qb, qo + 1, none⟩ (.slice (some ⟨g4, 0, none⟩) ((ns.take i).length + 1) cap4)) := by
              refine ⟨ρ2, I.set x (i : Nat), i + 1, by simp, hin, by rw [List.length_set]; exact hI.out, q2, tt, by rw [htk.out]; exact hins.out, by rw [m2, n2]; exact hv2.out, ?_, ?_⟩
              · rw [m3, m1, n3 rq h.qc' h.qi', hrq.out]; simp
              · intro r h1 h2 h3
                rw [m4 r h1 h3, n3 r h1 h2]; exact hoth.out r h1 h2 h3
            replace hfin := Lib.hid hfin
            replace tt := Lib.hid tt
            replace m1 := Lib.hid m1
            replace m2 := Lib.hid m2
            replace m3 := Lib.hid m3
            replace m4 := Lib.hid m4
            clear hg hf ho t2
            go_wp2_with fail
            exact ⟨by have := hfin.out; rw [List.length_take] at this; exact this, by simp [intOf]; omega⟩
          · have hltI : ¬ ((i : Int) < (nn : Int)) := by omega
            have e : i = nn := by omega
            subst e
            have hfin : BQ2 ρ0 w0 rq rc ri ra qb qo aB n ns qi (.int .i64 (i : Int)) wr := ⟨ρ, I, i, rfl, by have := hn.out; omega, hI, hq, hT, hqi, hv2, hrq, hoth⟩
            clear hI hq hT hqi hv2 hrq hoth hR
            go_wp2_with fail
            go_meet
            exact hfin
      case rest =>
        obtain ⟨ρ, I, i, hi0', hi, hI, hq, hT, hqi, hv2, hrq, hoth⟩ := hcut
        have hi2 : i = nn := by injection hi0' with _ h'; omega
        subst hi2
        have htk : ns.take i = ns := List.take_of_length_le (by rw [← hn.out]; exact Nat.le_refl _)
        rw [htk] at hq hqi
        have hB3 : BQ3 ρ0 w0 rq rc ri ra qb qo aB n ns qi wc := ⟨ρ, ns, I, .refl _, hI, hq, hT, hqi, hv2, hrq, hoth⟩
        have c1 := hq.hd1 hT.rows
        obtain ⟨p2, cap2, hsh2⟩ := hT.rows.shape rc
        have hcn : (ρ rc).n = ns.length := by obtain ⟨V', hV'⟩ := hq.c; rw [hV']
        rw [hsh2, hcn] at c1
        obtain ⟨nl, hnl⟩ : ∃ nl, nl = ns.length := ⟨_, rfl⟩
        rw [← hnl] at c1 hn1
        replace hB3 := Lib.hid hB3
        replace hnl := Lib.hid hnl
        clear hi0' hI hq hT hqi hv2 hrq hoth htk hsh2 hcn hB2
        go_wp2_with fail
        go_loopw [7] (fun v7 wr => ∃ z : Int, v7 = .int .i64 z ∧ z < nl ∧ -1 ≤ z ∧ BQ3 ρ0 w0 rq rc ri ra qb qo aB n ns qi wr) (fun v7 _ => (intOf v7 + 1).toNat)
        case atStart => exact ⟨_, rfl, by omega, by omega, hB3.out⟩
        case round =>
          clear hB3 c1
          obtain ⟨z, rfl, hz1, hz2, ρ, C, I, hC, hI, hq, hT, hqi, hv2, hrq, hoth⟩ := hrel
          by_cases h0 : 0 ≤ z
          · obtain ⟨k, rfl⟩ : ∃ k : Nat, z = (k : Int) := ⟨z.toNat, by omega⟩
            have hCl : C.length = nl := by rw [hC.length_eq]; exact hnl.out.symm
            have hp := percDn_c hq hT.rows hqi (i0 := k) (by omega) (by omega) (by rw [hI]; exact hbi)
            have hp2 : ∀ w', QPost ρ wr rq rc ri ra qb qo aB n C I w' → BQ3 ρ0 w0 rq rc ri ra qb qo aB n ns qi w' := by
              rintro w' ⟨ρ5, C5, I5, s1, s2, s3, s4, s5, s6, s7, s8, s9⟩
              exact ⟨ρ5, C5, I5, s5.trans hC, s2.trans hI, s3, hT.trans s6, s4, by rw [s8]; exact hv2, by rw [s9 rq h.qc' h.qi', s7]; exact hrq, fun r h1 h2 h3 => by rw [s9 r h1 h2]; exact hoth r h1 h2 h3⟩
            replace hp := Lib.hid hp
            replace hp2 := Lib.hid hp2
            clear hC hI hq hT hqi hv2 hrq hoth hCl
            go_wp2_with (go_at_call 84; refine hp.out.mono ?_; rintro e w5 ⟨rfl, hq5⟩; replace hq5 := Lib.hid hq5)
            exact ⟨⟨(k : Int) - 1, by go_num, by omega, by omega, hp2.out _ hq5.out⟩, by simp [intOf]; try omega⟩
          · have hB : BQ3 ρ0 w0 rq rc ri ra qb qo aB n ns qi wr := ⟨ρ, C, I, hC, hI, hq, hT, hqi, hv2, hrq, hoth⟩
            clear hC hI hq hT hqi hv2 hrq hoth
            replace hB := Lib.hid hB
            go_wp2_with fail
            go_end0
            exact ⟨rfl, hB.out⟩
end Go.Proofs.YtiimddkopiknpaaGreatDoor
