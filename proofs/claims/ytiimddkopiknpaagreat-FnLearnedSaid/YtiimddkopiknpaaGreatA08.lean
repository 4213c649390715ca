/-
  A clause is watched.
-/
import Derived.Test.YtiimddkopiknpaaGreatA01
import Derived.Deep.Cut
import Derived.Deep.CutRange
import Derived.Deep.DeepCutAuto
set_option linter.unusedVariables false
set_option linter.unusedSimpArgs false

/-
  watchClause. (Printed by wip/tools/gen_wc.py.)
-/
namespace Go.Proofs.YtiimddkopiknpaaGreat
open Go.RowKit

theorem u32_low (x : Nat) (hx : x < 4294967296) : bits .and .u32 (x : Int) 1073741823 = ((x % 1073741824 : Nat) : Int) := by
  rw [show (1073741823 : Int) = ((1073741823 : Nat) : Int) from rfl, u32_and_nat x 1073741823 hx (by omega)]
  rw [show (1073741823 : Nat) = 2 ^ 30 - 1 from rfl, Nat.and_two_pow_sub_one_eq_mod]
theorem Card_c {c x : Nat} {w : World} (h : w.cell? ⟨c, 1, none⟩ = some (.int .u32 (x : Int))) (hx : x < 4294967296) (hk : 2147483648 ≤ x ∨ x % 1073741824 = 0) :
    Calls Tryz.prog 85 #[.pointer (some ⟨c, 0, none⟩)] w fun e w' => e = .returned (.int .i64 1) ∧ w' = w := by
  have H := Lib.hid (u32_low x hx)
  have hL := Lib.hid (Learned_c h hx)
  by_cases hb : 2147483648 ≤ x
  · have hd := Lib.hid (decide_eq_true hb)
    go_enter Tryz.func85, Tryz.ntmps85
    go_wp2_with (go_at_call 60; refine Calls.ret hL.out ?_; rw [hd.out])
    go_ret
    exact ⟨rfl, rfl⟩
  · have hd := Lib.hid (decide_eq_false hb)
    have hm : x % 1073741824 = 0 := by omega
    rw [hm, show ((0 : Nat) : Int) = 0 from rfl] at H
    clear hk
    go_enter Tryz.func85, Tryz.ntmps85
    go_wp2_with (go_at_call 60; refine Calls.ret hL.out ?_; rw [hd.out])
    go_ret
    exact ⟨by simp [H.out, wrap64], rfl⟩

/-- a clause is watched: two literals, or more -/
def MS.watch (m : MS) (c : Nat) : MS :=
  if (m.lits c).length = 2 then (m.appWb (negL (nth (m.lits c) 0)) (nth (m.lits c) 1, c)).appWb (negL (nth (m.lits c) 1)) (nth (m.lits c) 0, c)
  else (m.appWl (negL (nth (m.lits c) 0)) (nth (m.lits c) 1, c)).appWl (negL (nth (m.lits c) 1)) (nth (m.lits c) 0, c)

set_option maxRecDepth 100000 in
set_option maxHeartbeats 4000000 in
theorem watch_c {s : St} {w : World} (h : Rep s w) (hW : Wf s.toMS) {c : Nat} (hc : c ∈ s.ids) (hk : 2147483648 ≤ s.word c ∨ s.word c % 1073741824 = 0) :
    Calls Tryz.prog 69 #[.pointer (some ⟨s.sb, 0, none⟩), .pointer (some ⟨c, 0, none⟩)] w fun e w' =>
      e = .returned (.tuple #[]) ∧ ∃ s', s'.toMS = s.toMS.watch c ∧ RT s w s' w' := by
  obtain ⟨iW, hiW, hw0, hw1, hw2⟩ := info_parts infoWatcher
  have h3 := h.clc hc (j := 3) rfl
  have hcar := Card_c (h.clc hc (j := 1) rfl) (hW.word c hc) hk
  have hFst := First_s h hW hc
  have hSnd := Second_s h hW hc
  have hLen := Len_s h hW hc
  have hnv1 := hW.nv1
  have hll := hW.len c hc
  obtain ⟨a, ha⟩ : ∃ a, a = nth (s.lits c) 0 := ⟨_, rfl⟩
  obtain ⟨b, hb⟩ : ∃ b, b = nth (s.lits c) 1 := ⟨_, rfl⟩
  have ha2 : a < s.nv * 2 := by rw [ha]; exact hW.lit c hc 0 (by omega)
  have hb2 : b < s.nv * 2 := by rw [hb]; exact hW.lit c hc 1 (by omega)
  rw [← ha] at hFst
  rw [← hb] at hSnd
  replace ha := Lib.hid ha
  replace hb := Lib.hid hb
  have hna := negL_lt ha2
  have hnb := negL_lt hb2
  have hnaI : ((negL a : Nat) : Int) < (s.nv : Int) * 2 := by omega
  have hnbI : ((negL b : Nat) : Int) < (s.nv : Int) * 2 := by omega
  have ha3 : a < 2147483648 := by omega
  have hb3 : b < 2147483648 := by omega
  replace hcar := Lib.hid hcar
  replace hFst := Lib.hid hFst
  replace hSnd := Lib.hid hSnd
  replace hLen := Lib.hid hLen
  replace hW := Lib.hid hW
  clear hnv1 hll hk ha2 hb2
  go_enter Tryz.func69, Tryz.ntmps69
  by_cases hle : (s.lits c).length = 2
  · have hlenb : ((((s.lits c).length : Nat) : Int) == 2) = true := by simp; omega
    have hlen := Lib.hid hle
    clear hle
    have hlim4 := Lib.hid (hW.out.wbl _ hna)
    have hlim6 : (((s.appWb (negL a) (b, c) (.slice none 0 0)).wb (negL b))).length ≤ 1000000001 := by
      have h1 := hW.out.wbl _ hna
      have h2 := hW.out.wbl _ hnb
      have hx : (s.toMS.wb (negL b)).length ≤ 1000000000 := h2
      show (if negL b = negL a then s.wb (negL a) ++ [(b, c)] else s.wb (negL b)).length ≤ _
      split
      · simp; omega
      · omega
    replace hlim6 := Lib.hid hlim6
    go_upto_region 17 with (first
      | (go_at_call 72; refine Calls.ret (PB_c h3) ?_)
      | (go_at_call 85; refine Calls.ret hcar.out ?_)
      | (go_at_call 39; refine Calls.ret hLen.out ?_)
      | (go_at_call 81; refine Calls.ret hFst.out ?_)
      | (go_at_call 87; refine Calls.ret hSnd.out ?_)
      | (go_at_call 42; (first | refine Calls.ret (Neg_c a _ ha3) ?_ | refine Calls.ret (Neg_c b _ hb3) ?_)))
    have c94 : w.cell? ⟨s.sb, 8, none⟩ = some (.slice (some ⟨s.wbHB, 0, none⟩) (s.nv * 2) (s.nv * 2)) := by skip; exact h.sc h.hd.f8
    have ch4 : w.cell? ⟨s.wbHB, negL a, none⟩ = some (s.wbV (negL a)) := by skip; exact h.wbH (l := negL a) hna
    refine wp_region_firstI (fun w' => w'.cell? ⟨s.sb, 8, none⟩ = some (.slice (some ⟨s.wbHB, 0, none⟩) (s.nv * 2) (s.nv * 2)) ∧ w'.cell? ⟨s.wbHB, negL a, none⟩ = some (s.wbV (negL a)))
      19 [0, 1, 2, 3, 4, 5, 6, 7, 8, 9, 10, 11, 12, 13, 14, 15, 16] [17, 18] (by kernel_rfl) (by kernel_rfl) ⟨c94, ch4⟩ ?_
    iterate 17
      refine wpFirstI_cons rfl rfl (fun K hK => ?_)
      apply Exists.intro
      refine And.intro (fun w' hw' => ?_) ?_
      · obtain ⟨k9, kh⟩ := hw'
        go_simp
        first | exact rfl | exact ⟨rfl, rfl⟩
      go_simp
      refine hK _ ?_
      clear hK K
    refine wpFirstI_nil ?_
    have hR4 := h.alloc (.cells #[.int .i32 (b : Int), .pointer (some ⟨c, 0, none⟩)] 132)
    refine wpActsI_cons rfl ?_
    go_wp2_with fail
    refine ⟨⟨by skip; exact hR4.sc hR4.hd.f8, by skip; exact hR4.wbH (l := negL a) hna⟩, ?_⟩
    refine wpActsI_cons rfl ?_
    refine wpList_append_rows rfl _ _ 130 rfl 132 iW (.agg #[.int .i32 0, .pointer none]) 2 16 Tryz.underlying130 hiW hw0 hw1 hw2 rfl (by decide) (s.wbV (negL a)) (s.wb (negL a)).length (watchV (s.wb (negL a))) rfl (own_wb hR4 (t := negL a) hna) ⟨w.heap.size, 0, none⟩ 1 1 [i32 b, ptrV (some c)] rfl rfl (cell_new_two _ _ _ _ _ rfl) (by simp [i32, ptrV, Value.oneCell']) (by have := hlim4.out; unfold maxLen; omega) (by have := hlim4.out; omega) ?_
    intro v4 w4 ho hg hf4
    obtain ⟨g4, cap4, hv4, _, _⟩ := own_form ho (by omega)
    obtain ⟨m1, m2, m3⟩ := hR4.drew.midWb (t := negL a) hna ho hg hf4
    obtain ⟨p1, p2, p3⟩ := hR4.drew.appWb (t := negL a) hna (b := b) (c := c) ho hg hf4
    obtain ⟨u4, hu4⟩ := Option.isSome_iff_exists.1 p1
    have hu4 : w4.cell? ⟨s.wbHB, negL a, none⟩ = some u4 := by skip; exact hu4
    have p2 : w4.frozen? ⟨s.wbHB, negL a, none⟩ = false := by skip; exact p2
    have hT4 := ((RT.refl h).alloc (.cells #[.int .i32 (b : Int), .pointer (some ⟨c, 0, none⟩)] 132)).drew.trans p3
    subst hv4
    replace hT4 := Lib.hid hT4
    go_step
    refine ⟨⟨by skip; exact m1 8 _ hR4.hd.f8, by skip; exact m2 _ hna⟩, wpActsI_nil ?_⟩
    clear m1 m2 m3 p1 ho hg hf4 c94 ch4
    simp only [List.drop_succ_cons, List.drop_zero]
    go_upto_region 18 with fail
    generalize hs1 : s.appWb (negL a) (b, c) (.slice (some ⟨g4, 0, none⟩) ((s.wb (negL a)).length + 1) cap4) = s1 at hT4
    have e1 : s1.nv = s.nv := by rw [← hs1]; rfl
    have e2 : s1.wbHB = s.wbHB := by rw [← hs1]; rfl
    have hlim6 : (s1.wb (negL b)).length ≤ 1000000001 := by rw [← hs1]; exact hlim6.out
    have hsb1 := hT4.out.sb
    replace hlim6 := Lib.hid hlim6
    replace hs1 := Lib.hid hs1
    have hnb1 : negL b < s1.nv * 2 := by rw [e1]; exact hnb
    obtain ⟨w5, hw5⟩ : ∃ w5, w5 = w4.setCell ⟨s.wbHB, negL a, none⟩ (.slice (some ⟨g4, 0, none⟩) ((s.wb (negL a)).length + 1) cap4) := ⟨_, rfl⟩
    rw [← hw5] at hT4 ⊢
    clear hw5
    have hR5 := hT4.out.rep
    replace e1 := Lib.hid e1
    replace e2 := Lib.hid e2
    have c96 : w5.cell? ⟨s.sb, 8, none⟩ = some (.slice (some ⟨s.wbHB, 0, none⟩) (s.nv * 2) (s.nv * 2)) := by rw [← hsb1, ← e1.out, ← e2.out]; exact hR5.sc hR5.hd.f8
    have ch6 : w5.cell? ⟨s.wbHB, negL b, none⟩ = some (s1.wbV (negL b)) := by rw [← e2.out]; exact hR5.wbH (l := negL b) hnb1
    refine wp_region_firstI (fun w' => w'.cell? ⟨s.sb, 8, none⟩ = some (.slice (some ⟨s.wbHB, 0, none⟩) (s.nv * 2) (s.nv * 2)) ∧ w'.cell? ⟨s.wbHB, negL b, none⟩ = some (s1.wbV (negL b)))
      19 [0, 1, 2, 3, 4, 5, 6, 7, 8, 9, 10, 11, 12, 13, 14, 15, 16] [17, 18] (by kernel_rfl) (by kernel_rfl) ⟨c96, ch6⟩ ?_
    iterate 17
      refine wpFirstI_cons rfl rfl (fun K hK => ?_)
      apply Exists.intro
      refine And.intro (fun w' hw' => ?_) ?_
      · obtain ⟨k9, kh⟩ := hw'
        go_simp
        first | exact rfl | exact ⟨rfl, rfl⟩
      go_simp
      refine hK _ ?_
      clear hK K
    refine wpFirstI_nil ?_
    have hR6 := hR5.alloc (.cells #[.int .i32 (a : Int), .pointer (some ⟨c, 0, none⟩)] 132)
    refine wpActsI_cons rfl ?_
    go_wp2_with fail
    refine ⟨⟨by rw [← hsb1, ← e1.out, ← e2.out]; exact hR6.sc hR6.hd.f8, by rw [← e2.out]; exact hR6.wbH (l := negL b) hnb1⟩, ?_⟩
    refine wpActsI_cons rfl ?_
    refine wpList_append_rows rfl _ _ 130 rfl 132 iW (.agg #[.int .i32 0, .pointer none]) 2 16 Tryz.underlying130 hiW hw0 hw1 hw2 rfl (by decide) (s1.wbV (negL b)) (s1.wb (negL b)).length (watchV (s1.wb (negL b))) rfl (own_wb hR6 (t := negL b) hnb1) ⟨w5.heap.size, 0, none⟩ 1 1 [i32 a, ptrV (some c)] rfl rfl (cell_new_two _ _ _ _ _ rfl) (by simp [i32, ptrV, Value.oneCell']) (by have := hlim6.out; unfold maxLen; omega) (by have := hlim6.out; omega) ?_
    intro v6 w6 ho hg hf6
    obtain ⟨g6, cap6, hv6, _, _⟩ := own_form ho (by omega)
    obtain ⟨m1, m2, m3⟩ := hR6.drew.midWb (t := negL b) hnb1 ho hg hf6
    obtain ⟨p1, p2, p3⟩ := hR6.drew.appWb (t := negL b) hnb1 (b := a) (c := c) ho hg hf6
    obtain ⟨u6, hu6⟩ := Option.isSome_iff_exists.1 p1
    have hu6 : w6.cell? ⟨s.wbHB, negL b, none⟩ = some u6 := by rw [← e2.out]; exact hu6
    have p2 : w6.frozen? ⟨s.wbHB, negL b, none⟩ = false := by rw [← e2.out]; exact p2
    have hT6 := (hT4.out.alloc (.cells #[.int .i32 (a : Int), .pointer (some ⟨c, 0, none⟩)] 132)).drew.trans p3
    subst hv6
    replace hT6 := Lib.hid hT6
    go_step
    refine ⟨⟨by rw [← hsb1, ← e1.out, ← e2.out]; exact m1 8 _ hR6.hd.f8, by rw [← e2.out]; exact m2 _ hnb1⟩, wpActsI_nil ?_⟩
    clear m1 m2 m3 p1 ho hg hf6 c96 ch6
    simp only [List.drop_succ_cons, List.drop_zero]
    go_wp2_with fail
    go_end0
    have hT7 := hT6.out
    rw [e2.out] at hT7
    refine ⟨rfl, _, ?_, hT7⟩
    show (s1.toMS.appWb (negL b) (a, c)) = _
    rw [← hs1.out]
    unfold MS.watch
    rw [if_pos hlen.out, ← ha.out, ← hb.out]
    rfl
  · have hlenb : ((((s.lits c).length : Nat) : Int) == 2) = false := by simp; omega
    have hlen := Lib.hid hle
    clear hle
    have hlim4 := Lib.hid (hW.out.wll _ hna)
    have hlim6 : (((s.appWl (negL a) (b, c) (.slice none 0 0)).wl (negL b))).length ≤ 1000000001 := by
      have h1 := hW.out.wll _ hna
      have h2 := hW.out.wll _ hnb
      have hx : (s.toMS.wl (negL b)).length ≤ 1000000000 := h2
      show (if negL b = negL a then s.wl (negL a) ++ [(b, c)] else s.wl (negL b)).length ≤ _
      split
      · simp; omega
      · omega
    replace hlim6 := Lib.hid hlim6
    go_upto_region 23 with (first
      | (go_at_call 72; refine Calls.ret (PB_c h3) ?_)
      | (go_at_call 85; refine Calls.ret hcar.out ?_)
      | (go_at_call 39; refine Calls.ret hLen.out ?_)
      | (go_at_call 81; refine Calls.ret hFst.out ?_)
      | (go_at_call 87; refine Calls.ret hSnd.out ?_)
      | (go_at_call 42; (first | refine Calls.ret (Neg_c a _ ha3) ?_ | refine Calls.ret (Neg_c b _ hb3) ?_)))
    have c94 : w.cell? ⟨s.sb, 9, none⟩ = some (.slice (some ⟨s.wlHB, 0, none⟩) (s.nv * 2) (s.nv * 2)) := by skip; exact h.sc h.hd.f9
    have ch4 : w.cell? ⟨s.wlHB, negL a, none⟩ = some (s.wlV (negL a)) := by skip; exact h.wlH (l := negL a) hna
    refine wp_region_firstI (fun w' => w'.cell? ⟨s.sb, 9, none⟩ = some (.slice (some ⟨s.wlHB, 0, none⟩) (s.nv * 2) (s.nv * 2)) ∧ w'.cell? ⟨s.wlHB, negL a, none⟩ = some (s.wlV (negL a)))
      19 [0, 1, 2, 3, 4, 5, 6, 7, 8, 9, 10, 11, 12, 13, 14, 15, 16] [17, 18] (by kernel_rfl) (by kernel_rfl) ⟨c94, ch4⟩ ?_
    iterate 17
      refine wpFirstI_cons rfl rfl (fun K hK => ?_)
      apply Exists.intro
      refine And.intro (fun w' hw' => ?_) ?_
      · obtain ⟨k9, kh⟩ := hw'
        go_simp
        first | exact rfl | exact ⟨rfl, rfl⟩
      go_simp
      refine hK _ ?_
      clear hK K
    refine wpFirstI_nil ?_
    have hR4 := h.alloc (.cells #[.int .i32 (b : Int), .pointer (some ⟨c, 0, none⟩)] 132)
    refine wpActsI_cons rfl ?_
    go_wp2_with fail
    refine ⟨⟨by skip; exact hR4.sc hR4.hd.f9, by skip; exact hR4.wlH (l := negL a) hna⟩, ?_⟩
    refine wpActsI_cons rfl ?_
    refine wpList_append_rows rfl _ _ 130 rfl 132 iW (.agg #[.int .i32 0, .pointer none]) 2 16 Tryz.underlying130 hiW hw0 hw1 hw2 rfl (by decide) (s.wlV (negL a)) (s.wl (negL a)).length (watchV (s.wl (negL a))) rfl (own_wl hR4 (t := negL a) hna) ⟨w.heap.size, 0, none⟩ 1 1 [i32 b, ptrV (some c)] rfl rfl (cell_new_two _ _ _ _ _ rfl) (by simp [i32, ptrV, Value.oneCell']) (by have := hlim4.out; unfold maxLen; omega) (by have := hlim4.out; omega) ?_
    intro v4 w4 ho hg hf4
    obtain ⟨g4, cap4, hv4, _, _⟩ := own_form ho (by omega)
    obtain ⟨m1, m2, m3⟩ := hR4.drew.midWl (t := negL a) hna ho hg hf4
    obtain ⟨p1, p2, p3⟩ := hR4.drew.appWl (t := negL a) hna (b := b) (c := c) ho hg hf4
    obtain ⟨u4, hu4⟩ := Option.isSome_iff_exists.1 p1
    have hu4 : w4.cell? ⟨s.wlHB, negL a, none⟩ = some u4 := by skip; exact hu4
    have p2 : w4.frozen? ⟨s.wlHB, negL a, none⟩ = false := by skip; exact p2
    have hT4 := ((RT.refl h).alloc (.cells #[.int .i32 (b : Int), .pointer (some ⟨c, 0, none⟩)] 132)).drew.trans p3
    subst hv4
    replace hT4 := Lib.hid hT4
    go_step
    refine ⟨⟨by skip; exact m1 9 _ hR4.hd.f9, by skip; exact m2 _ hna⟩, wpActsI_nil ?_⟩
    clear m1 m2 m3 p1 ho hg hf4 c94 ch4
    simp only [List.drop_succ_cons, List.drop_zero]
    go_upto_region 24 with fail
    generalize hs1 : s.appWl (negL a) (b, c) (.slice (some ⟨g4, 0, none⟩) ((s.wl (negL a)).length + 1) cap4) = s1 at hT4
    have e1 : s1.nv = s.nv := by rw [← hs1]; rfl
    have e2 : s1.wlHB = s.wlHB := by rw [← hs1]; rfl
    have hlim6 : (s1.wl (negL b)).length ≤ 1000000001 := by rw [← hs1]; exact hlim6.out
    have hsb1 := hT4.out.sb
    replace hlim6 := Lib.hid hlim6
    replace hs1 := Lib.hid hs1
    have hnb1 : negL b < s1.nv * 2 := by rw [e1]; exact hnb
    obtain ⟨w5, hw5⟩ : ∃ w5, w5 = w4.setCell ⟨s.wlHB, negL a, none⟩ (.slice (some ⟨g4, 0, none⟩) ((s.wl (negL a)).length + 1) cap4) := ⟨_, rfl⟩
    rw [← hw5] at hT4 ⊢
    clear hw5
    have hR5 := hT4.out.rep
    replace e1 := Lib.hid e1
    replace e2 := Lib.hid e2
    have c96 : w5.cell? ⟨s.sb, 9, none⟩ = some (.slice (some ⟨s.wlHB, 0, none⟩) (s.nv * 2) (s.nv * 2)) := by rw [← hsb1, ← e1.out, ← e2.out]; exact hR5.sc hR5.hd.f9
    have ch6 : w5.cell? ⟨s.wlHB, negL b, none⟩ = some (s1.wlV (negL b)) := by rw [← e2.out]; exact hR5.wlH (l := negL b) hnb1
    refine wp_region_firstI (fun w' => w'.cell? ⟨s.sb, 9, none⟩ = some (.slice (some ⟨s.wlHB, 0, none⟩) (s.nv * 2) (s.nv * 2)) ∧ w'.cell? ⟨s.wlHB, negL b, none⟩ = some (s1.wlV (negL b)))
      19 [0, 1, 2, 3, 4, 5, 6, 7, 8, 9, 10, 11, 12, 13, 14, 15, 16] [17, 18] (by kernel_rfl) (by kernel_rfl) ⟨c96, ch6⟩ ?_
    iterate 17
      refine wpFirstI_cons rfl rfl (fun K hK => ?_)
      apply Exists.intro
      refine And.intro (fun w' hw' => ?_) ?_
      · obtain ⟨k9, kh⟩ := hw'
        go_simp
        first | exact rfl | exact ⟨rfl, rfl⟩
      go_simp
      refine hK _ ?_
      clear hK K
    refine wpFirstI_nil ?_
    have hR6 := hR5.alloc (.cells #[.int .i32 (a : Int), .pointer (some ⟨c, 0, none⟩)] 132)
    refine wpActsI_cons rfl ?_
    go_wp2_with fail
    refine ⟨⟨by rw [← hsb1, ← e1.out, ← e2.out]; exact hR6.sc hR6.hd.f9, by rw [← e2.out]; exact hR6.wlH (l := negL b) hnb1⟩, ?_⟩
    refine wpActsI_cons rfl ?_
    refine wpList_append_rows rfl _ _ 130 rfl 132 iW (.agg #[.int .i32 0, .pointer none]) 2 16 Tryz.underlying130 hiW hw0 hw1 hw2 rfl (by decide) (s1.wlV (negL b)) (s1.wl (negL b)).length (watchV (s1.wl (negL b))) rfl (own_wl hR6 (t := negL b) hnb1) ⟨w5.heap.size, 0, none⟩ 1 1 [i32 a, ptrV (some c)] rfl rfl (cell_new_two _ _ _ _ _ rfl) (by simp [i32, ptrV, Value.oneCell']) (by have := hlim6.out; unfold maxLen; omega) (by have := hlim6.out; omega) ?_
    intro v6 w6 ho hg hf6
    obtain ⟨g6, cap6, hv6, _, _⟩ := own_form ho (by omega)
    obtain ⟨m1, m2, m3⟩ := hR6.drew.midWl (t := negL b) hnb1 ho hg hf6
    obtain ⟨p1, p2, p3⟩ := hR6.drew.appWl (t := negL b) hnb1 (b := a) (c := c) ho hg hf6
    obtain ⟨u6, hu6⟩ := Option.isSome_iff_exists.1 p1
    have hu6 : w6.cell? ⟨s.wlHB, negL b, none⟩ = some u6 := by rw [← e2.out]; exact hu6
    have p2 : w6.frozen? ⟨s.wlHB, negL b, none⟩ = false := by rw [← e2.out]; exact p2
    have hT6 := (hT4.out.alloc (.cells #[.int .i32 (a : Int), .pointer (some ⟨c, 0, none⟩)] 132)).drew.trans p3
    subst hv6
    replace hT6 := Lib.hid hT6
    go_step
    refine ⟨⟨by rw [← hsb1, ← e1.out, ← e2.out]; exact m1 9 _ hR6.hd.f9, by rw [← e2.out]; exact m2 _ hnb1⟩, wpActsI_nil ?_⟩
    clear m1 m2 m3 p1 ho hg hf6 c96 ch6
    simp only [List.drop_succ_cons, List.drop_zero]
    go_wp2_with fail
    go_end0
    have hT7 := hT6.out
    rw [e2.out] at hT7
    refine ⟨rfl, _, ?_, hT7⟩
    show (s1.toMS.appWl (negL b) (a, c)) = _
    rw [← hs1.out]
    unfold MS.watch
    rw [if_neg hlen.out, ← ha.out, ← hb.out]
    rfl
end Go.Proofs.YtiimddkopiknpaaGreat
