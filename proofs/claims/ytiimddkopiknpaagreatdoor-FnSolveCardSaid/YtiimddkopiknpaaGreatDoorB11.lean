/-
  A clause is watched; what holds while literals are propagated.
-/
import Derived.Test.YtiimddkopiknpaaGreatDoorB02
import Derived.Deep.Cut
import Derived.Deep.CutRange
import Derived.Deep.DeepCutAuto
import Derived.Test.YtiimddkopiknpaaGreatDoorB10
import Derived.Test.YtiimddkopiknpaaGreatDoorB01
import Derived.Test.YtiimddkopiknpaaGreatDoorProg
set_option linter.unusedVariables false
set_option linter.unusedSimpArgs false

/-
  watchClause. (Printed by wip/tools/gen_wc.py.)
-/
namespace Go.Proofs.YtiimddkopiknpaaGreatDoor
open Go.RowKit

theorem u32_low (x : Nat) (hx : x < 4294967296) : bits .and .u32 (x : Int) 1073741823 = ((x % 1073741824 : Nat) : Int) := by
  rw [show (1073741823 : Int) = ((1073741823 : Nat) : Int) from rfl, u32_and_nat x 1073741823 hx (by omega)]
  rw [show (1073741823 : Nat) = 2 ^ 30 - 1 from rfl, Nat.and_two_pow_sub_one_eq_mod]
theorem Card_c {c x : Nat} {w : World} (h : w.cell? ⟨c, 1, none⟩ = some (.int .u32 (x : Int))) (hx : x < 4294967296) (hk : 2147483648 ≤ x ∨ x % 1073741824 = 0) :
    Calls Tryz.prog 49 #[.pointer (some ⟨c, 0, none⟩)] w fun e w' => e = .returned (.int .i64 1) ∧ w' = w := by
  have H := Lib.hid (u32_low x hx)
  have hL := Lib.hid (Learned_c h hx)
  by_cases hb : 2147483648 ≤ x
  · have hd := Lib.hid (decide_eq_true hb)
    go_enter Tryz.func49, Tryz.ntmps49
    go_wp2_with (go_at_call 86; refine Calls.ret hL.out ?_; rw [hd.out])
    go_ret
    exact ⟨rfl, rfl⟩
  · have hd := Lib.hid (decide_eq_false hb)
    have hm : x % 1073741824 = 0 := by omega
    rw [hm, show ((0 : Nat) : Int) = 0 from rfl] at H
    clear hk
    go_enter Tryz.func49, Tryz.ntmps49
    go_wp2_with (go_at_call 86; refine Calls.ret hL.out ?_; rw [hd.out])
    go_ret
    exact ⟨by simp [H.out, wrap64], rfl⟩

/-- a clause is watched: two literals, or more -/
def MS.watch (m : MS) (c : Nat) : MS :=
  if (m.lits c).length = 2 then (m.appWb (negL (nth (m.lits c) 0)) (nth (m.lits c) 1, c)).appWb (negL (nth (m.lits c) 1)) (nth (m.lits c) 0, c)
  else (m.appWl (negL (nth (m.lits c) 0)) (nth (m.lits c) 1, c)).appWl (negL (nth (m.lits c) 1)) (nth (m.lits c) 0, c)

set_option maxRecDepth 100000 in
set_option maxHeartbeats 4000000 in
theorem watch_c {s : St} {w : World} (h : Rep s w) (hW : Wf s.toMS) {c : Nat} (hc : c ∈ s.ids) (hk : 2147483648 ≤ s.word c ∨ s.word c % 1073741824 = 0) :
    Calls Tryz.prog 37 #[.pointer (some ⟨s.sb, 0, none⟩), .pointer (some ⟨c, 0, none⟩)] w fun e w' =>
      e = .returned (.tuple #[]) ∧ ∃ s', s'.toMS = s.toMS.watch c ∧ RT s w s' w' := by
  obtain ⟨iW, hiW, hw0, hw1, hw2⟩ := info_parts infoWatcher
  have h3 := h.clc hc (j := 3) rfl
  have hcar := Card_c (h.clc hc (j := 1) rfl) (hW.word c hc) hk
  have hFst := First_s h hW hc
  have hSnd := Second_s h hW hc
  have hLen := Len_s h hW hc
  have hnv1 := hW.nv1
  have hll := hW.len c hc
  obtain ⟨a, ha⟩ : ∃ a, a = nth (s.lits c) 0 := ⟨_, rfl⟩
  obtain ⟨b, hb⟩ : ∃ b, b = nth (s.lits c) 1 := ⟨_, rfl⟩
  have ha2 : a < s.nv * 2 := by rw [ha]; exact hW.lit c hc 0 (by omega)
  have hb2 : b < s.nv * 2 := by rw [hb]; exact hW.lit c hc 1 (by omega)
  rw [← ha] at hFst
  rw [← hb] at hSnd
  replace ha := Lib.hid ha
  replace hb := Lib.hid hb
  have hna := negL_lt ha2
  have hnb := negL_lt hb2
  have hnaI : ((negL a : Nat) : Int) < (s.nv : Int) * 2 := by omega
  have hnbI : ((negL b : Nat) : Int) < (s.nv : Int) * 2 := by omega
  have ha3 : a < 2147483648 := by omega
  have hb3 : b < 2147483648 := by omega
  replace hcar := Lib.hid hcar
  replace hFst := Lib.hid hFst
  replace hSnd := Lib.hid hSnd
  replace hLen := Lib.hid hLen
  replace hW := Lib.hid hW
  clear hnv1 hll hk ha2 hb2
  go_enter Tryz.func37, Tryz.ntmps37
  by_cases hle : (s.lits c).length = 2
  · have hlenb : ((((s.lits c).length : Nat) : Int) == 2) = true := by simp; omega
    have hlen := Lib.hid hle
    clear hle
    have hlim4 := Lib.hid (hW.out.wbl _ hna)
    have hlim6 : (((s.appWb (negL a) (b, c) (.slice none 0 0)).wb (negL b))).length ≤ 1000000001 := by
      have h1 := hW.out.wbl _ hna
      have h2 := hW.out.wbl _ hnb
      have hx : (s.toMS.wb (negL b)).length ≤ 1000000000 := h2
      show (if negL b = negL a then s.wb (negL a) ++ [(b, c)] else s.wb (negL b)).length ≤ _
      split
      · simp; omega
      · omega
    replace hlim6 := Lib.hid hlim6
    go_upto_region 17 with (first
      | (go_at_call 47; refine Calls.ret (PB_c h3) ?_)
      | (go_at_call 49; refine Calls.ret hcar.out ?_)
      | (go_at_call 50; refine Calls.ret hLen.out ?_)
      | (go_at_call 54; refine Calls.ret hFst.out ?_)
      | (go_at_call 55; refine Calls.ret hSnd.out ?_)
      | (go_at_call 53; (first | refine Calls.ret (Neg_c a _ ha3) ?_ | refine Calls.ret (Neg_c b _ hb3) ?_)))
    have c94 : w.cell? ⟨s.sb, 8, none⟩ = some (.slice (some ⟨s.wbHB, 0, none⟩) (s.nv * 2) (s.nv * 2)) := by skip; exact h.sc h.hd.f8
    have ch4 : w.cell? ⟨s.wbHB, negL a, none⟩ = some (s.wbV (negL a)) := by skip; exact h.wbH (l := negL a) hna
    refine wp_region_firstI (fun w' => w'.cell? ⟨s.sb, 8, none⟩ = some (.slice (some ⟨s.wbHB, 0, none⟩) (s.nv * 2) (s.nv * 2)) ∧ w'.cell? ⟨s.wbHB, negL a, none⟩ = some (s.wbV (negL a)))
      19 [0, 1, 2, 3, 4, 5, 6, 7, 8, 9, 10, 11, 12, 13, 14, 15, 16] [17, 18] (by kernel_rfl) (by kernel_rfl) ⟨c94, ch4⟩ ?_
    iterate 17
      refine wpFirstI_cons rfl rfl (fun K hK => ?_)
      apply Exists.intro
      refine And.intro (fun w' hw' => ?_) ?_
      · obtain ⟨k9, kh⟩ := hw'
        go_simp
        first | exact rfl | exact ⟨rfl, rfl⟩
      go_simp
      refine hK _ ?_
      clear hK K
    refine wpFirstI_nil ?_
    have hR4 := h.alloc (.cells #[.int .i32 (b : Int), .pointer (some ⟨c, 0, none⟩)] 107)
    refine wpActsI_cons rfl ?_
    go_wp2_with fail
    refine ⟨⟨by skip; exact hR4.sc hR4.hd.f8, by skip; exact hR4.wbH (l := negL a) hna⟩, ?_⟩
    refine wpActsI_cons rfl ?_
    refine wpList_append_rows rfl _ _ 105 rfl 107 iW (.agg #[.int .i32 0, .pointer none]) 2 16 Tryz.underlying105 hiW hw0 hw1 hw2 rfl (by decide) (s.wbV (negL a)) (s.wb (negL a)).length (watchV (s.wb (negL a))) rfl (own_wb hR4 (t := negL a) hna) ⟨w.heap.size, 0, none⟩ 1 1 [i32 b, ptrV (some c)] rfl rfl (cell_new_two _ _ _ _ _ rfl) (by simp [i32, ptrV, Value.oneCell']) (by have := hlim4.out; unfold maxLen; omega) (by have := hlim4.out; omega) ?_
    intro v4 w4 ho hg hf4
    obtain ⟨g4, cap4, hv4, _, _⟩ := own_form ho (by omega)
    obtain ⟨m1, m2, m3⟩ := hR4.drew.midWb (t := negL a) hna ho hg hf4
    obtain ⟨p1, p2, p3⟩ := hR4.drew.appWb (t := negL a) hna (b := b) (c := c) ho hg hf4
    obtain ⟨u4, hu4⟩ := Option.isSome_iff_exists.1 p1
    have hu4 : w4.cell? ⟨s.wbHB, negL a, none⟩ = some u4 := by skip; exact hu4
    have p2 : w4.frozen? ⟨s.wbHB, negL a, none⟩ = false := by skip; exact p2
    have hT4 := ((RT.refl h).alloc (.cells #[.int .i32 (b : Int), .pointer (some ⟨c, 0, none⟩)] 107)).drew.trans p3
    subst hv4
    replace hT4 := Lib.hid hT4
    go_step
    refine ⟨⟨by skip; exact m1 8 _ hR4.hd.f8, by skip; exact m2 _ hna⟩, wpActsI_nil ?_⟩
    clear m1 m2 m3 p1 ho hg hf4 c94 ch4
    simp only [List.drop_succ_cons, List.drop_zero]
    go_upto_region 18 with fail
    generalize hs1 : s.appWb (negL a) (b, c) (.slice (some ⟨g4, 0, none⟩) ((s.wb (negL a)).length + 1) cap4) = s1 at hT4
    have e1 : s1.nv = s.nv := by rw [← hs1]; rfl
    have e2 : s1.wbHB = s.wbHB := by rw [← hs1]; rfl
    have hlim6 : (s1.wb (negL b)).length ≤ 1000000001 := by rw [← hs1]; exact hlim6.out
    have hsb1 := hT4.out.sb
    replace hlim6 := Lib.hid hlim6
    replace hs1 := Lib.hid hs1
    have hnb1 : negL b < s1.nv * 2 := by rw [e1]; exact hnb
    obtain ⟨w5, hw5⟩ : ∃ w5, w5 = w4.setCell ⟨s.wbHB, negL a, none⟩ (.slice (some ⟨g4, 0, none⟩) ((s.wb (negL a)).length + 1) cap4) := ⟨_, rfl⟩
    rw [← hw5] at hT4 ⊢
    clear hw5
    have hR5 := hT4.out.rep
    replace e1 := Lib.hid e1
    replace e2 := Lib.hid e2
    have c96 : w5.cell? ⟨s.sb, 8, none⟩ = some (.slice (some ⟨s.wbHB, 0, none⟩) (s.nv * 2) (s.nv * 2)) := by rw [← hsb1, ← e1.out, ← e2.out]; exact hR5.sc hR5.hd.f8
    have ch6 : w5.cell? ⟨s.wbHB, negL b, none⟩ = some (s1.wbV (negL b)) := by rw [← e2.out]; exact hR5.wbH (l := negL b) hnb1
    refine wp_region_firstI (fun w' => w'.cell? ⟨s.sb, 8, none⟩ = some (.slice (some ⟨s.wbHB, 0, none⟩) (s.nv * 2) (s.nv * 2)) ∧ w'.cell? ⟨s.wbHB, negL b, none⟩ = some (s1.wbV (negL b)))
      19 [0, 1, 2, 3, 4, 5, 6, 7, 8, 9, 10, 11, 12, 13, 14, 15, 16] [17, 18] (by kernel_rfl) (by kernel_rfl) ⟨c96, ch6⟩ ?_
    iterate 17
      refine wpFirstI_cons rfl rfl (fun K hK => ?_)
      apply Exists.intro
      refine And.intro (fun w' hw' => ?_) ?_
      · obtain ⟨k9, kh⟩ := hw'
        go_simp
        first | exact rfl | exact ⟨rfl, rfl⟩
      go_simp
      refine hK _ ?_
      clear hK K
    refine wpFirstI_nil ?_
    have hR6 := hR5.alloc (.cells #[.int .i32 (a : Int), .pointer (some ⟨c, 0, none⟩)] 107)
    refine wpActsI_cons rfl ?_
    go_wp2_with fail
    refine ⟨⟨by rw [← hsb1, ← e1.out, ← e2.out]; exact hR6.sc hR6.hd.f8, by rw [← e2.out]; exact hR6.wbH (l := negL b) hnb1⟩, ?_⟩
    refine wpActsI_cons rfl ?_
    refine wpList_append_rows rfl _ _ 105 rfl 107 iW (.agg #[.int .i32 0, .pointer none]) 2 16 Tryz.underlying105 hiW hw0 hw1 hw2 rfl (by decide) (s1.wbV (negL b)) (s1.wb (negL b)).length (watchV (s1.wb (negL b))) rfl (own_wb hR6 (t := negL b) hnb1) ⟨w5.heap.size, 0, none⟩ 1 1 [i32 a, ptrV (some c)] rfl rfl (cell_new_two _ _ _ _ _ rfl) (by simp [i32, ptrV, Value.oneCell']) (by have := hlim6.out; unfold maxLen; omega) (by have := hlim6.out; omega) ?_
    intro v6 w6 ho hg hf6
    obtain ⟨g6, cap6, hv6, _, _⟩ := own_form ho (by omega)
    obtain ⟨m1, m2, m3⟩ := hR6.drew.midWb (t := negL b) hnb1 ho hg hf6
    obtain ⟨p1, p2, p3⟩ := hR6.drew.appWb (t := negL b) hnb1 (b := a) (c := c) ho hg hf6
    obtain ⟨u6, hu6⟩ := Option.isSome_iff_exists.1 p1
    have hu6 : w6.cell? ⟨s.wbHB, negL b, none⟩ = some u6 := by rw [← e2.out]; exact hu6
    have p2 : w6.frozen? ⟨s.wbHB, negL b, none⟩ = false := by rw [← e2.out]; exact p2
    have hT6 := (hT4.out.alloc (.cells #[.int .i32 (a : Int), .pointer (some ⟨c, 0, none⟩)] 107)).drew.trans p3
    subst hv6
    replace hT6 := Lib.hid hT6
    go_step
    refine ⟨⟨by rw [← hsb1, ← e1.out, ← e2.out]; exact m1 8 _ hR6.hd.f8, by rw [← e2.out]; exact m2 _ hnb1⟩, wpActsI_nil ?_⟩
    clear m1 m2 m3 p1 ho hg hf6 c96 ch6
    simp only [List.drop_succ_cons, List.drop_zero]
    go_wp2_with fail
    go_end0
    have hT7 := hT6.out
    rw [e2.out] at hT7
    refine ⟨rfl, _, ?_, hT7⟩
    show (s1.toMS.appWb (negL b) (a, c)) = _
    rw [← hs1.out]
    unfold MS.watch
    rw [if_pos hlen.out, ← ha.out, ← hb.out]
    rfl
  · have hlenb : ((((s.lits c).length : Nat) : Int) == 2) = false := by simp; omega
    have hlen := Lib.hid hle
    clear hle
    have hlim4 := Lib.hid (hW.out.wll _ hna)
    have hlim6 : (((s.appWl (negL a) (b, c) (.slice none 0 0)).wl (negL b))).length ≤ 1000000001 := by
      have h1 := hW.out.wll _ hna
      have h2 := hW.out.wll _ hnb
      have hx : (s.toMS.wl (negL b)).length ≤ 1000000000 := h2
      show (if negL b = negL a then s.wl (negL a) ++ [(b, c)] else s.wl (negL b)).length ≤ _
      split
      · simp; omega
      · omega
    replace hlim6 := Lib.hid hlim6
    go_upto_region 23 with (first
      | (go_at_call 47; refine Calls.ret (PB_c h3) ?_)
      | (go_at_call 49; refine Calls.ret hcar.out ?_)
      | (go_at_call 50; refine Calls.ret hLen.out ?_)
      | (go_at_call 54; refine Calls.ret hFst.out ?_)
      | (go_at_call 55; refine Calls.ret hSnd.out ?_)
      | (go_at_call 53; (first | refine Calls.ret (Neg_c a _ ha3) ?_ | refine Calls.ret (Neg_c b _ hb3) ?_)))
    have c94 : w.cell? ⟨s.sb, 9, none⟩ = some (.slice (some ⟨s.wlHB, 0, none⟩) (s.nv * 2) (s.nv * 2)) := by skip; exact h.sc h.hd.f9
    have ch4 : w.cell? ⟨s.wlHB, negL a, none⟩ = some (s.wlV (negL a)) := by skip; exact h.wlH (l := negL a) hna
    refine wp_region_firstI (fun w' => w'.cell? ⟨s.sb, 9, none⟩ = some (.slice (some ⟨s.wlHB, 0, none⟩) (s.nv * 2) (s.nv * 2)) ∧ w'.cell? ⟨s.wlHB, negL a, none⟩ = some (s.wlV (negL a)))
      19 [0, 1, 2, 3, 4, 5, 6, 7, 8, 9, 10, 11, 12, 13, 14, 15, 16] [17, 18] (by kernel_rfl) (by kernel_rfl) ⟨c94, ch4⟩ ?_
    iterate 17
      refine wpFirstI_cons rfl rfl (fun K hK => ?_)
      apply Exists.intro
      refine And.intro (fun w' hw' => ?_) ?_
      · obtain ⟨k9, kh⟩ := hw'
        go_simp
        first | exact rfl | exact ⟨rfl, rfl⟩
      go_simp
      refine hK _ ?_
      clear hK K
    refine wpFirstI_nil ?_
    have hR4 := h.alloc (.cells #[.int .i32 (b : Int), .pointer (some ⟨c, 0, none⟩)] 107)
    refine wpActsI_cons rfl ?_
    go_wp2_with fail
    refine ⟨⟨by skip; exact hR4.sc hR4.hd.f9, by skip; exact hR4.wlH (l := negL a) hna⟩, ?_⟩
    refine wpActsI_cons rfl ?_
    refine wpList_append_rows rfl _ _ 105 rfl 107 iW (.agg #[.int .i32 0, .pointer none]) 2 16 Tryz.underlying105 hiW hw0 hw1 hw2 rfl (by decide) (s.wlV (negL a)) (s.wl (negL a)).length (watchV (s.wl (negL a))) rfl (own_wl hR4 (t := negL a) hna) ⟨w.heap.size, 0, none⟩ 1 1 [i32 b, ptrV (some c)] rfl rfl (cell_new_two _ _ _ _ _ rfl) (by simp [i32, ptrV, Value.oneCell']) (by have := hlim4.out; unfold maxLen; omega) (by have := hlim4.out; omega) ?_
    intro v4 w4 ho hg hf4
    obtain ⟨g4, cap4, hv4, _, _⟩ := own_form ho (by omega)
    obtain ⟨m1, m2, m3⟩ := hR4.drew.midWl (t := negL a) hna ho hg hf4
    obtain ⟨p1, p2, p3⟩ := hR4.drew.appWl (t := negL a) hna (b := b) (c := c) ho hg hf4
    obtain ⟨u4, hu4⟩ := Option.isSome_iff_exists.1 p1
    have hu4 : w4.cell? ⟨s.wlHB, negL a, none⟩ = some u4 := by skip; exact hu4
    have p2 : w4.frozen? ⟨s.wlHB, negL a, none⟩ = false := by skip; exact p2
    have hT4 := ((RT.refl h).alloc (.cells #[.int .i32 (b : Int), .pointer (some ⟨c, 0, none⟩)] 107)).drew.trans p3
    subst hv4
    replace hT4 := Lib.hid hT4
    go_step
    refine ⟨⟨by skip; exact m1 9 _ hR4.hd.f9, by skip; exact m2 _ hna⟩, wpActsI_nil ?_⟩
    clear m1 m2 m3 p1 ho hg hf4 c94 ch4
    simp only [List.drop_succ_cons, List.drop_zero]
    go_upto_region 24 with fail
    generalize hs1 : s.appWl (negL a) (b, c) (.slice (some ⟨g4, 0, none⟩) ((s.wl (negL a)).length + 1) cap4) = s1 at hT4
    have e1 : s1.nv = s.nv := by rw [← hs1]; rfl
    have e2 : s1.wlHB = s.wlHB := by rw [← hs1]; rfl
    have hlim6 : (s1.wl (negL b)).length ≤ 1000000001 := by rw [← hs1]; exact hlim6.out
    have hsb1 := hT4.out.sb
    replace hlim6 := Lib.hid hlim6
    replace hs1 := Lib.hid hs1
    have hnb1 : negL b < s1.nv * 2 := by rw [e1]; exact hnb
    obtain ⟨w5, hw5⟩ : ∃ w5, w5 = w4.setCell ⟨s.wlHB, negL a, none⟩ (.slice (some ⟨g4, 0, none⟩) ((s.wl (negL a)).length + 1) cap4) := ⟨_, rfl⟩
    rw [← hw5] at hT4 ⊢
    clear hw5
    have hR5 := hT4.out.rep
    replace e1 := Lib.hid e1
    replace e2 := Lib.hid e2
    have c96 : w5.cell? ⟨s.sb, 9, none⟩ = some (.slice (some ⟨s.wlHB, 0, none⟩) (s.nv * 2) (s.nv * 2)) := by rw [← hsb1, ← e1.out, ← e2.out]; exact hR5.sc hR5.hd.f9
    have ch6 : w5.cell? ⟨s.wlHB, negL b, none⟩ = some (s1.wlV (negL b)) := by rw [← e2.out]; exact hR5.wlH (l := negL b) hnb1
    refine wp_region_firstI (fun w' => w'.cell? ⟨s.sb, 9, none⟩ = some (.slice (some ⟨s.wlHB, 0, none⟩) (s.nv * 2) (s.nv * 2)) ∧ w'.cell? ⟨s.wlHB, negL b, none⟩ = some (s1.wlV (negL b)))
      19 [0, 1, 2, 3, 4, 5, 6, 7, 8, 9, 10, 11, 12, 13, 14, 15, 16] [17, 18] (by kernel_rfl) (by kernel_rfl) ⟨c96, ch6⟩ ?_
    iterate 17
      refine wpFirstI_cons rfl rfl (fun K hK => ?_)
      apply Exists.intro
      refine And.intro (fun w' hw' => ?_) ?_
      · obtain ⟨k9, kh⟩ := hw'
        go_simp
        first | exact rfl | exact ⟨rfl, rfl⟩
      go_simp
      refine hK _ ?_
      clear hK K
    refine wpFirstI_nil ?_
    have hR6 := hR5.alloc (.cells #[.int .i32 (a : Int), .pointer (some ⟨c, 0, none⟩)] 107)
    refine wpActsI_cons rfl ?_
    go_wp2_with fail
    refine ⟨⟨by rw [← hsb1, ← e1.out, ← e2.out]; exact hR6.sc hR6.hd.f9, by rw [← e2.out]; exact hR6.wlH (l := negL b) hnb1⟩, ?_⟩
    refine wpActsI_cons rfl ?_
    refine wpList_append_rows rfl _ _ 105 rfl 107 iW (.agg #[.int .i32 0, .pointer none]) 2 16 Tryz.underlying105 hiW hw0 hw1 hw2 rfl (by decide) (s1.wlV (negL b)) (s1.wl (negL b)).length (watchV (s1.wl (negL b))) rfl (own_wl hR6 (t := negL b) hnb1) ⟨w5.heap.size, 0, none⟩ 1 1 [i32 a, ptrV (some c)] rfl rfl (cell_new_two _ _ _ _ _ rfl) (by simp [i32, ptrV, Value.oneCell']) (by have := hlim6.out; unfold maxLen; omega) (by have := hlim6.out; omega) ?_
    intro v6 w6 ho hg hf6
    obtain ⟨g6, cap6, hv6, _, _⟩ := own_form ho (by omega)
    obtain ⟨m1, m2, m3⟩ := hR6.drew.midWl (t := negL b) hnb1 ho hg hf6
    obtain ⟨p1, p2, p3⟩ := hR6.drew.appWl (t := negL b) hnb1 (b := a) (c := c) ho hg hf6
    obtain ⟨u6, hu6⟩ := Option.isSome_iff_exists.1 p1
    have hu6 : w6.cell? ⟨s.wlHB, negL b, none⟩ = some u6 := by rw [← e2.out]; exact hu6
    have p2 : w6.frozen? ⟨s.wlHB, negL b, none⟩ = false := by rw [← e2.out]; exact p2
    have hT6 := (hT4.out.alloc (.cells #[.int .i32 (a : Int), .pointer (some ⟨c, 0, none⟩)] 107)).drew.trans p3
    subst hv6
    replace hT6 := Lib.hid hT6
    go_step
    refine ⟨⟨by rw [← hsb1, ← e1.out, ← e2.out]; exact m1 9 _ hR6.hd.f9, by rw [← e2.out]; exact m2 _ hnb1⟩, wpActsI_nil ?_⟩
    clear m1 m2 m3 p1 ho hg hf6 c96 ch6
    simp only [List.drop_succ_cons, List.drop_zero]
    go_wp2_with fail
    go_end0
    have hT7 := hT6.out
    rw [e2.out] at hT7
    refine ⟨rfl, _, ?_, hT7⟩
    show (s1.toMS.appWl (negL b) (a, c)) = _
    rw [← hs1.out]
    unfold MS.watch
    rw [if_neg hlen.out, ← ha.out, ← hb.out]
    rfl
end Go.Proofs.YtiimddkopiknpaaGreatDoor

/-
  The invariants are kept by the rounds of simplifyPropClauses and of propagate.
-/
namespace Go.Proofs.YtiimddkopiknpaaGreatDoor

section
variable {u0 lvl p : Nat} {m0 m : MS}

/-- the literal's list as it will be: what is kept, then what is yet to be seen -/
def VV (m : MS) (lit : Nat) (L : List (Nat × Nat)) (i j : Nat) : Nat → List (Nat × Nat) := fun t => if t = lit then (m.wl lit).take j ++ L.drop i else m.wl t

structure SI (u0 lvl : Nat) (m0 : MS) (p lit : Nat) (L : List (Nat × Nat)) (i j : Nat) (m : MS) : Prop where
  pi : PI u0 lvl m0 p (VV m lit L i j) m
  kept : ∀ e ∈ (m.wl lit).take j, ∃ x ∈ m.lits e.2, m.lst x = 1
  bin : ∀ e ∈ m.wb lit, m.lst e.1 = 1
  hp : p < m.trail.length
  tp : nth m.trail p = lit
  len : (m.wl lit).length = L.length
  ji : j ≤ i
  il : i ≤ L.length
  rest : ∀ k, i ≤ k → k < L.length → ent (m.wl lit) k = ent L k

theorem SI.nv {lit : Nat} {L : List (Nat × Nat)} {i j : Nat} (h : SI u0 lvl m0 p lit L i j m) : lit < m.nv * 2 := by rw [← h.tp]; exact h.pi.core.wf.tr p h.hp
theorem SI.t1 {lit : Nat} {L : List (Nat × Nat)} {i j : Nat} (h : SI u0 lvl m0 p lit L i j m) : m.lst lit = 1 := by rw [← h.tp]; exact h.pi.core.tl.tr1 p h.hp
theorem SI.lv {lit : Nat} {L : List (Nat × Nat)} {i j : Nat} (h : SI u0 lvl m0 p lit L i j m) : m.lev (lit / 2) = lvl := by rw [← h.tp]; exact h.pi.lv p (Nat.le_refl _) h.hp
theorem SI.at_ {lit : Nat} {L : List (Nat × Nat)} {i j b c : Nat} (h : SI u0 lvl m0 p lit L i j m) (hi : i < L.length) (he : ent L i = (b, c)) : VV m lit L i j lit = (m.wl lit).take j ++ (b, c) :: L.drop (i + 1) := by
  simp only [VV, if_true]; rw [drop_ent L i hi, he]
theorem SI.en {lit : Nat} {L : List (Nat × Nat)} {i j b c : Nat} (h : SI u0 lvl m0 p lit L i j m) (hi : i < L.length) (he : ent L i = (b, c)) : b ∈ m.lits c ∧ c ∈ m.ids ∧ 3 ≤ (m.lits c).length ∧ (lit = negL (nth (m.lits c) 0) ∨ lit = negL (nth (m.lits c) 1)) :=
  h.pi.wt.en lit h.nv (b, c) (by rw [h.at_ hi he]; simp)

theorem wf_setWl (h : Wf m) {t : Nat} {L' : List (Nat × Nat)} (hL : ∀ e ∈ L', e.1 < m.nv * 2 ∧ e.2 ∈ m.ids) (hl : L'.length ≤ 1000000000) : Wf (m.setWl t L') := by
  refine ⟨h.nv0, h.nv1, h.len, h.lit, h.word, ?_, h.wb, ?_, h.wbl, h.tr, h.trl⟩
  · intro t' ht' i hi
    simp only [MS.setWl] at hi ⊢
    split at hi
    · rename_i e; rw [if_pos e]; exact hL _ (ent_mem _ _ hi)
    · rename_i e; rw [if_neg e]; exact h.wl t' ht' i hi
  · intro t' ht'
    simp only [MS.setWl]
    split
    · exact hl
    · exact h.wll t' ht'
theorem wf_swapC (h : Wf m) {c a b : Nat} (hc : c ∈ m.ids) (ha : a < (m.lits c).length) (hb : b < (m.lits c).length) : Wf (m.swapC c a b) := by
  have hl : ∀ c', ((m.swapC c a b).lits c').length = (m.lits c').length := fun c' => by
    simp only [MS.swapC, MS.setLits]; split
    · rename_i e; subst e; exact swapL_len _ _ _
    · rfl
  refine ⟨h.nv0, h.nv1, fun c' hc' => by rw [hl]; exact h.len c' hc', ?_, h.word, h.wl, h.wb, h.wll, h.wbl, h.tr, h.trl⟩
  intro c' hc' i hi
  rw [hl] at hi
  have hm : nth ((m.swapC c a b).lits c') i ∈ (m.lits c') := by
    have : ((m.swapC c a b).lits c').Perm (m.lits c') := by
      simp only [MS.swapC, MS.setLits]; split
      · rename_i e; subst e; exact swapL_perm _ _ _ ha hb
      · exact .refl _
    exact this.mem_iff.1 (nth_mem _ _ (by rw [hl]; exact hi))
  obtain ⟨k, hk, hk2⟩ := mem_nth _ _ hm
  rw [← hk2]; exact h.lit c' hc' k hk
theorem wf_lock (h : Wf m) (c : Nat) : Wf (m.lockC c) := by
  refine ⟨h.nv0, h.nv1, h.len, h.lit, ?_, h.wl, h.wb, h.wll, h.wbl, h.tr, h.trl⟩
  intro c' hc'
  simp only [MS.lockC, MS.setWord]
  have := h.word c' hc'
  split
  · rename_i e
    subst e
    exact Nat.or_lt_two_pow (n := 32) (by omega) (by omega)
  · exact this
theorem sim_setWl (m : MS) (t : Nat) (L' : List (Nat × Nat)) : Sim m (m.setWl t L') := ⟨rfl, rfl, rfl, rfl, rfl, rfl, rfl, rfl, fun _ _ => .refl _⟩
theorem sim_lock (m : MS) (c : Nat) : Sim m (m.lockC c) := ⟨rfl, rfl, rfl, rfl, rfl, rfl, rfl, rfl, fun _ _ => .refl _⟩

theorem mem_fix {c lit x : Nat} (hc : c ∈ m.ids) (hl : 2 ≤ (m.lits c).length) : x ∈ (m.fix c lit).lits c ↔ x ∈ m.lits c := ((fix_sim (lit := lit) (fun _ => hl) hc).pm c hc).mem_iff

/-- an entry is kept, perhaps with another blocker and the clause turned -/
theorem SI.keep {lit : Nat} {L : List (Nat × Nat)} {i j b c f : Nat} {m' : MS} (h : SI u0 lvl m0 p lit L i j m) (hi : i < L.length) (he : ent L i = (b, c)) (s : Sim m m') (hW : Wf m') (hw : Wt m' (VV m lit L i j)) (hwl : m'.wl = m.wl)
    (hf : f ∈ m.lits c) (hx : ∃ x ∈ m.lits c, m.lst x = 1) : SI u0 lvl m0 p lit L (i + 1) (j + 1) (m'.setWl lit ((m.wl lit).set j (f, c))) := by
  obtain ⟨e1, e2, e3, e4⟩ := h.en hi he
  have hji := h.ji
  have hjl : j < (m.wl lit).length := by rw [h.len]; omega
  have hV1 : VV (m'.setWl lit ((m.wl lit).set j (f, c))) lit L (i + 1) (j + 1) lit = (m.wl lit).take j ++ (f, c) :: L.drop (i + 1) := by
    simp only [VV, MS.setWl, if_true]
    rw [take_set_succ _ _ _ hjl]; simp
  have hV2 : ∀ t, t ≠ lit → VV (m'.setWl lit ((m.wl lit).set j (f, c))) lit L (i + 1) (j + 1) t = VV m lit L i j t := by
    intro t ht
    simp only [VV, MS.setWl, ht, if_false, hwl]
  have hwt : Wt m' (VV (m'.setWl lit ((m.wl lit).set j (f, c))) lit L (i + 1) (j + 1)) :=
    hw.blk (h.at_ hi he) ((s.pm c e2).mem_iff.2 hf) hV1 hV2
  have hfl := h.pi.core.litlt e2 hf
  have hW2 : Wf (m'.setWl lit ((m.wl lit).set j (f, c))) := by
    refine wf_setWl hW ?_ ?_
    · intro e he'
      rw [s.nv, s.ids]
      rcases List.mem_or_eq_of_mem_set he' with h' | h'
      · obtain ⟨k, hk, hk2⟩ := mem_ent h'
        rw [← hk2]; exact h.pi.core.wf.wl lit h.nv k hk
      · rw [h']; exact ⟨hfl, e2⟩
    · rw [List.length_set]; exact h.pi.core.wf.wll lit h.nv
  have s2 : Sim m (m'.setWl lit ((m.wl lit).set j (f, c))) := s.trans (sim_setWl _ _ _)
  have hmem : ∀ t, ∀ e' ∈ VV (m'.setWl lit ((m.wl lit).set j (f, c))) lit L (i + 1) (j + 1) t, ∃ e ∈ VV m lit L i j t, e.2 = e'.2 := by
    intro t e' he'
    by_cases ht : t = lit
    · subst ht
      rw [hV1] at he'
      rw [h.at_ hi he]
      rcases List.mem_append.1 he' with h' | h'
      · exact ⟨e', List.mem_append_left _ h', rfl⟩
      · rcases List.mem_cons.1 h' with rfl | h'
        · exact ⟨(b, c), by simp, rfl⟩
        · exact ⟨e', by simp [h'], rfl⟩
    · rw [hV2 t ht] at he'; exact ⟨e', he', rfl⟩
  have hlen2 : ((m'.setWl lit ((m.wl lit).set j (f, c))).wl lit) = (m.wl lit).set j (f, c) := by simp [MS.setWl]
  refine ⟨h.pi.sim s2 hW2 (hwt.sim (sim_setWl _ _ _) rfl) (h.pi.pc.sim s2 (by have := h.hp; omega) h.pi.core.wf.tr h.pi.wt fun k _ => hmem _), ?_, ?_, by rw [s2.trail]; exact h.hp, by rw [s2.trail]; exact h.tp, by rw [hlen2, List.length_set]; exact h.len, by omega, by omega, ?_⟩
  · intro e he'
    rw [hlen2, take_set_succ _ _ _ hjl] at he'
    have pm : ∀ c' x, c' ∈ m.ids → (x ∈ (m'.setWl lit ((m.wl lit).set j (f, c))).lits c' ↔ x ∈ m.lits c') := fun c' x hc' => (s2.pm c' hc').mem_iff
    rcases List.mem_append.1 he' with h' | h'
    · obtain ⟨x, x1, x2⟩ := h.kept e h'
      have hid : e.2 ∈ m.ids := (h.pi.wt.en lit h.nv e (by rw [h.at_ hi he]; exact List.mem_append_left _ h')).2.1
      exact ⟨x, (pm _ _ hid).2 x1, by rw [s2.lst]; exact x2⟩
    · have : e = (f, c) := by simpa using h'
      subst this
      obtain ⟨x, x1, x2⟩ := hx
      exact ⟨x, (pm _ _ e2).2 x1, by rw [s2.lst]; exact x2⟩
  · intro e he'
    rw [s2.wb] at he'
    rw [s2.lst]; exact h.bin e he'
  · intro k hk hk2
    rw [hlen2, ent_set _ _ _ _ hjl, if_neg (by omega)]
    exact h.rest k (by omega) hk2

theorem SI.first {lit : Nat} {L : List (Nat × Nat)} {i j b c : Nat} (h : SI u0 lvl m0 p lit L i j m) (hi : i < L.length) (he : ent L i = (b, c)) :
    nth ((m.fix c lit).lits c) 1 = negL lit ∧ nth ((m.fix c lit).lits c) 0 ≠ negL lit := by
  obtain ⟨e1, e2, e3, e4⟩ := h.en hi he
  have hnd := h.pi.core.ndc c e2
  have hne : nth (m.lits c) 0 ≠ nth (m.lits c) 1 := fun e => by
    have := nodup_nth hnd (i := 0) (j := 1) (by omega) (by omega) (by rw [e]); omega
  rcases fix_two (m := m) (lit := lit) (c := c) (by omega) with ⟨b1, b2, b3⟩ | ⟨b1, b2, b3⟩
  · rcases e4 with e4 | e4
    · exfalso; apply b3; rw [e4, negL_negL]
    · have : nth (m.lits c) 1 = negL lit := by rw [e4, negL_negL]
      rw [b1, b2]; exact ⟨this, b3⟩
  · rw [b1, b2]; exact ⟨b3, fun e => hne (by rw [b3, e])⟩

theorem SI.false_ {lit : Nat} {L : List (Nat × Nat)} {i j b c f : Nat} (h : SI u0 lvl m0 p lit L i j m) (hi : i < L.length) (he : ent L i = (b, c)) (hf : f = nth ((m.fix c lit).lits c) 0)
    (hk : ∀ k', 2 ≤ k' → k' < (m.lits c).length → m.lst (nth (m.lits c) k') = 2) : ∀ y ∈ m.lits c, y ≠ f → m.lst y = 2 := by
  obtain ⟨e1, e2, e3, e4⟩ := h.en hi he
  obtain ⟨g1, g2⟩ := h.first hi he
  intro y hy hne
  rw [← mem_fix (lit := lit) e2 (by omega)] at hy
  obtain ⟨k, hk1, hk2⟩ := mem_nth _ y hy
  rw [fix_len] at hk1
  by_cases h2 : 2 ≤ k
  · rw [← hk2, fix_nth m c lit k (by omega) h2]; exact hk k h2 hk1
  · have : k = 0 ∨ k = 1 := by omega
    rcases this with rfl | rfl
    · exact (hne (by rw [hf]; exact hk2.symm)).elim
    · rw [← hk2, g1]; exact lst_neg1 h.t1

theorem si_spi (hl : 1 ≤ lvl) (hb : u0 + m0.nv ≤ 1000000000) {lit : Nat} {L : List (Nat × Nat)} : SPI lit (lvl : Int) L (fun i j m => SI u0 lvl m0 p lit L i j m) where
  wf h := h.pi.core.wf
  nv h := h.nv
  fit h := ⟨h.len, h.ji, h.il, h.rest, lst_neg1 h.t1⟩
  caseA := by
    intro i j m b c h hi he hx
    obtain ⟨e1, e2, e3, e4⟩ := h.en hi he
    exact h.keep hi he (Sim.refl m) h.pi.core.wf h.pi.wt rfl e1 ⟨b, e1, hx⟩
  caseB := by
    intro i j m b c f h hi he _ hf hx
    obtain ⟨e1, e2, e3, e4⟩ := h.en hi he
    have hfm : f ∈ m.lits c := by
      rw [← mem_fix (lit := lit) e2 (by omega), hf]; exact nth_mem _ _ (by rw [fix_len]; omega)
    refine h.keep hi he (fix_sim (fun _ => by omega) e2) (h.pi.core.wf.fix e2 lit) (h.pi.wt.fix e2 (by omega)) (fix_wl _ _ _) hfm ⟨f, hfm, hx⟩
  caseC := by
    intro i j m b c f k h hi he _ hf _ hk2 hkl _ hkn
    obtain ⟨e1, e2, e3, e4⟩ := h.en hi he
    obtain ⟨g1, g2⟩ := h.first hi he
    have s1 : Sim m (m.fix c lit) := fix_sim (fun _ => by omega) e2
    have hfm : f ∈ (m.fix c lit).lits c := by rw [hf]; exact nth_mem _ _ (by rw [fix_len]; omega)
    have hnk : nth ((m.fix c lit).lits c) k = nth (m.lits c) k := fix_nth m c lit k (by omega) hk2
    have hW1 := h.pi.core.wf.fix e2 lit
    have hkl2 : k < ((m.fix c lit).lits c).length := by rw [fix_len]; exact hkl
    have hc1 : c ∈ (m.fix c lit).ids := by rw [fix_ids]; exact e2
    have hW2 : Wf ((m.fix c lit).swapC c 1 k) := wf_swapC hW1 hc1 (by rw [fix_len]; omega) hkl2
    have s2 : Sim (m.fix c lit) ((m.fix c lit).swapC c 1 k) := ⟨rfl, rfl, rfl, rfl, rfl, rfl, rfl, rfl, fun c' _ => by
      simp only [MS.swapC, MS.setLits]; split
      · rename_i e; subst e; exact swapL_perm _ _ _ (by rw [fix_len]; omega) hkl2
      · exact .refl _⟩
    have s3 : Sim ((m.fix c lit).swapC c 1 k) (((m.fix c lit).swapC c 1 k).appWl (negL (nth (m.lits c) k)) (f, c)) := ⟨rfl, rfl, rfl, rfl, rfl, rfl, rfl, rfl, fun _ _ => .refl _⟩
    have s : Sim m (((m.fix c lit).swapC c 1 k).appWl (negL (nth (m.lits c) k)) (f, c)) := (s1.trans s2).trans s3
    have hnl : nth (m.lits c) k < m.nv * 2 := h.pi.core.wf.lit c e2 k hkl
    have hnl2 := negL_lt hnl
    have htne : negL (nth (m.lits c) k) ≠ lit := by
      intro e
      have : nth (m.lits c) k = negL lit := by rw [← e, negL_negL]
      rw [this] at hkn
      exact hkn (lst_neg1 h.t1)
    have hwl0 : (((m.fix c lit).swapC c 1 k).appWl (negL (nth (m.lits c) k)) (f, c)).wl lit = m.wl lit := by
      simp only [MS.appWl, Ne.symm htne, if_false]
      show (m.fix c lit).wl lit = _
      rw [fix_wl]
    have hwl1 : ∀ t, t ≠ negL (nth (m.lits c) k) → (((m.fix c lit).swapC c 1 k).appWl (negL (nth (m.lits c) k)) (f, c)).wl t = m.wl t := by
      intro t ht
      simp only [MS.appWl, ht, if_false]
      show (m.fix c lit).wl t = _
      rw [fix_wl]
    have hwl2 : (((m.fix c lit).swapC c 1 k).appWl (negL (nth (m.lits c) k)) (f, c)).wl (negL (nth (m.lits c) k)) = m.wl (negL (nth (m.lits c) k)) ++ [(f, c)] := by
      simp only [MS.appWl, if_true]
      show (m.fix c lit).wl _ ++ _ = _
      rw [fix_wl]
    have hV1 : VV (((m.fix c lit).swapC c 1 k).appWl (negL (nth (m.lits c) k)) (f, c)) lit L (i + 1) j lit = (m.wl lit).take j ++ L.drop (i + 1) := by
      simp only [VV, if_true]; rw [hwl0]
    have hV2 : VV (((m.fix c lit).swapC c 1 k).appWl (negL (nth (m.lits c) k)) (f, c)) lit L (i + 1) j (negL (nth (m.lits c) k)) = VV m lit L i j (negL (nth (m.lits c) k)) ++ [(f, c)] := by
      simp only [VV, htne, if_false]; exact hwl2
    have hV3 : ∀ t, t ≠ lit → t ≠ negL (nth (m.lits c) k) → VV (((m.fix c lit).swapC c 1 k).appWl (negL (nth (m.lits c) k)) (f, c)) lit L (i + 1) j t = VV m lit L i j t := by
      intro t h1 h2
      simp only [VV, h1, if_false]; exact hwl1 t h2
    have hw1 : Wt (m.fix c lit) (VV m lit L i j) := h.pi.wt.fix e2 (by omega)
    have hw2 : Wt ((m.fix c lit).swapC c 1 k) (VV (((m.fix c lit).swapC c 1 k).appWl (negL (nth (m.lits c) k)) (f, c)) lit L (i + 1) j) :=
      hw1.move (((s1.pm c e2).map _).nodup_iff.2 (h.pi.core.ndc c e2)) (fun i' hi' => hW1.lit c hc1 i' hi') (by rw [fix_nv]; exact h.nv) (h.at_ hi he) g1 hfm hk2 hkl2 hV1 (by rw [hnk]; exact hV2) (by rw [hnk]; exact hV3)
    have hw3 := hw2.sim s3 rfl
    have hlen : (m.wl (negL (nth (m.lits c) k)) ++ [(f, c)]).length ≤ 1000000000 := by
      have h1 := hw3.len (t := negL (nth (m.lits c) k)) (by rw [s.nv]; exact hnl2)
      rw [hV2, s.ids] at h1
      have h2 := h.pi.core.idl
      simp only [VV, htne, if_false] at h1
      omega
    have hfl : f < m.nv * 2 := h.pi.core.litlt e2 ((s1.pm c e2).mem_iff.1 hfm)
    have hW3 : Wf (((m.fix c lit).swapC c 1 k).appWl (negL (nth (m.lits c) k)) (f, c)) := by
      refine ⟨hW2.nv0, hW2.nv1, hW2.len, hW2.lit, hW2.word, ?_, hW2.wb, ?_, hW2.wbl, hW2.tr, hW2.trl⟩
      · intro t ht i' hi'
        rw [s.nv] at ht ⊢
        rw [s.ids]
        by_cases e : t = negL (nth (m.lits c) k)
        · subst e
          rw [hwl2] at hi' ⊢
          have := ent_mem _ _ hi'
          rcases List.mem_append.1 this with h' | h'
          · obtain ⟨q, hq, hq2⟩ := mem_ent h'
            rw [← hq2]; exact h.pi.core.wf.wl _ ht q hq
          · have : ent (m.wl (negL (nth (m.lits c) k)) ++ [(f, c)]) i' = (f, c) := by simpa using h'
            rw [this]; exact ⟨hfl, e2⟩
        · rw [hwl1 t e] at hi' ⊢; exact h.pi.core.wf.wl t ht i' hi'
      · intro t ht
        rw [s.nv] at ht
        by_cases e : t = negL (nth (m.lits c) k)
        · subst e; rw [hwl2]; exact hlen
        · rw [hwl1 t e]; exact h.pi.core.wf.wll t ht
    have hji := h.ji
    refine ⟨h.pi.sim s hW3 hw3 ?_, ?_, ?_, by rw [s.trail]; exact h.hp, by rw [s.trail]; exact h.tp, by rw [hwl0]; exact h.len, by omega, by omega, ?_⟩
    · refine h.pi.pc.sim s (by have := h.hp; omega) h.pi.core.wf.tr h.pi.wt ?_
      intro i' hi' e' he'
      by_cases t1 : nth m.trail i' = lit
      · rw [t1] at he' ⊢
        rw [hV1] at he'
        rw [h.at_ hi he]
        rcases List.mem_append.1 he' with h' | h'
        · exact ⟨e', List.mem_append_left _ h', rfl⟩
        · exact ⟨e', by simp [h'], rfl⟩
      · by_cases t2 : nth m.trail i' = negL (nth (m.lits c) k)
        · exfalso
          have h3 := h.pi.core.tl.tr1 i' (by have := h.hp; omega)
          rw [t2] at h3
          have h4 := lst_neg1 h3
          rw [negL_negL] at h4
          exact hkn h4
        · rw [hV3 _ t1 t2] at he'; exact ⟨e', he', rfl⟩
    · intro e he'
      rw [hwl0] at he'
      obtain ⟨x, x1, x2⟩ := h.kept e he'
      have hid : e.2 ∈ m.ids := (h.pi.wt.en lit h.nv e (by rw [h.at_ hi he]; exact List.mem_append_left _ he')).2.1
      exact ⟨x, (s.pm _ hid).mem_iff.2 x1, by rw [s.lst]; exact x2⟩
    · intro e he'
      rw [s.wb] at he'
      rw [s.lst]; exact h.bin e he'
    · intro k' hk' hk2'
      rw [hwl0]; exact h.rest k' (by omega) hk2'
  caseD := by
    intro i j m b c f h hi he _ hf hx hk
    obtain ⟨e1, e2, e3, e4⟩ := h.en hi he
    have hfm : f ∈ m.lits c := by
      rw [← mem_fix (lit := lit) e2 (by omega), hf]; exact nth_mem _ _ (by rw [fix_len]; omega)
    have hfalse := h.false_ hi he hf hk
    have hnv0 := h.pi.ext.nv
    have s1 : Sim m (m.fix c lit) := fix_sim (fun _ => by omega) e2
    -- the literal is bound first, in the state before
    have hji := h.ji
    have hjl : j < (m.wl lit).length := by rw [h.len]; omega
    have hB := h.pi.bind hl (by have := h.hp; omega) hx (by rw [hnv0]; exact hb) e2 hfm hfalse
    have hu : m.va (f / 2) = 0 := by
      unfold MS.lst at hx
      split at hx
      · assumption
      · split at hx <;> cases hx
    have hfl := h.pi.core.litlt e2 hfm
    have hvl := h.pi.core.vl
    have hSI : SI u0 lvl m0 p lit L i j (m.bind f (some c) lvl) := by
      refine ⟨hB, ?_, ?_, by rw [bind_len]; have := h.hp; omega, by rw [bind_tr p h.hp]; exact h.tp, h.len, h.ji, h.il, h.rest⟩
      · intro e he'
        obtain ⟨x, x1, x2⟩ := h.kept e he'
        exact ⟨x, x1, by rw [bind_lst hvl hfl hu (by rw [x2]; decide)]; exact x2⟩
      · intro e he'
        have := h.bin e he'
        rw [bind_lst hvl hfl hu (by rw [this]; decide)]; exact this
    have hk2 := hSI.keep hi he (f := f) (fix_sim (fun _ => by show 2 ≤ (m.lits c).length; omega) (by show c ∈ m.ids; exact e2)) (hSI.pi.core.wf.fix (by show c ∈ m.ids; exact e2) lit) (hSI.pi.wt.fix (by show c ∈ m.ids; exact e2) (by show 2 ≤ (m.lits c).length; omega)) (fix_wl _ _ _) hfm ⟨f, hfm, (bind_self hvl hfl hl).1⟩
    have e0 : (((m.bind f (some c) lvl).fix c lit).setWl lit (((m.bind f (some c) lvl).wl lit).set j (f, c))).lockC c = (((m.fix c lit).setWl lit ((m.wl lit).set j (f, c))).pUnit c (lvl : Int) f) := by
      unfold MS.fix
      show (((if nth (m.lits c) 0 = negL lit then _ else _ : MS)).setWl lit _).lockC c = _
      split <;> rfl
    rw [← e0]
    exact ⟨hk2.pi.sim (sim_lock _ _) (wf_lock hk2.pi.core.wf c) (hk2.pi.wt.sim (sim_lock _ _) rfl) (hk2.pi.pc.sim (sim_lock _ _) (by have := hk2.hp; omega) hk2.pi.core.wf.tr hk2.pi.wt fun _ _ e' he' => ⟨e', he', rfl⟩), hk2.kept, hk2.bin, hk2.hp, hk2.tp, hk2.len, hk2.ji, hk2.il, hk2.rest⟩
end
end Go.Proofs.YtiimddkopiknpaaGreatDoor

/-
  The invariants over propagate, whole.
-/
namespace Go.Proofs.YtiimddkopiknpaaGreatDoor

structure BI (u0 lvl : Nat) (m0 : MS) (l p i : Nat) (m : MS) : Prop where
  pi : PI u0 lvl m0 p m.wl m
  hp : p < m.trail.length
  tp : nth m.trail p = l
  il : i ≤ (m.wb l).length
  done : ∀ k, k < i → m.lst (ent (m.wb l) k).1 = 1
structure JI (u0 lvl : Nat) (m0 : MS) (p : Nat) (m : MS) : Prop where
  pi : PI u0 lvl m0 p m.wl m
  hp : p ≤ m.trail.length
structure CI (u0 lvl : Nat) (m0 : MS) (c : Nat) (m : MS) : Prop where
  pi : ∃ p, p < m.trail.length ∧ PI u0 lvl m0 p m.wl m
  hc : c ∈ m.ids
  f : ∀ y ∈ m.lits c, m.lst y = 2
  at_ : ∃ y ∈ m.lits c, m.lev (y / 2) = lvl

section
variable {u0 lvl : Nat} {m0 : MS}
theorem BI.nv {l p i : Nat} {m : MS} (h : BI u0 lvl m0 l p i m) : l < m.nv * 2 := by rw [← h.tp]; exact h.pi.core.wf.tr p h.hp
theorem BI.t1 {l p i : Nat} {m : MS} (h : BI u0 lvl m0 l p i m) : m.lst l = 1 := by rw [← h.tp]; exact h.pi.core.tl.tr1 p h.hp
theorem BI.lv {l p i : Nat} {m : MS} (h : BI u0 lvl m0 l p i m) : m.lev (l / 2) = lvl := by rw [← h.tp]; exact h.pi.lv p (Nat.le_refl _) h.hp
theorem BI.en {l p i o c : Nat} {m : MS} (h : BI u0 lvl m0 l p i m) (hi : i < (m.wb l).length) (he : ent (m.wb l) i = (o, c)) : c ∈ m.ids ∧ o ∈ m.lits c ∧ negL l ∈ m.lits c ∧ ∀ y ∈ m.lits c, y ≠ o → y = negL l := by
  have hm := ent_mem _ _ hi
  rw [he] at hm
  obtain ⟨a1, a2, a3, a4, a5⟩ := h.pi.core.wbe l h.nv (o, c) hm
  exact ⟨a2, a1, a4, fun y hy hne => by rcases two_mem a3 a1 a4 a5 hy with h' | h'; exact (hne h').elim; exact h'⟩

theorem pri (hl : 1 ≤ lvl) (hb : u0 + m0.nv ≤ 1000000000) : PRI (lvl : Int) (u0 + m0.nv) (JI u0 lvl m0) (BI u0 lvl m0) (CI u0 lvl m0) where
  wf h := h.pi.core.wf
  len h := by have h1 := h.pi.core.bound; have h2 := h.pi.ext.nv; omega
  wfB h := ⟨h.pi.core.wf, h.nv, h.il, h.hp, by have h1 := h.pi.core.bound; have h2 := h.pi.ext.nv; omega⟩
  start h hp := ⟨h.pi, hp, rfl, Nat.zero_le _, fun k hk => by omega⟩
  sat := by
    intro l p i m o c h hi he hx
    refine ⟨h.pi, h.hp, h.tp, hi, fun k hk => ?_⟩
    by_cases e : k = i
    · rw [e, he]; exact hx
    · exact h.done k (by omega)
  unit := by
    intro l p i m o c h hi he hx
    obtain ⟨a1, a2, a3, a4⟩ := h.en hi he
    have hnv0 := h.pi.ext.nv
    have hB := h.pi.bind hl (by have := h.hp; omega) hx (by rw [hnv0]; exact hb) a1 a2 (fun y hy hne => by rw [a4 y hy hne]; exact lst_neg1 h.t1)
    have hu : m.va (o / 2) = 0 := by
      unfold MS.lst at hx
      split at hx
      · assumption
      · split at hx <;> cases hx
    have hol := h.pi.core.litlt a1 a2
    have hvl := h.pi.core.vl
    refine ⟨hB, by show p < (m.bind o (some c) lvl).trail.length; rw [bind_len]; have := h.hp; omega, by show nth (m.bind o (some c) lvl).trail p = l; rw [bind_tr p h.hp]; exact h.tp, hi, fun k hk => ?_⟩
    show (m.bind o (some c) lvl).lst (ent (m.wb l) k).1 = 1
    by_cases e : k = i
    · rw [e, he]; exact (bind_self hvl hol hl).1
    · have := h.done k (by omega)
      rw [bind_lst hvl hol hu (by rw [this]; decide)]; exact this
  conf := by
    intro l p i m o c h hi he hx
    obtain ⟨a1, a2, a3, a4⟩ := h.en hi he
    refine ⟨⟨p, h.hp, h.pi⟩, a1, fun y hy => ?_, ⟨negL l, a3, by rw [negL_div]; exact h.lv⟩⟩
    by_cases e : y = o
    · rw [e]; exact hx
    · rw [a4 y hy e]; exact lst_neg1 h.t1
  toSP := by
    intro l p m h
    refine ⟨fun i j m' => SI u0 lvl m0 p l (m.wl l) i j m', si_spi hl hb, ?_, ?_, ?_⟩
    · have hV : VV m l (m.wl l) 0 0 = m.wl := by
        funext t
        unfold VV
        by_cases e : t = l
        · rw [if_pos e, e]; simp
        · rw [if_neg e]
      refine ⟨by rw [hV]; exact h.pi, fun e he => by simp at he, fun e he => ?_, h.hp, h.tp, rfl, Nat.le_refl _, Nat.zero_le _, fun k _ _ => rfl⟩
      obtain ⟨k, hk, hk2⟩ := mem_ent he
      rw [← hk2]; exact h.done k hk
    · intro j m' hs
      have hV : VV m' l (m.wl l) (m.wl l).length j = (m'.setWl l ((m'.wl l).take j)).wl := by
        funext t
        unfold VV MS.setWl
        by_cases e : t = l
        · simp only [e, if_true]; simp
        · simp only [e, if_false]
      have s := sim_setWl m' l ((m'.wl l).take j)
      have hW : Wf (m'.setWl l ((m'.wl l).take j)) := by
        refine wf_setWl hs.pi.core.wf (fun e he => ?_) ?_
        · obtain ⟨k, hk, hk2⟩ := mem_ent (List.mem_of_mem_take he)
          rw [← hk2]; exact hs.pi.core.wf.wl l hs.nv k hk
        · have := hs.pi.core.wf.wll l hs.nv
          rw [List.length_take]; omega
      have hw := hs.pi.wt
      rw [hV] at hw
      refine ⟨⟨hs.pi.core.sim s hW, hw.sim s rfl, ?_, fun i h1 h2 => by rw [s.trail] at h2 ⊢; rw [s.lev]; exact hs.pi.lv i (by omega) h2, hs.pi.ext.sim s⟩, by rw [s.trail]; exact hs.hp⟩
      have hle : ∀ x, x < m'.nv * 2 → m'.lst x ≠ 0 → m'.lev (x / 2) ≤ lvl := fun x hx hf => hs.pi.core.le hx hf
      refine ⟨?_, ?_⟩
      · intro i hi e he
        show ∃ x ∈ m'.lits e.2, m'.lst x = 1 ∧ m'.lev (x / 2) ≤ m'.lev (nth m'.trail i / 2)
        have he : e ∈ (m'.setWl l ((m'.wl l).take j)).wl (nth m'.trail i) := he
        by_cases e' : i < p
        · refine hs.pi.pc.l i e' e ?_
          rw [hV]; exact he
        · have : i = p := by omega
          subst this
          have hl1 := hs.lv
          rw [hs.tp] at he ⊢
          have he2 : e ∈ (m'.wl l).take j := by simpa [MS.setWl] using he
          obtain ⟨x, x1, x2⟩ := hs.kept e he2
          have hid : e.2 ∈ m'.ids := (hs.pi.wt.en l hs.nv e (by rw [hV]; exact he)).2.1
          refine ⟨x, x1, x2, ?_⟩
          rw [hl1]
          exact hle x (hs.pi.core.litlt hid x1) (by rw [x2]; decide)
      · intro i hi e he
        show m'.lst e.1 = 1 ∧ m'.lev (e.1 / 2) ≤ m'.lev (nth m'.trail i / 2)
        have he : e ∈ m'.wb (nth m'.trail i) := he
        by_cases e' : i < p
        · exact hs.pi.pc.b i e' e he
        · have : i = p := by omega
          subst this
          have hl1 := hs.lv
          rw [hs.tp] at he ⊢
          have x2 := hs.bin e he
          obtain ⟨a1, a2, _⟩ := hs.pi.core.wbe l hs.nv e he
          refine ⟨x2, ?_⟩
          rw [hl1]
          exact hle _ (hs.pi.core.litlt a2 a1) (by rw [x2]; decide)
    · intro i j b c f m' hs hi he _ hf hx hk
      obtain ⟨e1, e2, e3, e4⟩ := hs.en hi he
      obtain ⟨g1, g2⟩ := hs.first hi he
      have hfm : f ∈ m'.lits c := by
        rw [← mem_fix (lit := l) e2 (by omega), hf]; exact nth_mem _ _ (by rw [fix_len]; omega)
      have hfalse := hs.false_ hi he hf hk
      have s1 : Sim m' (m'.fix c l) := fix_sim (fun _ => by omega) e2
      have s := s1.trans (sim_setWl (m'.fix c l) l ((m'.wl l).take j ++ (f, c) :: (m'.wl l).drop (i + 1)))
      have hd : (m'.wl l).drop (i + 1) = (m.wl l).drop (i + 1) := drop_same hs.len fun k h1 h2 => hs.rest k (by omega) h2
      have hV1 : ((m'.fix c l).setWl l ((m'.wl l).take j ++ (f, c) :: (m'.wl l).drop (i + 1))).wl l = (m'.wl l).take j ++ (f, c) :: (m.wl l).drop (i + 1) := by
        simp only [MS.setWl, if_true]; rw [hd]
      have hV2 : ∀ t, t ≠ l → ((m'.fix c l).setWl l ((m'.wl l).take j ++ (f, c) :: (m'.wl l).drop (i + 1))).wl t = VV m' l (m.wl l) i j t := by
        intro t ht
        simp only [MS.setWl, VV, ht, if_false]; rw [fix_wl]
      have hw1 : Wt (m'.fix c l) ((m'.fix c l).setWl l ((m'.wl l).take j ++ (f, c) :: (m'.wl l).drop (i + 1))).wl := (hs.pi.wt.fix e2 (by omega)).blk (hs.at_ hi he) ((mem_fix e2 (by omega)).2 hfm) hV1 hV2
      have hji := hs.ji
      have hmem : ∀ e' ∈ (m'.wl l).take j ++ (f, c) :: (m'.wl l).drop (i + 1), e' ∈ m'.wl l ∨ e' = (f, c) := by
        intro e' he'
        rcases List.mem_append.1 he' with h' | h'
        · exact .inl (List.mem_of_mem_take h')
        · rcases List.mem_cons.1 h' with h' | h'
          · exact .inr h'
          · exact .inl (List.mem_of_mem_drop h')
      have hW : Wf ((m'.fix c l).setWl l ((m'.wl l).take j ++ (f, c) :: (m'.wl l).drop (i + 1))) := by
        refine wf_setWl (hs.pi.core.wf.fix e2 l) (fun e' he' => ?_) ?_
        · rw [s1.nv, s1.ids]
          rcases hmem e' he' with h' | h'
          · obtain ⟨k, hk, hk2⟩ := mem_ent h'
            rw [← hk2]; exact hs.pi.core.wf.wl l hs.nv k hk
          · rw [h']; exact ⟨hs.pi.core.litlt e2 hfm, e2⟩
        · have := hs.pi.core.wf.wll l hs.nv
          have h2 := hs.len
          simp only [List.length_append, List.length_take, List.length_cons, List.length_drop]
          omega
      refine ⟨⟨p, by rw [s.trail]; exact hs.hp, hs.pi.sim s hW (hw1.sim (sim_setWl _ _ _) rfl) ?_⟩, by rw [s.ids]; exact e2, ?_, ?_⟩
      · refine hs.pi.pc.sim s (by have := hs.hp; omega) hs.pi.core.wf.tr hs.pi.wt ?_
        intro k hk' e' he'
        by_cases t1 : nth m'.trail k = l
        · rw [t1] at he' ⊢
          rw [hV1] at he'
          rw [hs.at_ hi he]
          rcases List.mem_append.1 he' with h' | h'
          · exact ⟨e', List.mem_append_left _ h', rfl⟩
          · rcases List.mem_cons.1 h' with h' | h'
            · exact ⟨(b, c), by simp, by rw [h']⟩
            · exact ⟨e', by simp [h'], rfl⟩
        · rw [hV2 _ t1] at he'; exact ⟨e', he', rfl⟩
      · intro y hy
        have hy := (s.pm c e2).mem_iff.1 hy
        rw [s.lst]
        by_cases e : y = f
        · rw [e]; exact hx
        · exact hfalse y hy e
      · refine ⟨negL l, (s.pm c e2).mem_iff.2 ?_, by rw [s.lev, negL_div]; exact hs.lv⟩
        rw [← mem_fix (lit := l) e2 (by omega), ← g1]
        exact nth_mem _ _ (by rw [fix_len]; omega)
end
end Go.Proofs.YtiimddkopiknpaaGreatDoor

/-
  The solver's struct as New builds it: its cells.
-/
namespace Go.Proofs.YtiimddkopiknpaaGreatDoor
open Go.RowKit

theorem fill_one (place : Nat → Option (Nat × Nat)) (cells : Array Value) (i off : Nat) (v : Value) (rest : List (Nat × Value)) (h : place i = some (off, 1)) (hv : v.oneCell' = true) (ho : off < cells.size) :
    Instr.fill place cells ((i, v) :: rest) = Instr.fill place (cells.setIfInBounds off v) rest := by
  have hc : v.cells = #[v] := by cases v <;> first | rfl | (simp [Value.oneCell'] at hv)
  rw [Instr.fill, h]
  simp only [hc]
  rw [if_neg (by simp; omega)]
  simp

/-- which zero a cell holds -/
def kindV (v : Value) : Nat := match v with
  | .bool false => 1
  | .slice none 0 0 => 2
  | .int .i64 0 => 3
  | .int .u8 0 => 4
  | .float .f64 0 => 5
  | .float .f32 0 => 6
  | _ => 0
def headK : List Nat := [1, 1, 2, 1, 3, 4, 3, 3, 2, 2, 2, 2, 2, 2, 2, 2, 2, 2, 2, 2, 2, 2, 2, 2, 5, 6, 3, 3, 3, 3, 5, 3, 3, 3, 3, 5]
def tailK : List Nat := [3, 3, 3, 3, 3, 3, 3, 3, 2, 2, 2, 3, 5, 2, 2, 2]
def chkSol (z : List Value) : Bool := (z.take 36).map kindV == headK && ((z.drop 36).take 5050).all (fun v => kindV v == 3) && ((z.drop 36).drop 5050).map kindV == tailK
theorem zSol_ok : ((Tryz.prog.info? 77).bind (·.zero)).map (fun v => chkSol v.cells.toList) = some true := by kernel_rfl
def solK (j : Nat) : Nat := if j < 36 then headK.getD j 0 else if j < 5086 then 3 else tailK.getD (j - 5086) 0
theorem map_kind {z : List Value} {K : List Nat} (h : z.map kindV = K) {j : Nat} (hj : j < K.length) : ∃ v, z[j]? = some v ∧ kindV v = K.getD j 0 := by
  subst h
  simp only [List.length_map] at hj
  exact ⟨z[j], by simp, by simp [hj]⟩
theorem zSol : ∃ i z, Tryz.prog.info? 77 = some i ∧ i.zero = some z ∧ z.cells.size = 5102 ∧ ∀ j, j < 5102 → ∃ v, z.cells[j]? = some v ∧ kindV v = solK j := by
  have h := zSol_ok
  cases hi : Tryz.prog.info? 77 with
  | none => rw [hi] at h; cases h
  | some i =>
    rw [hi] at h
    simp only [Option.bind_some] at h
    cases hz : i.zero with
    | none => rw [hz] at h; cases h
    | some z =>
      rw [hz] at h
      have h : chkSol z.cells.toList = true := by simpa using h
      unfold chkSol at h
      simp only [Bool.and_eq_true, beq_iff_eq] at h
      obtain ⟨⟨h1, h2⟩, h3⟩ := h
      have l1 : (z.cells.toList.take 36).length = 36 := by rw [← List.length_map (f := kindV), h1]; rfl
      have l3 : ((z.cells.toList.drop 36).drop 5050).length = 16 := by rw [← List.length_map (f := kindV), h3]; rfl
      have l4 : z.cells.size = 5102 := by
        simp only [List.length_drop, Array.length_toList] at l3
        omega
      refine ⟨i, z, rfl, hz, l4, fun j hj => ?_⟩
      have e : ∀ k, z.cells[k]? = z.cells.toList[k]? := fun k => (Array.getElem?_toList).symm
      rw [e]
      unfold solK
      by_cases c1 : j < 36
      · rw [if_pos c1]
        obtain ⟨v, hv, hk⟩ := map_kind h1 (j := j) (by show j < 36; exact c1)
        rw [List.getElem?_take, if_pos c1] at hv
        exact ⟨v, hv, hk⟩
      · rw [if_neg c1]
        by_cases c2 : j < 5086
        · rw [if_pos c2]
          have hlt : j < z.cells.toList.length := by simp; omega
          refine ⟨z.cells.toList[j], by simp [hlt], ?_⟩
          have hm : z.cells.toList[j] ∈ (z.cells.toList.drop 36).take 5050 := by
            rw [List.mem_iff_getElem?]
            refine ⟨j - 36, ?_⟩
            rw [List.getElem?_take, if_pos (by omega), List.getElem?_drop]
            have : 36 + (j - 36) = j := by omega
            rw [this]; simp [hlt]
          have := List.all_eq_true.1 h2 _ hm
          simpa using this
        · rw [if_neg c2]
          obtain ⟨v, hv, hk⟩ := map_kind h3 (j := j - 5086) (by show j - 5086 < 16; omega)
          rw [List.getElem?_drop, List.getElem?_drop] at hv
          have : 36 + (5050 + (j - 5086)) = j := by omega
          rw [this] at hv
          exact ⟨v, hv, hk⟩
theorem kind_1 {v : Value} (h : kindV v = 1) : v = .bool false := by unfold kindV at h; split at h <;> first | rfl | cases h
theorem kind_2 {v : Value} (h : kindV v = 2) : v = .slice none 0 0 := by unfold kindV at h; split at h <;> first | rfl | cases h
theorem kind_3 {v : Value} (h : kindV v = 3) : v = .int .i64 0 := by unfold kindV at h; split at h <;> first | rfl | cases h
theorem kind_5 {v : Value} (h : kindV v = 5) : v = .float .f64 0 := by unfold kindV at h; split at h <;> first | rfl | cases h
end Go.Proofs.YtiimddkopiknpaaGreatDoor

/-
  What building the solver's struct gives.
-/
namespace Go.Proofs.YtiimddkopiknpaaGreatDoor
open Go.RowKit

theorem solPlaces : ∃ fields, Tryz.prog.underlying 77 = some (.struct fields) ∧ ∀ w : World, (Array.mapM (fun f => do let s ← sizeOf f.type; pure (f.offset, s)) fields : Sem (Array (Nat × Nat))).run Tryz.prog w =
    .ok #[(0, 1), (1, 1), (2, 1), (3, 1), (4, 1), (5, 1), (6, 8), (14, 1), (15, 1), (16, 1), (17, 1), (18, 1), (19, 1), (20, 1), (21, 3), (24, 1), (25, 1), (26, 5060), (5086, 1), (5087, 7), (5094, 1), (5095, 1), (5096, 1), (5097, 1), (5098, 1), (5099, 1), (5100, 1), (5101, 1)] w :=
  ⟨_, Tryz.underlying77, fun w => by kernel_rfl⟩
/-- the values are laid over the zero cells -/
def layL : List (Nat × Value) → Array Value → Array Value
  | [], z => z
  | (off, v) :: r, z => layL r (z.setIfInBounds off v)
theorem layL_size (L : List (Nat × Value)) (z : Array Value) : (layL L z).size = z.size := by
  induction L generalizing z with
  | nil => rfl
  | cons x L ih => show (layL L (z.setIfInBounds x.1 x.2)).size = _; rw [ih]; simp
theorem layL_ne (L : List (Nat × Value)) (z : Array Value) (j : Nat) (h : ∀ x ∈ L, x.1 ≠ j) : (layL L z)[j]? = z[j]? := by
  induction L generalizing z with
  | nil => rfl
  | cons x L ih =>
    show (layL L (z.setIfInBounds x.1 x.2))[j]? = _
    rw [ih _ (fun y hy => h y (List.mem_cons_of_mem _ hy)), Array.getElem?_setIfInBounds, if_neg (h x (by simp))]
theorem layL_at (L : List (Nat × Value)) (z : Array Value) (j : Nat) (v : Value) (hj : j < z.size) (hn : (L.map Prod.fst).Nodup) (h : (j, v) ∈ L) : (layL L z)[j]? = some v := by
  induction L generalizing z with
  | nil => simp at h
  | cons x L ih =>
    rw [List.map_cons, List.nodup_cons] at hn
    show (layL L (z.setIfInBounds x.1 x.2))[j]? = _
    rcases List.mem_cons.1 h with e | h
    · subst e
      rw [layL_ne L _ j (fun y hy e' => hn.1 (by have h9 := List.mem_map_of_mem (f := Prod.fst) hy; rw [e'] at h9; exact h9)), Array.getElem?_setIfInBounds, if_pos rfl, if_pos hj]
    · exact ih _ (by simpa using hj) hn.2 h

theorem build_sol :
    ∃ z : Array Value, z.size = 5102 ∧ (∀ j, j < 5102 → ∃ v, z[j]? = some v ∧ kindV v = solK j) ∧ ∀ (v4 v5 v7 v8 v10 v11 v12 v13 v15 v16 v18 v20 v21 v24 v25 v26 v27 : Value) (_ : ∀ v ∈ [v4, v5, v7, v8, v10, v11, v12, v13, v15, v16, v18, v20, v21, v24, v25, v26, v27], v.oneCell' = true) (w : World), (Instr.build 77 #[(4, v4), (5, v5), (7, v7), (8, v8), (10, v10), (11, v11), (12, v12), (13, v13), (15, v15), (16, v16), (18, v18), (20, v20), (21, v21), (24, v24), (25, v25), (26, v26), (27, v27)]).run Tryz.prog w =
      .ok (.agg (layL [(4, v4), (5, v5), (14, v7), (15, v8), (17, v10), (18, v11), (19, v12), (20, v13), (24, v15), (25, v16), (5086, v18), (5094, v20), (5095, v21), (5098, v24), (5099, v25), (5100, v26), (5101, v27)] z)) w := by
  obtain ⟨i, z, hi, hz, hs, hk⟩ := zSol
  obtain ⟨fields, hu, hp⟩ := solPlaces
  refine ⟨z.cells, hs, hk, fun v4 v5 v7 v8 v10 v11 v12 v13 v15 v16 v18 v20 v21 v24 v25 v26 v27 hone w => ?_⟩
  have hfill : Instr.fill (fun x => (#[(0, 1), (1, 1), (2, 1), (3, 1), (4, 1), (5, 1), (6, 8), (14, 1), (15, 1), (16, 1), (17, 1), (18, 1), (19, 1), (20, 1), (21, 3), (24, 1), (25, 1), (26, 5060), (5086, 1), (5087, 7), (5094, 1), (5095, 1), (5096, 1), (5097, 1), (5098, 1), (5099, 1), (5100, 1), (5101, 1)] : Array (Nat × Nat))[x]?) z.cells [(4, v4), (5, v5), (7, v7), (8, v8), (10, v10), (11, v11), (12, v12), (13, v13), (15, v15), (16, v16), (18, v18), (20, v20), (21, v21), (24, v24), (25, v25), (26, v26), (27, v27)] =
      some (layL [(4, v4), (5, v5), (14, v7), (15, v8), (17, v10), (18, v11), (19, v12), (20, v13), (24, v15), (25, v16), (5086, v18), (5094, v20), (5095, v21), (5098, v24), (5099, v25), (5100, v26), (5101, v27)] z.cells) := by
    rw [fill_one _ _ 4 4 _ _ rfl (hone v4 (by simp)) (by simp [hs]), fill_one _ _ 5 5 _ _ rfl (hone v5 (by simp)) (by simp [hs]), fill_one _ _ 7 14 _ _ rfl (hone v7 (by simp)) (by simp [hs]), fill_one _ _ 8 15 _ _ rfl (hone v8 (by simp)) (by simp [hs]), fill_one _ _ 10 17 _ _ rfl (hone v10 (by simp)) (by simp [hs]), fill_one _ _ 11 18 _ _ rfl (hone v11 (by simp)) (by simp [hs]), fill_one _ _ 12 19 _ _ rfl (hone v12 (by simp)) (by simp [hs]), fill_one _ _ 13 20 _ _ rfl (hone v13 (by simp)) (by simp [hs]), fill_one _ _ 15 24 _ _ rfl (hone v15 (by simp)) (by simp [hs]), fill_one _ _ 16 25 _ _ rfl (hone v16 (by simp)) (by simp [hs]), fill_one _ _ 18 5086 _ _ rfl (hone v18 (by simp)) (by simp [hs]), fill_one _ _ 20 5094 _ _ rfl (hone v20 (by simp)) (by simp [hs]), fill_one _ _ 21 5095 _ _ rfl (hone v21 (by simp)) (by simp [hs]), fill_one _ _ 24 5098 _ _ rfl (hone v24 (by simp)) (by simp [hs]), fill_one _ _ 25 5099 _ _ rfl (hone v25 (by simp)) (by simp [hs]), fill_one _ _ 26 5100 _ _ rfl (hone v26 (by simp)) (by simp [hs]), fill_one _ _ 27 5101 _ _ rfl (hone v27 (by simp)) (by simp [hs])]
    rfl
  unfold Instr.build
  have hz' : (zeroValue 77).run Tryz.prog w = .ok z w := by
    unfold zeroValue typeInfo
    simp [hi, hz]
  rw [Sem.run_bind, hz', Result.andThen_ok, Sem.run_bind, run_underlying hu, Result.andThen_ok]
  simp only []
  rw [Sem.run_bind, hp w, Result.andThen_ok]
  simp only [hfill, Sem.run_pure]
end Go.Proofs.YtiimddkopiknpaaGreatDoor

/-
  What watching a clause more gives: the watch lists hold what the clauses watched so far ask for.
-/
namespace Go.Proofs.YtiimddkopiknpaaGreatDoor

def app2 (f : Nat → List (Nat × Nat)) (t0 : Nat) (e0 : Nat × Nat) (t1 : Nat) (e1 : Nat × Nat) : Nat → List (Nat × Nat) := fun t => if t = t1 then f t1 ++ [e1] else if t = t0 then f t0 ++ [e0] else f t
theorem mem_app2 {f : Nat → List (Nat × Nat)} {t0 t1 t : Nat} {e0 e1 e : Nat × Nat} (hne : t0 ≠ t1) : e ∈ app2 f t0 e0 t1 e1 t ↔ e ∈ f t ∨ (t = t0 ∧ e = e0) ∨ (t = t1 ∧ e = e1) := by
  unfold app2
  by_cases h1 : t = t1
  · subst h1; simp [Ne.symm hne]
  · by_cases h0 : t = t0
    · subst h0; simp [h1]
    · simp [h1, h0]
theorem nodup_app2 {f : Nat → List (Nat × Nat)} {t0 t1 t c a b : Nat} (h : ((f t).map Prod.snd).Nodup) (hc : ∀ e ∈ f t, e.2 ≠ c) : ((app2 f t0 (a, c) t1 (b, c) t).map Prod.snd).Nodup := by
  have key : ∀ (L : List (Nat × Nat)) (x : Nat), (L.map Prod.snd).Nodup → (∀ e ∈ L, e.2 ≠ c) → ((L ++ [(x, c)]).map Prod.snd).Nodup := by
    intro L x h1 h2
    rw [List.map_append, List.nodup_append]
    refine ⟨h1, by simp, ?_⟩
    intro u hu v hv
    obtain ⟨e, he, rfl⟩ := List.mem_map.1 hu
    have : v = c := by simpa using hv
    rw [this]; exact h2 e he
  unfold app2
  by_cases h1 : t = t1
  · subst h1; rw [if_pos rfl]; exact key _ _ h hc
  · rw [if_neg h1]
    by_cases h0 : t = t0
    · subst h0; rw [if_pos rfl]; exact key _ _ h hc
    · rw [if_neg h0]; exact h

theorem watch_wb (m : MS) (c : Nat) (hne : negL (nth (m.lits c) 0) ≠ negL (nth (m.lits c) 1)) : (m.watch c).wb = if (m.lits c).length = 2 then app2 m.wb (negL (nth (m.lits c) 0)) (nth (m.lits c) 1, c) (negL (nth (m.lits c) 1)) (nth (m.lits c) 0, c) else m.wb := by
  unfold MS.watch
  split
  · funext t
    simp only [MS.appWb, app2]
    split
    · rw [if_neg (Ne.symm hne)]
    · rfl
  · rfl
theorem watch_wl (m : MS) (c : Nat) (hne : negL (nth (m.lits c) 0) ≠ negL (nth (m.lits c) 1)) : (m.watch c).wl = if (m.lits c).length = 2 then m.wl else app2 m.wl (negL (nth (m.lits c) 0)) (nth (m.lits c) 1, c) (negL (nth (m.lits c) 1)) (nth (m.lits c) 0, c) := by
  unfold MS.watch
  split
  · rfl
  · funext t
    simp only [MS.appWl, app2]
    split
    · rw [if_neg (Ne.symm hne)]
    · rfl
theorem watch_same (m : MS) (c : Nat) : (m.watch c).nv = m.nv ∧ (m.watch c).val = m.val ∧ (m.watch c).trail = m.trail ∧ (m.watch c).rsn = m.rsn ∧ (m.watch c).lits = m.lits ∧ (m.watch c).word = m.word ∧ (m.watch c).ids = m.ids ∧ (m.watch c).orig = m.orig ∧ (m.watch c).lrn = m.lrn := by
  unfold MS.watch
  split <;> exact ⟨rfl, rfl, rfl, rfl, rfl, rfl, rfl, rfl, rfl⟩

/-- the watch lists hold what the clauses D ask for -/
structure WtD (m : MS) (D : Nat → Prop) : Prop where
  en : ∀ t, t < m.nv * 2 → ∀ e ∈ m.wl t, e.1 ∈ m.lits e.2 ∧ D e.2 ∧ 3 ≤ (m.lits e.2).length ∧ (t = negL (nth (m.lits e.2) 0) ∨ t = negL (nth (m.lits e.2) 1))
  uniq : ∀ t, t < m.nv * 2 → ((m.wl t).map Prod.snd).Nodup
  all : ∀ c, D c → 3 ≤ (m.lits c).length → ∀ k, k < 2 → c ∈ (m.wl (negL (nth (m.lits c) k))).map Prod.snd
  wbe : ∀ t, t < m.nv * 2 → ∀ e ∈ m.wb t, e.1 ∈ m.lits e.2 ∧ D e.2 ∧ (m.lits e.2).length = 2 ∧ negL t ∈ m.lits e.2 ∧ e.1 ≠ negL t
  wbu : ∀ t, t < m.nv * 2 → ((m.wb t).map Prod.snd).Nodup
  wba : ∀ c, D c → (m.lits c).length = 2 → ∀ y ∈ m.lits c, ∃ e ∈ m.wb (negL y), e.2 = c

theorem WtD.start (m : MS) (h1 : ∀ t, m.wl t = []) (h2 : ∀ t, m.wb t = []) : WtD m (fun _ => False) := by
  refine ⟨fun t _ e he => ?_, fun t _ => ?_, fun c hc => hc.elim, fun t _ e he => ?_, fun t _ => ?_, fun c hc => hc.elim⟩
  · rw [h1] at he; cases he
  · rw [h1]; exact List.nodup_nil
  · rw [h2] at he; cases he
  · rw [h2]; exact List.nodup_nil
theorem WtD.mono {m : MS} {D D' : Nat → Prop} (h : WtD m D) (hD : ∀ c, D c ↔ D' c) : WtD m D' := by
  have : D = D' := funext fun c => propext (hD c)
  rw [← this]; exact h
theorem pair_mem {L : List Nat} (h : L.length = 2) {y : Nat} (hy : y ∈ L) : y = nth L 0 ∨ y = nth L 1 := by
  match L, h with
  | [a, b], _ => simpa [nth] using hy
theorem WtD.step {m : MS} {D : Nat → Prop} {c : Nat} (h : WtD m D) (hc : ¬ D c) (hl : 2 ≤ (m.lits c).length) (hne : nth (m.lits c) 0 / 2 ≠ nth (m.lits c) 1 / 2) : WtD (m.watch c) (fun x => D x ∨ x = c) := by
  obtain ⟨a1, _, _, _, a2, _⟩ := watch_same m c
  have hn1 : negL (nth (m.lits c) 0) ≠ negL (nth (m.lits c) 1) := by
    intro e
    have : nth (m.lits c) 0 = nth (m.lits c) 1 := by rw [← negL_negL (nth (m.lits c) 0), e, negL_negL]
    exact hne (by rw [this])
  have hn2 : nth (m.lits c) 0 ≠ nth (m.lits c) 1 := fun e => hne (by rw [e])
  have m0 : nth (m.lits c) 0 ∈ m.lits c := nth_mem _ _ (by omega)
  have m1 : nth (m.lits c) 1 ∈ m.lits c := nth_mem _ _ (by omega)
  have w1 := watch_wb m c hn1
  have w2 := watch_wl m c hn1
  by_cases h2 : (m.lits c).length = 2
  · rw [if_pos h2] at w1 w2
    refine ⟨?_, ?_, ?_, ?_, ?_, ?_⟩
    · rw [a1, a2, w2]; intro t ht e he
      obtain ⟨b1, b2, b3⟩ := h.en t ht e he
      exact ⟨b1, .inl b2, b3⟩
    · rw [a1, w2]; exact h.uniq
    · rw [a2, w2]; intro c' hc' hl' k hk
      rcases hc' with hc' | rfl
      · exact h.all c' hc' hl' k hk
      · omega
    · rw [a1, a2, w1]; intro t ht e he
      rw [mem_app2 hn1] at he
      rcases he with he | ⟨rfl, rfl⟩ | ⟨rfl, rfl⟩
      · obtain ⟨b1, b2, b3⟩ := h.wbe t ht e he
        exact ⟨b1, .inl b2, b3⟩
      · exact ⟨m1, .inr rfl, h2, by rw [negL_negL]; exact m0, by rw [negL_negL]; exact Ne.symm hn2⟩
      · exact ⟨m0, .inr rfl, h2, by rw [negL_negL]; exact m1, by rw [negL_negL]; exact hn2⟩
    · rw [a1, w1]; intro t ht
      exact nodup_app2 (h.wbu t ht) fun e he ec => hc (ec ▸ (h.wbe t ht e he).2.1)
    · rw [a2, w1]; intro c' hc' hl' y hy
      rcases hc' with hc' | rfl
      · obtain ⟨e, he, hec⟩ := h.wba c' hc' hl' y hy
        exact ⟨e, (mem_app2 hn1).2 (.inl he), hec⟩
      · rcases pair_mem h2 hy with rfl | rfl
        · exact ⟨_, (mem_app2 hn1).2 (.inr (.inl ⟨rfl, rfl⟩)), rfl⟩
        · exact ⟨_, (mem_app2 hn1).2 (.inr (.inr ⟨rfl, rfl⟩)), rfl⟩
  · rw [if_neg h2] at w1 w2
    refine ⟨?_, ?_, ?_, ?_, ?_, ?_⟩
    · rw [a1, a2, w2]; intro t ht e he
      rw [mem_app2 hn1] at he
      rcases he with he | ⟨rfl, rfl⟩ | ⟨rfl, rfl⟩
      · obtain ⟨b1, b2, b3⟩ := h.en t ht e he
        exact ⟨b1, .inl b2, b3⟩
      · exact ⟨m1, .inr rfl, by show 3 ≤ (m.lits c).length; omega, .inl rfl⟩
      · exact ⟨m0, .inr rfl, by show 3 ≤ (m.lits c).length; omega, .inr rfl⟩
    · rw [a1, w2]; intro t ht
      exact nodup_app2 (h.uniq t ht) fun e he ec => hc (ec ▸ (h.en t ht e he).2.1)
    · rw [a2, w2]; intro c' hc' hl' k hk
      rcases hc' with hc' | rfl
      · obtain ⟨e, he, hec⟩ := List.mem_map.1 (h.all c' hc' hl' k hk)
        exact List.mem_map.2 ⟨e, (mem_app2 hn1).2 (.inl he), hec⟩
      · have : k = 0 ∨ k = 1 := by omega
        rcases this with rfl | rfl
        · exact List.mem_map.2 ⟨_, (mem_app2 hn1).2 (.inr (.inl ⟨rfl, rfl⟩)), rfl⟩
        · exact List.mem_map.2 ⟨_, (mem_app2 hn1).2 (.inr (.inr ⟨rfl, rfl⟩)), rfl⟩
    · rw [a1, a2, w1]; intro t ht e he
      obtain ⟨b1, b2, b3⟩ := h.wbe t ht e he
      exact ⟨b1, .inl b2, b3⟩
    · rw [a1, w1]; exact h.wbu
    · rw [a2, w1]; intro c' hc' hl' y hy
      rcases hc' with hc' | rfl
      · exact h.wba c' hc' hl' y hy
      · exact (h2 hl').elim

/-- well formed: the lists are no longer than the clauses are many -/
theorem WtD.wf {m : MS} {D : Nat → Prop} (h : WtD m D) (hD : ∀ c, D c → c ∈ m.ids) (hid : m.ids.length ≤ 1000000000) (n0 : 1 ≤ m.nv) (n1 : m.nv ≤ 1000000) (hlen : ∀ c ∈ m.ids, 2 ≤ (m.lits c).length ∧ (m.lits c).length ≤ 1000000)
    (hlit : ∀ c ∈ m.ids, ∀ x ∈ m.lits c, x < m.nv * 2) (hword : ∀ c ∈ m.ids, m.word c < 4294967296) (htr : ∀ i, i < m.trail.length → nth m.trail i < m.nv * 2) (htl : m.trail.length ≤ 1000000000) : Wf m := by
  have hent : ∀ (L : List (Nat × Nat)) i, i < L.length → ent L i ∈ L := by
    intro L i hi
    unfold ent
    rw [List.getD_eq_getElem?_getD, List.getElem?_eq_getElem hi]
    exact List.getElem_mem hi
  have hlen2 : ∀ (L : List (Nat × Nat)), (L.map Prod.snd).Nodup → (∀ e ∈ L, D e.2) → L.length ≤ 1000000000 := by
    intro L h1 h2
    have := h1.length_le_of_subset (l₂ := m.ids) (fun x hx => by
      obtain ⟨e, he, rfl⟩ := List.mem_map.1 hx
      exact hD _ (h2 e he))
    simp at this; omega
  refine ⟨n0, n1, hlen, fun c hc i hi => hlit c hc _ (nth_mem _ _ hi), hword, ?_, ?_, ?_, ?_, htr, htl⟩
  · intro t ht i hi
    obtain ⟨b1, b2, _⟩ := h.en t ht _ (hent _ i hi)
    exact ⟨hlit _ (hD _ b2) _ b1, hD _ b2⟩
  · intro t ht i hi
    obtain ⟨b1, b2, _⟩ := h.wbe t ht _ (hent _ i hi)
    exact ⟨hlit _ (hD _ b2) _ b1, hD _ b2⟩
  · intro t ht
    exact hlen2 _ (h.uniq t ht) fun e he => (h.en t ht e he).2.1
  · intro t ht
    exact hlen2 _ (h.wbu t ht) fun e he => (h.wbe t ht e he).2.1
theorem WtD.wt {m : MS} (h : WtD m (fun c => c ∈ m.ids)) : Wt m m.wl := ⟨h.en, h.uniq, h.all⟩

/-- the first state: only units on the trail, at level one; no clause speaks of them -/
theorem Core.first {m : MS} (hW : Wf m) (h : WtD m (fun c => c ∈ m.ids)) (vl : m.val.length = m.nv) (rl : ∀ v, m.ra v = none) (rll : m.rsn.length = m.nv)
    (hu : ∀ u ∈ m.trail, u < m.nv * 2 ∧ m.va (u / 2) = sgn u 1) (hv : ∀ v, v < m.nv → m.va v ≠ 0 → ∃ u ∈ m.trail, u / 2 = v)
    (ndc : ∀ c ∈ m.ids, ((m.lits c).map (· / 2)).Nodup) (idn : m.ids.Nodup) (idl : m.ids.length ≤ 1000000000) : Core m.trail.length 1 m := by
  have hlev : ∀ i, i < m.trail.length → m.lev (nth m.trail i / 2) = 1 := by
    intro i hi
    unfold MS.lev
    rw [(hu _ (nth_mem _ _ hi)).2]
    exact sgn_abs _ 1
  refine ⟨hW, ⟨?_, ?_, ?_, ?_, ?_, ?_, ?_⟩, vl, rll, Nat.le_refl _, by simp, ndc, idn, idl, fun v _ _ => rl v, h.wbe, h.wba⟩
  · intro v hv1 hv2
    obtain ⟨u, hu1, hu2⟩ := hv v hv1 hv2
    obtain ⟨i, hi, e⟩ := mem_nth _ _ hu1
    exact ⟨i, hi, by rw [e]; exact hu2⟩
  · intro i hi
    exact sgn_lst (Nat.le_refl 1) (hu _ (nth_mem _ _ hi)).2
  · intro i j hij hj
    rw [hlev i (by omega), hlev j hj]; omega
  · intro i hi
    rw [hlev i hi]; omega
  · intro i j hi _ _ h2
    rw [hlev i hi] at h2; omega
  · intro i c _ hr
    rw [rl] at hr; cases hr
  · intro i j hi _ h2
    rw [hlev i hi] at h2; omega
theorem Pc.first {m : MS} (h : WtD m (fun c => c ∈ m.ids)) (hu : ∀ u ∈ m.trail, u < m.nv * 2 ∧ m.va (u / 2) = sgn u 1) (hcl : ∀ c ∈ m.ids, ∀ x ∈ m.lits c, m.va (x / 2) = 0) : Pc m m.wl m.trail.length := by
  have key : ∀ i, i < m.trail.length → ∀ c ∈ m.ids, ∀ x ∈ m.lits c, nth m.trail i ≠ negL x := by
    intro i hi c hc x hx e
    have h1 := (hu _ (nth_mem _ _ hi)).2
    have h2 := hcl c hc x hx
    have : negL x / 2 = x / 2 := by unfold negL; split <;> omega
    rw [e, this, h2] at h1
    unfold sgn at h1; split at h1 <;> omega
  refine ⟨fun i hi e he => ?_, fun i hi e he => ?_⟩
  · obtain ⟨_, b2, b3, b4⟩ := h.en _ (hu _ (nth_mem _ _ hi)).1 e he
    rcases b4 with b4 | b4
    · exact (key i hi _ b2 _ (nth_mem _ _ (by omega)) b4).elim
    · exact (key i hi _ b2 _ (nth_mem _ _ (by omega)) b4).elim
  · obtain ⟨_, b2, b3, b4, _⟩ := h.wbe _ (hu _ (nth_mem _ _ hi)).1 e he
    exact (key i hi _ b2 _ b4 (negL_negL _).symm).elim
end Go.Proofs.YtiimddkopiknpaaGreatDoor
