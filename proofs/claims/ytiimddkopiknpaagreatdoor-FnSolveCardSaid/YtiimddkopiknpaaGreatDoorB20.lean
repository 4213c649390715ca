/-
  Sorting over an interface, second part; the learned clauses sorted.
-/
import Derived.Test.YtiimddkopiknpaaGreatDoorB26
import Derived.Test.YtiimddkopiknpaaGreatDoorB19
import Derived.Sort.Walk7a
import Derived.WalkKit
import Derived.OwnWalk
import Derived.Shelf.RegionOpenPlain
import Derived.Deep.LoopGhost
import Derived.Deep.CutBlock
import Derived.Laws.Bits64b
import Derived.Deep.DeepCutAuto
import Derived.Test.YtiimddkopiknpaaGreatDoorB16
import Derived.Test.YtiimddkopiknpaaGreatDoorB18
set_option linter.unusedVariables false
set_option linter.unusedSimpArgs false

/-
  nextPowerOfTwo, xorshift.Next.
-/
namespace Go.Proofs.YtiimddkopiknpaaGreatDoor
open Go.RowKit Go.Sort

theorem two_pow_len (n : Nat) (h : 1 ≤ n) : 2 ^ bitsLen n ≤ 2 * n := by
  unfold bitsLen
  rw [if_neg (by omega), Nat.pow_succ]
  have := Nat.log2_self_le (n := n) (by omega)
  omega
set_option maxHeartbeats 4000000 in
set_option maxRecDepth 100000 in
theorem npow_c (n : Nat) (hn : n ≤ 100000) (h1 : 1 ≤ n) (w : World) : Calls Tryz.prog 156 #[.int .i64 (n : Int)] w fun e w' => (∃ p : Nat, e = .returned (.int .u64 (p : Int)) ∧ p ≤ 2 * n ∧ 1 ≤ p) ∧ w' = w := by
  have hLen : ∀ w, Calls Tryz.prog 126 #[.int .u64 (n : Int)] w fun e w' => e = .returned (.int .i64 (bitsLen n : Nat)) ∧ w' = w := fun w => by
    have h := bLen_c n hn w
    rwa [bitLen_eq _ (by omega)] at h
  have hk : bitsLen n ≤ 62 := (bitsLen_le_iff n 62).2 (by omega)
  have hp := wrap_two_pow (bitsLen n) hk
  have wr : IntKind.u64.wrap (n : Int) = n := by simp [IntKind.wrap, IntKind.bits, IntKind.signed]; omega
  have hpl := two_pow_len n h1
  go_enter Tryz.func156, Tryz.ntmps156
  go_wp2_with (go_at_call 126; refine (hLen _).mono ?_; rintro e w' ⟨rfl, rfl⟩)
  go_ret
  exact ⟨⟨1 <<< bitsLen n, rfl, by rw [Nat.one_shiftLeft]; exact hpl, by rw [Nat.one_shiftLeft]; exact Nat.pos_of_ne_zero (by simp)⟩, rfl⟩

set_option maxHeartbeats 4000000 in
set_option maxRecDepth 100000 in
theorem next_c {rb X : Nat} (hX : X < 18446744073709551616) {w : World} (hc : w.cell? ⟨rb, 0, none⟩ = some (.int .u64 (X : Int))) (hf : w.frozen? ⟨rb, 0, none⟩ = false) :
    Calls Tryz.prog 157 #[.pointer (some ⟨rb, 0, none⟩)] w fun e w' => ∃ Y : Nat, Y < 18446744073709551616 ∧ e = .returned (.int .u64 (Y : Int)) ∧ w' = (w.setCell ⟨rb, 0, none⟩ (.int .u64 (Y : Int))).drewN 3 := by
  obtain ⟨A, hA⟩ : ∃ A : Nat, A = X ^^^ (X * 8192 % 18446744073709551616) := ⟨_, rfl⟩
  obtain ⟨B, hB⟩ : ∃ B : Nat, B = A ^^^ (A / 128) := ⟨_, rfl⟩
  obtain ⟨C, hC⟩ : ∃ C : Nat, C = B ^^^ (B * 131072 % 18446744073709551616) := ⟨_, rfl⟩
  have lA : A < 18446744073709551616 := by rw [hA]; exact Nat.xor_lt_two_pow (n := 64) (by omega) (by omega)
  have lB : B < 18446744073709551616 := by rw [hB]; exact Nat.xor_lt_two_pow (n := 64) (by omega) (by omega)
  have lC : C < 18446744073709551616 := by rw [hC]; exact Nat.xor_lt_two_pow (n := 64) (by omega) (by omega)
  have e1 : bits .xor .u64 (X : Int) (IntKind.u64.wrap ((X : Int) * 8192)) = (A : Int) := by
    rw [IntKind.wrap_u64, show ((X : Int) * 8192 % 18446744073709551616) = ((X * 8192 % 18446744073709551616 : Nat) : Int) by omega, bits_xor_u64_nat _ _ hX (by omega), hA]
  have e2 : bits .xor .u64 (A : Int) ((A : Int) / 128) = (B : Int) := by
    rw [show ((A : Int) / 128) = ((A / 128 : Nat) : Int) by omega, bits_xor_u64_nat _ _ lA (by omega), hB]
  have e3 : bits .xor .u64 (B : Int) (IntKind.u64.wrap ((B : Int) * 131072)) = (C : Int) := by
    rw [IntKind.wrap_u64, show ((B : Int) * 131072 % 18446744073709551616) = ((B * 131072 % 18446744073709551616 : Nat) : Int) by omega, bits_xor_u64_nat _ _ lB (by omega), hC]
  clear hA hB hC
  have hss : ∀ v v', (w.setCell ⟨rb, 0, none⟩ v).setCell ⟨rb, 0, none⟩ v' = w.setCell ⟨rb, 0, none⟩ v' := setCell_setCell w rb 0
  have mixed : Tryz.prog.follows .mixedOrders = true := by kernel_rfl
  go_enter Tryz.func157, Tryz.ntmps157
  go_wp2
  go_region_o
  all_goals go_wp2
  all_goals go_region_o
  all_goals go_wp2
  all_goals go_region_o
  all_goals go_wp2
  go_ret
  exact ⟨C, lC, rfl, rfl⟩
end Go.Proofs.YtiimddkopiknpaaGreatDoor

/-
  sort.breakPatterns over any state that the two methods keep.
-/
namespace Go.Proofs.YtiimddkopiknpaaGreatDoor
open Go.RowKit Go.Sort

section
variable {I : World → Prop} {B n sb k : Nat} {w : World}
set_option maxRecDepth 100000 in
set_option maxHeartbeats 4000000 in
theorem break_c (h : WI I B n sb k) (hI : I w) {a L : Nat} (h8 : 8 ≤ L) (hb : a + L ≤ n) (hn : n ≤ 100000) :
    Calls Tryz.prog 147 #[wlv sb k, .int .i64 (a : Int), .int .i64 ((a + L : Nat) : Int)] w (WEnd I) := by
  have hLz : ((a : Int) + (L : Int) - (a : Int)) = (L : Int) := by omega
  have h8z : (8 : Int) ≤ (L : Int) := by omega
  have hNP := fun w => npow_c L (by omega) (by omega) w
  obtain ⟨sz, hsz⟩ : ∃ sz, sz = w.heap.size := ⟨_, rfl⟩
  have hB : B ≤ sz := by rw [hsz]; exact h.hs _ hI
  go_enter Tryz.func147, Tryz.ntmps147
  go_upto_block 0 with (go_at_call 156; refine (hNP _).mono ?_; rintro e w' ⟨⟨M, rfl, hM2, hM1⟩, rfl⟩)
  go_wp2_with fail
  rw [← hsz]
  go_loopg [9] 3 (fun g1 vi wr => ∃ (t X : Nat), vi = .int .i64 ((a : Int) + (L : Int) / 4 * 2 - 1 + (t : Int)) ∧ t ≤ 3 ∧ 3 - t ≤ g1 ∧ I wr ∧ X < 18446744073709551616 ∧
      wr.cell? ⟨sz, 0, none⟩ = some (.int .u64 (X : Int)) ∧ wr.frozen? ⟨sz, 0, none⟩ = false)
  case atStart =>
    refine ⟨0, L, by simp, by omega, by omega, h.alloc _ _ hI, by omega, ?_, ?_⟩
    · rw [hsz]; simp
    · rw [hsz]; simp
  case round =>
    clear hI hsz
    obtain ⟨t, X, rfl, ht, hg1, hI, hX, cR, fR⟩ := hrel
    by_cases ht3 : t < 3
    · have hle : (a : Int) + (L : Int) / 4 * 2 - 1 + (t : Int) ≤ (a : Int) + (L : Int) / 4 * 2 + 1 := by omega
      have hNext := Lib.hid (next_c hX cR fR)
      have hoth := Lib.hid (fun (Y : Nat) => h.other _ sz 0 (.int .u64 (Y : Int)) hI hB)
      have hcell := Lib.hid (fun (Y : Nat) => World.cell?_setCell_same wr ⟨sz, 0, none⟩ (.int .u64 (Y : Int)) cR)
      have hfr : ∀ (Y : Nat), (wr.setCell ⟨sz, 0, none⟩ (.int .u64 (Y : Int))).frozen? ⟨sz, 0, none⟩ = false := fun Y => by simpa using fR
      replace hfr := Lib.hid hfr
      replace hI := Lib.hid hI
      clear cR fR hX
      go_upto_region 8 with (go_at_call 157; refine hNext.out.mono ?_; rintro e w2 ⟨Y, hY, rfl, hw2⟩
                             obtain ⟨O, hO⟩ : ∃ O : Nat, O = Y &&& (M - 1) := ⟨_, rfl⟩
                             have lO : O ≤ M - 1 := by rw [hO]; exact Nat.and_le_right
                             have eAnd : bits .and .u64 (Y : Int) ((M : Int) - 1) = (O : Int) := by
                               rw [show ((M : Int) - 1) = ((M - 1 : Nat) : Int) by omega, bits_and_u64_nat _ _ hY (by omega), hO]
                             clear hO
                             have hI2 : I w2 := by rw [hw2]; exact h.drew _ _ (hoth.out Y)
                             have cR2 : w2.cell? ⟨sz, 0, none⟩ = some (.int .u64 (Y : Int)) := by rw [hw2, World.cell?_drewN]; exact hcell.out Y
                             have fR2 : w2.frozen? ⟨sz, 0, none⟩ = false := by rw [hw2, World.frozen?_drewN]; exact hfr.out Y
                             clear hw2)
      clear hNext hI eAnd hoth hcell hfr
      have hI := hI2
      have cR := cR2
      have fR := fR2
      clear hI2 cR2 fR2
      have e1 : ((a + L / 4 * 2 - 1 + t : Nat) : Int) = (a : Int) + (L : Int) / 4 * 2 - 1 + (t : Int) := by omega
      by_cases hLO : L ≤ O
      · have hLOz : (L : Int) ≤ (O : Int) := by omega
        have e2 : ((a + (O - L) : Nat) : Int) = (a : Int) + ((O : Int) - (L : Int)) := by omega
        have hs := h.swap _ hI (a + L / 4 * 2 - 1 + t) (a + (O - L)) (by omega) (by omega)
        rw [e1, e2] at hs
        replace hs := Lib.hid hs
        replace hI := Lib.hid hI
        clear e1 e2
        replace cR := Lib.hid cR
        replace fR := Lib.hid fR
        go_wp2_with (go_at_call 192; refine hs.out.mono ?_; rintro e w3 ⟨rfl, h3⟩)
        go_roundg (3 - (t + 1))
        case measure => omega
        case rel => exact ⟨t + 1, Y, by congr 1; push_cast; omega, by omega, Nat.le_refl _, h3.1, hY, by rw [(h3.2.2 sz 0 hB).1]; exact cR.out, by rw [(h3.2.2 sz 0 hB).2]; exact fR.out⟩
      · have hLOz : ¬ (L : Int) ≤ (O : Int) := by omega
        have e2 : ((a + O : Nat) : Int) = (a : Int) + (O : Int) := by omega
        have hs := h.swap _ hI (a + L / 4 * 2 - 1 + t) (a + O) (by omega) (by omega)
        rw [e1, e2] at hs
        replace hs := Lib.hid hs
        replace hI := Lib.hid hI
        clear e1 e2
        replace cR := Lib.hid cR
        replace fR := Lib.hid fR
        go_wp2_with (go_at_call 192; refine hs.out.mono ?_; rintro e w3 ⟨rfl, h3⟩)
        go_roundg (3 - (t + 1))
        case measure => omega
        case rel => exact ⟨t + 1, Y, by congr 1; push_cast; omega, by omega, Nat.le_refl _, h3.1, hY, by rw [(h3.2.2 sz 0 hB).1]; exact cR.out, by rw [(h3.2.2 sz 0 hB).2]; exact fR.out⟩
    · obtain rfl : t = 3 := by omega
      have hle : ¬ ((a : Int) + (L : Int) / 4 * 2 - 1 + ((3 : Nat) : Int) ≤ (a : Int) + (L : Int) / 4 * 2 + 1) := by omega
      go_wp2_with fail
      go_end0
      exact ⟨rfl, hI⟩
end
end Go.Proofs.YtiimddkopiknpaaGreatDoor

/-
  sort.choosePivot over any state that the two methods keep.
-/
namespace Go.Proofs.YtiimddkopiknpaaGreatDoor
open Go.RowKit

theorem pick3 {P : Nat → Prop} {a b c x : Nat} (h1 : P a) (h2 : P b) (h3 : P c) (h : x = a ∨ x = b ∨ x = c) : P x := by
  rcases h with rfl | rfl | rfl <;> assumption
theorem o2_lt {a b x y n : Nat} (ha : a < n) (hb : b < n) (o : (x = a ∧ y = b) ∨ (x = b ∧ y = a)) : y < n ∧ x < n := by omega
theorem o3_in {a b c x1 y1 x2 y2 x3 y3 : Nat} (o1 : (x1 = a ∧ y1 = b) ∨ (x1 = b ∧ y1 = a)) (o2 : (x2 = y1 ∧ y2 = c) ∨ (x2 = c ∧ y2 = y1)) (o3 : (x3 = x1 ∧ y3 = x2) ∨ (x3 = x2 ∧ y3 = x1)) : y3 = a ∨ y3 = b ∨ y3 = c := by omega
/-- the state is kept, and the box q bears a number -/
def Bx (I : World → Prop) (q : Nat) (w : World) : Prop := I w ∧ (∃ z : Int, w.cell? ⟨q, 0, none⟩ = some (.int .i64 z)) ∧ w.frozen? ⟨q, 0, none⟩ = false
section
variable {I : World → Prop} {B n sb k q : Nat} {w : World}
theorem Bx.drew (h : WI I B n sb k) (hx : Bx I q w) (m : Nat) : Bx I q (w.drewN m) := ⟨h.drew _ _ hx.1, by rw [World.cell?_drewN]; exact hx.2.1, by rw [World.frozen?_drewN]; exact hx.2.2⟩
theorem Bx.set (h : WI I B n sb k) (hq : B ≤ q) (hx : Bx I q w) (z : Int) : Bx I q (w.setCell ⟨q, 0, none⟩ (.int .i64 z)) := by
  obtain ⟨h1, ⟨y, h2⟩, h3⟩ := hx
  exact ⟨h.other _ _ _ _ h1 hq, ⟨z, World.cell?_setCell_same _ _ _ h2⟩, by simpa using h3⟩
def O2Post (I : World → Prop) (q a b : Nat) (e : Ending) (w : World) : Prop := (∃ x y : Nat, e = .returned (.tuple #[.int .i64 (x : Int), .int .i64 (y : Int)]) ∧ ((x = a ∧ y = b) ∨ (x = b ∧ y = a))) ∧ Bx I q w
def MdPost (I : World → Prop) (q a b c : Nat) (e : Ending) (w : World) : Prop := (∃ x : Nat, e = .returned (.int .i64 (x : Int)) ∧ (x = a ∨ x = b ∨ x = c)) ∧ Bx I q w
def CPPost (I : World → Prop) (a b : Nat) (e : Ending) (w : World) : Prop := (∃ (x : Nat) (g : Int), e = .returned (.tuple #[.int .i64 (x : Int), .int .i64 g]) ∧ a ≤ x ∧ x < b) ∧ I w

set_option maxRecDepth 100000 in
set_option maxHeartbeats 4000000 in
theorem order2_c (h : WI I B n sb k) (hq : B ≤ q) (hx : Bx I q w) {a b : Nat} (ha : a < n) (hb : b < n) :
    Calls Tryz.prog 164 #[wlv sb k, .int .i64 (a : Int), .int .i64 (b : Int), .pointer (some ⟨q, 0, none⟩)] w (O2Post I q a b) := by
  obtain ⟨x, hless⟩ := h.less _ hx.1 b a hb ha
  have hd := fun m => hx.drew h m
  have hs := fun m z => (hx.drew h m).set h hq z
  have hc := fun m => (hd m).2.1
  have hf := fun m => (hd m).2.2
  replace hless := Lib.hid hless
  replace hd := Lib.hid hd
  replace hs := Lib.hid hs
  replace hc := Lib.hid hc
  replace hf := Lib.hid hf
  cases x
  · go_enter Tryz.func164, Tryz.ntmps164
    go_wp2_with (go_at_call 191; refine Calls.retq hless.out ?_; intro q1)
    go_ret2
    exact ⟨⟨a, b, rfl, .inl ⟨rfl, rfl⟩⟩, hd.out _⟩
  · go_enter Tryz.func164, Tryz.ntmps164
    go_upto_region 2 with (go_at_call 191; refine Calls.retq hless.out ?_; intro q1)
    obtain ⟨z, hz⟩ := hc.out q1
    have hf1 := hf.out q1
    have hs1 := hs.out q1
    replace hs1 := Lib.hid hs1
    clear hless
    go_wp2_with fail
    go_ret2
    exact ⟨⟨b, a, rfl, .inr ⟨rfl, rfl⟩⟩, hs1.out _⟩

set_option maxRecDepth 100000 in
set_option maxHeartbeats 4000000 in
theorem median_c (h : WI I B n sb k) (hq : B ≤ q) (hx : Bx I q w) {a b c : Nat} (ha : a < n) (hb : b < n) (hc : c < n) :
    Calls Tryz.prog 159 #[wlv sb k, .int .i64 (a : Int), .int .i64 (b : Int), .int .i64 (c : Int), .pointer (some ⟨q, 0, none⟩)] w (MdPost I q a b c) := by
  have h1 := Lib.hid (order2_c h hq hx ha hb)
  clear hx
  go_enter Tryz.func159, Tryz.ntmps159
  go_upto_region 2 with (go_at_call 164; refine h1.out.mono ?_; rintro e w1 ⟨⟨x1, y1, rfl, o1⟩, hx1⟩; replace o1 := Lib.hid o1)
  have hy1 := o2_lt ha hb o1.out
  have h2 := Lib.hid (order2_c h hq hx1 hy1.1 hc)
  clear h1 hx1
  go_upto_region 3 with (go_at_call 164; refine h2.out.mono ?_; rintro e w2 ⟨⟨x2, y2, rfl, o2⟩, hx2⟩; replace o2 := Lib.hid o2)
  have hy2 := (o2_lt hy1.1 hc o2.out).2
  have h3 := Lib.hid (order2_c h hq hx2 hy1.2 hy2)
  clear h2 hx2
  go_upto_region 4 with (go_at_call 164; refine h3.out.mono ?_; rintro e w3 ⟨⟨x3, y3, rfl, o3⟩, hx3⟩; replace o3 := Lib.hid o3)
  go_wp2_with fail
  go_ret
  exact ⟨⟨y3, rfl, o3_in o1.out o2.out o3.out⟩, hx3⟩

set_option maxRecDepth 100000 in
set_option maxHeartbeats 4000000 in
theorem medAdj_c (h : WI I B n sb k) (hq : B ≤ q) (hx : Bx I q w) {a : Nat} (ha : a + 1 < n) (h1 : 1 ≤ a) (hn : n ≤ 100000) :
    Calls Tryz.prog 158 #[wlv sb k, .int .i64 (a : Int), .pointer (some ⟨q, 0, none⟩)] w (MdPost I q (a - 1) a (a + 1)) := by
  have H := median_c h hq hx (a := a - 1) (b := a) (c := a + 1) (by omega) (by omega) ha
  rw [show ((a - 1 : Nat) : Int) = (a : Int) - 1 by omega, show ((a + 1 : Nat) : Int) = (a : Int) + 1 by omega] at H
  replace H := Lib.hid H
  have hI' : (1 : Int) ≤ (a : Int) := by omega
  go_enter Tryz.func158, Tryz.ntmps158
  go_wp2_with (go_at_call 159; refine H.out.mono ?_; rintro e w3 ⟨⟨x3, rfl, o3⟩, hx3⟩; replace o3 := Lib.hid o3)
  go_ret
  exact ⟨⟨x3, rfl, o3.out⟩, hx3⟩

set_option maxRecDepth 100000 in
set_option maxHeartbeats 4000000 in
theorem choose_c (h : WI I B n sb k) (hI : I w) {a L : Nat} (h8 : 8 ≤ L) (hb : a + L ≤ n) (hn : n ≤ 100000) :
    Calls Tryz.prog 148 #[wlv sb k, .int .i64 (a : Int), .int .i64 ((a + L : Nat) : Int)] w (CPPost I a (a + L)) := by
  have hLz : ((a : Int) + (L : Int) - (a : Int)) = (L : Int) := by omega
  have h8z : (8 : Int) ≤ (L : Int) := by omega
  obtain ⟨sz, hsz⟩ : ∃ sz, sz = w.heap.size := ⟨_, rfl⟩
  have hB : B ≤ sz := by rw [hsz]; exact h.hs _ hI
  have hx0 : Bx I sz (w.alloc (.cells #[.int .i64 0] 3)) := by
    refine ⟨h.alloc _ _ hI, ⟨0, ?_⟩, ?_⟩
    · rw [hsz]; simp
    · rw [hsz]; simp
  go_enter Tryz.func148, Tryz.ntmps148
  go_upto_if 32 with fail
  rw [← hsz]
  clear hsz hI
  generalize w.alloc (.cells #[.int .i64 0] 3) = w1 at hx0
  obtain ⟨i, hi⟩ : ∃ i, i = a + L / 4 := ⟨_, rfl⟩
  obtain ⟨j, hj⟩ : ∃ j, j = a + L / 4 * 2 := ⟨_, rfl⟩
  obtain ⟨p, hp⟩ : ∃ p, p = a + L / 4 * 3 := ⟨_, rfl⟩
  rw [show (a : Int) + (L : Int) / 4 = (i : Int) by omega, show (a : Int) + (L : Int) / 4 * 2 = (j : Int) by omega, show (a : Int) + (L : Int) / 4 * 3 = (p : Int) by omega]
  have hr : (a ≤ i ∧ i < a + L) ∧ (a ≤ j ∧ j < a + L) ∧ (a ≤ p ∧ p < a + L) := by omega
  have hr5 : 50 ≤ L → (a + 1 ≤ i ∧ i + 1 < a + L) ∧ (a + 1 ≤ j ∧ j + 1 < a + L) ∧ (a + 1 ≤ p ∧ p + 1 < a + L) := by omega
  clear hi hj hp
  replace hr := Lib.hid hr
  replace hr5 := Lib.hid hr5
  go_cut [11] (fun v11 wx => ∃ x : Nat, v11 = .int .i64 (x : Int) ∧ a ≤ x ∧ x < a + L ∧ Bx I sz wx)
  case first =>
    by_cases h50 : 50 ≤ L
    · have h50I : (50 : Int) ≤ (L : Int) := by omega
      obtain ⟨⟨i1, i2⟩, ⟨j1, j2⟩, ⟨p1, p2⟩⟩ := hr5.out h50
      have m1 := Lib.hid (medAdj_c h hB hx0 (a := i) (by omega) (by omega) hn)
      have l1 : ∀ x, x = i - 1 ∨ x = i ∨ x = i + 1 → a ≤ x ∧ x < a + L := by omega
      have l2 : ∀ x, x = j - 1 ∨ x = j ∨ x = j + 1 → a ≤ x ∧ x < a + L := by omega
      have l3 : ∀ x, x = p - 1 ∨ x = p ∨ x = p + 1 → a ≤ x ∧ x < a + L := by omega
      replace l1 := Lib.hid l1
      replace l2 := Lib.hid l2
      replace l3 := Lib.hid l3
      replace hx0 := Lib.hid hx0
      go_upto_region 9 with (go_at_call 158; refine m1.out.mono ?_; rintro e w2 ⟨⟨x1, rfl, o1⟩, hx1⟩; replace o1 := Lib.hid (l1.out _ o1))
      have m2 := Lib.hid (medAdj_c h hB hx1 (a := j) (by omega) (by omega) hn)
      clear m1 hx1
      go_upto_region 10 with (go_at_call 158; refine m2.out.mono ?_; rintro e w3 ⟨⟨x2, rfl, o2⟩, hx2⟩; replace o2 := Lib.hid (l2.out _ o2))
      have m3 := Lib.hid (medAdj_c h hB hx2 (a := p) (by omega) (by omega) hn)
      clear m2 hx2
      go_upto_region 11 with (go_at_call 158; refine m3.out.mono ?_; rintro e w4 ⟨⟨x3, rfl, o3⟩, hx3⟩; replace o3 := Lib.hid (l3.out _ o3))
      have m4 := Lib.hid (median_c h hB hx3 (a := x1) (b := x2) (c := x3) (by have := o1.out.2; omega) (by have := o2.out.2; omega) (by have := o3.out.2; omega))
      clear m3 hx3
      go_wp2_with (go_at_call 159; refine m4.out.mono ?_; rintro e w5 ⟨⟨x4, rfl, o4⟩, hx4⟩; replace o4 := Lib.hid o4)
      go_meet
      have o5 := pick3 (P := fun x => a ≤ x ∧ x < a + L) o1.out o2.out o3.out o4.out
      exact ⟨x4, rfl, o5.1, o5.2, hx4⟩
    · have h50I : ¬ (50 : Int) ≤ (L : Int) := by omega
      have m4 := Lib.hid (median_c h hB hx0 (a := i) (b := j) (c := p) (by have := hr.out.1.2; omega) (by have := hr.out.2.1.2; omega) (by have := hr.out.2.2.2; omega))
      replace hx0 := Lib.hid hx0
      go_wp2_with (go_at_call 159; refine m4.out.mono ?_; rintro e w5 ⟨⟨x4, rfl, o4⟩, hx4⟩; replace o4 := Lib.hid o4)
      go_meet
      have o5 := pick3 (P := fun x => a ≤ x ∧ x < a + L) hr.out.1 hr.out.2.1 hr.out.2.2 o4.out
      exact ⟨x4, rfl, o5.1, o5.2, hx4⟩
  case rest =>
    obtain ⟨x, rfl, x1, x2, hI, ⟨z, hc⟩, hf⟩ := hcut
    clear hx0
    replace hI := Lib.hid hI
    by_cases z0 : z = 0
    · subst z0
      go_wp2_with fail
      go_ret2
      exact ⟨⟨x, _, rfl, x1, x2⟩, hI.out⟩
    · by_cases z1 : z = 12
      · subst z1
        go_wp2_with fail
        go_ret2
        exact ⟨⟨x, _, rfl, x1, x2⟩, hI.out⟩
      · go_wp2_with fail
        go_ret2
        exact ⟨⟨x, _, rfl, x1, x2⟩, hI.out⟩
end
end Go.Proofs.YtiimddkopiknpaaGreatDoor

/-
  sort.pdqsort, sort.Sort over any state that the methods keep.
-/
namespace Go.Proofs.YtiimddkopiknpaaGreatDoor
open Go.RowKit

section
variable {I : World → Prop} {B n sb k : Nat} {w : World}
set_option maxRecDepth 100000 in
set_option maxHeartbeats 8000000 in
theorem pdqw_c (h : WI I B n sb k) (hn : n ≤ 100000) : ∀ (M : Nat) (w : World), I w → ∀ (a b : Nat) (lim : Int), a ≤ b → b ≤ n → b - a ≤ M → 0 ≤ lim → lim ≤ 100 →
    Calls Tryz.prog 127 #[wlv sb k, .int .i64 (a : Int), .int .i64 (b : Int), .int .i64 lim] w (WEnd I) := by
  intro M
  induction M using Nat.strongRecOn with
  | _ M ih =>
  intro w hI a b lim hab hb hM hl0 hl1
  replace ih := Lib.hid ih
  go_enter Tryz.func127, Tryz.ntmps127
  go_wp2_with fail
  go_loopw [1, 2, 3, 8, 9] (fun v1 v2 v3 v8 v9 wr => ∃ (a b : Nat) (lim : Int) (x8 x9 : Bool), v1 = .int .i64 (a : Int) ∧ v2 = .int .i64 (b : Int) ∧ v3 = .int .i64 lim ∧ v8 = .bool x8 ∧ v9 = .bool x9 ∧ a ≤ b ∧ b ≤ n ∧ b - a ≤ M ∧ 0 ≤ lim ∧ lim ≤ 100 ∧ I wr) (fun v1 v2 v3 v8 v9 _ => (intOf v2 - intOf v1).toNat)
  case atStart => exact ⟨a, b, lim, true, true, rfl, rfl, rfl, rfl, rfl, hab, hb, hM, hl0, hl1, hI⟩
  case round =>
    clear hI hab hb hM hl0 hl1 a b lim
    obtain ⟨a, b, lim, x8, x9, rfl, rfl, rfl, rfl, rfl, hab, hb, hM, hl0, hl1, hI⟩ := hrel
    obtain ⟨L, rfl⟩ : ∃ L, b = a + L := ⟨b - a, by omega⟩
    have hLz : (((a + L : Nat) : Int) - (a : Int)) = (L : Int) := by omega
    by_cases h12 : L ≤ 12
    · have h12I : (L : Int) ≤ 12 := by omega
      have H := Lib.hid (insW_c h hI (a := a) (b := a + L) (by omega) hb hn)
      replace hI := Lib.hid hI
      go_wp2_with (go_at_call 145; refine H.out.mono ?_; rintro e w2 ⟨rfl, h2⟩)
      go_end0
      exact ⟨rfl, h2⟩
    · have h12I : ¬ (L : Int) ≤ 12 := by omega
      by_cases hz : lim = 0
      · subst hz
        have H := Lib.hid (heap_c h hI (a := a) (b := a + L) (by omega) hb hn)
        replace hI := Lib.hid hI
        go_wp2_with (go_at_call 146; refine H.out.mono ?_; rintro e w2 ⟨rfl, h2⟩)
        go_end0
        exact ⟨rfl, h2⟩
      · have hbr := Lib.hid (break_c h hI (a := a) (L := L) (by omega) hb hn)
        replace hI := Lib.hid hI
        go_upto_if 35 with fail
        go_cut [3] (fun v3 wx => ∃ lim' : Int, v3 = .int .i64 lim' ∧ 0 ≤ lim' ∧ lim' ≤ 100 ∧ I wx)
        case first =>
          cases x8
          · go_wp2_with (go_at_call 147; refine hbr.out.mono ?_; rintro e w2 ⟨rfl, h2⟩)
            go_meet
            exact ⟨lim - 1, rfl, by omega, by omega, h2⟩
          · go_wp2_with fail
            go_meet
            exact ⟨lim, rfl, by omega, by omega, hI.out⟩
        case rest =>
          clear hI hbr
          obtain ⟨lim', rfl, hl2, hl3, hI⟩ := hcut
          have hcp := Lib.hid (choose_c h hI (a := a) (L := L) (by omega) hb hn)
          clear hI
          go_upto_if 50 with (go_at_call 148; refine hcp.out.mono ?_; rintro e w2 ⟨⟨p, g, rfl, p1, p2⟩, hI⟩; replace hI := Lib.hid hI)
          clear hcp
          obtain ⟨d, hd⟩ : ∃ d, d = (g == (2 : Int)) := ⟨_, rfl⟩
          rw [← hd]
          clear hd
          go_cut [11, 12] (fun v11 v12 wx => ∃ (p : Nat) (g : Int), v11 = .int .i64 (p : Int) ∧ v12 = .int .i64 g ∧ a ≤ p ∧ p < a + L ∧ I wx)
          case first =>
            cases d
            · go_wp2_with fail
              go_meet
              exact ⟨p, g, rfl, rfl, p1, p2, hI.out⟩
            · have hrv := Lib.hid (reverse_c h hI.out (a := a) (b := a + L) (by omega) hb hn)
              have e1 : ((a + L : Nat) : Int) - 1 - ((p : Int) - (a : Int)) = ((a + L - 1 - (p - a) : Nat) : Int) := by omega
              go_wp2_with (go_at_call 149; refine hrv.out.mono ?_; rintro e w3 ⟨rfl, h2⟩)
              go_meet
              exact ⟨a + L - 1 - (p - a), 1, by congr 1, rfl, by omega, by omega, h2⟩
          case rest =>
            clear hI p1 p2 p g d
            obtain ⟨p, g, rfl, rfl, p1, p2, hI⟩ := hcut
            replace hI := Lib.hid hI
            go_upto_region 15 with fail
            go_cut [68] (fun v68 wx => (∃ x, v68 = .bool x) ∧ I wx)
            case first =>
              cases x8
              · go_wp2_with fail
                go_meet
                exact ⟨⟨_, rfl⟩, hI.out⟩
              · cases x9
                · go_wp2_with fail
                  go_meet
                  exact ⟨⟨_, rfl⟩, hI.out⟩
                · go_wp2_with fail
                  go_meet
                  exact ⟨⟨_, rfl⟩, hI.out⟩
            case rest =>
              clear hI
              obtain ⟨⟨x68, rfl⟩, hI⟩ := hcut
              have hpi := Lib.hid (pins_c h hI (a := a) (b := a + L) (by omega) hb hn)
              replace hI := Lib.hid hI
              go_upto_if 68 with fail
              go_cut [] (fun wx => I wx)
              case first =>
                cases x68
                · go_wp2_with fail
                  go_meet
                  exact hI.out
                · go_upto_if 72 with (go_at_call 150; refine hpi.out.mono ?_; rintro e w3 ⟨⟨y, rfl⟩, hI2⟩; replace hI2 := Lib.hid hI2)
                  cases y
                  · go_wp2_with fail
                    go_meet
                    exact hI2.out
                  · go_wp2_with fail
                    go_end0
                    exact ⟨rfl, hI2.out⟩
              case rest =>
                clear hI hpi
                have hI := hcut
                clear hcut
                go_upto_region 17 with fail
                go_cut [82] (fun v82 wx => (∃ x, v82 = .bool x) ∧ I wx)
                case first =>
                  by_cases h0 : a = 0
                  · have h0I : ¬ (0 : Int) < (a : Int) := by omega
                    clear h0
                    replace hI := Lib.hid hI
                    go_wp2_with fail
                    go_meet
                    exact ⟨⟨_, rfl⟩, hI.out⟩
                  · have h0I : (0 : Int) < (a : Int) := by omega
                    obtain ⟨x, hless⟩ := h.less _ hI (a - 1) p (by omega) (by omega)
                    rw [show ((a - 1 : Nat) : Int) = (a : Int) - 1 by omega] at hless
                    have hdr := Lib.hid (fun q => h.drew _ q hI)
                    replace hless := Lib.hid hless
                    replace hI := Lib.hid hI
                    go_wp2_with (go_at_call 191; refine Calls.retq hless.out ?_; intro q1)
                    go_meet
                    exact ⟨⟨_, rfl⟩, hdr.out _⟩
                case rest =>
                  clear hI
                  obtain ⟨⟨x82, rfl⟩, hI⟩ := hcut
                  cases x82
                  · have hpa := Lib.hid (part_c h hI (a := a) (b := a + L) (p := p) p1 p2 hb hn (by omega))
                    replace hI := Lib.hid hI
                    go_upto_region 21 with (go_at_call 152; refine hpa.out.mono ?_; rintro e w3 ⟨⟨m, y, rfl, m1, m2⟩, hI2⟩; replace hI2 := Lib.hid hI2)
                    clear hI hpa
                    have hmA : (0 : Int) ≤ (m : Int) - (a : Int) ∧ (m : Int) - (a : Int) ≤ 100000 := by omega
                    by_cases hlr : m - a < a + L - m
                    · have hlrI : (m : Int) - (a : Int) < ((a + L : Nat) : Int) - (m : Int) := by omega
                      have hrec := Lib.hid (ih.out (m - a) (by omega) _ hI2.out a m lim' m1 (by omega) (Nat.le_refl _) hl2 hl3)
                      go_wp2_with (go_at_call 127; refine hrec.out.mono ?_; rintro e w4 ⟨rfl, hI4⟩; replace hI4 := Lib.hid hI4)
                      exact ⟨⟨m + 1, a + L, lim', _, _, by go_num, rfl, rfl, rfl, rfl, by omega, hb, by omega, hl2, hl3, hI4.out⟩, by simp [intOf] <;> omega⟩
                    · have hlrI : ¬ (m : Int) - (a : Int) < ((a + L : Nat) : Int) - (m : Int) := by omega
                      have hrec := ih.out (a + L - (m + 1)) (by omega) _ hI2.out (m + 1) (a + L) lim' (by omega) hb (Nat.le_refl _) hl2 hl3
                      rw [show ((m + 1 : Nat) : Int) = (m : Int) + 1 by omega] at hrec
                      replace hrec := Lib.hid hrec
                      go_wp2_with (go_at_call 127; refine hrec.out.mono ?_; rintro e w4 ⟨rfl, hI4⟩; replace hI4 := Lib.hid hI4)
                      exact ⟨⟨a, m, lim', _, _, rfl, rfl, rfl, rfl, rfl, by omega, by omega, by omega, hl2, hl3, hI4.out⟩, by simp [intOf] <;> omega⟩
                  · have hpe := Lib.hid (partEq_c h hI (a := a) (b := a + L) (p := p) p1 p2 hb hn)
                    replace hI := Lib.hid hI
                    go_wp2_with (go_at_call 151; refine hpe.out.mono ?_; rintro e w3 ⟨⟨m, rfl, m1, m2⟩, hI2⟩; replace hI2 := Lib.hid hI2)
                    exact ⟨⟨m, a + L, lim', _, _, rfl, rfl, rfl, rfl, rfl, m2, hb, by omega, hl2, hl3, hI2.out⟩, by simp [intOf] <;> omega⟩

set_option maxRecDepth 100000 in
set_option maxHeartbeats 4000000 in
theorem sortw_c (h : WI I B n sb k) (hn : n ≤ 65536) (hI : I w) (hlen : Calls Tryz.prog 190 #[.pointer (some ⟨sb, k, none⟩)] w fun e w' => e = .returned (.int .i64 (n : Int)) ∧ w' = w) :
    Calls Tryz.prog 95 #[wlv sb k] w (WEnd I) := by
  by_cases h1 : n ≤ 1
  · have h1I : (n : Int) ≤ 1 := by omega
    replace hlen := Lib.hid hlen
    replace hI := Lib.hid hI
    go_enter Tryz.func95, Tryz.ntmps95
    go_wp2_with (go_at_call 190; refine Calls.ret hlen.out ?_)
    go_end0
    exact ⟨rfl, hI.out⟩
  · have h1I : ¬ (n : Int) ≤ 1 := by omega
    have hb := Lib.hid (fun w => bLen_c n (by omega) w)
    have hbl : Lib.bitLen n ≤ 17 := Lib.bitLen_le n 17 (by omega) (by omega)
    have hp := Lib.hid (pdqw_c h (by omega) n w hI 0 n (Lib.bitLen n) (by omega) (Nat.le_refl _) (by omega) (by omega) (by omega))
    replace hlen := Lib.hid hlen
    clear hI hbl
    go_enter Tryz.func95, Tryz.ntmps95
    go_wp2_with (first | (go_at_call 190; refine Calls.ret hlen.out ?_) | (go_at_call 126; refine Calls.ret (hb.out _) ?_) | (go_at_call 127; refine hp.out.mono ?_; rintro e w2 ⟨rfl, h2⟩))
    go_end0
    exact ⟨rfl, h2⟩
end
end Go.Proofs.YtiimddkopiknpaaGreatDoor

/-
  The list of learned clauses is sorted.
-/
namespace Go.Proofs.YtiimddkopiknpaaGreatDoor
open Go.RowKit

def St.setL (s : St) (L : List Nat) : St := { s with lrn := L }
theorem Hd.setL {s : St} (h : Hd s) (L : List Nat) : Hd (s.setL L) := by
  obtain ⟨h1, h3, h4, h5, h6, h7, h8, h9, h10, h11, h12, h13, h14, h15, h17, h18, h19, h20, h21, h22, h23, h24, h25, h26, h27, h28, h29, h30, h31, h32, h33, h34, h35, h36, h5087, h5088, h5094, h5097, h5098, h5099, ha, hb, hc⟩ := h
  constructor <;> assumption
theorem row_setL (s : St) (L : List Nat) (r : Role) (hr : r ≠ .lrn) : (s.setL L).row r = s.row r := by cases r <;> first | rfl | contradiction
theorem row_setL_lrn (s : St) (L : List Nat) : (s.setL L).row .lrn = ⟨92, 1, s.lrnV, L.length, L.map (ptrV ∘ some)⟩ := rfl
section
variable {s : St} {w : World}
/-- where the learned clauses lie -/
theorem Rep.lrnAt (h : Rep s w) {i : Nat} (hi : i < s.lrn.length) : ∃ b cap, s.lrnV = .slice (some ⟨b, 0, none⟩) s.lrn.length cap ∧ (∀ j, j < s.lrn.length → w.cell? ⟨b, j, none⟩ = some (.pointer (some ⟨nth s.lrn j, 0, none⟩))) ∧ (∀ j, w.frozen? ⟨b, j, none⟩ = false) ∧ b ≠ s.sb ∧ s.lrn.length ≤ cap ∧ cap ≤ maxLen := by
  obtain ⟨b, hb⟩ := h.rows.pos .lrn (show 0 < s.lrn.length by omega)
  obtain ⟨cap, hv, hc1, hc2⟩ := h.rows.form .lrn hb
  have hv' : s.lrnV = .slice (some ⟨b, 0, none⟩) s.lrn.length cap := hv
  refine ⟨b, cap, hv', fun j hj => h.rows.cell .lrn hb (getElem?_map_getD (ptrV ∘ some) s.lrn 0 j hj), fun j => h.rows.frozen .lrn hb j, fun e => ?_, hc1, hc2⟩
  have := h.rows.inj .lrn .sol b hb (by rw [e]; rfl)
  cases this
theorem wLen_c (h : Rep s w) (hn : s.lrn.length ≤ 100000) :
    Calls Tryz.prog 190 #[.pointer (some ⟨s.sb, 6, none⟩)] w fun e w' => e = .returned (.int .i64 (s.lrn.length : Int)) ∧ w' = w := by
  have h13 := h.sc h.hd.f13
  have hv : ∃ p cap, s.lrnV = .slice p s.lrn.length cap := by
    rcases (h.rows.own .lrn).2 with ⟨h1, h2⟩ | ⟨g, cap, cs, h1, _⟩
    · have h1' : s.lrnV = .slice none 0 0 := h1
      have h2' : s.lrn.length = 0 := h2
      exact ⟨none, 0, by rw [h1', h2']⟩
    · exact ⟨_, cap, h1⟩
  obtain ⟨p, cap, hv⟩ := hv
  rw [hv] at h13
  replace h13 := Lib.hid h13
  have h13' := h13.out
  go_enter Tryz.func190, Tryz.ntmps190
  go_wp2_with fail
  go_ret
  exact ⟨rfl, rfl⟩
set_option maxRecDepth 100000 in
set_option maxHeartbeats 4000000 in
theorem wLess_c (h : Rep s w) (hl : ∀ c ∈ s.lrn, c ∈ s.ids ∧ LW (s.word c)) {i j : Nat} (hi : i < s.lrn.length) (hj : j < s.lrn.length) (hn : s.lrn.length ≤ 100000) :
    ∃ x : Bool, Calls Tryz.prog 191 #[.pointer (some ⟨s.sb, 6, none⟩), .int .i64 (i : Int), .int .i64 (j : Int)] w fun e w' => e = .returned (.bool x) ∧ ∃ q, w' = w.drewN q := by
  obtain ⟨b, cap, hv, hat, hfr, hne, _, _⟩ := h.lrnAt hi
  have h13 := h.sc h.hd.f13
  rw [hv] at h13
  have ci := hat i hi
  have cj := hat j hj
  obtain ⟨mi, li⟩ := hl _ (nth_mem s.lrn i hi)
  obtain ⟨mj, lj⟩ := hl _ (nth_mem s.lrn j hj)
  have wi := h.clc mi (j := 1) (u := .int .u32 (s.word (nth s.lrn i))) rfl
  have wj := h.clc mj (j := 1) (u := .int .u32 (s.word (nth s.lrn j))) rfl
  have ai := h.clc mi (j := 2) (u := s.actC (nth s.lrn i)) rfl
  have aj := h.clc mj (j := 2) (u := s.actC (nth s.lrn j)) rfl
  obtain ⟨fi, hfi, _⟩ := h.hd.facc _ mi
  obtain ⟨fj, hfj, _⟩ := h.hd.facc _ mj
  rw [hfi] at ai
  rw [hfj] at aj
  have hI : (i : Int) < (s.lrn.length : Int) := by omega
  have hJ : (j : Int) < (s.lrn.length : Int) := by omega
  generalize nth s.lrn i = c at *
  generalize nth s.lrn j = d at *
  have Hi := Lib.hid (lbdOf_c wi li)
  have Hj := Lib.hid (lbdOf_c wj lj)
  have bi := li.lbd.2
  have bj := lj.lbd.2
  generalize lbdOf (s.word c) = x at *
  generalize lbdOf (s.word d) = y at *
  generalize s.lrn.length = n at *
  clear hat hl h hfr mi mj li lj wi wj hfi hfj
  by_cases e1 : y < x
  · have e1I : (y : Int) < (x : Int) := by omega
    have e2I : ¬ (x : Int) = (y : Int) := by omega
    refine ⟨true, ?_⟩
    go_enter Tryz.func191, Tryz.ntmps191
    go_upto_region 4 with (go_at_call 77; refine Calls.ret Hi.out ?_)
    go_upto_region 5 with (go_at_call 77; refine Calls.ret Hj.out ?_)
    go_quiet (fail)
    go_wp2_with fail
    go_ret
    exact ⟨rfl, _, rfl⟩
  · by_cases e2 : x = y
    · subst e2
      clear e1
      apply Exists.intro
      go_enter Tryz.func191, Tryz.ntmps191
      go_upto_region 4 with (go_at_call 77; refine Calls.ret Hi.out ?_)
      go_upto_region 5 with (go_at_call 77; refine Calls.ret Hj.out ?_)
      go_quiet (fail)
      go_wp2_with fail
      go_ret
      exact ⟨rfl, _, rfl⟩
    · have e1I : ¬ (y : Int) < (x : Int) := by omega
      have e2I : ¬ (x : Int) = (y : Int) := by omega
      refine ⟨false, ?_⟩
      go_enter Tryz.func191, Tryz.ntmps191
      go_upto_region 4 with (go_at_call 77; refine Calls.ret Hi.out ?_)
      go_upto_region 5 with (go_at_call 77; refine Calls.ret Hj.out ?_)
      go_quiet (fail)
      go_wp2_with fail
      go_ret
      exact ⟨rfl, _, rfl⟩

set_option maxRecDepth 100000 in
set_option maxHeartbeats 4000000 in
theorem wSwap_c (h : Rep s w) {i j : Nat} (hi : i < s.lrn.length) (hj : j < s.lrn.length) (hn : s.lrn.length ≤ 100000) :
    ∃ b, s.lrnV.ownBlock = some b ∧ b ≠ s.sb ∧ Calls Tryz.prog 192 #[.pointer (some ⟨s.sb, 6, none⟩), .int .i64 (i : Int), .int .i64 (j : Int)] w fun e w' => e = .returned (.tuple #[]) ∧
      ∃ q, w' = ((w.setCell ⟨b, i, none⟩ (.pointer (some ⟨nth s.lrn j, 0, none⟩))).setCell ⟨b, j, none⟩ (.pointer (some ⟨nth s.lrn i, 0, none⟩))).drewN q := by
  obtain ⟨b, cap, hv, hat, hfr, hne, _, _⟩ := h.lrnAt hi
  have h13 := h.sc h.hd.f13
  refine ⟨b, by rw [hv]; rfl, hne, ?_⟩
  rw [hv] at h13
  have g1 := hat i hi
  have g2 := hat j hj
  have f1 := hfr i
  have f2 := hfr j
  have hne' := Ne.symm hne
  have hI : (i : Int) < (s.lrn.length : Int) := by omega
  have hJ : (j : Int) < (s.lrn.length : Int) := by omega
  generalize nth s.lrn i = x at *
  generalize nth s.lrn j = y at *
  generalize s.lrn.length = n at *
  obtain ⟨v', hy'⟩ := cell?_setCell_some (w := w) (p := ⟨b, i, none⟩) (x := .pointer (some ⟨y, 0, none⟩)) (q := ⟨b, j, none⟩) (v := .pointer (some ⟨y, 0, none⟩)) g2
  clear h hat hfr hv
  go_enter Tryz.func192, Tryz.ntmps192
  go_wp2_with fail
  go_region
  all_goals
    go_wp2
    go_end0
    exact ⟨rfl, 1, rfl⟩

/-- the list of learned clauses in some order -/
def WS (s : St) (w0 w : World) : Prop := ∃ L, L.Perm s.lrn ∧ Tr s.row w0 (s.setL L).row w
theorem own_setL (s : St) (L : List Nat) (b : Nat) : Own (s.setL L).row b ↔ Own s.row b := by
  constructor
  · rintro ⟨r, hr⟩
    by_cases e : r = .lrn
    · subst e; exact ⟨.lrn, hr⟩
    · rw [row_setL s L r e] at hr; exact ⟨r, hr⟩
  · rintro ⟨r, hr⟩
    by_cases e : r = .lrn
    · subst e; exact ⟨.lrn, hr⟩
    · exact ⟨r, by rw [row_setL s L r e]; exact hr⟩
theorem WS.swap {w0 : World} (hw : WS s w0 w) (h0 : Rep s w0) {b : Nat} (hb : s.lrnV.ownBlock = some b) (L : List Nat) (hp : L.Perm s.lrn) (ht : Tr s.row w0 (s.setL L).row w) {i j : Nat} (hi : i < L.length) (hj : j < L.length) :
    WS s w0 ((w.setCell ⟨b, i, none⟩ (.pointer (some ⟨nth L j, 0, none⟩))).setCell ⟨b, j, none⟩ (.pointer (some ⟨nth L i, 0, none⟩))) := by
  have hv : ((s.setL L).row .lrn).v.ownBlock = some b := hb
  have t1 := ht.rows.set (ρ' := (s.setL (L.set i (nth L j))).row) .lrn hv i (ptrV (some (nth L j))) (by
    show (⟨92, 1, s.lrnV, (L.set i (nth L j)).length, (L.set i (nth L j)).map (ptrV ∘ some)⟩ : Row) = ⟨92, 1, s.lrnV, L.length, (L.map (ptrV ∘ some)).set i (ptrV (some (nth L j)))⟩
    rw [List.length_set, List.map_set]; rfl) (fun r hr => by rw [row_setL s _ r hr, row_setL s _ r hr])
  have t2 := t1.rows.set (ρ' := (s.setL ((L.set i (nth L j)).set j (nth L i))).row) .lrn hv j (ptrV (some (nth L i))) (by
    show (⟨92, 1, s.lrnV, ((L.set i (nth L j)).set j (nth L i)).length, ((L.set i (nth L j)).set j (nth L i)).map (ptrV ∘ some)⟩ : Row) = ⟨92, 1, s.lrnV, (L.set i (nth L j)).length, ((L.set i (nth L j)).map (ptrV ∘ some)).set j (ptrV (some (nth L i)))⟩
    rw [List.length_set (i := j), List.map_set (f := ptrV ∘ some) (i := j)]; rfl) (fun r hr => by rw [row_setL s _ r hr, row_setL s _ r hr])
  exact ⟨swapL L i j, (swapL_perm L i j hi hj).trans hp, (ht.trans t1).trans t2⟩
theorem ws_wi {w0 : World} (h : Rep s w0) (hl : ∀ c ∈ s.lrn, c ∈ s.ids ∧ LW (s.word c)) (hn : s.lrn.length ≤ 65536) : WI (WS s w0) w0.heap.size s.lrn.length s.sb 6 := by
  have hno : ∀ L b, w0.heap.size ≤ b → ¬ Own (s.setL L).row b := fun L b hb ho => by
    have := h.rows.lt ((own_setL s L b).1 ho)
    omega
  refine ⟨fun w q ⟨L, h1, h2⟩ => ⟨L, h1, h2.drewN q⟩, fun w o ⟨L, h1, h2⟩ => ⟨L, h1, h2.alloc o⟩, fun w b o v ⟨L, h1, h2⟩ hb => ⟨L, h1, h2.setOther _ _ (hno L b hb) hb⟩, fun w ⟨L, h1, h2⟩ => h2.fr.size, ?_, ?_⟩
  · rintro w ⟨L, h1, h2⟩ i j hi hj
    exact wLess_c (s := s.setL L) ⟨h2.rows, h.hd.setL L⟩ (fun c hc => hl c (h1.mem_iff.1 hc)) (by show i < L.length; rw [h1.length_eq]; exact hi) (by show j < L.length; rw [h1.length_eq]; exact hj) (by show L.length ≤ _; rw [h1.length_eq]; omega)
  · rintro w ⟨L, h1, h2⟩ i j hi hj
    have hi' : i < L.length := by rw [h1.length_eq]; exact hi
    have hj' : j < L.length := by rw [h1.length_eq]; exact hj
    obtain ⟨b, hb, hne, hc⟩ := wSwap_c (s := s.setL L) ⟨h2.rows, h.hd.setL L⟩ hi' hj' (by show L.length ≤ _; rw [h1.length_eq]; omega)
    refine hc.mono ?_
    rintro e w' ⟨rfl, q, rfl⟩
    have hbl : b < w0.heap.size := h.rows.lt ⟨.lrn, hb⟩
    obtain ⟨L', h3, h4⟩ := WS.swap ⟨L, h1, h2⟩ h hb L h1 h2 hi' hj'
    refine ⟨rfl, ⟨L', h3, h4.drewN q⟩, by simp, fun b' o hb' => ?_⟩
    have hn1 : ∀ x y : Nat, (⟨b, x, none⟩ : Addr) ≠ ⟨b', y, none⟩ := fun x y e => by simp only [Addr.mk.injEq, and_true] at e; omega
    refine ⟨?_, ?_⟩
    · rw [World.cell?_drewN, World.cell?_setCell_other _ _ _ _ (hn1 _ _), World.cell?_setCell_other _ _ _ _ (hn1 _ _)]
    · rw [World.frozen?_drewN]; simp
/-- sort.Sort on the learned clauses -/
theorem sortWl_c (h : Rep s w) (hl : ∀ c ∈ s.lrn, c ∈ s.ids ∧ LW (s.word c)) (hn : s.lrn.length ≤ 65536) :
    Calls Tryz.prog 95 #[.iface 136 (.pointer (some ⟨s.sb, 6, none⟩))] w fun e w' => e = .returned (.tuple #[]) ∧ ∃ L, L.Perm s.lrn ∧ Tr s.row w (s.setL L).row w' :=
  sortw_c (ws_wi h hl hn) hn ⟨s.lrn, .refl _, Tr.refl h.rows⟩ (wLen_c h (by omega))
end
end Go.Proofs.YtiimddkopiknpaaGreatDoor
