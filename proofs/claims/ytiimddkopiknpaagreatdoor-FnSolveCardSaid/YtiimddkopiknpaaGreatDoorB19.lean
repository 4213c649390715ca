/-
  Sorting over an interface, first part.
-/
import Derived.Test.YtiimddkopiknpaaGreatDoorB04
import Derived.Test.YtiimddkopiknpaaGreatDoorB02
import Derived.Deep.CutBlock
import Derived.Deep.DeepCutAuto
set_option linter.unusedVariables false
set_option linter.unusedSimpArgs false

/-
  sort.Sort over any state that its two methods keep: it comes back, and the state is kept.
-/
namespace Go.Proofs.YtiimddkopiknpaaGreatDoor
open Go.RowKit

/-- what Swap may do: the state is kept, memory from block B on stays -/
def SwB (I : World → Prop) (B : Nat) (w w' : World) : Prop :=
  I w' ∧ w'.heap.size = w.heap.size ∧ ∀ b o, B ≤ b → w'.cell? ⟨b, o, none⟩ = w.cell? ⟨b, o, none⟩ ∧ w'.frozen? ⟨b, o, none⟩ = w.frozen? ⟨b, o, none⟩
/-- a state that Less and Swap keep, on numbers below n -/
structure WI (I : World → Prop) (B n sb k : Nat) : Prop where
  drew : ∀ w q, I w → I (w.drewN q)
  alloc : ∀ w o, I w → I (w.alloc o)
  other : ∀ w b o v, I w → B ≤ b → I (w.setCell ⟨b, o, none⟩ v)
  hs : ∀ w, I w → B ≤ w.heap.size
  less : ∀ w, I w → ∀ i j : Nat, i < n → j < n → ∃ x : Bool, Calls Tryz.prog 191 #[.pointer (some ⟨sb, k, none⟩), .int .i64 (i : Int), .int .i64 (j : Int)] w fun e w' => e = .returned (.bool x) ∧ ∃ q, w' = w.drewN q
  swap : ∀ w, I w → ∀ i j : Nat, i < n → j < n → Calls Tryz.prog 192 #[.pointer (some ⟨sb, k, none⟩), .int .i64 (i : Int), .int .i64 (j : Int)] w fun e w' => e = .returned (.tuple #[]) ∧ SwB I B w w'
def WEnd (I : World → Prop) (e : Ending) (w : World) : Prop := e = .returned (.tuple #[]) ∧ I w

section
variable {I : World → Prop} {B n sb k : Nat} {w : World}
/-- the value that is sorted -/
abbrev wlv (sb k : Nat) : Value := .iface 136 (.pointer (some ⟨sb, k, none⟩))

set_option maxRecDepth 100000 in
set_option maxHeartbeats 4000000 in
theorem reverse_c (h : WI I B n sb k) (hI : I w) {a b : Nat} (hab : a < b) (hb : b ≤ n) (hn : n ≤ 100000) :
    Calls Tryz.prog 149 #[wlv sb k, .int .i64 (a : Int), .int .i64 (b : Int)] w (WEnd I) := by
  go_enter Tryz.func149, Tryz.ntmps149
  go_wp2_with fail
  go_loopw [6, 7] (fun v6 v7 wr => ∃ (i j : Nat), v6 = .int .i64 (i : Int) ∧ v7 = .int .i64 (j : Int) ∧ i ≤ j + 1 ∧ j < n ∧ I wr) (fun v6 v7 _ => (intOf v7 + 1 - intOf v6).toNat)
  case atStart => exact ⟨a, b - 1, rfl, by congr 1; omega, by omega, by omega, hI⟩
  case round =>
    obtain ⟨i, j, rfl, rfl, hij, hj, hI2⟩ := hrel
    by_cases hlt : i < j
    · have hltI : (i : Int) < (j : Int) := by omega
      have hsw := Lib.hid (h.swap _ hI2 i j (by omega) hj)
      replace hI2 := Lib.hid hI2
      go_wp2_with (go_at_call 192; refine hsw.out.mono ?_; rintro e w2 ⟨rfl, h2⟩)
      exact ⟨⟨i + 1, j - 1, by go_num, by congr 1; omega, by omega, by omega, h2.1⟩, by simp [intOf]; omega⟩
    · have hltI : ¬ (i : Int) < (j : Int) := by omega
      go_wp2_with fail
      go_end0
      exact ⟨rfl, hI2⟩

set_option maxRecDepth 100000 in
set_option maxHeartbeats 4000000 in
theorem insW_c (h : WI I B n sb k) (hI : I w) {a b : Nat} (hab : a ≤ b) (hb : b ≤ n) (hn : n ≤ 100000) :
    Calls Tryz.prog 145 #[wlv sb k, .int .i64 (a : Int), .int .i64 (b : Int)] w (WEnd I) := by
  go_enter Tryz.func145, Tryz.ntmps145
  go_wp2_with fail
  go_loopw [6] (fun v6 wr => ∃ (i : Nat), v6 = .int .i64 (i : Int) ∧ a ≤ i ∧ i ≤ b + 1 ∧ I wr) (fun v6 _ => b + 1 - (intOf v6).toNat)
  case atStart => exact ⟨a + 1, by go_num, by omega, by omega, hI⟩
  case round =>
    obtain ⟨i, rfl, hi1, hin, hI2⟩ := hrel
    by_cases hlt : i < b
    · have hltI : (i : Int) < (b : Int) := by omega
      replace hI2 := Lib.hid hI2
      go_wp2_with fail
      go_loopw [7] (fun v7 wq => ∃ (j : Nat), v7 = .int .i64 (j : Int) ∧ a ≤ j ∧ j ≤ i ∧ I wq) (fun v7 _ => (intOf v7).toNat)
      case atStart => exact ⟨i, rfl, hi1, Nat.le_refl _, hI2.out⟩
      case round =>
        clear hI2
        obtain ⟨j, rfl, haj, hji, hI2⟩ := hrel
        by_cases h0 : j = a
        · have h0I : ¬ (a : Int) < (j : Int) := by omega
          replace hI2 := Lib.hid hI2
          go_wp2_with fail
          exact ⟨⟨i + 1, by go_num, by omega, by omega, hI2.out⟩, by simp [intOf]; omega⟩
        · have hpos : (a : Int) < (j : Int) := by omega
          have hcj : ((j - 1 : Nat) : Int) = (j : Int) - 1 := by omega
          obtain ⟨x, hless⟩ := h.less _ hI2 j (j - 1) (by omega) (by omega)
          have hsw := fun q => h.swap _ (h.drew _ q hI2) j (j - 1) (by omega) (by omega)
          rw [hcj] at hless hsw
          have hdr := fun q => h.drew _ q hI2
          replace hI2 := Lib.hid hI2
          replace hless := Lib.hid hless
          replace hsw := Lib.hid hsw
          replace hdr := Lib.hid hdr
          cases x
          · go_wp2_with (go_at_call 191; refine Calls.retq hless.out ?_; intro q1)
            exact ⟨⟨i + 1, by go_num, by omega, by omega, hdr.out _⟩, by simp [intOf]; omega⟩
          · have hj1 := Lib.hid hcj
            clear hcj
            have hj2 : a ≤ j - 1 := by omega
            go_wp2_with (first
              | (go_at_call 191; refine Calls.retq hless.out ?_; intro q1)
              | (go_at_call 192; refine (hsw.out q1).mono ?_; rintro e w2 ⟨rfl, h2⟩))
            exact ⟨⟨j - 1, by rw [hj1.out], hj2, by omega, h2.1⟩, by simp [intOf]; omega⟩
    · have hltI : ¬ (i : Int) < (b : Int) := by omega
      go_wp2_with fail
      go_end0
      exact ⟨rfl, hI2⟩

set_option maxRecDepth 100000 in
set_option maxHeartbeats 4000000 in
theorem sift_c (h : WI I B n sb k) (hI : I w) {lo hi f : Nat} (hlo : lo ≤ hi) (hb : f + hi ≤ n) (hn : n ≤ 100000) :
    Calls Tryz.prog 155 #[wlv sb k, .int .i64 (lo : Int), .int .i64 (hi : Int), .int .i64 (f : Int)] w (WEnd I) := by
  go_enter Tryz.func155, Tryz.ntmps155
  go_wp2_with fail
  go_loopw [8] (fun v8 wr => ∃ (r : Nat), v8 = .int .i64 (r : Int) ∧ r ≤ hi ∧ I wr) (fun v8 _ => hi - (intOf v8).toNat)
  case atStart => exact ⟨lo, rfl, hlo, hI⟩
  case round =>
    obtain ⟨r, rfl, hr2, hI2⟩ := hrel
    by_cases hc : 2 * r + 1 < hi
    · have hcI : ¬ (hi : Int) ≤ 2 * (r : Int) + 1 := by omega
      have e1 : ((f + (2 * r + 1) : Nat) : Int) = (f : Int) + (2 * (r : Int) + 1) := by omega
      have e2 : ((f + (2 * r + 1) + 1 : Nat) : Int) = (f : Int) + (2 * (r : Int) + 1) + 1 := by omega
      have e3 : ((f + r : Nat) : Int) = (f : Int) + (r : Int) := by omega
      have e4 : ((f + (2 * r + 2) : Nat) : Int) = (f : Int) + (2 * (r : Int) + 1 + 1) := by omega
      have e5 : ((f + (2 * r + 1) : Nat) : Int) = (f : Int) + (2 * (r : Int) + 1) := by omega
      have hdr := fun q => h.drew _ q hI2
      have hL2 := fun (c : Nat) (hc : f + c < n) q => h.less _ (h.drew _ q hI2) (f + r) (f + c) (by omega) hc
      have hS2 := fun (c : Nat) (hc : f + c < n) q => h.swap _ (h.drew _ q hI2) (f + r) (f + c) (by omega) hc
      rw [e3] at hL2 hS2
      have c1 := hL2 (2 * r + 1) (by omega)
      have s1 := hS2 (2 * r + 1) (by omega)
      rw [e5] at c1 s1
      by_cases hc2 : 2 * r + 2 < hi
      · have hc2I : 2 * (r : Int) + 1 + 1 < (hi : Int) := by omega
        have c2 := hL2 (2 * r + 2) (by omega)
        have s2 := hS2 (2 * r + 2) (by omega)
        rw [e4] at c2 s2
        obtain ⟨x, hless⟩ := h.less _ hI2 (f + (2 * r + 1)) (f + (2 * r + 1) + 1) (by omega) (by omega)
        rw [e1, e2] at hless
        clear hL2 hS2
        replace hI2 := Lib.hid hI2
        replace hless := Lib.hid hless
        replace c1 := Lib.hid c1
        replace c2 := Lib.hid c2
        replace s1 := Lib.hid s1
        replace s2 := Lib.hid s2
        replace hdr := Lib.hid hdr
        clear e1 e2 e3 e4 e5
        cases x
        · go_upto_region 5 with (go_at_call 191; refine Calls.retq hless.out ?_; intro q1)
          obtain ⟨y, hy⟩ := c1.out q1
          replace hy := Lib.hid hy
          cases y
          · go_wp2_with (go_at_call 191; refine Calls.retq hy.out ?_; intro q2)
            go_end0
            exact ⟨rfl, hdr.out _⟩
          · go_upto_region 6 with (go_at_call 191; refine Calls.retq hy.out ?_; intro q2)
            have hs := Lib.hid (s1.out (q1 + q2))
            go_wp2_with (go_at_call 192; refine hs.out.mono ?_; rintro e w2 ⟨rfl, h2⟩)
            exact ⟨⟨2 * r + 1, by go_num, by omega, h2.1⟩, by simp [intOf]; omega⟩
        · go_upto_region 5 with (go_at_call 191; refine Calls.retq hless.out ?_; intro q1)
          obtain ⟨y, hy⟩ := c2.out q1
          replace hy := Lib.hid hy
          cases y
          · go_wp2_with (go_at_call 191; refine Calls.retq hy.out ?_; intro q2)
            go_end0
            exact ⟨rfl, hdr.out _⟩
          · go_upto_region 6 with (go_at_call 191; refine Calls.retq hy.out ?_; intro q2)
            have hs := Lib.hid (s2.out (q1 + q2))
            go_wp2_with (go_at_call 192; refine hs.out.mono ?_; rintro e w2 ⟨rfl, h2⟩)
            exact ⟨⟨2 * r + 2, by go_num, by omega, h2.1⟩, by simp [intOf]; omega⟩
      · have hc2I : ¬ 2 * (r : Int) + 1 + 1 < (hi : Int) := by omega
        have c0 := h.less _ hI2 (f + r) (f + (2 * r + 1)) (by omega) (by omega)
        rw [e3, e5] at c0
        clear hL2 hS2
        replace hI2 := Lib.hid hI2
        replace c1 := Lib.hid c1
        replace c0 := Lib.hid c0
        replace s1 := Lib.hid s1
        replace hdr := Lib.hid hdr
        clear e1 e2 e3 e4 e5
        go_upto_region 5 with fail
        obtain ⟨y, hy⟩ := c0.out
        replace hy := Lib.hid hy
        cases y
        · go_wp2_with (go_at_call 191; refine Calls.retq hy.out ?_; intro q2)
          go_end0
          exact ⟨rfl, hdr.out _⟩
        · go_upto_region 6 with (go_at_call 191; refine Calls.retq hy.out ?_; intro q2)
          have hs := Lib.hid (s1.out q2)
          go_wp2_with (go_at_call 192; refine hs.out.mono ?_; rintro e w2 ⟨rfl, h2⟩)
          exact ⟨⟨2 * r + 1, by go_num, by omega, h2.1⟩, by simp [intOf]; omega⟩
    · have hcI : (hi : Int) ≤ 2 * (r : Int) + 1 := by omega
      go_wp2_with fail
      go_end0
      exact ⟨rfl, hI2⟩
end
end Go.Proofs.YtiimddkopiknpaaGreatDoor

/-
  sort.heapSort over any state that its two methods keep.
-/
namespace Go.Proofs.YtiimddkopiknpaaGreatDoor
open Go.RowKit

section
variable {I : World → Prop} {B n sb k : Nat} {w : World}
set_option maxRecDepth 100000 in
set_option maxHeartbeats 4000000 in
theorem heap_c (h : WI I B n sb k) (hI : I w) {a b : Nat} (hab : a < b) (hb : b ≤ n) (hn : n ≤ 100000) :
    Calls Tryz.prog 146 #[wlv sb k, .int .i64 (a : Int), .int .i64 (b : Int)] w (WEnd I) := by
  have hsift := Lib.hid (fun w (hI : I w) (lo hi : Nat) (h1 : lo ≤ hi) (h2 : hi ≤ b - a) => sift_c h hI (lo := lo) (hi := hi) (f := a) h1 (by omega) hn)
  have hdv : ((b : Int) - (a : Int) - 1) / 2 = (((b - a - 1) / 2 : Nat) : Int) := by omega
  have eL : ((b - a : Nat) : Int) = (b : Int) - (a : Int) := by omega
  go_enter Tryz.func146, Tryz.ntmps146
  go_upto_block 0 with fail
  go_wp2_with fail
  go_loopw [9] (fun v9 wr => ∃ (i : Int), v9 = .int .i64 i ∧ -1 ≤ i ∧ i < (b : Int) - (a : Int) ∧ I wr) (fun v9 _ => (intOf v9 + 1).toNat)
  case atStart => exact ⟨_, rfl, by omega, by omega, hI⟩
  case round =>
    obtain ⟨i, rfl, h1, h2, hI2⟩ := hrel
    by_cases hlt : 0 ≤ i
    · obtain ⟨j, rfl⟩ := Int.eq_ofNat_of_zero_le hlt
      have hs := hsift.out _ hI2 j (b - a) (by omega) (by omega)
      rw [eL] at hs
      replace hs := Lib.hid hs
      replace hI2 := Lib.hid hI2
      clear hdv eL
      go_wp2_with (go_at_call 155; refine hs.out.mono ?_; rintro e w2 ⟨rfl, h3⟩)
      exact ⟨⟨(j : Int) - 1, by go_num, by omega, by omega, h3⟩, by simp [intOf] <;> omega⟩
    · have e : i = -1 := by omega
      subst e
      clear hdv
      replace hI2 := Lib.hid hI2
      go_upto_block 2 with fail
      go_wp2_with fail
      go_loopw [10] (fun v10 wq => ∃ (i : Int), v10 = .int .i64 i ∧ -1 ≤ i ∧ i < (b : Int) - (a : Int) ∧ I wq) (fun v10 _ => (intOf v10 + 1).toNat)
      case atStart => exact ⟨_, rfl, by omega, by omega, hI2.out⟩
      case round =>
        clear hI2
        obtain ⟨i, rfl, h1, h2, hI2⟩ := hrel
        by_cases hlt : 0 ≤ i
        · obtain ⟨j, rfl⟩ := Int.eq_ofNat_of_zero_le hlt
          have hw := h.swap _ hI2 a (a + j) (by omega) (by omega)
          have e1 : ((a + j : Nat) : Int) = (a : Int) + (j : Int) := by omega
          rw [e1] at hw
          replace hw := Lib.hid hw
          replace hI2 := Lib.hid hI2
          clear e1
          go_upto_region 11 with (go_at_call 192; refine hw.out.mono ?_; rintro e w2 ⟨rfl, h3⟩)
          have hs := Lib.hid (hsift.out _ h3.1 0 j (by omega) (by omega))
          go_wp2_with (go_at_call 155; refine hs.out.mono ?_; rintro e w4 ⟨rfl, h4⟩)
          exact ⟨⟨(j : Int) - 1, by go_num, by omega, by omega, h4⟩, by simp [intOf] <;> omega⟩
        · have e : i = -1 := by omega
          subst e
          go_wp2_with fail
          go_end0
          exact ⟨rfl, hI2⟩
end
end Go.Proofs.YtiimddkopiknpaaGreatDoor

/-
  sort.partition, partitionEqual over any state that the two methods keep.
-/
namespace Go.Proofs.YtiimddkopiknpaaGreatDoor
open Go.RowKit

section
variable {I : World → Prop} {B n sb k : Nat} {w : World}
def PEPost (I : World → Prop) (a b : Nat) (e : Ending) (w : World) : Prop := (∃ i : Nat, e = .returned (.int .i64 (i : Int)) ∧ a < i ∧ i ≤ b) ∧ I w
def PTPost (I : World → Prop) (a b : Nat) (e : Ending) (w : World) : Prop := (∃ (j : Nat) (x : Bool), e = .returned (.tuple #[.int .i64 (j : Int), .bool x]) ∧ a ≤ j ∧ j < b) ∧ I w

set_option maxRecDepth 100000 in
set_option maxHeartbeats 4000000 in
theorem partEq_c (h : WI I B n sb k) (hI : I w) {a b p : Nat} (hap : a ≤ p) (hpb : p < b) (hb : b ≤ n) (hn : n ≤ 100000) :
    Calls Tryz.prog 151 #[wlv sb k, .int .i64 (a : Int), .int .i64 (b : Int), .int .i64 (p : Int)] w (PEPost I a b) := by
  have hw0 := Lib.hid (h.swap _ hI a p (by omega) (by omega))
  clear hI
  go_enter Tryz.func151, Tryz.ntmps151
  go_upto_block 0 with (go_at_call 192; refine hw0.out.mono ?_; rintro e w1 ⟨rfl, hI1⟩)
  clear hw0
  have hI := hI1.1
  clear hI1
  go_wp2_with fail
  go_loopw [9, 10] (fun v9 v10 wr => ∃ (i j : Nat), v9 = .int .i64 (i : Int) ∧ v10 = .int .i64 (j : Int) ∧ a < i ∧ i ≤ b ∧ a ≤ j ∧ j < b ∧ I wr) (fun v9 v10 _ => (intOf v10 + 1 - intOf v9).toNat)
  case atStart => exact ⟨a + 1, b - 1, by go_num, by congr 1; omega, by omega, by omega, by omega, by omega, hI⟩
  case round =>
    clear hI
    obtain ⟨i, j, rfl, rfl, h1, h2, h3, h4, hI⟩ := hrel
    go_wp2_with fail
    go_loopw [9] (fun v wq => ∃ (i' : Nat), v = .int .i64 (i' : Int) ∧ i ≤ i' ∧ i' ≤ b ∧ I wq) (fun v _ => b - (intOf v).toNat)
    case atStart => exact ⟨i, rfl, by omega, by omega, hI⟩
    case round =>
      clear hI
      obtain ⟨i', rfl, h5, h6, hI⟩ := hrel
      by_cases hle : i' ≤ j
      · have hleI : (i' : Int) ≤ (j : Int) := by omega
        obtain ⟨x, hless⟩ := h.less _ hI a i' (by omega) (by omega)
        have hdr := Lib.hid (fun q => h.drew _ q hI)
        replace hless := Lib.hid hless
        replace hI := Lib.hid hI
        cases x
        · go_wp2_with (go_at_call 191; refine Calls.retq hless.out ?_; intro q1)
          exact ⟨⟨i' + 1, by go_num, by omega, by omega, hdr.out _⟩, by simp [intOf] <;> omega⟩
        · go_wp2_with (go_at_call 191; refine Calls.retq hless.out ?_; intro q1)
          have hI' := hdr.out q1
          clear hI hless hdr
          go_loopw [10] (fun v wq => ∃ (j' : Nat), v = .int .i64 (j' : Int) ∧ j' ≤ j ∧ a ≤ j' ∧ I wq) (fun v _ => (intOf v).toNat)
          case atStart => exact ⟨j, rfl, by omega, by omega, hI'⟩
          case round =>
            clear hI' hleI
            obtain ⟨j', rfl, h7, h8, hI⟩ := hrel
            by_cases hle2 : i' ≤ j'
            · have hleI : (i' : Int) ≤ (j' : Int) := by omega
              obtain ⟨x, hless⟩ := h.less _ hI a j' (by omega) (by omega)
              have hdr := Lib.hid (fun q => h.drew _ q hI)
              replace hless := Lib.hid hless
              replace hI := Lib.hid hI
              cases x
              · have hsw := Lib.hid (fun q => h.swap _ (hdr.out q) i' j' (by omega) (by omega))
                go_upto_region 8 with (go_at_call 191; refine Calls.retq hless.out ?_; intro q2)
                have hsw2 := Lib.hid (hsw.out q2)
                go_wp2_with (go_at_call 192; refine hsw2.out.mono ?_; rintro e w2 ⟨rfl, hI2⟩)
                exact ⟨⟨i' + 1, j' - 1, by go_num, by congr 1; omega, by omega, by omega, by omega, by omega, hI2.1⟩, by simp [intOf] <;> omega⟩
              · go_wp2_with (go_at_call 191; refine Calls.retq hless.out ?_; intro q2)
                exact ⟨⟨j' - 1, by congr 1; omega, by omega, by omega, hdr.out _⟩, by simp [intOf] <;> omega⟩
            · have hleI : ¬ (i' : Int) ≤ (j' : Int) := by omega
              replace hI := Lib.hid hI
              go_wp2_with fail
              go_ret
              exact ⟨⟨i', rfl, by omega, by omega⟩, hI.out⟩
      · have hleI : ¬ (i' : Int) ≤ (j : Int) := by omega
        go_wp2_with fail
        go_loopw [10] (fun v wq => v = .int .i64 (j : Int) ∧ I wq) (fun v _ => 0)
        case atStart => exact ⟨rfl, hI⟩
        case round =>
          clear hI
          obtain ⟨rfl, hI⟩ := hrel
          go_wp2_with fail
          go_ret
          exact ⟨⟨i', rfl, by omega, by omega⟩, hI⟩
end
end Go.Proofs.YtiimddkopiknpaaGreatDoor

/-
  sort.partition over any state that the two methods keep.
-/
namespace Go.Proofs.YtiimddkopiknpaaGreatDoor
open Go.RowKit

section
variable {I : World → Prop} {B n sb k : Nat} {w : World}
set_option maxRecDepth 100000 in
set_option maxHeartbeats 4000000 in
theorem part_c (h : WI I B n sb k) (hI : I w) {a b p : Nat} (hap : a ≤ p) (hpb : p < b) (hb : b ≤ n) (hn : n ≤ 100000) (h2 : a + 2 ≤ b) :
    Calls Tryz.prog 152 #[wlv sb k, .int .i64 (a : Int), .int .i64 (b : Int), .int .i64 (p : Int)] w (PTPost I a b) := by
  have hw0 := Lib.hid (h.swap _ hI a p (by omega) (by omega))
  clear hI
  go_enter Tryz.func152, Tryz.ntmps152
  go_upto_block 0 with (go_at_call 192; refine hw0.out.mono ?_; rintro e w1 ⟨rfl, hI1⟩)
  clear hw0
  have hI := hI1.1
  clear hI1
  obtain ⟨i, hi⟩ : ∃ i, i = a + 1 := ⟨_, rfl⟩
  obtain ⟨j, hj⟩ : ∃ j, j = b - 1 := ⟨_, rfl⟩
  have hv1 : (a : Int) + 1 = (i : Int) := by omega
  have hv2 : (b : Int) - 1 = (j : Int) := by omega
  have h1 : a < i := by omega
  have h2 : i ≤ b := by omega
  have h3 : a ≤ j := by omega
  have h4 : j < b := by omega
  go_wp2_with fail
  rw [hv1, hv2]
  clear hi hj hv1 hv2
  go_loopw [10] (fun v wq => ∃ (i' : Nat), v = .int .i64 (i' : Int) ∧ i ≤ i' ∧ i' ≤ b ∧ I wq) (fun v _ => b - (intOf v).toNat)
  case atStart => exact ⟨i, rfl, by omega, by omega, hI⟩
  case round =>
    clear hI
    obtain ⟨i', rfl, h5, h6, hI⟩ := hrel
    by_cases hle : i' ≤ j
    · have hleI : (i' : Int) ≤ (j : Int) := by omega
      obtain ⟨x, hless⟩ := h.less _ hI i' a (by omega) (by omega)
      have hdr := Lib.hid (fun q => h.drew _ q hI)
      replace hless := Lib.hid hless
      replace hI := Lib.hid hI
      cases x
      · go_upto_block 2 with (go_at_call 191; refine Calls.retq hless.out ?_; intro q1)
        go_wp2_with fail
        have hI' := hdr.out q1
        clear hI hless hdr
        go_loopw [11] (fun v wq => ∃ (j' : Nat), v = .int .i64 (j' : Int) ∧ j' ≤ j ∧ a ≤ j' ∧ I wq) (fun v _ => (intOf v).toNat)
        case atStart => exact ⟨j, rfl, by omega, by omega, hI'⟩
        case round =>
          clear hI' hleI
          obtain ⟨j', rfl, h7, h8, hI⟩ := hrel
          by_cases hle2 : i' ≤ j'
          · have hleI : (i' : Int) ≤ (j' : Int) := by omega
            obtain ⟨x, hless⟩ := h.less _ hI j' a (by omega) (by omega)
            have hdr := Lib.hid (fun q => h.drew _ q hI)
            replace hless := Lib.hid hless
            replace hI := Lib.hid hI
            cases x
            · go_wp2_with (go_at_call 191; refine Calls.retq hless.out ?_; intro q2)
              exact ⟨⟨j' - 1, by congr 1; omega, by omega, by omega, hdr.out _⟩, by simp [intOf] <;> omega⟩
            · have hsw := Lib.hid (fun q => h.swap _ (hdr.out q) i' j' (by omega) (by omega))
              go_upto_region 10 with (go_at_call 191; refine Calls.retq hless.out ?_; intro q2)
              have hsw2 := Lib.hid (hsw.out q2)
              go_upto_block 4 with (go_at_call 192; refine hsw2.out.mono ?_; rintro e w2 ⟨rfl, hI2⟩)
              clear hdr hless hI hsw hsw2 hleI
              have hI := hI2.1
              clear hI2
              have hi1 : a < i' + 1 := by omega
              have hi2 : i' + 1 ≤ b := by omega
              have hj1 : a ≤ j' - 1 := by omega
              have hj2 : j' - 1 < b := by omega
              have hv1 : ((i' + 1 : Nat) : Int) = (i' : Int) + 1 := by omega
              have hv2 : ((j' - 1 : Nat) : Int) = (j' : Int) - 1 := by omega
              clear h1 h2 h3 h4 h5 h6 h7 h8 hle hle2
              go_wp2_with fail
              go_loopw [10, 11] (fun v10 v11 wr => ∃ (i j : Nat), v10 = .int .i64 (i : Int) ∧ v11 = .int .i64 (j : Int) ∧ a < i ∧ i ≤ b ∧ a ≤ j ∧ j < b ∧ I wr) (fun v10 v11 _ => (intOf v11 + 1 - intOf v10).toNat)
              case atStart => exact ⟨i' + 1, j' - 1, by rw [hv1], by rw [hv2], hi1, hi2, hj1, hj2, hI⟩
              case round =>
                clear hI hi1 hi2 hj1 hj2 hv1 hv2
                obtain ⟨i, j, rfl, rfl, h1, h2, h3, h4, hI⟩ := hrel
                go_wp2_with fail
                go_loopw [10] (fun v wq => ∃ (i' : Nat), v = .int .i64 (i' : Int) ∧ i ≤ i' ∧ i' ≤ b ∧ I wq) (fun v _ => b - (intOf v).toNat)
                case atStart => exact ⟨i, rfl, by omega, by omega, hI⟩
                case round =>
                  clear hI
                  obtain ⟨i', rfl, h5, h6, hI⟩ := hrel
                  by_cases hle : i' ≤ j
                  · have hleI : (i' : Int) ≤ (j : Int) := by omega
                    obtain ⟨x, hless⟩ := h.less _ hI i' a (by omega) (by omega)
                    have hdr := Lib.hid (fun q => h.drew _ q hI)
                    replace hless := Lib.hid hless
                    replace hI := Lib.hid hI
                    cases x
                    · go_upto_block 8 with (go_at_call 191; refine Calls.retq hless.out ?_; intro q1)
                      go_wp2_with fail
                      have hI' := hdr.out q1
                      clear hI hless hdr
                      go_loopw [11] (fun v wq => ∃ (j' : Nat), v = .int .i64 (j' : Int) ∧ j' ≤ j ∧ a ≤ j' ∧ I wq) (fun v _ => (intOf v).toNat)
                      case atStart => exact ⟨j, rfl, by omega, by omega, hI'⟩
                      case round =>
                        clear hI' hleI
                        obtain ⟨j', rfl, h7, h8, hI⟩ := hrel
                        by_cases hle2 : i' ≤ j'
                        · have hleI : (i' : Int) ≤ (j' : Int) := by omega
                          obtain ⟨x, hless⟩ := h.less _ hI j' a (by omega) (by omega)
                          have hdr := Lib.hid (fun q => h.drew _ q hI)
                          replace hless := Lib.hid hless
                          replace hI := Lib.hid hI
                          cases x
                          · go_wp2_with (go_at_call 191; refine Calls.retq hless.out ?_; intro q2)
                            exact ⟨⟨j' - 1, by congr 1; omega, by omega, by omega, hdr.out _⟩, by simp [intOf] <;> omega⟩
                          · have hsw := Lib.hid (fun q => h.swap _ (hdr.out q) i' j' (by omega) (by omega))
                            go_upto_region 18 with (go_at_call 191; refine Calls.retq hless.out ?_; intro q2)
                            have hsw2 := Lib.hid (hsw.out q2)
                            go_wp2_with (go_at_call 192; refine hsw2.out.mono ?_; rintro e w2 ⟨rfl, hI2⟩)
                            exact ⟨⟨i' + 1, j' - 1, by go_num, by congr 1; omega, by omega, by omega, by omega, by omega, hI2.1⟩, by simp [intOf] <;> omega⟩
                        · have hleI : ¬ (i' : Int) ≤ (j' : Int) := by omega
                          have hsx := Lib.hid (h.swap _ hI j' a (by omega) (by omega))
                          replace hI := Lib.hid hI
                          go_wp2_with (go_at_call 192; refine hsx.out.mono ?_; rintro e w2 ⟨rfl, hI2⟩)
                          go_ret2
                          exact ⟨⟨j', _, rfl, by omega, by omega⟩, hI2.1⟩
                    · go_wp2_with (go_at_call 191; refine Calls.retq hless.out ?_; intro q1)
                      exact ⟨⟨i' + 1, by go_num, by omega, by omega, hdr.out _⟩, by simp [intOf] <;> omega⟩
                  · have hleI : ¬ (i' : Int) ≤ (j : Int) := by omega
                    go_upto_block 8 with fail
                    go_wp2_with fail
                    go_loopw [11] (fun v wq => v = .int .i64 (j : Int) ∧ I wq) (fun v _ => 0)
                    case atStart => exact ⟨rfl, hI⟩
                    case round =>
                      clear hI
                      obtain ⟨rfl, hI⟩ := hrel
                      have hsx := Lib.hid (h.swap _ hI j a (by omega) (by omega))
                      replace hI := Lib.hid hI
                      go_wp2_with (go_at_call 192; refine hsx.out.mono ?_; rintro e w2 ⟨rfl, hI2⟩)
                      go_ret2
                      exact ⟨⟨j, _, rfl, by omega, by omega⟩, hI2.1⟩
          · have hleI : ¬ (i' : Int) ≤ (j' : Int) := by omega
            have hsx := Lib.hid (h.swap _ hI j' a (by omega) (by omega))
            replace hI := Lib.hid hI
            go_wp2_with (go_at_call 192; refine hsx.out.mono ?_; rintro e w2 ⟨rfl, hI2⟩)
            go_ret2
            exact ⟨⟨j', _, rfl, by omega, by omega⟩, hI2.1⟩
      · go_wp2_with (go_at_call 191; refine Calls.retq hless.out ?_; intro q1)
        exact ⟨⟨i' + 1, by go_num, by omega, by omega, hdr.out _⟩, by simp [intOf] <;> omega⟩
    · have hleI : ¬ (i' : Int) ≤ (j : Int) := by omega
      go_upto_block 2 with fail
      go_wp2_with fail
      go_loopw [11] (fun v wq => v = .int .i64 (j : Int) ∧ I wq) (fun v _ => 0)
      case atStart => exact ⟨rfl, hI⟩
      case round =>
        clear hI
        obtain ⟨rfl, hI⟩ := hrel
        have hsx := Lib.hid (h.swap _ hI j a (by omega) (by omega))
        replace hI := Lib.hid hI
        go_wp2_with (go_at_call 192; refine hsx.out.mono ?_; rintro e w2 ⟨rfl, hI2⟩)
        go_ret2
        exact ⟨⟨j, _, rfl, by omega, by omega⟩, hI2.1⟩
end
end Go.Proofs.YtiimddkopiknpaaGreatDoor

/-
  sort.partialInsertionSort over any state that the two methods keep.
-/
namespace Go.Proofs.YtiimddkopiknpaaGreatDoor
open Go.RowKit

section
variable {I : World → Prop} {B n sb k : Nat} {w : World}
def BPost (I : World → Prop) (e : Ending) (w : World) : Prop := (∃ x : Bool, e = .returned (.bool x)) ∧ I w

set_option maxRecDepth 100000 in
set_option maxHeartbeats 4000000 in
theorem pins_c (h : WI I B n sb k) (hI : I w) {a b : Nat} (hab : a < b) (hb : b ≤ n) (hn : n ≤ 100000) :
    Calls Tryz.prog 150 #[wlv sb k, .int .i64 (a : Int), .int .i64 (b : Int)] w (BPost I) := by
  go_enter Tryz.func150, Tryz.ntmps150
  go_wp2_with fail
  go_loopw [7, 8] (fun v7 v8 wr => ∃ (i j : Nat), v7 = .int .i64 (i : Int) ∧ v8 = .int .i64 (j : Int) ∧ a < i ∧ i ≤ b ∧ j ≤ 5 ∧ I wr) (fun v7 v8 _ => (5 - intOf v8).toNat)
  case atStart => exact ⟨a + 1, 0, by go_num, rfl, by omega, by omega, by omega, hI⟩
  case round =>
    clear hI
    obtain ⟨i, j, rfl, rfl, h1, h2, h3, hI⟩ := hrel
    by_cases hj5 : j < 5
    · have hj5I : (j : Int) < 5 := by omega
      go_wp2_with fail
      go_loopw [7] (fun v wq => ∃ (i' : Nat), v = .int .i64 (i' : Int) ∧ a < i' ∧ i' ≤ b ∧ I wq) (fun v _ => b - (intOf v).toNat)
      case atStart => exact ⟨i, rfl, by omega, by omega, hI⟩
      case round =>
        clear hI h1 h2
        obtain ⟨i', rfl, h1, h2, hI⟩ := hrel
        by_cases hib : i' < b
        · have hibI : (i' : Int) < (b : Int) := by omega
          have hine : ¬ (i' : Int) = (b : Int) := by omega
          have hc : ((i' - 1 : Nat) : Int) = (i' : Int) - 1 := by omega
          obtain ⟨x, hless⟩ := h.less _ hI i' (i' - 1) (by omega) (by omega)
          rw [hc] at hless
          have hdr := Lib.hid (fun q => h.drew _ q hI)
          replace hless := Lib.hid hless
          replace hI := Lib.hid hI
          cases x
          · clear hc
            go_wp2_with (go_at_call 191; refine Calls.retq hless.out ?_; intro q1)
            exact ⟨⟨i' + 1, by go_num, by omega, by omega, hdr.out _⟩, by simp [intOf] <;> omega⟩
          · have hsw := Lib.hid (fun (q : Nat) => by have := h.swap _ (hdr.out q) i' (i' - 1) (by omega) (by omega); rw [hc] at this; exact this)
            by_cases h50 : b - a < 50
            · have h50I : (b : Int) - (a : Int) < 50 := by omega
              clear hc
              go_wp2_with (go_at_call 191; refine Calls.retq hless.out ?_; intro q1)
              go_ret
              exact ⟨⟨_, rfl⟩, hdr.out _⟩
            · have h50I : ¬ (b : Int) - (a : Int) < 50 := by omega
              clear hc
              go_upto_region 11 with (go_at_call 191; refine Calls.retq hless.out ?_; intro q1)
              have hsw2 := Lib.hid (hsw.out q1)
              go_upto_if 45 with (go_at_call 192; refine hsw2.out.mono ?_; rintro e w2 ⟨rfl, hI2⟩)
              obtain ⟨d, hd⟩ : ∃ d, d = decide ((2 : Int) ≤ (i' : Int) - (a : Int)) := ⟨_, rfl⟩
              rw [← hd]
              go_cut [] (fun wx => I wx)
              case first =>
                clear hd
                cases d with
                | true =>
                  go_wp2_with fail
                  go_loopw [9] (fun v wq => ∃ (p : Nat), v = .int .i64 (p : Int) ∧ p < i' ∧ I wq) (fun v _ => (intOf v).toNat)
                  case atStart => exact ⟨i' - 1, by congr 1; omega, by omega, hI2.1⟩
                  case round =>
                    clear hI hI2 hdr hless hsw hsw2
                    obtain ⟨p, rfl, h5, hI⟩ := hrel
                    by_cases hp1 : 1 ≤ p
                    · have hp1I : (1 : Int) ≤ (p : Int) := by omega
                      have hc : ((p - 1 : Nat) : Int) = (p : Int) - 1 := by omega
                      obtain ⟨x, hless⟩ := h.less _ hI p (p - 1) (by omega) (by omega)
                      have hdr := Lib.hid (fun q => h.drew _ q hI)
                      have hsw := Lib.hid (fun (q : Nat) => by have := h.swap _ (hdr.out q) p (p - 1) (by omega) (by omega); rw [hc] at this; exact this)
                      rw [hc] at hless
                      replace hless := Lib.hid hless
                      replace hI := Lib.hid hI
                      replace hc := Lib.hid hc
                      cases x
                      · go_wp2_with (go_at_call 191; refine Calls.retq hless.out ?_; intro q2)
                        go_meet
                        exact hdr.out _
                      · go_upto_region 17 with (go_at_call 191; refine Calls.retq hless.out ?_; intro q2)
                        have hsw2 := Lib.hid (hsw.out q2)
                        go_wp2_with (go_at_call 192; refine hsw2.out.mono ?_; rintro e w3 ⟨rfl, hI3⟩)
                        exact ⟨⟨p - 1, by rw [hc.out], by omega, hI3.1⟩, by simp [intOf] <;> omega⟩
                    · have hp1I : ¬ (1 : Int) ≤ (p : Int) := by omega
                      go_wp2_with fail
                      go_meet
                      exact hI
                | false =>
                  go_wp2_with fail
                  go_meet
                  exact hI2.1
              case rest =>
                clear hI2 hsw2 hsw hdr hless hI
                have hI := hcut
                clear hcut
                go_upto_if 66 with fail
                obtain ⟨d2, hd2⟩ : ∃ d, d = decide ((2 : Int) ≤ (b : Int) - (i' : Int)) := ⟨_, rfl⟩
                rw [← hd2]
                clear hd2
                cases d2 with
                | true =>
                  go_wp2_with fail
                  go_loopw [10] (fun v wq => ∃ (p : Nat), v = .int .i64 (p : Int) ∧ a < p ∧ p ≤ b ∧ I wq) (fun v _ => b - (intOf v).toNat)
                  case atStart => exact ⟨i' + 1, by go_num, by omega, by omega, hI⟩
                  case round =>
                    clear hI
                    obtain ⟨p, rfl, h5, h6, hI⟩ := hrel
                    by_cases hp1 : p < b
                    · have hp1I : (p : Int) < (b : Int) := by omega
                      have hc : ((p - 1 : Nat) : Int) = (p : Int) - 1 := by omega
                      obtain ⟨x, hless⟩ := h.less _ hI p (p - 1) (by omega) (by omega)
                      have hdr := Lib.hid (fun q => h.drew _ q hI)
                      have hsw := Lib.hid (fun (q : Nat) => by have := h.swap _ (hdr.out q) p (p - 1) (by omega) (by omega); rw [hc] at this; exact this)
                      rw [hc] at hless
                      replace hless := Lib.hid hless
                      replace hI := Lib.hid hI
                      clear hc
                      cases x
                      · go_wp2_with (go_at_call 191; refine Calls.retq hless.out ?_; intro q2)
                        exact ⟨⟨i', j + 1, rfl, by go_num, h1, h2, by omega, hdr.out _⟩, by simp [intOf] <;> omega⟩
                      · go_upto_region 23 with (go_at_call 191; refine Calls.retq hless.out ?_; intro q2)
                        have hsw2 := Lib.hid (hsw.out q2)
                        go_wp2_with (go_at_call 192; refine hsw2.out.mono ?_; rintro e w3 ⟨rfl, hI3⟩)
                        exact ⟨⟨p + 1, by go_num, by omega, by omega, hI3.1⟩, by simp [intOf] <;> omega⟩
                    · have hp1I : ¬ (p : Int) < (b : Int) := by omega
                      go_wp2_with fail
                      exact ⟨⟨i', j + 1, rfl, by go_num, h1, h2, by omega, hI⟩, by simp [intOf] <;> omega⟩
                | false =>
                  go_wp2_with fail
                  exact ⟨⟨i', j + 1, rfl, by go_num, h1, h2, by omega, hI⟩, by simp [intOf] <;> omega⟩
        · have e : i' = b := by omega
          subst e
          have hibI : ¬ (i' : Int) < (i' : Int) := by omega
          go_wp2_with fail
          go_ret
          exact ⟨⟨_, rfl⟩, hI⟩
    · have hj5I : ¬ (j : Int) < 5 := by omega
      go_wp2_with fail
      go_ret
      exact ⟨⟨_, rfl⟩, hI⟩
end
end Go.Proofs.YtiimddkopiknpaaGreatDoor
