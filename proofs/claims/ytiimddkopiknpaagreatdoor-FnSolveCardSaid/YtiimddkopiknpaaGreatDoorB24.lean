/-
  The statement's own functions, first part.
-/
import Derived.Test.YtiimddkopiknpaaGreatDoorB23
import Derived.Test.YtiimddkopiknpaaGreatDoorB08
set_option linter.unusedVariables false
set_option linter.unusedSimpArgs false

/-
  The statement's own functions: what came in, read; the guards.
-/
namespace Go.Proofs.YtiimddkopiknpaaGreatDoor
open Go.RowKit

/-- what was there is as it was -/
abbrev Old (w w' : World) : Prop := Fr (Own eR) w w'
theorem Old.refl (w : World) : Old w w := Fr.refl _ _
theorem Old.trans {w w1 w2 : World} (h : Old w w1) (h' : Old w1 w2) : Old w w2 := Fr.trans h h' fun _ _ hb => (eR_own hb).elim
theorem Old.alloc {w w' : World} (h : Old w w') (o : Obj) : Old w (w'.alloc o) := Fr.alloc h o
theorem Old.drewN {w w' : World} (h : Old w w') (n : Nat) : Old w (w'.drewN n) := ⟨h.os, h.tape, h.output, h.size, h.block⟩
theorem Old.drew {w w' : World} (h : Old w w') : Old w w'.drew := h.drewN 1
theorem cell_lt {w : World} {a : Addr} {v : Value} (h : w.cell? a = some v) : a.block < w.heap.size := by
  apply Classical.byContradiction
  intro hn
  have e : w.heap[a.block]? = none := Array.getElem?_eq_none (by omega)
  have e2 : w.cell? a = ({ w with heap := #[] } : World).cell? a := World.cell?_of_block (by rw [e]; rfl)
  rw [h] at e2
  unfold World.cell? at e2
  simp at e2
theorem Old.cell {w w' : World} (h : Old w w') {a : Addr} {v : Value} (hc : w.cell? a = some v) : w'.cell? a = some v := by
  rw [World.cell?_of_block (h.block _ (cell_lt hc) eR_own)]; exact hc
def IntsR (w : World) (A : Option Addr) (l : List Int) : Prop := ∀ j x, l[j]? = some x → ∃ a, A = some a ∧ w.cell? (a.add j) = some (.int .i64 x)
def CnfR (w : World) (A : Option Addr) (F : List (List Int)) : Prop := ∀ i l, F[i]? = some l → ∃ a B c, A = some a ∧ w.cell? (a.add i) = some (.slice B l.length c) ∧ l.length ≤ maxLen ∧ IntsR w B l
theorem IntsR.old {w w' : World} {A : Option Addr} {l : List Int} (h : IntsR w A l) (ho : Old w w') : IntsR w' A l := by
  intro j x hj
  obtain ⟨a, h1, h2⟩ := h j x hj
  exact ⟨a, h1, ho.cell h2⟩
theorem CnfR.old {w w' : World} {A : Option Addr} {F : List (List Int)} (h : CnfR w A F) (ho : Old w w') : CnfR w' A F := by
  intro i l hl
  obtain ⟨a, B, c, h1, h2, h3, h4⟩ := h i l hl
  exact ⟨a, B, c, h1, ho.cell h2, h3, h4.old ho⟩

/-- some answer, nothing else -/
def BRet (w : World) (e : Ending) (w' : World) : Prop := ∃ b, e = .returned (.bool b) ∧ w' = w
def IRet (w : World) (e : Ending) (w' : World) : Prop := ∃ x, e = .returned (.int .i64 x) ∧ w' = w

set_option maxRecDepth 100000 in
set_option maxHeartbeats 2000000 in
theorem zzFits_c {w : World} {A : Option Addr} {F : List (List Int)} {c : Nat} (h : CnfR w A F) (hn : F.length ≤ maxLen) :
    Calls Tryz.prog 4 #[.slice A F.length c] w (BRet w) := by
  have hn' : F.length ≤ 9223372036854775807 := hn
  obtain ⟨n, hne⟩ : ∃ n, n = F.length := ⟨_, rfl⟩
  rw [← hne] at hn' ⊢
  replace hne := Lib.hid hne
  replace h := Lib.hid h
  clear hn
  go_enter Tryz.func4, Tryz.ntmps4
  by_cases hb : (n : Int) ≤ 2147483647
  · go_wp2_with fail
    go_loopw [10] (fun v10 wr => ∃ i : Nat, v10 = .int .i64 (i : Int) ∧ i ≤ n ∧ wr = w) (fun v10 _ => n - (intOf v10).toNat)
    case atStart => exact ⟨0, rfl, Nat.zero_le _, rfl⟩
    case round =>
      obtain ⟨i, rfl, hi, rfl⟩ := hrel
      by_cases hlt : i < n
      · have hiI : (i : Int) < (n : Int) := by omega
        have hil : i < F.length := by have := hne.out; omega
        obtain ⟨a, B, c2, rfl, hc, hm, hq⟩ := h.out i _ (List.getElem?_eq_getElem hil)
        have hm' : (F[i]).length ≤ 9223372036854775807 := hm
        clear hq
        generalize (F[i]).length = m at hc hm hm'
        clear hil hm
        by_cases hm2 : (m : Int) ≤ 2147483647
        · go_wp2_with fail
          exact ⟨⟨i + 1, by go_num, by omega, trivial⟩, by simp [intOf]; omega⟩
        · go_wp2_with fail
          go_ret
          exact ⟨_, rfl, rfl⟩
      · have hiI : ¬ ((i : Int) < (n : Int)) := by omega
        go_wp2_with fail
        go_ret
        exact ⟨_, rfl, rfl⟩
  · go_wp2_with fail
    go_ret
    exact ⟨_, rfl, rfl⟩

set_option maxRecDepth 100000 in
set_option maxHeartbeats 2000000 in
theorem beyond_c {w : World} {b : Nat} {x : Int} (h : w.cell? ⟨b, 0, none⟩ = some (.int .i64 x)) :
    Calls Tryz.prog 5 #[.slice (some ⟨b, 0, none⟩) 1 1] w (BRet w) := by
  go_enter Tryz.func5, Tryz.ntmps5
  go_wp2_with fail
  go_loopw [7] (fun v7 wr => ∃ i : Nat, v7 = .int .i64 (i : Int) ∧ i ≤ 1 ∧ wr = w) (fun v7 _ => 1 - (intOf v7).toNat)
  case atStart => exact ⟨0, rfl, Nat.zero_le _, rfl⟩
  case round =>
    obtain ⟨i, rfl, hi, rfl⟩ := hrel
    by_cases hlt : i = 0
    · subst hlt
      by_cases hm2 : x ≤ 1048576
      · go_wp2_with fail
        exact ⟨⟨1, by go_num, by omega, trivial⟩, by simp [intOf]⟩
      · go_wp2_with fail
        go_ret
        exact ⟨_, rfl, rfl⟩
    · have : i = 1 := by omega
      subst this
      go_wp2_with fail
      go_ret
      exact ⟨_, rfl, rfl⟩
set_option maxRecDepth 100000 in
set_option maxHeartbeats 2000000 in
theorem sumInts_c {w : World} {A : Option Addr} {F : List (List Int)} {c : Nat} (h : CnfR w A F) (hn : F.length ≤ maxLen) :
    Calls Tryz.prog 6 #[.slice A F.length c] w (IRet w) := by
  have hn' : F.length ≤ 9223372036854775807 := hn
  obtain ⟨n, hne⟩ : ∃ n, n = F.length := ⟨_, rfl⟩
  rw [← hne] at hn' ⊢
  replace hne := Lib.hid hne
  replace h := Lib.hid h
  clear hn
  go_enter Tryz.func6, Tryz.ntmps6
  go_wp2_with fail
  go_loopw [3, 10] (fun v3 v10 wr => ∃ (i : Nat) (x : Int), v3 = .int .i64 x ∧ v10 = .int .i64 (i : Int) ∧ i ≤ n ∧ wr = w) (fun _ v10 _ => n - (intOf v10).toNat)
  case atStart => exact ⟨0, _, rfl, rfl, Nat.zero_le _, rfl⟩
  case round =>
    obtain ⟨i, x, rfl, rfl, hi, rfl⟩ := hrel
    by_cases hlt : i < n
    · have hiI : (i : Int) < (n : Int) := by omega
      have hil : i < F.length := by have := hne.out; omega
      obtain ⟨a, B, c2, rfl, hc, hm, hq⟩ := h.out i _ (List.getElem?_eq_getElem hil)
      clear hq
      generalize (F[i]).length = m at hc hm
      clear hil hm
      go_wp2_with fail
      exact ⟨⟨i + 1, _, rfl, by go_num, by omega, trivial⟩, by simp [intOf]; omega⟩
    · have hiI : ¬ ((i : Int) < (n : Int)) := by omega
      go_wp2_with fail
      go_ret
      exact ⟨_, rfl, rfl⟩
set_option maxRecDepth 100000 in
theorem Of_c (x : Int) (w : World) (hx : x.natAbs ≤ 1000000) : Calls Tryz.prog 20 #[.int .i64 x] w fun e w' => e = .returned (.int .i64 (x.natAbs : Int)) ∧ w' = w := by
  by_cases h0 : 0 ≤ x
  · obtain ⟨n, rfl⟩ : ∃ n : Nat, x = n := ⟨x.toNat, by omega⟩
    have hm : max (n : Int) (-(n : Int)) = n := by omega
    rw [Int.natAbs_natCast] at hx ⊢
    go_enter Tryz.func20, Tryz.ntmps20
    go_wp2_with fail
    go_ret
    exact ⟨rfl, rfl⟩
  · obtain ⟨n, rfl⟩ : ∃ n : Nat, x = -(n : Int) := ⟨(-x).toNat, by omega⟩
    have hm : max (-(n : Int)) (n : Int) = n := by omega
    have hn0 : 0 < n := by omega
    rw [Int.natAbs_neg, Int.natAbs_natCast] at hx ⊢
    go_enter Tryz.func20, Tryz.ntmps20
    go_wp2_with fail
    go_ret
    exact ⟨rfl, rfl⟩
end Go.Proofs.YtiimddkopiknpaaGreatDoor

/-
  LitsOk, CNFOk.
-/
namespace Go.Proofs.YtiimddkopiknpaaGreatDoor
open Go.RowKit

def lsR (g : Nat) (B : List Bool) : Unit → Row := fun _ => .one 47 9 g (B.map .bool)
def LitsOkP (l : List Int) : Prop := l ≠ [] ∧ (∀ x ∈ l, x ≠ 0 ∧ x.natAbs ≤ 8) ∧ (l.map Int.natAbs).Nodup
structure LsI (l : List Int) (i : Nat) (B : List Bool) : Prop where
  len : B.length = 9
  ok : ∀ x ∈ l.take i, x ≠ 0 ∧ x.natAbs ≤ 8
  nd : ((l.take i).map Int.natAbs).Nodup
  mem : ∀ v, v ≤ 8 → (B.getD v false = true ↔ v ∈ (l.take i).map Int.natAbs)
theorem LsI.start (l : List Int) : LsI l 0 (List.replicate 9 false) := by
  refine ⟨rfl, by simp, by simp, fun v hv => ?_⟩
  rw [List.getD_eq_getElem?_getD, List.getElem?_replicate, if_pos (by omega)]
  simp
theorem LsI.next {l : List Int} {i : Nat} {B : List Bool} (h : LsI l i B) (hi : i < l.length) (h0 : l[i] ≠ 0) (h8 : l[i].natAbs ≤ 8) (hB : B.getD l[i].natAbs false = false) : LsI l (i + 1) (B.set l[i].natAbs true) := by
  have ht := List.take_succ_eq_append_getElem hi
  refine ⟨by rw [List.length_set]; exact h.len, ?_, ?_, fun v hv => ?_⟩
  · intro x hx
    rw [ht] at hx
    rcases List.mem_append.1 hx with hx | hx
    · exact h.ok x hx
    · have : x = l[i] := by simpa using hx
      rw [this]; exact ⟨h0, h8⟩
  · rw [ht, List.map_append, List.nodup_append]
    refine ⟨h.nd, by simp, ?_⟩
    intro a ha b hb
    have hb : b = l[i].natAbs := by simpa using hb
    intro e
    rw [← h.mem a (by omega), e, hb, hB] at ha
    cases ha
  · rw [ht, List.map_append, List.mem_append, ← h.mem v hv, List.getD_eq_getElem?_getD, List.getElem?_set]
    by_cases e : l[i].natAbs = v
    · subst e
      rw [if_pos rfl, if_pos (by rw [h.len]; omega)]
      simp
    · rw [if_neg e, ← List.getD_eq_getElem?_getD]
      simp [Ne.symm e]
def LOPost (l : List Int) (w : World) (e : Ending) (w' : World) : Prop := ∃ b, e = .returned (.bool b) ∧ Old w w' ∧ (b = true → LitsOkP l)

set_option maxRecDepth 100000 in
set_option maxHeartbeats 4000000 in
theorem litsOk_c {w : World} {A : Option Addr} {l : List Int} {c : Nat} (h : IntsR w A l) (hn : l.length ≤ maxLen) :
    Calls Tryz.prog 12 #[.slice A l.length c] w (LOPost l w) := by
  have hn' : l.length ≤ 9223372036854775807 := hn
  obtain ⟨n, hne⟩ : ∃ n, n = l.length := ⟨_, rfl⟩
  rw [← hne] at hn' ⊢
  replace hne := Lib.hid hne
  replace h := Lib.hid h
  clear hn
  have hT0 : Tr eR w (lsR w.heap.size (List.replicate 9 false)) (w.alloc (.cells #[.bool false, .bool false, .bool false, .bool false, .bool false, .bool false, .bool false, .bool false, .bool false] 47)) := by
    refine ⟨⟨fun _ => own_box w 47 (List.replicate 9 (.bool false)), fun _ _ _ _ _ => rfl⟩, (Old.refl w).alloc _, ?_⟩
    rintro b ⟨_, hb⟩
    have hb : some w.heap.size = some b := hb
    injection hb with hb
    exact .inr (by omega)
  obtain ⟨g, hg⟩ : ∃ g, g = w.heap.size := ⟨_, rfl⟩
  obtain ⟨w1, hw1⟩ : ∃ w1, w1 = w.alloc (.cells #[.bool false, .bool false, .bool false, .bool false, .bool false, .bool false, .bool false, .bool false, .bool false] 47) := ⟨_, rfl⟩
  rw [← hg, ← hw1] at hT0
  replace hT0 := Lib.hid hT0
  go_enter Tryz.func12, Tryz.ntmps12
  go_upto_region 2 with fail
  rw [← hw1, ← hg]
  clear hw1 hg
  go_wp2_with fail
  go_loopw [9] (fun v9 wr => ∃ (i : Nat) (B : List Bool), v9 = .int .i64 (i : Int) ∧ i ≤ n ∧ LsI l i B ∧ Tr eR w (lsR g B) wr) (fun v9 _ => n - (intOf v9).toNat)
  case atStart => exact ⟨0, _, rfl, Nat.zero_le _, LsI.start l, hT0.out⟩
  case round =>
    clear hT0
    obtain ⟨i, B, rfl, hi, hI, hT⟩ := hrel
    have hfalse : ∀ w', Old w w' → LOPost l w (.returned (.bool false)) w' := fun w' ho => ⟨false, rfl, ho, fun h => by cases h⟩
    by_cases hlt : i < n
    · have hiI : (i : Int) < (n : Int) := by omega
      have hil : i < l.length := by have := hne.out; omega
      obtain ⟨a, rfl, hc⟩ := h.out i _ (List.getElem?_eq_getElem hil)
      have hc := Old.cell hT.fr hc
      have hnx := fun h0 h8 hB => hI.next hil h0 h8 hB
      obtain ⟨x, hx⟩ : ∃ x, x = l[i] := ⟨_, rfl⟩
      rw [← hx] at hc hnx
      replace hx := Lib.hid hx
      have hff := hfalse wr hT.fr
      replace hff := Lib.hid hff
      by_cases h0 : x = 0
      · have h0b : (x == 0) = true := by simp [h0]
        replace hI := Lib.hid hI
        replace hT := Lib.hid hT
        clear hnx hfalse
        subst h0
        go_wp2_with fail
        go_ret
        exact hff.out
      · have h0b : (x == 0) = false := by simp [h0]
        by_cases h8 : x ≤ 8
        · by_cases h9 : -8 ≤ x
          · have hO := fun w => Of_c x w (by omega)
            have hv8 : x.natAbs ≤ 8 := by omega
            have hBl := hI.len
            have hcB := hT.rows.cell () (b := g) rfl (getElem?_map_getD .bool B false x.natAbs (by omega))
            have hcf := hT.rows.frozen () (b := g) rfl x.natAbs
            have hT2 := hT.trans (hT.rows.set (ρ' := lsR g (B.set x.natAbs true)) () rfl x.natAbs (.bool true) (by show (⟨_, _, _, _, _⟩ : Row) = ⟨_, _, _, _, _⟩; simp [lsR, Row.one, List.map_set]) (fun r hr => (hr rfl).elim))
            obtain ⟨v, hv⟩ : ∃ v, v = x.natAbs := ⟨_, rfl⟩
            rw [← hv] at hO hv8 hcB hcf hT2 hnx
            obtain ⟨bb, hbb⟩ : ∃ bb, bb = B.getD v false := ⟨_, rfl⟩
            rw [← hbb] at hcB hnx
            have hnx := fun hb => hnx h0 hv8 hb
            replace hI := Lib.hid hI
            replace hT := Lib.hid hT
            replace hv := Lib.hid hv
            replace hbb := Lib.hid hbb
            replace hT2 := Lib.hid hT2
            clear hfalse
            cases bb
            · have hnx9 := Lib.hid (hnx rfl)
              clear hnx
              go_wp2_with (go_at_call 20; refine Calls.ret (hO _) ?_)
              exact ⟨⟨i + 1, _, by go_num, by omega, hnx9.out, hT2.out⟩, by simp [intOf]; omega⟩
            · clear hnx
              go_wp2_with (go_at_call 20; refine Calls.ret (hO _) ?_)
              go_ret
              exact hff.out
          · replace hI := Lib.hid hI
            replace hT := Lib.hid hT
            clear hnx hfalse
            go_wp2_with fail
            go_ret
            exact hff.out
        · replace hI := Lib.hid hI
          replace hT := Lib.hid hT
          clear hnx hfalse
          go_wp2_with fail
          go_ret
          exact hff.out
    · have hiI : ¬ ((i : Int) < (n : Int)) := by omega
      have e : i = l.length := by have := hne.out; omega
      have hok := hI.ok
      have hnd := hI.nd
      rw [e, List.take_length] at hok hnd
      have hfin : LOPost l w (.returned (.bool (decide (0 < n)))) wr := ⟨_, rfl, hT.fr, fun hz => ⟨fun h => by rw [h] at e; have := of_decide_eq_true hz; simp at e; omega, hok, hnd⟩⟩
      replace hfin := Lib.hid hfin
      replace hI := Lib.hid hI
      replace hT := Lib.hid hT
      clear hfalse hok hnd e
      go_wp2_with fail
      go_ret
      exact hfin.out

def CnfOkP (F : List (List Int)) : Prop := (∀ l ∈ F, LitsOkP l) ∧ 0 < F.length ∧ F.length ≤ 20
def COPost (F : List (List Int)) (w : World) (e : Ending) (w' : World) : Prop := ∃ b, e = .returned (.bool b) ∧ Old w w' ∧ (b = true → CnfOkP F)
set_option maxRecDepth 100000 in
set_option maxHeartbeats 4000000 in
theorem cnfOk_c {w : World} {A : Option Addr} {F : List (List Int)} {c : Nat} (h : CnfR w A F) (hn : F.length ≤ maxLen) :
    Calls Tryz.prog 7 #[.slice A F.length c] w (COPost F w) := by
  have hn' : F.length ≤ 9223372036854775807 := hn
  obtain ⟨n, hne⟩ : ∃ n, n = F.length := ⟨_, rfl⟩
  rw [← hne] at hn' ⊢
  replace hne := Lib.hid hne
  replace h := Lib.hid h
  clear hn
  go_enter Tryz.func7, Tryz.ntmps7
  go_wp2_with fail
  go_loopw [7] (fun v7 wr => ∃ i : Nat, v7 = .int .i64 (i : Int) ∧ i ≤ n ∧ (∀ l ∈ F.take i, LitsOkP l) ∧ Old w wr) (fun v7 _ => n - (intOf v7).toNat)
  case atStart => exact ⟨0, rfl, Nat.zero_le _, by simp, Old.refl w⟩
  case round =>
    obtain ⟨i, rfl, hi, hok, ho⟩ := hrel
    by_cases hlt : i < n
    · have hiI : (i : Int) < (n : Int) := by omega
      have hil : i < F.length := by have := hne.out; omega
      obtain ⟨a, B, c2, rfl, hc, hm, hq⟩ := h.out i _ (List.getElem?_eq_getElem hil)
      have hc := ho.cell hc
      have hL := litsOk_c (c := c2) (hq.old ho) hm
      have hnx : LitsOkP F[i] → ∀ l ∈ F.take (i + 1), LitsOkP l := by
        intro h1 l hl
        rw [List.take_succ_eq_append_getElem hil] at hl
        rcases List.mem_append.1 hl with hl | hl
        · exact hok l hl
        · have : l = F[i] := by simpa using hl
          rw [this]; exact h1
      clear hm hq
      generalize hFi : F[i] = l at hc hL hnx
      replace hFi := Lib.hid hFi
      replace hL := Lib.hid hL
      replace hnx := Lib.hid hnx
      replace ho := Lib.hid ho
      replace hok := Lib.hid hok
      go_wp2_with (go_at_call 12; refine hL.out.mono ?_; rintro e w2 ⟨b, rfl, h1, h2⟩; replace h1 := Lib.hid h1; replace h2 := Lib.hid h2; cases b)
      · have hfin : COPost F w (.returned (.bool false)) w2 := ⟨false, rfl, ho.out.trans h1.out, fun h => by cases h⟩
        replace hfin := Lib.hid hfin
        go_ret
        exact hfin.out
      · exact ⟨⟨i + 1, by go_num, by omega, hnx.out (h2.out (by trivial)), ho.out.trans h1.out⟩, by simp [intOf]; omega⟩
    · have hiI : ¬ ((i : Int) < (n : Int)) := by omega
      have e : i = F.length := by have := hne.out; omega
      rw [e, List.take_length] at hok
      have hfin : ∀ b, (b = true → 0 < n ∧ n ≤ 20) → COPost F w (.returned (.bool b)) wr := fun b hb => ⟨b, rfl, ho, fun hz => ⟨hok, by have := hb hz; have := hne.out; omega, by have := hb hz; have := hne.out; omega⟩⟩
      replace hfin := Lib.hid hfin
      replace ho := Lib.hid ho
      replace hok := Lib.hid hok
      clear e
      by_cases h0 : (0 : Int) < (n : Int)
      · by_cases h20 : (n : Int) ≤ 20
        · go_wp2_with fail
          go_ret
          exact hfin.out _ fun _ => ⟨by omega, by omega⟩
        · go_wp2_with fail
          go_ret
          exact hfin.out _ fun h => by simp at h
      · go_wp2_with fail
        go_ret
        exact hfin.out _ fun h => by simp at h
end Go.Proofs.YtiimddkopiknpaaGreatDoor

/-
  copied; Learned.
-/
namespace Go.Proofs.YtiimddkopiknpaaGreatDoor
open Go.RowKit

theorem infoSl : (Tryz.prog.info? 34).map (fun i => (i.zero, i.size, i.bytes)) = some (some (.slice none 0 0), 1, 24) := by kernel_rfl
/-- a list of slices, and each of them -/
def cpX (V : Value) (i : Nat) (G : Nat → Row) : Option Nat → Row
  | none => ⟨34, 1, V, i, (List.range i).map fun j => (G j).v⟩
  | some j => G j
def intRow (V : Value) (l : List Int) : Row := ⟨3, 1, V, l.length, l.map i64⟩
structure CpS (F : List (List Int)) (i : Nat) (V : Value) (G : Nat → Row) (w0 w : World) : Prop where
  tr : Tr eR w0 (cpX V i G) w
  done : ∀ j, j < i → ∃ v, G j = intRow v (F.getD j [])
  rest : ∀ j, i ≤ j → G j = .nil 3 1
theorem CpS.start (F : List (List Int)) (w : World) : CpS F 0 (.slice none 0 0) (fun _ => .nil 3 1) w w := by
  refine ⟨⟨⟨fun r => ?_, ?_⟩, Fr.refl _ _, ?_⟩, fun j hj => by omega, fun j _ => rfl⟩
  · cases r <;> exact World.ownsRow_nil _ _ _ _
  · intro r r' b h1 _
    cases r <;> cases h1
  · rintro b ⟨r, hr⟩
    cases r <;> cases hr
/-- a slice more is made, and is to be filled -/
def putG (G : Nat → Row) (i : Nat) (R : Row) : Nat → Row := fun j => if j = i then R else G j
theorem cpX_put (V : Value) (i : Nat) (G : Nat → Row) (R : Row) : cpX V i (putG G i R) none = cpX V i G none := by
  show (⟨_, _, _, _, _⟩ : Row) = ⟨_, _, _, _, _⟩
  congr 1
  apply List.map_congr_left
  intro j hj
  rw [List.mem_range] at hj
  unfold putG
  rw [if_neg (by omega)]
theorem CpS.make {F : List (List Int)} {i : Nat} {V : Value} {G : Nat → Row} {w0 w : World} (h : CpS F i V G w0 w) :
    Tr eR w0 (cpX V i (putG G i ⟨3, 1, .slice (some ⟨w.heap.size, 0, none⟩) 0 0, 0, []⟩)) (w.alloc (.cells #[] 3)) := by
  refine h.tr.trans (h.tr.rows.make (some i) _ (v' := .slice (some ⟨w.heap.size, 0, none⟩) 0 0) ?_ rfl ?_ ?_)
  · show World.ownsRow _ 0 (putG G i _ i).e (putG G i _ i).k _ (putG G i _ i).n (putG G i _ i).xs
    unfold putG
    rw [if_pos rfl]
    exact own_new w 3 1 0 [] (Nat.zero_le _) rfl
  · show (putG G i _ i).v = _
    unfold putG
    rw [if_pos rfl]
  · intro r hr
    cases r with
    | none => exact cpX_put _ _ _ _
    | some j =>
      have hj : j ≠ i := fun e => hr (by rw [e])
      show putG G i _ j = G j
      unfold putG
      rw [if_neg hj]
theorem cp_fill {i : Nat} {V V' : Value} {G : Nat → Row} {l : List Int} {R : Row} {w0 w w' : World} (h : Tr eR w0 (cpX V i (putG G i R)) w) (hR : R.e = 3 ∧ R.k = 1) (ho : w'.ownsRow 0 3 1 V' l.length (l.map i64)) (hg : w.grownBy w' R.v.ownBlock)
    (hf : V'.ownBlock = R.v.ownBlock ∨ ∃ b, V'.ownBlock = some b ∧ w.heap.size ≤ b) : Tr eR w0 (cpX V i (putG G i (intRow V' l))) w' := by
  have hri : cpX V i (putG G i R) (some i) = R := by show putG G i R i = R; unfold putG; rw [if_pos rfl]
  refine h.trans (h.rows.grow (some i) (v' := V') (n' := l.length) (xs' := l.map i64) (by rw [hri, hR.1, hR.2]; exact ho) (by rw [hri]; exact hg) (by rw [hri]; exact hf) ?_ ?_)
  · rw [hri]
    show putG G i (intRow V' l) i = _
    unfold putG
    rw [if_pos rfl]
    obtain ⟨e1, e2⟩ := hR
    show intRow V' l = ⟨R.e, R.k, V', l.length, l.map i64⟩
    rw [e1, e2]; rfl
  · intro r hr
    cases r with
    | none => rw [cpX_put, cpX_put]
    | some j =>
      have hj : j ≠ i := fun e => hr (by rw [e])
      show putG G i _ j = putG G i _ j
      unfold putG
      rw [if_neg hj, if_neg hj]
theorem CpS.next {F : List (List Int)} {i : Nat} {V V' V2 : Value} {G : Nat → Row} {l : List Int} {w0 w w1 w2 : World} (h : CpS F i V G w0 w) (hl : F.getD i [] = l) (t : Tr eR w0 (cpX V i (putG G i (intRow V' l))) w1)
    (ho : w2.ownsRow 0 34 1 V2 (i + 1) (((List.range i).map fun j => (putG G i (intRow V' l) j).v) ++ [V'])) (hg : w1.grownBy w2 V.ownBlock) (hf : V2.ownBlock = V.ownBlock ∨ ∃ b, V2.ownBlock = some b ∧ w1.heap.size ≤ b) :
    CpS F (i + 1) V2 (putG G i (intRow V' l)) w0 w2 := by
  refine ⟨t.trans (t.rows.grow none ho hg hf ?_ ?_), ?_, ?_⟩
  · show (⟨_, _, _, _, _⟩ : Row) = ⟨_, _, _, _, _⟩
    congr 1
    rw [List.range_succ, List.map_append]
    congr 1
    show [(putG G i (intRow V' l) i).v] = [V']
    unfold putG
    rw [if_pos rfl]; rfl
  · intro r hr
    cases r with
    | none => exact (hr rfl).elim
    | some j => rfl
  · intro j hj
    unfold putG
    by_cases e : j = i
    · subst e; rw [if_pos rfl]; exact ⟨V', by rw [hl]⟩
    · rw [if_neg e]; exact h.done j (by omega)
  · intro j hj
    unfold putG
    rw [if_neg (by omega)]; exact h.rest j (by omega)
theorem CpS.fin {F : List (List Int)} {V : Value} {G : Nat → Row} {w0 w : World} (h : CpS F F.length V G w0 w) (hF : 0 < F.length) (hne : ∀ l ∈ F, l ≠ []) : ∃ g ca, V = .slice (some ⟨g, 0, none⟩) F.length ca ∧ CnfAt w g w.heap.size F := by
  obtain ⟨g, ca, h1, h2, h3, h4⟩ := h.tr.rows.open none hF
  refine ⟨g, ca, h1, h.tr.rows.lt ⟨none, h2⟩, fun i l hl => ?_⟩
  have hi : i < F.length := (List.getElem?_eq_some_iff.1 hl).1
  have hl2 : F.getD i [] = l := by rw [List.getD_eq_getElem?_getD, hl]; rfl
  obtain ⟨v, hv⟩ := h.done i hi
  rw [hl2] at hv
  have hv2 : cpX V F.length G (some i) = intRow v l := hv
  have hpos : 0 < (cpX V F.length G (some i)).n := by
    rw [hv2]; show 0 < l.length
    exact List.length_pos_iff.2 (hne l (List.mem_of_getElem? hl))
  obtain ⟨gi, ci, g1, g2, g3, g4⟩ := h.tr.rows.open (some i) hpos
  rw [hv2] at g1
  have g1 : v = .slice (some ⟨gi, 0, none⟩) l.length ci := g1
  refine ⟨gi, ci, h.tr.rows.lt ⟨some i, g2⟩, ?_, fun j x hj => ?_⟩
  · rw [← g1]
    have hGv : (G i).v = v := by rw [hv]; rfl
    rw [← hGv]
    exact h.tr.rows.cell none h2 (by
      show ((List.range F.length).map fun j => (G j).v)[i]? = _
      simp [hi])
  · refine h.tr.rows.cell (some i) g2 ?_
    rw [hv2]
    show (l.map i64)[j]? = _
    rw [List.getElem?_map, hj]; rfl
theorem CnfAt.base {w : World} {g b b' : Nat} {F : List (List Int)} (h : CnfAt w g b F) (hb : b ≤ b') : CnfAt w g b' F :=
  ⟨Nat.lt_of_lt_of_le h.gb hb, fun i l hl => by
    obtain ⟨gi, ci, h1, h2, h3⟩ := h.at_ i l hl
    exact ⟨gi, ci, by omega, h2, h3⟩⟩
theorem CnfAt.old {w w' : World} {g b : Nat} {F : List (List Int)} (h : CnfAt w g b F) (ho : Old w w') : CnfAt w' g b F :=
  ⟨h.gb, fun i l hl => by
    obtain ⟨gi, ci, h1, h2, h3⟩ := h.at_ i l hl
    exact ⟨gi, ci, h1, ho.cell h2, fun j x hj => ho.cell (h3 j x hj)⟩⟩

def CpPost (F : List (List Int)) (w0 : World) (e : Ending) (w : World) : Prop := ∃ g ca, e = .returned (.slice (some ⟨g, 0, none⟩) F.length ca) ∧ CnfAt w g w.heap.size F ∧ Old w0 w

set_option maxRecDepth 100000 in
set_option maxHeartbeats 4000000 in
theorem copied_c {w : World} {A : Option Addr} {F : List (List Int)} {c : Nat} (h : CnfR w A F) (hF : 0 < F.length) (hn : F.length ≤ 1000) (hne : ∀ l ∈ F, l ≠ [] ∧ l.length ≤ 1000) :
    Calls Tryz.prog 17 #[.slice A F.length c] w (CpPost F w) := by
  obtain ⟨iN, hiN, hz0, hz1, hz2⟩ := info_parts infoInt
  obtain ⟨iS, hiS, hs0, hs1, hs2⟩ := info_parts infoSl
  obtain ⟨n, hnn⟩ : ∃ n, n = F.length := ⟨_, rfl⟩
  rw [← hnn] at hn ⊢
  replace hnn := Lib.hid hnn
  replace h := Lib.hid h
  replace hne := Lib.hid hne
  go_enter Tryz.func17, Tryz.ntmps17
  go_wp2_with fail
  go_loopw [3, 8] (fun v3 v8 wr => ∃ (i : Nat) (G : Nat → Row), v8 = .int .i64 (i : Int) ∧ i ≤ n ∧ CpS F i v3 G w wr) (fun _ v8 _ => n - (intOf v8).toNat)
  case atStart => exact ⟨0, _, rfl, Nat.zero_le _, CpS.start F w⟩
  case round =>
    obtain ⟨i, G, rfl, hi, hS⟩ := hrel
    by_cases hlt : i < n
    · have hiI : (i : Int) < (n : Int) := by omega
      have hil : i < F.length := by have := hnn.out; omega
      obtain ⟨a, B, c2, rfl, hc, _, hq⟩ := h.out i _ (List.getElem?_eq_getElem hil)
      have hc := Old.cell hS.tr.fr hc
      have hq := hq.old hS.tr.fr
      have hl9 := hne.out F[i] (List.getElem_mem hil)
      have hgd : F.getD i [] = F[i] := by rw [List.getD_eq_getElem?_getD, List.getElem?_eq_getElem hil]; rfl
      generalize F[i] = l at hc hq hl9 hgd
      obtain ⟨ad, hBa⟩ : ∃ ad, B = some ad := by
        obtain ⟨ad, h1, _⟩ := hq 0 (l[0]'(List.length_pos_iff.2 hl9.1)) (List.getElem?_eq_getElem _)
        exact ⟨ad, h1⟩
      subst hBa
      have hnews : ∀ j u, (l.map i64)[j]? = some u → (wr.alloc (.cells #[] 3)).cell? (ad.add j) = some u := by
        intro j u hj
        rw [List.getElem?_map] at hj
        cases hx : l[j]? with
        | none => rw [hx] at hj; cases hj
        | some x =>
          rw [hx] at hj
          obtain ⟨ad', h1, h2⟩ := hq j x hx
          cases h1
          cases hj
          exact ((Old.refl wr).alloc (.cells #[] 3)).cell h2
      have hM := hS.make
      have hl10 := hl9.2
      replace hl9 := Lib.hid hl9
      replace hgd := Lib.hid hgd
      replace hM := Lib.hid hM
      replace hS := Lib.hid hS
      replace hnews := Lib.hid hnews
      clear hq
      obtain ⟨m, hm⟩ : ∃ m, m = l.length := ⟨_, rfl⟩
      rw [← hm] at hc hl10
      replace hm := Lib.hid hm
      go_wp2_with (at_builtin; apply keepHid)
      refine Lib.hid ?_
      refine wpList_append_rows rfl _ _ 34 rfl 3 iN (.int .i64 0) 1 8 Tryz.underlying34 hiN hz0 hz1 hz2 rfl (by decide) (.slice (some ⟨wr.heap.size, 0, none⟩) 0 0) 0 [] rfl (own_new wr 3 1 0 [] (Nat.zero_le _) rfl) ad m c2 (l.map i64) rfl (by rw [List.length_map, hm.out, Nat.mul_one]) hnews.out (by intro u hu; obtain ⟨y, _, rfl⟩ := List.mem_map.1 hu; rfl) (by unfold maxLen; omega) (by omega) ?_
      intro V' w4 ho hg hf
      have ho : w4.ownsRow 0 3 1 V' l.length (l.map i64) := by
        rw [Nat.zero_add, List.nil_append, hm.out] at ho; exact ho
      have hT2 := cp_fill hM.out ⟨rfl, rfl⟩ ho hg hf
      obtain ⟨g4, cap4, rfl, _, _⟩ := own_form ho (List.length_pos_iff.2 hl9.out.1)
      rw [← hm.out] at hT2 ⊢
      clear ho hg hf
      replace hT2 := Lib.hid hT2
      go_wp2_with (at_builtin; apply keepHid)
      refine Lib.hid ?_
      refine wpList_append_rows rfl _ _ 22 rfl 34 iS (.slice none 0 0) 1 24 Tryz.underlying22 hiS hs0 hs1 hs2 rfl (by decide) _ i _ rfl ((hT2.out.alloc _).rows.own none) ⟨w4.heap.size, 0, none⟩ 1 1 [.slice (some ⟨g4, 0, none⟩) m cap4] rfl rfl (cell_new_one1 _ _ _ _ rfl) (by simp [Value.oneCell']) (by unfold maxLen; omega) (by omega) ?_
      intro V2 w5 ho hg hf
      have hN := hS.out.next hgd.out (hT2.out.alloc _) ho hg hf
      obtain ⟨g5, cap5, rfl, _, _⟩ := own_form ho (by omega)
      clear ho hg hf
      replace hN := Lib.hid hN
      go_wp2_with fail
      exact ⟨⟨i + 1, _, by go_num, by omega, hN.out⟩, by simp [intOf]; omega⟩
    · have hiI : ¬ ((i : Int) < (n : Int)) := by omega
      have e : i = F.length := by have := hnn.out; omega
      rw [e] at hS
      obtain ⟨g, ca, hV, hA⟩ := hS.fin hF (fun l hl => (hne.out l hl).1)
      have hfin : CpPost F w (.returned (.slice (some ⟨g, 0, none⟩) F.length ca)) wr := ⟨g, ca, rfl, hA, hS.tr.fr⟩
      rw [← hV] at hfin
      replace hfin := Lib.hid hfin
      replace hS := Lib.hid hS
      clear hV hA e
      go_wp2_with fail
      go_ret
      exact hfin.out
end Go.Proofs.YtiimddkopiknpaaGreatDoor

/-
  Values; Clauses.
-/
namespace Go.Proofs.YtiimddkopiknpaaGreatDoor
open Go.RowKit

theorem infoBoolS : (Tryz.prog.info? 4).map (fun i => (i.zero, i.size, i.bytes)) = some (some (.bool false), 1, 1) := by kernel_rfl
theorem infoCst : (Tryz.prog.info? 46).map (fun i => (i.zero, i.size, i.bytes)) = some (some (.agg #[.slice none 0 0, .slice none 0 0, .int .i64 0]), 3, 56) := by kernel_rfl
def bsR (V : Value) (bs : List Bool) : Unit → Row := fun _ => ⟨4, 1, V, bs.length, bs.map .bool⟩
theorem fresh_any (w : World) (T : TypeId) (k : Nat) : Tr eR w (fun _ : Unit => (⟨T, k, .slice (some ⟨w.heap.size, 0, none⟩) 0 0, 0, []⟩ : Row)) (w.alloc (.cells #[] T)) := by
  refine ⟨⟨fun _ => own_new w T k 0 [] (Nat.zero_le _) (by simp), fun _ _ _ _ _ => rfl⟩, (Old.refl w).alloc _, ?_⟩
  rintro b ⟨_, hb⟩
  have hb : some w.heap.size = some b := hb
  injection hb with hb
  exact .inr (by omega)
def VPost (n : Nat) (w0 : World) (e : Ending) (w : World) : Prop := ∃ V bs, e = .returned V ∧ bs.length = n ∧ Tr eR w0 (bsR V bs) w
set_option maxRecDepth 100000 in
set_option maxHeartbeats 4000000 in
theorem values_c (a n : Nat) (w : World) (ha : a ≤ 1000) (hn : 0 < n) (hn1 : n ≤ 60) : Calls Tryz.prog 34 #[.int .i64 (a : Int), .int .i64 (n : Int)] w (VPost n w) := by
  obtain ⟨iN, hiN, hz0, hz1, hz2⟩ := info_parts infoBoolS
  have hT0 : Tr eR w (bsR (.slice (some ⟨w.heap.size, 0, none⟩) 0 0) []) (w.alloc (.cells #[] 4)) := fresh_any w 4 1
  replace hT0 := Lib.hid hT0
  go_enter Tryz.func34, Tryz.ntmps34
  go_wp2_with fail
  go_loopw [5, 9] (fun v5 v9 wr => ∃ (i : Nat) (bs : List Bool), v9 = .int .i64 (i : Int) ∧ i ≤ n ∧ bs.length = i ∧ Tr eR w (bsR v5 bs) wr) (fun _ v9 _ => n - (intOf v9).toNat)
  case atStart => exact ⟨0, [], rfl, Nat.zero_le _, rfl, hT0.out⟩
  case round =>
    clear hT0
    obtain ⟨i, bs, rfl, hi, hb, hT⟩ := hrel
    by_cases hlt : i < n
    · have hiI : (i : Int) < (n : Int) := by omega
      have hi0 : (0 : Int) ≤ (i : Int) := by omega
      replace hT := Lib.hid hT
      replace hb := Lib.hid hb
      go_wp2_with (at_builtin; apply keepHid)
      refine Lib.hid ?_
      have hb8 : bs.length ≤ 60 := by have := hb.out; omega
      refine wpList_append_rows rfl _ _ 27 rfl 4 iN (.bool false) 1 1 Tryz.underlying27 hiN hz0 hz1 hz2 rfl (by decide) _ bs.length (bs.map .bool) rfl ((hT.out.alloc _).rows.own ()) ⟨wr.heap.size, 0, none⟩ 1 1 [.bool (bits .and .i64 ((a : Int) / 2 ^ i) 1 == 1)] rfl rfl (cell_new_one1 _ _ _ _ rfl) (by simp [Value.oneCell']) (by unfold maxLen; omega) (by omega) ?_
      intro V' w4 ho hg hf
      generalize (bits .and .i64 ((a : Int) / 2 ^ i) 1 == 1) = bb at *
      have hT2 := (hT.out.alloc (.cells #[.bool bb] 4)).trans ((hT.out.alloc (.cells #[.bool bb] 4)).rows.grow (ρ' := bsR V' (bs ++ [bb])) () ho hg hf (by
        show (⟨_, _, _, _, _⟩ : Row) = ⟨_, _, _, _, _⟩
        simp [bsR]) (fun r hr => (hr rfl).elim))
      obtain ⟨g4, cap4, rfl, _, _⟩ := own_form ho (by omega)
      clear ho hg hf
      replace hT2 := Lib.hid hT2
      go_wp2_with fail
      exact ⟨⟨i + 1, bs ++ [bb], by go_num, by omega, by simp [hb.out], hT2.out⟩, by simp [intOf]; omega⟩
    · have hiI : ¬ ((i : Int) < (n : Int)) := by omega
      have e : i = n := by omega
      obtain ⟨g, cap, h1, h2, _, _⟩ := hT.rows.open () (by show 0 < bs.length; omega)
      have h1 : u5 = .slice (some ⟨g, 0, none⟩) bs.length cap := h1
      have hfin : VPost n w (.returned u5) wr := ⟨u5, bs, rfl, by omega, hT⟩
      replace hfin := Lib.hid hfin
      replace hT := Lib.hid hT
      clear h1 h2 hb e
      go_wp2_with fail
      go_ret
      exact hfin.out

/-- constraints that are clauses, to be read -/
def CstR (w : World) (g : Nat) (F : List (List Int)) : Prop := ∀ i l, F[i]? = some l → ∃ B c, w.cell? ⟨g, i * 3, none⟩ = some (.slice B l.length c) ∧ w.cell? ⟨g, i * 3 + 1, none⟩ = some (.slice none 0 0) ∧ w.cell? ⟨g, i * 3 + 2, none⟩ = some (.int .i64 1) ∧ l.length ≤ maxLen ∧ IntsR w B l
theorem CstR.old {w w' : World} {g : Nat} {F : List (List Int)} (h : CstR w g F) (ho : Old w w') : CstR w' g F := by
  intro i l hl
  obtain ⟨B, c, h2, h3, h4, h5, h6⟩ := h i l hl
  exact ⟨B, c, ho.cell h2, ho.cell h3, ho.cell h4, h5, h6.old ho⟩
def fl3 (H : Nat → Value) : Nat → List Value
  | 0 => []
  | i + 1 => fl3 H i ++ [H i, .slice none 0 0, .int .i64 1]
theorem fl3_len (H : Nat → Value) (i : Nat) : (fl3 H i).length = i * 3 := by
  induction i with
  | zero => rfl
  | succ i ih => rw [fl3, List.length_append, ih]; simp; omega
theorem fl3_get (H : Nat → Value) (n i : Nat) (hi : i < n) : (fl3 H n)[i * 3]? = some (H i) ∧ (fl3 H n)[i * 3 + 1]? = some (.slice none 0 0) ∧ (fl3 H n)[i * 3 + 2]? = some (.int .i64 1) := by
  induction n with
  | zero => omega
  | succ n ih =>
    have hl := fl3_len H n
    by_cases e : i = n
    · subst e
      rw [fl3, List.getElem?_append_right (by omega), List.getElem?_append_right (by omega), List.getElem?_append_right (by omega), hl]
      rw [show i * 3 - i * 3 = 0 by omega, show i * 3 + 1 - i * 3 = 1 by omega, show i * 3 + 2 - i * 3 = 2 by omega]
      exact ⟨rfl, rfl, rfl⟩
    · rw [fl3, List.getElem?_append_left (by omega), List.getElem?_append_left (by omega), List.getElem?_append_left (by omega)]
      exact ih (by omega)
def clR (H : Nat → Value) (V : Value) (i : Nat) : Unit → Row := fun _ => ⟨46, 3, V, i, fl3 H i⟩
def ClPost (F : List (List Int)) (w0 : World) (e : Ending) (w : World) : Prop := ∃ g c, e = .returned (.slice (some ⟨g, 0, none⟩) F.length c) ∧ CstR w g F ∧ Old w0 w
theorem cell_new_three (w : World) (x y z : Value) (T : TypeId) : ∀ j u, [x, y, z][j]? = some u → (w.alloc (.cells #[x, y, z] T)).cell? ((⟨w.heap.size, 0, none⟩ : Addr).add j) = some u := by
  intro j u hu
  have hj : j < 3 := by
    have := (List.getElem?_eq_some_iff.1 hu).1
    simpa using this
  rw [Addr.add_lit, Nat.zero_add, World.cell?_alloc_at (w := w) _ _ _ j rfl]
  rw [← hu]
  have : j = 0 ∨ j = 1 ∨ j = 2 := by omega
  rcases this with rfl | rfl | rfl <;> rfl

set_option maxRecDepth 100000 in
set_option maxHeartbeats 4000000 in
theorem clauses_c {w : World} {A : Option Addr} {F : List (List Int)} {c : Nat} (h : CnfR w A F) (hn : F.length ≤ 1000) (hF : 0 < F.length) :
    Calls Tryz.prog 11 #[.slice A F.length c] w (ClPost F w) := by
  obtain ⟨iN, hiN, hz0, hz1, hz2⟩ := info_parts infoCst
  obtain ⟨n, hnn⟩ : ∃ n, n = F.length := ⟨_, rfl⟩
  rw [← hnn] at hn ⊢
  obtain ⟨a, hAa⟩ : ∃ a, A = some a := by
    obtain ⟨a, B, c, h1, _⟩ := h 0 _ (List.getElem?_eq_getElem hF)
    exact ⟨a, h1⟩
  subst hAa
  obtain ⟨H, hH⟩ : ∃ H : Nat → Value, H = fun j => (w.cell? (a.add j)).getD undef := ⟨_, rfl⟩
  have hcell : ∀ i, i < n → ∃ B c, w.cell? (a.add i) = some (.slice B (F.getD i []).length c) ∧ H i = .slice B (F.getD i []).length c ∧ (F.getD i []).length ≤ maxLen ∧ IntsR w B (F.getD i []) := by
    intro i hi
    have hil : i < F.length := by omega
    have hg : F.getD i [] = F[i] := by rw [List.getD_eq_getElem?_getD, List.getElem?_eq_getElem hil]; rfl
    obtain ⟨a', B, c, h1, h2, h3, h4⟩ := h i _ (List.getElem?_eq_getElem hil)
    cases h1
    rw [hg]
    exact ⟨B, c, h2, by rw [hH]; show (w.cell? (a.add i)).getD undef = _; rw [h2]; rfl, h3, h4⟩
  have hT0 : Tr eR w (clR H (.slice (some ⟨w.heap.size, 0, none⟩) 0 0) 0) (w.alloc (.cells #[] 46)) := fresh_any w 46 3
  replace hT0 := Lib.hid hT0
  replace hnn := Lib.hid hnn
  replace hcell := Lib.hid hcell
  clear h hH
  go_enter Tryz.func11, Tryz.ntmps11
  go_wp2_with fail
  go_loopw [3, 9] (fun v3 v9 wr => ∃ (i : Nat), v9 = .int .i64 (i : Int) ∧ i ≤ n ∧ Tr eR w (clR H v3 i) wr) (fun _ v9 _ => n - (intOf v9).toNat)
  case atStart => exact ⟨0, rfl, Nat.zero_le _, hT0.out⟩
  case round =>
    clear hT0
    obtain ⟨i, rfl, hi, hT⟩ := hrel
    by_cases hlt : i < n
    · have hiI : (i : Int) < (n : Int) := by omega
      obtain ⟨B, c2, hc, hHi, _, _⟩ := hcell.out i hlt
      have hc := Old.cell hT.fr hc
      rw [← hHi] at hc
      generalize (F.getD i []).length = m at hHi
      replace hT := Lib.hid hT
      rw [hHi] at hc
      replace hHi := Lib.hid hHi
      go_wp2_with (at_builtin; apply keepHid)
      refine Lib.hid ?_
      have hin : i ≤ 1000 := by omega
      refine wpList_append_rows rfl _ _ 31 rfl 46 iN (.agg #[.slice none 0 0, .slice none 0 0, .int .i64 0]) 3 56 Tryz.underlying31 hiN hz0 hz1 hz2 rfl (by decide) _ i (fl3 H i) rfl ((hT.out.alloc _).rows.own ()) ⟨wr.heap.size, 0, none⟩ 1 1 [.slice B m c2, .slice none 0 0, .int .i64 1] rfl rfl (cell_new_three _ _ _ _ _) (by simp [Value.oneCell']) (by unfold maxLen; omega) (by omega) ?_
      intro V' w4 ho hg hf
      have hT2 := (hT.out.alloc (.cells #[.slice B m c2, .slice none 0 0, .int .i64 1] 46)).trans ((hT.out.alloc _).rows.grow (ρ' := clR H V' (i + 1)) () ho hg hf (by
        show (⟨_, _, _, _, _⟩ : Row) = ⟨_, _, _, _, _⟩
        rw [fl3, hHi.out]; rfl) (fun r hr => (hr rfl).elim))
      obtain ⟨g4, cap4, rfl, _, _⟩ := own_form ho (by omega)
      clear ho hg hf
      replace hT2 := Lib.hid hT2
      go_wp2_with fail
      exact ⟨⟨i + 1, by go_num, by omega, hT2.out⟩, by simp [intOf]; omega⟩
    · have hiI : ¬ ((i : Int) < (n : Int)) := by omega
      have e : i = n := by omega
      subst e
      obtain ⟨g, cap, h1, h2, _, _⟩ := hT.rows.open () (by show 0 < i; have := hnn.out; omega)
      have h1 : u3 = .slice (some ⟨g, 0, none⟩) i cap := h1
      have hfin : ClPost F w (.returned u3) wr := by
        refine ⟨_, _, by rw [h1, hnn.out], ?_, hT.fr⟩
        intro j l hl
        have hj : j < i := by rw [hnn.out]; exact (List.getElem?_eq_some_iff.1 hl).1
        have hgd : F.getD j [] = l := by rw [List.getD_eq_getElem?_getD, hl]; rfl
        obtain ⟨B, c2, z1, z2, z3, z4⟩ := hcell.out j hj
        rw [hgd] at z1 z2 z3 z4
        obtain ⟨q1, q2, q3⟩ := fl3_get H i j hj
        refine ⟨B, c2, ?_, ?_, ?_, z3, z4.old hT.fr⟩
        · rw [← z2]; exact hT.rows.cell () h2 q1
        · exact hT.rows.cell () h2 q2
        · exact hT.rows.cell () h2 q3
      replace hfin := Lib.hid hfin
      replace hT := Lib.hid hT
      clear h1 h2
      go_wp2_with fail
      go_ret
      exact hfin.out
end Go.Proofs.YtiimddkopiknpaaGreatDoor
