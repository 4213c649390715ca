/-
  What learning a clause is made of.
-/
import Derived.Test.YtiimddkopiknpaaGreatDoorB03
import Derived.Handy
import Derived.Test.YtiimddkopiknpaaGreatDoorB02
set_option linter.unusedVariables false
set_option linter.unusedSimpArgs false

/-
  addClauseLits.
-/
namespace Go.Proofs.YtiimddkopiknpaaGreatDoor
open Go.RowKit

def addAll (m : MS) (lvl : Nat) (a : LS) (R : List Nat) : LS := R.foldl (fun a l => a.add m lvl l) a
theorem take_succ_nth (L : List Nat) (i : Nat) (h : i < L.length) : L.take (i + 1) = L.take i ++ [nth L i] := by
  have e : nth L i = L[i] := by unfold nth; rw [List.getD_eq_getElem?_getD]; simp [h]
  rw [e, List.take_add_one]; simp [h]
theorem addAll_succ (m : MS) (lvl : Nat) (a : LS) (R : List Nat) (i : Nat) (h : i < R.length) : addAll m lvl a (R.take (i + 1)) = (addAll m lvl a (R.take i)).add m lvl (nth R i) := by
  unfold addAll
  rw [take_succ_nth R i h, List.foldl_append]; rfl
theorem add_len (m : MS) (lvl : Nat) (a : LS) (l : Nat) : (a.add m lvl l).L.length ≤ a.L.length + 1 := by
  unfold LS.add
  split
  · split
    · exact Nat.le_succ _
    · simp
  · exact Nat.le_succ _
theorem add_n (m : MS) (lvl : Nat) (a : LS) (l : Nat) : (a.add m lvl l).n ≤ a.n + 1 := by
  unfold LS.add
  split
  · split
    · exact Nat.le_refl _
    · exact Nat.le_succ _
  · exact Nat.le_succ _
theorem addAll_len (m : MS) (lvl : Nat) (a : LS) (R : List Nat) : (addAll m lvl a R).L.length ≤ a.L.length + R.length ∧ (addAll m lvl a R).n ≤ a.n + R.length := by
  induction R generalizing a with
  | nil => exact ⟨Nat.le_refl _, Nat.le_refl _⟩
  | cons l R ih =>
    have h1 := ih (a.add m lvl l)
    have h2 := add_len m lvl a l
    have h3 := add_n m lvl a l
    simp only [List.length_cons]
    show (addAll m lvl (a.add m lvl l) R).L.length ≤ _ ∧ (addAll m lvl (a.add m lvl l) R).n ≤ _
    omega

theorem cell_new_one1 (w : World) (x : Value) (T : TypeId) (b : Nat) (hb : b = w.heap.size) : ∀ j u, [x][j]? = some u → (w.alloc (.cells #[x] T)).cell? ((⟨b, 0, none⟩ : Addr).add j) = some u := by
  intro j u hu
  cases j with
  | zero =>
    simp at hu
    subst hu
    simp [Addr.add_lit, World.cell?_alloc_at (w := w) #[x] T b 0 hb]
  | succ j => simp at hu

def ALRel (s0 : St) (w0 : World) (σ0 : Lo → Row) (mB bB lvl c : Nat) (a0 : LS) (v13 v14 : Value) (wr : World) : Prop :=
  ∃ (i : Nat) (s : St) (V : Value), v14 = .int .i64 (i : Int) ∧ i ≤ (s0.lits c).length ∧ v13 = .int .i64 ((addAll s0.toMS lvl a0 ((s0.lits c).take i)).n : Int) ∧
    AX s0 σ0 w0 s (lo s0.nv mB bB V (addAll s0.toMS lvl a0 ((s0.lits c).take i)).B (addAll s0.toMS lvl a0 ((s0.lits c).take i)).L) wr
def ALPost (s0 : St) (w0 : World) (σ0 : Lo → Row) (mB bB lvl c : Nat) (a0 : LS) (e : Ending) (wr : World) : Prop :=
  e = .returned (.int .i64 ((addAll s0.toMS lvl a0 (s0.lits c)).n : Int)) ∧ ∃ (s : St) (V : Value),
    AX s0 σ0 w0 s (lo s0.nv mB bB V (addAll s0.toMS lvl a0 (s0.lits c)).B (addAll s0.toMS lvl a0 (s0.lits c)).L) wr

set_option maxRecDepth 100000 in
set_option maxHeartbeats 8000000 in
theorem addLits_c {s0 : St} {w0 : World} {mB bB : Nat} {V0 : Value} {a0 : LS} (h : Rows (s0.rl (lo s0.nv mB bB V0 a0.B a0.L)) w0) (hd : Hd s0) (hW : Wf s0.toMS) {lvl c : Nat} (hlv : lvl < 1000000) (hc : c ∈ s0.ids)
    (hQ : QI s0.nv s0.qc s0.qi) (hbc : s0.qc.length ≤ 1000000000) (hbi : s0.qi.length ≤ 1000000000) (hL : a0.L.length ≤ 10000000) (hn : a0.n = 0) (hva : ∀ v, v < s0.nv → (s0.toMS.va v).natAbs < 1000000) (hq0 : 0 < s0.qi.length) :
    Calls Tryz.prog 100 #[.pointer (some ⟨s0.sb, 0, none⟩), .pointer (some ⟨c, 0, none⟩), .int .i64 (lvl : Int), .slice (some ⟨mB, 0, none⟩) s0.nv (s0.nv * 2), .slice (some ⟨mB, s0.nv, none⟩) s0.nv s0.nv, .pointer (some ⟨bB, 0, none⟩)] w0
      (ALPost s0 w0 (lo s0.nv mB bB V0 a0.B a0.L) mB bB lvl c a0) := by
  obtain ⟨iL, hiL, hz0, hz1, hz2⟩ := info_parts infoLit
  have hnv1 := hW.nv1
  have hlen := (hW.len c hc).2
  obtain ⟨cl, hcl⟩ : ∃ cl, cl = (s0.lits c).length := ⟨_, rfl⟩
  rw [← hcl] at hlen
  go_enter Tryz.func100, Tryz.ntmps100
  go_wp2_with fail
  go_loopw [13, 14] (fun v13 v14 wr => ALRel s0 w0 (lo s0.nv mB bB V0 a0.B a0.L) mB bB lvl c a0 v13 v14 wr) (fun _ v14 _ => cl - (intOf v14).toNat)
  case atStart => exact ⟨0, s0, V0, rfl, Nat.zero_le _, by simp [addAll, hn], AX.refl h hd⟩
  case round =>
    obtain ⟨i, s, V, rfl, hi, rfl, hT⟩ := hrel
    have hR := hT.rep
    have hms := hT.ms
    have hsb := hT.sb
    have hWs : Wf s.toMS := by rw [hms]; exact hW
    have hcs : c ∈ s.ids := by show c ∈ s.toMS.ids; rw [hms]; exact hc
    have hlits : s.lits c = s0.lits c := by show s.toMS.lits c = _; rw [hms]
    have hnv : s.nv = s0.nv := by show s.toMS.nv = _; rw [hms]
    have hQs := hT.q hQ
    have hbcs : s.qc.length ≤ 1000000000 := by rw [hT.qcl]; exact hbc
    have hbis : s.qi.length ≤ 1000000000 := by rw [hT.qil]; exact hbi
    have hq0s : 0 < s.qi.length := by rw [hT.qil]; exact hq0
    obtain ⟨a, ha⟩ : ∃ a, a = addAll s0.toMS lvl a0 ((s0.lits c).take i) := ⟨_, rfl⟩
    have hal := addAll_len s0.toMS lvl a0 ((s0.lits c).take i)
    rw [← ha] at hT hal ⊢
    have hal1 : a.L.length ≤ 11000000 := by have : ((s0.lits c).take i).length ≤ i := by rw [List.length_take]; omega
                                            omega
    have han : a.n ≤ 1000000 := by have : ((s0.lits c).take i).length ≤ i := by rw [List.length_take]; omega
                                   omega
    have hlenS : Calls Tryz.prog 50 #[.pointer (some ⟨c, 0, none⟩)] wr fun e w' => e = .returned (.int .i64 (cl : Int)) ∧ w' = wr := by rw [hcl, ← hlits]; exact Len_s hR hWs hcs
    rw [← hcl] at hi
    by_cases hlt : i < cl
    · have hltI : (i : Int) < (cl : Int) := by omega
      have hi1 : i + 1 ≤ (s0.lits c).length := by omega
      have hx := Get_s hR hWs hcs (i := i) (by rw [hlits]; omega)
      rw [hlits] at hx
      have hxl : nth (s0.lits c) i < s0.nv * 2 := hW.lit c hc i (by omega)
      have hsucc := addAll_succ s0.toMS lvl a0 (s0.lits c) i (by omega)
      rw [← ha] at hsucc
      generalize nth (s0.lits c) i = l at *
      have hls : l < 2147483648 := by omega
      have hst := litStatus_c hR (l := l) (by rw [hnv]; exact hxl) (by rw [hnv]; exact hnv1) (s0.toMS.lst l) (by rw [hms])
      rw [hsb] at hst
      replace hms := Lib.hid hms
      replace hW := Lib.hid hW
      replace hWs := Lib.hid hWs
      replace ha := Lib.hid ha
      replace hT := Lib.hid hT
      replace hlits := Lib.hid hlits
      replace hcl := Lib.hid hcl
      replace hQs := Lib.hid hQs
      replace hQ := Lib.hid hQ
      replace hst := Lib.hid hst
      replace hlenS := Lib.hid hlenS
      replace hx := Lib.hid hx
      by_cases h2 : s0.toMS.lst l = 2
      · rw [h2] at hst
        replace hst := Lib.hid hst.out
        have hm1 := hT.out.metf (l / 2)
        have hm2 := hT.out.met (i := l / 2) (by have := hT.out.metl; omega)
        have hlv2 : (l : Int) / 2 < (s0.nv : Int) := by omega
        have hlv3 : (0 : Int) ≤ (l : Int) / 2 := by omega
        have hlv4 : ((l : Int) / 2).toNat = l / 2 := by omega
        go_upto_region 9 with (first
          | (go_at_call 50; refine Calls.ret hlenS.out ?_)
          | (go_at_call 52; refine Calls.ret hx.out ?_)
          | (go_at_call 29; refine Calls.ret (Var_c l _ hls) ?_)
          | (go_at_call 72; refine Calls.retq hst.out ?_; intro q1))
        have t1 := (hT.out.drewN q1).mark (l / 2) true
        obtain ⟨w1, hw1⟩ : ∃ w1, w1 = (wr.drewN q1).setCell ⟨mB, l / 2, none⟩ (.bool true) := ⟨_, rfl⟩
        rw [← hw1] at t1 ⊢
        clear hw1 hm1 hm2 hR
        have hvb := varBump_c t1.rep (v := l / 2) (by rw [hnv]; omega) (by rw [hnv]; exact hnv1) hQs.out hbcs hbis hq0s
        rw [hsb] at hvb
        replace hvb := Lib.hid hvb
        replace t1 := Lib.hid t1
        have hcast : ((l / 2 : Nat) : Int) = (l : Int) / 2 := by omega
        rw [hcast] at hvb
        go_upto_region 10 with (go_at_call 101; refine hvb.out.mono ?_; rintro e w2 ⟨rfl, s2, hT2⟩; replace hT2 := Lib.hid hT2)
        have t2 := t1.out.at_ hT2.out
        have hR2 := t2.rep
        have hms2 : s2.toMS = s0.toMS := t2.ms
        have hnv2 : s2.nv = s0.nv := by show s2.toMS.nv = _; rw [hms2]
        have hsb2 := t2.sb
        have f15 : w2.cell? ⟨s0.sb, 15, none⟩ = some (.slice (some ⟨s2.modelB, 0, none⟩) s0.nv s0.nv) := by rw [← hsb2, ← hnv2]; exact hR2.sc hR2.hd.f15
        have g1 := hR2.val (v := l / 2) (by rw [hnv2]; omega)
        have hva1 := hva (l / 2) (by omega)
        have hval : s2.va (l / 2) = s0.toMS.va (l / 2) := by show s2.toMS.va _ = _; rw [hms2]
        rw [hval] at g1
        have hlev : s0.toMS.lev (l / 2) = (s0.toMS.va (l / 2)).natAbs := rfl
        obtain ⟨x, hx⟩ : ∃ x, x = s0.toMS.va (l / 2) := ⟨_, rfl⟩
        rw [← hx] at g1 hva1 hlev
        clear hval
        replace hx := Lib.hid hx
        have ha1 := fun w => abs_c x w (by omega) (by omega)
        replace t2 := Lib.hid t2
        replace hR2 := Lib.hid hR2
        replace hms2 := Lib.hid hms2
        have habs : a.add s0.toMS lvl l = if s0.toMS.lev (l / 2) = lvl then ⟨(a.B.set (l / 2) true).set (s0.toMS.nv + l / 2) true, a.L, a.n + 1⟩ else ⟨a.B.set (l / 2) true, a.L ++ [l], a.n⟩ := by
          unfold LS.add; rw [if_pos h2]
        by_cases hlv5 : x.natAbs = lvl
        · have hlvb : ((x.natAbs : Int) == (lvl : Int)) = true := by simp [hlv5]
          have hm1 := t2.out.metf (s0.nv + l / 2)
          have hm2 := t2.out.met (i := s0.nv + l / 2) (by have := t2.out.metl; omega)
          rw [if_pos (hlev.trans hlv5)] at habs
          rw [habs] at hsucc
          replace hsucc := Lib.hid hsucc
          replace habs := Lib.hid habs
          go_wp2_with (first
            | (go_at_call 71; refine Calls.ret (ha1 _) ?_))
          refine ⟨⟨i + 1, s2, V, by go_num, hi1, by rw [hsucc.out]; go_num, ?_⟩, by simp [intOf]; omega⟩
          rw [hsucc.out]
          exact t2.out.mark (s0.nv + l / 2) true
        · have hlvb : ((x.natAbs : Int) == (lvl : Int)) = false := by simp; omega
          rw [if_neg (by rw [hlev]; exact hlv5)] at habs
          rw [habs] at hsucc
          replace hsucc := Lib.hid hsucc
          replace habs := Lib.hid habs
          have hbx := t2.out.box
          go_wp2_with (first
            | (go_at_call 71; refine Calls.ret (ha1 _) ?_)
            | (at_builtin; apply keepHid))
          refine Lib.hid ?_
          refine wpList_append_rows rfl _ _ 53 rfl 82 iL (.int .i32 0) 1 4 Tryz.underlying53 hiL hz0 hz1 hz2 rfl (by decide) V a.L.length (a.L.map i32) rfl ((t2.out.alloc _).rows.own (.inr .lits)) ⟨w2.heap.size, 0, none⟩ 1 1 [i32 l] rfl rfl (cell_new_one1 _ _ _ _ rfl) (by simp [i32, Value.oneCell']) (by unfold maxLen; omega) (by omega) ?_
          intro V' w4 ho hg hf
          obtain ⟨p1, p2, p3⟩ := (t2.out.alloc _).app l ho hg hf
          obtain ⟨u14, hu14⟩ := Option.isSome_iff_exists.1 p1
          obtain ⟨g4, cap4, rfl, _, _⟩ := own_form ho (by omega)
          replace p3 := Lib.hid p3
          clear p1 ho hg hf
          go_wp2_with fail
          refine ⟨⟨i + 1, s2, .slice (some ⟨g4, 0, none⟩) (a.L.length + 1) cap4, by go_num, hi1, by rw [hsucc.out], ?_⟩, by simp [intOf]; omega⟩
          rw [hsucc.out]
          exact p3.out
      · have h2b : (s0.toMS.lst l == 2) = false := by simpa using h2
        have hadd : a.add s0.toMS lvl l = a := by unfold LS.add; rw [if_neg h2]
        rw [hadd] at hsucc
        go_wp2_with (first
          | (go_at_call 50; refine Calls.ret hlenS.out ?_)
          | (go_at_call 52; refine Calls.ret hx.out ?_)
          | (go_at_call 29; refine Calls.ret (Var_c l _ hls) ?_)
          | (go_at_call 72; refine Calls.retq hst.out ?_; intro q1))
        exact ⟨⟨i + 1, s, V, by go_num, hi1, by rw [hsucc], by rw [hsucc]; exact hT.out.drewN q1⟩, by simp [intOf]; omega⟩
    · have e : (s0.lits c).take i = s0.lits c := List.take_of_length_le (by omega)
      rw [e] at ha
      replace ha := Lib.hid ha
      replace hT := Lib.hid hT
      go_wp2_with (first
          | (go_at_call 50; refine Calls.ret hlenS ?_))
      go_ret
      exact ⟨by rw [← ha.out]; rfl, s, V, by rw [← ha.out]; exact hT.out⟩
end Go.Proofs.YtiimddkopiknpaaGreatDoor

/-
  The literals are sorted by their levels: the sorter's methods, and insertionSort over them.
-/
namespace Go.Proofs.YtiimddkopiknpaaGreatDoor
open Go.RowKit

/-- what the sorter's methods see -/
structure SA (nv : Nat) (val : List Int) (sB b n cap mb : Nat) (L : List Nat) (w : World) : Prop where
  c0 : w.cell? ⟨sB, 0, none⟩ = some (.slice (some ⟨b, 0, none⟩) n cap)
  c1 : w.cell? ⟨sB, 1, none⟩ = some (.slice (some ⟨mb, 0, none⟩) nv nv)
  ll : L.length = n
  at_ : ∀ i, i < n → w.cell? ⟨b, i, none⟩ = some (.int .i32 (nth L i : Nat))
  atf : ∀ i, w.frozen? ⟨b, i, none⟩ = false
  va : ∀ v, v < nv → w.cell? ⟨mb, v, none⟩ = some (.int .i64 (val.getD v 0))
  ne : b ≠ sB
  nm : b ≠ mb

section
variable {nv : Nat} {val : List Int} {sB b n cap mb : Nat} {L : List Nat} {w : World}
theorem SA.drewN (h : SA nv val sB b n cap mb L w) (q : Nat) : SA nv val sB b n cap mb L (w.drewN q) := ⟨h.c0, h.c1, h.ll, h.at_, h.atf, h.va, h.ne, h.nm⟩

set_option maxRecDepth 100000 in
set_option maxHeartbeats 4000000 in
theorem sLess_c (h : SA nv val sB b n cap mb L w) {i j : Nat} (hi : i < n) (hj : j < n) (hL : ∀ k, k < n → nth L k < nv * 2) (hnv : nv ≤ 1000000) (hv : ∀ v, v < nv → (val.getD v 0).natAbs < 1000000) :
    Calls Tryz.prog 197 #[.pointer (some ⟨sB, 0, none⟩), .int .i64 (i : Int), .int .i64 (j : Int)] w fun e w' => e = .returned (.bool (decide ((val.getD (nth L j / 2) 0).natAbs < (val.getD (nth L i / 2) 0).natAbs))) ∧ ∃ q, w' = w.drewN q := by
  have h0 := h.c0
  have h1 := h.c1
  have g1 := h.at_ i hi
  have g2 := h.at_ j hj
  have l1 := hL i hi
  have l2 := hL j hj
  have hi' : (i : Int) < (n : Int) := by omega
  have hj' : (j : Int) < (n : Int) := by omega
  have m1 := h.va (nth L i / 2) (by omega)
  have m2 := h.va (nth L j / 2) (by omega)
  have a1 := hv (nth L i / 2) (by omega)
  have a2 := hv (nth L j / 2) (by omega)
  generalize nth L i = x at *
  generalize nth L j = y at *
  generalize val.getD (x / 2) 0 = p at *
  generalize val.getD (y / 2) 0 = r at *
  have b1 := fun w => abs_c p w (by omega) (by omega)
  have b2 := fun w => abs_c r w (by omega) (by omega)
  have k1 : (x : Int) / 2 < (nv : Int) := by omega
  have k2 : (0 : Int) ≤ (x : Int) / 2 := by omega
  have k3 : ((x : Int) / 2).toNat = x / 2 := by omega
  have k4 : (y : Int) / 2 < (nv : Int) := by omega
  have k5 : (0 : Int) ≤ (y : Int) / 2 := by omega
  have k6 : ((y : Int) / 2).toNat = y / 2 := by omega
  have v1 := fun w => Var_c x w (by omega)
  have v2 := fun w => Var_c y w (by omega)
  clear h hL hv
  go_enter Tryz.func197, Tryz.ntmps197
  go_wp2_with fail
  refine wp_region_tail 31 (by kernel_rfl) (by kernel_rfl) ?_
  simp only [List.take_succ_cons, List.take_zero, List.drop_succ_cons, List.drop_zero]
  repeat still_step
  still_call (v1 _)
  repeat still_step
  still_call (b1 _)
  repeat still_step
  still_call (v2 _)
  repeat still_step
  still_call (b2 _)
  repeat still_step
  refine wpStill_nil ?_
  go_wp2_with fail
  go_ret
  exact ⟨rfl, 1, rfl⟩

set_option maxRecDepth 100000 in
set_option maxHeartbeats 4000000 in
theorem sSwap_c (h : SA nv val sB b n cap mb L w) {i j : Nat} (hi : i < n) (hj : j < n) :
    Calls Tryz.prog 198 #[.pointer (some ⟨sB, 0, none⟩), .int .i64 (i : Int), .int .i64 (j : Int)] w fun e w' => e = .returned (.tuple #[]) ∧
      ∃ q, w' = ((w.setCell ⟨b, i, none⟩ (.int .i32 (nth L j : Nat))).setCell ⟨b, j, none⟩ (.int .i32 (nth L i : Nat))).drewN q := by
  have h0 := h.c0
  have hne := h.ne
  have hne' := Ne.symm h.ne
  have g1 := h.at_ i hi
  have g2 := h.at_ j hj
  have f1 := h.atf i
  have f2 := h.atf j
  have hi' : (i : Int) < (n : Int) := by omega
  have hj' : (j : Int) < (n : Int) := by omega
  generalize nth L i = x at *
  generalize nth L j = y at *
  obtain ⟨v', hy'⟩ := cell?_setCell_some (w := w) (p := ⟨b, i, none⟩) (x := .int .i32 y) (q := ⟨b, j, none⟩) (v := .int .i32 y) g2
  clear h
  go_enter Tryz.func198, Tryz.ntmps198
  go_wp2_with fail
  go_region
  all_goals
    go_wp2
    go_end0
    exact ⟨rfl, 1, rfl⟩

theorem sLen_c (h : SA nv val sB b n cap mb L w) (hn : n ≤ 1000000) :
    Calls Tryz.prog 196 #[.pointer (some ⟨sB, 0, none⟩)] w fun e w' => e = .returned (.int .i64 (n : Int)) ∧ w' = w := by
  have h0 := h.c0
  go_enter Tryz.func196, Tryz.ntmps196
  go_wp2_with fail
  go_ret
  exact ⟨rfl, rfl⟩
end
end Go.Proofs.YtiimddkopiknpaaGreatDoor

/-
  insertionSort over the sorter of literals, and Sort for twelve of them at most.
-/
namespace Go.Proofs.YtiimddkopiknpaaGreatDoor
open Go.RowKit

def kval (val : List Int) (x : Nat) : Nat := (val.getD (x / 2) 0).natAbs
def SX {ι : Type} (ρ0 : ι → Row) (w0 : World) (r : ι) (L : List Nat) (w : World) : Prop := ∃ ρ, Tr ρ0 w0 ρ w ∧ ρ r = { ρ0 r with xs := L.map i32 } ∧ ∀ r', r' ≠ r → ρ r' = ρ0 r'

/-- where the sorter stands: nothing here changes while it sorts -/
structure SS {ι : Type} (ρ0 : ι → Row) (w0 : World) (r rm : ι) (nv : Nat) (val : List Int) (sB b n cap mb : Nat) (L0 : List Nat) : Prop where
  hr : ρ0 r = ⟨82, 1, .slice (some ⟨b, 0, none⟩) n cap, n, L0.map i32⟩
  hm : ρ0 rm = ⟨84, 1, slV mb nv, nv, val.map i64⟩
  ne : rm ≠ r
  rows : Rows ρ0 w0
  sl : sB < w0.heap.size
  sn : ¬ Own ρ0 sB
  c0 : w0.cell? ⟨sB, 0, none⟩ = some (.slice (some ⟨b, 0, none⟩) n cap)
  c1 : w0.cell? ⟨sB, 1, none⟩ = some (.slice (some ⟨mb, 0, none⟩) nv nv)
  lt : ∀ x ∈ L0, x < nv * 2
  nv1 : nv ≤ 1000000
  va : ∀ v, v < nv → (val.getD v 0).natAbs < 1000000

section
variable {ι : Type} {ρ0 : ι → Row} {w0 w : World} {r rm : ι} {nv : Nat} {val : List Int} {sB b n cap mb : Nat} {L0 L : List Nat}
theorem SS.len (h : SS ρ0 w0 r rm nv val sB b n cap mb L0) : L0.length = n := by have := (h.rows.own r).1; rw [h.hr] at this; simpa using this
theorem SS.vlen (h : SS ρ0 w0 r rm nv val sB b n cap mb L0) : val.length = nv := by have := (h.rows.own rm).1; rw [h.hm] at this; simpa using this
theorem SX.refl (h : SS ρ0 w0 r rm nv val sB b n cap mb L0) : SX ρ0 w0 r L0 w0 := ⟨ρ0, Tr.refl h.rows, by rw [h.hr], fun _ _ => rfl⟩
theorem SX.drewN (h : SX ρ0 w0 r L w) (q : Nat) : SX ρ0 w0 r L (w.drewN q) := by
  obtain ⟨ρ, h1, h2, h3⟩ := h
  exact ⟨ρ, h1.drewN q, h2, h3⟩
theorem SX.sa (h : SS ρ0 w0 r rm nv val sB b n cap mb L0) (hx : SX ρ0 w0 r L w) (hp : L.Perm L0) : SA nv val sB b n cap mb L w := by
  obtain ⟨ρ, h1, h2, h3⟩ := hx
  have hv : (ρ r).v.ownBlock = some b := by rw [h2, h.hr]; rfl
  have hv0 : (ρ0 r).v.ownBlock = some b := by rw [h.hr]; rfl
  have hvm : (ρ rm).v.ownBlock = some mb := by rw [h3 rm h.ne, h.hm]; rfl
  refine ⟨by rw [h1.fr.cell h.sl h.sn]; exact h.c0, by rw [h1.fr.cell h.sl h.sn]; exact h.c1, by rw [hp.length_eq]; exact h.len, ?_, fun i => h1.rows.frozen r hv i, ?_, ?_, ?_⟩
  · intro i hi
    refine h1.rows.cell r hv ?_
    rw [h2]
    exact getElem?_map_getD i32 L 0 i (by rw [hp.length_eq, h.len]; exact hi)
  · intro v hv'
    refine h1.rows.cell rm hvm ?_
    rw [h3 rm h.ne, h.hm]
    exact getElem?_map_getD i64 val 0 v (by rw [h.vlen]; exact hv')
  · intro e
    exact h.sn ⟨r, by rw [hv0, e]⟩
  · intro e
    exact h.ne (h1.rows.inj rm r b (by rw [hvm, e]) hv)
theorem SX.swap (h : SS ρ0 w0 r rm nv val sB b n cap mb L0) (hx : SX ρ0 w0 r L w) (i j : Nat) :
    SX ρ0 w0 r (swapL L i j) ((w.setCell ⟨b, i, none⟩ (.int .i32 (nth L j : Nat))).setCell ⟨b, j, none⟩ (.int .i32 (nth L i : Nat))) := by
  classical
  obtain ⟨ρ, h1, h2, h3⟩ := hx
  have hv : (ρ r).v.ownBlock = some b := by rw [h2, h.hr]; rfl
  let ρ1 : ι → Row := fun r' => if r' = r then { ρ r with xs := (ρ r).xs.set i (i32 (nth L j)) } else ρ r'
  have e1 : ρ1 r = { ρ r with xs := (ρ r).xs.set i (i32 (nth L j)) } := by simp [ρ1]
  have t1 := h1.rows.set (ρ' := ρ1) r hv i (i32 (nth L j)) e1 (fun r' hr' => by simp [ρ1, hr'])
  have hv1 : (ρ1 r).v.ownBlock = some b := by rw [e1]; exact hv
  let ρ2 : ι → Row := fun r' => if r' = r then { ρ1 r with xs := (ρ1 r).xs.set j (i32 (nth L i)) } else ρ1 r'
  have e2 : ρ2 r = { ρ1 r with xs := (ρ1 r).xs.set j (i32 (nth L i)) } := by simp [ρ2]
  have t2 := t1.rows.set (ρ' := ρ2) r hv1 j (i32 (nth L i)) e2 (fun r' hr' => by simp [ρ2, hr'])
  refine ⟨ρ2, (h1.trans t1).trans t2, ?_, fun r' hr' => ?_⟩
  · rw [e2, e1, h2]
    simp only []
    unfold swapL
    rw [List.map_set, List.map_set]
  · have : ρ2 r' = ρ r' := by simp [ρ2, ρ1, hr']
    rw [this]; exact h3 r' hr'
end

set_option maxRecDepth 100000 in
set_option maxHeartbeats 4000000 in
theorem Len64_c (n : Nat) (h1 : 2 ≤ n) (h2 : n ≤ 12) (w : World) : Calls Tryz.prog 144 #[.int .u64 (n : Int)] w fun e w' => (∃ k : Int, e = .returned (.int .i64 k)) ∧ w' = w := by
  have : n = 2 ∨ n = 3 ∨ n = 4 ∨ n = 5 ∨ n = 6 ∨ n = 7 ∨ n = 8 ∨ n = 9 ∨ n = 10 ∨ n = 11 ∨ n = 12 := by omega
  rcases this with rfl | rfl | rfl | rfl | rfl | rfl | rfl | rfl | rfl | rfl | rfl
  all_goals
    go_enter Tryz.func144, Tryz.ntmps144
    go_wp2_with fail
    go_ret
    exact ⟨⟨_, rfl⟩, rfl⟩
theorem BLen_c (n : Nat) (h1 : 2 ≤ n) (h2 : n ≤ 12) (w : World) : Calls Tryz.prog 126 #[.int .u64 (n : Int)] w fun e w' => (∃ k : Int, e = .returned (.int .i64 k)) ∧ w' = w := by
  have H := Lib.hid (Len64_c n h1 h2 w)
  go_enter Tryz.func126, Tryz.ntmps126
  go_wp2_with (go_at_call 144; refine H.out.mono ?_; rintro e w' ⟨⟨k, rfl⟩, rfl⟩)
  go_ret
  exact ⟨⟨_, rfl⟩, rfl⟩

/-- the loops' states -/
def Srt (val : List Int) (L : List Nat) (i : Nat) : Prop := ∀ p q, p < q → q < i → kval val (nth L q) ≤ kval val (nth L p)
def SrtJ (val : List Int) (L : List Nat) (i j : Nat) : Prop := (∀ p q, p < q → q ≤ i → q ≠ j → p ≠ j → kval val (nth L q) ≤ kval val (nth L p)) ∧ ∀ q, j < q → q ≤ i → kval val (nth L q) < kval val (nth L j)
theorem Srt.toJ {val : List Int} {L : List Nat} {i : Nat} (h : Srt val L i) : SrtJ val L i i := ⟨fun p q h1 h2 h3 _ => h p q h1 (by omega), fun q h1 h2 => by omega⟩
theorem SrtJ.done {val : List Int} {L : List Nat} {i j : Nat} (h : SrtJ val L i j) (hj : j ≤ i) (hs : j = 0 ∨ kval val (nth L j) ≤ kval val (nth L (j - 1))) : Srt val L (i + 1) := by
  intro p q h1 h2
  by_cases e : q = j
  · subst e
    rcases hs with hs | hs
    · omega
    · by_cases e2 : p = q - 1
      · rw [e2]; exact hs
      · exact Nat.le_trans hs (h.1 p (q - 1) (by omega) (by omega) (by omega) (by omega))
  · by_cases e2 : p = j
    · subst e2; exact Nat.le_of_lt (h.2 q h1 (by omega))
    · exact h.1 p q h1 (by omega) e e2
theorem SrtJ.step {val : List Int} {L : List Nat} {i j : Nat} (h : SrtJ val L i j) (hj : j ≤ i) (h0 : 0 < j) (hi : i < L.length) (hlt : kval val (nth L (j - 1)) < kval val (nth L j)) : SrtJ val (swapL L j (j - 1)) i (j - 1) := by
  have hs : ∀ k, nth (swapL L j (j - 1)) k = if j - 1 = k then nth L j else if j = k then nth L (j - 1) else nth L k := fun k => nth_swapL L j (j - 1) k (by omega) (by omega)
  refine ⟨?_, ?_⟩
  · intro p q h1 h2 h3 h4
    rw [hs q, hs p]
    simp only [show ¬ (j - 1 = q) by omega, show ¬ (j - 1 = p) by omega, if_false]
    by_cases e : j = q
    · subst e
      rw [if_pos rfl, if_neg (by omega)]
      exact h.1 p (j - 1) (by omega) (by omega) (by omega) (by omega)
    · rw [if_neg e]
      by_cases e2 : j = p
      · subst e2
        rw [if_pos rfl]
        exact h.1 (j - 1) q (by omega) h2 (by omega) (by omega)
      · rw [if_neg e2]
        exact h.1 p q h1 h2 (by omega) (by omega)
  · intro q h1 h2
    rw [hs (j - 1), if_pos rfl, hs q, if_neg (by omega)]
    by_cases e : j = q
    · rw [if_pos e]; exact hlt
    · rw [if_neg e]; exact h.2 q (by omega) h2

section
variable {ι : Type} {ρ0 : ι → Row} {w0 w : World} {r rm : ι} {nv : Nat} {val : List Int} {sB b n cap mb : Nat} {L0 L : List Nat}
def ISPost (ρ0 : ι → Row) (w0 : World) (r : ι) (val : List Int) (n : Nat) (L0 : List Nat) (e : Ending) (w : World) : Prop :=
  e = .returned (.tuple #[]) ∧ ∃ L : List Nat, L.Perm L0 ∧ Srt val L n ∧ SX ρ0 w0 r L w

set_option maxRecDepth 100000 in
set_option maxHeartbeats 4000000 in
theorem insSort_c (h : SS ρ0 w0 r rm nv val sB b n cap mb L0) (hn : n ≤ 1000000) (h1 : 1 ≤ n) :
    Calls Tryz.prog 145 #[.iface 164 (.pointer (some ⟨sB, 0, none⟩)), .int .i64 0, .int .i64 (n : Int)] w0 (ISPost ρ0 w0 r val n L0) := by
  go_enter Tryz.func145, Tryz.ntmps145
  go_wp2_with fail
  go_loopw [6] (fun v6 wr => ∃ (i : Nat) (L : List Nat), v6 = .int .i64 (i : Int) ∧ 1 ≤ i ∧ i ≤ n ∧ L.Perm L0 ∧ Srt val L i ∧ SX ρ0 w0 r L wr) (fun v6 _ => n - (intOf v6).toNat)
  case atStart => exact ⟨1, L0, rfl, Nat.le_refl _, h1, .refl _, fun p q a b => by omega, SX.refl h⟩
  case round =>
    obtain ⟨i, L, rfl, hi1, hin, hp, hs, hx⟩ := hrel
    replace hs := Lib.hid hs
    replace hx := Lib.hid hx
    replace hp := Lib.hid hp
    by_cases hlt : i < n
    · have hltI : (i : Int) < (n : Int) := by omega
      go_wp2_with fail
      go_loopw [7] (fun v7 wq => ∃ (j : Nat) (L : List Nat), v7 = .int .i64 (j : Int) ∧ j ≤ i ∧ L.Perm L0 ∧ SrtJ val L i j ∧ SX ρ0 w0 r L wq) (fun v7 _ => (intOf v7).toNat)
      case atStart => exact ⟨i, L, rfl, Nat.le_refl _, hp.out, hs.out.toJ, hx.out⟩
      case round =>
        clear hs hx hp
        obtain ⟨j, L, rfl, hji, hp, hs, hx⟩ := hrel
        have hSA := hx.sa h hp
        have hlen : L.length = n := by rw [hp.length_eq, h.len]
        by_cases h0 : j = 0
        · subst h0
          have hd := hs.done hji (.inl rfl)
          replace hs := Lib.hid hs
          replace hx := Lib.hid hx
          replace hp := Lib.hid hp
          replace hd := Lib.hid hd
          go_wp2_with fail
          exact ⟨⟨i + 1, L, by go_num, by omega, by omega, hp.out, hd.out, hx.out⟩, by simp [intOf]; omega⟩
        · have hpos : (0 : Int) < (j : Int) := by omega
          have hless := sLess_c hSA (i := j) (j := j - 1) (by omega) (by omega) (fun k hk => h.lt _ (hp.mem_iff.1 (nth_mem L k (by omega)))) h.nv1 h.va
          have hcj : ((j - 1 : Nat) : Int) = (j : Int) - 1 := by omega
          rw [hcj] at hless
          by_cases hk : kval val (nth L (j - 1)) < kval val (nth L j)
          · have hd := hs.step hji (by omega) (by omega) hk
            have hsw := fun q => sSwap_c (hSA.drewN q) (i := j) (j := j - 1) (by omega) (by omega)
            rw [hcj] at hsw
            have hx2 := fun q => (hx.drewN q).swap h j (j - 1)
            have hp2 := (swapL_perm L j (j - 1) (by omega) (by omega)).trans hp
            rw [show decide ((val.getD (nth L (j - 1) / 2) 0).natAbs < (val.getD (nth L j / 2) 0).natAbs) = true from decide_eq_true hk] at hless
            have hj1 : ((j - 1 : Nat) : Int) = (j : Int) - 1 := hcj
            have hj2 : j - 1 ≤ i := by omega
            replace hs := Lib.hid hs
            replace hx := Lib.hid hx
            replace hx2 := Lib.hid hx2
            replace hp := Lib.hid hp
            replace hp2 := Lib.hid hp2
            replace hd := Lib.hid hd
            replace hless := Lib.hid hless
            replace hsw := Lib.hid hsw
            replace hj1 := Lib.hid hj1
            clear hSA hk hcj
            go_wp2_with (first
              | (go_at_call 197; refine Calls.retq hless.out ?_; intro q1)
              | (go_at_call 198; refine (hsw.out q1).mono ?_; rintro e w2 ⟨rfl, q2, rfl⟩))
            exact ⟨⟨j - 1, _, by rw [hj1.out], hj2, hp2.out, hd.out, (hx2.out q1).drewN q2⟩, by simp [intOf]; omega⟩
          · have hd := hs.done hji (.inr (by omega))
            rw [show decide ((val.getD (nth L (j - 1) / 2) 0).natAbs < (val.getD (nth L j / 2) 0).natAbs) = false from decide_eq_false hk] at hless
            replace hs := Lib.hid hs
            replace hx := Lib.hid hx
            replace hp := Lib.hid hp
            replace hd := Lib.hid hd
            replace hless := Lib.hid hless
            clear hSA hk
            go_wp2_with (go_at_call 197; refine Calls.retq hless.out ?_; intro q1)
            exact ⟨⟨i + 1, L, by go_num, by omega, by omega, hp.out, hd.out, hx.out.drewN q1⟩, by simp [intOf]; omega⟩
    · go_wp2_with fail
      go_end0
      have : i = n := by omega
      subst this
      exact ⟨rfl, L, hp.out, hs.out, hx.out⟩
end
end Go.Proofs.YtiimddkopiknpaaGreatDoor

/-
  sortLiterals, for twelve literals at most.
-/
namespace Go.Proofs.YtiimddkopiknpaaGreatDoor
open Go.RowKit

section
variable {ι : Type} {ρ0 : ι → Row} {w0 w : World} {r rm : ι} {nv : Nat} {val : List Int} {sB b n cap mb : Nat} {L0 L : List Nat}
set_option maxRecDepth 100000 in
set_option maxHeartbeats 4000000 in
theorem pdq_c (h : SS ρ0 w0 r rm nv val sB b n cap mb L0) (hn : n ≤ 12) (h1 : 1 ≤ n) (k : Int) :
    Calls Tryz.prog 127 #[.iface 164 (.pointer (some ⟨sB, 0, none⟩)), .int .i64 0, .int .i64 (n : Int), .int .i64 k] w0 (ISPost ρ0 w0 r val n L0) := by
  have H := Lib.hid (insSort_c h (by omega) h1)
  have hn' : (n : Int) ≤ 12 := by omega
  go_enter Tryz.func127, Tryz.ntmps127
  go_wp2_with fail
  go_loopw [1, 2] (fun v1 v2 wr => v1 = .int .i64 0 ∧ v2 = .int .i64 (n : Int) ∧ wr = w0) (fun v1 v2 _ => 0)
  case atStart => exact ⟨rfl, rfl, rfl⟩
  case round =>
    obtain ⟨rfl, rfl, rfl⟩ := hrel
    go_wp2_with (go_at_call 145; refine H.out.mono ?_; rintro e w' ⟨rfl, hp⟩; replace hp := Lib.hid hp)
    go_end0
    exact ⟨rfl, hp.out⟩

set_option maxRecDepth 100000 in
set_option maxHeartbeats 4000000 in
theorem sort_c (h : SS ρ0 w0 r rm nv val sB b n cap mb L0) (hn : n ≤ 12) (h1 : 1 ≤ n) :
    Calls Tryz.prog 95 #[.iface 164 (.pointer (some ⟨sB, 0, none⟩))] w0 (ISPost ρ0 w0 r val n L0) := by
  have hSA := (SX.refl h).sa h (.refl _)
  have HL := Lib.hid (sLen_c hSA (by omega))
  by_cases h2 : n ≤ 1
  · have hs : Srt val L0 n := fun p q a b => by omega
    have hx := SX.refl h
    have h2' : (n : Int) ≤ 1 := by omega
    replace hs := Lib.hid hs
    replace hx := Lib.hid hx
    clear hSA
    go_enter Tryz.func95, Tryz.ntmps95
    go_wp2_with (go_at_call 196; refine Calls.ret HL.out ?_)
    go_end0
    exact ⟨rfl, L0, .refl _, hs.out, hx.out⟩
  · have h2' : (1 : Int) < (n : Int) := by omega
    have HP := Lib.hid (fun k => pdq_c h hn h1 k)
    have HB := Lib.hid (BLen_c n (by omega) hn w0)
    clear hSA
    go_enter Tryz.func95, Tryz.ntmps95
    go_wp2_with (first
      | (go_at_call 196; refine Calls.ret HL.out ?_)
      | (go_at_call 126; refine HB.out.mono ?_; rintro e w' ⟨⟨k, rfl⟩, rfl⟩)
      | (go_at_call 127; refine (HP.out k).mono ?_; rintro e w' ⟨rfl, hp⟩; replace hp := Lib.hid hp))
    go_end0
    exact ⟨rfl, hp.out⟩
end

/-- over the solver's rows and the analysis' -/
theorem AX.sx {s s1 : St} {σ0 : Lo → Row} {w w1 w2 : World} {nv mB bB : Nat} {V : Value} {B : List Bool} {L L' : List Nat} (h : AX s σ0 w s1 (lo nv mB bB V B L) w1) (hx : SX (s1.rl (lo nv mB bB V B L)) w1 (.inr .lits) L' w2) (hl : L'.length = L.length) :
    AX s σ0 w s1 (lo nv mB bB V B L') w2 := by
  obtain ⟨ρ, h1, h2, h3⟩ := hx
  have e : ρ = s1.rl (lo nv mB bB V B L') := by
    funext r
    cases r with
    | inl r => rw [h3 _ (by simp)]; rfl
    | inr r =>
      cases r with
      | lits => rw [h2]; simp [St.rl, lo, hl]
      | met => rw [h3 _ (by simp)]; rfl
      | box => rw [h3 _ (by simp)]; rfl
      | l2 => rw [h3 _ (by simp)]; rfl
      | ncl => rw [h3 _ (by simp)]; rfl
  rw [e] at h1
  exact ⟨h.tr.trans h1, h.hd, h.kp, h.ms, h.qcl, h.qil, h.q, h.mem⟩

def SLPost (s0 : St) (w0 : World) (σ0 : Lo → Row) (mB bB : Nat) (V : Value) (B : List Bool) (L : List Nat) (e : Ending) (w : World) : Prop :=
  e = .returned (.tuple #[]) ∧ ∃ L', L'.Perm L ∧ Srt s0.val L' L.length ∧ AX s0 σ0 w0 s0 (lo s0.nv mB bB V B L') w

set_option maxRecDepth 100000 in
set_option maxHeartbeats 4000000 in
theorem sortL_c {s0 : St} {w0 : World} {mB bB : Nat} {V : Value} {B : List Bool} {L : List Nat} (hd : Hd s0) (h : Rows (s0.rl (lo s0.nv mB bB V B L)) w0) (hn1 : 1 ≤ L.length) (hn : L.length ≤ 12) (hL : ∀ x ∈ L, x < s0.nv * 2) (hnv : s0.nv ≤ 1000000)
    (hva : ∀ v, v < s0.nv → (s0.toMS.va v).natAbs < 1000000) :
    Calls Tryz.prog 104 #[V, .slice (some ⟨s0.modelB, 0, none⟩) s0.nv s0.nv] w0 (SLPost s0 w0 (lo s0.nv mB bB V B L) mB bB V B L) := by
  have h0 := AX.refl h hd
  obtain ⟨b, cap, hV, _, _, _, _⟩ := h0.lits (by omega)
  have hT := h0.alloc (.cells #[.slice (some ⟨b, 0, none⟩) L.length cap, .slice (some ⟨s0.modelB, 0, none⟩) s0.nv s0.nv] 166)
  have hS : SS (s0.rl (lo s0.nv mB bB V B L)) (w0.alloc (.cells #[.slice (some ⟨b, 0, none⟩) L.length cap, .slice (some ⟨s0.modelB, 0, none⟩) s0.nv s0.nv] 166)) (.inr .lits) (.inl .model) s0.nv s0.val w0.heap.size b L.length cap s0.modelB L := by
    refine ⟨by rw [← hV]; rfl, rfl, by simp, hT.rows, by simp, ?_, ?_, ?_, hL, hnv, hva⟩
    · intro ho; exact absurd (h.lt ho) (Nat.lt_irrefl _)
    · rw [World.cell?_alloc_at (w := w0) _ _ w0.heap.size 0 rfl]; rfl
    · rw [World.cell?_alloc_at (w := w0) _ _ w0.heap.size 1 rfl]; rfl
  have H := Lib.hid (sort_c hS hn hn1)
  replace hT := Lib.hid hT
  subst hV
  clear h0 hS
  go_enter Tryz.func104, Tryz.ntmps104
  go_wp2_with (go_at_call 95; refine H.out.mono ?_; rintro e w' ⟨rfl, hp⟩; replace hp := Lib.hid hp)
  go_end0
  obtain ⟨L', p1, p2, p3⟩ := hp.out
  exact ⟨rfl, L', p1, p2, hT.out.sx p3 p1.length_eq⟩
end Go.Proofs.YtiimddkopiknpaaGreatDoor

/-
  minimizeLearned.
-/
namespace Go.Proofs.YtiimddkopiknpaaGreatDoor
open Go.RowKit

def minL (m : MS) (a : LS) (L : List Nat) (i : Nat) : List Nat := nth L 0 :: ((L.take i).drop 1).filter (keepL m a)
theorem minL_len (m : MS) (a : LS) (L : List Nat) (i : Nat) (h1 : 1 ≤ i) (hi : i ≤ L.length) : (minL m a L i).length ≤ i := by
  unfold minL
  have := List.length_filter_le (keepL m a) ((L.take i).drop 1)
  simp only [List.length_cons, List.length_drop, List.length_take] at this ⊢
  omega
theorem minL_succ (m : MS) (a : LS) (L : List Nat) (i : Nat) (h1 : 1 ≤ i) (hi : i < L.length) : minL m a L (i + 1) = if keepL m a (nth L i) = true then minL m a L i ++ [nth L i] else minL m a L i := by
  unfold minL
  rw [take_succ_nth L i hi, List.drop_append_of_le_length (by simp; omega), List.filter_append]
  by_cases h : keepL m a (nth L i) = true <;> simp [h]

structure MnI (m : MS) (a : LS) (L L' : List Nat) (i : Nat) : Prop where
  len : L'.length = L.length
  i1 : 1 ≤ i
  il : i ≤ L.length
  tk : L'.take (minL m a L i).length = minL m a L i
  rest : ∀ k, i ≤ k → nth L' k = nth L k
theorem MnI.start (m : MS) (a : LS) (L : List Nat) (h : 1 ≤ L.length) : MnI m a L L 1 := by
  refine ⟨rfl, Nat.le_refl _, h, ?_, fun _ _ => rfl⟩
  cases L with
  | nil => simp at h
  | cons x L => simp [minL, nth]
theorem MnI.keep {m : MS} {a : LS} {L L' : List Nat} {i : Nat} (h : MnI m a L L' i) (hi : i < L.length) (hk : keepL m a (nth L i) = true) : MnI m a L (L'.set (minL m a L i).length (nth L i)) (i + 1) ∧ (minL m a L (i + 1)).length = (minL m a L i).length + 1 := by
  have h1 := minL_len m a L i h.i1 h.il
  have h2 := minL_succ m a L i h.i1 hi
  rw [if_pos hk] at h2
  refine ⟨⟨by simp [h.len], by omega, hi, ?_, ?_⟩, by rw [h2]; simp⟩
  · rw [h2, List.length_append, List.length_singleton, take_set_succ _ _ _ (by rw [h.len]; omega), h.tk]
  · intro k hk'
    rw [nth_set _ _ _ _ (by rw [h.len]; omega), if_neg (by omega)]
    exact h.rest k (by omega)
theorem MnI.drop {m : MS} {a : LS} {L L' : List Nat} {i : Nat} (h : MnI m a L L' i) (hi : i < L.length) (hk : keepL m a (nth L i) = false) : MnI m a L L' (i + 1) ∧ minL m a L (i + 1) = minL m a L i := by
  have h2 := minL_succ m a L i h.i1 hi
  rw [if_neg (by rw [hk]; decide)] at h2
  exact ⟨⟨h.len, by omega, hi, by rw [h2]; exact h.tk, fun k hk' => h.rest k (by omega)⟩, h2⟩

def MnPost (s0 : St) (w0 : World) (σ0 : Lo → Row) (mB bB : Nat) (V : Value) (a : LS) (L : List Nat) (e : Ending) (w : World) : Prop :=
  e = .returned (.int .i64 ((minL s0.toMS a L L.length).length : Int)) ∧ ∃ L', MnI s0.toMS a L L' L.length ∧ AX s0 σ0 w0 s0 (lo s0.nv mB bB V a.B L') w

set_option maxRecDepth 100000 in
set_option maxHeartbeats 8000000 in
theorem minim_c {s0 : St} {w0 : World} {mB bB : Nat} {V : Value} {a : LS} {L : List Nat} (hd : Hd s0) (h : Rows (s0.rl (lo s0.nv mB bB V a.B L)) w0) (hW : Wf s0.toMS) (hn1 : 1 ≤ L.length) (hn : L.length ≤ 1000000) (hL : ∀ x ∈ L, x < s0.nv * 2)
    (hr : ∀ x ∈ L, ∀ c, s0.toMS.ra (x / 2) = some c → c ∈ s0.ids) :
    Calls Tryz.prog 105 #[.pointer (some ⟨s0.sb, 0, none⟩), .slice (some ⟨mB, 0, none⟩) s0.nv (s0.nv * 2), V] w0 (MnPost s0 w0 (lo s0.nv mB bB V a.B L) mB bB V a L) := by
  have h0 := AX.refl h hd
  have hnv1 := hW.nv1
  obtain ⟨b, cap, hV, _, _, _, _⟩ := h0.lits (by omega)
  obtain ⟨n, hnn⟩ : ∃ n, n = L.length := ⟨_, rfl⟩
  have hV2 : V = .slice (some ⟨b, 0, none⟩) n cap := by rw [hnn]; exact hV
  replace hV := Lib.hid hV2
  have hn2 : n ≤ 1000000 := by omega
  replace hnn := Lib.hid hnn
  go_enter Tryz.func105, Tryz.ntmps105
  rw [hV2]
  clear hV2
  go_wp2_with fail
  go_loopw [7, 8] (fun v7 v8 wr => ∃ (i : Nat) (L' : List Nat), v8 = .int .i64 (i : Int) ∧ v7 = .int .i64 ((minL s0.toMS a L i).length : Int) ∧ MnI s0.toMS a L L' i ∧ AX s0 (lo s0.nv mB bB V a.B L) w0 s0 (lo s0.nv mB bB V a.B L') wr) (fun _ v8 _ => n - (intOf v8).toNat)
  case atStart => exact ⟨1, L, rfl, by simp [minL], MnI.start _ _ _ hn1, h0⟩
  case round =>
    clear h0
    obtain ⟨i, L', rfl, rfl, hI, hT⟩ := hrel
    have hi1 := hI.i1
    have hil : i ≤ n := by rw [hnn.out]; exact hI.il
    obtain ⟨z, hz⟩ : ∃ z, z = (minL s0.toMS a L i).length := ⟨_, rfl⟩
    have hzi := minL_len s0.toMS a L i hI.i1 hI.il
    rw [← hz] at hzi ⊢
    have hR := hT.rep
    by_cases hlt : i < n
    · have hltI : (i : Int) < (n : Int) := by omega
      have hiL : i < L.length := by rw [← hnn.out]; exact hlt
      obtain ⟨b', cap', hV', _, _, hlit, hlf⟩ := hT.lits (by rw [hI.len]; omega)
      have hbb : b' = b := by
        have := hV.out.symm.trans hV'
        simp at this
        exact this.1.symm
      subst hbb
      have g1 := hlit i (by rw [hI.len]; exact hiL)
      rw [hI.rest i (Nat.le_refl _)] at g1
      have hxm : nth L i ∈ L := nth_mem L i hiL
      have hxl := hL _ hxm
      have hxr := hr _ hxm
      have hkd : keepL s0.toMS a (nth L i) = match s0.toMS.ra (nth L i / 2) with
        | none => true
        | some c => (s0.toMS.lits c).any fun y => !a.met (y / 2) := rfl
      have hKeep := fun hk => hI.keep hiL hk
      have hDrop := fun hk => hI.drop hiL hk
      have hset := hT.litset hV.out z (nth L i)
      rw [← hz] at hKeep
      have f20 : wr.cell? ⟨s0.sb, 20, none⟩ = some (.slice (some ⟨s0.rsnB, 0, none⟩) s0.nv s0.nv) := hR.sc hR.hd.f20
      have g2 := hR.rsn (v := nth L i / 2) (by omega)
      have gz := hlit z (by rw [hI.len]; omega)
      have gf := hlf z
      have hzn : (z : Int) < (n : Int) := by omega
      generalize nth L i = x at *
      have hxs : x < 2147483648 := by omega
      have k1 : (x : Int) / 2 < (s0.nv : Int) := by omega
      have k2 : (0 : Int) ≤ (x : Int) / 2 := by omega
      have k3 : ((x : Int) / 2).toNat = x / 2 := by omega
      replace hI := Lib.hid hI
      replace hT := Lib.hid hT
      replace hz := Lib.hid hz
      replace hV' := Lib.hid hV'
      replace hset := Lib.hid hset
      replace hKeep := Lib.hid hKeep
      replace hDrop := Lib.hid hDrop
      replace hW := Lib.hid hW
      clear hlit hlf
      cases hra : s0.toMS.ra (x / 2) with
      | none =>
        rw [hra] at hkd g2
        simp only [] at hkd
        obtain ⟨q1, q2⟩ := hKeep.out hkd
        replace q1 := Lib.hid q1
        replace q2 := Lib.hid q2
        clear hxr hra hkd
        simp only [ptrV, Option.map_none] at g2
        go_wp2_with fail
        refine wp_region_tail 11 (by kernel_rfl) (by kernel_rfl) ?_
        simp only [List.take_succ_cons, List.take_zero, List.drop_succ_cons, List.drop_zero]
        repeat still_step
        still_call (Var_c x _ hxs)
        repeat still_step
        refine wpStill_nil ?_
        go_wp2_with fail
        exact ⟨⟨i + 1, _, by go_num, by rw [q2.out]; go_num, q1.out, hset.out.drew⟩, by simp [intOf]; omega⟩
      | some c =>
        rw [hra] at hkd g2
        simp only [] at hkd
        have hc := hxr c hra
        clear hxr hra
        simp only [ptrV, Option.map_some] at g2
        obtain ⟨cl, hcl⟩ : ∃ cl, cl = (s0.lits c).length := ⟨_, rfl⟩
        have hcl2 : cl ≤ 1000000 := by rw [hcl]; exact (hW.out.len c hc).2
        replace hkd := Lib.hid hkd
        replace hcl := Lib.hid hcl
        go_wp2_with fail
        refine wp_region_tail 11 (by kernel_rfl) (by kernel_rfl) ?_
        simp only [List.take_succ_cons, List.take_zero, List.drop_succ_cons, List.drop_zero]
        repeat still_step
        still_call (Var_c x _ hxs)
        repeat still_step
        refine wpStill_nil ?_
        go_wp2_with fail
        go_loopw [7, 10] (fun v7 v10 wq => ∃ k : Nat, v10 = .int .i64 (k : Int) ∧ v7 = .int .i64 (z : Int) ∧ k ≤ cl ∧ (∀ k', k' < k → a.met (nth (s0.lits c) k' / 2) = true) ∧ wq = wr.drew) (fun _ v10 _ => cl - (intOf v10).toNat)
        case atStart => exact ⟨0, rfl, rfl, Nat.zero_le _, fun k' hk' => by omega, rfl⟩
        case round =>
          obtain ⟨k, rfl, rfl, hkl, hmet, rfl⟩ := hrel
          have hR1 := hT.out.drew.rep
          have hlenS : Calls Tryz.prog 50 #[.pointer (some ⟨c, 0, none⟩)] wr.drew fun e w' => e = .returned (.int .i64 (cl : Int)) ∧ w' = wr.drew := by rw [hcl.out]; exact Len_s hR1 hW.out hc
          by_cases hk : k < cl
          · have hkI : (k : Int) < (cl : Int) := by omega
            have hkc : k < (s0.lits c).length := by rw [← hcl.out]; exact hk
            have hget := Get_s hR1 hW.out hc (i := k) hkc
            have hym : nth (s0.lits c) k ∈ s0.lits c := nth_mem _ _ hkc
            have hyl := hW.out.lit c hc k hkc
            have hmt := hT.out.drew.met (i := nth (s0.lits c) k / 2) (by have := hT.out.metl; omega)
            have hnext : a.met (nth (s0.lits c) k / 2) = true → ∀ k', k' < k + 1 → a.met (nth (s0.lits c) k' / 2) = true := fun h' k' hk' => by
              by_cases e : k' = k
              · rw [e]; exact h'
              · exact hmet k' (by omega)
            have hmd : a.B.getD (nth (s0.lits c) k / 2) false = a.met (nth (s0.lits c) k / 2) := rfl
            rw [hmd] at hmt
            generalize nth (s0.lits c) k = y at *
            have hys : y < 2147483648 := by omega
            have k4 : (y : Int) / 2 < (s0.nv : Int) := by omega
            have k5 : (0 : Int) ≤ (y : Int) / 2 := by omega
            have k6 : ((y : Int) / 2).toNat = y / 2 := by omega
            replace hmet := Lib.hid hmet
            replace hlenS := Lib.hid hlenS
            replace hget := Lib.hid hget
            replace hnext := Lib.hid hnext
            clear hmd hR1
            cases hb : a.met (y / 2) with
            | true =>
              rw [hb] at hmt
              have hnx := Lib.hid (hnext.out hb)
              clear hb
              go_wp2_with (first
                | (go_at_call 50; refine Calls.ret hlenS.out ?_)
                | (go_at_call 52; refine Calls.ret hget.out ?_)
                | (go_at_call 29; refine Calls.ret (Var_c y _ hys) ?_))
              exact ⟨⟨k + 1, by go_num, rfl, by omega, hnx.out, trivial⟩, by simp [intOf]; omega⟩
            | false =>
              rw [hb] at hmt
              have hkt : ((s0.toMS.lits c).any fun y => !a.met (y / 2)) = true := List.any_eq_true.2 ⟨y, hym, by rw [hb]; rfl⟩
              obtain ⟨q1, q2⟩ := hKeep.out (hkd.out.trans hkt)
              replace q1 := Lib.hid q1
              replace q2 := Lib.hid q2
              clear hb hkt
              go_wp2_with (first
                | (go_at_call 50; refine Calls.ret hlenS.out ?_)
                | (go_at_call 52; refine Calls.ret hget.out ?_)
                | (go_at_call 29; refine Calls.ret (Var_c y _ hys) ?_))
              exact ⟨⟨i + 1, _, by go_num, by rw [q2.out]; go_num, q1.out, hset.out.drew⟩, by simp [intOf]; omega⟩
          · have hkf : ((s0.toMS.lits c).any fun y => !a.met (y / 2)) = false := by
              rw [List.any_eq_false]
              intro y hy
              obtain ⟨k', h1, h2⟩ := mem_nth _ y hy
              have := hmet k' (by have := hcl.out; omega)
              rw [h2] at this
              simp [this]
            obtain ⟨q1, q2⟩ := hDrop.out (hkd.out.trans hkf)
            replace q1 := Lib.hid q1
            replace q2 := Lib.hid q2
            replace hlenS := Lib.hid hlenS
            clear hkf hmet
            go_wp2_with (first
                | (go_at_call 50; refine Calls.ret hlenS.out ?_))
            exact ⟨⟨i + 1, L', by go_num, by rw [q2.out, hz.out], q1.out, hT.out.drew⟩, by simp [intOf]; omega⟩
    · have hie : i = L.length := by have := hnn.out; omega
      rw [hie] at hI hz
      replace hI := Lib.hid hI
      replace hT := Lib.hid hT
      replace hz := Lib.hid hz
      clear hR hie
      go_wp2_with fail
      go_ret
      exact ⟨by rw [← hz.out]; rfl, L', hI.out, by have h' := hT.out; rw [hV.out] at h'; exact h'⟩
end Go.Proofs.YtiimddkopiknpaaGreatDoor

/-
  The analysis of a conflict: its start, its folds, its end, in plain terms.
-/
namespace Go.Proofs.YtiimddkopiknpaaGreatDoor

def newAll (m : MS) (lvl : Nat) (a : LS) (R : List Nat) : LS := R.foldl (fun a l => a.new m lvl l) a
theorem newAll_succ (m : MS) (lvl : Nat) (a : LS) (R : List Nat) (i : Nat) (h : i < R.length) : newAll m lvl a (R.take (i + 1)) = (newAll m lvl a (R.take i)).new m lvl (nth R i) := by
  unfold newAll
  rw [take_succ_nth R i h, List.foldl_append]; rfl
theorem new_len (m : MS) (lvl : Nat) (a : LS) (l : Nat) : (a.new m lvl l).L.length ≤ a.L.length + 1 ∧ (a.new m lvl l).n ≤ a.n + 1 := by
  unfold LS.new
  split
  · exact ⟨Nat.le_succ _, Nat.le_succ _⟩
  · exact ⟨add_len m lvl a l, add_n m lvl a l⟩
theorem newAll_len (m : MS) (lvl : Nat) (a : LS) (R : List Nat) : (newAll m lvl a R).L.length ≤ a.L.length + R.length ∧ (newAll m lvl a R).n ≤ a.n + R.length := by
  induction R generalizing a with
  | nil => exact ⟨Nat.le_refl _, Nat.le_refl _⟩
  | cons l R ih =>
    have h1 := ih (a.new m lvl l)
    have h2 := new_len m lvl a l
    simp only [List.length_cons]
    show (newAll m lvl (a.new m lvl l) R).L.length ≤ _ ∧ (newAll m lvl (a.new m lvl l) R).n ≤ _
    omega

section
variable {m : MS} {lvl b q : Nat} {a : LS}
theorem add_n_le (a : LS) (l : Nat) : a.n ≤ (a.add m lvl l).n := by
  unfold LS.add
  split
  · split
    · exact Nat.le_succ _
    · exact Nat.le_refl _
  · exact Nat.le_refl _
theorem new_n_le (a : LS) (l : Nat) : a.n ≤ (a.new m lvl l).n := by
  unfold LS.new
  split
  · exact Nat.le_refl _
  · exact add_n_le a l
theorem newAll_n_le (a : LS) (R : List Nat) : a.n ≤ (newAll m lvl a R).n := by
  induction R generalizing a with
  | nil => exact Nat.le_refl _
  | cons l R ih => exact Nat.le_trans (new_n_le a l) (ih (a.new m lvl l))
theorem add_met (hb : a.B.length = m.nv * 2) {l : Nat} (hl : l < m.nv * 2) {v : Nat} (hv : v < m.nv) : (a.add m lvl l).met v = (a.met v || (decide (m.lst l = 2) && decide (l / 2 = v))) ∧ (a.add m lvl l).B.length = m.nv * 2 := by
  unfold LS.add
  split
  · rename_i h2
    split
    · refine ⟨?_, by simp; exact hb⟩
      unfold LS.met
      rw [getD_set_b _ _ _ (by simp; omega), if_neg (by omega), getD_set_b _ _ _ (by omega)]
      by_cases e : l / 2 = v <;> simp [e, h2]
    · refine ⟨?_, by simp; exact hb⟩
      unfold LS.met
      rw [getD_set_b _ _ _ (by omega)]
      by_cases e : l / 2 = v <;> simp [e, h2]
  · rename_i h2
    exact ⟨by simp [h2], hb⟩

theorem LI.start (hT : Tl m lvl) (hU : LU m lvl b) {c : Nat} (hc : c ∈ m.ids) (hf : ∀ y ∈ m.lits c, m.lst y = 2) (hy : ∀ y ∈ m.lits c, y < m.nv * 2) : LI m lvl b m.trail.length ⟨List.replicate (m.nv * 2) false, [0], 0⟩ (m.lits c) ∧ ∀ y ∈ m.lits c, LGood m lvl b m.trail.length y := by
  have hg : ∀ y ∈ m.lits c, LGood m lvl b m.trail.length y := by
    intro y h
    obtain ⟨i, h1, h2⟩ := hT.at_ (hy y h) (hf y h)
    refine ⟨hf y h, hy y h, ?_, fun _ => ⟨i, Nat.le_of_not_lt fun hib => hU.cl c hc y h i hib (by rw [h2, negL_div]), h1, h2⟩, hU.cl c hc y h⟩
    have := hT.top i h1
    rw [h2, negL_div] at this
    exact this
  have hm : ∀ v, (⟨List.replicate (m.nv * 2) false, [0], 0⟩ : LS).met v = false := by
    intro v
    unfold LS.met
    simp only []
    rw [List.getD_eq_getElem?_getD, List.getElem?_replicate]
    split <;> rfl
  have hml : ∀ v, (⟨List.replicate (m.nv * 2) false, [0], 0⟩ : LS).ml m.nv v = false := fun v => hm (m.nv + v)
  refine ⟨⟨by simp, Nat.le_refl _, by simp, cntM_zero fun i _ => hml _, ?_, ?_, ?_, ?_, ?_, by simp, ?_, fun x h => by simp at h⟩, hg⟩
  · intro v _ h; rw [hml] at h; cases h
  · intro x h; simp at h
  · intro v _ h; rw [hm] at h; cases h
  · intro i _ _ _ h; rw [hm] at h; cases h
  · intro v _ h; rw [hml] at h; cases h
  · intro _ σ hσ
    obtain ⟨y, h1, h2⟩ := hσ c hc
    exact .inr (.inr ⟨y, h1, hg y h1, h2⟩)
theorem LI.allI (hU : LU m lvl b) (hn : ∀ i, i < m.trail.length → nth m.trail i < m.nv * 2) : ∀ {R : List Nat} {a : LS}, LI m lvl b q a R → (R.map (· / 2)).Nodup → (∀ y ∈ R, LGood m lvl b q y ∧ a.met (y / 2) = false) →
    LI m lvl b q (addAll m lvl a R) [] ∧ a.n + (R.filter fun y => decide (m.lev (y / 2) = lvl)).length = (addAll m lvl a R).n
  | [], a, h, _, _ => ⟨h, rfl⟩
  | y :: R, a, h, hnd, hg => by
    simp only [List.map_cons, List.nodup_cons] at hnd
    obtain ⟨g1, g2⟩ := hg y (by simp)
    have h1 := h.add hU hn g1 g2
    obtain ⟨r1, r2⟩ := LI.allI hU hn h1 hnd.2 (fun z hz => by
      obtain ⟨z1, z2⟩ := hg z (List.mem_cons_of_mem _ hz)
      refine ⟨z1, ?_⟩
      have := z1.nv
      rw [(add_met h.bl g1.nv (v := z / 2) (by omega)).1, z2]
      have : y / 2 ≠ z / 2 := fun e => hnd.1 (by rw [e]; exact List.mem_map_of_mem hz)
      simp [this])
    refine ⟨r1, ?_⟩
    show _ = (addAll m lvl (a.add m lvl y) R).n
    rw [← r2]
    have e1 : (a.add m lvl y).n = if m.lev (y / 2) = lvl then a.n + 1 else a.n := by
      unfold LS.add
      rw [if_pos g1.f]
      split <;> rfl
    rw [e1, List.filter_cons]
    by_cases e : m.lev (y / 2) = lvl
    · simp [e]; omega
    · simp [e]
theorem LI.newsI (hU : LU m lvl b) (hn : ∀ i, i < m.trail.length → nth m.trail i < m.nv * 2) : ∀ {R : List Nat} {a : LS}, LI m lvl b q a R → (∀ y ∈ R, y < m.nv * 2) → (∀ y ∈ R, a.met (y / 2) = true ∨ LGood m lvl b q y) →
    LI m lvl b q (newAll m lvl a R) []
  | [], a, h, _, _ => h
  | y :: R, a, h, hy, hg => by
    have h1 := h.new hU hn (hg y (by simp))
    refine LI.newsI hU hn (R := R) h1 (fun z hz => hy z (List.mem_cons_of_mem _ hz)) (fun z hz => ?_)
    rcases hg z (List.mem_cons_of_mem _ hz) with h' | h'
    · left
      show (a.new m lvl y).met (z / 2) = true
      unfold LS.new
      split
      · exact h'
      · have := hy z (List.mem_cons_of_mem _ hz)
        rw [(add_met h.bl (hy y (by simp)) (v := z / 2) (by omega)).1, h']; rfl
    · exact .inr h'
/-- how many literals there can be -/
theorem LI.llen {R : List Nat} (h : LI m lvl b q a R) : a.L.length ≤ m.nv + 1 ∧ a.n ≤ m.trail.length := by
  constructor
  · have hsub : ∀ x ∈ a.L.tail.map (· / 2), x ∈ List.range m.nv := by
      intro x hx
      obtain ⟨y, hy, rfl⟩ := List.mem_map.1 hx
      have := (h.fl y hy).2.2.1
      rw [List.mem_range]; omega
    have := h.nd.length_le_of_subset hsub
    simp only [List.length_map, List.length_tail, List.length_range] at this
    omega
  · have h1 := h.nc
    have h2 := h.ql
    unfold cntM at h1
    have := List.length_filter_le (fun i => a.ml m.nv (nth m.trail i / 2)) (List.range q)
    rw [List.length_range] at this
    omega
theorem LI.qpos {R : List Nat} (h : LI m lvl b q a R) (h1 : 1 ≤ a.n) : 1 ≤ q := by
  obtain ⟨i, hi, _⟩ := cntM_pos (m := m) (a := a) (q := q) (by rw [h.nc]; exact h1)
  omega
/-- the first literal of the level that is met -/
theorem LI.first (h : LI m lvl b q a []) (h1 : 1 ≤ a.n) : ∃ u, u < m.trail.length ∧ a.ml m.nv (nth m.trail u / 2) = true ∧ ∀ i, i < u → a.ml m.nv (nth m.trail i / 2) = false := by
  obtain ⟨i, hi, hi2⟩ := cntM_pos (m := m) (a := a) (q := q) (by rw [h.nc]; exact h1)
  have hq := h.ql
  obtain ⟨u, ⟨h3, h4⟩, h5⟩ := exists_least (fun u => u < m.trail.length ∧ a.ml m.nv (nth m.trail u / 2) = true) ⟨i, by omega, hi2⟩
  refine ⟨u, h3, h4, fun j hj => ?_⟩
  cases hc : a.ml m.nv (nth m.trail j / 2) with
  | false => rfl
  | true => exact (h5 j hj ⟨by omega, hc⟩).elim
end

/-- the clause that is learned -/
structure Lrn (m : MS) (lvl b : Nat) (L : List Nat) : Prop where
  ne : 1 ≤ L.length
  snd : 2 ≤ lvl → ∀ σ, m.Sat σ → ∃ x ∈ L, tru σ x = true
  fl : ∀ x ∈ L, m.lst x = 2 ∧ x < m.nv * 2
  top : m.lev (nth L 0 / 2) = lvl
  low : ∀ x ∈ L.tail, m.lev (x / 2) < lvl
  nd : (L.map (· / 2)).Nodup
  srt : ∀ p q, p < q → q < L.length → m.lev (nth L q / 2) ≤ m.lev (nth L p / 2)
  nb : ∀ x ∈ L, ∀ i, i < b → nth m.trail i / 2 ≠ x / 2

theorem kval_lev (m : MS) (x : Nat) : kval m.val x = m.lev (x / 2) := rfl
theorem nth_zero_tail (L : List Nat) (h : 1 ≤ L.length) : L = nth L 0 :: L.tail := by
  cases L with
  | nil => simp at h
  | cons x L => rfl
theorem minL_full (m : MS) (a : LS) (L : List Nat) : minL m a L L.length = nth L 0 :: L.tail.filter (keepL m a) := by
  unfold minL
  rw [List.take_of_length_le (Nat.le_refl _), List.drop_one]

theorem pw_nth {m : MS} {M : List Nat} (h : M.Pairwise (fun x y => m.lev (y / 2) ≤ m.lev (x / 2))) : ∀ p q, p < q → q < M.length → m.lev (nth M q / 2) ≤ m.lev (nth M p / 2) := by
  rw [List.pairwise_iff_getElem] at h
  intro p q hpq hq
  have := h p q (by omega) hq hpq
  rw [nth_lt M q hq, nth_lt M p (by omega)]
  exact this
/-- what the analysis comes to -/
theorem LI.lrn {m : MS} {lvl b q : Nat} {a : LS} (hT : Tl m lvl) (hW : Wf m) (h : LI m lvl b q a []) (h1 : a.n = 1) {u : Nat} (hu : u < m.trail.length) (hu2 : a.ml m.nv (nth m.trail u / 2) = true) (hu3 : ∀ i, i < u → a.ml m.nv (nth m.trail i / 2) = false)
    {L2 : List Nat} (hp : L2.Perm (a.L.set 0 (negL (nth m.trail u)))) (hs : Srt m.val L2 L2.length) : Lrn m lvl b (minL m a L2 L2.length) := by
  obtain ⟨hd1, hd2⟩ := h.done hW h1 hu hu2 hu3
  have hL : a.L.set 0 (negL (nth m.trail u)) = negL (nth m.trail u) :: a.L.tail := by
    have := h.ne
    cases hL : a.L with
    | nil => rw [hL] at this; simp at this
    | cons x L => rfl
  rw [hL] at hp hd1
  have hlen : L2.length = a.L.tail.length + 1 := by rw [hp.length_eq]; simp
  have hul := hW.tr u hu
  have hlevu : m.lev (negL (nth m.trail u) / 2) = lvl := by rw [negL_div]; exact hd2
  -- the head is the literal of the level
  have hhead : nth L2 0 = negL (nth m.trail u) := by
    have hmem : negL (nth m.trail u) ∈ L2 := hp.mem_iff.2 (by simp)
    obtain ⟨k, hk, hk2⟩ := mem_nth _ _ hmem
    by_cases e : k = 0
    · rw [e] at hk2; exact hk2
    · have h3 := hs 0 k (by omega) hk
      rw [kval_lev, kval_lev, hk2, hlevu] at h3
      have h4 : nth L2 0 ∈ negL (nth m.trail u) :: a.L.tail := hp.mem_iff.1 (nth_mem _ _ (by omega))
      rcases List.mem_cons.1 h4 with h5 | h5
      · exact h5
      · have := (h.fl _ h5).2.1
        omega
  have htail : L2.tail.Perm a.L.tail := by
    have := nth_zero_tail L2 (by omega)
    rw [this, hhead] at hp
    exact (List.perm_cons _).1 hp
  have hnd2 : (L2.map (· / 2)).Nodup := by
    rw [(hp.map _).nodup_iff, List.map_cons, List.nodup_cons]
    refine ⟨fun hm => ?_, h.nd⟩
    obtain ⟨x, hx, hx2⟩ := List.mem_map.1 hm
    have hx2 : x / 2 = negL (nth m.trail u) / 2 := hx2
    have := (h.fl x hx).2.1
    rw [hx2, hlevu] at this
    omega
  rw [minL_full, hhead]
  have hsub : (negL (nth m.trail u) :: L2.tail.filter (keepL m a)).Sublist L2 := by
    conv => rhs; rw [nth_zero_tail L2 (by omega), hhead]
    exact (List.filter_sublist).cons_cons _
  refine ⟨by simp, fun hl σ hσ => ?_, fun x hx => ?_, hlevu, fun x hx => ?_, ?_, ?_, fun x hx => ?_⟩
  · exact h.min hT hW htail hσ (hd1 hl σ hσ)
  · have hx := hp.mem_iff.1 (hsub.subset hx)
    rcases List.mem_cons.1 hx with rfl | hx
    · exact ⟨lst_neg1 (hT.tr1 u hu), negL_lt hul⟩
    · obtain ⟨z1, z2, z3, z4⟩ := h.fl x hx
      exact ⟨z1, z3⟩
  · have : x ∈ L2.tail.filter (keepL m a) := hx
    have := htail.mem_iff.1 (List.mem_filter.1 this).1
    exact (h.fl x this).2.1
  · exact (hsub.map _).nodup hnd2
  · have hpw : L2.Pairwise (fun x y => m.lev (y / 2) ≤ m.lev (x / 2)) := by
      rw [List.pairwise_iff_getElem]
      intro i j hi hj hij
      have := hs i j hij hj
      rw [kval_lev, kval_lev, nth_lt L2 i hi, nth_lt L2 j hj] at this
      exact this
    exact pw_nth (hpw.sublist hsub)
  · have hx := hp.mem_iff.1 (hsub.subset hx)
    rcases List.mem_cons.1 hx with rfl | hx
    · rw [negL_div]; exact h.mc _ (by omega) hu2
    · exact h.fb x hx
end Go.Proofs.YtiimddkopiknpaaGreatDoor

/-
  NewLearnedClause and computeLbd.
-/
namespace Go.Proofs.YtiimddkopiknpaaGreatDoor
open Go.RowKit

theorem newL_c (p : Option Addr) (n cap : Nat) (w : World) : Calls Tryz.prog 106 #[.slice p n cap] w fun e w' => e = .returned (.pointer (some ⟨w.heap.size, 0, none⟩)) ∧
    w' = w.alloc (.cells #[.slice p n cap, .int .u32 2147483648, .float .f32 0, .pointer none] 112) := by
  go_enter Tryz.func106, Tryz.ntmps106
  go_wp2_with fail
  go_ret
  exact ⟨rfl, rfl⟩

set_option maxRecDepth 100000 in
set_option maxHeartbeats 4000000 in
theorem setLbd_c {c x : Nat} {w : World} (h : w.cell? ⟨c, 1, none⟩ = some (.int .u32 (x : Int))) (hf : w.frozen? ⟨c, 1, none⟩ = false) (hx : x = 2147483648) :
    Calls Tryz.prog 129 #[.pointer (some ⟨c, 0, none⟩), .int .i64 1] w fun e w' => e = .returned (.tuple #[]) ∧ w' = w.setCell ⟨c, 1, none⟩ (.int .u32 ((2147483649 : Nat) : Int)) := by
  subst hx
  have h1 : bits .and .u32 (2147483648 : Int) 3221225472 = 2147483648 := by decide
  have h2 : bits .or .u32 (2147483648 : Int) 1 = 2147483649 := by decide
  go_enter Tryz.func129, Tryz.ntmps129
  go_wp2_with fail
  go_end0
  exact ⟨rfl, rfl⟩
set_option maxRecDepth 100000 in
set_option maxHeartbeats 4000000 in
theorem incLbd_c {c x : Nat} {w : World} (h : w.cell? ⟨c, 1, none⟩ = some (.int .u32 (x : Int))) (hf : w.frozen? ⟨c, 1, none⟩ = false) (hx : x < 4294967295) :
    Calls Tryz.prog 130 #[.pointer (some ⟨c, 0, none⟩)] w fun e w' => e = .returned (.tuple #[]) ∧ w' = w.setCell ⟨c, 1, none⟩ (.int .u32 ((x + 1 : Nat) : Int)) := by
  go_enter Tryz.func130, Tryz.ntmps130
  go_wp2_with fail
  go_end0
  exact ⟨rfl, by simp⟩

theorem setWord_word (s : St) (c x : Nat) : (s.setWord c x).word c = x := by simp [St.setWord]
theorem setWord_two (s : St) (c x y : Nat) : (s.setWord c x).setWord c y = s.setWord c y := by
  unfold St.setWord
  simp only []
  congr 1
  congr 1
  funext c'
  split <;> rfl
def LbPost (s : St) (w : World) (c : Nat) (e : Ending) (w' : World) : Prop :=
  e = .returned (.tuple #[]) ∧ ∃ x, 2147483649 ≤ x ∧ x ≤ 2147483648 + (s.lits c).length ∧ RT s w (s.setWord c x) w'

set_option maxRecDepth 100000 in
set_option maxHeartbeats 8000000 in
theorem lbd_c {s : St} {w : World} (h : Rep s w) (hW : Wf s.toMS) {c : Nat} (hc : c ∈ s.ids) (hw : s.word c = 2147483648) (hva : ∀ v, v < s.nv → (s.toMS.va v).natAbs < 1000000) :
    Calls Tryz.prog 107 #[.pointer (some ⟨c, 0, none⟩), .slice (some ⟨s.modelB, 0, none⟩) s.nv s.nv] w (LbPost s w c) := by
  obtain ⟨hl2, hl1⟩ := hW.len c hc
  have hnv1 := hW.nv1
  have hS := Lib.hid (setLbd_c (h.clc hc (j := 1) rfl) (h.clf hc 1) hw)
  have t1 := h.setWord hc 2147483649
  have hW1 : ∀ x, x < 4294967296 → Wf (s.setWord c x).toMS := fun x hx => by
    refine ⟨hW.nv0, hW.nv1, hW.len, hW.lit, ?_, hW.wl, hW.wb, hW.wll, hW.wbl, hW.tr, hW.trl⟩
    intro c' hc'
    simp only [St.setWord]
    split
    · exact hx
    · exact hW.word c' hc'
  obtain ⟨w1, hw1⟩ : ∃ w1, w1 = w.setCell ⟨c, 1, none⟩ (.int .u32 ((2147483649 : Nat) : Int)) := ⟨_, rfl⟩
  rw [← hw1] at t1 hS
  obtain ⟨cl, hcl⟩ : ∃ cl, cl = (s.lits c).length := ⟨_, rfl⟩
  have hG0 := Lib.hid (Get_s t1.rep (hW1 _ (by omega)) (c := c) hc (i := 0) (by show 0 < (s.lits c).length; omega))
  have hx0 := hW.lit c hc 0 (by omega)
  have m0 := t1.rep.val (v := nth (s.lits c) 0 / 2) (by show nth (s.lits c) 0 / 2 < s.nv; omega)
  have hva0 := hva (nth (s.lits c) 0 / 2) (by omega)
  have hv0 : (s.setWord c 2147483649).va (nth (s.lits c) 0 / 2) = s.toMS.va (nth (s.lits c) 0 / 2) := rfl
  have hmb : (s.setWord c 2147483649).modelB = s.modelB := rfl
  rw [hv0, hmb] at m0
  have hl0 : nth ((s.setWord c 2147483649).lits c) 0 = nth (s.lits c) 0 := rfl
  rw [hl0] at hG0
  generalize hgx : nth (s.lits c) 0 = x0 at *
  replace hgx := Lib.hid hgx
  clear hv0 hmb hl0
  generalize hgp : s.toMS.va (x0 / 2) = p0 at *
  replace hgp := Lib.hid hgp
  have b0 := fun w => abs_c p0 w (by omega) (by omega)
  have hxs : x0 < 2147483648 := by omega
  have k1 : (x0 : Int) / 2 < (s.nv : Int) := by omega
  have k2 : (0 : Int) ≤ (x0 : Int) / 2 := by omega
  have k3 : ((x0 : Int) / 2).toNat = x0 / 2 := by omega
  have hcl1 : cl ≤ 1000000 := by omega
  have hcl2 : 2 ≤ cl := by omega
  replace hcl := Lib.hid hcl
  replace t1 := Lib.hid t1
  replace hW := Lib.hid hW
  clear hw hl2 hl1 hw1 
  go_enter Tryz.func107, Tryz.ntmps107
  go_wp2_with (first
    | (go_at_call 129; refine hS.out.mono ?_; rintro e w' ⟨rfl, rfl⟩)
    | (go_at_call 52; refine Calls.ret hG0.out ?_)
    | (go_at_call 29; refine Calls.ret (Var_c x0 _ hxs) ?_)
    | (go_at_call 71; refine Calls.ret (b0 _) ?_))
  go_loopw [4, 5] (fun v4 v5 wr => ∃ (i x : Nat) (y : Int), v4 = .int .i64 y ∧ v5 = .int .i64 (i : Int) ∧ i ≤ cl ∧ 2147483649 ≤ x ∧ ((i = 0 → y = (p0.natAbs : Int) ∧ x = 2147483649) ∧ (0 < i → x ≤ 2147483648 + i)) ∧ RT s w (s.setWord c x) wr) (fun _ v5 _ => cl - (intOf v5).toNat)
  case atStart => exact ⟨0, 2147483649, _, rfl, rfl, Nat.zero_le _, Nat.le_refl _, ⟨fun _ => ⟨rfl, rfl⟩, fun h => absurd h (Nat.lt_irrefl 0)⟩, t1.out⟩
  case round =>
    clear m0
    obtain ⟨i, x, y, rfl, rfl, hi, hx1, hx2, hT⟩ := hrel
    have hx3 : x ≤ 2147483649 + i := by
      rcases Nat.eq_zero_or_pos i with e | e
      · have := (hx2.1 e).2; omega
      · have := hx2.2 e; omega
    replace hx2 := Lib.hid hx2
    have hR := hT.rep
    have hWx := hW1 x (by omega)
    have hlenS : Calls Tryz.prog 50 #[.pointer (some ⟨c, 0, none⟩)] wr fun e w' => e = .returned (.int .i64 (cl : Int)) ∧ w' = wr := by rw [hcl.out]; exact Len_s hR hWx hc
    replace hlenS := Lib.hid hlenS
    by_cases hlt : i < cl
    · have hltI : (i : Int) < (cl : Int) := by omega
      have hil : i < (s.lits c).length := by rw [← hcl.out]; exact hlt
      have hG := Get_s hR hWx (c := c) hc (i := i) hil
      have hzl := hW.out.lit c hc i hil
      have m1 := hR.val (v := nth (s.lits c) i / 2) (by show nth (s.lits c) i / 2 < s.nv; omega)
      have hva1 := hva (nth (s.lits c) i / 2) (by omega)
      have hv1 : (s.setWord c x).va (nth (s.lits c) i / 2) = s.toMS.va (nth (s.lits c) i / 2) := rfl
      have hmb1 : (s.setWord c x).modelB = s.modelB := rfl
      rw [hv1, hmb1] at m1
      have hl1 : nth ((s.setWord c x).lits c) i = nth (s.lits c) i := rfl
      rw [hl1] at hG
      have hI := incLbd_c (c := c) (x := x) (w := wr) (by have := hR.clc hc (j := 1) rfl; rw [setWord_word] at this; exact this) (hR.clf hc 1) (by omega)
      have t2 := hT.trans (hR.setWord hc (x + 1))
      rw [setWord_two] at t2
      have hp0 : i = 0 → s.toMS.va (nth (s.lits c) i / 2) = p0 := by intro e; rw [e, hgx.out]; exact hgp.out
      replace hp0 := Lib.hid hp0
      generalize nth (s.lits c) i = z at *
      clear hv1 hmb1 hl1
      generalize s.toMS.va (z / 2) = p at *
      have b1 := fun w => abs_c p w (by omega) (by omega)
      have hzs : z < 2147483648 := by omega
      have k4 : (z : Int) / 2 < (s.nv : Int) := by omega
      have k5 : (0 : Int) ≤ (z : Int) / 2 := by omega
      have k6 : ((z : Int) / 2).toNat = z / 2 := by omega
      replace hT := Lib.hid hT
      replace t2 := Lib.hid t2
      replace hG := Lib.hid hG
      replace hI := Lib.hid hI
      replace hWx := Lib.hid hWx
      by_cases he : (p.natAbs : Int) = y
      · have heb : ((p.natAbs : Int) == y) = true := by simp [he]
        go_wp2_with (first
          | (go_at_call 50; refine Calls.ret hlenS.out ?_)
          | (go_at_call 52; refine Calls.ret hG.out ?_)
          | (go_at_call 29; refine Calls.ret (Var_c z _ hzs) ?_)
          | (go_at_call 71; refine Calls.ret (b1 _) ?_)
          | (go_at_call 130; refine hI.out.mono ?_; rintro e w' ⟨rfl, rfl⟩))
        exact ⟨⟨i + 1, x, y, rfl, by go_num, by omega, hx1, ⟨fun h => absurd h (by omega), fun _ => by
          rcases Nat.eq_zero_or_pos i with e | e
          · have := (hx2.out.1 e).2; omega
          · have := hx2.out.2 e; omega⟩, hT.out⟩, by simp [intOf]; omega⟩
      · have heb : ((p.natAbs : Int) == y) = false := by simp [he]
        go_wp2_with (first
          | (go_at_call 50; refine Calls.ret hlenS.out ?_)
          | (go_at_call 52; refine Calls.ret hG.out ?_)
          | (go_at_call 29; refine Calls.ret (Var_c z _ hzs) ?_)
          | (go_at_call 71; refine Calls.ret (b1 _) ?_)
          | (go_at_call 130; refine hI.out.mono ?_; rintro e w' ⟨rfl, rfl⟩))
        exact ⟨⟨i + 1, x + 1, _, rfl, by go_num, by omega, by omega, ⟨fun h => absurd h (by omega), fun _ => by
          rcases Nat.eq_zero_or_pos i with e | e
          · exact absurd ((congrArg (fun z : Int => (z.natAbs : Int)) (hp0.out e)).trans (hx2.out.1 e).1.symm) he
          · have := hx2.out.2 e; omega⟩, by have h' := t2.out; simp only [Int.natCast_add, Int.cast_ofNat_Int] at h'; exact h'⟩, by simp [intOf]; omega⟩
    · have e : cl = (s.lits c).length := hcl.out
      go_wp2_with (first
          | (go_at_call 50; refine Calls.ret hlenS.out ?_))
      go_end0
      exact ⟨rfl, x, hx1, by have := hx2.out.2 (by omega); omega, hT⟩
end Go.Proofs.YtiimddkopiknpaaGreatDoor

/-
  learnClause: what it makes; the clause that comes to the solver's.
-/
namespace Go.Proofs.YtiimddkopiknpaaGreatDoor
open Go.RowKit

theorem heap_alloc_self (w : World) (o : Obj) : (w.alloc o).heap[w.heap.size]? = some o := _root_.Go.heap_alloc_new w o
theorem own_new (w : World) (e : TypeId) (k n : Nat) (xs : List Value) (hn : n ≤ maxLen) (hl : xs.length = n * k) : (w.alloc (.cells xs.toArray e)).ownsRow 0 e k (.slice (some ⟨w.heap.size, 0, none⟩) n n) n xs := by
  refine ⟨hl, .inr ⟨w.heap.size, n, xs.toArray, rfl, Nat.zero_le _, heap_alloc_self _ _, Nat.le_refl _, hn, by simp [hl], by simp [← hl]⟩⟩
theorem own_rep (w : World) (e : TypeId) (n : Nat) (z : Value) (hn : n ≤ maxLen) : (w.alloc (.cells (Array.replicate n z) e)).ownsRow 0 e 1 (.slice (some ⟨w.heap.size, 0, none⟩) n n) n (List.replicate n z) := by
  have := own_new w e 1 n (List.replicate n z) hn (by simp)
  simpa using this
theorem own_box (w : World) (e : TypeId) (xs : List Value) : (w.alloc (.cells xs.toArray e)).ownsRow 0 e xs.length (.slice (some ⟨w.heap.size, 0, none⟩) 1 1) 1 xs := by
  refine ⟨by simp, .inr ⟨w.heap.size, 1, xs.toArray, rfl, Nat.zero_le _, heap_alloc_self _ _, Nat.le_refl _, by decide, by simp, by simp⟩⟩

theorem madeCells_one (z : Value) (n : Nat) : madeCells #[z] n = (List.replicate n z).toArray := by
  unfold madeCells
  apply Array.ext
  · simp
  · intro i h1 h2
    simp [Nat.mod_one]
/-- make of one-cell elements, as an equation -/
theorem make_rep {P : Program} (t e : TypeId) (z : Value) (by_ : Nat) (ht : P.underlying t = some (.slice e)) (hinfo : (P.info? e).map (fun i => (i.zero, i.size, i.bytes)) = some (some z, 1, by_)) (hz : z.cells = #[z]) (n : Nat) (hb : by_ * n ≤ 281474976710656) (hn : n ≤ maxLen) (w : World) :
    (Instr.makeSlice t (.int .i64 (n : Int)) (.int .i64 (n : Int))).run P w = .ok (.slice (some ⟨w.heap.size, 0, none⟩) n n) (w.alloc (.cells (Array.replicate n z) e)) := by
  obtain ⟨i, hi, h0, h1, h2⟩ := info_parts hinfo
  have hb' : (i.bytes : Int) * (n : Int) ≤ 281474976710656 := by rw [h2]; have : ((by_ * n : Nat) : Int) ≤ 281474976710656 := by omega
                                                                 rwa [Int.natCast_mul] at this
  have hr := run_make (P := P) w t e i z ht hi h0 .i64 .i64 n n (by omega) (by omega) hb' (by unfold maxLen at hn; omega)
  rw [hr, h1, hz, Int.toNat_natCast, Nat.mul_one, madeCells_one]; simp

/-- the same, with more room than length -/
theorem make_rep2 {P : Program} (t e : TypeId) (z : Value) (by_ : Nat) (ht : P.underlying t = some (.slice e)) (hinfo : (P.info? e).map (fun i => (i.zero, i.size, i.bytes)) = some (some z, 1, by_)) (hz : z.cells = #[z]) (n c : Nat) (hnc : n ≤ c) (hb : by_ * c ≤ 281474976710656) (hn : c ≤ maxLen) (w : World) :
    (Instr.makeSlice t (.int .i64 (n : Int)) (.int .i64 (c : Int))).run P w = .ok (.slice (some ⟨w.heap.size, 0, none⟩) n c) (w.alloc (.cells (Array.replicate c z) e)) := by
  obtain ⟨i, hi, h0, h1, h2⟩ := info_parts hinfo
  have hb' : (i.bytes : Int) * (c : Int) ≤ 281474976710656 := by rw [h2]; have : ((by_ * c : Nat) : Int) ≤ 281474976710656 := by omega
                                                                 rwa [Int.natCast_mul] at this
  have hr := run_make (P := P) w t e i z ht hi h0 .i64 .i64 n c (by omega) (by omega) hb' (by unfold maxLen at hn; omega)
  rw [hr, h1, hz, Int.toNat_natCast, Int.toNat_natCast, Nat.mul_one, madeCells_one]; simp

def MS.addC (m : MS) (c : Nat) (L : List Nat) (x : Nat) : MS := { m with ids := c :: m.ids, lits := fun c' => if c' = c then L else m.lits c', word := fun c' => if c' = c then x else m.word c' }
def St.addC (s : St) (c : Nat) (L : List Nat) (V : Value) (x : Nat) (act : Value) : St :=
  { s with ids := c :: s.ids, lits := fun c' => if c' = c then L else s.lits c', word := fun c' => if c' = c then x else s.word c', litV := fun c' => if c' = c then V else s.litV c', actC := fun c' => if c' = c then act else s.actC c' }
theorem St.addC_ms (s : St) (c : Nat) (L : List Nat) (V : Value) (x : Nat) (act : Value) : (s.addC c L V x act).toMS = s.toMS.addC c L x := rfl

theorem Hd.addC {s : St} (h : Hd s) (c : Nat) (L : List Nat) (V : Value) (x : Nat) (act : Value) (ha : isF32 act) : Hd (s.addC c L V x act) :=
  h.congr rfl rfl rfl rfl rfl rfl rfl rfl rfl rfl rfl rfl rfl rfl rfl rfl rfl rfl rfl rfl rfl rfl rfl rfl rfl h.fact
    (fun c' hc' => by
      simp only [St.addC] at hc' ⊢
      split
      · exact ha
      · rename_i e
        exact h.facc c' (by simpa [e] using hc')) h.ftb

/-- no clause lies at a block that is not there -/
theorem Rep.fresh {s : St} {w : World} (h : Rep s w) {c : Nat} (hc : c ∈ s.ids) : c < w.heap.size :=
  h.rows.lt ⟨.cl c, by simp [St.row, hc, Row.one, Value.ownBlock]⟩

/-- the literals' row and the clause's block come to the solver's rows -/
theorem Rows.addC {s : St} {σ : Lo → Row} {w : World} (h : Rows (s.rl σ) w) {c : Nat} {L : List Nat} {V : Value} {x : Nat} {act : Value} (hc : c ∉ s.ids)
    (h2 : σ .l2 = ⟨82, 1, V, L.length, L.map i32⟩) (h3 : σ .ncl = .one 112 4 c [V, .int .u32 x, act, .pointer none]) :
    Rows (s.addC c L V x act).row w ∧ ∀ b, Own (s.addC c L V x act).row b → Own (s.rl σ) b := by
  refine h.rename (ρ' := (s.addC c L V x act).row) (fun r => match r with | .cl c' => if c' = c then some (.inr .ncl) else some (.inl (.cl c')) | .li c' => if c' = c then some (.inr .l2) else some (.inl (.li c')) | r => some (.inl r)) ?_ ?_ ?_
  · intro r r' he
    cases r
    case cl c' =>
      simp only [] at he
      split at he
      · rename_i e; subst e
        cases he
        simp only [St.rl, Sum.elim_inr, h3]
        simp [St.row, St.addC]
      · rename_i e
        cases he
        simp [St.rl, St.row, St.addC, e]
    case li c' =>
      simp only [] at he
      split at he
      · rename_i e; subst e
        cases he
        simp only [St.rl, Sum.elim_inr, h2]
        simp [St.row, St.addC]
      · rename_i e
        cases he
        simp [St.rl, St.row, St.addC, e]
    all_goals (cases he; rfl)
  · intro r he
    cases r
    case cl c' => simp only [] at he; split at he <;> cases he
    case li c' => simp only [] at he; split at he <;> cases he
    all_goals cases he
  · intro r1 r2 r e1 e2
    cases r1 <;> cases r2 <;> simp only [] at e1 e2 <;> (try split at e1) <;> (try split at e2) <;> simp_all <;> (subst e1; simp_all)

end Go.Proofs.YtiimddkopiknpaaGreatDoor
