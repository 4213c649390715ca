/-
  A literal is chosen; the queue is made anew; small functions.
-/
import Derived.Test.YtiimddkopiknpaaGreatDoorB15
import Derived.Test.YtiimddkopiknpaaGreatDoorB03
import Derived.Deep.LoopGhost
import Derived.Test.YtiimddkopiknpaaGreatDoorB04
import Derived.ArgAppend
import Derived.Test.YtiimddkopiknpaaGreatDoorB14
set_option linter.unusedVariables false
set_option linter.unusedSimpArgs false

/-
  The solver's state: the queue made anew; single numbers of the solver's block.
-/
namespace Go.Proofs.YtiimddkopiknpaaGreatDoor
open Go.RowKit

/-- a header list with some places set -/
theorem Hd.setN {s : St} (h : Hd s) (j : Nat) (n : Int) (hj : (5087 ≤ j ∧ j < 5094 ∧ j ≠ 5088) ∨ j = 5097) : Hd (s.setSc j (i64 n)) := by
  obtain ⟨h1', h3', h4', h5', h6, h7, h8, h9, h10, h11, h12, h13, h14, h15, h17, h18, h19, h20, h21, h22, h23, h24, h25, h26, h27, h28, h29, h30, h31, h32, h33, h34, h35, h36, h5087, h5088, h5094, h5097, h5098, h5099, ha, hb, hc⟩ := h
  have ex : ∀ k : Nat, (∃ m : Int, s.sc[k]? = some (i64 m)) → ∃ m : Int, (s.sc.set j (i64 n))[k]? = some (i64 m) := by
    rintro k ⟨m, hm⟩
    by_cases e : j = k
    · subst e; exact ⟨n, set_eq_get _ _ _ _ hm⟩
    · exact ⟨m, by rw [set_ne_get _ _ _ _ e]; exact hm⟩
  have ne : ∀ k, k < 5087 → j ≠ k := fun k hk => by omega
  constructor <;> simp only [St.setSc]
  case f36 => intro j' a b; exact ex _ (h36 j' a b)
  case f5087 => intro j' a b c; exact ex _ (h5087 j' a b c)
  case f5097 => exact ex _ h5097
  case fact => exact ha
  case facc => exact hb
  case ftb => exact hc
  all_goals
    (first
      | (rw [set_ne_get _ _ _ _ (by omega)]; assumption)
      | (simp only [set_ne_get _ j _ _ (ne 24 (by omega)), set_ne_get _ j _ _ (ne 25 (by omega)), set_ne_get _ j _ _ (ne 26 (by omega)), set_ne_get _ j _ _ (ne 27 (by omega)), set_ne_get _ j _ _ (ne 30 (by omega)), set_ne_get _ j _ _ (ne 31 (by omega)), set_ne_get _ j _ _ (ne 32 (by omega)), set_ne_get _ j _ _ (ne 35 (by omega)), set_ne_get _ j _ _ (show j ≠ 5098 by omega)]; assumption))

def St.newQ (s : St) (V W : Value) (C : List Nat) (I : List Int) : St := { s with sc := (s.sc.set 22 V).set 23 W, qcV := V, qiV := W, qc := C, qi := I }
theorem Hd.newQ {s : St} (h : Hd s) (hq : s.qiV ≠ .slice none 0 0) (V W : Value) (C : List Nat) (I : List Int) : Hd (s.newQ V W C I) := by
  have ho : ∀ j, j ≠ 22 → j ≠ 23 → ((s.sc.set 22 V).set 23 W)[j]? = s.sc[j]? := fun j h1 h2 => by rw [set_ne_get _ _ _ _ (Ne.symm h2), set_ne_get _ _ _ _ (Ne.symm h1)]
  obtain ⟨h1, h3, h4, h5, h6, h7, h8, h9, h10, h11, h12, h13, h14, h15, h17, h18, h19, h20, h21, h22, h23, h24, h25, h26, h27, h28, h29, h30, h31, h32, h33, h34, h35, h36, h5087, h5088, h5094, h5097, h5098, h5099, ha, hb, hc⟩ := h
  constructor <;> simp only [St.newQ]
  case f21 => intro _; rw [ho 21 (by omega) (by omega)]; exact h21 hq
  case f22 => rw [set_ne_get _ _ _ _ (by omega)]; exact set_eq_get _ _ _ _ h22
  case f23 => exact set_eq_get _ _ _ _ (by rw [set_ne_get _ _ _ _ (by omega)]; exact h23)
  case f36 => intro j a b; rw [ho j (by omega) (by omega)]; exact h36 j a b
  case f5087 => intro j a b c; rw [ho j (by omega) (by omega)]; exact h5087 j a b c
  case fact => exact ha
  case facc => exact hb
  case ftb => exact hc
  all_goals
    rw [ho _ (by omega) (by omega)]
    assumption

/-- all but the queue and the solver's single numbers that stand for nothing -/
def St.noQ (s : St) : St := { s with sc := [], qcV := .slice none 0 0, qiV := .slice none 0 0, qc := [], qi := [] }
structure QT (s : St) (w : World) (s' : St) (w' : World) : Prop where
  tr : Tr s.row w s'.row w'
  hd : Hd s'
  same : s'.noQ = s.noQ
theorem QT.refl {s : St} {w : World} (h : Rep s w) : QT s w s w := ⟨Tr.refl h.rows, h.hd, rfl⟩
theorem QT.rep {s s' : St} {w w' : World} (h : QT s w s' w') : Rep s' w' := ⟨h.tr.rows, h.hd⟩
theorem QT.trans {s s1 s2 : St} {w w1 w2 : World} (h : QT s w s1 w1) (h' : QT s1 w1 s2 w2) : QT s w s2 w2 := ⟨h.tr.trans h'.tr, h'.hd, h'.same.trans h.same⟩
theorem QT.drewN {s s' : St} {w w' : World} (h : QT s w s' w') (n : Nat) : QT s w s' (w'.drewN n) := ⟨h.tr.drewN n, h.hd, h.same⟩
theorem QT.drew {s s' : St} {w w' : World} (h : QT s w s' w') : QT s w s' w'.drew := h.drewN 1
theorem QT.sb {s s' : St} {w w' : World} (h : QT s w s' w') : s'.sb = s.sb := by have := congrArg St.sb h.same; simpa [St.noQ] using this
theorem QT.ms {s s' : St} {w w' : World} (h : QT s w s' w') : s'.toMS = s.toMS := by have := congrArg St.toMS h.same; simpa [St.noQ] using this
theorem QT.nv {s s' : St} {w w' : World} (h : QT s w s' w') : s'.nv = s.nv := congrArg MS.nv h.ms
section
variable {s : St} {w : World}
theorem Rep.setN (h : Rep s w) (j : Nat) (n : Int) (hj : (5087 ≤ j ∧ j < 5094 ∧ j ≠ 5088) ∨ j = 5097) : QT s w (s.setSc j (i64 n)) (w.setCell ⟨s.sb, j, none⟩ (.int .i64 n)) :=
  ⟨h.rows.set .sol rfl j (i64 n) (by simp [St.row, St.setSc, Row.one]) (fun r hr => by cases r <;> first | rfl | contradiction), h.hd.setN j n hj, rfl⟩
theorem Rep.qiV_ne (h : Rep s w) (hq : 0 < s.qi.length) : s.qiV ≠ .slice none 0 0 := by
  intro e
  obtain ⟨b, hb⟩ := h.rows.pos .qi hq
  have hb : s.qiV.ownBlock = some b := hb
  rw [e] at hb; cases hb
/-- the queue has been made anew -/
theorem Rep.ofQ2 (h : Rep s w) (hq : 0 < s.qi.length) {w' : World} {ρ : Role → Row} {C : List Nat} {I : List Int} (q : QRow ρ .sol .qc .qi .act s.sb 21 s.actB s.nv C I) (t : Tr s.row w ρ w')
    (e1 : ρ .sol = { s.row .sol with xs := (s.sc.set 22 (ρ .qc).v).set 23 (ρ .qi).v }) (e2 : ∀ r, r ≠ .qc → r ≠ .qi → r ≠ .sol → ρ r = s.row r) : QT s w (s.newQ (ρ .qc).v (ρ .qi).v C I) w' := by
  have e : (s.newQ (ρ .qc).v (ρ .qi).v C I).row = ρ := by
    funext r
    by_cases h1 : r = .qc
    · subst h1
      obtain ⟨V, hV⟩ := q.c
      rw [hV]; rfl
    · by_cases h2 : r = .qi
      · subst h2
        obtain ⟨V, hV⟩ := q.i
        rw [hV]; rfl
      · by_cases h3 : r = .sol
        · subst h3; rw [e1]; rfl
        · rw [e2 r h1 h2 h3]
          cases r <;> first | rfl | contradiction
  exact ⟨by rw [e]; exact t, h.hd.newQ (h.qiV_ne hq) _ _ _ _, rfl⟩
theorem Rep.ofQ1 (h : Rep s w) (hq : 0 < s.qi.length) {w' : World} {ρ : Role → Row} {C : List Nat} {I : List Int} (q : QRow ρ .sol .qc .qi .act s.sb 21 s.actB s.nv C I) (t : Tr s.row w ρ w')
    (e1 : ρ .sol = { s.row .sol with xs := (s.row .sol).xs.set 22 (ρ .qc).v }) (e3 : (ρ .qi).v = (s.row .qi).v) (e2 : ∀ r, r ≠ .qc → r ≠ .qi → r ≠ .sol → ρ r = s.row r) : QT s w (s.newQ (ρ .qc).v (ρ .qi).v C I) w' := by
  refine h.ofQ2 hq q t ?_ e2
  rw [e1]
  have : ((s.sc.set 22 (ρ .qc).v).set 23 (ρ .qi).v) = (s.row .sol).xs.set 22 (ρ .qc).v := by
    refine set_same _ _ _ ?_
    rw [set_ne_get _ _ _ _ (by omega), e3]; exact h.hd.f23
  rw [this]
end
/-- what insert, removeMin and build leave of the solver -/
theorem insert_s {s : St} {w : World} (h : Rep s w) (hQ : QI s.nv s.qc s.qi) {v : Nat} (hv : v < s.nv) (hl : s.qi.length = s.nv) (hb : s.qc.length ≤ 100000000) (hbi : s.nv ≤ 100000000) :
    Calls Tryz.prog 38 #[.pointer (some ⟨s.sb, 21, none⟩), .int .i64 (v : Int)] w fun e w' => e = .returned (.tuple #[]) ∧ ∃ s', QT s w s' w' ∧ s'.qc.Perm (s.qc ++ [v]) ∧ s'.qi.length = s.nv ∧ QI s.nv s'.qc s'.qi := by
  refine (insert_c (h.queue (by omega)) h.rows hQ hv (by omega) hb (by omega)).mono ?_
  rintro e w' ⟨rfl, ρ, C, I, h1, h2, h3, h4, h5, h6, h7, h8⟩
  refine ⟨rfl, s.newQ (ρ .qc).v (ρ .qi).v C I, h.ofQ2 (by omega) h3 h6 h7 h8, h5, ?_, h4⟩
  show I.length = _
  rw [h2]; omega
theorem removeMin_s {s : St} {w : World} (h : Rep s w) (hQ : QI s.nv s.qc s.qi) (hl : s.qi.length = s.nv) (hc : 0 < s.qc.length) (hb : s.qc.length ≤ 400000000) (hbi : s.nv ≤ 100000000) :
    Calls Tryz.prog 82 #[.pointer (some ⟨s.sb, 21, none⟩)] w fun e w' => e = .returned (.int .i64 (nth s.qc 0 : Nat)) ∧ ∃ s', QT s w s' w' ∧ s'.qc.length + 1 = s.qc.length ∧ (∀ v ∈ s.qc, v ≠ nth s.qc 0 → v ∈ s'.qc) ∧ s'.qi.length = s.nv ∧ QI s.nv s'.qc s'.qi := by
  obtain ⟨z1, z2⟩ := hQ.c 0 hc
  refine (removeMin_c (h.queue (by omega)) h.rows hQ hc hb (by omega)).mono ?_
  rintro e w' ⟨rfl, ρ, C, I, h1, h2, h3, h4, h5, h6, h7, h8, h9⟩
  exact ⟨rfl, s.newQ (ρ .qc).v (ρ .qi).v C I, h.ofQ1 (by omega) h3 h6 h7 h8 h9, h1, h5, h2.trans hl, h4⟩
theorem qempty_s {s : St} {w : World} (h : Rep s w) (hl : 0 < s.qi.length) :
    Calls Tryz.prog 81 #[.pointer (some ⟨s.sb, 21, none⟩)] w fun e w' => e = .returned (.bool (s.qc.length == 0)) ∧ w' = w := qempty_c (h.queue hl) h.rows
theorem build_s {s : St} {w : World} (h : Rep s w) (hQ : QI s.nv s.qc s.qi) (hl : s.qi.length = s.nv) (h0 : 0 < s.nv) (hb : s.qc.length ≤ 400000000) (hbi : s.nv ≤ 100000000) {ns : List Nat} {nb nn ncap : Nat} (hn : nn = ns.length) (hn1 : ns.length ≤ 100000000) (hN : NsAt w nb ns) (hnb : nb < w.heap.size) (hno : ¬ Own s.row nb)
    (hns : ∀ v ∈ ns, v < s.nv) :
    Calls Tryz.prog 46 #[.pointer (some ⟨s.sb, 21, none⟩), .slice (some ⟨nb, 0, none⟩) nn ncap] w fun e w' => e = .returned (.tuple #[]) ∧ ∃ s', QT s w s' w' ∧ s'.qc.Perm ns ∧ s'.qi.length = s.nv ∧ QI s.nv s'.qc s'.qi := by
  refine (build_c (h.queue (by omega)) h.rows hQ hb (by omega) (by omega) hn hn1 hN hnb hno (fun v hv => ⟨hns v hv, by rw [hl]; exact hns v hv⟩)).mono ?_
  rintro e w' ⟨rfl, ρ, C, I, h1, h2, h3, h4, h5, h6, h7, h8⟩
  exact ⟨rfl, s.newQ (ρ .qc).v (ρ .qi).v C I, h.ofQ1 (by omega) h3 h4 h7 h6 h8, h1, h2.trans hl, h5⟩
end Go.Proofs.YtiimddkopiknpaaGreatDoor

/-
  chooseLit: the next variable that is not bound.
-/
namespace Go.Proofs.YtiimddkopiknpaaGreatDoor
open Go.RowKit

theorem signedLit_c (v : Nat) (b : Bool) (w : World) (hv : v < 1000000000) : Calls Tryz.prog 83 #[.int .i32 (v : Int), .bool b] w fun e w' => e = .returned (.int .i32 ((2 * v + (if b then 1 else 0) : Nat) : Int)) ∧ w' = w := by
  have h1 : IntKind.i32.wrap ((v : Int) * 2) = (v : Int) * 2 := IntWalk.i32_in _ (by omega)
  have h2 : IntKind.i32.wrap ((v : Int) * 2 + 1) = (v : Int) * 2 + 1 := IntWalk.i32_in _ (by omega)
  cases b with
  | true =>
    have h3 : ((2 * v + (if true = true then 1 else 0) : Nat) : Int) = (v : Int) * 2 + 1 := by simp; omega
    rw [h3]
    clear h3
    go_enter Tryz.func83, Tryz.ntmps83
    go_wp2_with fail
    go_ret
    exact ⟨rfl, rfl⟩
  | false =>
    have h3 : ((2 * v + (if false = true then 1 else 0) : Nat) : Int) = (v : Int) * 2 := by simp; omega
    rw [h3]
    clear h3
    go_enter Tryz.func83, Tryz.ntmps83
    go_wp2_with fail
    go_ret
    exact ⟨rfl, rfl⟩

/-- what is chosen -/
def CLPost (s : St) (w : World) (e : Ending) (w' : World) : Prop := ∃ s', QT s w s' w' ∧ s'.qi.length = s.nv ∧ QI s.nv s'.qc s'.qi ∧ s'.qc.length ≤ s.qc.length ∧
  ((e = .returned (.int .i32 (-1)) ∧ ∀ u ∈ s.qc, s.toMS.va u ≠ 0) ∨
   (∃ l : Nat, e = .returned (.int .i32 (l : Int)) ∧ l / 2 < s.nv ∧ s.toMS.va (l / 2) = 0 ∧ ∀ u ∈ s.qc, s.toMS.va u = 0 → u ≠ l / 2 → u ∈ s'.qc))
def CLRel (s : St) (w : World) (k : Nat) (v3 : Value) (wr : World) : Prop := ∃ s', k = s'.qc.length ∧ QT s w s' wr ∧ s'.qi.length = s.nv ∧ QI s.nv s'.qc s'.qi ∧ s'.qc.length ≤ s.qc.length ∧
  ((v3 = .int .i32 (-1) ∧ ∀ u ∈ s.qc, s.toMS.va u = 0 → u ∈ s'.qc) ∨
   (∃ v : Nat, v3 = .int .i32 (v : Int) ∧ v < s.nv ∧ s.toMS.va v = 0 ∧ ∀ u ∈ s.qc, s.toMS.va u = 0 → u ≠ v → u ∈ s'.qc))

set_option maxRecDepth 100000 in
set_option maxHeartbeats 8000000 in
theorem chooseLit_c {s : St} {w : World} (h : Rep s w) (hQ : QI s.nv s.qc s.qi) (hl : s.qi.length = s.nv) (h0 : 0 < s.nv) (hnv : s.nv ≤ 1000000) (hb : s.qc.length ≤ 400000000) :
    Calls Tryz.prog 45 #[.pointer (some ⟨s.sb, 0, none⟩)] w (CLPost s w) := by
  go_enter Tryz.func45, Tryz.ntmps45
  go_wp2_with fail
  go_loopg [3] s.qc.length (fun k v3 wr => CLRel s w k v3 wr)
  case atStart => exact ⟨s, rfl, QT.refl h, hl, hQ, Nat.le_refl _, .inl ⟨rfl, fun u hu _ => hu⟩⟩
  case round =>
    obtain ⟨s', hgk, hT, hl', hQ', hle, hcase⟩ := hrel
    have hR := hT.rep
    have hsb := hT.sb
    have hnv' := hT.nv
    have hms := hT.ms
    rcases hcase with ⟨rfl, hin⟩ | ⟨v, rfl, hv, hva, hin⟩
    · by_cases h0' : s'.qc.length = 0
      · have hE := qempty_s hR (by omega)
        rw [hsb] at hE
        have hb0 : (s'.qc.length == 0) = true := by simp [h0']
        rw [hb0] at hE
        have hfin : CLPost s w (.returned (.int .i32 (-1))) wr := by
          refine ⟨s', hT, hl', hQ', hle, .inl ⟨rfl, fun u hu hz => ?_⟩⟩
          have := hin u hu hz
          rw [List.length_eq_zero_iff.1 h0'] at this
          cases this
        replace hfin := Lib.hid hfin
        replace hE := Lib.hid hE
        clear hgk hQ' hle hin hR hsb hnv' hms hb0 h0' hl'
        go_wp2_with (go_at_call 81; refine Calls.ret hE.out ?_)
        go_ret
        exact hfin.out
      · have hE := qempty_s hR (by omega)
        rw [hsb] at hE
        have hb0 : (s'.qc.length == 0) = false := by simp [h0']
        rw [hb0] at hE
        have hM := removeMin_s hR (by rw [hnv']; exact hQ') (by rw [hnv']; exact hl') (by omega) (by omega) (by omega)
        rw [hsb] at hM
        obtain ⟨x1, x2⟩ := hQ'.c 0 (by omega)
        obtain ⟨x, hx⟩ : ∃ x, x = nth s'.qc 0 := ⟨_, rfl⟩
        rw [← hx] at hM x1 x2
        have hw32 : IntKind.i32.wrap (x : Int) = (x : Int) := IntWalk.i32_in _ (by omega)
        have xI : (x : Int) < (s.nv : Int) := by omega
        replace hM := Lib.hid hM
        replace hE := Lib.hid hE
        replace hT := Lib.hid hT
        replace hin := Lib.hid hin
        replace hQ' := Lib.hid hQ'
        replace hgk := Lib.hid hgk
        replace hx := Lib.hid hx
        replace hms := Lib.hid hms
        replace hsb := Lib.hid hsb
        replace hnv' := Lib.hid hnv'
        replace hl' := Lib.hid hl'
        clear hb0 hR
        go_upto_region 4 with (first
          | (go_at_call 81; refine Calls.ret hE.out ?_)
          | (go_at_call 82; refine hM.out.mono ?_; rintro e w2 ⟨rfl, s2, hT2, k1, k2, k3, k4⟩))
        have hT3 := hT.out.trans hT2
        have hR3 := hT3.rep
        have hnv3 := hT3.nv
        have hms3 := hT3.ms
        have f15 := hR3.sc hR3.hd.f15
        rw [hT3.sb, hnv3] at f15
        unfold slV at f15
        have g1 := hR3.val (v := x) (by rw [hnv3]; exact x1)
        rw [show s2.va x = s.toMS.va x from by show s2.toMS.va x = _; rw [hms3]] at g1
        obtain ⟨y, hy⟩ : ∃ y, y = s.toMS.va x := ⟨_, rfl⟩
        rw [← hy] at g1
        have hle2 : s2.qc.length ≤ s.qc.length := by omega
        rw [hnv'.out] at k3 k4
        have hk2 : ∀ u ∈ s.qc, s.toMS.va u = 0 → u ≠ x → u ∈ s2.qc := fun u hu hz hne => k2 u (hin.out u hu hz) hne
        replace hT3 := Lib.hid hT3
        replace hk2 := Lib.hid hk2
        replace k4 := Lib.hid k4
        replace hy := Lib.hid hy
        clear hT2 k2 hnv3 hms3 hR3
        by_cases hy0 : y = 0
        · have hyb : (y == 0) = true := by simp [hy0]
          go_wp2_with fail
          go_roundg s2.qc.length
          case measure => have := hgk.out; omega
          case rel => exact ⟨s2, rfl, hT3.out, k3, k4.out, hle2, .inr ⟨x, rfl, x1, by rw [← hy.out]; exact hy0, hk2.out⟩⟩
        · have hyb : (y == 0) = false := by simp [hy0]
          go_wp2_with fail
          go_roundg s2.qc.length
          case measure => have := hgk.out; omega
          case rel =>
            refine ⟨s2, rfl, hT3.out, k3, k4.out, hle2, .inl ⟨rfl, fun u hu hz => hk2.out u hu hz ?_⟩⟩
            intro e; rw [e, ← hy.out] at hz; exact hy0 hz
    · have hvb : ((v : Int) == -1) = false := by simp
      obtain ⟨n9, hn9⟩ := hR.hd.f5087 5089 (by omega) (by omega) (by omega)
      have c9 := hR.sc hn9
      rw [hsb] at c9
      simp only [i64] at c9
      have f9 := hR.scf 5089
      rw [hsb] at f9
      have t9 := hR.setN 5089 (wrap64 (n9 + 1)) (.inl ⟨by omega, by omega, by omega⟩)
      rw [hsb] at t9
      have hT9 := hT.trans t9
      obtain ⟨s9, hs9⟩ : ∃ s9, s9 = s'.setSc 5089 (i64 (wrap64 (n9 + 1))) := ⟨_, rfl⟩
      have hq9 : s'.qi = s9.qi ∧ s'.qc = s9.qc := by rw [hs9]; exact ⟨rfl, rfl⟩
      rw [← hs9] at hT9
      clear hs9
      clear hT hsb hms hnv'
      replace hq9 := Lib.hid hq9
      replace hT9 := Lib.hid hT9
      replace hin := Lib.hid hin
      replace hQ' := Lib.hid hQ'
      replace hgk := Lib.hid hgk
      clear t9 hR
      go_upto_region 9 with fail
      obtain ⟨w9, hw9⟩ : ∃ w9, w9 = wr.setCell ⟨s.sb, 5089, none⟩ (.int .i64 (wrap64 (n9 + 1))) := ⟨_, rfl⟩
      rw [← hw9] at hT9 ⊢
      clear hw9 c9 f9
      have hR := hT9.out.rep
      have hnv' := hT9.out.nv
      have hsb := hT9.out.sb
      have f18 := hR.sc hR.hd.f18
      rw [hsb, hnv'] at f18
      unfold slV at f18
      have hpl : s9.polL.length = s.nv := by rw [hR.pol_len]; exact hnv'
      have g1 : w9.cell? ⟨s9.polB, v, none⟩ = some (.bool (s9.polL.getD v false)) := hR.rows.cell .pol (b := s9.polB) rfl (getElem?_map_getD Value.bool s9.polL false v (by rw [hpl]; exact hv))
      have hSL := fun w => signedLit_c v (!(s9.polL.getD v false)) w (by omega)
      obtain ⟨l, hle1⟩ : ∃ l, l = 2 * v + (if (!(s9.polL.getD v false)) = true then 1 else 0) := ⟨_, rfl⟩
      rw [← hle1] at hSL
      have hl2 : l / 2 = v := by rw [hle1]; split <;> omega
      have hfin : CLPost s w (.returned (.int .i32 (l : Int))) w9 := by
        refine ⟨_, hT9.out, by rw [← hq9.out.1]; exact hl', by rw [← hq9.out.1, ← hq9.out.2]; exact hQ'.out, by rw [← hq9.out.2]; exact hle, .inr ⟨l, rfl, by rw [hl2]; exact hv, by rw [hl2]; exact hva, fun u hu hz hne => by rw [← hq9.out.2]; exact hin.out u hu hz (by rw [← hl2]; exact hne)⟩⟩
      have vI : (v : Int) < (s.nv : Int) := by omega
      replace hfin := Lib.hid hfin
      replace hSL := Lib.hid hSL
      generalize s9.polL.getD v false = pv at *
      clear hgk hQ' hle hin hR hnv' hl' hva hle1 hl2 hpl hq9
      go_wp2_with (go_at_call 83; refine Calls.ret (hSL.out _) ?_)
      go_ret
      exact hfin.out
end Go.Proofs.YtiimddkopiknpaaGreatDoor

/-
  rebuildOrderHeap: the queue is made anew of the variables that are not bound.
-/
namespace Go.Proofs.YtiimddkopiknpaaGreatDoor
open Go.RowKit

def nsR (V : Value) (L : List Nat) : Unit → Row := fun _ => ⟨3, 1, V, L.length, L.map fun (n : Nat) => i64 (n : Int)⟩
/-- the numbers after i variables are seen -/
structure RbL (s : St) (i : Nat) (L : List Nat) : Prop where
  len : L.length ≤ s.nv + i
  ne : 0 < L.length
  lt : ∀ v ∈ L, v < s.nv
  all : ∀ v, v < i → s.toMS.va v = 0 → v ∈ L
def RbRel (s : St) (w : World) (v2 v3 : Value) (wr : World) : Prop := ∃ (i : Nat) (L : List Nat), v3 = .int .i64 (i : Int) ∧ i ≤ s.nv ∧ RbL s i L ∧ Rows (Sum.elim s.row (nsR v2 L)) wr ∧ Tr s.row w (Sum.elim s.row (nsR v2 L)) wr
def RbPost (s : St) (w : World) (e : Ending) (w' : World) : Prop := e = .returned (.tuple #[]) ∧ ∃ s', QT s w s' w' ∧ s'.qi.length = s.nv ∧ QI s.nv s'.qc s'.qi ∧ s'.qc.length ≤ s.nv * 2 ∧ ∀ v, v < s.nv → s.toMS.va v = 0 → v ∈ s'.qc

theorem Rows.besideNew {ι : Type} {ρ : ι → Row} {w : World} (h : Rows ρ w) (o : Obj) (R : Row) (hv : R.v.ownBlock = some w.heap.size) (ho : (w.alloc o).ownsRow 0 R.e R.k R.v R.n R.xs) : Tr ρ w (Sum.elim ρ fun _ : Unit => R) (w.alloc o) := by
  refine ⟨⟨fun r => ?_, ?_⟩, (Fr.refl _ _).alloc o, ?_⟩
  · cases r with
    | inl r => exact (h.own r).alloc o
    | inr r => exact ho
  · have hx : ∀ r b, (ρ r).v.ownBlock = some b → R.v.ownBlock = some b → False := fun r b h1 h2 => by
      have := h.lt ⟨r, h1⟩
      rw [hv] at h2; simp at h2; omega
    intro r r' b h1 h2
    cases r with
    | inl r => cases r' with
      | inl r' => rw [h.inj r r' b h1 h2]
      | inr r' => exact (hx r b h1 h2).elim
    | inr r => cases r' with
      | inl r' => exact (hx r' b h2 h1).elim
      | inr r' => rfl
  · rintro b ⟨r, hr⟩
    cases r with
    | inl r => exact .inl ⟨r, hr⟩
    | inr r =>
      have hr : R.v.ownBlock = some b := hr
      rw [hv] at hr; simp at hr; exact .inr (by omega)

set_option maxRecDepth 100000 in
set_option maxHeartbeats 8000000 in
theorem rebuild_c {s : St} {w : World} (h : Rep s w) (hQ : QI s.nv s.qc s.qi) (hl : s.qi.length = s.nv) (h0 : 0 < s.nv) (hnv : s.nv ≤ 1000000) (hb : s.qc.length ≤ 400000000) :
    Calls Tryz.prog 36 #[.pointer (some ⟨s.sb, 0, none⟩)] w (RbPost s w) := by
  obtain ⟨iN, hiN, hz0, hz1, hz2⟩ := info_parts infoInt
  have mk1 := make_rep (P := Tryz.prog) 34 3 (.int .i64 0) 8 Tryz.underlying34 infoInt rfl s.nv (by omega) (by unfold maxLen; omega)
  have f4 := h.sc h.hd.f4
  simp only [i64] at f4
  obtain ⟨nv, hnve⟩ : ∃ nv, nv = s.nv := ⟨_, rfl⟩
  rw [← hnve] at f4 h0 hnv mk1
  have hstart : RbRel s w (.slice (some ⟨w.heap.size, 0, none⟩) nv nv) (.int .i64 0) (w.alloc (.cells (Array.replicate nv (.int .i64 0)) 3)) := by
    have ho := own_rep w 3 nv (.int .i64 0) (by unfold maxLen; omega)
    have hR := h.rows.besideNew (.cells (Array.replicate nv (.int .i64 0)) 3) ⟨3, 1, .slice (some ⟨w.heap.size, 0, none⟩) nv nv, nv, List.replicate nv (.int .i64 0)⟩ rfl ho
    have e : (fun _ : Unit => (⟨3, 1, .slice (some ⟨w.heap.size, 0, none⟩) nv nv, nv, List.replicate nv (.int .i64 0)⟩ : Row)) = nsR (.slice (some ⟨w.heap.size, 0, none⟩) nv nv) (List.replicate nv 0) := by
      funext _; unfold nsR; simp [i64]
    rw [e] at hR
    refine ⟨0, List.replicate nv 0, rfl, Nat.zero_le _, ⟨by simp; omega, by simp; omega, fun v hv => ?_, fun v hv => by omega⟩, hR.rows, hR⟩
    have := (List.mem_replicate.1 hv).2
    omega
  replace hQ := Lib.hid hQ
  replace hnve := Lib.hid hnve
  replace hl := Lib.hid hl
  replace hstart := Lib.hid hstart
  go_enter Tryz.func36, Tryz.ntmps36
  go_wp2_with fail
  go_loopw [2, 3] (fun v2 v3 wr => RbRel s w v2 v3 wr) (fun _ v3 _ => nv - (intOf v3).toNat)
  case atStart => exact hstart.out
  case round =>
    clear hstart mk1 f4
    obtain ⟨i, L, rfl, hi, hL, hRows, hT⟩ := hrel
    have hR : Rep s wr := ⟨hRows.left, h.hd⟩
    have f4 := hR.sc hR.hd.f4
    simp only [i64] at f4
    rw [← hnve.out] at f4 hi
    by_cases hlt : i < nv
    · have hltI : (i : Int) < (nv : Int) := by omega
      have f15 := hR.sc hR.hd.f15
      unfold slV at f15
      rw [← hnve.out] at f15
      have g1 := hR.val (v := i) (by rw [← hnve.out]; exact hlt)
      obtain ⟨y, hy⟩ : ∃ y, y = s.toMS.va i := ⟨_, rfl⟩
      rw [← hy] at g1
      replace hy := Lib.hid hy
      replace hL := Lib.hid hL
      replace hT := Lib.hid hT
      by_cases hy0 : y = 0
      · have hyb : (y == 0) = true := by simp [hy0]
        have own5 := hRows.own (.inr ())
        have own5 : wr.ownsRow 0 3 1 u2 L.length (L.map fun (n : Nat) => i64 (n : Int)) := own5
        have hLl := hL.out.len
        have hLl2 : L.length ≤ 100000000 := by rw [← hnve.out] at hLl; omega
        obtain ⟨bL, cL, hv2, _, _⟩ := own_form own5 hL.out.ne
        subst hv2
        clear hLl
        go_wp2_with (at_builtin; apply keepHid)
        refine Lib.hid ?_
        refine wpList_append_rows rfl _ _ 34 rfl 3 iN (.int .i64 0) 1 8 Tryz.underlying34 hiN hz0 hz1 hz2 rfl (by decide) _ L.length (L.map fun (n : Nat) => i64 (n : Int)) rfl (own5.alloc _) ⟨wr.heap.size, 0, none⟩ 1 1 [i64 (i : Nat)] rfl rfl (cell_new_one _ _ _ _ (by simp)) (by simp [i64, Value.oneCell']) (by unfold maxLen; omega) (by omega) ?_
        intro v' w6 ho hg hf
        have hfin : RbRel s w v' (.int .i64 ((i : Int) + 1)) w6 := by
          have tA := hT.out.alloc (.cells #[.int .i64 (i : Int)] 3)
          have tt := tA.trans (tA.rows.grow (ρ' := Sum.elim s.row (nsR v' (L ++ [i]))) (.inr ()) (v' := v') (n' := L.length + 1) (xs' := (L.map fun (n : Nat) => i64 (n : Int)) ++ [i64 (i : Nat)]) ho hg hf (by simp [nsR]) (fun r hr => by cases r with | inl r => rfl | inr r => exact (hr rfl).elim))
          refine ⟨i + 1, L ++ [i], by simp, by rw [← hnve.out]; omega, ⟨?_, by simp, ?_, ?_⟩, tt.rows, tt⟩
          · have := hL.out.len; simp; omega
          · intro v hv
            rcases List.mem_append.1 hv with hv | hv
            · exact hL.out.lt v hv
            · have : v = i := by simpa using hv
              rw [← hnve.out]; omega
          · intro v hv hz
            by_cases e : v = i
            · subst e; simp
            · exact List.mem_append_left _ (hL.out.all v (by omega) hz)
        replace hfin := Lib.hid hfin
        clear ho hg hf
        go_wp2_with fail
        exact ⟨hfin.out, by simp [intOf]; omega⟩
      · have hyb : (y == 0) = false := by simp [hy0]
        go_wp2_with fail
        refine ⟨⟨i + 1, L, by go_num, by rw [← hnve.out]; omega, ⟨by have := hL.out.len; omega, hL.out.ne, hL.out.lt, fun v hv hz => ?_⟩, hRows, hT.out⟩, by simp [intOf]; omega⟩
        refine hL.out.all v ?_ hz
        have : v ≠ i := fun e => by rw [e, ← hy.out] at hz; exact hy0 hz
        omega
    · have hltI : ¬ ((i : Int) < (nv : Int)) := by omega
      have own5 : wr.ownsRow 0 3 1 u2 L.length (L.map fun (n : Nat) => i64 (n : Int)) := hRows.own (.inr ())
      obtain ⟨bL, cL, hv2, _, _⟩ := own_form own5 hL.ne
      have hbL : (nsR u2 L ()).v.ownBlock = some bL := by show u2.ownBlock = _; rw [hv2]; rfl
      have hN : NsAt wr bL L := ⟨fun k hk => hRows.cell (.inr ()) hbL (getElem?_map_getD (fun (n : Nat) => i64 (n : Int)) L 0 k hk)⟩
      have hno : ¬ Own s.row bL := by
        rintro ⟨r, hr⟩
        have := hRows.inj (.inl r) (.inr ()) bL hr hbL
        cases this
      have hLl := hL.len
      have hnve2 := hnve.out
      have hB := build_s hR hQ.out hl.out (by omega) hb (by omega) (nn := L.length) (ncap := cL) rfl (by omega) hN (hRows.lt ⟨.inr (), hbL⟩) hno hL.lt
      have hi2 : s.nv ≤ i := by omega
      have hfin : ∀ w', (∃ s', QT s wr s' w' ∧ s'.qc.Perm L ∧ s'.qi.length = s.nv ∧ QI s.nv s'.qc s'.qi) → RbPost s w (.returned (.tuple #[])) w' := by
        rintro w' ⟨s', k1, k2, k3, k4⟩
        refine ⟨rfl, s', ⟨hT.leftOf.trans k1.tr, k1.hd, k1.same⟩, k3, k4, by rw [k2.length_eq]; omega, fun v hv hz => k2.mem_iff.2 (hL.all v (by omega) hz)⟩
      subst hv2
      replace hfin := Lib.hid hfin
      replace hB := Lib.hid hB
      clear hL hRows hT hR hN hno hLl hi2 own5 hbL hnve2
      go_wp2_with (go_at_call 46; refine hB.out.mono ?_; rintro e w5 ⟨rfl, hq5⟩; replace hq5 := Lib.hid hq5)
      go_end0
      exact hfin.out _ hq5.out
end Go.Proofs.YtiimddkopiknpaaGreatDoor

/-
  Small functions: unlock, lbd, isLocked, bumpNbMax, postponeNbMax, backtrackData, addLearnedUnit, setUnsat.
-/
namespace Go.Proofs.YtiimddkopiknpaaGreatDoor
open Go.RowKit

/-- the word of a learned clause -/
def LW (x : Nat) : Prop := ∃ b, b < 16 ∧ (x = 2147483648 + b ∨ x = 3221225472 + b)
theorem LW.lt {x : Nat} (h : LW x) : x < 4294967296 := by
  obtain ⟨b, hb, h | h⟩ := h <;> omega
theorem LW.ge {x : Nat} (h : LW x) : 2147483648 ≤ x := by
  obtain ⟨b, hb, h | h⟩ := h <;> omega
theorem lw_or (b : Nat) (hb : b < 16) : (2147483648 + b) ||| 1073741824 = 3221225472 + b ∧ (3221225472 + b) ||| 1073741824 = 3221225472 + b ∧ (2147483648 + b) &&& 3221225471 = 2147483648 + b ∧ (3221225472 + b) &&& 3221225471 = 2147483648 + b ∧
    (2147483648 + b) &&& 1073741823 = b ∧ (3221225472 + b) &&& 1073741823 = b ∧ (2147483648 + b) &&& 3221225472 = 2147483648 ∧ (3221225472 + b) &&& 3221225472 = 3221225472 := by
  have : ∀ b : Fin 16, (2147483648 + b.1) ||| 1073741824 = 3221225472 + b.1 ∧ (3221225472 + b.1) ||| 1073741824 = 3221225472 + b.1 ∧ (2147483648 + b.1) &&& 3221225471 = 2147483648 + b.1 ∧ (3221225472 + b.1) &&& 3221225471 = 2147483648 + b.1 ∧
    (2147483648 + b.1) &&& 1073741823 = b.1 ∧ (3221225472 + b.1) &&& 1073741823 = b.1 ∧ (2147483648 + b.1) &&& 3221225472 = 2147483648 ∧ (3221225472 + b.1) &&& 3221225472 = 3221225472 := by decide
  exact this ⟨b, hb⟩
def lbdOf (x : Nat) : Nat := x % 1073741824
def lockedW (x : Nat) : Prop := 3221225472 ≤ x
theorem LW.or {x : Nat} (h : LW x) : LW (x ||| 1073741824) ∧ lbdOf (x ||| 1073741824) = lbdOf x ∧ lockedW (x ||| 1073741824) := by
  obtain ⟨b, hb, h | h⟩ := h
  · subst h
    rw [(lw_or b hb).1]
    exact ⟨⟨b, hb, .inr rfl⟩, by unfold lbdOf; omega, by unfold lockedW; omega⟩
  · subst h
    rw [(lw_or b hb).2.1]
    exact ⟨⟨b, hb, .inr rfl⟩, by unfold lbdOf; omega, by unfold lockedW; omega⟩
theorem LW.and {x : Nat} (h : LW x) : LW (x &&& 3221225471) ∧ lbdOf (x &&& 3221225471) = lbdOf x := by
  obtain ⟨b, hb, h | h⟩ := h
  · subst h
    rw [(lw_or b hb).2.2.1]
    exact ⟨⟨b, hb, .inl rfl⟩, by unfold lbdOf; omega⟩
  · subst h
    rw [(lw_or b hb).2.2.2.1]
    exact ⟨⟨b, hb, .inl rfl⟩, by unfold lbdOf; omega⟩
theorem LW.lbd {x : Nat} (h : LW x) : x &&& 1073741823 = lbdOf x ∧ lbdOf x < 16 := by
  obtain ⟨b, hb, h | h⟩ := h
  · subst h
    rw [(lw_or b hb).2.2.2.2.1]
    unfold lbdOf; omega
  · subst h
    rw [(lw_or b hb).2.2.2.2.2.1]
    unfold lbdOf; omega
theorem LW.lock {x : Nat} (h : LW x) : (x &&& 3221225472 = 3221225472 ↔ lockedW x) := by
  obtain ⟨b, hb, h | h⟩ := h
  · subst h
    rw [(lw_or b hb).2.2.2.2.2.2.1]
    unfold lockedW; omega
  · subst h
    rw [(lw_or b hb).2.2.2.2.2.2.2]
    unfold lockedW; omega

set_option maxRecDepth 100000 in
set_option maxHeartbeats 4000000 in
theorem Unlock_c {c x : Nat} {w : World} (h : w.cell? ⟨c, 1, none⟩ = some (.int .u32 (x : Int))) (hf : w.frozen? ⟨c, 1, none⟩ = false) (hx : x < 4294967296) :
    Calls Tryz.prog 93 #[.pointer (some ⟨c, 0, none⟩)] w fun e w' => e = .returned (.tuple #[]) ∧ w' = w.setCell ⟨c, 1, none⟩ (.int .u32 ((x &&& 3221225471 : Nat) : Int)) := by
  have hb : bits .and .u32 (x : Int) 3221225471 = ((x &&& 3221225471 : Nat) : Int) := u32_and_nat x 3221225471 hx (by omega)
  have H := Lib.hid hb
  clear hb
  go_enter Tryz.func93, Tryz.ntmps93
  go_wp2
  go_end0
  exact ⟨rfl, by simp only [H.out]⟩
set_option maxRecDepth 100000 in
set_option maxHeartbeats 4000000 in
theorem lbdOf_c {c x : Nat} {w : World} (h : w.cell? ⟨c, 1, none⟩ = some (.int .u32 (x : Int))) (hx : LW x) :
    Calls Tryz.prog 77 #[.pointer (some ⟨c, 0, none⟩)] w fun e w' => e = .returned (.int .i64 (lbdOf x : Int)) ∧ w' = w := by
  have hb : bits .and .u32 (x : Int) 1073741823 = ((x &&& 1073741823 : Nat) : Int) := u32_and_nat x 1073741823 hx.lt (by omega)
  rw [hx.lbd.1] at hb
  have hl := hx.lbd.2
  have hw : IntKind.i64.wrap (lbdOf x : Int) = (lbdOf x : Int) := IntWalk.i64_in _ (by omega)
  go_enter Tryz.func77, Tryz.ntmps77
  go_wp2_with fail
  go_ret
  exact ⟨rfl, rfl⟩
open Classical in
theorem isLocked_c {c x : Nat} {w : World} (h : w.cell? ⟨c, 1, none⟩ = some (.int .u32 (x : Int))) (hx : LW x) :
    Calls Tryz.prog 97 #[.pointer (some ⟨c, 0, none⟩)] w fun e w' => e = .returned (.bool (decide (lockedW x))) ∧ w' = w := by
  have hb : bits .and .u32 (x : Int) 3221225472 = ((x &&& 3221225472 : Nat) : Int) := u32_and_nat x 3221225472 hx.lt (by omega)
  have hb2 : (((x &&& 3221225472 : Nat) : Int) == 3221225472) = decide (lockedW x) := by
    have := hx.lock
    by_cases h : lockedW x
    · rw [this.2 h]; simp [h]
    · have h2 : ¬ (x &&& 3221225472 = 3221225472) := fun e => h (this.1 e)
      simp only [h, decide_false]
      rw [beq_eq_false_iff_ne]
      intro e
      exact h2 (by omega)
  generalize (x &&& 3221225472) = y at hb hb2
  generalize decide (lockedW x) = bb at hb2
  go_enter Tryz.func97, Tryz.ntmps97
  go_wp2_with fail
  go_ret
  exact ⟨rfl, rfl⟩

def St.setK (s : St) (j : Nat) (n : Int) : St := { s with sc := s.sc.set j (i64 n), nbMax := if j = 6 then n else s.nbMax, idx := if j = 7 then n else s.idx, nconf := if j = 5088 then n else s.nconf }
def St.setStatus (s : St) (k : Nat) : St := { s with sc := s.sc.set 5 (.int .u8 k), status := k }
theorem Hd.setK {s : St} (h : Hd s) (j : Nat) (n : Int) (hj : j = 6 ∨ j = 7 ∨ j = 5088) : Hd (s.setK j n) := by
  have ho : ∀ k, j ≠ k → (s.sc.set j (i64 n))[k]? = s.sc[k]? := fun k hk => set_ne_get _ _ _ _ hk
  have nm : ∀ (k : Nat) (m : Int), s.sc[k]? = some (i64 m) → (s.sc.set j (i64 n))[k]? = some (i64 (if j = k then n else m)) := by
    intro k m hm
    by_cases e : j = k
    · subst e; rw [if_pos rfl]; exact set_eq_get _ _ _ _ hm
    · rw [if_neg e, ho _ e]; exact hm
  obtain ⟨h1, h3, h4, h5, h6, h7, h8, h9, h10, h11, h12, h13, h14, h15, h17, h18, h19, h20, h21, h22, h23, h24, h25, h26, h27, h28, h29, h30, h31, h32, h33, h34, h35, h36, h5087, h5088, h5094, h5097, h5098, h5099, ha, hb, hc⟩ := h
  constructor <;> simp only [St.setK]
  case f6 => exact nm _ _ h6
  case f7 => exact nm _ _ h7
  case f5088 => exact nm _ _ h5088
  case f21 => intro hh; rw [ho _ (by omega)]; exact h21 hh
  case f36 => intro j' a b; rw [ho _ (by omega)]; exact h36 j' a b
  case f5087 => intro j' a b c; rw [ho _ (by omega)]; exact h5087 j' a b c
  case fact => exact ha
  case facc => exact hb
  case ftb => exact hc
  all_goals
    rw [ho _ (by omega)]
    assumption
theorem Hd.setStatus {s : St} (h : Hd s) (k : Nat) : Hd (s.setStatus k) := by
  have ho : ∀ j, j ≠ 5 → (s.sc.set 5 (.int .u8 (k : Int)))[j]? = s.sc[j]? := fun j hj => set_ne_get _ _ _ _ (Ne.symm hj)
  obtain ⟨h1, h3, h4, h5, h6, h7, h8, h9, h10, h11, h12, h13, h14, h15, h17, h18, h19, h20, h21, h22, h23, h24, h25, h26, h27, h28, h29, h30, h31, h32, h33, h34, h35, h36, h5087, h5088, h5094, h5097, h5098, h5099, ha, hb, hc⟩ := h
  constructor <;> simp only [St.setStatus]
  case f5 => exact set_eq_get _ _ _ _ h5
  case f21 => intro hh; rw [ho _ (by omega)]; exact h21 hh
  case f36 => intro j' a b; rw [ho _ (by omega)]; exact h36 j' a b
  case f5087 => intro j' a b c; rw [ho _ (by omega)]; exact h5087 j' a b c
  case fact => exact ha
  case facc => exact hb
  case ftb => exact hc
  all_goals
    rw [ho _ (by omega)]
    assumption
section
variable {s : St} {w : World}
theorem Rep.setK (h : Rep s w) (j : Nat) (n : Int) (hj : j = 6 ∨ j = 7 ∨ j = 5088) : Tr s.row w (s.setK j n).row (w.setCell ⟨s.sb, j, none⟩ (.int .i64 n)) ∧ Hd (s.setK j n) :=
  ⟨h.rows.set .sol rfl j (i64 n) (by simp [St.row, St.setK, Row.one]) (fun r hr => by cases r <;> first | rfl | contradiction), h.hd.setK j n hj⟩
theorem Rep.setStatus (h : Rep s w) (k : Nat) : Tr s.row w (s.setStatus k).row (w.setCell ⟨s.sb, 5, none⟩ (.int .u8 (k : Int))) ∧ Hd (s.setStatus k) :=
  ⟨h.rows.set .sol rfl 5 (.int .u8 (k : Int)) (by simp [St.row, St.setStatus, Row.one]) (fun r hr => by cases r <;> first | rfl | contradiction), h.hd.setStatus k⟩

set_option maxRecDepth 100000 in
set_option maxHeartbeats 4000000 in
theorem bump_c (h : Rep s w) (hn : 0 ≤ s.nbMax ∧ s.nbMax < 1000000000) :
    Calls Tryz.prog 68 #[.pointer (some ⟨s.sb, 0, none⟩)] w fun e w' => e = .returned (.tuple #[]) ∧ Tr s.row w (s.setK 6 (s.nbMax + 300)).row w' ∧ Hd (s.setK 6 (s.nbMax + 300)) := by
  have c6 := h.sc h.hd.f6
  have f6 := h.scf 6
  simp only [i64] at c6
  have t := h.setK 6 (s.nbMax + 300) (.inl rfl)
  obtain ⟨n, hne⟩ : ∃ n, n = s.nbMax := ⟨_, rfl⟩
  rw [← hne] at c6 t hn ⊢
  obtain ⟨k, rfl⟩ : ∃ k : Nat, n = (k : Int) := ⟨n.toNat, by omega⟩
  have hk : k < 1000000000 := by omega
  replace t := Lib.hid t
  replace hne := Lib.hid hne
  clear hn
  go_enter Tryz.func68, Tryz.ntmps68
  go_wp2_with fail
  go_end0
  exact ⟨rfl, t.out⟩
set_option maxRecDepth 100000 in
set_option maxHeartbeats 4000000 in
theorem postpone_c (h : Rep s w) (hn : 0 ≤ s.nbMax ∧ s.nbMax < 1000000000) :
    Calls Tryz.prog 96 #[.pointer (some ⟨s.sb, 0, none⟩)] w fun e w' => e = .returned (.tuple #[]) ∧ Tr s.row w (s.setK 6 (s.nbMax + 1000)).row w' ∧ Hd (s.setK 6 (s.nbMax + 1000)) := by
  have c6 := h.sc h.hd.f6
  have f6 := h.scf 6
  simp only [i64] at c6
  have t := h.setK 6 (s.nbMax + 1000) (.inl rfl)
  obtain ⟨n, hne⟩ : ∃ n, n = s.nbMax := ⟨_, rfl⟩
  rw [← hne] at c6 t hn ⊢
  obtain ⟨k, rfl⟩ : ∃ k : Nat, n = (k : Int) := ⟨n.toNat, by omega⟩
  have hk : k < 1000000000 := by omega
  replace t := Lib.hid t
  replace hne := Lib.hid hne
  clear hn
  go_enter Tryz.func96, Tryz.ntmps96
  go_wp2_with fail
  go_end0
  exact ⟨rfl, t.out⟩
set_option maxRecDepth 100000 in
set_option maxHeartbeats 4000000 in
theorem setUnsat_c (h : Rep s w) :
    Calls Tryz.prog 73 #[.pointer (some ⟨s.sb, 0, none⟩)] w fun e w' => e = .returned (.int .u8 2) ∧ Tr s.row w (s.setStatus 2).row w' ∧ Hd (s.setStatus 2) := by
  have c5 := h.sc h.hd.f5
  have c1 := h.sc h.hd.f1
  have f5 := h.scf 5
  have t := Lib.hid (h.setStatus 2)
  go_enter Tryz.func73, Tryz.ntmps73
  go_wp2_with fail
  go_ret
  exact ⟨rfl, t.out⟩
set_option maxRecDepth 100000 in
set_option maxHeartbeats 4000000 in
theorem addLU_c (h : Rep s w) {l : Nat} (hl : l < s.nv * 2) (hnv : s.nv ≤ 1000000) :
    Calls Tryz.prog 75 #[.pointer (some ⟨s.sb, 0, none⟩), .int .i32 (l : Int)] w fun e w' => e = .returned (.tuple #[]) ∧ RT s w (s.setVal (l / 2) (sgn l 1)) w' := by
  have hlv : l / 2 < s.nv := by omega
  have hls : l < 2147483648 := by omega
  have f15 := h.sc h.hd.f15
  unfold slV at f15
  have g1 := h.val hlv
  have g2 := h.valf (l / 2)
  have u1 := h.setVal (l / 2) (sgn l 1)
  have f1 : (w.setCell ⟨s.modelB, l / 2, none⟩ (.int .i64 (sgn l 1))).cell? ⟨s.sb, 1, none⟩ = some (.bool false) := u1.rep.sc u1.rep.hd.f1
  have ovI : (l : Int) / 2 < (s.nv : Int) := by omega
  have ov0 : (0 : Int) ≤ (l : Int) / 2 := by omega
  have ovN : ((l : Int) / 2).toNat = l / 2 := by omega
  replace u1 := Lib.hid u1
  have hsg := fun w => sgn_c l 1 w hls (by omega) (by omega)
  go_enter Tryz.func75, Tryz.ntmps75
  go_upto_region 0 with fail
  refine wp_region_tail 8 (by kernel_rfl) (by kernel_rfl) ?_
  simp only [List.take_succ_cons, List.take_zero, List.drop_succ_cons, List.drop_zero]
  repeat first | still_step | still_call (Var_c l _ hls) | still_call (hsg _)
  refine wpStill_nil ?_
  go_wp2_with fail
  go_end0
  exact ⟨rfl, u1.out.drew⟩
set_option maxRecDepth 100000 in
set_option maxHeartbeats 4000000 in
theorem backtrack_c (h : Rep s w) (hW : Wf s.toMS) {c : Nat} (hc : c ∈ s.ids) (hv : (s.toMS.va (nth (s.lits c) 1 / 2)).natAbs < 1000000) (hnv : s.nv ≤ 1000000) :
    Calls Tryz.prog 79 #[.pointer (some ⟨c, 0, none⟩), .slice (some ⟨s.modelB, 0, none⟩) s.nv s.nv] w fun e w' =>
      e = .returned (.tuple #[.int .i64 (s.toMS.lev (nth (s.lits c) 1 / 2) : Int), .int .i32 (nth (s.lits c) 0 : Nat)]) ∧ w' = w := by
  have hl := (hW.len c hc).1
  have h0 := Get_s h hW hc (i := 0) (by omega)
  have h1 := Get_s h hW hc (i := 1) (by omega)
  have l1 := hW.lit c hc 1 (by omega)
  have g1 := h.val (v := nth (s.lits c) 1 / 2) (by omega)
  rw [show s.va (nth (s.lits c) 1 / 2) = s.toMS.va (nth (s.lits c) 1 / 2) from rfl] at g1
  rw [show s.toMS.lev (nth (s.lits c) 1 / 2) = (s.toMS.va (nth (s.lits c) 1 / 2)).natAbs from rfl]
  generalize nth (s.lits c) 0 = x0 at *
  generalize nth (s.lits c) 1 = x1 at *
  generalize s.toMS.va (x1 / 2) = y at *
  have hls : x1 < 2147483648 := by omega
  have k1 : (x1 : Int) / 2 < (s.nv : Int) := by omega
  have k2 : (0 : Int) ≤ (x1 : Int) / 2 := by omega
  have k3 : ((x1 : Int) / 2).toNat = x1 / 2 := by omega
  have ha := fun w => abs_c y w (by omega) (by omega)
  replace h0 := Lib.hid h0
  replace h1 := Lib.hid h1
  replace hW := Lib.hid hW
  go_enter Tryz.func79, Tryz.ntmps79
  go_upto_region 2 with (first
    | (go_at_call 52; refine Calls.ret h1.out ?_)
    | (go_at_call 29; refine Calls.ret (Var_c x1 _ hls) ?_)
    | (go_at_call 71; refine Calls.ret (ha _) ?_))
  go_wp2_with (go_at_call 52; refine Calls.ret h0.out ?_)
  go_returns
  exact ⟨rfl, rfl⟩
end
end Go.Proofs.YtiimddkopiknpaaGreatDoor

/-
  cleanupBindings: what its steps do to the state.
-/
namespace Go.Proofs.YtiimddkopiknpaaGreatDoor
open Go.RowKit

/-- the law of append where there is room: one cell is written -/
theorem wpList_append_room {P : Program} {w : World} {ops : Array Oper} {rest : List Oper} {o : Oper} {a : Act} {Q : Exit → Act → World → Prop} (hgd : o.guard = none) (s x : Operand) (t : TypeId)
    (ho : o.op = .call { callee := .builtin .append, args := #[s, x], argTypes := #[t, t] })
    (e : TypeId) (i : TypeInfo) (ht : P.underlying t = some (.slice e)) (hi : P.info? e = some i) (hsize : i.size = 1)
    (b n cap : Nat) (hs : a.eval s = .slice (some ⟨b, 0, none⟩) n cap) (ad : Addr) (c : Nat) (u : Value) (hx : a.eval x = .slice (some ad) 1 c) (hu : w.cell? (ad.add 0) = some u) (h1 : u.oneCell' = true)
    (hroom : n + 1 ≤ cap) (hc : (w.cell? ⟨b, n, none⟩).isSome = true) (hf : w.frozen? ⟨b, n, none⟩ = false)
    (h : wpList P ops Q rest (a.put o.dst (.slice (some ⟨b, 0, none⟩) (n + 1) cap)) (w.setCell ⟨b, n, none⟩ u)) : wpList P ops Q (o :: rest) a w :=
  wpList_plain hgd fun _ hK => by
    have hr := run_append_room_cells (P := P) w t o.type e i ht hi b 0 n cap ad 1 c [u] (by simp [hsize]) (fun j v hv => by
      cases j with
      | zero => simp at hv; subst hv; exact hu
      | succ j => simp at hv) (by simp [h1]) hroom (fun j hj => by
        have : j = 0 := by simpa using hj
        subst this
        simpa [hsize] using hc) (fun j hj => by
        have : j = 0 := by simpa using hj
        subst this
        simpa [hsize] using hf)
    have hsc : w.setCells b (0 + n * i.size) [u] = w.setCell ⟨b, n, none⟩ u := by simp [hsize, World.setCells]
    rw [hsc] at hr
    unfold Oper.wp execOp
    simp only [ho, resolve, invoke, builtin, Sem.run_bind, Sem.run_pure, Result.andThen_ok, List.map_toArray, List.map_cons, List.map_nil, hs, hx, hr]
    exact hK _ _ h

/-- all but what cleanupBindings changes -/
def St.noC (s : St) : St := { s with val := [], rsn := [], word := fun _ => 0, trail := [], trailV := .slice none 0 0, polL := [], tbuf := [], sc := [], qcV := .slice none 0 0, qiV := .slice none 0 0, qc := [], qi := [] }
structure CT (s : St) (w : World) (s' : St) (w' : World) : Prop where
  tr : Tr s.row w s'.row w'
  hd : Hd s'
  same : s'.noC = s.noC
theorem CT.refl {s : St} {w : World} (h : Rep s w) : CT s w s w := ⟨Tr.refl h.rows, h.hd, rfl⟩
theorem CT.rep {s s' : St} {w w' : World} (h : CT s w s' w') : Rep s' w' := ⟨h.tr.rows, h.hd⟩
theorem CT.trans {s s1 s2 : St} {w w1 w2 : World} (h : CT s w s1 w1) (h' : CT s1 w1 s2 w2) : CT s w s2 w2 := ⟨h.tr.trans h'.tr, h'.hd, h'.same.trans h.same⟩
theorem CT.drewN {s s' : St} {w w' : World} (h : CT s w s' w') (n : Nat) : CT s w s' (w'.drewN n) := ⟨h.tr.drewN n, h.hd, h.same⟩
theorem CT.drew {s s' : St} {w w' : World} (h : CT s w s' w') : CT s w s' w'.drew := h.drewN 1
theorem CT.alloc {s s' : St} {w w' : World} (h : CT s w s' w') (o : Obj) : CT s w s' (w'.alloc o) := ⟨h.tr.alloc o, h.hd, h.same⟩
theorem CT.sb {s s' : St} {w w' : World} (h : CT s w s' w') : s'.sb = s.sb := by have := congrArg St.sb h.same; simpa [St.noC] using this
theorem CT.nv {s s' : St} {w w' : World} (h : CT s w s' w') : s'.nv = s.nv := by have := congrArg (fun s : St => s.nv) h.same; simpa [St.noC] using this
theorem CT.ids {s s' : St} {w w' : World} (h : CT s w s' w') : s'.ids = s.ids := by have := congrArg (fun s : St => s.ids) h.same; simpa [St.noC] using this
theorem QT.ct {s s' : St} {w w' : World} (h : QT s w s' w') : CT s w s' w' := by
  refine ⟨h.tr, h.hd, ?_⟩
  have := congrArg St.noC h.same
  simpa [St.noC, St.noQ] using this

def St.setPol (s : St) (v : Nat) (x : Bool) : St := { s with polL := s.polL.set v x }
def St.setTb (s : St) (j : Nat) (x : Value) : St := { s with tbuf := s.tbuf.set j x }
/-- the trail is cut -/
def St.cutTr (s : St) (b cap i : Nat) : St := { s with trail := s.trail.take i, trailV := .slice (some ⟨b, 0, none⟩) i cap, sc := s.sc.set 14 (.slice (some ⟨b, 0, none⟩) i cap) }
theorem Hd.set14 {s : St} (h : Hd s) (v : Value) (L : List Nat) : Hd { s with trail := L, trailV := v, sc := s.sc.set 14 v } := by
  obtain ⟨h1, h3, h4, h5, h6, h7, h8, h9, h10, h11, h12, h13, h14, h15, h17, h18, h19, h20, h21, h22, h23, h24, h25, h26, h27, h28, h29, h30, h31, h32, h33, h34, h35, h36, h5087, h5088, h5094, h5097, h5098, h5099, ha, hb, hc⟩ := h
  constructor <;> dsimp only
  case f14 => exact set_eq_get _ _ _ _ h14
  case f21 => intro hh; rw [set_ne_get _ _ _ _ (by omega)]; exact h21 hh
  case f36 => intro j a b; rw [set_ne_get _ _ _ _ (by omega)]; exact h36 j a b
  case f5087 => intro j a b c; rw [set_ne_get _ _ _ _ (by omega)]; exact h5087 j a b c
  case fact => exact ha
  case facc => exact hb
  case ftb => exact hc
  all_goals
    rw [set_ne_get _ _ _ _ (by omega)]
    assumption
section
variable {s : St} {w : World}
theorem Rep.setPol (h : Rep s w) (v : Nat) (x : Bool) : CT s w (s.setPol v x) (w.setCell ⟨s.polB, v, none⟩ (.bool x)) :=
  ⟨h.rows.set .pol rfl v (.bool x) (by simp [St.row, St.setPol, List.map_set]) (fun r hr => by cases r <;> first | rfl | contradiction),
   h.hd.congr rfl rfl rfl rfl rfl rfl rfl rfl rfl rfl rfl rfl rfl rfl rfl rfl rfl rfl rfl rfl rfl rfl rfl rfl rfl h.hd.fact h.hd.facc h.hd.ftb, rfl⟩
theorem Rep.setTb (h : Rep s w) (j : Nat) (n : Int) : CT s w (s.setTb j (i64 n)) (w.setCell ⟨s.tbufB, j, none⟩ (.int .i64 n)) :=
  ⟨h.rows.set .tbuf rfl j (i64 n) (by simp [St.row, St.setTb]) (fun r hr => by cases r <;> first | rfl | contradiction),
   h.hd.congr rfl rfl rfl rfl rfl rfl rfl rfl rfl rfl rfl rfl rfl rfl rfl rfl rfl rfl rfl rfl rfl rfl rfl rfl rfl h.hd.fact h.hd.facc
     (fun x hx => by
       rcases List.mem_or_eq_of_mem_set hx with h' | h'
       · exact h.hd.ftb x h'
       · exact ⟨n, h'⟩), rfl⟩
theorem Rep.setValC (h : Rep s w) (v : Nat) (x : Int) : CT s w (s.setVal v x) (w.setCell ⟨s.modelB, v, none⟩ (.int .i64 x)) := ⟨(h.setVal v x).tr, (h.setVal v x).hd, rfl⟩
theorem Rep.setRsnC (h : Rep s w) (v : Nat) (c : Option Nat) : CT s w (s.setRsn v c) (w.setCell ⟨s.rsnB, v, none⟩ (ptrV c)) := ⟨(h.setRsn v c).tr, (h.setRsn v c).hd, rfl⟩
theorem Rep.setWordC (h : Rep s w) {c : Nat} (hc : c ∈ s.ids) (x : Nat) : CT s w (s.setWord c x) (w.setCell ⟨c, 1, none⟩ (.int .u32 x)) := ⟨(h.setWord hc x).tr, (h.setWord hc x).hd, rfl⟩
theorem Rep.cutTr (h : Rep s w) {b cap i : Nat} (hv : s.trailV = .slice (some ⟨b, 0, none⟩) s.trail.length cap) (hi : i ≤ s.trail.length) :
    CT s w (s.cutTr b cap i) (w.setCell ⟨s.sb, 14, none⟩ (.slice (some ⟨b, 0, none⟩) i cap)) := by
  let ρ1 : Role → Row := fun r => match r with | .trail => ⟨82, 1, .slice (some ⟨b, 0, none⟩) i cap, i, (s.trail.map i32).take i⟩ | r => s.row r
  have r1 : Rows ρ1 w := h.rows.cut .trail i (b := b) (cap := cap) hv hi (by simp [ρ1, St.row]) (fun r hr => by cases r <;> first | rfl | contradiction)
  have hown : ∀ r, (ρ1 r).v.ownBlock = (s.row r).v.ownBlock := by
    intro r
    cases r <;> first | rfl | skip
    show (Value.slice (some ⟨b, 0, none⟩) i cap).ownBlock = s.trailV.ownBlock
    rw [hv]; rfl
  have t1 : Tr s.row w ρ1 w := Tr.same r1 hown
  have t2 := r1.set (ρ' := (s.cutTr b cap i).row) .sol (b := s.sb) rfl 14 (.slice (some ⟨b, 0, none⟩) i cap) (by simp [St.row, St.cutTr, ρ1, Row.one]) (fun r hr => by
    cases r <;> first | rfl | contradiction | skip
    simp [St.row, St.cutTr, ρ1, List.map_take, Nat.min_eq_left hi])
  exact ⟨t1.trans t2, h.hd.set14 _ _, rfl⟩
theorem Rep.tbc (h : Rep s w) {j : Nat} (hj : j < s.nv) : ∃ n, w.cell? ⟨s.tbufB, j, none⟩ = some (.int .i64 n) ∧ s.tbuf[j]? = some (i64 n) := by
  have hl : s.tbuf.length = s.nv := by have := (h.rows.own .tbuf).1; simpa [St.row] using this
  have hm := List.getElem_mem (show j < s.tbuf.length by omega)
  obtain ⟨n, hn⟩ := h.hd.ftb _ hm
  have : s.tbuf[j]? = some (i64 n) := by rw [List.getElem?_eq_getElem (by omega), hn]; rfl
  exact ⟨n, h.rows.cell .tbuf (b := s.tbufB) rfl this, this⟩
end
end Go.Proofs.YtiimddkopiknpaaGreatDoor

/-
  cleanupBindings: the plain side of its loop.
-/
namespace Go.Proofs.YtiimddkopiknpaaGreatDoor
open Go.RowKit

/-- behind the trail's places from i to j: what was bound there is free -/
structure CPv (s : St) (i j : Nat) (t : St) : Prop where
  trail : t.trail = s.trail
  off : ∀ k, i ≤ k → k < j → t.toMS.va (nth s.trail k / 2) = 0 ∧ t.toMS.ra (nth s.trail k / 2) = none
  on : ∀ v, (∀ k, i ≤ k → k < j → nth s.trail k / 2 ≠ v) → t.toMS.va v = s.toMS.va v ∧ t.toMS.ra v = s.toMS.ra v
  wk : ∀ c, t.word c = s.word c ∨ (t.word c = s.word c &&& 3221225471 ∧ ∃ k, i ≤ k ∧ k < j ∧ s.toMS.ra (nth s.trail k / 2) = some c)
structure CPq (s : St) (i j : Nat) (t : St) : Prop where
  q : QI s.nv t.qc t.qi
  qil : t.qi.length = s.nv
  qcl : t.qc.length ≤ s.qc.length + (j - i)
  mem : ∀ u ∈ s.qc, u ∈ t.qc
  memn : ∀ k, i ≤ k → k < j → nth s.trail k / 2 ∈ t.qc
structure CPt (s : St) (i j m : Nat) (T : List Nat) (t : St) : Prop where
  len : T.length = m
  le : m ≤ j - i
  lt : ∀ v ∈ T, v < s.nv
  at_ : ∀ k, k < m → t.tbuf[k]? = some (i64 (nth T k : Nat))

section
variable {s t : St} {i j : Nat}
theorem CPv.start (s : St) (i : Nat) : CPv s i i s := ⟨rfl, fun k h1 h2 => by omega, fun _ _ => ⟨rfl, rfl⟩, fun _ => .inl rfl⟩
theorem CPv.congr (h : CPv s i j t) {t' : St} (e1 : t'.val = t.val) (e2 : t'.rsn = t.rsn) (e3 : t'.trail = t.trail) (e4 : t'.word = t.word) : CPv s i j t' := by
  have va : ∀ v, t'.toMS.va v = t.toMS.va v := fun v => by show t'.val.getD v 0 = t.val.getD v 0; rw [e1]
  have ra : ∀ v, t'.toMS.ra v = t.toMS.ra v := fun v => by show t'.rsn.getD v none = t.rsn.getD v none; rw [e2]
  exact ⟨e3.trans h.trail, fun k h1 h2 => by rw [va, ra]; exact h.off k h1 h2, fun v hv => by rw [va, ra]; exact h.on v hv, fun c => by rw [e4]; exact h.wk c⟩
theorem va_setV (t : St) (v : Nat) (x : Int) (u : Nat) (hv : v < t.val.length) : (t.setVal v x).toMS.va u = if v = u then x else t.toMS.va u := va_set t.toMS v x u hv
theorem ra_setR (t : St) (v : Nat) (x : Option Nat) (u : Nat) (hv : v < t.rsn.length) : (t.setRsn v x).toMS.ra u = if v = u then x else t.toMS.ra u := ra_set t.toMS v x u hv
theorem CPv.free (h : CPv s i j t) (hij : i ≤ j) (hv : nth s.trail j / 2 < t.val.length) (hd : ∀ k, i ≤ k → k < j → nth s.trail k / 2 ≠ nth s.trail j / 2) (hr : t.toMS.ra (nth s.trail j / 2) = none) : CPv s i (j + 1) (t.setVal (nth s.trail j / 2) 0) := by
  have va := fun u => va_setV t (nth s.trail j / 2) 0 u hv
  have ra : ∀ u, (t.setVal (nth s.trail j / 2) 0).toMS.ra u = t.toMS.ra u := fun u => rfl
  refine ⟨h.trail, fun k h1 h2 => ?_, fun v hn => ?_, fun c => ?_⟩
  · rw [va, ra]
    by_cases e : nth s.trail j / 2 = nth s.trail k / 2
    · rw [if_pos e, ← e]; exact ⟨rfl, hr⟩
    · rw [if_neg e]
      have : k ≠ j := fun e' => e (by rw [e'])
      exact h.off k h1 (by omega)
  · rw [va, ra, if_neg (hn j hij (by omega))]
    exact h.on v fun k h1 h2 => hn k h1 (by omega)
  · rcases h.wk c with h' | ⟨h', k, h1, h2, h3⟩
    · exact .inl h'
    · exact .inr ⟨h', k, h1, by omega, h3⟩
theorem CPv.undo (h : CPv s i j t) (hij : i ≤ j) (hv : nth s.trail j / 2 < t.val.length) (hv2 : nth s.trail j / 2 < t.rsn.length) (hd : ∀ k, i ≤ k → k < j → nth s.trail k / 2 ≠ nth s.trail j / 2) {c : Nat} (hr : t.toMS.ra (nth s.trail j / 2) = some c) :
    CPv s i (j + 1) (((t.setVal (nth s.trail j / 2) 0).setWord c (t.word c &&& 3221225471)).setRsn (nth s.trail j / 2) none) := by
  have va : ∀ u, (((t.setVal (nth s.trail j / 2) 0).setWord c (t.word c &&& 3221225471)).setRsn (nth s.trail j / 2) none).toMS.va u = if nth s.trail j / 2 = u then 0 else t.toMS.va u := fun u => va_setV t (nth s.trail j / 2) 0 u hv
  have ra := fun u => ra_setR ((t.setVal (nth s.trail j / 2) 0).setWord c (t.word c &&& 3221225471)) (nth s.trail j / 2) none u hv2
  have ra2 : ∀ u, ((t.setVal (nth s.trail j / 2) 0).setWord c (t.word c &&& 3221225471)).toMS.ra u = t.toMS.ra u := fun u => rfl
  have wd : ∀ c', (((t.setVal (nth s.trail j / 2) 0).setWord c (t.word c &&& 3221225471)).setRsn (nth s.trail j / 2) none).word c' = if c' = c then t.word c &&& 3221225471 else t.word c' := fun c' => rfl
  have hsr : s.toMS.ra (nth s.trail j / 2) = Option.some c := by rw [← (h.on _ hd).2]; exact hr
  refine ⟨h.trail, fun k h1 h2 => ?_, fun v hn => ?_, fun c' => ?_⟩
  · rw [va, ra, ra2]
    by_cases e : nth s.trail j / 2 = nth s.trail k / 2
    · rw [if_pos e, if_pos e]; exact ⟨rfl, rfl⟩
    · rw [if_neg e, if_neg e]
      have : k ≠ j := fun e' => e (by rw [e'])
      exact h.off k h1 (by omega)
  · rw [va, ra, ra2, if_neg (hn j hij (by omega)), if_neg (hn j hij (by omega))]
    exact h.on v fun k h1 h2 => hn k h1 (by omega)
  · rw [wd]
    by_cases e : c' = c
    · rw [if_pos e, e]
      refine .inr ⟨?_, j, hij, by omega, hsr⟩
      rcases h.wk c with h' | ⟨h', _⟩
      · rw [h']
      · rw [h', Nat.and_assoc]; rfl
    · rw [if_neg e]
      rcases h.wk c' with h' | ⟨h', k, h1, h2, h3⟩
      · exact .inl h'
      · exact .inr ⟨h', k, h1, by omega, h3⟩
theorem CPq.congr (h : CPq s i j t) {t' : St} (e1 : t'.qc = t.qc) (e2 : t'.qi = t.qi) : CPq s i j t' := by
  obtain ⟨a, b, c, d, e⟩ := h
  exact ⟨by rw [e1, e2]; exact a, by rw [e2]; exact b, by rw [e1]; exact c, by rw [e1]; exact d, by rw [e1]; exact e⟩
theorem CPq.keep (h : CPq s i j t) (hij : i ≤ j) (hv : nth s.trail j / 2 < s.nv) (hg : 0 ≤ gi t.qi (nth s.trail j / 2)) : CPq s i (j + 1) t := by
  obtain ⟨a, b, c, d, e⟩ := h
  refine ⟨a, b, by omega, d, fun k h1 h2 => ?_⟩
  by_cases e' : k = j
  · subst e'
    rcases a.i _ (by rw [b]; exact hv) with h' | ⟨m, h3, h4, h5⟩
    · omega
    · rw [← h5]; exact nth_mem _ _ h4
  · exact e k h1 (by omega)
theorem CPq.ins {t' : St} (h : CPq s i j t) (hij : i ≤ j) (hp : t'.qc.Perm (t.qc ++ [nth s.trail j / 2])) (hl : t'.qi.length = s.nv) (hq : QI s.nv t'.qc t'.qi) : CPq s i (j + 1) t' := by
  obtain ⟨a, b, c, d, e⟩ := h
  refine ⟨hq, hl, by rw [hp.length_eq]; simp; omega, fun u hu => hp.mem_iff.2 (List.mem_append_left _ (d u hu)), fun k h1 h2 => hp.mem_iff.2 ?_⟩
  by_cases e' : k = j
  · subst e'; simp
  · exact List.mem_append_left _ (e k h1 (by omega))
end
end Go.Proofs.YtiimddkopiknpaaGreatDoor
