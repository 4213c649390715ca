/-
  The queue of variables and the activities.
-/
import Derived.Test.YtiimddkopiknpaaGreatDoorB01
import Derived.Deep.Cut
import Derived.Deep.CutRange
import Derived.Deep.DeepCutAuto
import Derived.Test.YtiimddkopiknpaaGreatDoorB02
import Derived.Deep.CutBlock
set_option linter.unusedVariables false
set_option linter.unusedSimpArgs false

/-
  The queue of variables (a heap): comparing, moving up. Said over any rows, so that it serves in the solver and where the queue is made.
-/
namespace Go.Proofs.YtiimddkopiknpaaGreatDoor
open Go.RowKit

def gi (L : List Int) (v : Nat) : Int := L.getD v (-1)
theorem gi_set (L : List Int) (i j : Nat) (x : Int) (hi : i < L.length) : gi (L.set i x) j = if i = j then x else gi L j := by
  unfold gi
  rw [List.getD_eq_getElem?_getD, List.getD_eq_getElem?_getD, List.getElem?_set]
  by_cases h : i = j
  · subst h; simp [hi]
  · simp [h]
theorem nth_set' (L : List Nat) (i j x : Nat) (hi : i < L.length) : nth (L.set i x) j = if i = j then x else nth L j := by
  unfold nth
  rw [List.getD_eq_getElem?_getD, List.getD_eq_getElem?_getD, List.getElem?_set]
  by_cases h : i = j
  · subst h; simp [hi]
  · simp [h]

/-- what the indices say is so (a number may stand in the content more than once, or be said not to stand there) -/
structure QI (n : Nat) (qc : List Nat) (qi : List Int) : Prop where
  c : ∀ i, i < qc.length → nth qc i < n ∧ nth qc i < qi.length
  i : ∀ v, v < qi.length → gi qi v = -1 ∨ ∃ k : Nat, gi qi v = (k : Int) ∧ k < qc.length ∧ nth qc k = v

theorem nth_self (L : List Nat) (i : Nat) (hi : i < L.length) : L.set i (nth L i) = L := by
  apply List.ext_getElem?
  intro j
  rw [List.getElem?_set]
  by_cases h : i = j
  · subst h; simp [hi, nth, List.getD_eq_getElem?_getD]
  · simp [h]
theorem gi_self (L : List Int) (i : Nat) (x : Int) (hi : i < L.length) (hx : gi L i = x) : L.set i x = L := by
  apply List.ext_getElem?
  intro j
  rw [List.getElem?_set]
  by_cases h : i = j
  · subst h
    unfold gi at hx
    rw [List.getD_eq_getElem?_getD] at hx
    simp [hi] at hx
    simp [hi, hx]
  · simp [h]

theorem perm_swap {C : List Nat} {i p : Nat} (hi : i < C.length) (hp : p < C.length) : ((C.set i (nth C p)).set p (nth C i)).Perm C := by
  have e : ∀ j, (h : j < C.length) → nth C j = C[j] := fun j h => by unfold nth; rw [List.getD_eq_getElem?_getD, List.getElem?_eq_getElem h]; rfl
  rw [e p hp, e i hi]
  exact List.set_set_perm hi hp
/-- the swap of places i and p -/
theorem QI.swap {n : Nat} {C : List Nat} {I : List Int} (h : QI n C I) {i p : Nat} (hi : i < C.length) (hp : p < C.length) (hne : i ≠ p) :
    QI n ((C.set i (nth C p)).set p (nth C i)) ((I.set (nth C p) (i : Int)).set (nth C i) (p : Int)) := by
  obtain ⟨x1, x2⟩ := h.c i hi
  obtain ⟨y1, y2⟩ := h.c p hp
  have hg : ∀ v, gi ((I.set (nth C p) (i : Int)).set (nth C i) (p : Int)) v = if nth C i = v then (p : Int) else if nth C p = v then (i : Int) else gi I v := fun v => by
    rw [gi_set _ _ _ _ (by simpa using x2), gi_set _ _ _ _ y2]
  have hc : ∀ k, nth ((C.set i (nth C p)).set p (nth C i)) k = if p = k then nth C i else if i = k then nth C p else nth C k := fun k => by
    rw [nth_set' _ _ _ _ (by simpa using hp), nth_set' _ _ _ _ hi]
  refine ⟨fun k hk => ?_, fun v hv => ?_⟩
  · simp only [List.length_set] at hk ⊢
    rw [hc]
    by_cases e : p = k
    · subst e; rw [if_pos rfl]; exact ⟨x1, x2⟩
    · rw [if_neg e]
      by_cases e2 : i = k
      · subst e2; rw [if_pos rfl]; exact ⟨y1, y2⟩
      · rw [if_neg e2]; exact h.c k hk
  · simp only [List.length_set] at hv ⊢
    rw [hg]
    by_cases e : nth C i = v
    · rw [if_pos e]; exact .inr ⟨p, rfl, hp, by rw [hc, if_pos rfl]; exact e⟩
    · rw [if_neg e]
      by_cases e2 : nth C p = v
      · rw [if_pos e2]; exact .inr ⟨i, rfl, hi, by rw [hc, if_neg (Ne.symm hne), if_pos rfl]; exact e2⟩
      · rw [if_neg e2]
        rcases h.i v hv with h' | ⟨k, h1, h2, h3⟩
        · exact .inl h'
        · exact .inr ⟨k, h1, h2, by rw [hc, if_neg (fun h' => e2 (by rw [h']; exact h3)), if_neg (fun h' => e (by rw [h']; exact h3))]; exact h3⟩

/-- the activities, to be compared -/
structure LtAt (w : World) (qb qo aB n : Nat) : Prop where
  hd : w.cell? ⟨qb, qo, none⟩ = some (.slice (some ⟨aB, 0, none⟩) n n)
  at_ : ∀ v, v < n → ∃ b, w.cell? ⟨aB, v, none⟩ = some (.float .f64 b)

set_option maxRecDepth 100000 in
set_option maxHeartbeats 1000000 in
theorem lt_c {w : World} {qb qo aB n : Nat} (h : LtAt w qb qo aB n) {i j : Nat} (hi : i < n) (hj : j < n) :
    ∃ bb, Calls Tryz.prog 88 #[.pointer (some ⟨qb, qo, none⟩), .int .i64 (i : Int), .int .i64 (j : Int)] w fun e w' => e = .returned (.bool bb) ∧ ∃ q, w' = w.drewN q := by
  obtain ⟨b1, h1⟩ := h.at_ i hi
  obtain ⟨b2, h2⟩ := h.at_ j hj
  have h0 := h.hd
  apply Exists.intro
  go_enter Tryz.func88, Tryz.ntmps88
  go_wp2_with fail
  refine wp_region_tail 15 (by kernel_rfl) (by kernel_rfl) ?_
  simp only [List.take_succ_cons, List.take_zero, List.drop_succ_cons, List.drop_zero]
  repeat still_step
  refine wpStill_nil ?_
  go_wp2_with fail
  go_ret
  exact ⟨rfl, 1, rfl⟩
theorem parent_c (i : Nat) (w : World) (hi : i ≤ 1000000000) :
    Calls Tryz.prog 87 #[.int .i64 (i : Int)] w fun e w' => e = .returned (.int .i64 (((i : Int) - 1) / 2)) ∧ w' = w := by
  go_enter Tryz.func87, Tryz.ntmps87
  go_wp2
  go_ret
  exact ⟨by simp; try omega, rfl⟩

open Classical in
/-- one row in place of another -/
noncomputable def upd {ι : Type} (ρ : ι → Row) (r : ι) (R : Row) : ι → Row := fun r' => if r' = r then R else ρ r'
theorem upd_same {ι : Type} (ρ : ι → Row) (r : ι) (R : Row) : upd ρ r R r = R := by simp [upd]
theorem upd_ne {ι : Type} (ρ : ι → Row) (r : ι) (R : Row) {r' : ι} (h : r' ≠ r) : upd ρ r R r' = ρ r' := by simp [upd, h]
theorem upd_twice {ι : Type} (ρ : ι → Row) (r : ι) (R R' : Row) : upd (upd ρ r R) r R' = upd ρ r R' := by
  funext r'; unfold upd; split <;> rfl

/-- the queue's rows: the block that holds its three headers, its content, its indices, the activities -/
structure QRow {ι : Type} (ρ : ι → Row) (rq rc ri ra : ι) (qb qo aB n : Nat) (qc : List Nat) (qi : List Int) : Prop where
  qb : (ρ rq).v.ownBlock = some qb
  q0 : (ρ rq).xs[qo]? = some (slV aB n)
  q1 : (ρ rq).xs[qo + 1]? = some (ρ rc).v
  q2 : (ρ rq).xs[qo + 2]? = some (ρ ri).v
  c : ∃ V, ρ rc = ⟨3, 1, V, qc.length, qc.map fun (n : Nat) => i64 (n : Int)⟩
  i : ∃ V, ρ ri = ⟨3, 1, V, qi.length, qi.map i64⟩
  a : ∃ L, ρ ra = ⟨66, 1, slV aB n, n, L⟩ ∧ ∀ x ∈ L, isF64 x
  qc' : rq ≠ rc
  qi' : rq ≠ ri
  ca : rc ≠ ra
  ia : ri ≠ ra
  ci : rc ≠ ri
  qa : rq ≠ ra

theorem mapc_set (C : List Nat) (i x : Nat) : (C.map fun (n : Nat) => i64 (n : Int)).set i (i64 (x : Int)) = (C.set i x).map fun (n : Nat) => i64 (n : Int) := by rw [List.map_set]

section
variable {ι : Type} {ρ : ι → Row} {rq rc ri ra : ι} {qb qo aB n : Nat} {qc : List Nat} {qi : List Int} {w : World}

theorem QRow.setC (h : QRow ρ rq rc ri ra qb qo aB n qc qi) (hw : Rows ρ w) {b : Nat} (hb : (ρ rc).v.ownBlock = some b) (i x : Nat) :
    ∃ ρ', QRow ρ' rq rc ri ra qb qo aB n (qc.set i x) qi ∧ Tr ρ w ρ' (w.setCell ⟨b, i, none⟩ (.int .i64 (x : Int))) ∧ (ρ' rc).v = (ρ rc).v ∧ (ρ' ri).v = (ρ ri).v ∧ (∀ r, r ≠ rc → r ≠ ri → ρ' r = ρ r) := by
  obtain ⟨V, hV⟩ := h.c
  refine ⟨upd ρ rc { ρ rc with xs := (ρ rc).xs.set i (i64 (x : Int)) }, ?_, hw.set rc hb i (i64 (x : Int)) (upd_same _ _ _) (fun r hr => upd_ne _ _ _ hr), ?_, ?_, fun r h1 _ => upd_ne _ _ _ h1⟩
  · constructor
    · rw [upd_ne _ _ _ h.qc']; exact h.qb
    · rw [upd_ne _ _ _ h.qc']; exact h.q0
    · rw [upd_ne _ _ _ h.qc', upd_same]; exact h.q1
    · rw [upd_ne _ _ _ h.qc', upd_ne _ _ _ (Ne.symm h.ci)]; exact h.q2
    · exact ⟨V, by rw [upd_same, hV]; simp [List.map_set]⟩
    · rw [upd_ne _ _ _ (Ne.symm h.ci)]; exact h.i
    · rw [upd_ne _ _ _ (Ne.symm h.ca)]; exact h.a
    · exact h.qc'
    · exact h.qi'
    · exact h.ca
    · exact h.ia
    · exact h.ci
    · exact h.qa
  · rw [upd_same]
  · rw [upd_ne _ _ _ (Ne.symm h.ci)]
theorem QRow.setI (h : QRow ρ rq rc ri ra qb qo aB n qc qi) (hw : Rows ρ w) {b : Nat} (hb : (ρ ri).v.ownBlock = some b) (i : Nat) (x : Int) :
    ∃ ρ', QRow ρ' rq rc ri ra qb qo aB n qc (qi.set i x) ∧ Tr ρ w ρ' (w.setCell ⟨b, i, none⟩ (.int .i64 x)) ∧ (ρ' rc).v = (ρ rc).v ∧ (ρ' ri).v = (ρ ri).v ∧ (∀ r, r ≠ rc → r ≠ ri → ρ' r = ρ r) := by
  obtain ⟨V, hV⟩ := h.i
  refine ⟨upd ρ ri { ρ ri with xs := (ρ ri).xs.set i (i64 x) }, ?_, hw.set ri hb i (i64 x) (upd_same _ _ _) (fun r hr => upd_ne _ _ _ hr), ?_, ?_, fun r _ h1 => upd_ne _ _ _ h1⟩
  · constructor
    · rw [upd_ne _ _ _ h.qi']; exact h.qb
    · rw [upd_ne _ _ _ h.qi']; exact h.q0
    · rw [upd_ne _ _ _ h.qi', upd_ne _ _ _ h.ci]; exact h.q1
    · rw [upd_ne _ _ _ h.qi', upd_same]; exact h.q2
    · rw [upd_ne _ _ _ h.ci]; exact h.c
    · exact ⟨V, by rw [upd_same, hV]; simp [List.map_set]⟩
    · rw [upd_ne _ _ _ (Ne.symm h.ia)]; exact h.a
    · exact h.qc'
    · exact h.qi'
    · exact h.ca
    · exact h.ia
    · exact h.ci
    · exact h.qa
  · rw [upd_ne _ _ _ h.ci]
  · rw [upd_same]

/-- what is read of the queue -/
theorem QRow.at_ (h : QRow ρ rq rc ri ra qb qo aB n qc qi) (hw : Rows ρ w) (hc : 0 < qc.length) (hi : 0 < qi.length) :
    ∃ cb ib cc ic, (ρ rc).v.ownBlock = some cb ∧ (ρ ri).v.ownBlock = some ib ∧ (ρ rc).v = .slice (some ⟨cb, 0, none⟩) qc.length cc ∧ (ρ ri).v = .slice (some ⟨ib, 0, none⟩) qi.length ic := by
  obtain ⟨V, hV⟩ := h.c
  obtain ⟨V', hV'⟩ := h.i
  obtain ⟨cb, cc, e1, e2, _, _⟩ := hw.open rc (by rw [hV]; exact hc)
  obtain ⟨ib, ic, f1, f2, _, _⟩ := hw.open ri (by rw [hV']; exact hi)
  refine ⟨cb, ib, cc, ic, e2, f2, ?_, ?_⟩
  · rw [e1, hV]
  · rw [f1, hV']
theorem QRow.hd1 (h : QRow ρ rq rc ri ra qb qo aB n qc qi) (hw : Rows ρ w) : w.cell? ⟨qb, qo + 1, none⟩ = some (ρ rc).v := hw.cell rq h.qb h.q1
theorem QRow.hd2 (h : QRow ρ rq rc ri ra qb qo aB n qc qi) (hw : Rows ρ w) : w.cell? ⟨qb, qo + 2, none⟩ = some (ρ ri).v := hw.cell rq h.qb h.q2
theorem QRow.gc (h : QRow ρ rq rc ri ra qb qo aB n qc qi) (hw : Rows ρ w) {b : Nat} (hb : (ρ rc).v.ownBlock = some b) {i : Nat} (hi : i < qc.length) : w.cell? ⟨b, i, none⟩ = some (.int .i64 (nth qc i : Nat)) := by
  obtain ⟨V, hV⟩ := h.c
  exact hw.cell rc hb (by rw [hV]; exact getElem?_map_getD (fun (n : Nat) => i64 (n : Int)) qc 0 i hi)
theorem QRow.gi (h : QRow ρ rq rc ri ra qb qo aB n qc qi) (hw : Rows ρ w) {b : Nat} (hb : (ρ ri).v.ownBlock = some b) {i : Nat} (hi : i < qi.length) : w.cell? ⟨b, i, none⟩ = some (.int .i64 (gi qi i)) := by
  obtain ⟨V, hV⟩ := h.i
  exact hw.cell ri hb (by rw [hV]; exact getElem?_map_getD i64 qi (-1) i hi)
theorem QRow.lt (h : QRow ρ rq rc ri ra qb qo aB n qc qi) (hw : Rows ρ w) : LtAt w qb qo aB n := by
  obtain ⟨L, hL, hF⟩ := h.a
  refine ⟨hw.cell rq h.qb h.q0, fun v hv => ?_⟩
  have hl := (hw.own ra).1
  rw [hL] at hl
  have hv' : v < L.length := by simp at hl; omega
  obtain ⟨b, hb, _⟩ := hF _ (List.getElem_mem hv')
  exact ⟨b, by rw [← hb]; exact hw.cell ra (b := aB) (by rw [hL]; rfl) (by rw [hL]; simp [hv'])⟩
end
end Go.Proofs.YtiimddkopiknpaaGreatDoor

/-
  percolateUp, over any rows.
-/
namespace Go.Proofs.YtiimddkopiknpaaGreatDoor
open Go.RowKit

/-- the loop: a hole at place i for x; the parent's place is known -/
def PURel {ι : Type} (ρ0 : ι → Row) (w0 : World) (rq rc ri ra : ι) (qb qo aB n : Nat) (qc0 : List Nat) (qi0 : List Int) (nc x : Nat) (v1 v5 : Value) (wr : World) : Prop :=
  ∃ (ρ : ι → Row) (C : List Nat) (I : List Int) (i : Nat), v1 = .int .i64 (i : Int) ∧ v5 = .int .i64 (((i : Int) - 1) / 2) ∧ i < nc ∧ C.length = nc ∧ I.length = qi0.length ∧
    QRow ρ rq rc ri ra qb qo aB n C I ∧ QI n (C.set i x) (I.set x (i : Int)) ∧ (C.set i x).Perm qc0 ∧ Tr ρ0 w0 ρ wr ∧
    (ρ rc).v = (ρ0 rc).v ∧ (ρ ri).v = (ρ0 ri).v ∧ (∀ r, r ≠ rc → r ≠ ri → ρ r = ρ0 r)

/-- what a change of the queue's order leaves -/
def QPost {ι : Type} (ρ0 : ι → Row) (w0 : World) (rq rc ri ra : ι) (qb qo aB n : Nat) (qc : List Nat) (qi0 : List Int) (wr : World) : Prop :=
  ∃ (ρ : ι → Row) (C : List Nat) (I : List Int), C.length = qc.length ∧ I.length = qi0.length ∧ QRow ρ rq rc ri ra qb qo aB n C I ∧ QI n C I ∧ C.Perm qc ∧ Tr ρ0 w0 ρ wr ∧
    (ρ rc).v = (ρ0 rc).v ∧ (ρ ri).v = (ρ0 ri).v ∧ (∀ r, r ≠ rc → r ≠ ri → ρ r = ρ0 r)

set_option maxRecDepth 100000 in
set_option maxHeartbeats 4000000 in
theorem percUp_c {ι : Type} {ρ0 : ι → Row} {w0 : World} {rq rc ri ra : ι} {qb qo aB n : Nat} {qc : List Nat} {qi : List Int} (h : QRow ρ0 rq rc ri ra qb qo aB n qc qi) (hw : Rows ρ0 w0)
    (hQ : QI n qc qi) {i0 : Nat} (hi0 : i0 < qc.length) (hg0 : gi qi (nth qc i0) = (i0 : Int)) (hb : qc.length ≤ 1000000000) (hbi : qi.length ≤ 1000000000) :
    Calls Tryz.prog 56 #[.pointer (some ⟨qb, qo, none⟩), .int .i64 (i0 : Int)] w0 fun e w' => e = .returned (.tuple #[]) ∧ QPost ρ0 w0 rq rc ri ra qb qo aB n qc qi w' := by
  obtain ⟨k1, k2⟩ := hQ.c i0 hi0
  have k3 := hg0
  clear hg0
  obtain ⟨cb, ib, cc, ic, e1, e2, e3, e4⟩ := h.at_ hw (by omega) (by omega)
  have c1 := h.hd1 hw
  rw [e3] at c1
  have c2 := h.gc hw e1 hi0
  obtain ⟨x, hx⟩ : ∃ x, x = nth qc i0 := ⟨_, rfl⟩
  rw [← hx] at k1 k2 k3 c2
  obtain ⟨nc, hnc⟩ : ∃ nc, nc = qc.length := ⟨_, rfl⟩
  obtain ⟨ni, hni⟩ : ∃ ni, ni = qi.length := ⟨_, rfl⟩
  rw [← hnc] at hi0 hb c1 e3
  rw [← hni] at k2 hbi e4
  replace e1 := Lib.hid e1
  replace e2 := Lib.hid e2
  replace e3 := Lib.hid e3
  replace e4 := Lib.hid e4
  replace hx := Lib.hid hx
  replace k3 := Lib.hid k3
  replace hnc := Lib.hid hnc
  replace hni := Lib.hid hni
  go_enter Tryz.func56, Tryz.ntmps56
  go_wp2_with (first
    | (go_at_call 87; refine Calls.ret (parent_c i0 _ (by omega)) ?_))
  go_loopw [1, 5] (fun v1 v5 wr => PURel ρ0 w0 rq rc ri ra qb qo aB n qc qi nc x v1 v5 wr) (fun v1 _ _ => (intOf v1).toNat)
  case atStart =>
    refine ⟨ρ0, qc, qi, i0, rfl, rfl, hi0, hnc.out.symm, rfl, h, ?_, ?_, Tr.refl hw, rfl, rfl, fun _ _ _ => rfl⟩
    · rw [hx.out, nth_self _ _ (by rw [← hnc.out]; exact hi0), gi_self _ _ _ (by rw [← hx.out, ← hni.out]; exact k2) (by rw [← hx.out]; exact k3.out)]; exact hQ
    · rw [hx.out, nth_self _ _ (by rw [← hnc.out]; exact hi0)]
  case round =>
    obtain ⟨ρ, C, I, i, rfl, rfl, hi, hC, hI, hq, hqi, hmem, hT, hv1, hv2, hother⟩ := hrel
    have b1 : (ρ rc).v.ownBlock = some cb := by rw [hv1]; exact e1.out
    have b2 : (ρ ri).v.ownBlock = some ib := by rw [hv2]; exact e2.out
    have hR := hT.rows
    have d1 := hq.hd1 hR
    have d2 := hq.hd2 hR
    rw [hv1, e3.out] at d1
    rw [hv2, e4.out] at d2
    have xs1 : x < I.length := by rw [hI, ← hni.out]; exact k2
    have iC : i < C.length := by rw [hC]; exact hi
    have gci := hq.gc hR b1 iC
    have gix := hq.gi hR b2 xs1
    clear c1 c2
    have xI : (x : Int) < ni := by omega
    have iI : (i : Int) < nc := by omega
    replace hqi := Lib.hid hqi
    replace hmem := Lib.hid hmem
    replace hI := Lib.hid hI
    replace hC := Lib.hid hC
    replace hv1 := Lib.hid hv1
    replace hv2 := Lib.hid hv2
    replace hother := Lib.hid hother
    replace b1 := Lib.hid b1
    replace b2 := Lib.hid b2
    by_cases hz : i = 0
    · subst hz
      obtain ⟨ρ1, q1, t1, m1, m2, m3⟩ := hq.setC hR b1.out 0 x
      have d3 := q1.hd2 t1.rows
      rw [m2, hv2.out, e4.out] at d3
      have f1 := hR.frozen rc b1.out 0
      have f2 := t1.rows.frozen ri (by rw [m2]; exact b2.out) x
      have g3 := q1.gi t1.rows (by rw [m2]; exact b2.out) xs1
      obtain ⟨ρ2, q2, t2, o1, o2, o3⟩ := q1.setI t1.rows (by rw [m2]; exact b2.out) x (0 : Nat)
      have tt := hT.trans (t1.trans t2)
      replace m1 := Lib.hid m1
      replace m2 := Lib.hid m2
      replace m3 := Lib.hid m3
      replace o1 := Lib.hid o1
      replace o2 := Lib.hid o2
      replace o3 := Lib.hid o3
      replace tt := Lib.hid tt
      go_wp2_with fail
      go_end0
      refine ⟨rfl, ρ2, _, _, ?_, ?_, q2, hqi.out, hmem.out, tt.out, ?_, ?_, ?_⟩
      · rw [List.length_set, hC.out, hnc.out]
      · rw [List.length_set, hI.out]
      · rw [o1.out, m1.out]; exact hv1.out
      · rw [o2.out, m2.out]; exact hv2.out
      · intro r h1 h2; rw [o3.out r h1 h2, m3.out r h1 h2]; exact hother.out r h1 h2
    · have hzb : (((i : Nat) : Int) != 0) = true := by simp; omega
      obtain ⟨p, hp⟩ : ∃ p, p = (i - 1) / 2 := ⟨_, rfl⟩
      have hpI : (((i : Int)) - 1) / 2 = (p : Int) := by omega
      have hpi : p < i := by omega
      have pC : p < C.length := by omega
      have gcp := hq.gc hR b1.out pC
      have hne : i ≠ p := by omega
      obtain ⟨z1, z2⟩ := hqi.out.c p (by simpa using pC)
      rw [nth_set' _ _ _ _ iC, if_neg hne] at z1 z2
      rw [List.length_set] at z2
      obtain ⟨y, hy⟩ : ∃ y, y = nth C p := ⟨_, rfl⟩
      rw [← hy] at z1 z2 gcp
      have hxn : x < n := k1
      obtain ⟨bb, hlt⟩ := lt_c (hq.lt hR) hxn z1
      have pI : (p : Int) < nc := by omega
      have yI : (y : Int) < ni := by have := hni.out; have := hI.out; omega
      rw [hpI]
      replace hlt := Lib.hid hlt
      replace hpI := Lib.hid hpI
      replace hp := Lib.hid hp
      replace hy := Lib.hid hy
      cases bb with
      | false =>
        go_wp2_with (first
          | (go_at_call 88; refine hlt.out.mono ?_; rintro e w2 ⟨rfl, q, rfl⟩
             have hRq := hR.drewN q
             obtain ⟨ρ1, q1, t1, m1, m2, m3⟩ := hq.setC hRq b1.out i x
             have d3 := q1.hd2 t1.rows
             rw [m2, hv2.out, e4.out] at d3
             have f1 := hRq.frozen rc b1.out i
             have f2 := t1.rows.frozen ri (by rw [m2]; exact b2.out) x
             have g3 := q1.gi t1.rows (by rw [m2]; exact b2.out) xs1
             obtain ⟨ρ2, q2, t2, o1, o2, o3⟩ := q1.setI t1.rows (by rw [m2]; exact b2.out) x (i : Nat)
             have tt := (hT.drewN q).trans (t1.trans t2)
             replace m1 := Lib.hid m1
             replace m2 := Lib.hid m2
             replace m3 := Lib.hid m3
             replace o1 := Lib.hid o1
             replace o2 := Lib.hid o2
             replace o3 := Lib.hid o3
             replace tt := Lib.hid tt))
        go_end0
        refine ⟨rfl, ρ2, _, _, ?_, ?_, q2, hqi.out, hmem.out, tt.out, ?_, ?_, ?_⟩
        · rw [List.length_set, hC.out, hnc.out]
        · rw [List.length_set, hI.out]
        · rw [o1.out, m1.out]; exact hv1.out
        · rw [o2.out, m2.out]; exact hv2.out
        · intro r h1 h2; rw [o3.out r h1 h2, m3.out r h1 h2]; exact hother.out r h1 h2
      | true =>
        go_upto_region 3 with (first
          | (go_at_call 88; refine hlt.out.mono ?_; rintro e w2 ⟨rfl, q, rfl⟩))
        have hRq := hR.drewN q
        obtain ⟨ρ1, q1, t1, m1, m2, m3⟩ := hq.setC (hRq.drewN 1) b1.out i y
        have f1 := hR.frozen rc b1.out i
        refine wp_region_tail 12 (by kernel_rfl) (by kernel_rfl) ?_
        simp only [List.take_succ_cons, List.take_zero, List.drop_succ_cons, List.drop_zero]
        repeat still_step
        refine wpStill_nil ?_
        go_upto_region 4 with fail
        obtain ⟨w3, hw3⟩ : ∃ w3, w3 = ((wr.drewN (q + 1)).setCell ⟨cb, i, none⟩ (.int .i64 (y : Int))) := ⟨_, rfl⟩
        have t1 : Tr ρ ((wr.drewN q).drewN 1) ρ1 w3 := by rw [hw3]; exact t1
        rw [← hw3]
        clear hw3
        have d3 := q1.hd2 t1.rows
        have d4 := q1.hd1 t1.rows
        rw [m2, hv2.out, e4.out] at d3
        rw [m1, hv1.out, e3.out] at d4
        have b21 : (ρ1 ri).v.ownBlock = some ib := by rw [m2]; exact b2.out
        have b11 : (ρ1 rc).v.ownBlock = some cb := by rw [m1]; exact b1.out
        have gcp1 := q1.gc t1.rows b11 (i := p) (by simpa using pC)
        rw [nth_set' _ _ _ _ iC, if_neg hne, ← hy.out] at gcp1
        have giy := q1.gi t1.rows b21 z2
        have f2 := t1.rows.frozen ri b21 y
        obtain ⟨ρ2, q2, t2, o1, o2, o3⟩ := q1.setI (t1.rows.drewN 1) b21 y (i : Nat)
        have tt := (hT.drewN (q + 1)).trans ((t1.drewN 1).trans t2)
        clear gcp gci gix d1 d2 t1 t2
        replace m1 := Lib.hid m1
        replace m2 := Lib.hid m2
        replace m3 := Lib.hid m3
        replace o1 := Lib.hid o1
        replace o2 := Lib.hid o2
        replace o3 := Lib.hid o3
        replace tt := Lib.hid tt
        refine wp_region_tail 12 (by kernel_rfl) (by kernel_rfl) ?_
        simp only [List.take_succ_cons, List.take_zero, List.drop_succ_cons, List.drop_zero]
        repeat still_step
        refine wpStill_nil ?_
        go_wp2_with (go_at_call 87; refine Calls.ret (parent_c p _ (by omega)) ?_)
        go_roundw
        case rel =>
          have s1 := hqi.out.swap (i := i) (p := p) (by simpa using iC) (by simpa using pC) hne
          have s2 := perm_swap (C := C.set i x) (i := i) (p := p) (by simpa using iC) (by simpa using pC)
          have ny : nth (C.set i x) p = y := by rw [nth_set' _ _ _ _ iC, if_neg hne, hy.out]
          have nx : nth (C.set i x) i = x := by rw [nth_set' _ _ _ _ iC, if_pos rfl]
          rw [ny, nx, List.set_set] at s1 s2
          have s3 : ((I.set x (i : Int)).set y (i : Int)).set x (p : Int) = (I.set y (i : Int)).set x (p : Int) := by
            by_cases hxy : x = y
            · rw [hxy, List.set_set, List.set_set]
            · rw [List.set_comm _ _ hxy, List.set_set]
          rw [s3] at s1
          refine ⟨ρ2, C.set i y, I.set y (i : Nat), p, rfl, rfl, by omega, ?_, ?_, q2, s1, s2.trans hmem.out, tt.out, ?_, ?_, ?_⟩
          · rw [List.length_set]; exact hC.out
          · rw [List.length_set]; exact hI.out
          · rw [o1.out, m1.out]; exact hv1.out
          · rw [o2.out, m2.out]; exact hv2.out
          · intro r h1 h2; rw [o3.out r h1 h2, m3.out r h1 h2]; exact hother.out r h1 h2
        case measure => simp [intOf]; omega
end Go.Proofs.YtiimddkopiknpaaGreatDoor

/-
  The queue: asking, decreasing, inserting.
-/
namespace Go.Proofs.YtiimddkopiknpaaGreatDoor
open Go.RowKit

section
variable {ι : Type} {ρ : ι → Row} {rq rc ri ra : ι} {qb qo aB n : Nat} {qc : List Nat} {qi : List Int} {w : World}

set_option maxHeartbeats 1000000 in
theorem contains_c (h : QRow ρ rq rc ri ra qb qo aB n qc qi) (hw : Rows ρ w) {v : Nat} (hb : qi.length ≤ 1000000000) (hv : v < 1000000000) :
    Calls Tryz.prog 94 #[.pointer (some ⟨qb, qo, none⟩), .int .i64 (v : Int)] w fun e w' => e = .returned (.bool (decide (v < qi.length ∧ 0 ≤ gi qi v))) ∧ w' = w := by
  have d2 := h.hd2 hw
  obtain ⟨V, hV⟩ := h.i
  obtain ⟨p, cap, hsh⟩ := hw.shape ri
  rw [hsh, hV] at d2
  simp only [] at d2
  by_cases hlt : v < qi.length
  · obtain ⟨b, hbo⟩ := hw.pos ri (by rw [hV]; simp only []; omega)
    have g := h.gi hw hbo hlt
    have hp : p = some ⟨b, 0, none⟩ := by
      obtain ⟨cap2, e, _⟩ := hw.form ri hbo
      rw [hsh] at e
      simpa using (congrArg (fun v => match v with | .slice p _ _ => p | _ => none) e)
    subst hp
    have hltI : (v : Int) < (qi.length : Int) := by omega
    have hd : decide (v < qi.length ∧ 0 ≤ gi qi v) = decide (0 ≤ gi qi v) := by simp [hlt]
    rw [hd]
    clear hsh hV hd
    generalize gi qi v = x at *
    go_enter Tryz.func94, Tryz.ntmps94
    go_wp2_with fail
    go_ret
    exact ⟨by simp, rfl⟩
  · have hd : decide (v < qi.length ∧ 0 ≤ gi qi v) = false := by simp [hlt]
    rw [hd]
    have hltI : ¬ (v : Int) < (qi.length : Int) := by omega
    clear hsh hV hd
    go_enter Tryz.func94, Tryz.ntmps94
    go_wp2_with fail
    go_ret
    exact ⟨rfl, rfl⟩

set_option maxHeartbeats 1000000 in
theorem decrease_c (h : QRow ρ rq rc ri ra qb qo aB n qc qi) (hw : Rows ρ w) (hQ : QI n qc qi) {v : Nat} (hv : v < qi.length) (h0 : 0 ≤ gi qi v) (hbc : qc.length ≤ 1000000000) (hb : qi.length ≤ 1000000000) :
    Calls Tryz.prog 128 #[.pointer (some ⟨qb, qo, none⟩), .int .i64 (v : Int)] w fun e w' => e = .returned (.tuple #[]) ∧ QPost ρ w rq rc ri ra qb qo aB n qc qi w' := by
  rcases hQ.i v hv with h' | ⟨k, k1, k2, k3⟩
  · omega
  obtain ⟨cb, ib, cc, ic, e1, e2, e3, e4⟩ := h.at_ hw (by omega) (by omega)
  have d2 := h.hd2 hw
  rw [e4] at d2
  have g := h.gi hw e2 hv
  rw [k1] at g
  have hvI : (v : Int) < (qi.length : Int) := by omega
  replace hQ := Lib.hid hQ
  replace k1 := Lib.hid k1
  replace e1 := Lib.hid e1
  replace e2 := Lib.hid e2
  replace e3 := Lib.hid e3
  replace e4 := Lib.hid e4
  clear h0
  go_enter Tryz.func128, Tryz.ntmps128
  go_wp2_with (go_at_call 56; refine (percUp_c h hw hQ.out k2 (by rw [k3]; exact k1.out) hbc hb).mono ?_; rintro e w2 ⟨rfl, hp⟩; replace hp := Lib.hid hp)
  go_end0
  exact ⟨rfl, hp.out⟩

/-- the content with one more, and its header -/
theorem QRow.appC (h : QRow ρ rq rc ri ra qb qo aB n qc qi) (hw : Rows ρ w) {w1 : World} (x : Nat) {v' : Value} (ho : w1.ownsRow 0 3 1 v' (qc.length + 1) ((qc.map fun (n : Nat) => i64 (n : Int)) ++ [i64 (x : Int)]))
    (hg : w.grownBy w1 (ρ rc).v.ownBlock) (hf : v'.ownBlock = (ρ rc).v.ownBlock ∨ ∃ b, v'.ownBlock = some b ∧ w.heap.size ≤ b) :
    (w1.cell? ⟨qb, qo + 1, none⟩).isSome = true ∧ w1.frozen? ⟨qb, qo + 1, none⟩ = false ∧ ∃ ρ', QRow ρ' rq rc ri ra qb qo aB n (qc ++ [x]) qi ∧ Tr ρ w ρ' (w1.setCell ⟨qb, qo + 1, none⟩ v') ∧
      (ρ' rc).v = v' ∧ ρ' ri = ρ ri ∧ ρ' rq = { ρ rq with xs := (ρ rq).xs.set (qo + 1) v' } ∧ (∀ r, r ≠ rc → r ≠ rq → ρ' r = ρ r) := by
  obtain ⟨V, hV⟩ := h.c
  let R : Row := ⟨3, 1, v', qc.length + 1, (qc.map fun (n : Nat) => i64 (n : Int)) ++ [i64 (x : Int)]⟩
  have t1 : Tr ρ w (upd ρ rc R) w1 := hw.grow rc (by rw [hV]; exact ho) hg hf (by rw [upd_same, hV]) (fun r hr => upd_ne _ _ _ hr)
  have hb1 : (upd ρ rc R rq).v.ownBlock = some qb := by rw [upd_ne _ _ _ h.qc']; exact h.qb
  refine ⟨?_, t1.rows.frozen rq hb1 _, upd (upd ρ rc R) rq { ρ rq with xs := (ρ rq).xs.set (qo + 1) v' }, ?_, t1.trans (t1.rows.set rq hb1 (qo + 1) v' (by rw [upd_same, upd_ne _ _ _ h.qc']) (fun r hr => upd_ne _ _ _ hr)), ?_, ?_, upd_same _ _ _, fun r h1 h2 => by rw [upd_ne _ _ _ h2, upd_ne _ _ _ h1]⟩
  · rw [t1.rows.cell rq hb1 (j := qo + 1) (u := (ρ rc).v) (by rw [upd_ne _ _ _ h.qc']; exact h.q1)]; rfl
  · constructor
    · rw [upd_same]; exact h.qb
    · rw [upd_same]; simp only []; rw [set_ne_get _ _ _ _ (by omega)]; exact h.q0
    · rw [upd_same, upd_ne _ _ _ (Ne.symm h.qc'), upd_same]; exact set_eq_get _ _ _ _ h.q1
    · rw [upd_same, upd_ne _ _ _ (Ne.symm h.qi'), upd_ne _ _ _ (Ne.symm h.ci)]; simp only []; rw [set_ne_get _ _ _ _ (by omega)]; exact h.q2
    · exact ⟨v', by rw [upd_ne _ _ _ (Ne.symm h.qc'), upd_same]; simp [R]⟩
    · rw [upd_ne _ _ _ (Ne.symm h.qi'), upd_ne _ _ _ (Ne.symm h.ci)]; exact h.i
    · rw [upd_ne _ _ _ (Ne.symm h.qa), upd_ne _ _ _ (Ne.symm h.ca)]; exact h.a
    · exact h.qc'
    · exact h.qi'
    · exact h.ca
    · exact h.ia
    · exact h.ci
    · exact h.qa
  · rw [upd_ne _ _ _ (Ne.symm h.qc'), upd_same]
  · rw [upd_ne _ _ _ (Ne.symm h.qi'), upd_ne _ _ _ (Ne.symm h.ci)]
theorem QRow.appI (h : QRow ρ rq rc ri ra qb qo aB n qc qi) (hw : Rows ρ w) {w1 : World} (x : Int) {v' : Value} (ho : w1.ownsRow 0 3 1 v' (qi.length + 1) ((qi.map i64) ++ [i64 x]))
    (hg : w.grownBy w1 (ρ ri).v.ownBlock) (hf : v'.ownBlock = (ρ ri).v.ownBlock ∨ ∃ b, v'.ownBlock = some b ∧ w.heap.size ≤ b) :
    (w1.cell? ⟨qb, qo + 2, none⟩).isSome = true ∧ w1.frozen? ⟨qb, qo + 2, none⟩ = false ∧ ∃ ρ', QRow ρ' rq rc ri ra qb qo aB n qc (qi ++ [x]) ∧ Tr ρ w ρ' (w1.setCell ⟨qb, qo + 2, none⟩ v') ∧
      (ρ' ri).v = v' ∧ ρ' rc = ρ rc ∧ ρ' rq = { ρ rq with xs := (ρ rq).xs.set (qo + 2) v' } ∧ (∀ r, r ≠ ri → r ≠ rq → ρ' r = ρ r) := by
  obtain ⟨V, hV⟩ := h.i
  let R : Row := ⟨3, 1, v', qi.length + 1, (qi.map i64) ++ [i64 x]⟩
  have t1 : Tr ρ w (upd ρ ri R) w1 := hw.grow ri (by rw [hV]; exact ho) hg hf (by rw [upd_same, hV]) (fun r hr => upd_ne _ _ _ hr)
  have hb1 : (upd ρ ri R rq).v.ownBlock = some qb := by rw [upd_ne _ _ _ h.qi']; exact h.qb
  refine ⟨?_, t1.rows.frozen rq hb1 _, upd (upd ρ ri R) rq { ρ rq with xs := (ρ rq).xs.set (qo + 2) v' }, ?_, t1.trans (t1.rows.set rq hb1 (qo + 2) v' (by rw [upd_same, upd_ne _ _ _ h.qi']) (fun r hr => upd_ne _ _ _ hr)), ?_, ?_, upd_same _ _ _, fun r h1 h2 => by rw [upd_ne _ _ _ h2, upd_ne _ _ _ h1]⟩
  · rw [t1.rows.cell rq hb1 (j := qo + 2) (u := (ρ ri).v) (by rw [upd_ne _ _ _ h.qi']; exact h.q2)]; rfl
  · constructor
    · rw [upd_same]; exact h.qb
    · rw [upd_same]; simp only []; rw [set_ne_get _ _ _ _ (by omega)]; exact h.q0
    · rw [upd_same, upd_ne _ _ _ (Ne.symm h.qc'), upd_ne _ _ _ h.ci]; simp only []; rw [set_ne_get _ _ _ _ (by omega)]; exact h.q1
    · rw [upd_same, upd_ne _ _ _ (Ne.symm h.qi'), upd_same]; exact set_eq_get _ _ _ _ h.q2
    · rw [upd_ne _ _ _ (Ne.symm h.qc'), upd_ne _ _ _ h.ci]; exact h.c
    · exact ⟨v', by rw [upd_ne _ _ _ (Ne.symm h.qi'), upd_same]; simp [R]⟩
    · rw [upd_ne _ _ _ (Ne.symm h.qa), upd_ne _ _ _ (Ne.symm h.ia)]; exact h.a
    · exact h.qc'
    · exact h.qi'
    · exact h.ca
    · exact h.ia
    · exact h.ci
    · exact h.qa
  · rw [upd_ne _ _ _ (Ne.symm h.qi'), upd_same]
  · rw [upd_ne _ _ _ (Ne.symm h.qc'), upd_ne _ _ _ h.ci]
end
end Go.Proofs.YtiimddkopiknpaaGreatDoor

/-
  The queue: inserting.
-/
namespace Go.Proofs.YtiimddkopiknpaaGreatDoor
open Go.RowKit

theorem set_same {α : Type} (L : List α) (i : Nat) (v : α) (h : L[i]? = some v) : L.set i v = L := by
  apply List.ext_getElem?
  intro j
  rw [List.getElem?_set]
  by_cases e : i = j
  · subst e
    obtain ⟨h1, h2⟩ := List.getElem?_eq_some_iff.1 h
    simp [h1, h2]
  · simp [e]

theorem keepHid {p : Prop} (h : Hid p) : p := h.out

def INRel {ι : Type} (ρ0 : ι → Row) (w0 : World) (rq rc ri ra : ι) (qb qo aB n : Nat) (qc : List Nat) (qi0 : List Int) (v : Nat) (v4 : Value) (wr : World) : Prop :=
  ∃ (ρ : ι → Row) (I : List Int), v4 = .int .i64 (I.length : Nat) ∧ (I = qi0 ∨ (qi0.length = v ∧ I = qi0 ++ [-1])) ∧ QRow ρ rq rc ri ra qb qo aB n qc I ∧ Tr ρ0 w0 ρ wr ∧
    ρ rc = ρ0 rc ∧ ρ rq = { ρ0 rq with xs := (ρ0 rq).xs.set (qo + 2) (ρ ri).v } ∧ (∀ r, r ≠ rc → r ≠ ri → r ≠ rq → ρ r = ρ0 r)

def INPost {ι : Type} (ρ0 : ι → Row) (w0 : World) (rq rc ri ra : ι) (qb qo aB n : Nat) (qc : List Nat) (qi0 : List Int) (v : Nat) (wr : World) : Prop :=
  ∃ (ρ : ι → Row) (C : List Nat) (I : List Int), C.length = qc.length + 1 ∧ I.length = max qi0.length (v + 1) ∧ QRow ρ rq rc ri ra qb qo aB n C I ∧ QI n C I ∧ C.Perm (qc ++ [v]) ∧ Tr ρ0 w0 ρ wr ∧
    ρ rq = { ρ0 rq with xs := ((ρ0 rq).xs.set (qo + 1) (ρ rc).v).set (qo + 2) (ρ ri).v } ∧ (∀ r, r ≠ rc → r ≠ ri → r ≠ rq → ρ r = ρ0 r)

theorem gi_append (L : List Int) (v : Nat) : gi (L ++ [-1]) v = gi L v := by
  unfold gi
  rw [List.getD_eq_getElem?_getD, List.getD_eq_getElem?_getD, List.getElem?_append]
  split
  · rfl
  · rename_i h
    have : L[v]? = none := by simp; omega
    rw [this]
    cases e : v - L.length with
    | zero => rfl
    | succ k => simp
theorem nth_append (L : List Nat) (x i : Nat) : nth (L ++ [x]) i = if i < L.length then nth L i else if i = L.length then x else 0 := by
  unfold nth
  rw [List.getD_eq_getElem?_getD, List.getD_eq_getElem?_getD, List.getElem?_append]
  split
  · rfl
  · rename_i h
    by_cases e : i = L.length
    · subst e; simp
    · rw [if_neg e]
      have : i - L.length ≠ 0 := by omega
      cases e2 : i - L.length with
      | zero => omega
      | succ k => simp

theorem QI.insert {n : Nat} {C : List Nat} {I : List Int} (h : QI n C I) {v : Nat} (hv : v < n) (hvi : v < I.length) :
    QI n (C ++ [v]) (I.set v (C.length : Nat)) ∧ gi (I.set v (C.length : Nat)) (nth (C ++ [v]) C.length) = (C.length : Int) := by
  have hg : ∀ u, gi (I.set v (C.length : Nat)) u = if v = u then (C.length : Int) else gi I u := fun u => gi_set _ _ _ _ hvi
  refine ⟨⟨fun k hk => ?_, fun u hu => ?_⟩, ?_⟩
  · simp only [List.length_append, List.length_singleton] at hk
    rw [nth_append]
    by_cases e : k < C.length
    · rw [if_pos e]
      obtain ⟨z1, z2⟩ := h.c k e
      exact ⟨z1, by simpa using z2⟩
    · have : k = C.length := by omega
      subst this
      rw [if_neg e, if_pos rfl]
      exact ⟨hv, by simpa using hvi⟩
  · rw [hg]
    simp only [List.length_set] at hu
    by_cases e : v = u
    · subst e; rw [if_pos rfl]; exact .inr ⟨C.length, rfl, by simp, by rw [nth_append]; simp⟩
    · rw [if_neg e]
      rcases h.i u hu with h' | ⟨k, h1, h2, h3⟩
      · exact .inl h'
      · exact .inr ⟨k, h1, by simp; omega, by rw [nth_append, if_pos h2]; exact h3⟩
  · rw [nth_append, if_neg (by omega), if_pos rfl, hg, if_pos rfl]

set_option maxRecDepth 100000 in
set_option maxHeartbeats 4000000 in
theorem insert_c {ι : Type} {ρ0 : ι → Row} {w0 : World} {rq rc ri ra : ι} {qb qo aB n : Nat} {qc : List Nat} {qi : List Int} (h : QRow ρ0 rq rc ri ra qb qo aB n qc qi) (hw : Rows ρ0 w0)
    (hQ : QI n qc qi) {v : Nat} (hv : v < n) (hvl : v ≤ qi.length) (hb : qc.length ≤ 100000000) (hbi : qi.length ≤ 100000000) :
    Calls Tryz.prog 38 #[.pointer (some ⟨qb, qo, none⟩), .int .i64 (v : Int)] w0 fun e w' => e = .returned (.tuple #[]) ∧ INPost ρ0 w0 rq rc ri ra qb qo aB n qc qi v w' := by
  obtain ⟨iN, hiN, hz0, hz1, hz2⟩ := info_parts infoInt
  obtain ⟨V, hV⟩ := h.i
  have d2 := h.hd2 hw
  obtain ⟨p2, cap2, hsh⟩ := hw.shape ri
  rw [hsh, hV] at d2
  simp only [] at d2
  clear hsh hV
  go_enter Tryz.func38, Tryz.ntmps38
  go_wp2_with fail
  go_loopw [4] (fun v4 wr => INRel ρ0 w0 rq rc ri ra qb qo aB n qc qi v v4 wr) (fun v4 _ => v + 2 - (intOf v4).toNat)
  case atStart => exact ⟨ρ0, qi, rfl, .inl rfl, h, Tr.refl hw, rfl, by rw [set_same _ _ _ h.q2], fun _ _ _ _ => rfl⟩
  case round =>
    obtain ⟨ρ, I, rfl, hI, hq, hT, e1, e2, e3⟩ := hrel
    have hR := hT.rows
    obtain ⟨V, hV⟩ := hq.i
    have d3 := hq.hd2 hR
    have hq' := hR.own ri
    rw [hV] at hq' d3
    simp only [] at hq' d3
    have hV2 : (ρ ri).v = V := by rw [hV]
    by_cases hlt : I.length ≤ v
    · have hIq : I = qi := by
        rcases hI with h' | ⟨h1, h2⟩
        · exact h'
        · rw [h2] at hlt; simp at hlt; omega
      have hvq : qi.length = v := by rw [← hIq]; have := hIq ▸ hvl; omega
      have hIl : I.length = v := by rw [hIq]; exact hvq
      have hltb : (((I.length : Nat) : Int) ≤ (v : Int)) := by omega
      have hb3 : I.length ≤ 100000000 := by rw [hIq]; exact hbi
      replace hI := Lib.hid hI
      replace e1 := Lib.hid e1
      replace e2 := Lib.hid e2
      replace e3 := Lib.hid e3
      replace hT := Lib.hid hT
      replace hIq := Lib.hid hIq
      replace hvq := Lib.hid hvq
      replace hV := Lib.hid hV
      clear d2
      replace hIl := Lib.hid hIl
      go_wp2_with (at_builtin; apply keepHid)
      refine Lib.hid ?_
      refine wpList_append_rows rfl _ _ 34 rfl 3 iN (.int .i64 0) 1 8 Tryz.underlying34 hiN hz0 hz1 hz2 rfl (by decide) V I.length (I.map i64) rfl (hq'.alloc _) ⟨wr.heap.size, 0, none⟩ 1 1 [i64 (-1)] rfl rfl (cell_new_one _ _ _ _ (by simp)) (by simp [i64, Value.oneCell']) (by unfold maxLen; omega) (by omega) ?_
      intro v' w4 ho hg hf
      obtain ⟨g4, cap4, rfl, _, _⟩ := own_form ho (by omega)
      obtain ⟨p1, p2, ρ', q1, t1, m1, m2, m3, m4⟩ := hq.appI (hR.alloc _) (-1) ho (by rw [hV2]; exact hg) (by rw [hV2]; exact hf)
      obtain ⟨u14, hu14⟩ := Option.isSome_iff_exists.1 p1
      have tt := (hT.out.alloc _).trans t1
      replace tt := Lib.hid tt
      replace m1 := Lib.hid m1
      replace m2 := Lib.hid m2
      replace m3 := Lib.hid m3
      replace m4 := Lib.hid m4
      clear p1 ho hg hf t1
      go_wp2_with fail
      refine ⟨⟨ρ', I ++ [-1], by simp, .inr ⟨hvq.out, by rw [hIq.out]⟩, q1, tt.out, m2.out.trans e1.out, ?_, fun r a b c => (m4.out r b c).trans (e3.out r a b c)⟩, by simp [intOf]; omega⟩
      rw [m3.out, e2.out, m1.out]
      simp only [List.set_set]
    · have hvI : v < I.length := by omega
      have hltb : ¬ (((I.length : Nat) : Int) ≤ (v : Int)) := by omega
      have hQI : QI n qc I := by
        rcases hI with h' | ⟨_, h'⟩
        · rw [h']; exact hQ
        · subst h'
          refine ⟨fun k hk => ?_, fun u hu => ?_⟩
          · obtain ⟨z1, z2⟩ := hQ.c k hk
            exact ⟨z1, by simp; omega⟩
          · rw [gi_append]
            by_cases e : u < qi.length
            · exact hQ.i u e
            · left; unfold gi; rw [List.getD_eq_getElem?_getD]; have : qi[u]? = none := by simp; omega
              rw [this]; rfl
      have hlenI : I.length = max qi.length (v + 1) := by
        rcases hI with h' | ⟨h1, h'⟩
        · rw [h']; rw [h'] at hvI; omega
        · rw [h']; simp; omega
      have hbI : I.length ≤ 200000000 := by omega
      obtain ⟨ib, hib⟩ := hR.pos ri (by rw [hV]; simp only []; omega)
      obtain ⟨ic, hic, _, _⟩ := hR.form ri hib
      rw [hV] at hic
      simp only [] at hic
      rw [hic] at d3
      have d1 := hq.hd1 hR
      obtain ⟨VC, hVC⟩ := hq.c
      obtain ⟨pc, capc, hshc⟩ := hR.shape rc
      rw [hshc, hVC] at d1
      simp only [] at d1
      have giv := hq.gi hR hib hvI
      have fiv := hR.frozen ri hib v
      have hvII : (v : Int) < (I.length : Int) := by omega
      obtain ⟨ρ1, q1, t1, n1, n2, n3⟩ := hq.setI hR hib v (qc.length : Nat)
      replace hI := Lib.hid hI
      replace e1 := Lib.hid e1
      replace e2 := Lib.hid e2
      replace e3 := Lib.hid e3
      replace hT := Lib.hid hT
      replace hV := Lib.hid hV
      replace hVC := Lib.hid hVC
      replace hshc := Lib.hid hshc
      replace hQI := Lib.hid hQI
      replace hlenI := Lib.hid hlenI
      replace hic := Lib.hid hic
      replace hV2 := Lib.hid hV2
      replace hib := Lib.hid hib
      clear d2 hbi hlt
      go_upto_region 4 with fail
      refine wp_region_tail 10 (by kernel_rfl) (by kernel_rfl) ?_
      simp only [List.take_succ_cons, List.take_zero, List.drop_succ_cons, List.drop_zero]
      repeat still_step
      refine wpStill_nil ?_
      go_upto_region 5 with fail
      obtain ⟨w5, hw5⟩ : ∃ w5, w5 = (wr.setCell ⟨ib, v, none⟩ (.int .i64 (qc.length : Nat))).drew := ⟨_, rfl⟩
      have t1 : Tr ρ wr ρ1 w5 := by rw [hw5]; exact t1.drew
      rw [← hw5]
      clear hw5 d3 d1 giv fiv
      have hR5 := t1.rows
      obtain ⟨V5, hV5⟩ := q1.c
      have d5 := q1.hd1 hR5
      have own5 := hR5.own rc
      have hV52 : (ρ1 rc).v = V5 := by rw [hV5]
      rw [hV5] at own5 d5
      simp only [] at own5 d5
      replace hV5 := Lib.hid hV5
      go_wp2_with (at_builtin; apply keepHid)
      refine Lib.hid ?_
      refine wpList_append_rows rfl _ _ 34 rfl 3 iN (.int .i64 0) 1 8 Tryz.underlying34 hiN hz0 hz1 hz2 rfl (by decide) V5 qc.length (qc.map fun (n : Nat) => i64 (n : Int)) rfl (own5.alloc _) ⟨w5.heap.size, 0, none⟩ 1 1 [i64 (v : Nat)] rfl rfl (cell_new_one _ _ _ _ (by simp)) (by simp [i64, Value.oneCell']) (by unfold maxLen; omega) (by omega) ?_
      intro v' w6 ho hg hf
      obtain ⟨g4, cap4, rfl, _, _⟩ := own_form ho (by omega)
      obtain ⟨p1, p2, ρ2, q2, t2, m1, m2, m3, m4⟩ := q1.appC (hR5.alloc _) v ho (by rw [hV52]; exact hg) (by rw [hV52]; exact hf)
      obtain ⟨u14, hu14⟩ := Option.isSome_iff_exists.1 p1
      have tt := (hT.out.trans (t1.alloc _)).trans t2
      have hib2 : (ρ2 ri).v.ownBlock = some ib := by rw [m2, n2]; exact hib.out
      have d6 := q2.hd2 t2.rows
      rw [m2, n2, hV2.out, hic.out] at d6
      have g6 := q2.gi t2.rows hib2 (i := v) (by simpa using hvI)
      rw [gi_set _ _ _ _ hvI, if_pos rfl] at g6
      obtain ⟨j1, j2⟩ := hQI.out.insert hv hvI
      have hperc := percUp_c q2 t2.rows j1 (i0 := qc.length) (by simp) j2 (by simp; omega) (by simp; omega)
      obtain ⟨w7, hw7⟩ : ∃ w7, w7 = w6.setCell ⟨qb, qo + 1, none⟩ (.slice (some ⟨g4, 0, none⟩) (qc.length + 1) cap4) := ⟨_, rfl⟩
      rw [← hw7] at hperc d6 g6 tt
      replace tt := Lib.hid tt
      replace m1 := Lib.hid m1
      replace m2 := Lib.hid m2
      replace m3 := Lib.hid m3
      replace m4 := Lib.hid m4
      replace n1 := Lib.hid n1
      replace n2 := Lib.hid n2
      replace n3 := Lib.hid n3
      replace j1 := Lib.hid j1
      replace j2 := Lib.hid j2
      replace hperc := Lib.hid hperc
      clear p1 ho hg hf t1 t2
      go_upto_region 6 with fail
      rw [← hw7]
      clear hw7
      go_wp2_with (go_at_call 56; refine hperc.out.mono ?_; rintro e w8 ⟨rfl, hp⟩; replace hp := Lib.hid hp)
      go_end0
      refine ⟨rfl, ?_⟩
      obtain ⟨ρ3, C3, I3, a1, a2, a3, a4, a5, a6, a7, a8, a9⟩ := hp.out
      refine ⟨ρ3, C3, I3, by rw [a1]; simp, by rw [a2, List.length_set]; exact hlenI.out, a3, a4, a5, tt.out.trans a6, ?_, fun r x y z => ?_⟩
      · rw [a9 rq h.qc' h.qi', m3.out, n3.out rq h.qc' h.qi', e2.out, a7, a8, m1.out, m2.out, n2.out]
        simp only []
        rw [List.set_comm _ _ (by omega)]
      · rw [a9 r x y, m4.out r x z, n3.out r x y]; exact e3.out r x y z
end Go.Proofs.YtiimddkopiknpaaGreatDoor

/-
  Activities: varBumpActivity, clauseBumpActivity, the decays; the solver's own queue.
-/
namespace Go.Proofs.YtiimddkopiknpaaGreatDoor
open Go.RowKit

def St.setAct (s : St) (v : Nat) (x : Value) : St := { s with actL := s.actL.set v x }

section
variable {s : St} {w : World}
theorem Rep.setAct (h : Rep s w) (v : Nat) (x : Value) (hx : isF64 x) : RT s w (s.setAct v x) (w.setCell ⟨s.actB, v, none⟩ x) :=
  ⟨h.rows.set .act rfl v x (by simp [St.row, St.setAct]) (fun r hr => by cases r <;> first | rfl | contradiction),
   h.hd.congr rfl rfl rfl rfl rfl rfl rfl rfl rfl rfl rfl rfl rfl rfl rfl rfl rfl rfl rfl rfl rfl rfl rfl rfl rfl
     (fun y hy => by
       rcases List.mem_or_eq_of_mem_set hy with h' | h'
       · exact h.hd.fact y h'
       · rw [h']; exact hx) h.hd.facc h.hd.ftb, rfl⟩
theorem Rep.actc (h : Rep s w) {v : Nat} (hv : v < s.nv) : ∃ b, w.cell? ⟨s.actB, v, none⟩ = some (.float .f64 b) ∧ NN .f64 b := by
  have hl := h.act_len
  have hv' : v < s.actL.length := by omega
  obtain ⟨b, hb, hn⟩ := h.hd.fact _ (List.getElem_mem hv')
  exact ⟨b, by rw [← hb]; exact h.rows.cell .act (b := s.actB) rfl (by simp [St.row, hv']), hn⟩
theorem Rep.actf (h : Rep s w) (v : Nat) : w.frozen? ⟨s.actB, v, none⟩ = false := h.rows.frozen .act (b := s.actB) rfl v

theorem Hd.setF {s : St} (h : Hd s) (j : Nat) (v : Value) (hj : (j = 24 ∧ isF64 v) ∨ (j = 25 ∧ isF32 v)) : Hd (s.setSc j v) := by
  obtain ⟨h1, h3, h4, h5, h6, h7, h8, h9, h10, h11, h12, h13, h14, h15, h17, h18, h19, h20, h21, h22, h23, h24, h25, h26, h27, h28, h29, h30, h31, h32, h33, h34, h35, h36, h5087, h5088, h5094, h5097, h5098, h5099, ha, hb, hc⟩ := h
  have hne : j = 24 ∨ j = 25 := by omega
  constructor <;> simp only [St.setSc]
  case f24 =>
    rcases hj with ⟨rfl, b, rfl, hb⟩ | ⟨rfl, b, rfl, hb⟩
    · obtain ⟨b', h24, _⟩ := h24; exact ⟨b, set_eq_get _ _ _ _ h24, hb⟩
    · rw [set_ne_get _ _ _ _ (by omega)]; exact h24
  case f25 =>
    rcases hj with ⟨rfl, b, rfl, hb⟩ | ⟨rfl, b, rfl, hb⟩
    · rw [set_ne_get _ _ _ _ (by omega)]; exact h25
    · obtain ⟨b', h25, _⟩ := h25; exact ⟨b, set_eq_get _ _ _ _ h25, hb⟩
  case f36 => intro j' a b; rw [set_ne_get _ _ _ _ (by omega)]; exact h36 j' a b
  case f5087 => intro j' a b c; rw [set_ne_get _ _ _ _ (by omega)]; exact h5087 j' a b c
  case fact => exact ha
  case facc => exact hb
  case ftb => exact hc
  all_goals
    (first
      | (rw [set_ne_get _ _ _ _ (by omega)]; assumption)
      | (simp only [set_ne_get _ j _ _ (show j ≠ 26 by omega), set_ne_get _ j _ _ (show j ≠ 27 by omega), set_ne_get _ j _ _ (show j ≠ 30 by omega), set_ne_get _ j _ _ (show j ≠ 31 by omega), set_ne_get _ j _ _ (show j ≠ 32 by omega), set_ne_get _ j _ _ (show j ≠ 35 by omega), set_ne_get _ j _ _ (show j ≠ 5097 by omega), set_ne_get _ j _ _ (show j ≠ 5098 by omega)]; assumption))
theorem Rep.setF (h : Rep s w) (j : Nat) (v : Value) (hj : (j = 24 ∧ isF64 v) ∨ (j = 25 ∧ isF32 v)) : RT s w (s.setSc j v) (w.setCell ⟨s.sb, j, none⟩ v) :=
  ⟨h.rows.set .sol rfl j v (by simp [St.row, St.setSc, Row.one]) (fun r hr => by cases r <;> first | rfl | contradiction), h.hd.setF j v hj, rfl⟩

/-- the solver's queue as rows -/
theorem Rep.queue (h : Rep s w) (hq : 0 < s.qi.length) : QRow s.row .sol .qc .qi .act s.sb 21 s.actB s.nv s.qc s.qi :=
  ⟨rfl, h.hd.f21 (fun e => by
    obtain ⟨b, hb⟩ := h.rows.pos .qi hq
    have hb : s.qiV.ownBlock = some b := hb
    rw [e] at hb; cases hb), h.hd.f22, h.hd.f23, ⟨_, rfl⟩, ⟨_, rfl⟩, ⟨_, rfl, h.hd.fact⟩, by simp, by simp, by simp, by simp, by simp, by simp⟩
def St.setQ (s : St) (C : List Nat) (I : List Int) : St := { s with qc := C, qi := I }
/-- the order of the queue has changed -/
theorem Rep.ofQ (h : Rep s w) {w' : World} (hp : QPost s.row w .sol .qc .qi .act s.sb 21 s.actB s.nv s.qc s.qi w') :
    ∃ C I, C.length = s.qc.length ∧ I.length = s.qi.length ∧ QI s.nv C I ∧ C.Perm s.qc ∧ Tr s.row w (s.setQ C I).row w' ∧ Hd (s.setQ C I) := by
  obtain ⟨ρ, C, I, h1, h2, h3, h4, h5, h6, h7, h8, h9⟩ := hp
  refine ⟨C, I, h1, h2, h4, h5, ?_, ?_⟩
  · have e : (s.setQ C I).row = ρ := by
      funext r
      by_cases e1 : r = .qc
      · subst e1
        obtain ⟨V, hV⟩ := h3.c
        rw [hV] at h7 ⊢
        simp only [] at h7
        simp [St.row, St.setQ, h7]
      · by_cases e2 : r = .qi
        · subst e2
          obtain ⟨V, hV⟩ := h3.i
          rw [hV] at h8 ⊢
          simp only [] at h8
          simp [St.row, St.setQ, h8]
        · rw [h9 r e1 e2]
          cases r <;> first | rfl | contradiction
    rw [e]; exact h6
  · exact h.hd.congr rfl rfl rfl rfl rfl rfl rfl rfl rfl rfl rfl rfl rfl rfl rfl rfl rfl rfl rfl rfl rfl rfl rfl rfl rfl h.hd.fact h.hd.facc h.hd.ftb
end
end Go.Proofs.YtiimddkopiknpaaGreatDoor

/-
  varBumpActivity, clauseBumpActivity and the decays.
-/
namespace Go.Proofs.YtiimddkopiknpaaGreatDoor
open Go.RowKit

/-- what a change of activities leaves: the plain state; the queue's members -/
def St.keep2 (s : St) := (s.sb, s.status, s.nbMax, s.idx, s.nconf, s.lbdN, s.lbdP, s.tdN, s.tdP, s.polL)
structure AT (s : St) (w : World) (s' : St) (w' : World) : Prop where
  tr : Tr s.row w s'.row w'
  hd : Hd s'
  kp : s'.keep2 = s.keep2
  ms : s'.toMS = s.toMS
  qcl : s'.qc.length = s.qc.length
  qil : s'.qi.length = s.qi.length
  q : QI s.nv s.qc s.qi → QI s'.nv s'.qc s'.qi
  mem : s'.qc.Perm s.qc

theorem AT.rep {s s' : St} {w w' : World} (h : AT s w s' w') : Rep s' w' := ⟨h.tr.rows, h.hd⟩
theorem AT.sb {s s' : St} {w w' : World} (h : AT s w s' w') : s'.sb = s.sb := congrArg (fun p => p.1) h.kp
theorem AT.refl {s : St} {w : World} (h : Rep s w) : AT s w s w := ⟨Tr.refl h.rows, h.hd, rfl, rfl, rfl, rfl, fun h => h, .refl _⟩
theorem AT.trans {s s1 s2 : St} {w w1 w2 : World} (h : AT s w s1 w1) (h' : AT s1 w1 s2 w2) : AT s w s2 w2 :=
  ⟨h.tr.trans h'.tr, h'.hd, h'.kp.trans h.kp, h'.ms.trans h.ms, h'.qcl.trans h.qcl, h'.qil.trans h.qil, fun hq => h'.q (h.q hq), h'.mem.trans h.mem⟩
theorem RT.at_ {s s' : St} {w w' : World} (h : RT s w s' w') (hm : s'.toMS = s.toMS) : AT s w s' w' := by
  have hk := h.kp
  have e1 : s'.qc = s.qc := congrArg (fun p => p.2.1) hk
  have e2 : s'.qi = s.qi := congrArg (fun p => p.2.2.1) hk
  have e3 : s'.nv = s.nv := congrArg MS.nv hm
  refine ⟨h.tr, h.hd, ?_, hm, by rw [e1], by rw [e2], fun hq => by rw [e1, e2, e3]; exact hq, by rw [e1]⟩
  unfold St.keep2
  unfold St.keep at hk
  injections
  simp_all
theorem AT.drewN {s s' : St} {w w' : World} (h : AT s w s' w') (n : Nat) : AT s w s' (w'.drewN n) := ⟨h.tr.drewN n, h.hd, h.kp, h.ms, h.qcl, h.qil, h.q, h.mem⟩
theorem AT.drew {s s' : St} {w w' : World} (h : AT s w s' w') : AT s w s' w'.drew := h.drewN 1
theorem AT.alloc {s s' : St} {w w' : World} (h : AT s w s' w') (o : Obj) : AT s w s' (w'.alloc o) := ⟨h.tr.alloc o, h.hd, h.kp, h.ms, h.qcl, h.qil, h.q, h.mem⟩

theorem decrease_s {s : St} {w : World} (h : Rep s w) (hQ : QI s.nv s.qc s.qi) {v : Nat} (hv : v < s.qi.length) (h0 : 0 ≤ gi s.qi v) (hbc : s.qc.length ≤ 1000000000) (hb : s.qi.length ≤ 1000000000) :
    Calls Tryz.prog 128 #[.pointer (some ⟨s.sb, 21, none⟩), .int .i64 (v : Int)] w fun e w' => e = .returned (.tuple #[]) ∧ ∃ s', AT s w s' w' := by
  refine (decrease_c (h.queue (by omega)) h.rows hQ hv h0 hbc hb).mono ?_
  rintro e w' ⟨rfl, hp⟩
  obtain ⟨C, I, h1, h2, h3, h4, h5, h6⟩ := h.ofQ hp
  exact ⟨rfl, s.setQ C I, ⟨h5, h6, rfl, rfl, h1, h2, fun _ => h3, h4⟩⟩

theorem run_store_float (P : Program) (w : World) (a : Addr) (m : Mode) (k : FloatKind) (b : Nat) : (store a (.float k b) m).run P w = stored P w a (.float k b) m := run_store P w a _ m rfl
attribute [local go_sem] run_store_float

set_option maxRecDepth 100000 in
set_option maxHeartbeats 4000000 in
theorem varBump_c {s : St} {w : World} (h : Rep s w) {v : Nat} (hv : v < s.nv) (hnv : s.nv ≤ 1000000) (hQ : QI s.nv s.qc s.qi) (hbc : s.qc.length ≤ 1000000000) (hb : s.qi.length ≤ 1000000000) (hq0 : 0 < s.qi.length) :
    Calls Tryz.prog 101 #[.pointer (some ⟨s.sb, 0, none⟩), .int .i32 (v : Int)] w fun e w' => e = .returned (.tuple #[]) ∧ ∃ s', AT s w s' w' := by
  obtain ⟨b1, a1, n1⟩ := h.actc hv
  obtain ⟨b2, a2, n2⟩ := h.hd.f24
  have a2 := h.sc a2
  obtain ⟨r, fa, nr⟩ := add_nn n1 n2
  have fadd := fun (w : World) (t : TypeId) => run_float_arith (P := Tryz.prog) w .add t .f64 b1 b2 r fa
  have f17 := h.sc h.hd.f17
  unfold slV at f17
  have af := h.actf v
  have hvI : (v : Int) < (s.nv : Int) := by omega
  have t1 := h.setAct v (.float .f64 r) ⟨r, rfl, nr⟩
  replace t1 := Lib.hid (t1.at_ rfl)
  clear fa
  go_enter Tryz.func101, Tryz.ntmps101
  go_upto_region 0 with fail
  refine wp_region_tail 12 (by kernel_rfl) (by kernel_rfl) ?_
  simp only [List.take_succ_cons, List.take_zero, List.drop_succ_cons, List.drop_zero]
  repeat still_step
  refine wpStill_nil ?_
  go_upto_region 1 with fail
  have hR1 := t1.out.drew.rep
  have hms : (s.setAct v (.float .f64 r)).toMS = s.toMS := rfl
  have hnv1 : (s.setAct v (.float .f64 r)).nv = s.nv := rfl
  have hsb1 : (s.setAct v (.float .f64 r)).sb = s.sb := rfl
  have hT1 := Lib.hid t1.out.drew
  obtain ⟨w1, hw1⟩ : ∃ w1, w1 = (w.setCell ⟨s.actB, v, none⟩ (.float .f64 r)).drew := ⟨_, rfl⟩
  rw [← hw1] at hT1 hR1 ⊢
  clear hw1 fadd n1 n2 nr a1 a2 f17 af t1
  generalize s.setAct v (.float .f64 r) = s1 at *
  obtain ⟨b3, a3, n3⟩ := hR1.actc (v := v) (by omega)
  have f17 : w1.cell? ⟨s.sb, 17, none⟩ = some (.slice (some ⟨s1.actB, 0, none⟩) s.nv s.nv) := by rw [← hsb1, ← hnv1]; exact hR1.sc hR1.hd.f17
  go_upto_if 25 with fail
  go_cut [] (fun wx => ∃ s2, AT s w s2 wx)
  case first =>
    go_wp2_with fail
    · go_loopw [31] (fun v31 wr => ∃ (i : Nat) (s2 : St), v31 = .int .i64 (i : Int) ∧ i ≤ s.nv ∧ AT s w s2 wr) (fun v31 _ => s.nv - (intOf v31).toNat)
      case atStart => exact ⟨0, s1, rfl, Nat.zero_le _, hT1.out⟩
      case round =>
        obtain ⟨i, s2, rfl, hi, hT2⟩ := hrel
        have hR2 := hT2.rep
        have hnv2 : s2.nv = s.nv := congrArg MS.nv hT2.ms
        have hsb2 := hT2.sb
        clear f17 a3 hR1
        by_cases hlt : i < s.nv
        · have hltI : (i : Int) < (s.nv : Int) := by omega
          have f17 : wr.cell? ⟨s.sb, 17, none⟩ = some (.slice (some ⟨s2.actB, 0, none⟩) s.nv s.nv) := by rw [← hsb2, ← hnv2]; exact hR2.sc hR2.hd.f17
          obtain ⟨b4, a4, n4⟩ := hR2.actc (v := i) (by omega)
          have af := hR2.actf i
          obtain ⟨r4, fm, nr4⟩ := mul_nn (c := 3110860544497550640) n4 (pf_of (by decide +kernel))
          have fmul := fun (w : World) (t : TypeId) => run_float_arith (P := Tryz.prog) w .mul t .f64 b4 3110860544497550640 r4 fm
          have t2 := Lib.hid (hT2.trans ((hR2.setAct i (.float .f64 r4) ⟨r4, rfl, nr4⟩).at_ rfl))
          clear fm n4 nr4
          replace hT2 := Lib.hid hT2
          go_wp2_with fail
          exact ⟨⟨i + 1, _, by go_num, by omega, t2.out⟩, by simp [intOf]; omega⟩
        · obtain ⟨b4, a4, n4⟩ := hR2.hd.f24
          have a4 := hR2.sc a4
          rw [hsb2] at a4
          have af := hR2.scf 24
          rw [hsb2] at af
          obtain ⟨r4, fm, nr4⟩ := mul_nn (c := 3110860544497550640) n4 (pf_of (by decide +kernel))
          have fmul := fun (w : World) (t : TypeId) => run_float_arith (P := Tryz.prog) w .mul t .f64 b4 3110860544497550640 r4 fm
          have t2 := hT2.trans ((hR2.setF 24 (.float .f64 r4) (.inl ⟨rfl, r4, rfl, nr4⟩)).at_ rfl)
          rw [hsb2] at t2
          replace t2 := Lib.hid t2
          clear fm n4 nr4
          replace hT2 := Lib.hid hT2
          go_wp2_with fail
          go_meet
          exact ⟨_, t2.out⟩
    · go_meet
      exact ⟨_, hT1.out⟩
  case rest =>
    obtain ⟨s2, hT2⟩ := hcut
    have hR2 := hT2.rep
    have hnv2 : s2.nv = s.nv := congrArg MS.nv hT2.ms
    have hsb2 := hT2.sb
    have hq2 := hT2.q hQ
    have hct := contains_c (hR2.queue (by rw [hT2.qil]; exact hq0)) hR2.rows (v := v) (by rw [hT2.qil]; exact hb) (by omega)
    rw [hsb2] at hct
    clear f17 a3 hR1
    replace hT2 := Lib.hid hT2
    by_cases hd : v < s2.qi.length ∧ 0 ≤ gi s2.qi v
    · rw [decide_eq_true hd] at hct
      replace hct := Lib.hid hct
      have hdec := decrease_s hR2 hq2 hd.1 hd.2 (by rw [hT2.out.qcl]; exact hbc) (by rw [hT2.out.qil]; exact hb)
      rw [hsb2] at hdec
      replace hdec := Lib.hid hdec
      clear hd
      go_wp2_with (first
        | (go_at_call 94; refine Calls.ret hct.out ?_)
        | (go_at_call 128; refine hdec.out.mono ?_; rintro e w3 ⟨rfl, s3, hT3⟩; replace hT3 := Lib.hid hT3))
      go_end0
      exact ⟨rfl, s3, hT2.out.trans hT3.out⟩
    · rw [decide_eq_false hd] at hct
      replace hct := Lib.hid hct
      clear hd
      go_wp2_with (first
        | (go_at_call 94; refine Calls.ret hct.out ?_))
      go_end0
      exact ⟨rfl, s2, hT2.out⟩
end Go.Proofs.YtiimddkopiknpaaGreatDoor

/-
  clauseBumpActivity and the decays.
-/
namespace Go.Proofs.YtiimddkopiknpaaGreatDoor
open Go.RowKit
attribute [local go_sem] run_store_float

set_option maxRecDepth 100000 in
set_option maxHeartbeats 2000000 in
theorem varDecay_c {s : St} {w : World} (h : Rep s w) :
    Calls Tryz.prog 102 #[.pointer (some ⟨s.sb, 0, none⟩)] w fun e w' => e = .returned (.tuple #[]) ∧ ∃ s', AT s w s' w' := by
  obtain ⟨b2, a2, n2⟩ := h.hd.f24
  have a2 := h.sc a2
  obtain ⟨d, a3, hd⟩ := h.hd.f5098
  have a3 := h.sc a3
  obtain ⟨q, hq, pq⟩ := decay_inv d hd
  obtain ⟨r, fm, nr⟩ := mul_nn n2 pq
  have fquo := fun (w : World) (t : TypeId) => run_float_arith (P := Tryz.prog) w .quo t .f64 4607182418800017408 d q hq
  have fmul := fun (w : World) (t : TypeId) => run_float_arith (P := Tryz.prog) w .mul t .f64 b2 q r fm
  have af := h.scf 24
  have t2 := Lib.hid ((h.setF 24 (.float .f64 r) (.inl ⟨rfl, r, rfl, nr⟩)).at_ rfl)
  clear fm hq
  replace hd := Lib.hid hd
  go_enter Tryz.func102, Tryz.ntmps102
  go_upto_region 0 with fail
  refine wp_region_tail 10 (by kernel_rfl) (by kernel_rfl) ?_
  simp only [List.take_succ_cons, List.take_zero, List.drop_succ_cons, List.drop_zero]
  repeat still_step
  refine wpStill_nil ?_
  go_wp2_with fail
  go_end0
  exact ⟨rfl, _, t2.out.drew⟩

set_option maxRecDepth 100000 in
set_option maxHeartbeats 2000000 in
theorem clauseDecay_c {s : St} {w : World} (h : Rep s w) :
    Calls Tryz.prog 103 #[.pointer (some ⟨s.sb, 0, none⟩)] w fun e w' => e = .returned (.tuple #[]) ∧ ∃ s', AT s w s' w' := by
  obtain ⟨b2, a2, n2⟩ := h.hd.f25
  have a2 := h.sc a2
  obtain ⟨r, fm, nr⟩ := mul_nn (c := 1065361613) n2 (pf_of (by decide +kernel))
  have fmul := fun (w : World) (t : TypeId) => run_float_arith (P := Tryz.prog) w .mul t .f32 b2 1065361613 r fm
  have af := h.scf 25
  have t2 := Lib.hid ((h.setF 25 (.float .f32 r) (.inr ⟨rfl, r, rfl, nr⟩)).at_ rfl)
  clear fm
  go_enter Tryz.func103, Tryz.ntmps103
  go_wp2_with fail
  go_end0
  exact ⟨rfl, _, t2.out⟩

theorem Rep.lrnc {s : St} {w : World} (h : Rep s w) {b : Nat} (hb : s.lrnV.ownBlock = some b) {i : Nat} (hi : i < s.lrn.length) : w.cell? ⟨b, i, none⟩ = some (.pointer (some ⟨nth s.lrn i, 0, none⟩)) :=
  h.rows.cell .lrn (b := b) hb (getElem?_map_getD (ptrV ∘ some) s.lrn 0 i hi)
theorem Rep.actcl {s : St} {w : World} (h : Rep s w) {c : Nat} (hc : c ∈ s.ids) : ∃ b, w.cell? ⟨c, 2, none⟩ = some (.float .f32 b) ∧ NN .f32 b := by
  obtain ⟨b, hb, hn⟩ := h.hd.facc c hc
  exact ⟨b, by rw [← hb]; exact h.clc hc (j := 2) rfl, hn⟩

set_option maxRecDepth 100000 in
set_option maxHeartbeats 4000000 in
theorem clauseBump_c {s : St} {w : World} (h : Rep s w) {c : Nat} (hc : c ∈ s.ids) (hw : s.word c < 4294967296) (hl : ∀ c ∈ s.lrn, c ∈ s.ids) (hll : s.lrn.length ≤ 1000000000) :
    Calls Tryz.prog 99 #[.pointer (some ⟨s.sb, 0, none⟩), .pointer (some ⟨c, 0, none⟩)] w fun e w' => e = .returned (.tuple #[]) ∧ ∃ s', AT s w s' w' := by
  have hL := Learned_c (h.clc hc (j := 1) rfl) hw
  obtain ⟨b1, a1, n1⟩ := h.actcl hc
  obtain ⟨b2, a2, n2⟩ := h.hd.f25
  have a2 := h.sc a2
  obtain ⟨r, fa, nr⟩ := add_nn n1 n2
  have fadd := fun (w : World) (t : TypeId) => run_float_arith (P := Tryz.prog) w .add t .f32 b1 b2 r fa
  have af := h.clf hc 2
  have t1 := h.setActC hc (.float .f32 r) ⟨r, rfl, nr⟩
  replace t1 := Lib.hid (t1.at_ rfl)
  clear fa
  by_cases hd : 2147483648 ≤ s.word c
  · rw [decide_eq_true hd] at hL
    replace hL := Lib.hid hL
    clear hd
    go_enter Tryz.func99, Tryz.ntmps99
    go_upto_region 1 with (go_at_call 86; refine Calls.ret hL.out ?_)
    refine wp_region_tail 9 (by kernel_rfl) (by kernel_rfl) ?_
    simp only [List.take_succ_cons, List.take_zero, List.drop_succ_cons, List.drop_zero]
    repeat still_step
    refine wpStill_nil ?_
    go_upto_region 2 with fail
    have hR1 := t1.out.drew.rep
    have hms : (s.setActC c (.float .f32 r)).toMS = s.toMS := rfl
    have hsb1 : (s.setActC c (.float .f32 r)).sb = s.sb := rfl
    have hT1 := t1.out.drew
    obtain ⟨w1, hw1⟩ : ∃ w1, w1 = (w.setCell ⟨c, 2, none⟩ (.float .f32 r)).drew := ⟨_, rfl⟩
    rw [← hw1] at hT1 hR1 ⊢
    clear hw1 fadd n1 n2 nr a1 a2 af t1
    generalize s.setActC c (.float .f32 r) = s1 at *
    have hc1 : c ∈ s1.ids := by show c ∈ s1.toMS.ids; rw [hms]; exact hc
    obtain ⟨b3, a3, n3⟩ := hR1.actcl hc1
    have hl1 : s1.lrn = s.lrn := congrArg MS.lrn hms
    obtain ⟨p, cap, hsh⟩ := hR1.rows.shape .lrn
    have hsh : s1.lrnV = .slice p s1.lrn.length cap := hsh
    have f13 := hR1.sc hR1.hd.f13
    rw [hsb1, hsh, hl1] at f13
    replace hsh := Lib.hid hsh
    replace hms := Lib.hid hms
    replace hT1 := Lib.hid hT1
    replace hl := Lib.hid hl
    replace hl1 := Lib.hid hl1
    go_wp2_with fail
    · go_loopw [30] (fun v30 wr => ∃ (i : Nat) (s2 : St), v30 = .int .i64 (i : Int) ∧ i ≤ s.lrn.length ∧ AT s w s2 wr ∧ s2.lrnV = s1.lrnV) (fun v30 _ => s.lrn.length - (intOf v30).toNat)
      case atStart => exact ⟨0, s1, rfl, Nat.zero_le _, hT1.out, rfl⟩
      case round =>
        obtain ⟨i, s2, rfl, hi, hT2, hV2⟩ := hrel
        have hR2 := hT2.rep
        have hsb2 := hT2.sb
        have hl2 : s2.lrn = s.lrn := congrArg MS.lrn hT2.ms
        have hi2 : s2.ids = s.ids := congrArg MS.ids hT2.ms
        clear f13 a3 hR1
        by_cases hlt : i < s.lrn.length
        · have hltI : (i : Int) < (s.lrn.length : Int) := by omega
          obtain ⟨lb, hlb⟩ := hR2.rows.pos .lrn (by show 0 < s2.lrn.length; rw [hl2]; omega)
          have hlb : s2.lrnV.ownBlock = some lb := hlb
          have hp : p = some ⟨lb, 0, none⟩ := by
            obtain ⟨cap2, e, _⟩ := hR2.rows.form .lrn hlb
            have e : s2.lrnV = .slice (some ⟨lb, 0, none⟩) s2.lrn.length cap2 := e
            rw [hV2, hsh.out] at e
            simpa using (congrArg (fun v => match v with | .slice p _ _ => p | _ => none) e)
          subst hp
          have gl := hR2.lrnc hlb (i := i) (by rw [hl2]; exact hlt)
          rw [hl2] at gl
          have hx : nth s.lrn i ∈ s2.ids := by
            rw [hi2]
            refine hl.out _ ?_
            unfold nth
            rw [List.getD_eq_getElem?_getD]
            simp [hlt]
          generalize nth s.lrn i = x at *
          obtain ⟨b4, a4, n4⟩ := hR2.actcl hx
          have af := hR2.clf hx 2
          obtain ⟨r4, fm, nr4⟩ := mul_nn (c := 228737632) n4 (pf_of (by decide +kernel))
          have fmul := fun (w : World) (t : TypeId) => run_float_arith (P := Tryz.prog) w .mul t .f32 b4 228737632 r4 fm
          have t2 := Lib.hid (hT2.trans ((hR2.setActC hx (.float .f32 r4) ⟨r4, rfl, nr4⟩).at_ rfl))
          clear fm n4 nr4
          replace hT2 := Lib.hid hT2
          replace hV2 := Lib.hid hV2
          go_wp2_with fail
          exact ⟨⟨i + 1, _, by go_num, by omega, t2.out, hV2.out⟩, by simp [intOf]; omega⟩
        · obtain ⟨b4, a4, n4⟩ := hR2.hd.f25
          have a4 := hR2.sc a4
          rw [hsb2] at a4
          have af := hR2.scf 25
          rw [hsb2] at af
          obtain ⟨r4, fm, nr4⟩ := mul_nn (c := 228737632) n4 (pf_of (by decide +kernel))
          have fmul := fun (w : World) (t : TypeId) => run_float_arith (P := Tryz.prog) w .mul t .f32 b4 228737632 r4 fm
          have t2 := hT2.trans ((hR2.setF 25 (.float .f32 r4) (.inr ⟨rfl, r4, rfl, nr4⟩)).at_ rfl)
          rw [hsb2] at t2
          replace t2 := Lib.hid t2
          clear fm n4 nr4
          replace hT2 := Lib.hid hT2
          replace hV2 := Lib.hid hV2
          go_wp2_with fail
          go_end0
          exact ⟨rfl, _, t2.out⟩
    · go_end0
      exact ⟨rfl, _, hT1.out⟩
  · rw [decide_eq_false hd] at hL
    replace hL := Lib.hid hL
    clear hd
    go_enter Tryz.func99, Tryz.ntmps99
    go_wp2_with (go_at_call 86; refine Calls.ret hL.out ?_)
    go_end0
    exact ⟨rfl, s, AT.refl h⟩
end Go.Proofs.YtiimddkopiknpaaGreatDoor

/-
  Rows beside rows: what a call does to some of them leaves the others.
-/
namespace Go.Proofs.YtiimddkopiknpaaGreatDoor
open Go.RowKit

theorem ownsRow_of_block {w w' : World} {e : TypeId} {k : Nat} {v : Value} {n : Nat} {xs : List Value} (h : w.ownsRow 0 e k v n xs) (hb : ∀ b, v.ownBlock = some b → w'.heap[b]? = w.heap[b]?) : w'.ownsRow 0 e k v n xs := by
  refine ⟨h.1, ?_⟩
  rcases h.2 with h' | ⟨g, cap, cur, h', h0, hg, h1, h2, h3, h4⟩
  · exact .inl h'
  · exact .inr ⟨g, cap, cur, h', h0, by rw [hb g (by rw [h']; rfl)]; exact hg, h1, h2, h3, h4⟩

section
variable {ι ι' κ : Type} {ρ : ι → Row} {ρ' : ι' → Row} {σ : κ → Row} {w w' : World}
theorem Rows.left (h : Rows (Sum.elim ρ σ) w) : Rows ρ w := ⟨fun r => h.own (.inl r), fun r r' b h1 h2 => by have := h.inj (.inl r) (.inl r') b h1 h2; injection this⟩
theorem Rows.right (h : Rows (Sum.elim ρ σ) w) : Rows σ w := ⟨fun r => h.own (.inr r), fun r r' b h1 h2 => by have := h.inj (.inr r) (.inr r') b h1 h2; injection this⟩
theorem Tr.beside (h : Rows (Sum.elim ρ σ) w) (t : Tr ρ w ρ' w') : Tr (Sum.elim ρ σ) w (Sum.elim ρ' σ) w' := by
  have hno : ∀ k b, (σ k).v.ownBlock = some b → ¬ Own ρ b := fun k b hb ⟨r, hr⟩ => by
    have := h.inj (.inl r) (.inr k) b hr hb
    cases this
  have hlt : ∀ k b, (σ k).v.ownBlock = some b → b < w.heap.size := fun k b hb => h.right.lt ⟨k, hb⟩
  refine ⟨⟨fun r => ?_, ?_⟩, ⟨t.fr.os, t.fr.tape, t.fr.output, t.fr.size, fun k hk hn => t.fr.block k hk fun ⟨r, hr⟩ => hn ⟨.inl r, hr⟩⟩, ?_⟩
  · cases r with
    | inl r => exact t.rows.own r
    | inr k => exact ownsRow_of_block (h.own (.inr k)) fun b hb => t.fr.block b (hlt k b hb) (hno k b hb)
  · have hx : ∀ r k b, (ρ' r).v.ownBlock = some b → (σ k).v.ownBlock = some b → False := fun r k b h1 h2 => by
      rcases t.own b ⟨r, h1⟩ with h' | h'
      · exact hno k b h2 h'
      · have := hlt k b h2; omega
    intro r r' b h1 h2
    cases r with
    | inl r => cases r' with
      | inl r' => rw [t.rows.inj r r' b h1 h2]
      | inr k => exact (hx r k b h1 h2).elim
    | inr k => cases r' with
      | inl r' => exact (hx r' k b h2 h1).elim
      | inr k' => rw [h.right.inj k k' b h1 h2]
  · rintro b ⟨r, hr⟩
    cases r with
    | inl r => rcases t.own b ⟨r, hr⟩ with ⟨r', h'⟩ | h'
               · exact .inl ⟨.inl r', h'⟩
               · exact .inr h'
    | inr k => exact .inl ⟨.inr k, hr⟩
theorem Tr.besideR {σ' : ι' → Row} (h : Rows (Sum.elim ρ σ) w) (t : Tr σ w σ' w') : Tr (Sum.elim ρ σ) w (Sum.elim ρ σ') w' := by
  have hno : ∀ k b, (ρ k).v.ownBlock = some b → ¬ Own σ b := fun k b hb ⟨r, hr⟩ => by
    have := h.inj (.inl k) (.inr r) b hb hr
    cases this
  have hlt : ∀ k b, (ρ k).v.ownBlock = some b → b < w.heap.size := fun k b hb => h.left.lt ⟨k, hb⟩
  refine ⟨⟨fun r => ?_, ?_⟩, ⟨t.fr.os, t.fr.tape, t.fr.output, t.fr.size, fun k hk hn => t.fr.block k hk fun ⟨r, hr⟩ => hn ⟨.inr r, hr⟩⟩, ?_⟩
  · cases r with
    | inr r => exact t.rows.own r
    | inl k => exact ownsRow_of_block (h.own (.inl k)) fun b hb => t.fr.block b (hlt k b hb) (hno k b hb)
  · have hx : ∀ r k b, (σ' r).v.ownBlock = some b → (ρ k).v.ownBlock = some b → False := fun r k b h1 h2 => by
      rcases t.own b ⟨r, h1⟩ with h' | h'
      · exact hno k b h2 h'
      · have := hlt k b h2; omega
    intro r r' b h1 h2
    cases r with
    | inr r => cases r' with
      | inr r' => rw [t.rows.inj r r' b h1 h2]
      | inl k => exact (hx r k b h1 h2).elim
    | inl k => cases r' with
      | inr r' => exact (hx r' k b h2 h1).elim
      | inl k' => rw [h.left.inj k k' b h1 h2]
  · rintro b ⟨r, hr⟩
    cases r with
    | inr r => rcases t.own b ⟨r, hr⟩ with ⟨r', h'⟩ | h'
               · exact .inl ⟨.inr r', h'⟩
               · exact .inr h'
    | inl k => exact .inl ⟨.inl k, hr⟩
theorem Tr.leftOf (t : Tr ρ' w (Sum.elim ρ σ) w') : Tr ρ' w ρ w' := ⟨t.rows.left, t.fr, fun b ⟨r, hr⟩ => t.own b ⟨.inl r, hr⟩⟩
end
end Go.Proofs.YtiimddkopiknpaaGreatDoor

/-
  The memory of an analysis: the marks, the box of the literals and the literals, beside the solver's rows.
-/
namespace Go.Proofs.YtiimddkopiknpaaGreatDoor
open Go.RowKit

inductive Lo where
  | met | box | lits | l2 | ncl
def lo (nv mB bB : Nat) (V : Value) (B : List Bool) (L : List Nat) : Lo → Row
  | .met => ⟨4, 1, slV mB (nv * 2), nv * 2, B.map .bool⟩
  | .box => .one 53 1 bB [V]
  | .lits => ⟨82, 1, V, L.length, L.map i32⟩
  | .l2 => .nil 82 1
  | .ncl => .nil 112 4
def St.rl (s : St) (σ : Lo → Row) : Role ⊕ Lo → Row := Sum.elim s.row σ

structure AX (s : St) (σ : Lo → Row) (w : World) (s' : St) (σ' : Lo → Row) (w' : World) : Prop where
  tr : Tr (s.rl σ) w (s'.rl σ') w'
  hd : Hd s'
  kp : s'.keep2 = s.keep2
  ms : s'.toMS = s.toMS
  qcl : s'.qc.length = s.qc.length
  qil : s'.qi.length = s.qi.length
  q : QI s.nv s.qc s.qi → QI s'.nv s'.qc s'.qi
  mem : s'.qc.Perm s.qc

section
variable {s s1 s2 : St} {σ σ1 σ2 : Lo → Row} {w w1 w2 : World}
theorem AX.rows (h : AX s σ w s1 σ1 w1) : Rows (s1.rl σ1) w1 := h.tr.rows
theorem AX.rep (h : AX s σ w s1 σ1 w1) : Rep s1 w1 := ⟨h.tr.rows.left, h.hd⟩
theorem AX.sb (h : AX s σ w s1 σ1 w1) : s1.sb = s.sb := congrArg (fun p => p.1) h.kp
theorem AX.refl (h : Rows (s.rl σ) w) (hd : Hd s) : AX s σ w s σ w := ⟨Tr.refl h, hd, rfl, rfl, rfl, rfl, fun h => h, .refl _⟩
theorem AX.trans (h : AX s σ w s1 σ1 w1) (h' : AX s1 σ1 w1 s2 σ2 w2) : AX s σ w s2 σ2 w2 :=
  ⟨h.tr.trans h'.tr, h'.hd, h'.kp.trans h.kp, h'.ms.trans h.ms, h'.qcl.trans h.qcl, h'.qil.trans h.qil, fun hq => h'.q (h.q hq), h'.mem.trans h.mem⟩
/-- what a call does to the solver alone -/
theorem AX.at_ (h : AX s σ w s1 σ1 w1) (t : AT s1 w1 s2 w2) : AX s σ w s2 σ1 w2 :=
  h.trans ⟨t.tr.beside h.rows, t.hd, t.kp, t.ms, t.qcl, t.qil, t.q, t.mem⟩
theorem AX.drewN (h : AX s σ w s1 σ1 w1) (n : Nat) : AX s σ w s1 σ1 (w1.drewN n) := ⟨h.tr.drewN n, h.hd, h.kp, h.ms, h.qcl, h.qil, h.q, h.mem⟩
theorem AX.drew (h : AX s σ w s1 σ1 w1) : AX s σ w s1 σ1 w1.drew := h.drewN 1
theorem AX.alloc (h : AX s σ w s1 σ1 w1) (o : Obj) : AX s σ w s1 σ1 (w1.alloc o) := ⟨h.tr.alloc o, h.hd, h.kp, h.ms, h.qcl, h.qil, h.q, h.mem⟩
/-- a store into the analysis' own rows -/
theorem AX.setR (h : AX s σ w s1 σ1 w1) (r : Lo) {b : Nat} (hb : (σ1 r).v.ownBlock = some b) (j : Nat) (u : Value) (hr : σ2 r = { σ1 r with xs := (σ1 r).xs.set j u }) (hne : ∀ r', r' ≠ r → σ2 r' = σ1 r') : AX s σ w s1 σ2 (w1.setCell ⟨b, j, none⟩ u) := by
  have t : Tr (s1.rl σ1) w1 (s1.rl σ2) (w1.setCell ⟨b, j, none⟩ u) :=
    h.rows.set (.inr r) (by exact hb) j u (by simp only [St.rl, Sum.elim_inr]; exact hr) (fun r' hr' => by
      cases r' with
      | inl r' => rfl
      | inr r' => exact hne r' (fun e => hr' (by rw [e])))
  exact ⟨h.tr.trans t, h.hd, h.kp, h.ms, h.qcl, h.qil, h.q, h.mem⟩
/-- a row of the analysis has grown -/
theorem AX.growR (h : AX s σ w s1 σ1 w1) (r : Lo) {v' : Value} {n' : Nat} {xs' : List Value} (ho : w2.ownsRow 0 (σ1 r).e (σ1 r).k v' n' xs') (hg : w1.grownBy w2 (σ1 r).v.ownBlock)
    (hf : v'.ownBlock = (σ1 r).v.ownBlock ∨ ∃ b, v'.ownBlock = some b ∧ w1.heap.size ≤ b) (hr : σ2 r = { σ1 r with v := v', n := n', xs := xs' }) (hne : ∀ r', r' ≠ r → σ2 r' = σ1 r') : AX s σ w s1 σ2 w2 := by
  have t : Tr (s1.rl σ1) w1 (s1.rl σ2) w2 :=
    h.rows.grow (.inr r) ho hg hf (by simp only [St.rl, Sum.elim_inr]; exact hr) (fun r' hr' => by
      cases r' with
      | inl r' => rfl
      | inr r' => exact hne r' (fun e => hr' (by rw [e])))
  exact ⟨h.tr.trans t, h.hd, h.kp, h.ms, h.qcl, h.qil, h.q, h.mem⟩
/-- a new row -/
theorem AX.makeR (h : AX s σ w s1 σ1 w1) (r : Lo) (o : Obj) {v' : Value} (ho : (w1.alloc o).ownsRow 0 (σ2 r).e (σ2 r).k v' (σ2 r).n (σ2 r).xs) (hv : v'.ownBlock = some w1.heap.size) (hr : (σ2 r).v = v') (hne : ∀ r', r' ≠ r → σ2 r' = σ1 r') : AX s σ w s1 σ2 (w1.alloc o) := by
  have t : Tr (s1.rl σ1) w1 (s1.rl σ2) (w1.alloc o) :=
    h.rows.make (.inr r) o (by simp only [St.rl, Sum.elim_inr]; exact ho) hv hr (fun r' hr' => by
      cases r' with
      | inl r' => rfl
      | inr r' => exact hne r' (fun e => hr' (by rw [e])))
  exact ⟨h.tr.trans t, h.hd, h.kp, h.ms, h.qcl, h.qil, h.q, h.mem⟩

section
variable {nv mB bB : Nat} {V : Value} {B : List Bool} {L : List Nat}
theorem AX.mark (h : AX s σ w s1 (lo nv mB bB V B L) w1) (i : Nat) (x : Bool) : AX s σ w s1 (lo nv mB bB V (B.set i x) L) (w1.setCell ⟨mB, i, none⟩ (.bool x)) :=
  h.setR .met rfl i (.bool x) (by simp [lo, List.map_set]) (fun r hr => by cases r <;> first | rfl | contradiction)
theorem AX.met (h : AX s σ w s1 (lo nv mB bB V B L) w1) {i : Nat} (hi : i < B.length) : w1.cell? ⟨mB, i, none⟩ = some (.bool (B.getD i false)) :=
  h.rows.cell (.inr .met) (b := mB) rfl (getElem?_map_getD Value.bool B false i hi)
theorem AX.metf (h : AX s σ w s1 (lo nv mB bB V B L) w1) (i : Nat) : w1.frozen? ⟨mB, i, none⟩ = false := h.rows.frozen (.inr .met) (b := mB) rfl i
theorem AX.metl (h : AX s σ w s1 (lo nv mB bB V B L) w1) : B.length = nv * 2 := by have := (h.rows.own (.inr .met)).1; simpa [St.rl, lo] using this
theorem AX.box (h : AX s σ w s1 (lo nv mB bB V B L) w1) : w1.cell? ⟨bB, 0, none⟩ = some V := h.rows.cell (.inr .box) (b := bB) rfl rfl
theorem AX.boxf (h : AX s σ w s1 (lo nv mB bB V B L) w1) : w1.frozen? ⟨bB, 0, none⟩ = false := h.rows.frozen (.inr .box) (b := bB) rfl 0
theorem AX.lits (h : AX s σ w s1 (lo nv mB bB V B L) w1) (hn : 0 < L.length) : ∃ b cap, V = .slice (some ⟨b, 0, none⟩) L.length cap ∧ L.length ≤ cap ∧ cap ≤ maxLen ∧ (∀ i, i < L.length → w1.cell? ⟨b, i, none⟩ = some (.int .i32 (nth L i : Nat))) ∧ (∀ i, w1.frozen? ⟨b, i, none⟩ = false) := by
  obtain ⟨b, cap, h1, h2, h3, h4⟩ := h.rows.open (.inr .lits) (by exact hn)
  exact ⟨b, cap, h1, h3, h4, fun i hi => h.rows.cell (.inr .lits) h2 (getElem?_map_getD i32 L 0 i hi), fun i => h.rows.frozen (.inr .lits) h2 i⟩
theorem AX.litset (h : AX s σ w s1 (lo nv mB bB V B L) w1) {b cap n : Nat} (hV : V = .slice (some ⟨b, 0, none⟩) n cap) (i x : Nat) : AX s σ w s1 (lo nv mB bB V B (L.set i x)) (w1.setCell ⟨b, i, none⟩ (.int .i32 x)) :=
  h.setR .lits (by show V.ownBlock = some b; rw [hV]; rfl) i (i32 x) (by simp [lo, List.map_set]) (fun r hr => by cases r <;> first | rfl | contradiction)
/-- a literal is put behind the others, and the box holds the new header -/
theorem AX.app (h : AX s σ w s1 (lo nv mB bB V B L) w1) (l : Nat) {V' : Value} (ho : w2.ownsRow 0 82 1 V' (L.length + 1) (L.map i32 ++ [i32 l])) (hg : w1.grownBy w2 V.ownBlock)
    (hf : V'.ownBlock = V.ownBlock ∨ ∃ b, V'.ownBlock = some b ∧ w1.heap.size ≤ b) :
    (w2.cell? ⟨bB, 0, none⟩).isSome = true ∧ w2.frozen? ⟨bB, 0, none⟩ = false ∧ AX s σ w s1 (lo nv mB bB V' B (L ++ [l])) (w2.setCell ⟨bB, 0, none⟩ V') := by
  let σ2 : Lo → Row := fun r => match r with | .lits => ⟨82, 1, V', L.length + 1, L.map i32 ++ [i32 l]⟩ | r => lo nv mB bB V B L r
  have t1 : AX s σ w s1 σ2 w2 := h.growR .lits ho hg hf rfl (fun r hr => by cases r <;> first | rfl | contradiction)
  refine ⟨?_, t1.rows.frozen (.inr .box) (b := bB) rfl 0, ?_⟩
  · rw [t1.rows.cell (.inr .box) (b := bB) rfl (show (σ2 .box).xs[0]? = some V from rfl)]; rfl
  · refine t1.setR .box rfl 0 V' rfl (fun r hr => ?_)
    cases r <;> first | contradiction | rfl | skip
    show (⟨_, _, _, _, _⟩ : Row) = _
    simp [lo, σ2]
end
end
end Go.Proofs.YtiimddkopiknpaaGreatDoor
