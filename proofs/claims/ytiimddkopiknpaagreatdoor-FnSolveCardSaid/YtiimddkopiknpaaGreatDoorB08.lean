/-
  Parsing clauses into a problem.
-/
import Derived.Test.YtiimddkopiknpaaGreatDoorB07
set_option linter.unusedVariables false
set_option linter.unusedSimpArgs false

/-
  parseSlice, walked: reading the clauses; the model; simplifying.
-/
namespace Go.Proofs.YtiimddkopiknpaaGreatDoor
open Go.RowKit

/-- what never changes while parsing -/
def PSt.keepQ (s : PSt) := (s.pb, s.nv)
def PMRel (F : List (List Int)) (s0 : PSt) (w0 : World) (v17 : Value) (wr : World) : Prop :=
  ∃ (i : Nat) (s : PSt), v17 = .int .i64 (i : Int) ∧ i ≤ F.length ∧ PV F s i ∧ Tr s0.row w0 s.row wr ∧ s.pb = s0.pb ∧ s.nv = s0.nv
def PLRel (s : PSt) (w1 : World) (gl m : Nat) (l : List Int) (v28 : Value) (wr : World) : Prop :=
  ∃ (j : Nat) (L : List Nat), v28 = .int .i64 (j : Int) ∧ j ≤ m ∧ L.length = m ∧ (∀ k x, k < j → l[k]? = some x → nth L k = litOf x) ∧ Tr (s.rx pxNil) w1 (s.rx (pxL gl m L)) wr
def PSt.setMod (s : PSt) (b : Nat) : PSt := { s with val := List.replicate s.nv 0, mV := slV b s.nv }
theorem PSt.tModel {s : PSt} {w : World} (h : Rows s.row w) (hn : s.nv ≤ maxLen) :
    Tr s.row w (s.setMod w.heap.size).row ((w.alloc (.cells (Array.replicate s.nv (.int .i64 0)) 84)).setCell ⟨s.pb, 4, none⟩ (.slice (some ⟨w.heap.size, 0, none⟩) s.nv s.nv)) := by
  let ρ1 : PRole → Row := fun r => match r with | .mod => ⟨84, 1, slV w.heap.size s.nv, s.nv, List.replicate s.nv (.int .i64 0)⟩ | r => s.row r
  have t1 : Tr s.row w ρ1 (w.alloc (.cells (Array.replicate s.nv (.int .i64 0)) 84)) :=
    h.make (ρ' := ρ1) .mod _ (own_rep w 84 s.nv (.int .i64 0) hn) rfl rfl (fun r hr => by cases r <;> first | rfl | contradiction)
  refine t1.trans (t1.rows.set .pb rfl 4 (.slice (some ⟨w.heap.size, 0, none⟩) s.nv s.nv) (by simp [ρ1, PSt.row, PSt.setMod, PSt.cells, Row.one, slV]) (fun r hr => ?_))
  cases r <;> first | contradiction | rfl | skip
  simp [PSt.row, PSt.setMod, ρ1, i64]
/-- the model holds the first k units, and no more -/
structure UV (s : PSt) (k : Nat) : Prop where
  vl : s.val.length = s.nv
  us : ∀ j, j < k → s.va (nth s.us j / 2) = sgn (nth s.us j) 1
  va : ∀ v, v < s.nv → s.va v ≠ 0 → ∃ j, j < k ∧ nth s.us j / 2 = v
structure PVM (F : List (List Int)) (s : PSt) : Prop where
  nd : s.cs.Nodup
  mem : ∀ c ∈ s.cs, c ∈ s.ids
  len : ∀ c ∈ s.cs, 2 ≤ (s.lits c).length ∧ (s.lits c).length ≤ 1000000
  lit : ∀ c ∈ s.cs, ∀ x ∈ s.lits c, x < s.nv * 2
  ndv : ∀ c ∈ s.cs, ((s.lits c).map (· / 2)).Nodup
  us : ∀ u ∈ s.us, u < s.nv * 2
  sz : s.us.length + s.cs.length ≤ F.length
  st : s.st = 0
  eqv : Eqv (fl F) s.us (s.cs.map s.lits)
def PSt.setV (s : PSt) (val : List Int) : PSt := { s with val := val }
def PUsRel (F : List (List Int)) (s0 : PSt) (w0 : World) (sM : PSt) (v127 : Value) (wr : World) : Prop :=
  ∃ (k : Nat) (val : List Int), v127 = .int .i64 (k : Int) ∧ k ≤ sM.us.length ∧ UV (sM.setV val) k ∧ Tr s0.row w0 (sM.setV val).row wr
theorem UV.next {s : PSt} {k : Nat} (h : UV s k) (hk : k < s.us.length) (hus : ∀ u ∈ s.us, u < s.nv * 2) (h0 : s.va (nth s.us k / 2) = 0) : UV (s.setVal (nth s.us k / 2) (sgn (nth s.us k) 1)) (k + 1) := by
  have hu := hus _ (nth_mem s.us k hk)
  have hva : ∀ v, (s.setVal (nth s.us k / 2) (sgn (nth s.us k) 1)).va v = if nth s.us k / 2 = v then sgn (nth s.us k) 1 else s.va v := by
    intro v
    show (s.val.set _ _).getD v 0 = if nth s.us k / 2 = v then _ else s.val.getD v 0
    rw [List.getD_eq_getElem?_getD, List.getD_eq_getElem?_getD, List.getElem?_set]
    by_cases e : nth s.us k / 2 = v
    · have : v < s.val.length := by rw [h.vl]; omega
      simp [e, this]
    · simp [e]
  refine ⟨by show (s.val.set _ _).length = _; simp; exact h.vl, fun j hj => ?_, fun v hv hne => ?_⟩
  · show (s.setVal _ _).va (nth s.us j / 2) = sgn (nth s.us j) 1
    rw [hva]
    by_cases e : j = k
    · subst e; rw [if_pos rfl]
    · have := h.us j (by omega)
      rw [if_neg]
      · exact this
      · intro e2
        rw [← e2, h0] at this
        unfold sgn at this
        split at this <;> omega
  · rw [hva] at hne
    by_cases e : nth s.us k / 2 = v
    · exact ⟨k, by omega, e⟩
    · rw [if_neg e] at hne
      obtain ⟨j, h1, h2⟩ := h.va v hv hne
      exact ⟨j, by omega, h2⟩
theorem UV.same {s : PSt} {k : Nat} (h : UV s k) (h0 : s.va (nth s.us k / 2) = sgn (nth s.us k) 1) : UV s (k + 1) := by
  refine ⟨h.vl, fun j hj => ?_, fun v hv hne => ?_⟩
  · by_cases e : j = k
    · subst e; exact h0
    · exact h.us j (by omega)
  · obtain ⟨j, h1, h2⟩ := h.va v hv hne
    exact ⟨j, by omega, h2⟩
theorem PVM.sv {F : List (List Int)} {s : PSt} (h : PVM F s) (hU : UV s s.us.length) (hF : F.length ≤ 500000) (hnv : s.nv ≤ 1000000) : SV (fl F) s s.cs.length s.lits := by
  have hsz := h.sz
  refine ⟨Nat.le_refl _, by omega, by rw [List.take_length]; exact h.nd, by rw [List.take_length]; exact h.mem, by rw [List.take_length]; exact h.len, by rw [List.take_length]; exact h.lit, by rw [List.take_length]; exact h.ndv, hU.vl, hnv, fun u hu => ?_, fun v hv hne => ?_, by omega, by unfold fl; rw [List.length_map]; omega, h.st, by rw [List.take_length]; exact h.eqv⟩
  · obtain ⟨j, h1, h2⟩ := mem_nth _ u hu
    refine ⟨h.us u hu, ?_⟩
    rw [← h2]; exact hU.us j h1
  · obtain ⟨j, h1, h2⟩ := hU.va v hv hne
    exact ⟨_, nth_mem _ j h1, h2⟩
/-- two units that exclude each other -/
theorem PVM.bad {F : List (List Int)} {s : PSt} {k : Nat} (h : PVM F s) (hU : UV s k) (hk : k < s.us.length) (h0 : s.va (nth s.us k / 2) ≠ 0) (h1 : s.va (nth s.us k / 2) ≠ sgn (nth s.us k) 1) : ∀ τ, Con τ → ¬ ∀ C ∈ fl F, Clo τ C := by
  intro τ hτ hC
  have hu := h.us _ (nth_mem s.us k hk)
  obtain ⟨j, hj, hj2⟩ := hU.va _ (by omega) h0
  have h2 := hU.us j hj
  rw [hj2] at h2
  have hn : nth s.us j = negL (nth s.us k) := sgn_one_inj hj2.symm (by rw [← h2]; exact fun e => h1 e.symm)
  have h3 := ((h.eqv τ hτ).1 hC).1
  have h4 := h3 _ (nth_mem s.us k hk)
  have h5 := h3 _ (nth_mem s.us j (by omega))
  rw [hn] at h5
  exact hτ _ h4 h5
def PMPost (F : List (List Int)) (s0 : PSt) (w0 : World) (e : Ending) (w : World) : Prop :=
  e = .returned (.tuple #[]) ∧ ∃ s, Tr s0.row w0 s.row w ∧ s.pb = s0.pb ∧ s.nv = s0.nv ∧ ((s.st = 2 ∧ ∀ τ, Con τ → ¬ ∀ C ∈ fl F, Clo τ C) ∨ (PFin (fl F) s ∧ ∃ mb, s.mV = slV mb s.nv))

set_option maxRecDepth 100000 in
set_option maxHeartbeats 8000000 in
theorem parse_c {F : List (List Int)} {s0 : PSt} {w0 : World} {g base n ca : Nat} (h : Rows s0.row w0) (hP0 : PV F s0 0) (hF : FOk s0.nv F) (hn : n = F.length) (hA : CnfAt w0 g base F) (hb : base ≤ w0.heap.size) (hown : ∀ b, Own s0.row b → base ≤ b)
    (hnv0 : 0 < s0.nv) (hnv1 : s0.nv ≤ 100000) :
    Calls Tryz.prog 30 #[.pointer (some ⟨s0.pb, 0, none⟩), .slice (some ⟨g, 0, none⟩) n ca] w0 (PMPost F s0 w0) := by
  obtain ⟨iL, hiL, hz0, hz1, hz2⟩ := info_parts infoLit
  obtain ⟨iC, hiC, hc0, hc1, hc2⟩ := info_parts infoCp
  have hFl := hF.len
  have hnl : n ≤ 500000 := by omega
  replace hF := Lib.hid hF
  replace hn := Lib.hid hn
  go_enter Tryz.func30, Tryz.ntmps30
  go_wp2_with fail
  go_loopw [17] (fun v17 wr => PMRel F s0 w0 v17 wr) (fun v17 _ => n - (intOf v17).toNat)
  case atStart => exact ⟨0, s0, rfl, Nat.zero_le _, hP0, Tr.refl h, rfl, rfl⟩
  case round =>
    obtain ⟨i, s, rfl, hi, hV, hT, hpb, hnv⟩ := hrel
    have hi' : i ≤ n := by rw [hn.out]; exact hi
    by_cases hlt : i < n
    · have hltI : (i : Int) < (n : Int) := by omega
      have hA' := hA.fr hT.fr hown hb
      obtain ⟨l, hl⟩ : ∃ l, F[i]? = some l := ⟨F[i]'(by rw [← hn.out]; exact hlt), by simp [hn.out.symm ▸ hlt]⟩
      have hlm : l ∈ F := List.mem_of_getElem? hl
      obtain ⟨gi, ci, hgi, g1, g2⟩ := hA'.at_ i l hl
      have hne := hF.out.ne l hlm
      have hok := hF.out.ok l hlm
      have hnd := hF.out.nd l hlm
      have h0 : ∃ x, l[0]? = some x := by
        cases l with
        | nil => exact (hne rfl).elim
        | cons x l => exact ⟨x, rfl⟩
      have hl8 : l.length ≤ s0.nv := by
        have hsub : ∀ y ∈ (l.map Int.natAbs).map (· - 1), y ∈ List.range s0.nv := by
          intro y hy
          obtain ⟨z, hz, rfl⟩ := List.mem_map.1 hy
          obtain ⟨x, hx, rfl⟩ := List.mem_map.1 hz
          have := hok x hx
          rw [List.mem_range]
          omega
        have hnd2 : ((l.map Int.natAbs).map (· - 1)).Nodup := by
          rw [List.Nodup, List.pairwise_map]
          exact List.Pairwise.imp_of_mem (fun {a b} ha hb hab e => hab (by
            obtain ⟨x, hx, rfl⟩ := List.mem_map.1 ha
            obtain ⟨y, hy, rfl⟩ := List.mem_map.1 hb
            have := hok x hx
            have := hok y hy
            omega)) hnd
        have := hnd2.length_le_of_subset hsub
        simpa using this
      have hlen0 : l.length ≠ 0 := fun e => hne (List.eq_nil_of_length_eq_zero e)
      obtain ⟨m, hm⟩ : ∃ m, m = l.length := ⟨_, rfl⟩
      rw [← hm] at g1 hl8 hlen0
      have hm0 : ((m : Int) == 0) = false := by simpa using hlen0
      replace hV := Lib.hid hV
      replace hT := Lib.hid hT
      replace hpb := Lib.hid hpb
      replace hnv := Lib.hid hnv
      replace hl := Lib.hid hl
      replace hok := Lib.hid hok
      replace hnd := Lib.hid hnd
      replace hm := Lib.hid hm
      replace hA' := Lib.hid hA'
      by_cases hm1 : m = 1
      · --<U
        subst hm1
        obtain ⟨x, hx⟩ := h0
        have hlx : l = [x] := by
          have := hm.out
          match l, this, hx with
          | [y], _, hx => simp at hx; rw [hx]
        have g3 := g2 0 x hx
        obtain ⟨hx0, hx1⟩ := hok.out x (by rw [hlx]; simp)
        have hxb : (x == 0) = false := by simpa using hx0
        have hll := litOf_lt hx0 hx1
        have hlx' := hl.out
        rw [hlx] at hlx'
        have hPU := fun V => (hV.out).unit (V := V) hlx' hx0 (by rw [hnv.out]; exact hx1)
        have hw32 : IntKind.i32.wrap x = x := IntWalk.i32_in _ (by omega)
        have hIL := fun w => IntToLit_c x w hx0 (by omega)
        obtain ⟨u, hu⟩ : ∃ u, u = litOf x := ⟨_, rfl⟩
        rw [← hu] at hll hPU hIL
        have hus : u < 2147483648 := by omega
        have f0 : wr.cell? ⟨s0.pb, 0, none⟩ = some (.int .i64 (s0.nv : Int)) := by rw [← hpb.out, ← hnv.out]; exact PSt.pbc hT.out.rows (j := 0) rfl
        have f3 : wr.cell? ⟨s.pb, 3, none⟩ = some s.usV := PSt.pbc hT.out.rows (j := 3) rfl
        rw [hpb.out] at f3
        have k1 : (u : Int) / 2 < (s0.nv : Int) := by omega
        have hsz := hV.out.sz
        replace hPU := Lib.hid hPU
        replace hu := Lib.hid hu
        replace hIL := Lib.hid hIL
        replace hlx := Lib.hid hlx
        replace hlx' := Lib.hid hlx'
        clear g2 hx
        go_wp2_with (first
          | (go_at_call 39; refine Calls.ret (hIL.out _) ?_)
          | (go_at_call 29; refine Calls.ret (Var_c u _ hus) ?_)
          | (at_builtin; apply keepHid))
        refine Lib.hid ?_
        refine wpList_append_rows rfl _ _ 53 rfl 82 iL (.int .i32 0) 1 4 Tryz.underlying53 hiL hz0 hz1 hz2 rfl (by decide) s.usV s.us.length (s.us.map i32) rfl ((hT.out.alloc _).rows.own .us) ⟨wr.heap.size, 0, none⟩ 1 1 [i32 u] rfl rfl (cell_new_one1 _ _ _ _ rfl) (by simp [i32, Value.oneCell']) (by unfold maxLen; omega) (by omega) ?_
        intro V' w4 ho hg hf
        obtain ⟨p1, p2, p3⟩ := PSt.tPush (hT.out.alloc _).rows u ho hg hf
        obtain ⟨u14, hu14⟩ := Option.isSome_iff_exists.1 p1
        obtain ⟨g4, cap4, rfl, _, _⟩ := own_form ho (by omega)
        have p4 := (hT.out.alloc _).trans p3
        rw [hpb.out] at p2 hu14 p4
        replace p4 := Lib.hid p4
        clear p1 ho hg hf p3 f0 f3 g1 g3
        go_wp2_with fail
        exact ⟨⟨i + 1, _, by go_num, by have := hn.out; omega, hPU.out _, p4.out, hpb.out, hnv.out⟩, by simp [intOf]; omega⟩
      · have hm1I : ((m : Int) == 1) = false := by simp; omega
        rename World => wA
        have mk := make_rep (P := Tryz.prog) 53 82 (.int .i32 0) 4 Tryz.underlying53 infoLit rfl m (by omega) (by unfold maxLen; omega)
        have hownS : ∀ b, Own s.row b → base ≤ b := fun b hb' => by
          rcases hT.out.own b hb' with h' | h'
          · exact hown b h'
          · omega
        have hwr : base ≤ wA.heap.size := Nat.le_trans hb hT.out.fr.size
        clear h0
        go_upto_region 5 with fail
        have hX1 : Tr (s.rx pxNil) wA (s.rx (pxL wA.heap.size m (List.replicate m 0))) (wA.alloc (.cells (Array.replicate m (.int .i32 0)) 82)) :=
          (PSt.nilX hT.out.rows).make (.inr .l2) _ (by
            have := own_rep wA 82 m (.int .i32 0) (by unfold maxLen; omega)
            simpa [PSt.rx, pxL, slV, i32] using this) rfl rfl (fun r hr => by
              cases r with
              | inl r => rfl
              | inr r => cases r <;> first | rfl | contradiction)
        obtain ⟨gl, hgl⟩ : ∃ gl, gl = wA.heap.size := ⟨_, rfl⟩
        rw [← hgl] at hX1 ⊢
        obtain ⟨w1, hw1⟩ : ∃ w1, w1 = wA.alloc (.cells (Array.replicate m (.int .i32 0)) 82) := ⟨_, rfl⟩
        rw [← hw1] at hX1 ⊢
        replace hX1 := Lib.hid hX1
        replace g2 := Lib.hid g2
        clear hw1 mk g1 hgl
        go_wp2_with fail
        go_loopw [28] (fun v28 wq => PLRel s wA gl m l v28 wq) (fun v28 _ => m - (intOf v28).toNat)
        case atStart => exact ⟨0, List.replicate m 0, rfl, Nat.zero_le _, by simp, fun k x hk => by omega, hX1.out⟩
        case round =>
          clear hX1
          obtain ⟨j, L, rfl, hjm, hLl, hLk, hX⟩ := hrel
          by_cases hjlt : j < m
          · --<V
            have hjI : (j : Int) < (m : Int) := by omega
            obtain ⟨x, hx⟩ : ∃ x, l[j]? = some x := ⟨l[j]'(by rw [← hm.out]; exact hjlt), by simp [hm.out.symm ▸ hjlt]⟩
            have hfr : ∀ o, wr.cell? ⟨gi, o, none⟩ = wA.cell? ⟨gi, o, none⟩ := fun o => hX.fr.cell (by omega) (fun hB => by have := hownS gi (PSt.ownX hB); omega)
            have g3 := (hfr j).trans (g2.out j x hx)
            obtain ⟨hx0, hx1⟩ := hok.out x (List.mem_of_getElem? hx)
            have hxb : (x == 0) = false := by simpa using hx0
            have hll := litOf_lt hx0 hx1
            have hw32 : IntKind.i32.wrap x = x := IntWalk.i32_in _ (by omega)
            have hIL := fun w => IntToLit_c x w hx0 (by omega)
            obtain ⟨u, hu⟩ : ∃ u, u = litOf x := ⟨_, rfl⟩
            rw [← hu] at hll hIL
            have hus : u < 2147483648 := by omega
            have hbl : ((s.rx (pxL gl m L)) (.inr .l2)).v.ownBlock = some gl := rfl
            have hfz := hX.rows.frozen (.inr .l2) hbl j
            have hcl : wr.cell? ⟨gl, j, none⟩ = some (i32 (nth L j)) := hX.rows.cell (.inr .l2) hbl (getElem?_map_getD i32 L 0 j (by omega))
            unfold i32 at hcl
            have hset := hX.trans (hX.rows.set (ρ' := s.rx (pxL gl m (L.set j u))) (.inr .l2) hbl j (i32 u) (by simp [PSt.rx, pxL, List.map_set]) (fun r hr => by
              cases r with
              | inl r => rfl
              | inr r => cases r <;> first | rfl | contradiction))
            have f0 : (wr.setCell ⟨gl, j, none⟩ (.int .i32 (u : Int))).cell? ⟨s0.pb, 0, none⟩ = some (.int .i64 (s0.nv : Int)) := by
              rw [← hpb.out, ← hnv.out]; exact hset.rows.cell (.inl .pb) (b := s.pb) rfl rfl
            have k1 : (u : Int) / 2 < (s0.nv : Int) := by omega
            have hLk2 : ∀ k y, k < j + 1 → l[k]? = some y → nth (L.set j u) k = litOf y := by
              intro k y hk hy
              rw [nth_set _ _ _ _ (by omega)]
              by_cases e : j = k
              · subst e; rw [if_pos rfl, hu]; rw [hx] at hy; cases hy; rfl
              · rw [if_neg e]; exact hLk k y (by omega) hy
            have hLl2 : (L.set j u).length = m := by rw [List.length_set]; exact hLl
            replace hset := Lib.hid hset
            replace hLk := Lib.hid hLk
            replace hLk2 := Lib.hid hLk2
            replace hLl := Lib.hid hLl
            replace hLl2 := Lib.hid hLl2
            replace hX := Lib.hid hX
            replace hu := Lib.hid hu
            replace hIL := Lib.hid hIL
            clear hfr hx hbl
            go_wp2_with (first
              | (go_at_call 39; refine Calls.ret (hIL.out _) ?_)
              | (go_at_call 29; refine Calls.ret (Var_c u _ hus) ?_))
            exact ⟨⟨j + 1, _, by go_num, by omega, hLl2.out, hLk2.out, hset.out⟩, by simp [intOf]; omega⟩
          · --<W
            have hjI : ¬ ((j : Int) < (m : Int)) := by omega
            have hLe : L = l.map litOf := by
              apply List.ext_getElem
              · rw [hLl, List.length_map, hm.out]
              · intro k h1 h2
                have h3 : l[k]? = some (l[k]'(by simpa using h2)) := by simp
                have := hLk k _ (by omega) h3
                rw [nth_lt L k h1] at this
                rw [this]; simp
            have hsz := hV.out.sz
            have h1 : wr.cell? ⟨s.pb, 1, none⟩ = some s.csV := hX.rows.cell (.inl .pb) (b := s.pb) rfl rfl
            rw [hpb.out] at h1
            have hcn : wr.heap.size ∉ s.ids := fun hm => Nat.lt_irrefl _ (PSt.fresh (hX.rows.left) hm)
            have hX2 : Tr (s.rx pxNil) wA (s.rx (pxC gl m L wr.heap.size)) (wr.drew.alloc (.cells #[slV gl m, .int .u32 0, .float .f32 0, .pointer none] 112)) :=
              hX.drew.trans (hX.drew.rows.make (ρ' := s.rx (pxC gl m L wr.heap.size)) (.inr .ncl) _ (own_box wr.drew 112 [slV gl m, .int .u32 0, .float .f32 0, .pointer none]) rfl rfl (fun r hr => by
                cases r with
                | inl r => rfl
                | inr r => cases r <;> first | rfl | contradiction))
            have hAR := PSt.addRows hX2.rows hcn (by rw [hLl]) rfl
            have t1 : Tr s.row wA (s.addCl wr.heap.size L (slV gl m)).row (wr.drew.alloc (.cells #[slV gl m, .int .u32 0, .float .f32 0, .pointer none] 112)) := by
              refine ⟨hAR.1, ⟨hX2.fr.os, hX2.fr.tape, hX2.fr.output, hX2.fr.size, fun k hk hn => hX2.fr.block k hk fun ho => hn (PSt.ownX ho)⟩, fun b hb' => ?_⟩
              rcases hX2.own b (hAR.2 b hb') with h' | h'
              · exact .inl (PSt.ownX h')
              · exact .inr h'
            have t2 := hT.out.trans t1
            have hPM := fun V' => (hV.out).multi (V := slV gl m) (V' := V') hl.out hcn (by rw [← hm.out]; omega) (by rw [← hm.out]; omega) (by rw [hnv.out]; exact hok.out) hnd.out
            rw [← hLe] at hPM
            obtain ⟨c, hc⟩ : ∃ c, c = wr.heap.size := ⟨_, rfl⟩
            have hNC := newC_c (some ⟨gl, 0, none⟩) m m wr.drew
            rw [show wr.drew.heap.size = c from hc.symm] at hNC
            rw [← hc] at hPM t2
            obtain ⟨w6, hw6⟩ : ∃ w6, w6 = wr.drew.alloc (.cells #[slV gl m, .int .u32 0, .float .f32 0, .pointer none] 112) := ⟨_, rfl⟩
            have hNC2 : Calls Tryz.prog 40 #[.slice (some ⟨gl, 0, none⟩) m m] wr.drew fun e w' => e = .returned (.pointer (some ⟨c, 0, none⟩)) ∧ w' = w6 := by rw [hw6]; exact hNC
            rw [← hw6] at t2
            clear hNC hAR t1 hX2 hcn hc hw6
            replace hNC2 := Lib.hid hNC2
            replace t2 := Lib.hid t2
            replace hPM := Lib.hid hPM
            replace hLe := Lib.hid hLe
            replace hLk := Lib.hid hLk
            replace hX := Lib.hid hX
            replace hLl := Lib.hid hLl
            have hpb1 : (s.addCl c L (slV gl m)).pb = s0.pb := hpb.out
            replace hpb1 := Lib.hid hpb1
            go_wp2_with fail
            refine wp_region_firstI (fun w' => w'.cell? ⟨s0.pb, 1, none⟩ = some s.csV) 9 [0, 1, 2, 3, 4, 5] [6, 7, 8] (by kernel_rfl) (by kernel_rfl) h1 ?_
            iterate 6
              refine wpFirstI_cons rfl rfl (fun K hK => ?_)
              apply Exists.intro
              refine And.intro (fun w' hw' => ?_) ?_
              · go_simp
                first | exact rfl | exact ⟨rfl, rfl⟩
              go_simp
              refine hK _ ?_
              clear hK K
            refine wpFirstI_nil ?_
            refine wpActsI_cons rfl ?_
            go_wp2_with (go_at_call 40; refine hNC2.out.mono ?_; rintro e w' ⟨rfl, rfl⟩)
            refine ⟨?_, ?_⟩
            · rw [← hpb1.out]; exact PSt.pbc t2.out.rows (j := 1) rfl
            refine wpActsI_cons rfl ?_
            go_wp2_with fail
            refine ⟨?_, ?_⟩
            · rw [← hpb1.out]; exact PSt.pbc (t2.out.alloc _).rows (j := 1) rfl
            refine wpActsI_cons rfl ?_
            refine wpList_append_rows rfl _ _ 52 rfl 92 iC (.pointer none) 1 8 Tryz.underlying52 hiC hc0 hc1 hc2 rfl (by decide) s.csV s.cs.length (s.cs.map (ptrV ∘ some)) rfl ((t2.out.alloc _).rows.own .cs) ⟨_, 0, none⟩ 1 1 [ptrV (some c)] rfl rfl (cell_new_one1 _ _ _ _ rfl) (by simp [ptrV, Value.oneCell']) (by unfold maxLen; omega) (by omega) ?_
            intro V' w8 ho hg hf
            obtain ⟨g8, cap8, rfl, _, _⟩ := own_form ho (by omega)
            obtain ⟨p1, p2, p3⟩ := PSt.tPushC (s := s.addCl c L (slV gl m)) (t2.out.alloc _).rows c ho hg hf
            have p4 := (t2.out.alloc _).trans p3
            rw [hpb1.out] at p1 p2 p4
            have p1 : w8.cell? ⟨s0.pb, 1, none⟩ = some s.csV := p1
            replace p4 := Lib.hid p4
            clear ho hg hf p3
            go_step
            refine ⟨p1, wpActsI_nil ?_⟩
            go_wp2_with fail
            exact ⟨⟨i + 1, _, by go_num, by have := hn.out; omega, hPM.out _, p4.out, hpb.out, hnv.out⟩, by simp [intOf]; omega⟩
    · have hlt' : ¬ ((i : Int) < (n : Int)) := by omega
      have e : i = F.length := by have := hn.out; omega
      subst e
      have f0 : wr.cell? ⟨s0.pb, 0, none⟩ = some (.int .i64 (s0.nv : Int)) := by rw [← hpb, ← hnv]; exact PSt.pbc hT.rows (j := 0) rfl
      have f4 : wr.cell? ⟨s0.pb, 4, none⟩ = some s.mV := by rw [← hpb]; exact PSt.pbc hT.rows (j := 4) rfl
      have f4f := PSt.pbf hT.rows 4
      rw [hpb] at f4f
      have mk := make_rep (P := Tryz.prog) 54 84 (.int .i64 0) 8 Tryz.underlying54 infoDl rfl s0.nv (by omega) (by unfold maxLen; omega)
      have tM := hT.trans (PSt.tModel hT.rows (by unfold maxLen; omega))
      rw [hpb, hnv] at tM
      have hsz := hV.sz
      rename World => wA
      have f4a : (wA.alloc (.cells (Array.replicate s0.nv (.int .i64 0)) 84)).cell? ⟨s0.pb, 4, none⟩ = some s.mV := by rw [← hpb]; exact PSt.pbc (hT.alloc _).rows (j := 4) rfl
      have f4fa := PSt.pbf (hT.alloc (.cells (Array.replicate s0.nv (.int .i64 0)) 84)).rows 4
      rw [hpb] at f4fa
      clear f4 f4f
      go_upto_region 28 with fail
      obtain ⟨mb, hmb⟩ : ∃ mb, mb = wA.heap.size := ⟨_, rfl⟩
      obtain ⟨wB, hwB⟩ : ∃ wB, wB = (wA.alloc (.cells (Array.replicate s0.nv (.int .i64 0)) 84)).setCell ⟨s0.pb, 4, none⟩ (.slice (some ⟨wA.heap.size, 0, none⟩) s0.nv s0.nv) := ⟨_, rfl⟩
      rw [← hwB] at tM ⊢
      rw [← hmb] at tM
      obtain ⟨sM, hsM⟩ : ∃ sM, sM = s.setMod mb := ⟨_, rfl⟩
      rw [← hsM] at tM
      have hpbM : sM.pb = s0.pb := by rw [hsM]; exact hpb
      have hnvM : sM.nv = s0.nv := by rw [hsM]; exact hnv
      have husM : sM.us = s.us := by rw [hsM]; rfl
      have hmVM : sM.mV = .slice (some ⟨mb, 0, none⟩) s0.nv s0.nv := by rw [hsM, ← hnv]; rfl
      have hUV : UV sM 0 := by
        rw [hsM]
        refine ⟨by show (List.replicate s.nv (0 : Int)).length = s.nv; simp, fun k hk => by omega, fun v hv hne => ?_⟩
        exfalso
        apply hne
        show (List.replicate s.nv (0 : Int)).getD v 0 = 0
        rw [List.getD_eq_getElem?_getD, List.getElem?_replicate]
        split <;> rfl
      have hVM : PVM F sM := by
        rw [hsM]
        exact ⟨hV.nd, hV.mem, hV.len, hV.lit, hV.ndv, hV.us, by have := hV.sz; exact this, hV.st, by have := hV.eqv; rw [List.take_length] at this; exact this⟩
      obtain ⟨p3, c3, h3⟩ := tM.rows.shape .us
      have h3 : sM.usV = .slice p3 sM.us.length c3 := h3
      have f3 : wB.cell? ⟨s0.pb, 3, none⟩ = some sM.usV := by rw [← hpbM]; exact PSt.pbc tM.rows (j := 3) rfl
      rw [h3] at f3
      obtain ⟨ul, hul⟩ : ∃ ul, ul = sM.us.length := ⟨_, rfl⟩
      rw [← hul] at f3
      have hul1 : ul ≤ 500000 := by rw [hul, husM]; omega
      replace hul := Lib.hid hul
      replace h3 := Lib.hid h3
      replace tM := Lib.hid tM
      replace hUV := Lib.hid hUV
      replace hVM := Lib.hid hVM
      replace hpbM := Lib.hid hpbM
      replace hnvM := Lib.hid hnvM
      replace husM := Lib.hid husM
      replace hmVM := Lib.hid hmVM
      replace hmb := Lib.hid hmb
      clear hwB hsM hV hT mk f0 f4a f4fa hA
      go_wp2_with fail
      clear f3
      go_loopw [127] (fun v127 wr => PUsRel F s0 w0 sM v127 wr) (fun v127 _ => ul - (intOf v127).toNat)
      case atStart => exact ⟨0, sM.val, rfl, Nat.zero_le _, hUV.out, tM.out⟩
      case round =>
        clear tM hUV
        obtain ⟨k, val, rfl, hkl, hU, hT⟩ := hrel
        rw [← hul.out] at hkl
        by_cases hklt : k < ul
        · --<X
          have hkI : (k : Int) < (ul : Int) := by omega
          have hVM' : PVM F (sM.setV val) := ⟨hVM.out.nd, hVM.out.mem, hVM.out.len, hVM.out.lit, hVM.out.ndv, hVM.out.us, hVM.out.sz, hVM.out.st, hVM.out.eqv⟩
          obtain ⟨ub, uc, huv, hut⟩ := PSt.usAt hT.rows (by show 0 < sM.us.length; rw [← hul.out]; omega)
          have hp3 : p3 = some ⟨ub, 0, none⟩ := by
            have : sM.usV = .slice (some ⟨ub, 0, none⟩) sM.us.length uc := huv
            rw [h3.out] at this
            simp at this
            exact this.1
          subst hp3
          have ft := hut k (by show k < sM.us.length; rw [← hul.out]; exact hklt)
          rw [show nth (sM.setV val).us k = nth sM.us k from rfl] at ft
          have hul' := hVM.out.us _ (nth_mem sM.us k (by rw [← hul.out]; exact hklt))
          rw [hnvM.out] at hul'
          have f4 : wr.cell? ⟨s0.pb, 4, none⟩ = some (.slice (some ⟨mb, 0, none⟩) s0.nv s0.nv) := by
            rw [← hpbM.out, ← hmVM.out]; exact PSt.pbc hT.rows (j := 4) rfl
          have hval : val.length = s0.nv := by have := hU.vl; exact this.trans hnvM.out
          have hmbo : (((sM.setV val).row .mod).v).ownBlock = some mb := by show sM.mV.ownBlock = _; rw [hmVM.out]; rfl
          have g4 : wr.cell? ⟨mb, nth sM.us k / 2, none⟩ = some (.int .i64 ((sM.setV val).va (nth sM.us k / 2))) := hT.rows.cell .mod hmbo (getElem?_map_getD i64 val 0 _ (by omega))
          have gf := hT.rows.frozen .mod hmbo (nth sM.us k / 2)
          have hst := hT.trans (PSt.tVal hT.rows (b := mb) (n := s0.nv) (cap := s0.nv) hmVM.out (nth sM.us k / 2) (sgn (nth sM.us k) 1))
          have hnx := fun h0 => hU.next (by show k < sM.us.length; rw [← hul.out]; exact hklt) (by exact hVM'.us) h0
          have hvv : (sM.setV val).va (nth sM.us k / 2) = 0 ∨ (sM.setV val).va (nth sM.us k / 2) = 1 ∨ (sM.setV val).va (nth sM.us k / 2) = -1 := by
            by_cases e : (sM.setV val).va (nth sM.us k / 2) = 0
            · exact .inl e
            · obtain ⟨j, _, hj2⟩ := hU.va _ (by show nth sM.us k / 2 < sM.nv; rw [hnvM.out]; omega) e
              have := hU.us j (by assumption)
              rw [hj2] at this
              unfold sgn at this
              split at this
              · exact .inr (.inl this)
              · exact .inr (.inr this)
          have hnx : (sM.setV val).va (nth sM.us k / 2) = 0 → UV (sM.setV (val.set (nth sM.us k / 2) (sgn (nth sM.us k) 1))) (k + 1) := hnx
          have hst : Tr s0.row w0 (sM.setV (val.set (nth sM.us k / 2) (sgn (nth sM.us k) 1))).row (wr.setCell ⟨mb, nth sM.us k / 2, none⟩ (.int .i64 (sgn (nth sM.us k) 1))) := hst
          obtain ⟨u, hu⟩ : ∃ u, u = nth sM.us k := ⟨_, rfl⟩
          rw [← hu] at ft hul' g4 gf hst hnx hvv
          obtain ⟨x, hxx⟩ : ∃ x, x = (sM.setV val).va (u / 2) := ⟨_, rfl⟩
          rw [← hxx] at g4 hvv hnx
          replace hu := Lib.hid hu
          have hus : u < 2147483648 := by omega
          have k1 : (u : Int) / 2 < (s0.nv : Int) := by omega
          have k2 : (0 : Int) ≤ (u : Int) / 2 := by omega
          have k3 : ((u : Int) / 2).toNat = u / 2 := by omega
          have hP := fun w => Pos_c u w hus
          have hxx' := hxx.symm
          replace hU := Lib.hid hU
          replace hT := Lib.hid hT
          clear hut huv hmbo hval hxx
          rcases hvv with hx | hx | hx
          · subst hx
            have hnx0 := hnx rfl
            clear hnx
            by_cases hp : u % 2 = 0
            all_goals (first | rw [decide_eq_true hp] at hP | rw [decide_eq_false hp] at hP)
            all_goals (replace hxx' := Lib.hid hxx')
            · have hsd : sgn u 1 = if u % 2 = 0 then 1 else -1 := rfl
              simp only [hp, if_true, if_false] at hsd
              rw [hsd] at hst hnx0
              replace hst := Lib.hid hst
              replace hnx0 := Lib.hid hnx0
              clear hsd
              go_wp2_with (first
                | (go_at_call 29; refine Calls.ret (Var_c u _ hus) ?_)
                | (go_at_call 28; refine Calls.ret (hP _) ?_))
              exact ⟨⟨k + 1, _, by go_num, by rw [← hul.out]; omega, hnx0.out, hst.out⟩, by simp [intOf]; omega⟩
            · have hsd : sgn u 1 = if u % 2 = 0 then 1 else -1 := rfl
              simp only [hp, if_true, if_false] at hsd
              rw [hsd] at hst hnx0
              replace hst := Lib.hid hst
              replace hnx0 := Lib.hid hnx0
              clear hsd
              go_wp2_with (first
                | (go_at_call 29; refine Calls.ret (Var_c u _ hus) ?_)
                | (go_at_call 28; refine Calls.ret (hP _) ?_))
              exact ⟨⟨k + 1, _, by go_num, by rw [← hul.out]; omega, hnx0.out, hst.out⟩, by simp [intOf]; omega⟩
          · clear hnx hst
            have hx : (sM.setV val).va (u / 2) = 1 := by rw [hxx', hx]
            rw [show x = 1 from by rw [← hxx']; exact hx] at g4
            clear hxx'
            by_cases hp : u % 2 = 0
            all_goals (first | rw [decide_eq_true hp] at hP | rw [decide_eq_false hp] at hP)
            · have hnx := hU.out.same (by rw [show nth (sM.setV val).us k = u from hu.out.symm, hx]; unfold sgn; simp [hp])
              replace hnx := Lib.hid hnx
              go_wp2_with (first
                | (go_at_call 29; refine Calls.ret (Var_c u _ hus) ?_))
              refine wp_region_tail 10 (by kernel_rfl) (by kernel_rfl) ?_
              simp only [List.take_succ_cons, List.take_zero, List.drop_succ_cons, List.drop_zero]
              repeat still_step
              still_call (hP _)
              repeat still_step
              refine wpStill_nil ?_
              go_wp2_with fail
              exact ⟨⟨k + 1, val, by go_num, by rw [← hul.out]; omega, hnx.out, hT.out.drew⟩, by simp [intOf]; omega⟩
            · have hbad := hVM'.bad hU.out (by show k < sM.us.length; rw [← hul.out]; exact hklt) (by show (sM.setV val).va (nth sM.us k / 2) ≠ 0; rw [← hu.out, hx]; decide) (by show (sM.setV val).va (nth sM.us k / 2) ≠ sgn (nth sM.us k) 1; rw [← hu.out, hx]; unfold sgn; simp [hp])
              have tS := hT.out.drew.trans (PSt.tSt hT.out.drew.rows 2)
              have hpbV : (sM.setV val).pb = s0.pb := hpbM.out
              have f2 := PSt.pbc hT.out.drew.rows (j := 2) rfl
              have f2f := PSt.pbf hT.out.drew.rows 2
              rw [hpbV] at tS f2 f2f
              have hfin : PMPost F s0 w0 (.returned (.tuple #[])) (wr.drew.setCell ⟨s0.pb, 2, none⟩ (.int .u8 (2 : Nat))) := ⟨rfl, (sM.setV val).setSt 2, tS, hpbV, hnvM.out, .inl ⟨rfl, hbad⟩⟩
              replace hfin := Lib.hid hfin
              clear tS hbad
              go_wp2_with (first
                | (go_at_call 29; refine Calls.ret (Var_c u _ hus) ?_))
              refine wp_region_tail 10 (by kernel_rfl) (by kernel_rfl) ?_
              simp only [List.take_succ_cons, List.take_zero, List.drop_succ_cons, List.drop_zero]
              repeat still_step
              still_call (hP _)
              repeat still_step
              refine wpStill_nil ?_
              go_wp2_with fail
              go_end0
              exact hfin.out
          · clear hnx hst
            have hx : (sM.setV val).va (u / 2) = -1 := by rw [hxx', hx]
            rw [show x = -1 from by rw [← hxx']; exact hx] at g4
            clear hxx'
            by_cases hp : u % 2 = 0
            all_goals (first | rw [decide_eq_true hp] at hP | rw [decide_eq_false hp] at hP)
            · have hbad := hVM'.bad hU.out (by show k < sM.us.length; rw [← hul.out]; exact hklt) (by show (sM.setV val).va (nth sM.us k / 2) ≠ 0; rw [← hu.out, hx]; decide) (by show (sM.setV val).va (nth sM.us k / 2) ≠ sgn (nth sM.us k) 1; rw [← hu.out, hx]; unfold sgn; simp [hp])
              have tS := hT.out.drew.trans (PSt.tSt hT.out.drew.rows 2)
              have hpbV : (sM.setV val).pb = s0.pb := hpbM.out
              have f2 := PSt.pbc hT.out.drew.rows (j := 2) rfl
              have f2f := PSt.pbf hT.out.drew.rows 2
              rw [hpbV] at tS f2 f2f
              have hfin : PMPost F s0 w0 (.returned (.tuple #[])) (wr.drew.setCell ⟨s0.pb, 2, none⟩ (.int .u8 (2 : Nat))) := ⟨rfl, (sM.setV val).setSt 2, tS, hpbV, hnvM.out, .inl ⟨rfl, hbad⟩⟩
              replace hfin := Lib.hid hfin
              clear tS hbad
              go_wp2_with (first
                | (go_at_call 29; refine Calls.ret (Var_c u _ hus) ?_))
              refine wp_region_tail 10 (by kernel_rfl) (by kernel_rfl) ?_
              simp only [List.take_succ_cons, List.take_zero, List.drop_succ_cons, List.drop_zero]
              repeat still_step
              still_call (hP _)
              repeat still_step
              refine wpStill_nil ?_
              go_wp2_with fail
              go_end0
              exact hfin.out
            · have hnx := hU.out.same (by rw [show nth (sM.setV val).us k = u from hu.out.symm, hx]; unfold sgn; simp [hp])
              replace hnx := Lib.hid hnx
              go_wp2_with (first
                | (go_at_call 29; refine Calls.ret (Var_c u _ hus) ?_))
              refine wp_region_tail 10 (by kernel_rfl) (by kernel_rfl) ?_
              simp only [List.take_succ_cons, List.take_zero, List.drop_succ_cons, List.drop_zero]
              repeat still_step
              still_call (hP _)
              repeat still_step
              refine wpStill_nil ?_
              go_wp2_with fail
              exact ⟨⟨k + 1, val, by go_num, by rw [← hul.out]; omega, hnx.out, hT.out.drew⟩, by simp [intOf]; omega⟩
        · have hkI : ¬ ((k : Int) < (ul : Int)) := by omega
          have e : k = sM.us.length := by have := hul.out; omega
          subst e
          have hVM' : PVM F (sM.setV val) := ⟨hVM.out.nd, hVM.out.mem, hVM.out.len, hVM.out.lit, hVM.out.ndv, hVM.out.us, hVM.out.sz, hVM.out.st, hVM.out.eqv⟩
          have hSV := hVM'.sv hU hFl (by show sM.nv ≤ _; rw [hnvM.out]; omega)
          have hpbV : (sM.setV val).pb = s0.pb := hpbM.out
          have hs2 : Calls Tryz.prog 41 #[.pointer (some ⟨s0.pb, 0, none⟩)] wr (S2Post (fl F) (sM.setV val) wr) := by
            by_cases hz : (sM.setV val).cs = []
            · have := simp2_c0 hT.rows (by rw [hz] at hSV; exact hSV) hz
              rw [hpbV] at this; exact this
            · have := simp2_c hT.rows hSV (List.length_pos_iff.2 hz) (by show 0 < sM.nv; rw [hnvM.out]; exact hnv0)
              rw [hpbV] at this; exact this
          replace hs2 := Lib.hid hs2
          replace hT := Lib.hid hT
          clear hSV hU hVM'
          go_wp2_with (go_at_call 41; refine hs2.out.mono ?_; rintro e w9 ⟨rfl, s9, hT9, h91, h92, h93, h94, h95⟩)
          go_end0
          exact ⟨rfl, s9, hT.out.trans hT9, h91.trans hpbV, h92.trans hnvM.out, h95.imp id fun hf => ⟨hf, mb, by
            have e1 : s9.mV = sM.mV := h94
            have e2 : s9.nv = sM.nv := h92
            rw [e1, e2, hmVM.out, hnvM.out]; rfl⟩⟩
end Go.Proofs.YtiimddkopiknpaaGreatDoor

/-
  ParseSliceNb.
-/
namespace Go.Proofs.YtiimddkopiknpaaGreatDoor
open Go.RowKit

def eR : Empty → Row := fun e => nomatch e
theorem eR_rows (w : World) : Rows eR w := ⟨fun r => r.elim, fun r => r.elim⟩
theorem eR_own {b : Nat} : ¬ Own eR b := fun ⟨r, _⟩ => nomatch r

def newP (b nv : Nat) : PSt := ⟨b, nv, 0, [], .slice none 0 0, [], .slice none 0 0, [], .slice none 0 0, [], fun _ => [], fun _ => .slice none 0 0⟩
theorem newP_cl (b nv c : Nat) : (newP b nv).row (.cl c) = .nil 112 4 := by simp [PSt.row, newP]
theorem newP_li (b nv c : Nat) : (newP b nv).row (.li c) = .nil 82 1 := by simp [PSt.row, newP]
theorem newP_rows (w : World) (nv : Nat) : Tr eR w (newP w.heap.size nv).row (w.alloc (.cells #[.int .i64 nv, .slice none 0 0, .int .u8 0, .slice none 0 0, .slice none 0 0, .slice none 0 0, .slice none 0 0] 56)) := by
  refine ⟨⟨fun r => ?_, ?_⟩, ⟨rfl, rfl, rfl, by simp, fun k hk _ => _root_.Go.heap_alloc_old w _ hk⟩, ?_⟩
  · cases r
    case pb => exact own_box w 56 [.int .i64 nv, .slice none 0 0, .int .u8 0, .slice none 0 0, .slice none 0 0, .slice none 0 0, .slice none 0 0]
    case cl c => rw [newP_cl]; exact World.ownsRow_nil _ _ _ _
    case li c => rw [newP_li]; exact World.ownsRow_nil _ _ _ _
    all_goals exact World.ownsRow_nil _ _ _ _
  · intro r r' b h1 h2
    have key : ∀ r : PRole, ((newP w.heap.size nv).row r).v.ownBlock = some b → r = .pb := by
      intro r h
      cases r
      case pb => rfl
      case cl c => rw [newP_cl] at h; cases h
      case li c => rw [newP_li] at h; cases h
      all_goals cases h
    rw [key r h1, key r' h2]
  · rintro b ⟨r, hr⟩
    right
    cases r
    case pb =>
      have hr : some w.heap.size = some b := hr
      simp at hr; omega
    case cl c => rw [newP_cl] at hr; cases hr
    case li c => rw [newP_li] at hr; cases hr
    all_goals cases hr

theorem newP_pv (F : List (List Int)) (b nv : Nat) : PV F (newP b nv) 0 := by
  refine ⟨List.nodup_nil, ?_, ?_, ?_, ?_, ?_, Nat.le_refl _, rfl, rfl, rfl, ?_⟩
  · intro c hc; simp [newP] at hc
  · intro c hc; simp [newP] at hc
  · intro c hc; simp [newP] at hc
  · intro c hc; simp [newP] at hc
  · intro u hu; simp [newP] at hu
  · intro τ _
    simp [fl, newP]

def PNPost (F : List (List Int)) (nv : Nat) (w0 : World) (e : Ending) (w : World) : Prop :=
  ∃ s : PSt, e = .returned (.pointer (some ⟨s.pb, 0, none⟩)) ∧ Tr eR w0 s.row w ∧ s.nv = nv ∧ ((s.st = 2 ∧ ∀ τ, Con τ → ¬ ∀ C ∈ fl F, Clo τ C) ∨ (PFin (fl F) s ∧ ∃ mb, s.mV = slV mb s.nv))
set_option maxRecDepth 100000 in
set_option maxHeartbeats 4000000 in
theorem parseNb_c {F : List (List Int)} {w0 : World} {g n ca nv : Nat} (hF : FOk nv F) (hn : n = F.length) (hA : CnfAt w0 g w0.heap.size F) (hnv0 : 0 < nv) (hnv1 : nv ≤ 100000) :
    Calls Tryz.prog 16 #[.slice (some ⟨g, 0, none⟩) n ca, .int .i64 (nv : Int)] w0 (PNPost F nv w0) := by
  have t0 := newP_rows w0 nv
  obtain ⟨w1, hw1⟩ : ∃ w1, w1 = w0.alloc (.cells #[.int .i64 nv, .slice none 0 0, .int .u8 0, .slice none 0 0, .slice none 0 0, .slice none 0 0, .slice none 0 0] 56) := ⟨_, rfl⟩
  have hsz : w0.heap.size ≤ w1.heap.size := by rw [hw1]; simp
  rw [← hw1] at t0
  obtain ⟨pb, hpb⟩ : ∃ pb, pb = w0.heap.size := ⟨_, rfl⟩
  rw [← hpb] at t0
  obtain ⟨s0, hs0⟩ : ∃ s0, s0 = newP pb nv := ⟨_, rfl⟩
  have hpv : PV F s0 0 := by rw [hs0]; exact newP_pv F _ _
  have hnv : s0.nv = nv := by rw [hs0]; rfl
  have hpb0 : s0.pb = pb := by rw [hs0]; rfl
  rw [← hs0] at t0
  have hp := parse_c (n := n) (ca := ca) (base := w0.heap.size) t0.rows hpv (by rw [hnv]; exact hF) hn (hA.fr t0.fr (fun b hb => (eR_own hb).elim) (Nat.le_refl _)) hsz (fun b hb => by
    rcases t0.own b hb with h' | h'
    · exact (eR_own h').elim
    · exact h') (by rw [hnv]; exact hnv0) (by rw [hnv]; exact hnv1)
  rw [hpb0] at hp
  replace hp := Lib.hid hp
  replace t0 := Lib.hid t0
  replace hnv := Lib.hid hnv
  replace hpb0 := Lib.hid hpb0
  clear hA hF hs0 hpv hn
  go_enter Tryz.func16, Tryz.ntmps16
  go_upto_region 2 with fail
  rw [← hw1, ← hpb]
  clear hw1 hpb
  go_wp2_with (go_at_call 30; refine hp.out.mono ?_; rintro e w2 ⟨rfl, s, h1, h2, h3, h4⟩; replace h1 := Lib.hid h1; replace h2 := Lib.hid h2; replace h3 := Lib.hid h3; replace h4 := Lib.hid h4)
  go_ret
  exact ⟨s, by rw [h2.out, hpb0.out]; rfl, t0.out.trans h1.out, h3.out.trans hnv.out, h4.out⟩
end Go.Proofs.YtiimddkopiknpaaGreatDoor
