/-
  A new solver.
-/
import Derived.Test.YtiimddkopiknpaaGreatDoorB12
set_option linter.unusedVariables false
set_option linter.unusedSimpArgs false

/-
  New: the solver's cells are as they should be.
-/
namespace Go.Proofs.YtiimddkopiknpaaGreatDoor
open Go.RowKit

def cells7 (z : Array Value) (pb nv st ul tc mb : Nat) (b : Nat → Nat) : Array Value := layL [(4, .int .i64 (nv : Int)), (5, .int .u8 (st : Int)), (14, .slice (some ⟨b 11, 0, none⟩) ul tc), (15, .slice (some ⟨mb, 0, none⟩) nv nv), (17, .slice (some ⟨b 17, 0, none⟩) nv nv), (18, .slice (some ⟨b 19, 0, none⟩) nv nv), (19, .slice (some ⟨b 21, 0, none⟩) nv nv), (20, .slice (some ⟨b 23, 0, none⟩) nv nv), (24, .float .f64 4607182418800017408), (25, .float .f32 1065353216), (5086, .int .i64 512), (5094, .slice none 0 0), (5095, .slice none 0 0), (5098, .float .f64 4605380978949069210), (5099, .slice (some ⟨b 36, 0, none⟩) nv nv), (5100, .slice (some ⟨b 38, 0, none⟩) nv nv), (5101, .slice (some ⟨b 40, 0, none⟩) nv nv)] z

theorem solN_hd {p : PSt} {z : Array Value} {ul tc mb : Nat} {b : Nat → Nat} (hz1 : z.size = 5102) (hz2 : ∀ j, j < 5102 → ∃ v, z[j]? = some v ∧ kindV v = solK j) (b1 b2 b3 b4 ob : Nat) :
    Hd ((solN p (cells7 z p.pb p.nv p.st ul tc mb b).toList ul tc mb b).initW b1 b2 b3 b4 ob) := by
  let vs : List Value := [.int .i64 2000, .int .i64 1, slV b1 (p.nv * 2), slV b2 (p.nv * 2), slV b3 (p.nv * 2), slV b4 (p.nv * 2), slV ob p.cs.length, .slice none 0 0]
  have hcl : (cells7 z p.pb p.nv p.st ul tc mb b).toList.length = 5102 := by rw [Array.length_toList]; unfold cells7; rw [layL_size, hz1]
  have go : ∀ j, (j < 6 ∨ 14 ≤ j) → (setsL (cells7 z p.pb p.nv p.st ul tc mb b).toList 6 vs)[j]? = (cells7 z p.pb p.nv p.st ul tc mb b)[j]? := by
    intro j hj
    rw [setsL_out _ _ _ _ (by show j < 6 ∨ 6 + 8 ≤ j; omega), Array.getElem?_toList]
  have gi' : ∀ i, i < 8 → (setsL (cells7 z p.pb p.nv p.st ul tc mb b).toList 6 vs)[6 + i]? = vs[i]? := fun i hi => setsL_in _ _ _ _ (by rw [hcl]; show 6 + 8 ≤ 5102; omega) hi
  have gz : ∀ j, j < 5102 → j ∉ [4, 5, 14, 15, 17, 18, 19, 20, 24, 25, 5086, 5094, 5095, 5098, 5099, 5100, 5101] → (j < 6 ∨ 14 ≤ j) → ∃ v, (setsL (cells7 z p.pb p.nv p.st ul tc mb b).toList 6 vs)[j]? = some v ∧ kindV v = solK j := by
    intro j hj hk h6
    rw [go j h6]
    unfold cells7
    rw [layL_ne _ _ _ (fun x hx e => hk (by rw [← e]; exact List.mem_map_of_mem (f := Prod.fst) hx))]
    exact hz2 j hj
  have ga : ∀ (j : Nat) (v : Value), (j < 6 ∨ 14 ≤ j) → j < 5102 → (j, v) ∈ [(4, Value.int .i64 (p.nv : Int)), (5, .int .u8 (p.st : Int)), (14, .slice (some ⟨b 11, 0, none⟩) ul tc), (15, .slice (some ⟨mb, 0, none⟩) p.nv p.nv), (17, .slice (some ⟨b 17, 0, none⟩) p.nv p.nv), (18, .slice (some ⟨b 19, 0, none⟩) p.nv p.nv), (19, .slice (some ⟨b 21, 0, none⟩) p.nv p.nv), (20, .slice (some ⟨b 23, 0, none⟩) p.nv p.nv), (24, .float .f64 4607182418800017408), (25, .float .f32 1065353216), (5086, .int .i64 512), (5094, .slice none 0 0), (5095, .slice none 0 0), (5098, .float .f64 4605380978949069210), (5099, .slice (some ⟨b 36, 0, none⟩) p.nv p.nv), (5100, .slice (some ⟨b 38, 0, none⟩) p.nv p.nv), (5101, .slice (some ⟨b 40, 0, none⟩) p.nv p.nv)] →
      (setsL (cells7 z p.pb p.nv p.st ul tc mb b).toList 6 vs)[j]? = some v := by
    intro j v h6 hj hm
    rw [go j h6]
    unfold cells7
    exact layL_at _ _ _ _ (by rw [hz1]; exact hj) (by show [4, 5, 14, 15, 17, 18, 19, 20, 24, 25, 5086, 5094, 5095, 5098, 5099, 5100, 5101].Nodup; decide) hm
  obtain ⟨SC, hSC⟩ : ∃ SC, SC = setsL (cells7 z p.pb p.nv p.st ul tc mb b).toList 6 vs := ⟨_, rfl⟩
  have e : ∀ C : List Value, (solN p C ul tc mb b).initW b1 b2 b3 b4 ob = { (solN p [] ul tc mb b).initW b1 b2 b3 b4 ob with sc := setsL C 6 vs } := fun C => rfl
  rw [e, ← hSC]
  rw [← hSC] at gz ga gi'
  clear e hSC go
  have z1 : ∀ j, j < 5102 → j ∉ [4, 5, 14, 15, 17, 18, 19, 20, 24, 25, 5086, 5094, 5095, 5098, 5099, 5100, 5101] → (j < 6 ∨ 14 ≤ j) → solK j = 1 → SC[j]? = some (.bool false) := by
    intro j a1 a2 a3 a4
    obtain ⟨v, e1, e2⟩ := gz j a1 a2 a3
    rw [e1, kind_1 (e2.trans a4)]
  have z2 : ∀ j, j < 5102 → j ∉ [4, 5, 14, 15, 17, 18, 19, 20, 24, 25, 5086, 5094, 5095, 5098, 5099, 5100, 5101] → (j < 6 ∨ 14 ≤ j) → solK j = 2 → SC[j]? = some (.slice none 0 0) := by
    intro j a1 a2 a3 a4
    obtain ⟨v, e1, e2⟩ := gz j a1 a2 a3
    rw [e1, kind_2 (e2.trans a4)]
  have z3 : ∀ j, j < 5102 → j ∉ [4, 5, 14, 15, 17, 18, 19, 20, 24, 25, 5086, 5094, 5095, 5098, 5099, 5100, 5101] → (j < 6 ∨ 14 ≤ j) → solK j = 3 → SC[j]? = some (i64 0) := by
    intro j a1 a2 a3 a4
    obtain ⟨v, e1, e2⟩ := gz j a1 a2 a3
    rw [e1, kind_3 (e2.trans a4)]; rfl
  have z5 : ∀ j, j < 5102 → j ∉ [4, 5, 14, 15, 17, 18, 19, 20, 24, 25, 5086, 5094, 5095, 5098, 5099, 5100, 5101] → (j < 6 ∨ 14 ≤ j) → solK j = 5 → SC[j]? = some (.float .f64 0) := by
    intro j a1 a2 a3 a4
    obtain ⟨v, e1, e2⟩ := gz j a1 a2 a3
    rw [e1, kind_5 (e2.trans a4)]
  constructor
  case f1 => exact z1 1 (by decide) (by decide) (by decide) rfl
  case f3 => exact z1 3 (by decide) (by decide) (by decide) rfl
  case f4 => exact ga 4 (.int .i64 (p.nv : Int)) (by decide) (by decide) (by simp)
  case f5 => exact ga 5 (.int .u8 (p.st : Int)) (by decide) (by decide) (by simp)
  case f6 => exact gi' 0 (by decide)
  case f7 => exact gi' 1 (by decide)
  case f8 => exact gi' 2 (by decide)
  case f9 => exact gi' 3 (by decide)
  case f10 => exact gi' 4 (by decide)
  case f11 => exact gi' 5 (by decide)
  case f12 => exact gi' 6 (by decide)
  case f13 => exact gi' 7 (by decide)
  case f14 => exact ga 14 (.slice (some ⟨b 11, 0, none⟩) ul tc) (by decide) (by decide) (by simp)
  case f15 => exact ga 15 (.slice (some ⟨mb, 0, none⟩) p.nv p.nv) (by decide) (by decide) (by simp)
  case f17 => exact ga 17 (.slice (some ⟨b 17, 0, none⟩) p.nv p.nv) (by decide) (by decide) (by simp)
  case f18 => exact ga 18 (.slice (some ⟨b 19, 0, none⟩) p.nv p.nv) (by decide) (by decide) (by simp)
  case f19 => exact ga 19 (.slice (some ⟨b 21, 0, none⟩) p.nv p.nv) (by decide) (by decide) (by simp)
  case f20 => exact ga 20 (.slice (some ⟨b 23, 0, none⟩) p.nv p.nv) (by decide) (by decide) (by simp)
  case f21 => intro hne; exact (hne rfl).elim
  case f22 => exact z2 22 (by decide) (by decide) (by decide) rfl
  case f23 => exact z2 23 (by decide) (by decide) (by decide) rfl
  case f24 => exact ⟨_, ga 24 (.float .f64 4607182418800017408) (by decide) (by decide) (by simp), by unfold NN; decide⟩
  case f25 => exact ⟨_, ga 25 (.float .f32 1065353216) (by decide) (by decide) (by simp), by unfold NN; decide⟩
  case f26 => exact ⟨_, z3 26 (by decide) (by decide) (by decide) rfl⟩
  case f27 => exact ⟨_, z3 27 (by decide) (by decide) (by decide) rfl⟩
  case f28 => exact z3 28 (by decide) (by decide) (by decide) rfl
  case f29 => exact z3 29 (by decide) (by decide) (by decide) rfl
  case f30 => exact ⟨_, z5 30 (by decide) (by decide) (by decide) rfl⟩
  case f31 => exact ⟨_, z3 31 (by decide) (by decide) (by decide) rfl⟩
  case f32 => exact ⟨_, z3 32 (by decide) (by decide) (by decide) rfl⟩
  case f33 => exact z3 33 (by decide) (by decide) (by decide) rfl
  case f34 => exact z3 34 (by decide) (by decide) (by decide) rfl
  case f35 => exact ⟨_, z5 35 (by decide) (by decide) (by decide) rfl⟩
  case f36 =>
    intro j h1 h2
    refine ⟨_, z3 j (by omega) ?_ (by omega) ?_⟩
    · simp; omega
    · unfold solK; rw [if_neg (by omega), if_pos h2]
  case f5087 =>
    intro j h1 h2 _
    have : j = 5087 ∨ j = 5088 ∨ j = 5089 ∨ j = 5090 ∨ j = 5091 ∨ j = 5092 ∨ j = 5093 := by omega
    rcases this with rfl | rfl | rfl | rfl | rfl | rfl | rfl <;> exact ⟨_, z3 _ (by decide) (by decide) (by decide) rfl⟩
  case f5088 => exact z3 5088 (by decide) (by decide) (by decide) rfl
  case f5094 => exact ga 5094 (.slice none 0 0) (by decide) (by decide) (by simp)
  case f5097 => exact ⟨_, z3 5097 (by decide) (by decide) (by decide) rfl⟩
  case f5098 => exact ⟨_, ga 5098 (.float .f64 4605380978949069210) (by decide) (by decide) (by simp), by unfold decayL; simp⟩
  case f5099 => exact ga 5099 (.slice (some ⟨b 36, 0, none⟩) p.nv p.nv) (by decide) (by decide) (by simp)
  case fact =>
    intro x hx
    have := List.eq_of_mem_replicate hx
    rw [this]; exact ⟨0, rfl, Nat.zero_le _⟩
  case facc => intro c _; exact ⟨0, rfl, Nat.zero_le _⟩
  case ftb =>
    intro x hx
    have := List.eq_of_mem_replicate hx
    rw [this]; exact ⟨0, rfl⟩
end Go.Proofs.YtiimddkopiknpaaGreatDoor

/-
  New: the queue's cells, the units on the trail, and what holds of the solver that New gives.
-/
namespace Go.Proofs.YtiimddkopiknpaaGreatDoor
open Go.RowKit

theorem cells7_len {z : Array Value} (hz1 : z.size = 5102) (pb nv st ul tc mb : Nat) (b : Nat → Nat) : (cells7 z pb nv st ul tc mb b).toList.length = 5102 := by
  rw [Array.length_toList]; unfold cells7; rw [layL_size, hz1]
theorem cells7_4 {z : Array Value} (hz1 : z.size = 5102) (pb nv st ul tc mb : Nat) (b : Nat → Nat) : (cells7 z pb nv st ul tc mb b).toList[4]? = some (i64 nv) := by
  rw [Array.getElem?_toList]
  unfold cells7
  exact layL_at _ _ _ _ (by rw [hz1]; omega) (by show [4, 5, 14, 15, 17, 18, 19, 20, 24, 25, 5086, 5094, 5095, 5098, 5099, 5100, 5101].Nodup; decide) (by simp [i64])
theorem cells7_5094 {z : Array Value} (hz1 : z.size = 5102) (pb nv st ul tc mb : Nat) (b : Nat → Nat) : (cells7 z pb nv st ul tc mb b).toList[5094]? = some (.slice none 0 0) := by
  rw [Array.getElem?_toList]
  unfold cells7
  exact layL_at _ _ _ _ (by rw [hz1]; omega) (by show [4, 5, 14, 15, 17, 18, 19, 20, 24, 25, 5086, 5094, 5095, 5098, 5099, 5100, 5101].Nodup; decide) (by simp)

def St.withQ (s : St) (vc vi : Value) (C : List Nat) (I : List Int) : St := { s with sc := setsL s.sc 21 [slV s.actB s.nv, vc, vi], qcV := vc, qiV := vi, qc := C, qi := I }
theorem Hd.withQ {s : St} (h : Hd s) (hl : s.sc.length = 5102) (vc vi : Value) (C : List Nat) (I : List Int) : Hd (s.withQ vc vi C I) := by
  have ho : ∀ j, (j < 21 ∨ 24 ≤ j) → (setsL s.sc 21 [slV s.actB s.nv, vc, vi])[j]? = s.sc[j]? := fun j hj => setsL_out _ _ _ _ (by show j < 21 ∨ 21 + 3 ≤ j; omega)
  have hi : ∀ i, i < 3 → (setsL s.sc 21 [slV s.actB s.nv, vc, vi])[21 + i]? = [slV s.actB s.nv, vc, vi][i]? := fun i hi => setsL_in _ _ _ _ (by rw [hl]; show 21 + 3 ≤ 5102; omega) hi
  have i0 := hi 0 (by omega)
  have i1 := hi 1 (by omega)
  have i2 := hi 2 (by omega)
  obtain ⟨SC, hSC⟩ : ∃ SC, SC = setsL s.sc 21 [slV s.actB s.nv, vc, vi] := ⟨_, rfl⟩
  have e : s.withQ vc vi C I = { s with sc := SC, qcV := vc, qiV := vi, qc := C, qi := I } := by rw [hSC]; rfl
  rw [e]
  rw [← hSC] at ho i0 i1 i2
  clear hSC hi e
  obtain ⟨h1, h3, h4, h5, h6, h7, h8, h9, h10, h11, h12, h13, h14, h15, h17, h18, h19, h20, h21, h22, h23, h24, h25, h26, h27, h28, h29, h30, h31, h32, h33, h34, h35, h36, h5087, h5088, h5094, h5097, h5098, h5099, ha, hb, hc⟩ := h
  constructor <;> dsimp only
  case f21 => intro _; exact i0
  case f22 => exact i1
  case f23 => exact i2
  case f36 => intro j a b; rw [ho j (by omega)]; exact h36 j a b
  case f5087 => intro j a b c; rw [ho j (by omega)]; exact h5087 j a b c
  case fact => exact ha
  case facc => exact hb
  case ftb => exact hc
  all_goals
    rw [ho _ (by omega)]
    assumption

theorem Tr.nq {ι : Type} {ρ : ι → Row} {w : World} (h : Rows ρ w) : Tr ρ w (Sum.elim ρ nqNil) w := by
  refine ⟨h.nqNil, Fr.refl _ _, ?_⟩
  rintro b ⟨r, hr⟩
  rcases r with r | r
  · exact .inl ⟨r, hr⟩
  · simp only [Sum.elim_inr, nqNil_v] at hr; cases hr

theorem withQ_tr {s : St} {σ : PK → Row} {ρ1 : (Role ⊕ PK) ⊕ NQ → Row} {w2 w3 : World} {qb aB n : Nat} {C : List Nat} {I : List Int} (h2 : Rows (Sum.elim s.row σ) w2) (hQ : QRow ρ1 (.inr .q) (.inr .c) (.inr .i) (.inl (.inl .act)) qb 0 aB n C I)
    (t : Tr (Sum.elim (Sum.elim s.row σ) nqNil) w2 ρ1 w3) (hρ : ∀ r, ρ1 (.inl r) = Sum.elim s.row σ r) (hl : s.sc.length = 5102) :
    w3.there s.sb 21 3 ∧ Tr (Sum.elim s.row σ) w2 (Sum.elim (s.withQ (ρ1 (.inr .c)).v (ρ1 (.inr .i)).v C I).row σ) (w3.setCells s.sb 21 [slV s.actB s.nv, (ρ1 (.inr .c)).v, (ρ1 (.inr .i)).v]) := by
  have ta := (Tr.nq h2).trans t
  obtain ⟨vc, hvc⟩ : ∃ vc, vc = (ρ1 (.inr .c)).v := ⟨_, rfl⟩
  obtain ⟨vi, hvi⟩ : ∃ vi, vi = (ρ1 (.inr .i)).v := ⟨_, rfl⟩
  rw [← hvc, ← hvi]
  have hown : (ρ1 (.inl (.inl .sol))).v.ownBlock = some s.sb := by rw [hρ]; rfl
  let ρ2 : (Role ⊕ PK) ⊕ NQ → Row := fun r => match r with | .inl (.inl .sol) => { s.row .sol with xs := setsL s.sc 21 [slV s.actB s.nv, vc, vi] } | r => ρ1 r
  have tb : Tr ρ1 w3 ρ2 (w3.setCells s.sb 21 [slV s.actB s.nv, vc, vi]) := by
    refine Rows.sets (.inl (.inl .sol)) _ ta.rows hown 21 ?_ ?_
    · rw [hρ]; rfl
    · intro r hr
      rcases r with (r | r) | r
      · cases r <;> first | rfl | contradiction
      · rfl
      · rfl
  refine ⟨ta.rows.there (.inl (.inl .sol)) hown (by rw [hρ]; show 21 + 3 ≤ s.sc.length; omega), ta.trans (tb.trans ?_)⟩
  have hr := tb.rows.rename (ρ' := Sum.elim (s.withQ vc vi C I).row σ) (fun r => match r with | .inl .qc => some (.inr .c) | .inl .qi => some (.inr .i) | r => some (.inl r)) ?_ ?_ ?_
  · exact ⟨hr.1, Fr.refl _ _, fun b hb => .inl (hr.2 b hb)⟩
  · intro r' r hr
    rcases r' with r' | r'
    · cases r'
      case qc =>
        cases hr
        obtain ⟨V, hV⟩ := hQ.c
        show (⟨3, 1, vc, C.length, _⟩ : Row) = ρ1 (.inr .c)
        rw [hvc, hV]; rfl
      case qi =>
        cases hr
        obtain ⟨V, hV⟩ := hQ.i
        show (⟨3, 1, vi, I.length, _⟩ : Row) = ρ1 (.inr .i)
        rw [hvi, hV]; rfl
      case sol => cases hr; rfl
      all_goals
        cases hr
        change _ = ρ1 _
        rw [hρ]; rfl
    · cases hr
      change _ = ρ1 _
      rw [hρ]; rfl
  · intro r' hr
    rcases r' with r' | r'
    · cases r' <;> cases hr
    · cases hr
  · intro r1 r2 r h1 h2
    rcases r1 with r1 | r1 <;> rcases r2 with r2 | r2
    · cases r1 <;> cases r2 <;> first | rfl | (cases h1; cases h2; done) | (cases h1; cases h2; rfl)
    · cases r1 <;> (cases h1; cases h2)
    · cases r2 <;> (cases h1; cases h2)
    · cases h1; cases h2; rfl

/-- the first i units are on the trail -/
def St.trU (s : St) (us : List Nat) (i : Nat) : St := { s with trail := us.take i ++ List.replicate (us.length - i) 0 }
theorem trU_set (us : List Nat) (i : Nat) (hi : i < us.length) : (us.take i ++ List.replicate (us.length - i) 0).set i (nth us i) = us.take (i + 1) ++ List.replicate (us.length - (i + 1)) 0 := by
  rw [List.take_succ_eq_append_getElem hi, nth_lt us i hi, List.set_append, if_neg (by rw [List.length_take]; omega)]
  have e : i - (us.take i).length = 0 := by rw [List.length_take]; omega
  rw [e, show us.length - i = (us.length - (i + 1)) + 1 by omega, List.replicate_succ, List.set_cons_zero, List.append_assoc]
  rfl
theorem trU_len (us : List Nat) (i : Nat) (hi : i ≤ us.length) : (us.take i ++ List.replicate (us.length - i) 0).length = us.length := by
  rw [List.length_append, List.length_take, List.length_replicate]; omega
theorem Rows.trU {s : St} {σ : PK → Row} {w : World} {us : List Nat} {i : Nat} (h : Rows (Sum.elim (s.trU us i).row σ) w) (hi : i < us.length) {tb n cap : Nat} (ht : s.trailV = .slice (some ⟨tb, 0, none⟩) n cap) :
    Tr (Sum.elim (s.trU us i).row σ) w (Sum.elim (s.trU us (i + 1)).row σ) (w.setCell ⟨tb, i, none⟩ (.int .i32 (nth us i : Nat))) := by
  refine h.set (.inl .trail) (by show s.trailV.ownBlock = _; rw [ht]; rfl) i (i32 (nth us i)) ?_ ?_
  · have e1 := trU_set us i hi
    have e2 := trU_len us i (by omega)
    have e3 := trU_len us (i + 1) (by omega)
    show (⟨82, 1, s.trailV, (us.take (i + 1) ++ List.replicate (us.length - (i + 1)) 0).length, (us.take (i + 1) ++ List.replicate (us.length - (i + 1)) 0).map i32⟩ : Row) =
      ⟨82, 1, s.trailV, (us.take i ++ List.replicate (us.length - i) 0).length, ((us.take i ++ List.replicate (us.length - i) 0).map i32).set i (i32 (nth us i))⟩
    rw [map_set_c, e1, e2, e3]
  · intro r hr
    rcases r with r | r
    · cases r <;> first | rfl | contradiction
    · rfl
theorem Rows.valSame {s : St} {σ : PK → Row} {w : World} (h : Rows (Sum.elim s.row σ) w) {v : Nat} {x : Int} (hv : s.va v = x) : Tr (Sum.elim s.row σ) w (Sum.elim s.row σ) (w.setCell ⟨s.modelB, v, none⟩ (.int .i64 x)) := by
  refine h.set (.inl .model) rfl v (i64 x) ?_ (fun r _ => rfl)
  show s.row .model = { s.row .model with xs := (s.val.map i64).set v (i64 x) }
  rw [map_set_c]
  have : s.val.set v x = s.val := by
    apply List.ext_getElem?
    intro j
    rw [List.getElem?_set]
    by_cases e : v = j
    · subst e
      rw [if_pos rfl]
      split
      · rename_i hl
        rw [List.getElem?_eq_getElem hl]
        have hv : s.val.getD v 0 = x := hv
        rw [List.getD_eq_getElem?_getD, List.getElem?_eq_getElem hl] at hv
        simpa using hv.symm
      · rename_i hl
        rw [List.getElem?_eq_none (by omega)]
    · rw [if_neg e]
  rw [this]; rfl

/-- what New gives -/
structure NewOk (p : PSt) (w0 : World) (s : St) (w : World) : Prop where
  tr : Tr p.row w0 s.row w
  hd : Hd s
  core : Core p.us.length 1 s.toMS
  wtd : WtD s.toMS (fun c => c ∈ s.ids)
  pc : Pc s.toMS s.wl s.trail.length
  nv : s.nv = p.nv
  val : s.val = p.val
  trail : s.trail = p.us
  rsn : ∀ v, s.ra v = none
  lits : s.lits = p.lits
  word : ∀ c, s.word c = 0
  ids : s.ids = p.cs
  orig : s.orig = p.cs
  lrn : s.lrn = []
  q : QI s.nv s.qc s.qi
  qcl : s.qc.length = s.nv
  qil : s.qi.length = s.nv
  mem : s.qc.Perm (List.range s.nv)
  kp : s.keep = (s.sb, s.qc, s.qi, p.st, 2000, 1, 0, 0, 0, 0, 0, List.replicate p.nv false)
def NewPost (p : PSt) (w0 : World) (e : Ending) (w : World) : Prop := ∃ s : St, e = .returned (.pointer (some ⟨s.sb, 0, none⟩)) ∧ NewOk p w0 s w
theorem newOk_of {F : List (List Nat)} {p : PSt} {CL : List Value} {ul tc mb : Nat} {b : Nat → Nat} {w0 w wc w2 : World} {sW : St} {C : List Nat} {I : List Int} {vc vi : Value} (hF : PFin F p) (hule : ul = p.us.length) (hn0 : 0 < p.nv) (hn1 : p.nv ≤ 100000)
    (hL : WLp (solN p CL ul tc mb b) p.left wc (solN p CL ul tc mb b).ids.length sW w2) (hHQ : Hd (sW.withQ vc vi C I)) (hCl : C.length = p.nv) (hIl : I.length = p.nv) (hQI : QI p.nv C I) (hmem : C.Perm (List.range p.nv))
    (hw : Tr p.row w0 (Sum.elim ((sW.withQ vc vi C I).trU p.us p.us.length).row p.left) w) : NewPost p w0 (.returned (.pointer (some ⟨sW.sb, 0, none⟩))) w := by
  have htr : ((sW.withQ vc vi C I).trU p.us p.us.length).trail = p.us := by
    show p.us.take p.us.length ++ List.replicate (p.us.length - p.us.length) 0 = p.us
    simp
  have hnv : ((sW.withQ vc vi C I).trU p.us p.us.length).nv = p.nv := hL.ms.nv
  have hval : ((sW.withQ vc vi C I).trU p.us p.us.length).val = p.val := hL.ms.val
  have hrsn : ((sW.withQ vc vi C I).trU p.us p.us.length).rsn = List.replicate p.nv none := hL.ms.rsn
  have hlits : ((sW.withQ vc vi C I).trU p.us p.us.length).lits = p.lits := hL.ms.lits
  have hword : ((sW.withQ vc vi C I).trU p.us p.us.length).word = fun _ => 0 := hL.ms.word
  have hids : ((sW.withQ vc vi C I).trU p.us p.us.length).ids = p.cs := hL.ms.ids
  have horig : ((sW.withQ vc vi C I).trU p.us p.us.length).orig = p.cs := hL.ms.orig
  have hlrn : ((sW.withQ vc vi C I).trU p.us p.us.length).lrn = [] := hL.ms.lrn
  have hwt0 : WtD ((sW.withQ vc vi C I).trU p.us p.us.length).toMS (fun c => c ∈ p.cs) := by
    have h := hL.wt
    have h : WtD sW.toMS (fun c => c ∈ p.cs) := h.mono fun c => by rw [List.take_length]; exact Iff.rfl
    exact ⟨h.en, h.uniq, h.all, h.wbe, h.wbu, h.wba⟩
  have hd : Hd ((sW.withQ vc vi C I).trU p.us p.us.length) := hHQ.congr rfl rfl rfl rfl rfl rfl rfl rfl rfl rfl rfl rfl rfl rfl rfl rfl rfl rfl rfl rfl rfl rfl rfl rfl rfl hHQ.fact hHQ.facc hHQ.ftb
  have hkp : ((sW.withQ vc vi C I).trU p.us p.us.length).keep = (sW.sb, C, I, p.st, 2000, 1, 0, 0, 0, 0, 0, List.replicate p.nv false) := by
    have h := hL.kp
    unfold St.keep at h ⊢
    simp only [Prod.mk.injEq] at h ⊢
    obtain ⟨_, _, _, h4, h5, h6, h7, h8, h9, h10, h11, h12⟩ := h
    exact ⟨rfl, rfl, rfl, h4, h5, h6, h7, h8, h9, h10, h11, h12⟩
  have hqc : ((sW.withQ vc vi C I).trU p.us p.us.length).qc = C := rfl
  have hqi : ((sW.withQ vc vi C I).trU p.us p.us.length).qi = I := rfl
  have hsb : ((sW.withQ vc vi C I).trU p.us p.us.length).sb = sW.sb := rfl
  generalize (sW.withQ vc vi C I).trU p.us p.us.length = sf at *
  have hwt : WtD sf.toMS (fun c => c ∈ sf.ids) := hwt0.mono fun c => by rw [hids]
  have hva : ∀ v, sf.va v = p.va v := fun v => by unfold MS.va PSt.va; rw [hval]
  have hu : ∀ u ∈ sf.trail, u < sf.nv * 2 ∧ sf.va (u / 2) = sgn u 1 := by
    intro u h1
    rw [htr] at h1
    rw [hnv, hva]; exact hF.us u h1
  have hW : Wf sf.toMS := by
    refine hwt.wf (fun c h => h) ?_ ?_ ?_ ?_ ?_ ?_ ?_ ?_
    · rw [hids]; have := hF.csl; omega
    · rw [hnv]; omega
    · rw [hnv]; omega
    · rw [hids, hlits]; exact hF.len
    · rw [hids, hlits, hnv]; exact hF.lit
    · intro c _; rw [hword]; show 0 < 4294967296; omega
    · intro i hi; exact (hu _ (nth_mem _ _ hi)).1
    · rw [htr]; have := hF.usl; omega
  have hrn : ∀ v, sf.ra v = none := by
    intro v
    unfold MS.ra
    rw [hrsn, List.getD_eq_getElem?_getD, List.getElem?_replicate]
    split <;> rfl
  have hcore := Core.first hW hwt (by rw [hval, hnv]; exact hF.vl) hrn (by rw [hrsn, hnv, List.length_replicate]) hu (by
    intro v h1 h2
    rw [hnv] at h1
    rw [hva] at h2
    rw [htr]; exact hF.va v h1 h2) (by rw [hids, hlits]; exact hF.ndv) (by rw [hids]; exact hF.nd) (by rw [hids]; have := hF.csl; omega)
  rw [htr] at hcore
  refine ⟨sf, by rw [hsb], hw.leftOf, hd, hcore, hwt, Pc.first hwt hu ?_, hnv, hval, htr, hrn, hlits, fun c => by rw [hword], hids, horig, hlrn, ?_, ?_, ?_, ?_, ?_⟩
  · intro c h1 x h2
    rw [hids] at h1
    rw [hlits] at h2
    rw [hva]; exact hF.cl c h1 x h2
  · rw [hqc, hqi, hnv]; exact hQI
  · rw [hqc, hnv]; exact hCl
  · rw [hqi, hnv]; exact hIl
  · rw [hqc, hnv]; exact hmem
  · rw [hkp, hsb, hqc, hqi]
end Go.Proofs.YtiimddkopiknpaaGreatDoor

/-
  New: the solver's rows are made.
-/
namespace Go.Proofs.YtiimddkopiknpaaGreatDoor
open Go.RowKit

theorem infoF64 : (Tryz.prog.info? 66).map (fun i => (i.zero, i.size, i.bytes)) = some (some (.float .f64 0), 1, 8) := by kernel_rfl
theorem infoBool2 : (Tryz.prog.info? 4).map (fun i => (i.zero, i.size, i.bytes)) = some (some (.bool false), 1, 1) := by kernel_rfl
theorem exec_box {P : Program} {a : Act} {o : Oper} {t : TypeId} {x : Operand} {w : World} {C : Array Value} (ho : o.op = .box t x) (hx : a.eval x = .agg C) :
    (execOp a.eval o).run P w = .ok (.value (.pointer (some ⟨w.heap.size, 0, none⟩))) (w.alloc (.cells C t)) := by
  unfold execOp
  simp only [ho, hx, Sem.run_bind, Instr.box, newVar, newRow, run_newObj_alloc, Sem.run_pure, Result.andThen_ok]
  rfl
theorem updB_at (b : Nat → Nat) (i x : Nat) : updB b i x i = x := by simp [updB]
theorem cells7_upd (z : Array Value) (pb nv st ul tc mb : Nat) (b : Nat → Nat) (x : Nat) : cells7 z pb nv st ul tc mb (updB b 42 x) = cells7 z pb nv st ul tc mb b := by unfold cells7; simp [updB]
def val7 (z : Array Value) (pb nv st ul tc mb : Nat) (pu : Option Addr) (cu : Nat) (b : Nat → Nat) : Nat → Value
  | 0 => .int .i64 (nv : Int)
  | 1 => .pointer (some ⟨pb, 0, none⟩)
  | 2 => .pointer (some ⟨pb, 0, none⟩)
  | 3 => .pointer (some ⟨pb, 2, none⟩)
  | 4 => .int .u8 (st : Int)
  | 5 => .pointer (some ⟨pb, 0, none⟩)
  | 6 => .pointer (some ⟨pb, 0, none⟩)
  | 7 => .pointer (some ⟨pb, 3, none⟩)
  | 8 => .slice pu ul cu
  | 9 => .int .i64 (ul : Int)
  | 10 => .int .i64 (tc : Int)
  | 11 => .slice (some ⟨b 11, 0, none⟩) ul tc
  | 12 => .pointer (some ⟨pb, 0, none⟩)
  | 13 => .pointer (some ⟨pb, 0, none⟩)
  | 14 => .pointer (some ⟨pb, 4, none⟩)
  | 15 => .slice (some ⟨mb, 0, none⟩) nv nv
  | 16 => .int .i64 (nv : Int)
  | 17 => .slice (some ⟨b 17, 0, none⟩) nv nv
  | 18 => .int .i64 (nv : Int)
  | 19 => .slice (some ⟨b 19, 0, none⟩) nv nv
  | 20 => .int .i64 (nv : Int)
  | 21 => .slice (some ⟨b 21, 0, none⟩) nv nv
  | 22 => .int .i64 (nv : Int)
  | 23 => .slice (some ⟨b 23, 0, none⟩) nv nv
  | 24 => .int .u64 1
  | 25 => .int .u64 512
  | 26 => .int .i64 512
  | 27 => .pointer (some ⟨pb, 0, none⟩)
  | 28 => .pointer (some ⟨pb, 0, none⟩)
  | 29 => .pointer (some ⟨pb, 5, none⟩)
  | 30 => .slice none 0 0
  | 31 => .pointer (some ⟨pb, 0, none⟩)
  | 32 => .pointer (some ⟨pb, 0, none⟩)
  | 33 => .pointer (some ⟨pb, 6, none⟩)
  | 34 => .slice none 0 0
  | 35 => .int .i64 (nv : Int)
  | 36 => .slice (some ⟨b 36, 0, none⟩) nv nv
  | 37 => .int .i64 (nv : Int)
  | 38 => .slice (some ⟨b 38, 0, none⟩) nv nv
  | 39 => .int .i64 (nv : Int)
  | 40 => .slice (some ⟨b 40, 0, none⟩) nv nv
  | 41 => .agg (cells7 z pb nv st ul tc mb b)
  | 42 => .pointer (some ⟨b 42, 0, none⟩)
  | 43 => .pointer (some ⟨b 42, 0, none⟩)
  | _ => undef
def mk7 : Nat → Bool
  | 11 => true
  | 17 => true
  | 19 => true
  | 21 => true
  | 23 => true
  | 36 => true
  | 38 => true
  | 40 => true
  | 42 => true
  | _ => false
def made7 (z : Array Value) (pb nv st ul tc mb : Nat) (b : Nat → Nat) : Nat → Array Value × TypeId
  | 11 => (Array.replicate tc (.int .i32 0), 82)
  | 17 => (Array.replicate nv (.float .f64 0), 66)
  | 19 => (Array.replicate nv (.bool false), 4)
  | 21 => (Array.replicate nv (.bool false), 4)
  | 23 => (Array.replicate nv (.pointer none), 92)
  | 36 => (Array.replicate nv (.int .i64 0), 3)
  | 38 => (Array.replicate nv (.int .i64 0), 3)
  | 40 => (Array.replicate nv (.int .i64 0), 3)
  | 42 => (cells7 z pb nv st ul tc mb b, 77)
  | _ => (#[], 0)
def pl7 (z : Array Value) (pb nv st ul tc mb : Nat) (pu : Option Addr) (cu : Nat) : Plan := ⟨fun i => if i < 43 then 32 + i else 5, val7 z pb nv st ul tc mb pu cu, mk7, made7 z pb nv st ul tc mb⟩
theorem pl7_cells42 (z : Array Value) (pb nv st ul tc mb : Nat) (pu : Option Addr) (cu : Nat) (b : Nat → Nat) : (pl7 z pb nv st ul tc mb pu cu).cells b 42 = (cells7 z pb nv st ul tc mb b, 77) := rfl
theorem pl7_val42 (z : Array Value) (pb nv st ul tc mb : Nat) (pu : Option Addr) (cu : Nat) (b : Nat → Nat) : (pl7 z pb nv st ul tc mb pu cu).val b 42 = .pointer (some ⟨b 42, 0, none⟩) := rfl
set_option maxRecDepth 100000 in
set_option maxHeartbeats 8000000 in
theorem new_c {F : List (List Nat)} {s : PSt} {w0 : World} (h : Rows s.row w0) (hF : PFin F s) (hnv0 : 0 < s.nv) (hnv1 : s.nv ≤ 100000) (hmv : ∃ mb, s.mV = slV mb s.nv) :
    Calls Tryz.prog 15 #[.pointer (some ⟨s.pb, 0, none⟩)] w0 (NewPost s w0) := by
  have hst : s.st < 2 := by rw [hF.st]; split <;> omega
  have hvl := hF.vl
  have hul := hF.usl
  replace hF := Lib.hid hF
  obtain ⟨mb, hmv⟩ := hmv
  obtain ⟨pu, cu, hus⟩ := h.shape .us
  have hus : s.usV = .slice pu s.us.length cu := hus
  have f0 : w0.cell? ⟨s.pb, 0, none⟩ = some (.int .i64 (s.nv : Int)) := PSt.pbc h (j := 0) rfl
  have f2 : w0.cell? ⟨s.pb, 2, none⟩ = some (.int .u8 (s.st : Int)) := PSt.pbc h (j := 2) rfl
  have f3 : w0.cell? ⟨s.pb, 3, none⟩ = some s.usV := PSt.pbc h (j := 3) rfl
  have f4 : w0.cell? ⟨s.pb, 4, none⟩ = some s.mV := PSt.pbc h (j := 4) rfl
  have f5 : w0.cell? ⟨s.pb, 5, none⟩ = some (.slice none 0 0) := PSt.pbc h (j := 5) rfl
  have f6 : w0.cell? ⟨s.pb, 6, none⟩ = some (.slice none 0 0) := PSt.pbc h (j := 6) rfl
  rw [hus] at f3
  rw [hmv] at f4
  unfold slV at f4
  have hstI : ((s.st : Int) == 2) = false := by simp; omega
  obtain ⟨ul, hule⟩ : ∃ ul, ul = s.us.length := ⟨_, rfl⟩
  rw [← hule] at f3 hul
  replace hule := Lib.hid hule
  replace hus := Lib.hid hus
  replace hmv := Lib.hid hmv
  replace hvl := Lib.hid hvl
  go_enter Tryz.func15, Tryz.ntmps15
  go_upto_if 26 with fail
  go_cut [4] (fun v4 wx => ∃ tc : Nat, v4 = .int .i64 (tc : Int) ∧ ul ≤ tc ∧ tc ≤ 1000000 ∧ w0 = wx)
  case first =>
    by_cases hlt : (s.nv : Int) < (ul : Int)
    · go_wp2_with fail
      go_meet
      exact ⟨ul, rfl, Nat.le_refl _, hul, rfl⟩
    · go_wp2_with fail
      go_meet
      exact ⟨s.nv, rfl, by omega, by omega, rfl⟩
  case rest =>
    obtain ⟨tc, rfl, htc1, htc2, rfl⟩ := hcut
    go_upto_region 7 with fail
    obtain ⟨z, hz1, hz2, hbuild⟩ := build_sol
    have hpl := h.lt ⟨.pb, rfl⟩
    have m11 := make_rep2 (P := Tryz.prog) 53 82 (.int .i32 0) 4 Tryz.underlying53 infoLit rfl ul tc htc1 (by omega) (by unfold maxLen; omega)
    have m17 := make_rep (P := Tryz.prog) 63 66 (.float .f64 0) 8 Tryz.underlying63 infoF64 rfl s.nv (by omega) (by unfold maxLen; omega)
    have m19 := make_rep (P := Tryz.prog) 27 4 (.bool false) 1 Tryz.underlying27 infoBool2 rfl s.nv (by omega) (by unfold maxLen; omega)
    have m21 := make_rep (P := Tryz.prog) 27 4 (.bool false) 1 Tryz.underlying27 infoBool2 rfl s.nv (by omega) (by unfold maxLen; omega)
    have m23 := make_rep (P := Tryz.prog) 52 92 (.pointer none) 8 Tryz.underlying52 infoCp3 rfl s.nv (by omega) (by unfold maxLen; omega)
    have m36 := make_rep (P := Tryz.prog) 34 3 (.int .i64 0) 8 Tryz.underlying34 infoInt rfl s.nv (by omega) (by unfold maxLen; omega)
    have m38 := make_rep (P := Tryz.prog) 34 3 (.int .i64 0) 8 Tryz.underlying34 infoInt rfl s.nv (by omega) (by unfold maxLen; omega)
    have m40 := make_rep (P := Tryz.prog) 34 3 (.int .i64 0) 8 Tryz.underlying34 infoInt rfl s.nv (by omega) (by unfold maxLen; omega)
    go_cut [5] (fun v5 wx => ∃ b, v5 = .pointer (some ⟨b 42, 0, none⟩) ∧ Made7 s.nv ul tc (cells7 z s.pb s.nv s.st ul tc mb b).toList b w0 wx)
    case first =>
      have hinj : ∀ i j, i < 44 → j < 44 → (pl7 z s.pb s.nv s.st ul tc mb pu cu).dst i = (pl7 z s.pb s.nv s.st ul tc mb pu cu).dst j → i = j := by
        intro i j hi hj e
        have e : (if i < 43 then 32 + i else 5) = (if j < 43 then 32 + j else 5) := e
        split at e <;> split at e <;> omega
      have hin : ∀ i, i < 44 → (pl7 z s.pb s.nv s.st ul tc mb pu cu).dst i < 128 := by
        intro i hi
        show (if i < 43 then 32 + i else 5) < 128
        split <;> omega
      refine wp_region_plan (pl7 z s.pb s.nv s.st ul tc mb pu cu) 44 (by kernel_rfl) rfl rfl (gd_of (by kernel_rfl)) hinj hin (ord_of (by kernel_rfl)) ?_ ?_ ?_
      · intro D b x i j hi hj hmk hcl hDj hDi
        have key : ∀ k, D k → updB b i x k = b k := by
          intro k hk
          unfold updB
          rw [if_neg]
          intro e
          subst e
          exact hDi hk
        have c41 : D 41 → cells7 z s.pb s.nv s.st ul tc mb (updB b i x) = cells7 z s.pb s.nv s.st ul tc mb b := by
          intro h41
          have k11 := key 11 (hcl 41 _ rfl h41 ⟨11, .data⟩ (by simp) rfl)
          have k17 := key 17 (hcl 41 _ rfl h41 ⟨17, .data⟩ (by simp) rfl)
          have k19 := key 19 (hcl 41 _ rfl h41 ⟨19, .data⟩ (by simp) rfl)
          have k21 := key 21 (hcl 41 _ rfl h41 ⟨21, .data⟩ (by simp) rfl)
          have k23 := key 23 (hcl 41 _ rfl h41 ⟨23, .data⟩ (by simp) rfl)
          have k36 := key 36 (hcl 41 _ rfl h41 ⟨36, .data⟩ (by simp) rfl)
          have k38 := key 38 (hcl 41 _ rfl h41 ⟨38, .data⟩ (by simp) rfl)
          have k40 := key 40 (hcl 41 _ rfl h41 ⟨40, .data⟩ (by simp) rfl)
          unfold cells7
          rw [k11, k17, k19, k21, k23, k36, k38, k40]
        have hor : j = 0 ∨ j = 1 ∨ j = 2 ∨ j = 3 ∨ j = 4 ∨ j = 5 ∨ j = 6 ∨ j = 7 ∨ j = 8 ∨ j = 9 ∨ j = 10 ∨ j = 11 ∨ j = 12 ∨ j = 13 ∨ j = 14 ∨ j = 15 ∨ j = 16 ∨ j = 17 ∨ j = 18 ∨ j = 19 ∨ j = 20 ∨ j = 21 ∨ j = 22 ∨ j = 23 ∨ j = 24 ∨ j = 25 ∨ j = 26 ∨ j = 27 ∨ j = 28 ∨ j = 29 ∨ j = 30 ∨ j = 31 ∨ j = 32 ∨ j = 33 ∨ j = 34 ∨ j = 35 ∨ j = 36 ∨ j = 37 ∨ j = 38 ∨ j = 39 ∨ j = 40 ∨ j = 41 ∨ j = 42 ∨ j = 43 := by omega
        rcases hor with rfl | rfl | rfl | rfl | rfl | rfl | rfl | rfl | rfl | rfl | rfl | rfl | rfl | rfl | rfl | rfl | rfl | rfl | rfl | rfl | rfl | rfl | rfl | rfl | rfl | rfl | rfl | rfl | rfl | rfl | rfl | rfl | rfl | rfl | rfl | rfl | rfl | rfl | rfl | rfl | rfl | rfl | rfl | rfl
        · exact ⟨rfl, rfl⟩
        · exact ⟨rfl, rfl⟩
        · exact ⟨rfl, rfl⟩
        · exact ⟨rfl, rfl⟩
        · exact ⟨rfl, rfl⟩
        · exact ⟨rfl, rfl⟩
        · exact ⟨rfl, rfl⟩
        · exact ⟨rfl, rfl⟩
        · exact ⟨rfl, rfl⟩
        · exact ⟨rfl, rfl⟩
        · exact ⟨rfl, rfl⟩
        · refine ⟨?_, rfl⟩
          show Value.slice (some ⟨updB b i x 11, 0, none⟩) ul tc = .slice (some ⟨b 11, 0, none⟩) ul tc
          rw [key 11 hDj]
        · exact ⟨rfl, rfl⟩
        · exact ⟨rfl, rfl⟩
        · exact ⟨rfl, rfl⟩
        · exact ⟨rfl, rfl⟩
        · exact ⟨rfl, rfl⟩
        · refine ⟨?_, rfl⟩
          show Value.slice (some ⟨updB b i x 17, 0, none⟩) s.nv s.nv = .slice (some ⟨b 17, 0, none⟩) s.nv s.nv
          rw [key 17 hDj]
        · exact ⟨rfl, rfl⟩
        · refine ⟨?_, rfl⟩
          show Value.slice (some ⟨updB b i x 19, 0, none⟩) s.nv s.nv = .slice (some ⟨b 19, 0, none⟩) s.nv s.nv
          rw [key 19 hDj]
        · exact ⟨rfl, rfl⟩
        · refine ⟨?_, rfl⟩
          show Value.slice (some ⟨updB b i x 21, 0, none⟩) s.nv s.nv = .slice (some ⟨b 21, 0, none⟩) s.nv s.nv
          rw [key 21 hDj]
        · exact ⟨rfl, rfl⟩
        · refine ⟨?_, rfl⟩
          show Value.slice (some ⟨updB b i x 23, 0, none⟩) s.nv s.nv = .slice (some ⟨b 23, 0, none⟩) s.nv s.nv
          rw [key 23 hDj]
        · exact ⟨rfl, rfl⟩
        · exact ⟨rfl, rfl⟩
        · exact ⟨rfl, rfl⟩
        · exact ⟨rfl, rfl⟩
        · exact ⟨rfl, rfl⟩
        · exact ⟨rfl, rfl⟩
        · exact ⟨rfl, rfl⟩
        · exact ⟨rfl, rfl⟩
        · exact ⟨rfl, rfl⟩
        · exact ⟨rfl, rfl⟩
        · exact ⟨rfl, rfl⟩
        · exact ⟨rfl, rfl⟩
        · refine ⟨?_, rfl⟩
          show Value.slice (some ⟨updB b i x 36, 0, none⟩) s.nv s.nv = .slice (some ⟨b 36, 0, none⟩) s.nv s.nv
          rw [key 36 hDj]
        · exact ⟨rfl, rfl⟩
        · refine ⟨?_, rfl⟩
          show Value.slice (some ⟨updB b i x 38, 0, none⟩) s.nv s.nv = .slice (some ⟨b 38, 0, none⟩) s.nv s.nv
          rw [key 38 hDj]
        · exact ⟨rfl, rfl⟩
        · refine ⟨?_, rfl⟩
          show Value.slice (some ⟨updB b i x 40, 0, none⟩) s.nv s.nv = .slice (some ⟨b 40, 0, none⟩) s.nv s.nv
          rw [key 40 hDj]
        · refine ⟨?_, rfl⟩
          show Value.agg _ = Value.agg _
          rw [c41 hDj]
        · refine ⟨?_, ?_⟩
          · rw [pl7_val42, pl7_val42, key 42 hDj]
          · rw [pl7_cells42, pl7_cells42, c41 (hcl 42 _ rfl hDj ⟨41, .data⟩ (by simp) rfl)]
        · refine ⟨?_, rfl⟩
          show Value.pointer (some ⟨updB b i x 42, 0, none⟩) = .pointer (some ⟨b 42, 0, none⟩)
          rw [key 42 (hcl 43 _ rfl hDj ⟨42, .data⟩ (by simp) rfl)]
      · intro D b a w i o ho hdep hA hM
        have hi : i < 44 := by have := (List.getElem?_eq_some_iff.1 ho).1; simpa using this
        have hor : i = 0 ∨ i = 1 ∨ i = 2 ∨ i = 3 ∨ i = 4 ∨ i = 5 ∨ i = 6 ∨ i = 7 ∨ i = 8 ∨ i = 9 ∨ i = 10 ∨ i = 11 ∨ i = 12 ∨ i = 13 ∨ i = 14 ∨ i = 15 ∨ i = 16 ∨ i = 17 ∨ i = 18 ∨ i = 19 ∨ i = 20 ∨ i = 21 ∨ i = 22 ∨ i = 23 ∨ i = 24 ∨ i = 25 ∨ i = 26 ∨ i = 27 ∨ i = 28 ∨ i = 29 ∨ i = 30 ∨ i = 31 ∨ i = 32 ∨ i = 33 ∨ i = 34 ∨ i = 35 ∨ i = 36 ∨ i = 37 ∨ i = 38 ∨ i = 39 ∨ i = 40 ∨ i = 41 ∨ i = 42 ∨ i = 43 := by omega
        have k0 : a.tmps.getD 0 undef = .pointer (some ⟨s.pb, 0, none⟩) := (hA.keep 0 (fun i hi => by show (if i < 43 then 32 + i else 5) ≠ 0; split <;> omega)).trans rfl
        have k3 : a.tmps.getD 3 undef = .int .i64 (s.nv : Int) := (hA.keep 3 (fun i hi => by show (if i < 43 then 32 + i else 5) ≠ 3; split <;> omega)).trans rfl
        have k4 : a.tmps.getD 4 undef = .int .i64 (tc : Int) := (hA.keep 4 (fun i hi => by show (if i < 43 then 32 + i else 5) ≠ 4; split <;> omega)).trans rfl
        have hcell : ∀ j, w.cell? ⟨s.pb, j, none⟩ = _ := fun j => World.cell?_of_block (a := ⟨s.pb, j, none⟩) (hM.old s.pb hpl)
        have f2 := (hcell 2).trans f2
        have f3 := (hcell 3).trans f3
        have f4 := (hcell 4).trans f4
        have f5 := (hcell 5).trans f5
        have f6 := (hcell 6).trans f6
        clear hcell
        rcases hor with rfl | rfl | rfl | rfl | rfl | rfl | rfl | rfl | rfl | rfl | rfl | rfl | rfl | rfl | rfl | rfl | rfl | rfl | rfl | rfl | rfl | rfl | rfl | rfl | rfl | rfl | rfl | rfl | rfl | rfl | rfl | rfl | rfl | rfl | rfl | rfl | rfl | rfl | rfl | rfl | rfl | rfl | rfl | rfl
        all_goals (injection ho with ho; subst ho)
        · -- 0
          refine .inl ⟨rfl, ?_⟩
          show Oper.quietUpon _ _ _ (.int .i64 (s.nv : Int)) _
          go_simp
        · -- 1
          refine .inl ⟨rfl, ?_⟩
          show Oper.quietUpon _ _ _ (.pointer (some ⟨s.pb, 0, none⟩)) _
          go_simp
        · -- 2
          have d1 : a.tmps.getD 33 undef = .pointer (some ⟨s.pb, 0, none⟩) := hA.val 1 (by omega) (hdep ⟨1, .data⟩ (by simp) rfl)
          refine .inl ⟨rfl, ?_⟩
          show Oper.quietUpon _ _ _ (.pointer (some ⟨s.pb, 0, none⟩)) _
          go_simp
        · -- 3
          have d2 : a.tmps.getD 34 undef = .pointer (some ⟨s.pb, 0, none⟩) := hA.val 2 (by omega) (hdep ⟨2, .data⟩ (by simp) rfl)
          refine .inl ⟨rfl, ?_⟩
          show Oper.quietUpon _ _ _ (.pointer (some ⟨s.pb, 2, none⟩)) _
          go_simp
        · -- 4
          have d3 : a.tmps.getD 35 undef = .pointer (some ⟨s.pb, 2, none⟩) := hA.val 3 (by omega) (hdep ⟨3, .data⟩ (by simp) rfl)
          refine .inl ⟨rfl, ?_⟩
          show Oper.quietUpon _ _ _ (.int .u8 (s.st : Int)) _
          go_simp
        · -- 5
          refine .inl ⟨rfl, ?_⟩
          show Oper.quietUpon _ _ _ (.pointer (some ⟨s.pb, 0, none⟩)) _
          go_simp
        · -- 6
          have d5 : a.tmps.getD 37 undef = .pointer (some ⟨s.pb, 0, none⟩) := hA.val 5 (by omega) (hdep ⟨5, .data⟩ (by simp) rfl)
          refine .inl ⟨rfl, ?_⟩
          show Oper.quietUpon _ _ _ (.pointer (some ⟨s.pb, 0, none⟩)) _
          go_simp
        · -- 7
          have d6 : a.tmps.getD 38 undef = .pointer (some ⟨s.pb, 0, none⟩) := hA.val 6 (by omega) (hdep ⟨6, .data⟩ (by simp) rfl)
          refine .inl ⟨rfl, ?_⟩
          show Oper.quietUpon _ _ _ (.pointer (some ⟨s.pb, 3, none⟩)) _
          go_simp
        · -- 8
          have d7 : a.tmps.getD 39 undef = .pointer (some ⟨s.pb, 3, none⟩) := hA.val 7 (by omega) (hdep ⟨7, .data⟩ (by simp) rfl)
          refine .inl ⟨rfl, ?_⟩
          show Oper.quietUpon _ _ _ (.slice pu ul cu) _
          go_simp
        · -- 9
          have d8 : a.tmps.getD 40 undef = .slice pu ul cu := hA.val 8 (by omega) (hdep ⟨8, .data⟩ (by simp) rfl)
          refine .inl ⟨rfl, ?_⟩
          show Oper.quietUpon _ _ _ (.int .i64 (ul : Int)) _
          go_simp
        · -- 10
          refine .inl ⟨rfl, ?_⟩
          show Oper.quietUpon _ _ _ (.int .i64 (tc : Int)) _
          go_simp
        · -- 11
          have d9 : a.tmps.getD 41 undef = .int .i64 (ul : Int) := hA.val 9 (by omega) (hdep ⟨9, .data⟩ (by simp) rfl)
          have d10 : a.tmps.getD 42 undef = .int .i64 (tc : Int) := hA.val 10 (by omega) (hdep ⟨10, .data⟩ (by simp) rfl)
          refine .inr ⟨rfl, ?_⟩
          show _ = Result.ok (Next.value (.slice (some ⟨w.heap.size, 0, none⟩) ul tc)) (w.alloc (.cells (Array.replicate tc (.int .i32 0)) 82))
          have mm := m11 w
          go_simp
        · -- 12
          refine .inl ⟨rfl, ?_⟩
          show Oper.quietUpon _ _ _ (.pointer (some ⟨s.pb, 0, none⟩)) _
          go_simp
        · -- 13
          have d12 : a.tmps.getD 44 undef = .pointer (some ⟨s.pb, 0, none⟩) := hA.val 12 (by omega) (hdep ⟨12, .data⟩ (by simp) rfl)
          refine .inl ⟨rfl, ?_⟩
          show Oper.quietUpon _ _ _ (.pointer (some ⟨s.pb, 0, none⟩)) _
          go_simp
        · -- 14
          have d13 : a.tmps.getD 45 undef = .pointer (some ⟨s.pb, 0, none⟩) := hA.val 13 (by omega) (hdep ⟨13, .data⟩ (by simp) rfl)
          refine .inl ⟨rfl, ?_⟩
          show Oper.quietUpon _ _ _ (.pointer (some ⟨s.pb, 4, none⟩)) _
          go_simp
        · -- 15
          have d14 : a.tmps.getD 46 undef = .pointer (some ⟨s.pb, 4, none⟩) := hA.val 14 (by omega) (hdep ⟨14, .data⟩ (by simp) rfl)
          refine .inl ⟨rfl, ?_⟩
          show Oper.quietUpon _ _ _ (.slice (some ⟨mb, 0, none⟩) s.nv s.nv) _
          go_simp
        · -- 16
          refine .inl ⟨rfl, ?_⟩
          show Oper.quietUpon _ _ _ (.int .i64 (s.nv : Int)) _
          go_simp
        · -- 17
          have d16 : a.tmps.getD 48 undef = .int .i64 (s.nv : Int) := hA.val 16 (by omega) (hdep ⟨16, .data⟩ (by simp) rfl)
          refine .inr ⟨rfl, ?_⟩
          show _ = Result.ok (Next.value (.slice (some ⟨w.heap.size, 0, none⟩) s.nv s.nv)) (w.alloc (.cells (Array.replicate s.nv (.float .f64 0)) 66))
          have mm := m17 w
          go_simp
        · -- 18
          refine .inl ⟨rfl, ?_⟩
          show Oper.quietUpon _ _ _ (.int .i64 (s.nv : Int)) _
          go_simp
        · -- 19
          have d18 : a.tmps.getD 50 undef = .int .i64 (s.nv : Int) := hA.val 18 (by omega) (hdep ⟨18, .data⟩ (by simp) rfl)
          refine .inr ⟨rfl, ?_⟩
          show _ = Result.ok (Next.value (.slice (some ⟨w.heap.size, 0, none⟩) s.nv s.nv)) (w.alloc (.cells (Array.replicate s.nv (.bool false)) 4))
          have mm := m19 w
          go_simp
        · -- 20
          refine .inl ⟨rfl, ?_⟩
          show Oper.quietUpon _ _ _ (.int .i64 (s.nv : Int)) _
          go_simp
        · -- 21
          have d20 : a.tmps.getD 52 undef = .int .i64 (s.nv : Int) := hA.val 20 (by omega) (hdep ⟨20, .data⟩ (by simp) rfl)
          refine .inr ⟨rfl, ?_⟩
          show _ = Result.ok (Next.value (.slice (some ⟨w.heap.size, 0, none⟩) s.nv s.nv)) (w.alloc (.cells (Array.replicate s.nv (.bool false)) 4))
          have mm := m21 w
          go_simp
        · -- 22
          refine .inl ⟨rfl, ?_⟩
          show Oper.quietUpon _ _ _ (.int .i64 (s.nv : Int)) _
          go_simp
        · -- 23
          have d22 : a.tmps.getD 54 undef = .int .i64 (s.nv : Int) := hA.val 22 (by omega) (hdep ⟨22, .data⟩ (by simp) rfl)
          refine .inr ⟨rfl, ?_⟩
          show _ = Result.ok (Next.value (.slice (some ⟨w.heap.size, 0, none⟩) s.nv s.nv)) (w.alloc (.cells (Array.replicate s.nv (.pointer none)) 92))
          have mm := m23 w
          go_simp
        · -- 24
          refine .inl ⟨rfl, ?_⟩
          show Oper.quietUpon _ _ _ (.int .u64 1) _
          go_simp
          exact luby_c w
        · -- 25
          have d24 : a.tmps.getD 56 undef = .int .u64 1 := hA.val 24 (by omega) (hdep ⟨24, .data⟩ (by simp) rfl)
          refine .inl ⟨rfl, ?_⟩
          show Oper.quietUpon _ _ _ (.int .u64 512) _
          go_simp
          rfl
        · -- 26
          have d25 : a.tmps.getD 57 undef = .int .u64 512 := hA.val 25 (by omega) (hdep ⟨25, .data⟩ (by simp) rfl)
          refine .inl ⟨rfl, ?_⟩
          show Oper.quietUpon _ _ _ (.int .i64 512) _
          go_simp
          rfl
        · -- 27
          refine .inl ⟨rfl, ?_⟩
          show Oper.quietUpon _ _ _ (.pointer (some ⟨s.pb, 0, none⟩)) _
          go_simp
        · -- 28
          have d27 : a.tmps.getD 59 undef = .pointer (some ⟨s.pb, 0, none⟩) := hA.val 27 (by omega) (hdep ⟨27, .data⟩ (by simp) rfl)
          refine .inl ⟨rfl, ?_⟩
          show Oper.quietUpon _ _ _ (.pointer (some ⟨s.pb, 0, none⟩)) _
          go_simp
        · -- 29
          have d28 : a.tmps.getD 60 undef = .pointer (some ⟨s.pb, 0, none⟩) := hA.val 28 (by omega) (hdep ⟨28, .data⟩ (by simp) rfl)
          refine .inl ⟨rfl, ?_⟩
          show Oper.quietUpon _ _ _ (.pointer (some ⟨s.pb, 5, none⟩)) _
          go_simp
        · -- 30
          have d29 : a.tmps.getD 61 undef = .pointer (some ⟨s.pb, 5, none⟩) := hA.val 29 (by omega) (hdep ⟨29, .data⟩ (by simp) rfl)
          refine .inl ⟨rfl, ?_⟩
          show Oper.quietUpon _ _ _ (.slice none 0 0) _
          go_simp
        · -- 31
          refine .inl ⟨rfl, ?_⟩
          show Oper.quietUpon _ _ _ (.pointer (some ⟨s.pb, 0, none⟩)) _
          go_simp
        · -- 32
          have d31 : a.tmps.getD 63 undef = .pointer (some ⟨s.pb, 0, none⟩) := hA.val 31 (by omega) (hdep ⟨31, .data⟩ (by simp) rfl)
          refine .inl ⟨rfl, ?_⟩
          show Oper.quietUpon _ _ _ (.pointer (some ⟨s.pb, 0, none⟩)) _
          go_simp
        · -- 33
          have d32 : a.tmps.getD 64 undef = .pointer (some ⟨s.pb, 0, none⟩) := hA.val 32 (by omega) (hdep ⟨32, .data⟩ (by simp) rfl)
          refine .inl ⟨rfl, ?_⟩
          show Oper.quietUpon _ _ _ (.pointer (some ⟨s.pb, 6, none⟩)) _
          go_simp
        · -- 34
          have d33 : a.tmps.getD 65 undef = .pointer (some ⟨s.pb, 6, none⟩) := hA.val 33 (by omega) (hdep ⟨33, .data⟩ (by simp) rfl)
          refine .inl ⟨rfl, ?_⟩
          show Oper.quietUpon _ _ _ (.slice none 0 0) _
          go_simp
        · -- 35
          refine .inl ⟨rfl, ?_⟩
          show Oper.quietUpon _ _ _ (.int .i64 (s.nv : Int)) _
          go_simp
        · -- 36
          have d35 : a.tmps.getD 67 undef = .int .i64 (s.nv : Int) := hA.val 35 (by omega) (hdep ⟨35, .data⟩ (by simp) rfl)
          refine .inr ⟨rfl, ?_⟩
          show _ = Result.ok (Next.value (.slice (some ⟨w.heap.size, 0, none⟩) s.nv s.nv)) (w.alloc (.cells (Array.replicate s.nv (.int .i64 0)) 3))
          have mm := m36 w
          go_simp
        · -- 37
          refine .inl ⟨rfl, ?_⟩
          show Oper.quietUpon _ _ _ (.int .i64 (s.nv : Int)) _
          go_simp
        · -- 38
          have d37 : a.tmps.getD 69 undef = .int .i64 (s.nv : Int) := hA.val 37 (by omega) (hdep ⟨37, .data⟩ (by simp) rfl)
          refine .inr ⟨rfl, ?_⟩
          show _ = Result.ok (Next.value (.slice (some ⟨w.heap.size, 0, none⟩) s.nv s.nv)) (w.alloc (.cells (Array.replicate s.nv (.int .i64 0)) 3))
          have mm := m38 w
          go_simp
        · -- 39
          refine .inl ⟨rfl, ?_⟩
          show Oper.quietUpon _ _ _ (.int .i64 (s.nv : Int)) _
          go_simp
        · -- 40
          have d39 : a.tmps.getD 71 undef = .int .i64 (s.nv : Int) := hA.val 39 (by omega) (hdep ⟨39, .data⟩ (by simp) rfl)
          refine .inr ⟨rfl, ?_⟩
          show _ = Result.ok (Next.value (.slice (some ⟨w.heap.size, 0, none⟩) s.nv s.nv)) (w.alloc (.cells (Array.replicate s.nv (.int .i64 0)) 3))
          have mm := m40 w
          go_simp
        · -- 41
          have d0 : a.tmps.getD 32 undef = .int .i64 (s.nv : Int) := hA.val 0 (by omega) (hdep ⟨0, .data⟩ (by simp) rfl)
          have d4 : a.tmps.getD 36 undef = .int .u8 (s.st : Int) := hA.val 4 (by omega) (hdep ⟨4, .data⟩ (by simp) rfl)
          have d11 : a.tmps.getD 43 undef = .slice (some ⟨b 11, 0, none⟩) ul tc := hA.val 11 (by omega) (hdep ⟨11, .data⟩ (by simp) rfl)
          have d15 : a.tmps.getD 47 undef = .slice (some ⟨mb, 0, none⟩) s.nv s.nv := hA.val 15 (by omega) (hdep ⟨15, .data⟩ (by simp) rfl)
          have d17 : a.tmps.getD 49 undef = .slice (some ⟨b 17, 0, none⟩) s.nv s.nv := hA.val 17 (by omega) (hdep ⟨17, .data⟩ (by simp) rfl)
          have d19 : a.tmps.getD 51 undef = .slice (some ⟨b 19, 0, none⟩) s.nv s.nv := hA.val 19 (by omega) (hdep ⟨19, .data⟩ (by simp) rfl)
          have d21 : a.tmps.getD 53 undef = .slice (some ⟨b 21, 0, none⟩) s.nv s.nv := hA.val 21 (by omega) (hdep ⟨21, .data⟩ (by simp) rfl)
          have d23 : a.tmps.getD 55 undef = .slice (some ⟨b 23, 0, none⟩) s.nv s.nv := hA.val 23 (by omega) (hdep ⟨23, .data⟩ (by simp) rfl)
          have d26 : a.tmps.getD 58 undef = .int .i64 512 := hA.val 26 (by omega) (hdep ⟨26, .data⟩ (by simp) rfl)
          have d30 : a.tmps.getD 62 undef = .slice none 0 0 := hA.val 30 (by omega) (hdep ⟨30, .data⟩ (by simp) rfl)
          have d34 : a.tmps.getD 66 undef = .slice none 0 0 := hA.val 34 (by omega) (hdep ⟨34, .data⟩ (by simp) rfl)
          have d36 : a.tmps.getD 68 undef = .slice (some ⟨b 36, 0, none⟩) s.nv s.nv := hA.val 36 (by omega) (hdep ⟨36, .data⟩ (by simp) rfl)
          have d38 : a.tmps.getD 70 undef = .slice (some ⟨b 38, 0, none⟩) s.nv s.nv := hA.val 38 (by omega) (hdep ⟨38, .data⟩ (by simp) rfl)
          have d40 : a.tmps.getD 72 undef = .slice (some ⟨b 40, 0, none⟩) s.nv s.nv := hA.val 40 (by omega) (hdep ⟨40, .data⟩ (by simp) rfl)
          refine .inl ⟨rfl, ?_⟩
          show Oper.quietUpon _ _ _ (.agg (cells7 z s.pb s.nv s.st ul tc mb b)) _
          have hb := hbuild (.int .i64 (s.nv : Int)) (.int .u8 (s.st : Int)) (.slice (some ⟨b 11, 0, none⟩) ul tc) (.slice (some ⟨mb, 0, none⟩) s.nv s.nv) (.slice (some ⟨b 17, 0, none⟩) s.nv s.nv) (.slice (some ⟨b 19, 0, none⟩) s.nv s.nv) (.slice (some ⟨b 21, 0, none⟩) s.nv s.nv) (.slice (some ⟨b 23, 0, none⟩) s.nv s.nv) (.float .f64 4607182418800017408) (.float .f32 1065353216) (.int .i64 512) (.slice none 0 0) (.slice none 0 0) (.float .f64 4605380978949069210) (.slice (some ⟨b 36, 0, none⟩) s.nv s.nv) (.slice (some ⟨b 38, 0, none⟩) s.nv s.nv) (.slice (some ⟨b 40, 0, none⟩) s.nv s.nv) (by simp [Value.oneCell']) w
          refine quiet_build (L := _) rfl ?_ hb rfl
          simp [Act.eval, -Array.getD_eq_getD_getElem?, d0, d4, d11, d15, d17, d19, d21, d23, d26, d30, d34, d36, d38, d40]
        · -- 42
          have d41 : a.tmps.getD 73 undef = .agg (cells7 z s.pb s.nv s.st ul tc mb b) := hA.val 41 (by omega) (hdep ⟨41, .data⟩ (by simp) rfl)
          refine .inr ⟨rfl, ?_⟩
          refine (exec_box (t := 77) (x := .tmp 73) rfl (show a.eval (.tmp 73) = _ from d41)).trans ?_
          rw [pl7_val42, pl7_cells42, cells7_upd, updB_at]
        · -- 43
          have d42 : a.tmps.getD 74 undef = .pointer (some ⟨b 42, 0, none⟩) := hA.val 42 (by omega) (hdep ⟨42, .data⟩ (by simp) rfl)
          refine .inl ⟨rfl, ?_⟩
          show Oper.quietUpon _ _ _ (.pointer (some ⟨b 42, 0, none⟩)) _
          go_simp
      · intro b a w hA hM
        have hfin := hA.fin hinj hin
        have hmk : ∀ i ∈ [11, 17, 19, 21, 23, 36, 42], i < 44 ∧ mk7 i = true := by
          intro i hi
          simp only [List.mem_cons, List.not_mem_nil, or_false] at hi
          rcases hi with rfl | rfl | rfl | rfl | rfl | rfl | rfl <;> exact ⟨by omega, rfl⟩
        have hmd : Made7 s.nv ul tc (cells7 z s.pb s.nv s.st ul tc mb b).toList b w0 w :=
          ⟨hM.os, hM.tape, hM.output, hM.size, hM.old, fun i hi => (hM.new i (hmk i hi).1 (hmk i hi).1 (hmk i hi).2).2.1, fun i hi j hj e => hM.inj i j (hmk i hi).1 (hmk j hj).1 (hmk i hi).1 (hmk j hj).1 (hmk i hi).2 (hmk j hj).2 e,
            (hM.new 11 (by omega) (by omega) rfl).1, (hM.new 17 (by omega) (by omega) rfl).1, (hM.new 19 (by omega) (by omega) rfl).1, (hM.new 21 (by omega) (by omega) rfl).1, (hM.new 23 (by omega) (by omega) rfl).1, (hM.new 36 (by omega) (by omega) rfl).1, by
            have h42 := (hM.new 42 (by omega) (by omega) rfl).1
            simp only [pl7_cells42] at h42
            simp only [Array.toArray_toList]
            exact h42⟩
        replace hmd := Lib.hid hmd
        have hE : planEnd (pl7 z s.pb s.nv s.st ul tc mb pu cu) b ⟨#[.pointer (some ⟨s.pb, 0, none⟩), undef, .pointer none, .int .i64 (s.nv : Int), .int .i64 (tc : Int), undef, undef, undef, u8, u9, u10, u11, u12, u13, u14, u15, u16, u17, u18, u19, u20, u21, u22, u23, u24, u25, u26, u27, u28, u29, u30, u31, u32, u33, u34, u35, u36, u37, u38, u39, u40, u41, u42, u43, u44, u45, u46, u47, u48, u49, u50, u51, u52, u53, u54, u55, u56, u57, u58, u59, u60, u61, u62, u63, u64, u65, u66, u67, u68, u69, u70, u71, u72, u73, u74, u75, u76, u77, u78, u79, u80, u81, u82, u83, u84, u85, u86, u87, u88, u89, u90, u91, u92, u93, u94, u95, undef, undef, undef, u99, u100, u101, u102, u103, u104, u105, u106, u107, u108, u109, u110, u111, u112, u113, u114, u115, u116, u117, u118, u119, u120, u121, u122, u123, u124, u125, u126, u127], []⟩ 44 = ⟨#[.pointer (some ⟨s.pb, 0, none⟩), undef, .pointer none, .int .i64 (s.nv : Int), .int .i64 (tc : Int), .pointer (some ⟨b 42, 0, none⟩), undef, undef, u8, u9, u10, u11, u12, u13, u14, u15, u16, u17, u18, u19, u20, u21, u22, u23, u24, u25, u26, u27, u28, u29, u30, u31, .int .i64 (s.nv : Int), .pointer (some ⟨s.pb, 0, none⟩), .pointer (some ⟨s.pb, 0, none⟩), .pointer (some ⟨s.pb, 2, none⟩), .int .u8 (s.st : Int), .pointer (some ⟨s.pb, 0, none⟩), .pointer (some ⟨s.pb, 0, none⟩), .pointer (some ⟨s.pb, 3, none⟩), .slice pu ul cu, .int .i64 (ul : Int), .int .i64 (tc : Int), .slice (some ⟨b 11, 0, none⟩) ul tc, .pointer (some ⟨s.pb, 0, none⟩), .pointer (some ⟨s.pb, 0, none⟩), .pointer (some ⟨s.pb, 4, none⟩), .slice (some ⟨mb, 0, none⟩) s.nv s.nv, .int .i64 (s.nv : Int), .slice (some ⟨b 17, 0, none⟩) s.nv s.nv, .int .i64 (s.nv : Int), .slice (some ⟨b 19, 0, none⟩) s.nv s.nv, .int .i64 (s.nv : Int), .slice (some ⟨b 21, 0, none⟩) s.nv s.nv, .int .i64 (s.nv : Int), .slice (some ⟨b 23, 0, none⟩) s.nv s.nv, .int .u64 1, .int .u64 512, .int .i64 512, .pointer (some ⟨s.pb, 0, none⟩), .pointer (some ⟨s.pb, 0, none⟩), .pointer (some ⟨s.pb, 5, none⟩), .slice none 0 0, .pointer (some ⟨s.pb, 0, none⟩), .pointer (some ⟨s.pb, 0, none⟩), .pointer (some ⟨s.pb, 6, none⟩), .slice none 0 0, .int .i64 (s.nv : Int), .slice (some ⟨b 36, 0, none⟩) s.nv s.nv, .int .i64 (s.nv : Int), .slice (some ⟨b 38, 0, none⟩) s.nv s.nv, .int .i64 (s.nv : Int), .slice (some ⟨b 40, 0, none⟩) s.nv s.nv, .agg (cells7 z s.pb s.nv s.st ul tc mb b), .pointer (some ⟨b 42, 0, none⟩), u75, u76, u77, u78, u79, u80, u81, u82, u83, u84, u85, u86, u87, u88, u89, u90, u91, u92, u93, u94, u95, undef, undef, undef, u99, u100, u101, u102, u103, u104, u105, u106, u107, u108, u109, u110, u111, u112, u113, u114, u115, u116, u117, u118, u119, u120, u121, u122, u123, u124, u125, u126, u127], []⟩ := by kernel_rfl
        replace hfin := hfin.trans hE
        rw [hfin]
        clear hfin hE hA hM hmk
        rename_i J K' hJ hK
        show K' _ _
        refine hK _ _ (Met.intro (hJ _ _ ?_))
        (repeat apply Exists.intro)
        exact ⟨⟨b, rfl, hmd.out⟩, rfl⟩
    case rest =>
      obtain ⟨b, rfl, hmd⟩ := hcut
      have hC := cells7_len hz1 s.pb s.nv s.st ul tc mb b
      have hT := solN_tr h hmd hC hF.out.mem hvl.out hmv.out (by omega) htc1 htc2
      have g4 := cells7_4 hz1 s.pb s.nv s.st ul tc mb b
      have g94 := cells7_5094 hz1 s.pb s.nv s.st ul tc mb b
      have hHd := fun b1 b2 b3 b4 ob => solN_hd (p := s) (ul := ul) (tc := tc) (mb := mb) (b := b) hz1 hz2 b1 b2 b3 b4 ob
      generalize (cells7 z s.pb s.nv s.st ul tc mb b).toList = CL at hC hT g4 g94 hHd hmd
      have hn0 : ∀ i, nth (List.replicate ul 0) i = 0 := by
        intro i
        unfold nth
        rw [List.getD_eq_getElem?_getD, List.getElem?_replicate]
        split <;> rfl
      have hWP : WPre (solN s CL ul tc mb b) := ⟨hF.out.len, hF.out.lit, hF.out.nd, hF.out.ndv, fun _ => rfl, fun _ => rfl, fun _ => rfl, rfl, rfl,
        fun i _ => by show nth (List.replicate ul 0) i < s.nv * 2; rw [hn0]; omega, by show (List.replicate ul 0).length ≤ _; rw [List.length_replicate]; omega, hHd⟩
      have f94 : wc.cell? ⟨b 42, 5094, none⟩ = some (.slice none 0 0) := hT.rows.cell (.inl .sol) (b := b 42) rfl g94
      have c1 : wc.cell? ⟨s.pb, 1, none⟩ = some s.csV := hT.rows.cell (.inr .pb) (b := s.pb) rfl rfl
      have hW : Calls Tryz.prog 26 #[.pointer (some ⟨b 42, 0, none⟩), s.csV] wc (WLPost (solN s CL ul tc mb b) s.left wc) := initW_c hT.rows rfl hC g4 hnv0 hnv1 hF.out.csl hWP
      obtain ⟨sb, hsb⟩ : ∃ sb, sb = b 42 := ⟨_, rfl⟩
      have hsN : (solN s CL ul tc mb b).sb = sb := hsb.symm
      obtain ⟨S, hS⟩ : ∃ S, S = solN s CL ul tc mb b := ⟨_, rfl⟩
      rw [← hS] at hT hWP hW hsN
      rw [← hsb] at f94 hW ⊢
      have hSid : S.ids.length = s.cs.length := by rw [hS]; rfl
      replace hS := Lib.hid hS
      replace hWP := Lib.hid hWP
      replace hW := Lib.hid hW
      replace hT := Lib.hid hT
      replace hsb := Lib.hid hsb
      replace hsN := Lib.hid hsN
      replace hSid := Lib.hid hSid
      replace hC := Lib.hid hC
      clear hmd hHd g4 g94 hn0 hz1 hz2 hbuild m11 m17 m19 m21 m23 m36 m38 m40 f0 f2 f3 f4 f5 f6 hpl
      go_upto_region 11 with (first
        | (go_at_call 24; refine Calls.ret (resetOpt_c f94) ?_)
        | (go_at_call 25; refine Calls.ret (initAct_c f94) ?_)
        | (go_at_call 26; refine hW.out.mono ?_; rintro e w2 ⟨rfl, sW, hL⟩; replace hL := Lib.hid hL))
      have hkp := hL.out.kp
      have hsbW : sW.sb = sb := (congrArg (fun p => p.1) hkp).trans hsN.out
      have hnvW : sW.nv = s.nv := by have e : sW.nv = S.nv := hL.out.ms.nv; rw [e, hS.out]; rfl
      have hTW := hL.out.tr
      have hlW : sW.sc.length = 5102 := by have e := (hTW.rows.own (.inl .sol)).1; exact e
      obtain ⟨aB, haB⟩ : ∃ aB, aB = sW.actB := ⟨_, rfl⟩
      have f17 : w2.cell? ⟨sb, 17, none⟩ = some (.slice (some ⟨aB, 0, none⟩) s.nv s.nv) := by
        have e := hTW.rows.cell (.inl .sol) (b := sb) (by rw [← hsbW]; rfl) hL.out.hd.f17
        rw [hnvW, ← haB] at e; exact e
      have hNQ := newQ_c (ra := .inl .act) hTW.rows rfl hL.out.hd.fact (by rw [hnvW]; omega)
      rw [← haB, hnvW] at hNQ
      replace hNQ := Lib.hid hNQ
      replace hkp := Lib.hid hkp
      replace hsbW := Lib.hid hsbW
      replace hnvW := Lib.hid hnvW
      replace hTW := Lib.hid hTW
      replace hlW := Lib.hid hlW
      replace haB := Lib.hid haB
      clear f94 c1 hW
      go_upto_region 12 with (go_at_call 27; refine hNQ.out.mono ?_; rintro e w3 ⟨ρ1, C, I, qb, rfl, hCl, hIl, hQ, hQI, hmem, hT1, hρ⟩
                              obtain ⟨pc, cc, hpc⟩ := hT1.rows.shape (.inr .c)
                              obtain ⟨pi, ci, hpi⟩ := hT1.rows.shape (.inr .i)
                              have hw := withQ_tr hTW.out.rows hQ hT1 hρ hlW.out
                              generalize (ρ1 (.inr .c)).n = nc at *
                              generalize (ρ1 (.inr .i)).n = ni at *
                              rw [hpc, hpi, hsbW.out, ← haB.out, hnvW.out] at hw
                              rw [hpc, hpi]
                              clear hpc hpi hQ hT1 hρ
                              obtain ⟨hth, hTQ⟩ := hw
                              obtain ⟨x0, hx0⟩ := Option.isSome_iff_exists.1 (hth 0 (by omega)).1
                              obtain ⟨x1, hx1⟩ := Option.isSome_iff_exists.1 (hth 1 (by omega)).1
                              obtain ⟨x2, hx2⟩ := Option.isSome_iff_exists.1 (hth 2 (by omega)).1
                              have y0 := (hth 0 (by omega)).2
                              have y1 := (hth 1 (by omega)).2
                              have y2 := (hth 2 (by omega)).2
                              simp only [Nat.add_zero, Nat.reduceAdd] at hx0 hx1 hx2 y0 y1 y2
                              unfold slV at hTQ ⊢
                              replace hTQ := Lib.hid hTQ
                              replace hQI := Lib.hid hQI
                              replace hmem := Lib.hid hmem
                              replace hCl := Lib.hid hCl
                              replace hIl := Lib.hid hIl
                              clear hth)
      obtain ⟨w4, hw4⟩ : ∃ w4, w4 = ((w3.setCell ⟨sb, 21, none⟩ (.slice (some ⟨aB, 0, none⟩) s.nv s.nv)).setCell ⟨sb, 22, none⟩ (.slice pc nc cc)).setCell ⟨sb, 23, none⟩ (.slice pi ni ci) := ⟨_, rfl⟩
      have hTQ' : Tr (Sum.elim sW.row s.left) w2 (Sum.elim (sW.withQ (.slice pc nc cc) (.slice pi ni ci) C I).row s.left) w4 := by rw [hw4]; exact hTQ.out
      rw [← hw4]
      replace hw4 := Lib.hid hw4
      clear hTQ x0 x1 x2 hx0 hx1 hx2 y0 y1 y2
      have hHQ := hL.out.hd.withQ hlW.out (.slice pc nc cc) (.slice pi ni ci) C I
      have hQsb : (sW.withQ (.slice pc nc cc) (.slice pi ni ci) C I).sb = sb := hsbW.out
      have hQnv : (sW.withQ (.slice pc nc cc) (.slice pi ni ci) C I).nv = s.nv := hnvW.out
      have hQv : (sW.withQ (.slice pc nc cc) (.slice pi ni ci) C I).val = s.val := by
        have e : sW.val = S.val := hL.out.ms.val
        show sW.val = s.val
        rw [e, hS.out]; rfl
      have hQt : (sW.withQ (.slice pc nc cc) (.slice pi ni ci) C I).trail = List.replicate s.us.length 0 := by
        have e : sW.trail = S.trail := hL.out.ms.trail
        show sW.trail = _
        rw [e, hS.out, ← hule.out]; rfl
      have hfinN : ∀ w, Tr s.row w0 (Sum.elim ((sW.withQ (.slice pc nc cc) (.slice pi ni ci) C I).trU s.us s.us.length).row s.left) w → NewPost s w0 (.returned (.pointer (some ⟨sb, 0, none⟩))) w := by
        intro w hw
        have e := newOk_of hF.out hule.out hnv0 hnv1 (by rw [← hS.out]; exact hL.out) hHQ hCl.out hIl.out hQI.out hmem.out hw
        rw [hsbW.out] at e; exact e
      have hT0 : Tr s.row w0 (Sum.elim ((sW.withQ (.slice pc nc cc) (.slice pi ni ci) C I).trU s.us 0).row s.left) w4 := by
        have e : (sW.withQ (.slice pc nc cc) (.slice pi ni ci) C I).trU s.us 0 = sW.withQ (.slice pc nc cc) (.slice pi ni ci) C I := by
          unfold St.trU
          rw [List.take_zero, List.nil_append, Nat.sub_zero, ← hQt]
        rw [e]
        exact (hT.out.trans hTW.out).trans hTQ'
      obtain ⟨sQ, hsQ⟩ : ∃ sQ, sQ = sW.withQ (.slice pc nc cc) (.slice pi ni ci) C I := ⟨_, rfl⟩
      rw [← hsQ] at hHQ hQsb hQnv hQv hQt hfinN hT0
      clear hsQ hTQ'
      have hus3 : ∀ w, (∃ i, Tr s.row w0 (Sum.elim (sQ.trU s.us i).row s.left) w) → w.cell? ⟨s.pb, 3, none⟩ = some (.slice pu ul cu) := by
        rintro w ⟨i, hw⟩
        have e := hw.rows.cell (.inr .pb) (b := s.pb) (j := 3) rfl (u := s.usV) rfl
        rw [hus.out, ← hule.out] at e; exact e
      have c3 := hus3 w4 ⟨0, hT0⟩
      replace hfinN := Lib.hid hfinN
      replace hT0 := Lib.hid hT0
      replace hHQ := Lib.hid hHQ
      replace hQsb := Lib.hid hQsb
      replace hQnv := Lib.hid hQnv
      replace hQv := Lib.hid hQv
      replace hQt := Lib.hid hQt
      clear hus3
      go_wp2_with fail
      clear c3
      go_loopw [98] (fun v98 wr => ∃ i : Nat, v98 = .int .i64 (i : Int) ∧ i ≤ ul ∧ Tr s.row w0 (Sum.elim (sQ.trU s.us i).row s.left) wr) (fun v98 _ => ul - (intOf v98).toNat)
      case atStart => exact ⟨0, rfl, Nat.zero_le _, hT0.out⟩
      case round =>
        clear hT0
        obtain ⟨i, rfl, hi, hX⟩ := hrel
        by_cases hlt : i < ul
        · have hltI : (i : Int) < (ul : Int) := by omega
          have hltu : i < s.us.length := by have := hule.out; omega
          obtain ⟨ub, uc, hub1, hub2, _, _⟩ := hX.rows.open (.inr .us) (by show 0 < s.us.length; omega)
          have hub1 : s.usV = .slice (some ⟨ub, 0, none⟩) s.us.length uc := hub1
          have hpu : pu = some ⟨ub, 0, none⟩ := by
            have e := hub1
            rw [hus.out] at e
            simp at e
            exact e.1
          subst hpu
          have cu : wr.cell? ⟨ub, i, none⟩ = some (.int .i32 (nth s.us i : Nat)) := hX.rows.cell (.inr .us) hub2 (getElem?_map_getD i32 s.us 0 i hltu)
          have hlen : (sQ.trU s.us i).trail.length = s.us.length := trU_len s.us i (by omega)
          obtain ⟨tb, tcap, htb1, htb2, _, _⟩ := hX.rows.open (.inl .trail) (by show 0 < (sQ.trU s.us i).trail.length; omega)
          have htb1 : sQ.trailV = .slice (some ⟨tb, 0, none⟩) (sQ.trU s.us i).trail.length tcap := htb1
          rw [hlen] at htb1
          have hun := hF.out.us _ (nth_mem s.us i hltu)
          have t1 : Tr (Sum.elim (sQ.trU s.us i).row s.left) wr (Sum.elim (sQ.trU s.us i).row s.left) (wr.setCell ⟨sQ.modelB, nth s.us i / 2, none⟩ (.int .i64 (sgn (nth s.us i) 1))) := Rows.valSame hX.rows (v := nth s.us i / 2) (x := sgn (nth s.us i) 1) (by
            have e : sQ.va (nth s.us i / 2) = s.va (nth s.us i / 2) := by unfold MS.va PSt.va; rw [hQv.out]
            exact e.trans hun.2)
          have t2 := Rows.trU t1.rows hltu htb1
          have hX2 := ((hX.trans t1).trans t2).drew
          have c15 : wr.cell? ⟨sb, 15, none⟩ = some (.slice (some ⟨sQ.modelB, 0, none⟩) s.nv s.nv) := by
            have e := hX.rows.cell (.inl .sol) (b := sb) (by rw [← hQsb.out]; rfl) hHQ.out.f15
            rw [hQnv.out] at e; exact e
          have hm14 : (wr.setCell ⟨sQ.modelB, nth s.us i / 2, none⟩ (.int .i64 (sgn (nth s.us i) 1))).cell? ⟨sb, 14, none⟩ = some (.slice (some ⟨tb, 0, none⟩) ul tcap) := by
            have e := t1.rows.cell (.inl .sol) (b := sb) (by rw [← hQsb.out]; rfl) hHQ.out.f14
            rw [htb1, ← hule.out] at e; exact e
          have hmv1 := hX.rows.cell (.inl .model) (b := sQ.modelB) rfl (getElem?_map_getD i64 sQ.val 0 (nth s.us i / 2) (by rw [hQv.out, hvl.out]; omega))
          have hmf := hX.rows.frozen (.inl .model) (b := sQ.modelB) rfl (nth s.us i / 2)
          have htl := t1.rows.cell (.inl .trail) (b := tb) htb2 (getElem?_map_getD i32 (sQ.trU s.us i).trail 0 i (by omega))
          have htf := t1.rows.frozen (.inl .trail) (b := tb) htb2 i
          obtain ⟨u, hu⟩ : ∃ u, u = nth s.us i := ⟨_, rfl⟩
          rw [← hu] at cu hun t1 hX2 hm14 hmv1 hmf htl htf
          generalize sQ.val.getD (u / 2) 0 = x at hmv1
          generalize (sQ.trU s.us i).trail.getD i 0 = y at htl
          generalize sQ.modelB = mB at c15 hX2 hm14 hmv1 hmf htl htf
          unfold i64 at hmv1
          unfold i32 at htl
          have hus : u < 2147483648 := by omega
          have k1 : (u : Int) / 2 < (s.nv : Int) := by omega
          have k2 : (0 : Int) ≤ (u : Int) / 2 := by omega
          have k3 : ((u : Int) / 2).toNat = u / 2 := by omega
          have hP := fun w => Pos_c u w hus
          replace hu := Lib.hid hu
          clear t1 t2 hub1 hub2 htb1 htb2 hX hlen hun
          by_cases hp : u % 2 = 0
          all_goals (first | rw [decide_eq_true hp] at hP | rw [decide_eq_false hp] at hP)
          all_goals
            have hsd : sgn u 1 = if u % 2 = 0 then 1 else -1 := rfl
            simp only [hp, if_true, if_false] at hsd
            rw [hsd] at hX2 hm14 htl htf
            replace hX2 := Lib.hid hX2
            clear hsd
            go_wp2_with (go_at_call 28; refine Calls.ret (hP _) ?_)
            refine wp_region_tail 7 (by kernel_rfl) (by kernel_rfl) ?_
            simp only [List.take_succ_cons, List.take_zero, List.drop_succ_cons, List.drop_zero]
            repeat still_step
            still_call (Var_c u _ hus)
            repeat still_step
            refine wpStill_nil ?_
            go_wp2_with fail
            exact ⟨⟨i + 1, by go_num, by omega, hX2.out⟩, by simp [intOf]; omega⟩
        · have hltI : ¬ ((i : Int) < (ul : Int)) := by omega
          have e : i = s.us.length := by have := hule.out; omega
          subst e
          replace hX := Lib.hid hX
          go_wp2_with fail
          go_ret
          exact hfinN.out _ hX.out
end Go.Proofs.YtiimddkopiknpaaGreatDoor
