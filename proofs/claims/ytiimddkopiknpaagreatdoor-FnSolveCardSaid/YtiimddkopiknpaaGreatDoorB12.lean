/-
  The rows of a new solver.
-/
import Derived.Test.YtiimddkopiknpaaGreatDoorB06
import Derived.Test.YtiimddkopiknpaaGreatDoorB01
import Derived.Test.YtiimddkopiknpaaGreatDoorB11
import Derived.Deep.MidRow
import Derived.Test.YtiimddkopiknpaaGreatDoorB04
import Derived.Handy
import Derived.Test.YtiimddkopiknpaaGreatDoorB05
set_option linter.unusedVariables false
set_option linter.unusedSimpArgs false

/-
  New: what the memory is when the solver's rows are made.
-/
namespace Go.Proofs.YtiimddkopiknpaaGreatDoor
open Go.RowKit

theorem own_at {w : World} {g n cap k : Nat} {e : TypeId} {cur : Array Value} {xs : List Value} (hg : w.heap[g]? = some (.cells cur e)) (h1 : n ≤ cap) (h2 : cap ≤ maxLen) (hs : cur.size = cap * k) (hx : cur.toList.take (n * k) = xs) :
    w.ownsRow 0 e k (.slice (some ⟨g, 0, none⟩) n cap) n xs := by
  have : n * k ≤ cap * k := Nat.mul_le_mul_right k h1
  refine ⟨by rw [← hx, List.length_take, Array.length_toList]; omega, .inr ⟨g, cap, cur, rfl, Nat.zero_le _, hg, h1, h2, hs, hx⟩⟩

/-- old rows under other names, beside rows in new blocks -/
theorem rows_of {ι ι' : Type} {ρ : ι → Row} {ρ' : ι' → Row} {w w' : World} (h : Rows ρ w) (hos : w'.os = w.os) (htp : w'.tape = w.tape) (hop : w'.output = w.output) (hs : w.heap.size ≤ w'.heap.size) (hold : ∀ k, k < w.heap.size → w'.heap[k]? = w.heap[k]?)
    (f : ι' → Option ι) (hf : ∀ r' r, f r' = some r → ρ' r' = ρ r) (hn : ∀ r', f r' = none → w'.ownsRow 0 (ρ' r').e (ρ' r').k (ρ' r').v (ρ' r').n (ρ' r').xs ∧ ∀ b, (ρ' r').v.ownBlock = some b → w.heap.size ≤ b)
    (hi : ∀ r1 r2 r, f r1 = some r → f r2 = some r → r1 = r2) (hj : ∀ r1 r2 b, f r1 = none → f r2 = none → (ρ' r1).v.ownBlock = some b → (ρ' r2).v.ownBlock = some b → r1 = r2) : Tr ρ w ρ' w' := by
  have hlt : ∀ r b, (ρ r).v.ownBlock = some b → b < w.heap.size := fun r b hb => h.lt ⟨r, hb⟩
  refine ⟨⟨fun r' => ?_, ?_⟩, ⟨hos, htp, hop, hs, fun k hk _ => hold k hk⟩, ?_⟩
  · cases e : f r' with
    | none => exact (hn r' e).1
    | some r => rw [hf r' r e]; exact ownsRow_of_block (h.own r) fun b hb => hold b (hlt r b hb)
  · intro r1 r2 b h1 h2
    cases e1 : f r1 with
    | none =>
      cases e2 : f r2 with
      | none => exact hj r1 r2 b e1 e2 h1 h2
      | some s2 =>
        have a1 := (hn r1 e1).2 b h1
        rw [hf _ _ e2] at h2
        have := hlt s2 b h2; omega
    | some s1 =>
      rw [hf _ _ e1] at h1
      cases e2 : f r2 with
      | none =>
        have a1 := (hn r2 e2).2 b h2
        have := hlt s1 b h1; omega
      | some s2 =>
        rw [hf _ _ e2] at h2
        have := h.inj s1 s2 b h1 h2
        subst this
        exact hi r1 r2 s1 e1 e2
  · rintro b ⟨r', hr'⟩
    cases e : f r' with
    | none => exact .inr ((hn r' e).2 b hr')
    | some r => rw [hf _ _ e] at hr'; exact .inl ⟨r, hr'⟩

inductive PK where
  | pb | cs | us
def PSt.left (p : PSt) : PK → Row
  | .pb => p.row .pb
  | .cs => p.row .cs
  | .us => p.row .us
/-- the solver's rows before the watch lists are made -/
def St.pre (s : St) : Role → Row
  | .wbH => .nil 105 1
  | .wlH => .nil 105 1
  | .pbH => .nil 52 1
  | .amoH => .nil 52 1
  | .orig => .nil 92 1
  | r => s.row r
def solN (p : PSt) (C : List Value) (ul tc mb : Nat) (b : Nat → Nat) : St :=
  { nv := p.nv, val := p.val, trail := List.replicate ul 0, rsn := List.replicate p.nv none, lits := p.lits, word := fun _ => 0, ids := p.cs, wb := fun _ => [], wl := fun _ => [], orig := [], lrn := [],
    sb := b 42, sc := C, modelB := mb, actB := b 17, polB := b 19, assB := b 21, rsnB := b 23, wbHB := 0, wlHB := 0, pbHB := 0, amoHB := 0, tbufB := b 36,
    trailV := .slice (some ⟨b 11, 0, none⟩) ul tc, origV := .slice none 0 0, lrnV := .slice none 0 0, qcV := .slice none 0 0, qiV := .slice none 0 0, wbV := fun _ => .slice none 0 0, wlV := fun _ => .slice none 0 0,
    litV := p.litV, actC := fun _ => .float .f32 0, actL := List.replicate p.nv (.float .f64 0), polL := List.replicate p.nv false, tbuf := List.replicate p.nv (.int .i64 0), qc := [], qi := [],
    status := p.st, nbMax := 0, idx := 0, nconf := 0, lbdN := 0, lbdP := 0, tdN := 0, tdP := 0 }

/-- what region 7 makes -/
structure Made7 (nv ul tc : Nat) (C : List Value) (b : Nat → Nat) (w0 w : World) : Prop where
  os : w.os = w0.os
  tape : w.tape = w0.tape
  output : w.output = w0.output
  size : w0.heap.size ≤ w.heap.size
  old : ∀ k, k < w0.heap.size → w.heap[k]? = w0.heap[k]?
  ge : ∀ i ∈ [11, 17, 19, 21, 23, 36, 42], w0.heap.size ≤ b i
  inj : ∀ i ∈ [11, 17, 19, 21, 23, 36, 42], ∀ j ∈ [11, 17, 19, 21, 23, 36, 42], b i = b j → i = j
  b11 : w.heap[b 11]? = some (.cells (Array.replicate tc (.int .i32 0)) 82)
  b17 : w.heap[b 17]? = some (.cells (Array.replicate nv (.float .f64 0)) 66)
  b19 : w.heap[b 19]? = some (.cells (Array.replicate nv (.bool false)) 4)
  b21 : w.heap[b 21]? = some (.cells (Array.replicate nv (.bool false)) 4)
  b23 : w.heap[b 23]? = some (.cells (Array.replicate nv (.pointer none)) 92)
  b36 : w.heap[b 36]? = some (.cells (Array.replicate nv (.int .i64 0)) 3)
  b42 : w.heap[b 42]? = some (.cells C.toArray 77)

def fN (p : PSt) : Role ⊕ PK → Option PRole
  | .inl .model => some .mod
  | .inl (.cl c) => if c ∈ p.cs then some (.cl c) else none
  | .inl (.li c) => if c ∈ p.cs then some (.li c) else none
  | .inl _ => none
  | .inr .pb => some .pb
  | .inr .cs => some .cs
  | .inr .us => some .us
def gN : Role ⊕ PK → Option Nat
  | .inl .sol => some 42
  | .inl .trail => some 11
  | .inl .act => some 17
  | .inl .pol => some 19
  | .inl .ass => some 21
  | .inl .rsn => some 23
  | .inl .tbuf => some 36
  | _ => none
theorem gN_mem {r : Role ⊕ PK} {i : Nat} (h : gN r = some i) : i ∈ [11, 17, 19, 21, 23, 36, 42] := by
  unfold gN at h
  split at h <;> cases h <;> simp
theorem gN_inj {r1 r2 : Role ⊕ PK} {i : Nat} (h1 : gN r1 = some i) (h2 : gN r2 = some i) : r1 = r2 := by
  unfold gN at h1
  split at h1 <;> cases h1 <;> (unfold gN at h2; split at h2 <;> first | rfl | simp at h2)
theorem own_slice {b n c : Nat} : (Value.slice (some ⟨b, 0, none⟩) n c).ownBlock = some b := rfl

theorem solN_tr {p : PSt} {C : List Value} {ul tc mb : Nat} {b : Nat → Nat} {w0 w : World} (h : Rows p.row w0) (hM : Made7 p.nv ul tc C b w0 w) (hC : C.length = 5102) (hmem : ∀ c ∈ p.cs, c ∈ p.ids) (hvl : p.val.length = p.nv) (hmv : p.mV = slV mb p.nv)
    (hnv : p.nv ≤ 1000000) (htc : ul ≤ tc) (htc2 : tc ≤ 1000000) : Tr p.row w0 (Sum.elim (solN p C ul tc mb b).pre p.left) w := by
  have hmx : 1000000 ≤ maxLen := by unfold maxLen; omega
  have hnone : ∀ r, fN p r = none → (Sum.elim (solN p C ul tc mb b).pre p.left r).v.ownBlock = (gN r).map b := by
    intro r hr
    rcases r with r | r
    · cases r
      case cl c =>
        have hc : c ∉ p.cs := by intro hc; simp [fN, hc] at hr
        simp [St.pre, St.row, solN, hc, gN, Row.nil, Value.ownBlock]
      case li c =>
        have hc : c ∉ p.cs := by intro hc; simp [fN, hc] at hr
        simp [St.pre, St.row, solN, hc, gN, Row.nil, Value.ownBlock]
      case wb l => simp only [Sum.elim_inl, St.pre, St.row, solN]; split <;> rfl
      case wl l => simp only [Sum.elim_inl, St.pre, St.row, solN]; split <;> rfl
      case model => cases hr
      all_goals rfl
    · cases r <;> cases hr
  refine rows_of h hM.os hM.tape hM.output hM.size hM.old (fN p) ?_ ?_ ?_ ?_
  · intro r' r hr
    rcases r' with r' | r'
    · cases r' <;> first | (cases hr; done) | skip
      case model => cases hr; simp [St.pre, St.row, solN, PSt.row, hmv, hvl]
      case cl c =>
        by_cases hc : c ∈ p.cs
        · simp only [fN, hc, if_true] at hr
          cases hr
          simp [St.pre, St.row, solN, PSt.row, hc, hmem c hc]
        · simp [fN, hc] at hr
      case li c =>
        by_cases hc : c ∈ p.cs
        · simp only [fN, hc, if_true] at hr
          cases hr
          simp [St.pre, St.row, solN, PSt.row, hc, hmem c hc]
        · simp [fN, hc] at hr
    · cases r' <;> (cases hr; rfl)
  · intro r hr
    refine ⟨?_, fun b' hb => ?_⟩
    · rcases r with r | r
      · cases r
        case sol => exact own_at (k := 5102) hM.b42 (Nat.le_refl 1) (by omega) (by simp [hC]) (by simp [solN, Row.one, St.pre, St.row, ← hC])
        case trail =>
          have := own_at (k := 1) (n := ul) hM.b11 htc (by omega) (by simp) rfl
          simpa [St.pre, St.row, solN, i32, Nat.min_eq_left htc] using this
        case act =>
          have := own_at (k := 1) (n := p.nv) hM.b17 (Nat.le_refl _) (by omega) (by simp) rfl
          simpa [St.pre, St.row, solN, slV] using this
        case pol =>
          have := own_at (k := 1) (n := p.nv) hM.b19 (Nat.le_refl _) (by omega) (by simp) rfl
          simpa [St.pre, St.row, solN, slV] using this
        case ass =>
          have := own_at (k := 1) (n := p.nv) hM.b21 (Nat.le_refl _) (by omega) (by simp) rfl
          simpa [St.pre, St.row, solN, slV] using this
        case rsn =>
          have := own_at (k := 1) (n := p.nv) hM.b23 (Nat.le_refl _) (by omega) (by simp) rfl
          simpa [St.pre, St.row, solN, slV, ptrV] using this
        case tbuf =>
          have := own_at (k := 1) (n := p.nv) hM.b36 (Nat.le_refl _) (by omega) (by simp) rfl
          simpa [St.pre, St.row, solN, slV] using this
        case model => cases hr
        case cl c =>
          have hc : c ∉ p.cs := by intro hc; simp [fN, hc] at hr
          simp only [Sum.elim_inl, St.pre, St.row, solN, hc, if_false]
          exact World.ownsRow_nil _ _ _ _
        case li c =>
          have hc : c ∉ p.cs := by intro hc; simp [fN, hc] at hr
          simp only [Sum.elim_inl, St.pre, St.row, solN, hc, if_false]
          exact World.ownsRow_nil _ _ _ _
        case wb l => simp only [Sum.elim_inl, St.pre, St.row, solN]; split <;> exact World.ownsRow_nil _ _ _ _
        case wl l => simp only [Sum.elim_inl, St.pre, St.row, solN]; split <;> exact World.ownsRow_nil _ _ _ _
        all_goals exact World.ownsRow_nil _ _ _ _
      · cases r <;> cases hr
    · rw [hnone r hr] at hb
      cases e : gN r with
      | none => rw [e] at hb; cases hb
      | some i => rw [e] at hb; cases hb; exact hM.ge i (gN_mem e)
  · intro r1 r2 r h1 h2
    have key : ∀ r1 r, fN p r1 = some r → r1 = (match r with | .mod => .inl .model | .cl c => .inl (.cl c) | .li c => .inl (.li c) | .pb => .inr .pb | .cs => .inr .cs | .us => .inr .us : Role ⊕ PK) := by
      intro r1 r h1
      rcases r1 with r1 | r1
      · cases r1 <;> first | (cases h1; done) | (cases h1; rfl; done) | skip
        case cl c => by_cases hc : c ∈ p.cs <;> simp only [fN, hc, if_true, if_false] at h1 <;> cases h1; rfl
        case li c => by_cases hc : c ∈ p.cs <;> simp only [fN, hc, if_true, if_false] at h1 <;> cases h1; rfl
      · cases r1 <;> (cases h1; rfl)
    rw [key r1 r h1, key r2 r h2]
  · intro r1 r2 b' h1 h2 e1 e2
    rw [hnone r1 h1] at e1
    rw [hnone r2 h2] at e2
    cases g1 : gN r1 with
    | none => rw [g1] at e1; cases e1
    | some i =>
      cases g2 : gN r2 with
      | none => rw [g2] at e2; cases e2
      | some j =>
        rw [g1] at e1; rw [g2] at e2
        have : b i = b j := by
          have e1 : b i = b' := by simpa using e1
          have e2 : b j = b' := by simpa using e2
          rw [e1, e2]
        have hij := hM.inj i (gN_mem g1) j (gN_mem g2) this
        subst hij
        exact gN_inj g1 g2
end Go.Proofs.YtiimddkopiknpaaGreatDoor

/-
  Stores of more than one cell; New's small callees.
-/
namespace Go.Proofs.YtiimddkopiknpaaGreatDoor
open Go.RowKit

def setsL : List Value → Nat → List Value → List Value
  | L, _, [] => L
  | L, o, v :: r => setsL (L.set o v) (o + 1) r
theorem setsL_len (vs : List Value) : ∀ (L : List Value) (o : Nat), (setsL L o vs).length = L.length := by
  induction vs with
  | nil => intro L o; rfl
  | cons v r ih => intro L o; rw [setsL, ih, List.length_set]
theorem setsL_out (vs : List Value) : ∀ (L : List Value) (o j : Nat), (j < o ∨ o + vs.length ≤ j) → (setsL L o vs)[j]? = L[j]? := by
  induction vs with
  | nil => intro L o j _; rfl
  | cons v r ih =>
    intro L o j hj
    simp only [List.length_cons] at hj
    rw [setsL, ih _ _ _ (by omega), List.getElem?_set, if_neg (by omega)]
theorem setsL_in (vs : List Value) : ∀ (L : List Value) (o i : Nat), o + vs.length ≤ L.length → i < vs.length → (setsL L o vs)[o + i]? = vs[i]? := by
  induction vs with
  | nil => intro L o i _ hi; simp at hi
  | cons v r ih =>
    intro L o i hl hi
    simp only [List.length_cons] at hl hi
    rw [setsL]
    cases i with
    | zero => rw [setsL_out _ _ _ _ (by omega), List.getElem?_set, if_pos (by omega), if_pos (by omega)]; rfl
    | succ i =>
      have := ih (L.set o v) (o + 1) i (by rw [List.length_set]; omega) (by omega)
      rw [show o + (i + 1) = o + 1 + i by omega, this]; rfl
open Classical in
theorem Rows.sets {ι : Type} (r : ι) {b : Nat} (vs : List Value) : ∀ {ρ ρ' : ι → Row} {w : World} (_ : Rows ρ w) (_ : (ρ r).v.ownBlock = some b) (o : Nat) (_ : ρ' r = { ρ r with xs := setsL (ρ r).xs o vs }) (_ : ∀ r', r' ≠ r → ρ' r' = ρ r'), Tr ρ w ρ' (w.setCells b o vs) := by
  induction vs with
  | nil =>
    intro ρ ρ' w h hb o hr hne
    have : ρ' = ρ := by
      funext r'
      by_cases e : r' = r
      · subst e; rw [hr]; rfl
      · exact hne r' e
    rw [this]; exact Tr.refl h
  | cons v vs ih =>
    intro ρ ρ' w h hb o hr hne
    have t1 := h.set (ρ' := fun r' => if r' = r then { ρ r with xs := (ρ r).xs.set o v } else ρ r') r hb o v (by simp) (fun r' hr' => by simp [hr'])
    refine t1.trans (ih t1.rows (by simpa using hb) (o + 1) ?_ ?_)
    · rw [hr]; simp [setsL]
    · intro r' hr'; rw [hne r' hr']; simp [hr']
theorem Rows.there {ι : Type} {ρ : ι → Row} {w : World} (h : Rows ρ w) (r : ι) {b : Nat} (hb : (ρ r).v.ownBlock = some b) {o n : Nat} (hle : o + n ≤ (ρ r).xs.length) : w.there b o n :=
  fun j hj => ⟨by rw [h.cell r hb (List.getElem?_eq_getElem (show o + j < (ρ r).xs.length by omega))]; rfl, h.frozen r hb _⟩

set_option maxRecDepth 100000 in
theorem resetOpt_c {sb : Nat} {w : World} (h : w.cell? ⟨sb, 5094, none⟩ = some (.slice none 0 0)) : Calls Tryz.prog 24 #[.pointer (some ⟨sb, 0, none⟩)] w fun e w' => e = .returned (.tuple #[]) ∧ w' = w := by
  go_enter Tryz.func24, Tryz.ntmps24
  go_wp2_with fail
  go_end0
  exact ⟨rfl, rfl⟩
set_option maxRecDepth 100000 in
theorem initAct_c {sb : Nat} {w : World} (h : w.cell? ⟨sb, 5094, none⟩ = some (.slice none 0 0)) : Calls Tryz.prog 25 #[.pointer (some ⟨sb, 0, none⟩)] w fun e w' => e = .returned (.tuple #[]) ∧ w' = w := by
  go_enter Tryz.func25, Tryz.ntmps25
  go_wp2_with fail
  go_loopw [10] (fun v10 wr => v10 = .int .i64 0 ∧ wr = w) (fun _ _ => 0)
  case atStart => exact ⟨rfl, rfl⟩
  case round =>
    obtain ⟨rfl, rfl⟩ := hrel
    go_wp2_with fail
    go_end0
    exact ⟨rfl, rfl⟩

theorem build_wl (b1 b2 b3 b4 ob m n : Nat) (w : World) : (Instr.build 61 #[(0, .int .i64 2000), (1, .int .i64 1), (2, slV b1 m), (3, slV b2 m), (4, slV b3 m), (5, slV b4 m), (6, slV ob n)]).run Tryz.prog w =
    .ok (.agg #[.int .i64 2000, .int .i64 1, slV b1 m, slV b2 m, slV b3 m, slV b4 m, slV ob n, .slice none 0 0]) w := by kernel_rfl
theorem infoWss : (Tryz.prog.info? 105).map (fun i => (i.zero, i.size, i.bytes)) = some (some (.slice none 0 0), 1, 24) := by kernel_rfl
theorem infoCss : (Tryz.prog.info? 52).map (fun i => (i.zero, i.size, i.bytes)) = some (some (.slice none 0 0), 1, 24) := by kernel_rfl
theorem sizeWl : (Tryz.prog.info? 61).map (·.size) = some 8 := by kernel_rfl
theorem sizeQu : (Tryz.prog.info? 65).map (·.size) = some 3 := by kernel_rfl
end Go.Proofs.YtiimddkopiknpaaGreatDoor

/-
  luby(1); newQueue.
-/
namespace Go.Proofs.YtiimddkopiknpaaGreatDoor
open Go.RowKit

set_option maxRecDepth 100000 in
set_option maxHeartbeats 4000000 in
theorem luby_c (w : World) : Calls Tryz.prog 23 #[.int .u64 1] w fun e w' => e = .returned (.int .u64 1) ∧ w' = w := by
  go_enter Tryz.func23, Tryz.ntmps23
  go_wp2_with fail
  go_loopw [3] (fun v3 wr => v3 = .int .i64 1 ∧ wr = w) (fun _ _ => 0)
  case atStart => exact ⟨rfl, rfl⟩
  case round =>
    obtain ⟨rfl, rfl⟩ := hrel
    go_wp2_with fail
    go_ret
    exact ⟨rfl, rfl⟩

inductive NQ where
  | q | c | i
def nqNil : NQ → Row
  | .q => .nil 65 3
  | .c => .nil 3 1
  | .i => .nil 3 1
theorem nqNil_v (r : NQ) : (nqNil r).v.ownBlock = none := by cases r <;> rfl
theorem Rows.nqNil {ι : Type} {ρ : ι → Row} {w : World} (h : Rows ρ w) : Rows (Sum.elim ρ nqNil) w := by
  refine ⟨fun r => ?_, fun r r' b h1 h2 => ?_⟩
  · cases r with
    | inl r => exact h.own r
    | inr r => cases r <;> exact World.ownsRow_nil _ _ _ _
  · cases r with
    | inr r => simp only [Sum.elim_inr, nqNil_v] at h1; cases h1
    | inl r => cases r' with
      | inr r => simp only [Sum.elim_inr, nqNil_v] at h2; cases h2
      | inl r' => rw [h.inj r r' b h1 h2]
def nqQ (qb : Nat) (V : Value) : NQ → Row
  | .q => .one 65 3 qb [V, .slice none 0 0, .slice none 0 0]
  | r => nqNil r
def NQRel {ι : Type} (ρ : ι → Row) (w1 : World) (ra : ι) (qb aB n : Nat) (v10 : Value) (wr : World) : Prop :=
  ∃ (k : Nat) (ρ1 : ι ⊕ NQ → Row) (C : List Nat) (I : List Int), v10 = .int .i64 (k : Int) ∧ k ≤ n ∧ C.length = k ∧ I.length = k ∧ QRow ρ1 (.inr .q) (.inr .c) (.inr .i) (.inl ra) qb 0 aB n C I ∧ QI n C I ∧ C.Perm (List.range k) ∧
    Tr (Sum.elim ρ nqNil) w1 ρ1 wr ∧ ∀ r, ρ1 (.inl r) = ρ r
def NQPost {ι : Type} (ρ : ι → Row) (w0 : World) (ra : ι) (aB n : Nat) (e : Ending) (wr : World) : Prop :=
  ∃ (ρ1 : ι ⊕ NQ → Row) (C : List Nat) (I : List Int) (qb : Nat), e = .returned (.agg #[slV aB n, (ρ1 (.inr .c)).v, (ρ1 (.inr .i)).v]) ∧ C.length = n ∧ I.length = n ∧ QRow ρ1 (.inr .q) (.inr .c) (.inr .i) (.inl ra) qb 0 aB n C I ∧ QI n C I ∧ C.Perm (List.range n) ∧
    Tr (Sum.elim ρ nqNil) w0 ρ1 wr ∧ ∀ r, ρ1 (.inl r) = ρ r

set_option maxRecDepth 100000 in
set_option maxHeartbeats 8000000 in
theorem newQ_c {ι : Type} {ρ : ι → Row} {w0 : World} {ra : ι} {aB n : Nat} {L : List Value} (h : Rows ρ w0) (ha : ρ ra = ⟨66, 1, slV aB n, n, L⟩) (hL : ∀ x ∈ L, isF64 x) (hn : n ≤ 1000000) :
    Calls Tryz.prog 27 #[.slice (some ⟨aB, 0, none⟩) n n] w0 (NQPost ρ w0 ra aB n) := by
  have hX0 := Tr.refl h.nqNil
  replace hX0 := Lib.hid hX0
  go_enter Tryz.func27, Tryz.ntmps27
  go_upto_region 2 with fail
  obtain ⟨rb, hrb⟩ : ∃ rb, rb = w0.heap.size := ⟨_, rfl⟩
  obtain ⟨wA, hwA⟩ : ∃ wA, wA = w0.alloc (.cells #[.slice none 0 0, .slice none 0 0, .slice none 0 0] 65) := ⟨_, rfl⟩
  have hwAs : wA.heap.size = rb + 1 := by rw [hwA, hrb]; simp
  have hXA : Tr (Sum.elim ρ nqNil) w0 (Sum.elim ρ nqNil) wA := by rw [hwA]; exact hX0.out.alloc _
  have hX1 : Tr (Sum.elim ρ nqNil) wA (Sum.elim ρ (nqQ (rb + 1) (slV aB n))) (wA.alloc (.cells #[slV aB n, .slice none 0 0, .slice none 0 0] 65)) :=
    hXA.rows.make (v' := .slice (some ⟨wA.heap.size, 0, none⟩) 1 1) (.inr .q) _ (own_box wA 65 [slV aB n, .slice none 0 0, .slice none 0 0]) rfl (by rw [hwAs]; rfl) (fun r hr => by
      cases r with
      | inl r => rfl
      | inr r => cases r <;> first | rfl | contradiction)
  have hrbn : ¬ Own (Sum.elim ρ nqNil) rb := fun ho => by have := hX0.out.rows.lt ho; omega
  have hrc : ∀ j, j < 3 → wA.cell? ⟨rb, j, none⟩ = some (.slice none 0 0) := by
    intro j hj
    rw [hwA, World.cell?_alloc_at (w := w0) _ _ rb j hrb]
    have : j = 0 ∨ j = 1 ∨ j = 2 := by omega
    rcases this with rfl | rfl | rfl <;> rfl
  have hrf : ∀ j, wA.frozen? ⟨rb, j, none⟩ = false := by
    intro j
    rw [hwA]
    simp [hrb]
  have hU : Rows (fun _ : Unit => Row.one 65 3 rb [.slice none 0 0, .slice none 0 0, .slice none 0 0]) wA := by
    refine ⟨fun _ => ?_, fun _ _ _ _ _ => rfl⟩
    rw [hwA, hrb]
    exact own_box w0 65 [.slice none 0 0, .slice none 0 0, .slice none 0 0]
  replace hU := Lib.hid hU
  rw [← hwA]
  have e2 : w0.heap.size + 1 = rb + 1 := by rw [hrb]
  rw [e2, ← hrb]
  obtain ⟨wB, hwB⟩ : ∃ wB, wB = wA.alloc (.cells #[.slice (some ⟨aB, 0, none⟩) n n, .slice none 0 0, .slice none 0 0] 65) := ⟨_, rfl⟩
  have hX1 : Tr (Sum.elim ρ nqNil) wA (Sum.elim ρ (nqQ (rb + 1) (slV aB n))) wB := by rw [hwB]; exact hX1
  rw [← hwB]
  have hQ1 : QRow (Sum.elim ρ (nqQ (rb + 1) (slV aB n))) (.inr .q) (.inr .c) (.inr .i) (.inl ra) (rb + 1) 0 aB n [] [] :=
    ⟨rfl, rfl, rfl, rfl, ⟨_, rfl⟩, ⟨_, rfl⟩, ⟨L, ha, hL⟩, by simp, by simp, by simp, by simp, by simp, by simp⟩
  have hf0 := hX1.rows.cell (.inr .q) (b := rb + 1) rfl (show (Sum.elim ρ (nqQ (rb + 1) (slV aB n)) (.inr .q)).xs[0]? = some (slV aB n) from rfl)
  unfold slV at hf0
  replace hX1 := Lib.hid hX1
  replace hQ1 := Lib.hid hQ1
  replace hXA := Lib.hid hXA
  replace hrbn := Lib.hid hrbn
  replace hrc := Lib.hid hrc
  replace hrf := Lib.hid hrf
  replace hwAs := Lib.hid hwAs
  replace hrb := Lib.hid hrb
  clear hwA hwB e2
  go_wp2_with fail
  clear hf0
  go_loopw [10] (fun v10 wr => NQRel ρ wA ra (rb + 1) aB n v10 wr) (fun v10 _ => n - (intOf v10).toNat)
  case atStart =>
    refine ⟨0, _, [], [], rfl, Nat.zero_le _, rfl, rfl, hQ1.out, ⟨fun i hi => by simp at hi, fun v hv => by simp at hv⟩, .refl _, hX1.out, fun _ => rfl⟩
  case round =>
    clear hX1 hQ1
    obtain ⟨k, ρ1, C, I, rfl, hkn, hCl, hIl, hQ, hQI, hmem, hT, hρ⟩ := hrel
    by_cases hlt : k < n
    · have hkI : (k : Int) < (n : Int) := by omega
      have hins := insert_c hQ hT.rows hQI (v := k) hlt (by omega) (by omega) (by omega)
      replace hins := Lib.hid hins
      replace hQ := Lib.hid hQ
      replace hQI := Lib.hid hQI
      replace hmem := Lib.hid hmem
      replace hT := Lib.hid hT
      replace hρ := Lib.hid hρ
      replace hCl := Lib.hid hCl
      replace hIl := Lib.hid hIl
      go_wp2_with (go_at_call 38; refine hins.out.mono ?_; rintro e w2 ⟨rfl, hp⟩; replace hp := Lib.hid hp)
      obtain ⟨ρ2, C2, I2, z1, z2, z3, z4, z5, z6, z7, z8⟩ := hp.out
      refine ⟨⟨k + 1, ρ2, C2, I2, by go_num, by omega, by rw [z1, hCl.out], by rw [z2, hIl.out]; omega, z3, z4, by rw [List.range_succ]; exact z5.trans (hmem.out.append_right _), hT.out.trans z6, fun r => ?_⟩, by simp [intOf]; omega⟩
      rw [z8 (.inl r) (by simp) (by simp) (by simp)]; exact hρ.out r
    · have hkI : ¬ ((k : Int) < (n : Int)) := by omega
      have e : k = n := by omega
      subst e
      have hrbl : rb < wA.heap.size := by have := hwAs.out; omega
      have c0 := (hT.fr.cell (o := 0) hrbl hrbn.out).trans (hrc.out 0 (by omega))
      have c1 := (hT.fr.cell (o := 1) hrbl hrbn.out).trans (hrc.out 1 (by omega))
      have c2 := (hT.fr.cell (o := 2) hrbl hrbn.out).trans (hrc.out 2 (by omega))
      have hno : ¬ Own ρ1 rb := fun ho => by
        rcases hT.own rb ho with h' | h'
        · exact hrbn.out h'
        · omega
      have d0 := hT.rows.cell (.inr .q) hQ.qb hQ.q0
      have d1 := hT.rows.cell (.inr .q) hQ.qb hQ.q1
      have d2 := hT.rows.cell (.inr .q) hQ.qb hQ.q2
      have r0 := (hT.fr.frozen (o := 0) hrbl hrbn.out).trans (hrf.out 0)
      have r1 := (hT.fr.frozen (o := 1) hrbl hrbn.out).trans (hrf.out 1)
      have r2 := (hT.fr.frozen (o := 2) hrbl hrbn.out).trans (hrf.out 2)
      have hT2 := hXA.out.trans hT
      have hrb0 : w0.heap.size ≤ rb := by rw [hrb.out]; exact Nat.le_refl _
      have s0 := hT2.setOther ⟨rb, 0, none⟩ (slV aB k) hno hrb0
      have s1 := s0.setOther ⟨rb, 1, none⟩ (ρ1 (.inr .c)).v hno hrb0
      have s2 := s1.setOther ⟨rb, 2, none⟩ (ρ1 (.inr .i)).v hno hrb0
      obtain ⟨pc, cc, hpc⟩ := hT.rows.shape (.inr .c)
      obtain ⟨pi, ci, hpi⟩ := hT.rows.shape (.inr .i)
      have hU0 : Rows (fun _ : Unit => Row.one 65 3 rb [.slice none 0 0, .slice none 0 0, .slice none 0 0]) wr := by
        refine ⟨fun _ => ownsRow_of_block (w := wA) (hU.out.own ()) (fun b hb => ?_), fun _ _ _ _ _ => rfl⟩
        have : b = rb := by
          have hb : some rb = some b := hb
          simpa using hb.symm
        rw [this]
        exact hT.fr.block rb hrbl hrbn.out
      have hU1 := (hU0.set (ρ' := fun _ => Row.one 65 3 rb [slV aB k, .slice none 0 0, .slice none 0 0]) () (b := rb) rfl 0 (slV aB k) rfl (fun r h => (h rfl).elim)).rows
      have hU2 := (hU1.set (ρ' := fun _ => Row.one 65 3 rb [slV aB k, (ρ1 (.inr .c)).v, .slice none 0 0]) () (b := rb) rfl 1 (ρ1 (.inr .c)).v rfl (fun r h => (h rfl).elim)).rows
      have hU3 := (hU2.set (ρ' := fun _ => Row.one 65 3 rb [slV aB k, (ρ1 (.inr .c)).v, (ρ1 (.inr .i)).v]) () (b := rb) rfl 2 (ρ1 (.inr .i)).v rfl (fun r h => (h rfl).elim)).rows
      have y0 := hU3.cell () (b := rb) rfl (j := 0) rfl
      have y1 := hU3.cell () (b := rb) rfl (j := 1) rfl
      have y2 := hU3.cell () (b := rb) rfl (j := 2) rfl
      have hfin : ∀ w', Tr (Sum.elim ρ nqNil) w0 ρ1 w' → NQPost ρ w0 ra aB k (.returned (.agg #[slV aB k, (ρ1 (.inr .c)).v, (ρ1 (.inr .i)).v])) w' := fun w' ht => ⟨ρ1, C, I, rb + 1, rfl, hCl, hIl, hQ, hQI, hmem, ht, hρ⟩
      have hfin := hfin _ s2
      rw [hpc, hpi] at hfin y0 y1 y2
      rw [hpc] at d1
      rw [hpi] at d2
      generalize (ρ1 (.inr .c)).n = nc at *
      generalize (ρ1 (.inr .i)).n = ni at *
      unfold slV at hfin y0 y1 y2
      obtain ⟨w9, hw9⟩ : ∃ w9, w9 = (((wr.setCell ⟨rb, 0, none⟩ (.slice (some ⟨aB, 0, none⟩) k k)).setCell ⟨rb, 1, none⟩ (.slice pc nc cc)).setCell ⟨rb, 2, none⟩ (.slice pi ni ci)) := ⟨_, rfl⟩
      rw [← hw9] at hfin y0 y1 y2
      replace hw9 := Lib.hid hw9
      replace hfin := Lib.hid hfin
      unfold slV at d0
      simp only [Nat.zero_add] at d0 d1 d2
      clear hU0 hU1 hU2 hU3
      clear hQ hQI hmem hT hρ hCl hIl s0 s1 s2 hT2 hpc hpi hno
      go_wp2_with fail
      rw [← hw9.out]
      refine bodyPost_ret (by simp [results, Tryz.results27, go_sem, y0, y1, y2]; try rfl) rfl ?_
      exact hfin.out
end Go.Proofs.YtiimddkopiknpaaGreatDoor

/-
  initWatcherList: the watch lists are made, and each clause is watched.
-/
namespace Go.Proofs.YtiimddkopiknpaaGreatDoor
open Go.RowKit

theorem infoCp3 : (Tryz.prog.info? 92).map (fun i => (i.zero, i.size, i.bytes)) = some (some (.pointer none), 1, 8) := by kernel_rfl
theorem quiet_build {P : Program} {a : Act} {o : Oper} {t : TypeId} {parts : Array (Nat × Operand)} {L : Array (Nat × Value)} {w : World} {V V' : Value} (ho : o.op = .build t parts) (hL : (parts.map fun (i, x) => (i, a.eval x)) = L)
    (hb : (Instr.build t L).run P w = .ok V' w) (hV : V' = V) : Oper.quietUpon P (fun w'' => w'' = w) w V ((execOp a.eval o).run P w) := by
  subst hV hL
  unfold execOp
  simp only [ho, Sem.run_bind, hb, Result.andThen_ok, Sem.run_pure]
  exact ⟨rfl, rfl⟩

def val3 (sb nv ob n : Nat) (b : Nat → Nat) : Nat → Value
  | 0 => .pointer (some ⟨sb, 0, none⟩)
  | 1 => .int .i64 2000
  | 2 => .pointer (some ⟨sb, 0, none⟩)
  | 3 => .pointer (some ⟨sb, 0, none⟩)
  | 4 => .pointer (some ⟨sb, 4, none⟩)
  | 5 => .int .i64 (nv : Int)
  | 6 => .int .i64 ((nv * 2 : Nat) : Int)
  | 7 => slV (b 7) (nv * 2)
  | 8 => .pointer (some ⟨sb, 0, none⟩)
  | 9 => .pointer (some ⟨sb, 0, none⟩)
  | 10 => .pointer (some ⟨sb, 4, none⟩)
  | 11 => .int .i64 (nv : Int)
  | 12 => .int .i64 ((nv * 2 : Nat) : Int)
  | 13 => slV (b 13) (nv * 2)
  | 14 => .pointer (some ⟨sb, 0, none⟩)
  | 15 => .pointer (some ⟨sb, 0, none⟩)
  | 16 => .pointer (some ⟨sb, 4, none⟩)
  | 17 => .int .i64 (nv : Int)
  | 18 => .int .i64 ((nv * 2 : Nat) : Int)
  | 19 => slV (b 19) (nv * 2)
  | 20 => .pointer (some ⟨sb, 0, none⟩)
  | 21 => .pointer (some ⟨sb, 0, none⟩)
  | 22 => .pointer (some ⟨sb, 4, none⟩)
  | 23 => .int .i64 (nv : Int)
  | 24 => .int .i64 ((nv * 2 : Nat) : Int)
  | 25 => slV (b 25) (nv * 2)
  | 26 => slV ob n
  | 27 => .agg #[.int .i64 2000, .int .i64 1, slV (b 7) (nv * 2), slV (b 13) (nv * 2), slV (b 19) (nv * 2), slV (b 25) (nv * 2), slV ob n, .slice none 0 0]
  | 28 => .pointer (some ⟨sb, 0, none⟩)
  | 29 => .pointer (some ⟨sb, 6, none⟩)
  | _ => undef
def mk3 : Nat → Bool
  | 7 => true
  | 13 => true
  | 19 => true
  | 25 => true
  | _ => false
def made3 (nv : Nat) : Nat → Array Value × TypeId
  | 7 => (Array.replicate (nv * 2) (.slice none 0 0), 105)
  | 13 => (Array.replicate (nv * 2) (.slice none 0 0), 105)
  | 19 => (Array.replicate (nv * 2) (.slice none 0 0), 52)
  | 25 => (Array.replicate (nv * 2) (.slice none 0 0), 52)
  | _ => (#[], 0)
def pl3 (sb nv ob n : Nat) : Plan := ⟨fun i => 14 + i, val3 sb nv ob n, mk3, fun _ => made3 nv⟩

/-- the solver behind the making of the watch lists -/
def St.initW (s : St) (b1 b2 b3 b4 ob : Nat) : St :=
  { s with sc := setsL s.sc 6 [.int .i64 2000, .int .i64 1, slV b1 (s.nv * 2), slV b2 (s.nv * 2), slV b3 (s.nv * 2), slV b4 (s.nv * 2), slV ob s.ids.length, .slice none 0 0],
           wbHB := b1, wlHB := b2, pbHB := b3, amoHB := b4, origV := slV ob s.ids.length, orig := s.ids, nbMax := 2000, idx := 1 }
/-- with the list of the clauses -/
def St.preO (s : St) (ob : Nat) (xs : List Value) : Role → Row
  | .orig => ⟨92, 1, slV ob s.ids.length, s.ids.length, xs⟩
  | r => s.pre r
/-- with the watch lists' headers, not yet in the solver's cells -/
def St.preW (s : St) (s' : St) : Role → Row
  | .sol => s.row .sol
  | r => s'.row r

structure SameMS (m m0 : MS) : Prop where
  nv : m.nv = m0.nv
  val : m.val = m0.val
  trail : m.trail = m0.trail
  rsn : m.rsn = m0.rsn
  lits : m.lits = m0.lits
  word : m.word = m0.word
  ids : m.ids = m0.ids
  orig : m.orig = m0.orig
  lrn : m.lrn = m0.lrn
theorem SameMS.watch {m m0 : MS} (h : SameMS m m0) (c : Nat) : SameMS (m.watch c) m0 := by
  obtain ⟨a1, a2, a3, a4, a5, a6, a7, a8, a9⟩ := watch_same m c
  exact ⟨a1.trans h.nv, a2.trans h.val, a3.trans h.trail, a4.trans h.rsn, a5.trans h.lits, a6.trans h.word, a7.trans h.ids, a8.trans h.orig, a9.trans h.lrn⟩
/-- what the watch lists are made of -/
structure WPre (S : St) : Prop where
  len : ∀ c ∈ S.ids, 2 ≤ (S.lits c).length ∧ (S.lits c).length ≤ 1000000
  lit : ∀ c ∈ S.ids, ∀ x ∈ S.lits c, x < S.nv * 2
  nd : S.ids.Nodup
  ndv : ∀ c ∈ S.ids, ((S.lits c).map (· / 2)).Nodup
  wd : ∀ c, S.word c = 0
  wl : ∀ t, S.wl t = []
  wb : ∀ t, S.wb t = []
  wlV : S.wlV = fun _ => .slice none 0 0
  wbV : S.wbV = fun _ => .slice none 0 0
  tr : ∀ i, i < S.trail.length → nth S.trail i < S.nv * 2
  trl : S.trail.length ≤ 1000000000
  hd : ∀ b1 b2 b3 b4 ob, Hd (S.initW b1 b2 b3 b4 ob)
/-- i clauses are watched -/
structure WLp (S0 : St) (σ : PK → Row) (w0 : World) (i : Nat) (s : St) (w : World) : Prop where
  tr : Tr (Sum.elim S0.pre σ) w0 (Sum.elim s.row σ) w
  hd : Hd s
  kp : s.keep = (S0.initW 0 0 0 0 0).keep
  ms : SameMS s.toMS (S0.initW 0 0 0 0 0).toMS
  wt : WtD s.toMS (fun c => c ∈ S0.ids.take i)
theorem WLp.wf {S0 : St} {σ : PK → Row} {w0 w : World} {i : Nat} {s : St} (h : WLp S0 σ w0 i s w) (hp : WPre S0) (n1 : 1 ≤ S0.nv) (n2 : S0.nv ≤ 100000) (hil : S0.ids.length ≤ 1000000) : Wf s.toMS := by
  have hi : s.ids = S0.ids := h.ms.ids
  have hn : s.nv = S0.nv := h.ms.nv
  have hl : s.lits = S0.lits := h.ms.lits
  have ht : s.trail = S0.trail := h.ms.trail
  refine h.wt.wf ?_ ?_ ?_ ?_ ?_ ?_ ?_ ?_ ?_
  · intro c hc; rw [hi]; exact List.mem_of_mem_take hc
  · rw [hi]; omega
  · rw [hn]; exact n1
  · rw [hn]; omega
  · rw [hi, hl]; exact hp.len
  · rw [hi, hl, hn]; exact hp.lit
  · intro c _
    have e : s.word = S0.word := h.ms.word
    rw [e, hp.wd]; decide
  · rw [ht, hn]; exact hp.tr
  · rw [ht]; exact hp.trl
theorem WLp.step {S0 s s' : St} {σ : PK → Row} {w0 w w' : World} {i : Nat} (h : WLp S0 σ w0 i s w) (hp : WPre S0) (hi : i < S0.ids.length) (hm : s'.toMS = s.toMS.watch (nth S0.ids i)) (hr : RT s w s' w') : WLp S0 σ w0 (i + 1) s' w' := by
  have hl : s.lits = S0.lits := h.ms.lits
  have hc : nth S0.ids i ∈ S0.ids := nth_mem _ _ hi
  refine ⟨h.tr.trans (Tr.beside h.tr.rows hr.tr), hr.hd, hr.kp.trans h.kp, by rw [hm]; exact h.ms.watch _, ?_⟩
  rw [hm]
  have hst := h.wt.step (c := nth S0.ids i) ?_ ?_ ?_
  · refine hst.mono fun c => ?_
    rw [List.take_succ_eq_append_getElem hi, List.mem_append, nth_lt _ _ hi]
    simp
  · intro hmem
    have hnd := hp.nd
    rw [← List.take_append_drop i S0.ids, List.nodup_append] at hnd
    refine hnd.2.2 _ hmem (nth S0.ids i) ?_ rfl
    rw [nth_lt _ _ hi, List.drop_eq_getElem_cons hi]
    exact List.mem_cons_self
  · rw [hl]; exact (hp.len _ hc).1
  · rw [hl]
    have hn := hp.ndv _ hc
    have hlen := (hp.len _ hc).1
    match hL : S0.lits (nth S0.ids i), hlen with
    | x :: y :: r, _ =>
      rw [hL] at hn
      show x / 2 ≠ y / 2
      intro e
      simp [e] at hn
/-- the watch lists are made: nothing is watched yet -/
theorem WLp.start {S : St} {σ : PK → Row} {w0 w : World} {b1 b2 b3 b4 ob : Nat} (hp : WPre S) (t : Tr (Sum.elim S.pre σ) w0 (Sum.elim (S.initW b1 b2 b3 b4 ob).row σ) w) : WLp S σ w0 0 (S.initW b1 b2 b3 b4 ob) w := by
  refine ⟨t, hp.hd _ _ _ _ _, rfl, ⟨rfl, rfl, rfl, rfl, rfl, rfl, rfl, rfl, rfl⟩, ?_⟩
  refine (WtD.start _ ?_ ?_).mono fun c => ?_
  · exact hp.wl
  · exact hp.wb
  · simp
def WLPost (S : St) (σ : PK → Row) (w0 : World) (e : Ending) (w : World) : Prop := e = .returned (.tuple #[]) ∧ ∃ s, WLp S σ w0 S.ids.length s w

set_option maxRecDepth 100000 in
set_option maxHeartbeats 8000000 in
theorem initW_c {S : St} {csV : Value} {σ : PK → Row} {w0 : World} (h : Rows (Sum.elim S.pre σ) w0) (hσ : σ .cs = ⟨92, 1, csV, S.ids.length, S.ids.map (ptrV ∘ some)⟩) (hsl : S.sc.length = 5102) (h4 : S.sc[4]? = some (i64 S.nv))
    (hn1 : 1 ≤ S.nv) (hn2 : S.nv ≤ 100000) (hil : S.ids.length ≤ 1000000) (hp : WPre S) :
    Calls Tryz.prog 26 #[.pointer (some ⟨S.sb, 0, none⟩), csV] w0 (WLPost S σ w0) := by
  obtain ⟨pc, cc, hcs⟩ := h.shape (.inr .cs)
  have hcs : (σ .cs).v = .slice pc (σ .cs).n cc := hcs
  rw [hσ] at hcs
  have hcs : csV = .slice pc S.ids.length cc := hcs
  subst hcs
  have hcs2 : (σ .cs).v.ownBlock = (Value.slice pc S.ids.length cc).ownBlock := by rw [hσ]
  have hsrc0 : ∀ b, (Value.slice pc S.ids.length cc).ownBlock = some b → ∃ c, (Value.slice pc S.ids.length cc) = .slice (some ⟨b, 0, none⟩) S.ids.length c ∧ S.ids.length ≤ c ∧ c ≤ maxLen := by
    intro b hb
    obtain ⟨c, h1, h2, h3⟩ := h.form (.inr .cs) (b := b) (hcs2.trans hb)
    have h1 : (σ .cs).v = .slice (some ⟨b, 0, none⟩) (σ .cs).n c := h1
    have h2 : (σ .cs).n ≤ c := h2
    rw [hσ] at h1 h2
    exact ⟨c, h1, h2, h3⟩
  have hpos0 : 0 < S.ids.length → ∃ b, (Value.slice pc S.ids.length cc).ownBlock = some b := by
    intro hp
    obtain ⟨b, hb⟩ := h.pos (.inr .cs) (by show 0 < (σ .cs).n; rw [hσ]; exact hp)
    exact ⟨b, hcs2.symm.trans hb⟩
  obtain ⟨n, hn⟩ : ∃ n, n = S.ids.length := ⟨_, rfl⟩
  obtain ⟨nv, hnv⟩ : ∃ nv, nv = S.nv := ⟨_, rfl⟩
  obtain ⟨sb, hsb⟩ : ∃ sb, sb = S.sb := ⟨_, rfl⟩
  obtain ⟨ob, hob⟩ : ∃ ob, ob = w0.heap.size := ⟨_, rfl⟩
  rw [← hn] at hsrc0 hpos0 hil ⊢
  rw [← hsb]
  rw [← hnv] at h4 hn1 hn2
  have mk1 := make_rep (P := Tryz.prog) 52 92 (.pointer none) 8 Tryz.underlying52 infoCp3 rfl n (by omega) (by unfold maxLen; omega)
  have mw := make_rep (P := Tryz.prog) 58 105 (.slice none 0 0) 24 Tryz.underlying58 infoWss rfl (nv * 2) (by omega) (by unfold maxLen; omega)
  have mc := make_rep (P := Tryz.prog) 59 52 (.slice none 0 0) 24 Tryz.underlying59 infoCss rfl (nv * 2) (by omega) (by unfold maxLen; omega)
  have hwr : IntKind.i64.wrap ((nv : Int) * 2) = ((nv * 2 : Nat) : Int) := by rw [IntWalk.i64_in _ (by omega)]; omega
  -- the list of the clauses
  obtain ⟨w1, hw1⟩ : ∃ w1, w1 = w0.alloc (.cells (Array.replicate n (.pointer none)) 92) := ⟨_, rfl⟩
  have t1 : Tr (Sum.elim S.pre σ) w0 (Sum.elim (S.preO ob (List.replicate n (.pointer none))) σ) w1 := by
    rw [hw1]
    have hown := own_rep w0 92 n (.pointer none) (by unfold maxLen; omega)
    refine h.make (v' := slV ob n) (.inl .orig) _ ?_ ?_ ?_ ?_
    · show World.ownsRow _ 0 92 1 _ S.ids.length _
      rw [← hn, hob]; exact hown
    · rw [hob]; rfl
    · show slV ob S.ids.length = _
      rw [← hn]
    · intro r hr
      rcases r with r | r
      · cases r <;> first | rfl | contradiction
      · rfl
  obtain ⟨w2, hrun, t2⟩ : ∃ w2, (Builtin.copy_ #[52, 52] 3 #[.slice (some ⟨ob, 0, none⟩) n n, .slice pc n cc]).run Tryz.prog w1 = .ok (goInt n) w2 ∧ Tr (Sum.elim (S.preO ob (List.replicate n (.pointer none))) σ) w1 (Sum.elim (S.preO ob (S.ids.map (ptrV ∘ some))) σ) w2 := by
    by_cases hz : n = 0
    · refine ⟨w1, ?_, ?_⟩
      · have := run_copy_none (P := Tryz.prog) w1 52 52 3 92 (some ⟨ob, 0, none⟩) pc n n n cc Tryz.underlying52 (by kernel_rfl) (by rw [hz]; rfl)
        rw [this, hz]; rfl
      · have : (List.replicate n (Value.pointer none)) = S.ids.map (ptrV ∘ some) := by
          have hz' : S.ids.length = 0 := by omega
          rw [hz, List.length_eq_zero_iff.1 hz']; rfl
        rw [this]; rw [this] at t1; exact Tr.refl t1.rows
    · obtain ⟨b, hb⟩ := hpos0 (by omega)
      obtain ⟨c, e1, e2, e3⟩ := hsrc0 b hb
      rw [e1]
      have hbo : (σ .cs).v.ownBlock = some b := hcs2.trans (by rw [← hn]; exact hb)
      refine run_copy_rows (P := Tryz.prog) 52 52 3 92 1 Tryz.underlying52 (by kernel_rfl) t1.rows (.inl .orig) (b := ob) rfl 0 n n n c n ⟨b, 0, none⟩ (S.ids.map (ptrV ∘ some)) (Nat.min_self n).symm (by rw [List.length_map, ← hn, Nat.mul_one]) ?_ ?_ ?_ ?_ ?_
      · intro j v hj
        rw [Addr.add_lit, Nat.zero_add]
        exact t1.rows.cell (.inr .cs) (b := b) hbo (by show (σ .cs).xs[j]? = some v; rw [hσ]; exact hj)
      · show 0 + (S.ids.map (ptrV ∘ some)).length ≤ (List.replicate n (Value.pointer none)).length
        rw [List.length_map, List.length_replicate, ← hn]; omega
      · intro v hv
        obtain ⟨y, _, rfl⟩ := List.mem_map.1 hv
        rfl
      · show (⟨_, _, _, _, _⟩ : Row) = ⟨_, _, _, _, _⟩
        simp [Sum.elim_inl, St.preO, hn]
      · intro r hr
        rcases r with r | r
        · cases r <;> first | rfl | contradiction
        · rfl
  have f4 : w2.cell? ⟨sb, 4, none⟩ = some (.int .i64 (nv : Int)) := t2.rows.cell (.inl .sol) (b := sb) (by rw [hsb]; rfl) h4
  have hsbl : sb < w2.heap.size := t2.rows.lt ⟨.inl .sol, by rw [hsb]; rfl⟩
  replace hn := Lib.hid hn
  replace hnv := Lib.hid hnv
  replace hsb := Lib.hid hsb
  replace hw1 := Lib.hid hw1
  replace t1 := Lib.hid t1
  replace t2 := Lib.hid t2
  replace hsrc0 := Lib.hid hsrc0
  replace hpos0 := Lib.hid hpos0
  replace hcs2 := Lib.hid hcs2
  replace hσ := Lib.hid hσ
  replace hp := Lib.hid hp
  replace h := Lib.hid h
  replace hsl := Lib.hid hsl
  replace h4 := Lib.hid h4
  go_enter Tryz.func26, Tryz.ntmps26
  go_upto_region 2 with fail
  rw [← hob, ← hw1.out]
  replace hob := Lib.hid hob
  go_upto_region 3 with fail
  go_cut [] (fun wx => ∃ b1 b2 b3 b4, Tr (Sum.elim S.pre σ) w0 (Sum.elim (S.initW b1 b2 b3 b4 ob).row σ) wx)
  case first =>
    have hinj : ∀ i j, i < 30 → j < 30 → (pl3 sb nv ob n).dst i = (pl3 sb nv ob n).dst j → i = j := by
      intro i j _ _ e
      have e : 14 + i = 14 + j := e
      omega
    have hin : ∀ i, i < 30 → (pl3 sb nv ob n).dst i < 54 := by
      intro i hi
      show 14 + i < 54
      omega
    refine wp_region_planS (pl3 sb nv ob n) 30 (by kernel_rfl) rfl rfl (gd_ofS (by kernel_rfl)) (fun o ho => by cases ho; rfl) (need_of (by kernel_rfl)) hinj hin (ord_of (by kernel_rfl)) ?_ ?_ ?_
    · intro D b x i j hi hj hmk hcl hDj hDi
      have key : ∀ k, D k → updB b i x k = b k := by
        intro k hk
        unfold updB
        rw [if_neg]
        intro e
        subst e
        exact hDi hk
      refine ⟨?_, rfl⟩
      have hor : j = 0 ∨ j = 1 ∨ j = 2 ∨ j = 3 ∨ j = 4 ∨ j = 5 ∨ j = 6 ∨ j = 7 ∨ j = 8 ∨ j = 9 ∨ j = 10 ∨ j = 11 ∨ j = 12 ∨ j = 13 ∨ j = 14 ∨ j = 15 ∨ j = 16 ∨ j = 17 ∨ j = 18 ∨ j = 19 ∨ j = 20 ∨ j = 21 ∨ j = 22 ∨ j = 23 ∨ j = 24 ∨ j = 25 ∨ j = 26 ∨ j = 27 ∨ j = 28 ∨ j = 29 := by omega
      rcases hor with rfl | rfl | rfl | rfl | rfl | rfl | rfl | rfl | rfl | rfl | rfl | rfl | rfl | rfl | rfl | rfl | rfl | rfl | rfl | rfl | rfl | rfl | rfl | rfl | rfl | rfl | rfl | rfl | rfl | rfl
      all_goals first | rfl | skip
      · show slV (updB b i x 7) (nv * 2) = slV (b 7) (nv * 2); rw [key 7 hDj]
      · show slV (updB b i x 13) (nv * 2) = slV (b 13) (nv * 2); rw [key 13 hDj]
      · show slV (updB b i x 19) (nv * 2) = slV (b 19) (nv * 2); rw [key 19 hDj]
      · show slV (updB b i x 25) (nv * 2) = slV (b 25) (nv * 2); rw [key 25 hDj]
      · have k7 := key 7 (hcl 27 _ rfl hDj ⟨7, .data⟩ (by simp) rfl)
        have k13 := key 13 (hcl 27 _ rfl hDj ⟨13, .data⟩ (by simp) rfl)
        have k19 := key 19 (hcl 27 _ rfl hDj ⟨19, .data⟩ (by simp) rfl)
        have k25 := key 25 (hcl 27 _ rfl hDj ⟨25, .data⟩ (by simp) rfl)
        show Value.agg #[.int .i64 2000, .int .i64 1, slV (updB b i x 7) (nv * 2), slV (updB b i x 13) (nv * 2), slV (updB b i x 19) (nv * 2), slV (updB b i x 25) (nv * 2), slV ob n, .slice none 0 0] = _
        rw [k7, k13, k19, k25]; rfl
    · intro D b a w i o hi ho hdep hA hM
      have hor : i = 0 ∨ i = 1 ∨ i = 2 ∨ i = 3 ∨ i = 4 ∨ i = 5 ∨ i = 6 ∨ i = 7 ∨ i = 8 ∨ i = 9 ∨ i = 10 ∨ i = 11 ∨ i = 12 ∨ i = 13 ∨ i = 14 ∨ i = 15 ∨ i = 16 ∨ i = 17 ∨ i = 18 ∨ i = 19 ∨ i = 20 ∨ i = 21 ∨ i = 22 ∨ i = 23 ∨ i = 24 ∨ i = 25 ∨ i = 26 ∨ i = 27 ∨ i = 28 ∨ i = 29 := by omega
      have k0 : a.tmps.getD 0 undef = .pointer (some ⟨sb, 0, none⟩) := (hA.keep 0 (fun i hi => by show 14 + i ≠ 0; omega)).trans rfl
      have k4 : a.tmps.getD 4 undef = .int .i64 2000 := (hA.keep 4 (fun i hi => by show 14 + i ≠ 4; omega)).trans rfl
      have k5 : a.tmps.getD 5 undef = slV ob n := (hA.keep 5 (fun i hi => by show 14 + i ≠ 5; omega)).trans rfl
      have f4 : w.cell? ⟨sb, 4, none⟩ = some (.int .i64 (nv : Int)) := (World.cell?_of_block (a := ⟨sb, 4, none⟩) (hM.old sb hsbl)).trans f4
      rcases hor with rfl | rfl | rfl | rfl | rfl | rfl | rfl | rfl | rfl | rfl | rfl | rfl | rfl | rfl | rfl | rfl | rfl | rfl | rfl | rfl | rfl | rfl | rfl | rfl | rfl | rfl | rfl | rfl | rfl | rfl
      all_goals (injection ho with ho; subst ho)
      · -- 0
        refine .inl ⟨rfl, ?_⟩
        show Oper.quietUpon _ _ _ (.pointer (some ⟨sb, 0, none⟩)) _
        go_simp
      · -- 1
        refine .inl ⟨rfl, ?_⟩
        show Oper.quietUpon _ _ _ (.int .i64 2000) _
        go_simp
      · -- 2
        refine .inl ⟨rfl, ?_⟩
        show Oper.quietUpon _ _ _ (.pointer (some ⟨sb, 0, none⟩)) _
        go_simp
      · -- 3
        have d2 : a.tmps.getD 16 undef = .pointer (some ⟨sb, 0, none⟩) := hA.val 2 (by omega) (hdep ⟨2, .data⟩ (by simp) rfl)
        refine .inl ⟨rfl, ?_⟩
        show Oper.quietUpon _ _ _ (.pointer (some ⟨sb, 0, none⟩)) _
        go_simp
      · -- 4
        have d3 : a.tmps.getD 17 undef = .pointer (some ⟨sb, 0, none⟩) := hA.val 3 (by omega) (hdep ⟨3, .data⟩ (by simp) rfl)
        refine .inl ⟨rfl, ?_⟩
        show Oper.quietUpon _ _ _ (.pointer (some ⟨sb, 4, none⟩)) _
        go_simp
      · -- 5
        have d4 : a.tmps.getD 18 undef = .pointer (some ⟨sb, 4, none⟩) := hA.val 4 (by omega) (hdep ⟨4, .data⟩ (by simp) rfl)
        refine .inl ⟨rfl, ?_⟩
        show Oper.quietUpon _ _ _ (.int .i64 (nv : Int)) _
        go_simp
      · -- 6
        have d5 : a.tmps.getD 19 undef = .int .i64 (nv : Int) := hA.val 5 (by omega) (hdep ⟨5, .data⟩ (by simp) rfl)
        refine .inl ⟨rfl, ?_⟩
        show Oper.quietUpon _ _ _ (.int .i64 ((nv * 2 : Nat) : Int)) _
        have e2 : IntKind.i64.wrap ((nv : Int) * 2) = ((nv * 2 : Nat) : Int) := hwr
        go_simp
      · -- 7
        have d6 : a.tmps.getD 20 undef = .int .i64 ((nv * 2 : Nat) : Int) := hA.val 6 (by omega) (hdep ⟨6, .data⟩ (by simp) rfl)
        refine .inr ⟨rfl, ?_⟩
        show _ = Result.ok (Next.value (.slice (some ⟨w.heap.size, 0, none⟩) (nv * 2) (nv * 2))) (w.alloc (.cells (Array.replicate (nv * 2) (.slice none 0 0)) 105))
        have mm := mw w
        rw [show ((nv * 2 : Nat) : Int) = (nv : Int) * 2 by omega] at mm
        go_simp
      · -- 8
        refine .inl ⟨rfl, ?_⟩
        show Oper.quietUpon _ _ _ (.pointer (some ⟨sb, 0, none⟩)) _
        go_simp
      · -- 9
        have d8 : a.tmps.getD 22 undef = .pointer (some ⟨sb, 0, none⟩) := hA.val 8 (by omega) (hdep ⟨8, .data⟩ (by simp) rfl)
        refine .inl ⟨rfl, ?_⟩
        show Oper.quietUpon _ _ _ (.pointer (some ⟨sb, 0, none⟩)) _
        go_simp
      · -- 10
        have d9 : a.tmps.getD 23 undef = .pointer (some ⟨sb, 0, none⟩) := hA.val 9 (by omega) (hdep ⟨9, .data⟩ (by simp) rfl)
        refine .inl ⟨rfl, ?_⟩
        show Oper.quietUpon _ _ _ (.pointer (some ⟨sb, 4, none⟩)) _
        go_simp
      · -- 11
        have d10 : a.tmps.getD 24 undef = .pointer (some ⟨sb, 4, none⟩) := hA.val 10 (by omega) (hdep ⟨10, .data⟩ (by simp) rfl)
        refine .inl ⟨rfl, ?_⟩
        show Oper.quietUpon _ _ _ (.int .i64 (nv : Int)) _
        go_simp
      · -- 12
        have d11 : a.tmps.getD 25 undef = .int .i64 (nv : Int) := hA.val 11 (by omega) (hdep ⟨11, .data⟩ (by simp) rfl)
        refine .inl ⟨rfl, ?_⟩
        show Oper.quietUpon _ _ _ (.int .i64 ((nv * 2 : Nat) : Int)) _
        have e2 : IntKind.i64.wrap ((nv : Int) * 2) = ((nv * 2 : Nat) : Int) := hwr
        go_simp
      · -- 13
        have d12 : a.tmps.getD 26 undef = .int .i64 ((nv * 2 : Nat) : Int) := hA.val 12 (by omega) (hdep ⟨12, .data⟩ (by simp) rfl)
        refine .inr ⟨rfl, ?_⟩
        show _ = Result.ok (Next.value (.slice (some ⟨w.heap.size, 0, none⟩) (nv * 2) (nv * 2))) (w.alloc (.cells (Array.replicate (nv * 2) (.slice none 0 0)) 105))
        have mm := mw w
        rw [show ((nv * 2 : Nat) : Int) = (nv : Int) * 2 by omega] at mm
        go_simp
      · -- 14
        refine .inl ⟨rfl, ?_⟩
        show Oper.quietUpon _ _ _ (.pointer (some ⟨sb, 0, none⟩)) _
        go_simp
      · -- 15
        have d14 : a.tmps.getD 28 undef = .pointer (some ⟨sb, 0, none⟩) := hA.val 14 (by omega) (hdep ⟨14, .data⟩ (by simp) rfl)
        refine .inl ⟨rfl, ?_⟩
        show Oper.quietUpon _ _ _ (.pointer (some ⟨sb, 0, none⟩)) _
        go_simp
      · -- 16
        have d15 : a.tmps.getD 29 undef = .pointer (some ⟨sb, 0, none⟩) := hA.val 15 (by omega) (hdep ⟨15, .data⟩ (by simp) rfl)
        refine .inl ⟨rfl, ?_⟩
        show Oper.quietUpon _ _ _ (.pointer (some ⟨sb, 4, none⟩)) _
        go_simp
      · -- 17
        have d16 : a.tmps.getD 30 undef = .pointer (some ⟨sb, 4, none⟩) := hA.val 16 (by omega) (hdep ⟨16, .data⟩ (by simp) rfl)
        refine .inl ⟨rfl, ?_⟩
        show Oper.quietUpon _ _ _ (.int .i64 (nv : Int)) _
        go_simp
      · -- 18
        have d17 : a.tmps.getD 31 undef = .int .i64 (nv : Int) := hA.val 17 (by omega) (hdep ⟨17, .data⟩ (by simp) rfl)
        refine .inl ⟨rfl, ?_⟩
        show Oper.quietUpon _ _ _ (.int .i64 ((nv * 2 : Nat) : Int)) _
        have e2 : IntKind.i64.wrap ((nv : Int) * 2) = ((nv * 2 : Nat) : Int) := hwr
        go_simp
      · -- 19
        have d18 : a.tmps.getD 32 undef = .int .i64 ((nv * 2 : Nat) : Int) := hA.val 18 (by omega) (hdep ⟨18, .data⟩ (by simp) rfl)
        refine .inr ⟨rfl, ?_⟩
        show _ = Result.ok (Next.value (.slice (some ⟨w.heap.size, 0, none⟩) (nv * 2) (nv * 2))) (w.alloc (.cells (Array.replicate (nv * 2) (.slice none 0 0)) 52))
        have mm := mc w
        rw [show ((nv * 2 : Nat) : Int) = (nv : Int) * 2 by omega] at mm
        go_simp
      · -- 20
        refine .inl ⟨rfl, ?_⟩
        show Oper.quietUpon _ _ _ (.pointer (some ⟨sb, 0, none⟩)) _
        go_simp
      · -- 21
        have d20 : a.tmps.getD 34 undef = .pointer (some ⟨sb, 0, none⟩) := hA.val 20 (by omega) (hdep ⟨20, .data⟩ (by simp) rfl)
        refine .inl ⟨rfl, ?_⟩
        show Oper.quietUpon _ _ _ (.pointer (some ⟨sb, 0, none⟩)) _
        go_simp
      · -- 22
        have d21 : a.tmps.getD 35 undef = .pointer (some ⟨sb, 0, none⟩) := hA.val 21 (by omega) (hdep ⟨21, .data⟩ (by simp) rfl)
        refine .inl ⟨rfl, ?_⟩
        show Oper.quietUpon _ _ _ (.pointer (some ⟨sb, 4, none⟩)) _
        go_simp
      · -- 23
        have d22 : a.tmps.getD 36 undef = .pointer (some ⟨sb, 4, none⟩) := hA.val 22 (by omega) (hdep ⟨22, .data⟩ (by simp) rfl)
        refine .inl ⟨rfl, ?_⟩
        show Oper.quietUpon _ _ _ (.int .i64 (nv : Int)) _
        go_simp
      · -- 24
        have d23 : a.tmps.getD 37 undef = .int .i64 (nv : Int) := hA.val 23 (by omega) (hdep ⟨23, .data⟩ (by simp) rfl)
        refine .inl ⟨rfl, ?_⟩
        show Oper.quietUpon _ _ _ (.int .i64 ((nv * 2 : Nat) : Int)) _
        have e2 : IntKind.i64.wrap ((nv : Int) * 2) = ((nv * 2 : Nat) : Int) := hwr
        go_simp
      · -- 25
        have d24 : a.tmps.getD 38 undef = .int .i64 ((nv * 2 : Nat) : Int) := hA.val 24 (by omega) (hdep ⟨24, .data⟩ (by simp) rfl)
        refine .inr ⟨rfl, ?_⟩
        show _ = Result.ok (Next.value (.slice (some ⟨w.heap.size, 0, none⟩) (nv * 2) (nv * 2))) (w.alloc (.cells (Array.replicate (nv * 2) (.slice none 0 0)) 52))
        have mm := mc w
        rw [show ((nv * 2 : Nat) : Int) = (nv : Int) * 2 by omega] at mm
        go_simp
      · -- 26
        refine .inl ⟨rfl, ?_⟩
        show Oper.quietUpon _ _ _ (slV ob n) _
        go_simp
      · -- 27
        have d1 : a.tmps.getD 15 undef = .int .i64 2000 := hA.val 1 (by omega) (hdep ⟨1, .data⟩ (by simp) rfl)
        have d7 : a.tmps.getD 21 undef = slV (b 7) (nv * 2) := hA.val 7 (by omega) (hdep ⟨7, .data⟩ (by simp) rfl)
        have d13 : a.tmps.getD 27 undef = slV (b 13) (nv * 2) := hA.val 13 (by omega) (hdep ⟨13, .data⟩ (by simp) rfl)
        have d19 : a.tmps.getD 33 undef = slV (b 19) (nv * 2) := hA.val 19 (by omega) (hdep ⟨19, .data⟩ (by simp) rfl)
        have d25 : a.tmps.getD 39 undef = slV (b 25) (nv * 2) := hA.val 25 (by omega) (hdep ⟨25, .data⟩ (by simp) rfl)
        have d26 : a.tmps.getD 40 undef = slV ob n := hA.val 26 (by omega) (hdep ⟨26, .data⟩ (by simp) rfl)
        refine .inl ⟨rfl, ?_⟩
        refine quiet_build (L := _) rfl ?_ (build_wl (b 7) (b 13) (b 19) (b 25) ob (nv * 2) n w) rfl
        simp [Act.eval, -Array.getD_eq_getD_getElem?, d1, d7, d13, d19, d25, d26]
      · -- 28
        have d0 : a.tmps.getD 14 undef = .pointer (some ⟨sb, 0, none⟩) := hA.val 0 (by omega) (hdep ⟨0, .data⟩ (by simp) rfl)
        refine .inl ⟨rfl, ?_⟩
        show Oper.quietUpon _ _ _ (.pointer (some ⟨sb, 0, none⟩)) _
        go_simp
      · -- 29
        have d28 : a.tmps.getD 42 undef = .pointer (some ⟨sb, 0, none⟩) := hA.val 28 (by omega) (hdep ⟨28, .data⟩ (by simp) rfl)
        refine .inl ⟨rfl, ?_⟩
        show Oper.quietUpon _ _ _ (.pointer (some ⟨sb, 6, none⟩)) _
        go_simp
    · intro b a w o ho hA hM
      have hv29 : a.tmps.getD 43 undef = .pointer (some ⟨sb, 6, none⟩) := hA.val 29 (by omega) (by omega)
      have hv27 : a.tmps.getD 41 undef = .agg #[.int .i64 2000, .int .i64 1, slV (b 7) (nv * 2), slV (b 13) (nv * 2), slV (b 19) (nv * 2), slV (b 25) (nv * 2), slV ob n, .slice none 0 0] := hA.val 27 (by omega) (by omega)
      have hfin := hA.fin hinj hin
      have n7 := hM.new 7 (by omega) (by omega) rfl
      have n13 := hM.new 13 (by omega) (by omega) rfl
      have n19 := hM.new 19 (by omega) (by omega) rfl
      have n25 := hM.new 25 (by omega) (by omega) rfl
      have hj := fun i j h1 h2 h3 h4 => hM.inj i j h1 h2 h1 h2 h3 h4
      have t3 : Tr (Sum.elim (S.preO ob (S.ids.map (ptrV ∘ some))) σ) w2 (Sum.elim (S.preW (S.initW (b 7) (b 13) (b 19) (b 25) ob)) σ) w := by
        have hmk : ∀ (m : Nat) (e : TypeId) (V : Nat → Value), V = (fun _ => .slice none 0 0) → w.heap[m]? = some (.cells (Array.replicate (nv * 2) (.slice none 0 0)) e) → w.ownsRow 0 e 1 (slV m (S.nv * 2)) (S.nv * 2) ((List.range (S.nv * 2)).map V) := by
          intro m e V hV hm
          refine own_at hm (by rw [← hnv.out]; exact Nat.le_refl _) (by rw [← hnv.out]; unfold maxLen; omega) (by rw [← hnv.out]; simp) ?_
          rw [hV, ← hnv.out, List.map_const', List.length_range]
          simp
        have hmk2 : ∀ (m : Nat) (e : TypeId), w.heap[m]? = some (.cells (Array.replicate (nv * 2) (.slice none 0 0)) e) → w.ownsRow 0 e 1 (slV m (S.nv * 2)) (S.nv * 2) (List.replicate (S.nv * 2) (.slice none 0 0)) := by
          intro m e hm
          refine own_at hm (by rw [← hnv.out]; exact Nat.le_refl _) (by rw [← hnv.out]; unfold maxLen; omega) (by rw [← hnv.out]; simp) ?_
          rw [← hnv.out]
          simp
        refine rows_of t2.out.rows hM.os hM.tape hM.output hM.size hM.old (fun r => match r with | .inl .wbH => none | .inl .wlH => none | .inl .pbH => none | .inl .amoH => none | r => some r) ?_ ?_ ?_ ?_
        · intro r' r hr
          rcases r' with r' | r'
          · cases r' <;> first | (cases hr; done) | (cases hr; rfl)
          · cases hr; rfl
        · intro r hr
          rcases r with r | r
          · cases r <;> first | (cases hr; done) | skip
            case wbH => exact ⟨hmk (b 7) _ _ hp.out.wbV n7.1, fun b' hb => by cases hb; exact n7.2.1⟩
            case wlH => exact ⟨hmk (b 13) _ _ hp.out.wlV n13.1, fun b' hb => by cases hb; exact n13.2.1⟩
            case pbH => exact ⟨hmk2 (b 19) _ n19.1, fun b' hb => by cases hb; exact n19.2.1⟩
            case amoH => exact ⟨hmk2 (b 25) _ n25.1, fun b' hb => by cases hb; exact n25.2.1⟩
          · cases hr
        · intro r1 r2 r h1 h2
          have key : ∀ r1, (match r1 with | .inl .wbH => none | .inl .wlH => none | .inl .pbH => none | .inl .amoH => none | r => some r : Option (Role ⊕ PK)) = some r → r1 = r := by
            intro r1 h1
            rcases r1 with r1 | r1
            · cases r1 <;> first | (cases h1; done) | (cases h1; rfl)
            · cases h1; rfl
          rw [key r1 h1, key r2 h2]
        · intro r1 r2 b' h1 h2 e1 e2
          rcases r1 with r1 | r1
          case inr => cases h1
          rcases r2 with r2 | r2
          case inr => cases h2
          cases r1 <;> first | (cases h1; done) | skip
          all_goals (cases r2 <;> first | (cases h2; done) | rfl | skip)
          all_goals
            exfalso
            have e1 := Option.some.inj e1
            have e2 := Option.some.inj e2
            have e3 := hj _ _ (by omega) (by omega) rfl rfl (e1.trans e2.symm)
            omega
      have t4 : Tr (Sum.elim (S.preW (S.initW (b 7) (b 13) (b 19) (b 25) ob)) σ) w (Sum.elim (S.initW (b 7) (b 13) (b 19) (b 25) ob).row σ) (w.setCells sb 6 [.int .i64 2000, .int .i64 1, slV (b 7) (nv * 2), slV (b 13) (nv * 2), slV (b 19) (nv * 2), slV (b 25) (nv * 2), slV ob n, .slice none 0 0]) := by
        refine Rows.sets (.inl .sol) _ t3.rows (by rw [hsb.out]; rfl) 6 ?_ ?_
        · rw [hnv.out, hn.out]; rfl
        · intro r hr
          rcases r with r | r
          · cases r <;> first | rfl | contradiction
          · rfl
      have hth : w.there sb 6 8 := t3.rows.there (.inl .sol) (by rw [hsb.out]; rfl) (by show 6 + 8 ≤ S.sc.length; rw [hsl.out]; omega)
      injection ho with ho
      subst ho
      refine wp_store_mid 61 (.tmp 43) (.tmp 41) rfl sb 6 _ hv29 hv27 hth sizeWl (by simp [slV, Value.oneCell']) ?_
      have t5 := (t1.out.trans t2.out).trans (t3.trans t4)
      replace t5 := Lib.hid t5
      have hE : planEnd (pl3 sb nv ob n) b ⟨#[.pointer (some ⟨sb, 0, none⟩), .slice pc n cc, undef, undef, .int .i64 2000, .slice (some ⟨ob, 0, none⟩) n n, undef, undef, .slice pc n cc, .int .i64 (n : Int), .slice (some ⟨ob, 0, none⟩) n n, .slice (some ⟨ob, 0, none⟩) n n, .slice pc n cc, .int .i64 (n : Int), undef, undef, undef, undef, undef, undef, undef, undef, undef, undef, undef, undef, undef, undef, undef, undef, undef, undef, undef, undef, undef, undef, undef, undef, undef, undef, undef, undef, undef, undef, undef, undef, undef, undef, undef, undef, undef, undef, undef, undef], []⟩ 30 = ⟨#[.pointer (some ⟨sb, 0, none⟩), .slice pc n cc, undef, undef, .int .i64 2000, .slice (some ⟨ob, 0, none⟩) n n, undef, undef, .slice pc n cc, .int .i64 (n : Int), .slice (some ⟨ob, 0, none⟩) n n, .slice (some ⟨ob, 0, none⟩) n n, .slice pc n cc, .int .i64 (n : Int), .pointer (some ⟨sb, 0, none⟩), .int .i64 2000, .pointer (some ⟨sb, 0, none⟩), .pointer (some ⟨sb, 0, none⟩), .pointer (some ⟨sb, 4, none⟩), .int .i64 (nv : Int), .int .i64 ((nv * 2 : Nat) : Int), slV (b 7) (nv * 2), .pointer (some ⟨sb, 0, none⟩), .pointer (some ⟨sb, 0, none⟩), .pointer (some ⟨sb, 4, none⟩), .int .i64 (nv : Int), .int .i64 ((nv * 2 : Nat) : Int), slV (b 13) (nv * 2), .pointer (some ⟨sb, 0, none⟩), .pointer (some ⟨sb, 0, none⟩), .pointer (some ⟨sb, 4, none⟩), .int .i64 (nv : Int), .int .i64 ((nv * 2 : Nat) : Int), slV (b 19) (nv * 2), .pointer (some ⟨sb, 0, none⟩), .pointer (some ⟨sb, 0, none⟩), .pointer (some ⟨sb, 4, none⟩), .int .i64 (nv : Int), .int .i64 ((nv * 2 : Nat) : Int), slV (b 25) (nv * 2), slV ob n, .agg #[.int .i64 2000, .int .i64 1, slV (b 7) (nv * 2), slV (b 13) (nv * 2), slV (b 19) (nv * 2), slV (b 25) (nv * 2), slV ob n, .slice none 0 0], .pointer (some ⟨sb, 0, none⟩), .pointer (some ⟨sb, 6, none⟩), undef, undef, undef, undef, undef, undef, undef, undef, undef, undef], []⟩ := by kernel_rfl
      replace hfin := hfin.trans hE
      rw [hfin]
      clear hfin hE hv29 hv27 hA hM t3 t4 hth n7 n13 n19 n25 hj
      rename_i J K' hJ hK
      show K' _ _
      refine hK _ _ (Met.intro (hJ _ _ ?_))
      (repeat apply Exists.intro)
      exact ⟨⟨_, _, _, _, t5.out⟩, rfl⟩

  case rest =>
    obtain ⟨b1, b2, b3, b4, tc⟩ := hcut
    have hL0 := WLp.start hp.out tc
    clear tc t1 t2 hw1 f4 hsbl mk1 mw mc hwr hrun
    replace hL0 := Lib.hid hL0
    have hwf := fun (i : Nat) (s : St) (w : World) (hw : WLp S σ w0 i s w) => hw.wf hp.out (by rw [← hnv.out]; exact hn1) (by rw [← hnv.out]; exact hn2) (by rw [← hn.out]; exact hil)
    replace hwf := Lib.hid hwf
    clear h h4 hsl
    go_wp2_with fail
    go_loopw [46] (fun v46 wr => ∃ (i : Nat) (s : St), v46 = .int .i64 (i : Int) ∧ i ≤ n ∧ WLp S σ w0 i s wr) (fun v46 _ => n - (intOf v46).toNat)
    case atStart => exact ⟨0, _, rfl, Nat.zero_le _, hL0.out⟩
    case round =>
      obtain ⟨i, s, rfl, hi, hw⟩ := hrel
      by_cases hlt : i < n
      · have hltI : (i : Int) < (n : Int) := by omega
        obtain ⟨b, hb⟩ := hpos0.out (by omega)
        obtain ⟨c, e1, _, _⟩ := hsrc0.out b hb
        have hpc : pc = some ⟨b, 0, none⟩ ∧ cc = c := by simpa using e1
        obtain ⟨rfl, rfl⟩ := hpc
        have hcl : wr.cell? ⟨b, i, none⟩ = some (.pointer (some ⟨nth S.ids i, 0, none⟩)) := hw.tr.rows.cell (.inr .cs) (b := b) (hcs2.out.trans (by rw [← hn.out]; exact hb)) (by show (σ .cs).xs[i]? = _; rw [hσ.out]; exact getElem?_map_getD (ptrV ∘ some) S.ids 0 i (by rw [← hn.out]; exact hlt))
        have hsbs : s.sb = sb := by
          have e := congrArg (fun p => p.1) hw.kp
          have e : s.sb = S.sb := e
          rw [e, hsb.out]
        have hids : s.ids = S.ids := hw.ms.ids
        have hwc := watch_c (⟨hw.tr.rows.left, hw.hd⟩ : Rep s wr) (hwf.out i s wr hw) (c := nth S.ids i) (by rw [hids]; exact nth_mem _ _ (by rw [← hn.out]; exact hlt))
          (.inr (by have e : s.word = S.word := hw.ms.word
                    rw [e, hp.out.wd]))
        rw [hsbs] at hwc
        have hstep := fun (s' : St) (w' : World) (hm : s'.toMS = s.toMS.watch (nth S.ids i)) (hr : RT s wr s' w') => hw.step hp.out (by rw [← hn.out]; exact hlt) hm hr
        generalize nth S.ids i = c at hcl hwc hstep
        replace hwc := Lib.hid hwc
        replace hstep := Lib.hid hstep
        replace hw := Lib.hid hw
        clear hsbs hids hb e1
        go_wp2_with (go_at_call 37; refine hwc.out.mono ?_; rintro e w2 ⟨rfl, s2, h1, h2⟩; replace h1 := Lib.hid h1; replace h2 := Lib.hid h2)
        exact ⟨⟨i + 1, s2, by go_num, by omega, hstep.out s2 _ h1.out h2.out⟩, by simp [intOf]; omega⟩
      · have hltI : ¬ ((i : Int) < (n : Int)) := by omega
        have e : i = n := by omega
        subst e
        replace hw := Lib.hid hw
        go_wp2_with fail
        go_end0
        exact ⟨rfl, s, by rw [← hn.out]; exact hw.out⟩
end Go.Proofs.YtiimddkopiknpaaGreatDoor
