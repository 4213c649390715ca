/-
  Memory as rows of cells, and the solver's rows.
-/
import Derived.WalkKit
import Derived.WalkSpells
import Derived.WalkLawsBesides
import Derived.Deep.QuietTactic
import Derived.BigQuiet
import Derived.Test.YtiimddkopiknpaaGreatDoorProg
import Derived.Lib.Hide
import Derived.StillTail
import Derived.StillTailTactics
set_option linter.unusedVariables false
set_option linter.unusedSimpArgs false

/-
  Memory as rows: each slice, array or struct that a call owns is a row of cells; what a call does to rows, and what it leaves alone. No program is named here.
-/
namespace Go.Proofs.YtiimddkopiknpaaGreatDoor
open Go.RowKit

structure Row where
  e : TypeId
  k : Nat
  v : Value
  n : Nat
  xs : List Value

def Row.nil (e : TypeId) (k : Nat) : Row := ⟨e, k, .slice none 0 0, 0, []⟩
/-- a block of one value of k cells at block b -/
def Row.one (e : TypeId) (k b : Nat) (xs : List Value) : Row := ⟨e, k, .slice (some ⟨b, 0, none⟩) 1 1, 1, xs⟩

section
variable {ι ι' ι'' : Type}

structure Rows (ρ : ι → Row) (w : World) : Prop where
  own : ∀ r, w.ownsRow 0 (ρ r).e (ρ r).k (ρ r).v (ρ r).n (ρ r).xs
  inj : ∀ r r' b, (ρ r).v.ownBlock = some b → (ρ r').v.ownBlock = some b → r = r'

def Own (ρ : ι → Row) (b : Nat) : Prop := ∃ r, (ρ r).v.ownBlock = some b

structure Fr (B : Nat → Prop) (w w' : World) : Prop where
  os : w'.os = w.os
  tape : w'.tape = w.tape
  output : w'.output = w.output
  size : w.heap.size ≤ w'.heap.size
  block : ∀ k, k < w.heap.size → ¬ B k → w'.heap[k]? = w.heap[k]?

theorem Fr.refl (B : Nat → Prop) (w : World) : Fr B w w := ⟨rfl, rfl, rfl, Nat.le_refl _, fun _ _ _ => rfl⟩

theorem Fr.trans {B B' : Nat → Prop} {w w1 w2 : World} (h : Fr B w w1) (h' : Fr B' w1 w2) (hb : ∀ k, k < w.heap.size → B' k → B k) : Fr B w w2 :=
  ⟨h'.os.trans h.os, h'.tape.trans h.tape, h'.output.trans h.output, Nat.le_trans h.size h'.size,
   fun k hk hn => (h'.block k (Nat.lt_of_lt_of_le hk h.size) fun hB => hn (hb k hk hB)).trans (h.block k hk hn)⟩

theorem Fr.cell {B : Nat → Prop} {w w' : World} (h : Fr B w w') {b o : Nat} (hb : b < w.heap.size) (hn : ¬ B b) : w'.cell? ⟨b, o, none⟩ = w.cell? ⟨b, o, none⟩ :=
  World.cell?_of_block (a := ⟨b, o, none⟩) (h.block b hb hn)

theorem Fr.frozen {B : Nat → Prop} {w w' : World} (h : Fr B w w') {b o : Nat} (hb : b < w.heap.size) (hn : ¬ B b) : w'.frozen? ⟨b, o, none⟩ = w.frozen? ⟨b, o, none⟩ :=
  World.frozen?_of_block (a := ⟨b, o, none⟩) (h.block b hb hn)

theorem Rows.lt {ρ : ι → Row} {w : World} (h : Rows ρ w) {b : Nat} (hb : Own ρ b) : b < w.heap.size := by
  obtain ⟨r, hr⟩ := hb
  exact ((h.own r).lt b hr).2

/-- from rows ρ in w to rows ρ' in w': nothing but the rows' own blocks has changed; new rows lie in the old rows' blocks or in new ones -/
structure Tr (ρ : ι → Row) (w : World) (ρ' : ι' → Row) (w' : World) : Prop where
  rows : Rows ρ' w'
  fr : Fr (Own ρ) w w'
  own : ∀ b, Own ρ' b → Own ρ b ∨ w.heap.size ≤ b

theorem Tr.refl {ρ : ι → Row} {w : World} (h : Rows ρ w) : Tr ρ w ρ w := ⟨h, Fr.refl _ _, fun _ hb => .inl hb⟩

theorem Tr.trans {ρ : ι → Row} {ρ1 : ι' → Row} {ρ2 : ι'' → Row} {w w1 w2 : World} (h : Tr ρ w ρ1 w1) (h' : Tr ρ1 w1 ρ2 w2) : Tr ρ w ρ2 w2 := by
  refine ⟨h'.rows, h.fr.trans h'.fr ?_, ?_⟩
  · intro k hk hB
    rcases h.own k hB with h1 | h1
    · exact h1
    · omega
  · intro b hb
    rcases h'.own b hb with h1 | h1
    · exact h.own b h1
    · exact .inr (Nat.le_trans h.fr.size h1)

theorem Rows.drewN {ρ : ι → Row} {w : World} (h : Rows ρ w) (n : Nat) : Rows ρ (w.drewN n) := ⟨fun r => h.own r, h.inj⟩
theorem Tr.drewN {ρ : ι → Row} {ρ' : ι' → Row} {w w' : World} (h : Tr ρ w ρ' w') (n : Nat) : Tr ρ w ρ' (w'.drewN n) :=
  ⟨h.rows.drewN n, ⟨h.fr.os, h.fr.tape, h.fr.output, h.fr.size, h.fr.block⟩, h.own⟩
theorem Tr.drew {ρ : ι → Row} {ρ' : ι' → Row} {w w' : World} (h : Tr ρ w ρ' w') : Tr ρ w ρ' w'.drew := h.drewN 1
theorem Tr.of_heap {ρ : ι → Row} {ρ' : ι' → Row} {w w' w'' : World} (h : Tr ρ w ρ' w') (hh : w''.heap = w'.heap) (ho : w''.os = w'.os) (ht : w''.tape = w'.tape) (hp : w''.output = w'.output) : Tr ρ w ρ' w'' := by
  refine ⟨⟨fun r => ?_, h.rows.inj⟩, ⟨ho.trans h.fr.os, ht.trans h.fr.tape, hp.trans h.fr.output, by rw [hh]; exact h.fr.size, fun k hk hn => by rw [hh]; exact h.fr.block k hk hn⟩, h.own⟩
  have := h.rows.own r
  unfold World.ownsRow at this ⊢
  rw [hh]; exact this

theorem Rows.alloc {ρ : ι → Row} {w : World} (h : Rows ρ w) (o : Obj) : Rows ρ (w.alloc o) := ⟨fun r => (h.own r).alloc o, h.inj⟩
theorem Fr.alloc {B : Nat → Prop} {w w' : World} (h : Fr B w w') (o : Obj) : Fr B w (w'.alloc o) :=
  ⟨h.os, h.tape, h.output, by simp; have := h.size; omega, fun k hk hn => (_root_.Go.heap_alloc_old w' o (Nat.lt_of_lt_of_le hk h.size)).trans (h.block k hk hn)⟩
theorem Tr.alloc {ρ : ι → Row} {ρ' : ι' → Row} {w w' : World} (h : Tr ρ w ρ' w') (o : Obj) : Tr ρ w ρ' (w'.alloc o) :=
  ⟨h.rows.alloc o, h.fr.alloc o, h.own⟩

/-- a store into a block of the call's own that is no row: rows stay -/
theorem Rows.setOther {ρ : ι → Row} {w : World} (h : Rows ρ w) (a : Addr) (v : Value) (hn : ¬ Own ρ a.block) : Rows ρ (w.setCell a v) := by
  refine ⟨fun r => ?_, h.inj⟩
  have hg : w.grownBy (w.setCell a v) (some a.block) :=
    ⟨rfl, rfl, rfl, by simp, fun k _ hk => heap_setCell_other w a k v (fun e => hk (by simp [e]))⟩
  refine (h.own r).kept hg ?_
  cases hb : (ρ r).v.ownBlock with
  | none => exact .inl rfl
  | some b => exact .inr fun e => hn (by cases e; exact ⟨r, hb⟩)

theorem Tr.setOther {ρ : ι → Row} {ρ' : ι' → Row} {w w' : World} (h : Tr ρ w ρ' w') (a : Addr) (v : Value) (hn : ¬ Own ρ' a.block) (hf : w.heap.size ≤ a.block) : Tr ρ w ρ' (w'.setCell a v) :=
  ⟨h.rows.setOther a v hn, ⟨h.fr.os, h.fr.tape, h.fr.output, by simp; exact h.fr.size, fun k hk hB => (heap_setCell_other w' a k v (by omega)).trans (h.fr.block k hk hB)⟩, h.own⟩

theorem Rows.form {ρ : ι → Row} {w : World} (h : Rows ρ w) (r : ι) {b : Nat} (hb : (ρ r).v.ownBlock = some b) : ∃ cap, (ρ r).v = .slice (some ⟨b, 0, none⟩) (ρ r).n cap ∧ (ρ r).n ≤ cap ∧ cap ≤ maxLen := by
  rcases (h.own r).2 with ⟨h', _⟩ | ⟨g', cap', cur, h', _, hg, h1, h2, _⟩
  · rw [h'] at hb; simp [Value.ownBlock] at hb
  · rw [h'] at hb; simp [Value.ownBlock] at hb; subst hb; exact ⟨cap', h', h1, h2⟩

theorem Rows.pos {ρ : ι → Row} {w : World} (h : Rows ρ w) (r : ι) (hn : 0 < (ρ r).n) : ∃ b, (ρ r).v.ownBlock = some b := by
  rcases (h.own r).2 with ⟨_, h'⟩ | ⟨g', cap', cur, h', _⟩
  · omega
  · rw [h']; exact ⟨g', rfl⟩

theorem Rows.cell {ρ : ι → Row} {w : World} (h : Rows ρ w) (r : ι) {b : Nat} (hb : (ρ r).v.ownBlock = some b) {j : Nat} {u : Value} (hu : (ρ r).xs[j]? = some u) : w.cell? ⟨b, j, none⟩ = some u := by
  obtain ⟨cap, hv, _⟩ := h.form r hb
  have ho := h.own r
  have hl : (ρ r).xs.length = (ρ r).n * (ρ r).k := ho.1
  rw [hv] at ho
  rw [ho.cellAt j (by rw [← hl]; exact (List.getElem?_eq_some_iff.1 hu).1), hu]

theorem Rows.frozen {ρ : ι → Row} {w : World} (h : Rows ρ w) (r : ι) {b : Nat} (hb : (ρ r).v.ownBlock = some b) (j : Nat) : w.frozen? ⟨b, j, none⟩ = false := by
  obtain ⟨cap, hv, _⟩ := h.form r hb
  have ho := h.own r
  rw [hv] at ho
  exact ho.frozenAt j

/-- a store into a row -/
theorem Rows.set {ρ ρ' : ι → Row} {w : World} (h : Rows ρ w) (r : ι) {b : Nat} (hb : (ρ r).v.ownBlock = some b) (j : Nat) (u : Value)
    (hr : ρ' r = { ρ r with xs := (ρ r).xs.set j u }) (hne : ∀ r', r' ≠ r → ρ' r' = ρ r') : Tr ρ w ρ' (w.setCell ⟨b, j, none⟩ u) := by
  obtain ⟨cap, hv, _⟩ := h.form r hb
  have ho := h.own r
  rw [hv] at ho
  have hst := ho.stored j u
  have hvv : ∀ r', (ρ' r').v = (ρ r').v := by
    intro r'
    by_cases e : r' = r
    · subst e; rw [hr]
    · rw [hne r' e]
  refine ⟨⟨fun r' => ?_, ?_⟩, ⟨rfl, rfl, rfl, by simp, ?_⟩, ?_⟩
  · by_cases e : r' = r
    · subst e; rw [hr]; simp only []; rw [hv]; exact hst.1
    · rw [hne r' e]
      refine (h.own r').kept hst.2 ?_
      cases hb' : (ρ r').v.ownBlock with
      | none => exact .inl rfl
      | some b' => exact .inr fun e' => e (h.inj r' r b (by rw [hb']; exact e') hb)
  · intro r1 r2 b'
    rw [hvv, hvv]; exact h.inj r1 r2 b'
  · intro k _ hk
    exact heap_setCell_other w ⟨b, j, none⟩ k u (fun e => hk (by subst e; exact ⟨r, hb⟩))
  · rintro b' ⟨r', hr'⟩
    rw [hvv] at hr'; exact .inl ⟨r', hr'⟩

/-- a row is cut or given another header over the same block (the cells stay) -/
theorem Rows.cut {ρ ρ' : ι → Row} {w : World} (h : Rows ρ w) (r : ι) (m : Nat) {b cap : Nat} (hv : (ρ r).v = .slice (some ⟨b, 0, none⟩) (ρ r).n cap) (hm : m ≤ (ρ r).n)
    (hr : ρ' r = { ρ r with v := .slice (some ⟨b, 0, none⟩) m cap, n := m, xs := (ρ r).xs.take (m * (ρ r).k) }) (hne : ∀ r', r' ≠ r → ρ' r' = ρ r') : Rows ρ' w := by
  have hvv : ∀ r', (ρ' r').v.ownBlock = (ρ r').v.ownBlock := by
    intro r'
    by_cases e : r' = r
    · subst e; rw [hr, hv]; rfl
    · rw [hne r' e]
  refine ⟨fun r' => ?_, ?_⟩
  · by_cases e : r' = r
    · subst e
      rw [hr]
      have ho := h.own r'
      rw [hv] at ho
      have hl := ho.1
      have hmul : m * (ρ r').k ≤ (ρ r').n * (ρ r').k := Nat.mul_le_mul_right _ hm
      rcases ho.2 with ⟨h', _⟩ | ⟨g', cap', cur, h', h0, hg, h1, h2, h3, h4⟩
      · simp at h'
      · simp only [Value.slice.injEq, Option.some.injEq, Addr.mk.injEq, and_true, true_and] at h'
        obtain ⟨rfl, rfl⟩ := h'
        refine ⟨by simp; omega, .inr ⟨b, cap, cur, rfl, h0, hg, by simp only []; omega, h2, h3, ?_⟩⟩
        simp only []
        rw [← h4, List.take_take, Nat.min_eq_left hmul]
    · rw [hne r' e]; exact h.own r'
  · intro r1 r2 b'
    rw [hvv, hvv]; exact h.inj r1 r2 b'

theorem Tr.same {ρ ρ' : ι → Row} {w : World} (h : Rows ρ' w) (hv : ∀ r, (ρ' r).v.ownBlock = (ρ r).v.ownBlock) : Tr ρ w ρ' w :=
  ⟨h, Fr.refl _ _, fun b ⟨r, hr⟩ => .inl ⟨r, by rw [← hv]; exact hr⟩⟩

/-- a row that has grown (an append) -/
theorem Rows.grow {ρ ρ' : ι → Row} {w w' : World} (h : Rows ρ w) (r : ι) {v' : Value} {n' : Nat} {xs' : List Value}
    (ho : w'.ownsRow 0 (ρ r).e (ρ r).k v' n' xs') (hg : w.grownBy w' (ρ r).v.ownBlock) (hf : v'.ownBlock = (ρ r).v.ownBlock ∨ ∃ b, v'.ownBlock = some b ∧ w.heap.size ≤ b)
    (hr : ρ' r = { ρ r with v := v', n := n', xs := xs' }) (hne : ∀ r', r' ≠ r → ρ' r' = ρ r') : Tr ρ w ρ' w' := by
  refine ⟨⟨fun r' => ?_, ?_⟩, ⟨hg.os, hg.tape, hg.output, hg.size, ?_⟩, ?_⟩
  · by_cases e : r' = r
    · subst e; rw [hr]; exact ho
    · rw [hne r' e]
      refine (h.own r').kept hg ?_
      cases hb' : (ρ r').v.ownBlock with
      | none => exact .inl rfl
      | some b' => exact .inr fun e' => e (h.inj r' r b' hb' e'.symm)
  · intro r1 r2 b' h1 h2
    by_cases e1 : r1 = r <;> by_cases e2 : r2 = r
    · rw [e1, e2]
    · subst e1
      rw [hr] at h1; rw [hne r2 e2] at h2
      rcases hf with hf | ⟨b, hf, hb⟩
      · exact h.inj _ _ b' (hf ▸ h1) h2
      · have hlt := ((h.own r2).lt b' h2).2
        have : b = b' := by have := hf.symm.trans h1; simpa using this
        omega
    · subst e2
      rw [hr] at h2; rw [hne r1 e1] at h1
      rcases hf with hf | ⟨b, hf, hb⟩
      · exact h.inj _ _ b' h1 (hf ▸ h2)
      · have hlt := ((h.own r1).lt b' h1).2
        have : b = b' := by have := hf.symm.trans h2; simpa using this
        omega
    · rw [hne r1 e1] at h1; rw [hne r2 e2] at h2; exact h.inj _ _ b' h1 h2
  · intro k hk hn
    exact hg.block k hk fun e => hn ⟨r, e.symm⟩
  · rintro b' ⟨r', hr'⟩
    by_cases e : r' = r
    · subst e
      rw [hr] at hr'
      rcases hf with hf | ⟨b, hf, hb⟩
      · exact .inl ⟨r', hf ▸ hr'⟩
      · have : b = b' := by have := hf.symm.trans hr'; simpa using this
        exact .inr (by omega)
    · rw [hne r' e] at hr'; exact .inl ⟨r', hr'⟩

/-- a new row in a new block -/
theorem Rows.make {ρ ρ' : ι → Row} {w : World} (h : Rows ρ w) (r : ι) (o : Obj) {v' : Value}
    (ho : (w.alloc o).ownsRow 0 (ρ' r).e (ρ' r).k v' (ρ' r).n (ρ' r).xs) (hv : v'.ownBlock = some w.heap.size) (hr : (ρ' r).v = v') (hne : ∀ r', r' ≠ r → ρ' r' = ρ r') : Tr ρ w ρ' (w.alloc o) := by
  refine ⟨⟨fun r' => ?_, ?_⟩, ⟨rfl, rfl, rfl, by simp, fun k hk _ => _root_.Go.heap_alloc_old w o hk⟩, ?_⟩
  · by_cases e : r' = r
    · subst e; rw [hr]; exact ho
    · rw [hne r' e]; exact (h.own r').alloc o
  · intro r1 r2 b' h1 h2
    by_cases e1 : r1 = r <;> by_cases e2 : r2 = r
    · rw [e1, e2]
    · subst e1
      rw [hr, hv] at h1; rw [hne r2 e2] at h2
      have hlt := ((h.own r2).lt b' h2).2
      simp at h1; omega
    · subst e2
      rw [hr, hv] at h2; rw [hne r1 e1] at h1
      have hlt := ((h.own r1).lt b' h1).2
      simp at h2; omega
    · rw [hne r1 e1] at h1; rw [hne r2 e2] at h2; exact h.inj _ _ b' h1 h2
  · rintro b' ⟨r', hr'⟩
    by_cases e : r' = r
    · subst e; rw [hr, hv] at hr'; simp at hr'; exact .inr (by omega)
    · rw [hne r' e] at hr'; exact .inl ⟨r', hr'⟩

/-- rows under other names -/
theorem Rows.rename {ρ : ι → Row} {ρ' : ι' → Row} {w : World} (h : Rows ρ w) (f : ι' → Option ι)
    (hs : ∀ r' r, f r' = some r → ρ' r' = ρ r) (hn : ∀ r', f r' = none → (ρ' r').v = .slice none 0 0 ∧ (ρ' r').n = 0 ∧ (ρ' r').xs = [])
    (hi : ∀ r1 r2 r, f r1 = some r → f r2 = some r → r1 = r2) : Rows ρ' w ∧ ∀ b, Own ρ' b → Own ρ b := by
  refine ⟨⟨fun r' => ?_, ?_⟩, ?_⟩
  · cases e : f r' with
    | none => obtain ⟨h1, h2, h3⟩ := hn r' e; rw [h1, h2, h3]; exact World.ownsRow_nil _ _ _ _
    | some r => rw [hs r' r e]; exact h.own r
  · intro r1 r2 b h1 h2
    cases e1 : f r1 with
    | none => rw [(hn r1 e1).1] at h1; simp [Value.ownBlock] at h1
    | some s1 =>
      cases e2 : f r2 with
      | none => rw [(hn r2 e2).1] at h2; simp [Value.ownBlock] at h2
      | some s2 =>
        rw [hs _ _ e1] at h1; rw [hs _ _ e2] at h2
        have := h.inj s1 s2 b h1 h2
        subst this
        exact hi r1 r2 s1 e1 e2
  · rintro b ⟨r', hr'⟩
    cases e : f r' with
    | none => rw [(hn r' e).1] at hr'; simp [Value.ownBlock] at hr'
    | some r => rw [hs _ _ e] at hr'; exact ⟨r, hr'⟩
end

theorem own_form {w : World} {base : Nat} {e : TypeId} {k : Nat} {v : Value} {n : Nat} {xs : List Value} (h : w.ownsRow base e k v n xs) (hn : 0 < n) : ∃ g cap, v = .slice (some ⟨g, 0, none⟩) n cap ∧ n ≤ cap ∧ cap ≤ maxLen := by
  rcases h.2 with ⟨_, h'⟩ | ⟨g, cap, cur, h', _, _, h1, h2, _⟩
  · omega
  · exact ⟨g, cap, h', h1, h2⟩

/-- the law of append, and where the new row lies -/
theorem run_append_rows {P : Program} (w : World) (t ty e : TypeId) (i : TypeInfo) (z : Value) (size bytes : Nat) (ht : P.underlying t = some (.slice e)) (hi : P.info? e = some i) (hz : i.zero = some z)
    (hsize : i.size = size) (hby : i.bytes = bytes) (hzs : z.cells.size = size) (hsz : 0 < size)
    (v : Value) (n : Nat) (xs : List Value) (hown : w.ownsRow 0 e size v n xs)
    (a : Addr) (m c : Nat) (news : List Value) (hl : news.length = m * size) (hnews : ∀ j u, news[j]? = some u → w.cell? (a.add j) = some u) (h1 : ∀ u ∈ news, u.oneCell' = true)
    (h63 : n + m ≤ maxLen) (hbytes : (n + m) * bytes ≤ 140737488355328) :
    ∃ v' w', (Builtin.append_ #[t, t] ty #[v, .slice (some a) m c]).run P w = .ok v' w' ∧ w'.ownsRow 0 e size v' (n + m) (xs ++ news) ∧ w.grownBy w' v.ownBlock ∧
      (v'.ownBlock = v.ownBlock ∨ ∃ b, v'.ownBlock = some b ∧ w.heap.size ≤ b) := by
  obtain ⟨v', w', hr, h2, h3, h4⟩ := run_append_own (P := P) w 0 t ty e i z size bytes ht hi hz hsize hby hzs hsz v n xs hown a m c news hl hnews h1 h63 hbytes (Nat.zero_le _)
  refine ⟨v', w', hr, h2, h3, ?_⟩
  rcases hown.2 with ⟨rfl, rfl⟩ | ⟨g, cap, cur, rfl, hbg, hg, hnc, hcm, hcs, htake⟩
  · have hx : xs = [] := List.eq_nil_of_length_eq_zero (by simpa using hown.1)
    subst hx
    obtain ⟨v2, w2, hr2, h22, h32, h42⟩ := run_append_own (P := P) w w.heap.size t ty e i z size bytes ht hi hz hsize hby hzs hsz _ 0 [] (World.ownsRow_nil _ _ _ _) a m c news hl hnews h1 h63 hbytes (Nat.le_refl _)
    rw [hr] at hr2
    injection hr2 with e1 e2
    subst e1; subst e2
    cases hb : v'.ownBlock with
    | none => exact .inl rfl
    | some b => exact .inr ⟨b, rfl, (h22.lt b hb).1⟩
  · subst hsize
    by_cases hroom : n + m ≤ cap
    · have hfit : n * i.size + news.length ≤ cur.size := by rw [hl, hcs, ← Nat.add_mul]; exact Nat.mul_le_mul_right _ hroom
      have hr2 := run_append_room (P := P) w t ty e i ht hi g n cap cur hg a m c news hl hnews h1 hroom hfit
      rw [hr] at hr2
      injection hr2 with e1 e2
      subst e1
      exact .inl rfl
    · have holds : ∀ j u, xs[j]? = some u → w.cell? ((⟨g, 0, none⟩ : Addr).add j) = some u := hown.cells (g := g) rfl
      have hsmall : n + m ≤ 9223372036854775807 := by simp only [maxLen] at h63; omega
      have hr2 := run_append_grow (P := P) w t ty e i z ht hi hz ⟨g, 0, none⟩ n cap xs hown.1 holds a m c news hl hnews (by omega) (by omega) (growslice_fits (by omega) (by rw [hby]; exact hbytes))
      rw [hr] at hr2
      injection hr2 with e1 e2
      subst e1
      exact .inr ⟨_, rfl, Nat.le_refl _⟩

theorem wpList_append_rows {P : Program} {w : World} {ops : Array Oper} {rest : List Oper} {o : Oper} {a : Act} {Q : Exit → Act → World → Prop} (hgd : o.guard = none) (s x : Operand) (t : TypeId)
    (ho : o.op = .call { callee := .builtin .append, args := #[s, x], argTypes := #[t, t] })
    (e : TypeId) (i : TypeInfo) (z : Value) (size bytes : Nat) (ht : P.underlying t = some (.slice e)) (hi : P.info? e = some i) (hz : i.zero = some z)
    (hsize : i.size = size) (hby : i.bytes = bytes) (hzs : z.cells.size = size) (hsz : 0 < size)
    (v : Value) (n : Nat) (xs : List Value) (hs : a.eval s = v) (hown : w.ownsRow 0 e size v n xs)
    (ad : Addr) (m c : Nat) (news : List Value) (hx : a.eval x = .slice (some ad) m c) (hl : news.length = m * size) (hnews : ∀ j u, news[j]? = some u → w.cell? (ad.add j) = some u) (h1 : ∀ u ∈ news, u.oneCell' = true)
    (h63 : n + m ≤ maxLen) (hbytes : (n + m) * bytes ≤ 140737488355328)
    (h : ∀ v' w', w'.ownsRow 0 e size v' (n + m) (xs ++ news) → w.grownBy w' v.ownBlock → (v'.ownBlock = v.ownBlock ∨ ∃ b, v'.ownBlock = some b ∧ w.heap.size ≤ b) → wpList P ops Q rest (a.put o.dst v') w') : wpList P ops Q (o :: rest) a w :=
  wpList_plain hgd fun _ hK => by
    obtain ⟨v', w', hr, h2, h3, h4⟩ := run_append_rows (P := P) w t o.type e i z size bytes ht hi hz hsize hby hzs hsz v n xs hown ad m c news hl hnews h1 h63 hbytes
    unfold Oper.wp execOp
    simp only [ho, resolve, invoke, builtin, Sem.run_bind, Sem.run_pure, Result.andThen_ok, List.map_toArray, List.map_cons, List.map_nil, hs, hx, hr]
    exact hK _ _ (h v' w' h2 h3 h4)

end Go.Proofs.YtiimddkopiknpaaGreatDoor

/-
  Floats that are no NaN: a sign bit of 0 and a number or infinity. What the program does to activities keeps them so.
-/
namespace Go.Proofs.YtiimddkopiknpaaGreatDoor
open Go.RowKit

def NN (k : FloatKind) (b : Nat) : Prop := b ≤ k.format.infRung
def isF64 (v : Value) : Prop := ∃ b, v = .float .f64 b ∧ NN .f64 b
def isF32 (v : Value) : Prop := ∃ b, v = .float .f32 b ∧ NN .f32 b

theorem inf_lt (k : FloatKind) : k.format.infRung < k.format.signWeight := by cases k <;> decide
theorem bin_pos (k : FloatKind) : 0 < k.format.signWeight := by cases k <;> decide

theorem read_nn {k : FloatKind} {b : Nat} (h : NN k b) : (∃ m e, k.format.read b = .number false m e) ∨ k.format.read b = .infinity false := by
  have h1 := inf_lt k
  have h2 : b < k.format.signWeight := Nat.lt_of_le_of_lt h h1
  have h3 : b / k.format.signWeight = 0 := Nat.div_eq_of_lt h2
  have h4 : b % k.format.signWeight = b := Nat.mod_eq_of_lt h2
  unfold Ieee.Format.read
  rw [h3, h4]
  simp only []
  have h5 : ((0 % 2 == 1) : Bool) = false := rfl
  rw [h5]
  split
  · exact .inl ⟨_, _, rfl⟩
  · split
    · exact .inl ⟨_, _, rfl⟩
    · split
      · exact .inr rfl
      · unfold NN at h; omega
theorem write_nn (k : FloatKind) (m : Nat) (e : Int) : NN k (k.format.write (.number false m e)) := by
  unfold NN Ieee.Format.write Ieee.Format.nearest
  simp only []
  split
  · unfold Ieee.Format.word; simp
  · unfold Ieee.Format.word; simp; omega
theorem write_inf (k : FloatKind) : NN k (k.format.write (.infinity false)) := by
  unfold NN Ieee.Format.write Ieee.Format.word; simp

theorem signed_nonneg (m u : Nat) : 0 ≤ Ieee.signed false m u := by
  unfold Ieee.signed
  rw [if_neg (by decide)]
  exact Int.natCast_nonneg _

theorem add_nn {k : FloatKind} {x y : Nat} (hx : NN k x) (hy : NN k y) : ∃ r, floatBits .add k x y = some r ∧ NN k r := by
  unfold floatBits
  simp only []
  unfold Ieee.Format.add
  rcases read_nn hx with ⟨m, e, h1⟩ | h1 <;> rcases read_nn hy with ⟨m', e', h2⟩ | h2 <;> rw [h1, h2] <;> simp only [Ieee.Datum.sum]
  · refine ⟨_, rfl, ?_⟩
    have h3 := signed_nonneg m (e - min e e').toNat
    have h4 := signed_nonneg m' (e' - min e e').toNat
    generalize Ieee.signed false m (e - min e e').toNat = a at *
    generalize Ieee.signed false m' (e' - min e e').toNat = b at *
    have : (if a + b = 0 then (false && false) else decide (a + b < 0)) = false := by
      split
      · rfl
      · simp; omega
    rw [this]
    exact write_nn _ _ _
  · exact ⟨_, rfl, write_inf _⟩
  · exact ⟨_, rfl, write_inf _⟩
  · exact ⟨_, rfl, write_inf _⟩
/-- a positive finite number's word -/
def PF (k : FloatKind) (c : Nat) : Prop := ∃ m e, k.format.read c = .number false (m + 1) e
theorem mul_nn {k : FloatKind} {x c : Nat} (hx : NN k x) (hc : PF k c) : ∃ r, floatBits .mul k x c = some r ∧ NN k r := by
  obtain ⟨m', e', h2⟩ := hc
  unfold floatBits
  simp only []
  unfold Ieee.Format.mul
  rcases read_nn hx with ⟨m, e, h1⟩ | h1 <;> rw [h1, h2] <;> simp only [Ieee.Datum.product]
  · exact ⟨_, rfl, write_nn _ _ _⟩
  · exact ⟨_, rfl, write_inf _⟩
/-- what varDecay can be: 0.8, and 0.01 more till 0.95 is reached -/
def decayL : List Nat := [4605380978949069210, 4605471050941616620, 4605561122934164030, 4605651194926711440, 4605741266919258850, 4605831338911806260, 4605921410904353670, 4606011482896901080, 4606101554889448490, 4606191626881995900, 4606281698874543310, 4606371770867090720, 4606461842859638130, 4606551914852185540, 4606641986844732950, 4606732058837280360]
def pfB (k : FloatKind) (c : Nat) : Bool := match k.format.read c with | .number false (_ + 1) _ => true | _ => false
theorem pf_of {k : FloatKind} {c : Nat} (h : pfB k c = true) : PF k c := by
  unfold pfB at h
  split at h
  · rename_i m e h'; exact ⟨m, e, h'⟩
  · cases h
theorem decay_inv : ∀ d ∈ decayL, ∃ r, floatBits .quo .f64 4607182418800017408 d = some r ∧ PF .f64 r := by
  have h : decayL.all (fun d => match floatBits .quo .f64 4607182418800017408 d with | some r => pfB .f64 r | none => false) = true := by decide +kernel
  intro d hd
  have := List.all_eq_true.1 h d hd
  split at this
  · rename_i r hr; exact ⟨r, hr, pf_of this⟩
  · cases this
end Go.Proofs.YtiimddkopiknpaaGreatDoor

/-
  The solver in memory: what its blocks hold, said of a plain state. No walk here.
-/
namespace Go.Proofs.YtiimddkopiknpaaGreatDoor
open Go.RowKit

def i32 (n : Nat) : Value := .int .i32 (n : Int)
def i64 (n : Int) : Value := .int .i64 n
def ptrV (o : Option Nat) : Value := .pointer (o.map fun b => ⟨b, 0, none⟩)
def slV (b n : Nat) : Value := .slice (some ⟨b, 0, none⟩) n n
def isI64 (v : Value) : Prop := ∃ n, v = .int .i64 n

def nth (L : List Nat) (i : Nat) : Nat := L.getD i 0

structure MS where
  nv : Nat
  val : List Int
  trail : List Nat
  rsn : List (Option Nat)
  lits : Nat → List Nat
  word : Nat → Nat
  ids : List Nat
  wb : Nat → List (Nat × Nat)
  wl : Nat → List (Nat × Nat)
  orig : List Nat
  lrn : List Nat

def MS.va (m : MS) (v : Nat) : Int := m.val.getD v 0
def MS.ra (m : MS) (v : Nat) : Option Nat := m.rsn.getD v none

structure St extends MS where
  sb : Nat
  sc : List Value
  modelB : Nat
  actB : Nat
  polB : Nat
  assB : Nat
  rsnB : Nat
  wbHB : Nat
  wlHB : Nat
  pbHB : Nat
  amoHB : Nat
  tbufB : Nat
  trailV : Value
  origV : Value
  lrnV : Value
  qcV : Value
  qiV : Value
  wbV : Nat → Value
  wlV : Nat → Value
  litV : Nat → Value
  actC : Nat → Value
  actL : List Value
  polL : List Bool
  tbuf : List Value
  qc : List Nat
  qi : List Int
  status : Nat
  nbMax : Int
  idx : Int
  nconf : Int
  lbdN : Int
  lbdP : Int
  tdN : Int
  tdP : Int

inductive Role where
  | sol | model | trail | act | pol | ass | rsn | wbH | wlH | pbH | amoH | orig | lrn | qc | qi | tbuf
  | wb (l : Nat) | wl (l : Nat) | cl (c : Nat) | li (c : Nat)

def watchV : List (Nat × Nat) → List Value
  | [] => []
  | (b, c) :: r => i32 b :: ptrV (some c) :: watchV r

def St.row (s : St) : Role → Row
  | .sol => .one 77 5102 s.sb s.sc
  | .model => ⟨84, 1, slV s.modelB s.nv, s.nv, s.val.map i64⟩
  | .trail => ⟨82, 1, s.trailV, s.trail.length, s.trail.map i32⟩
  | .act => ⟨66, 1, slV s.actB s.nv, s.nv, s.actL⟩
  | .pol => ⟨4, 1, slV s.polB s.nv, s.nv, s.polL.map .bool⟩
  | .ass => ⟨4, 1, slV s.assB s.nv, s.nv, List.replicate s.nv (.bool false)⟩
  | .rsn => ⟨92, 1, slV s.rsnB s.nv, s.nv, s.rsn.map ptrV⟩
  | .wbH => ⟨105, 1, slV s.wbHB (s.nv * 2), s.nv * 2, (List.range (s.nv * 2)).map s.wbV⟩
  | .wlH => ⟨105, 1, slV s.wlHB (s.nv * 2), s.nv * 2, (List.range (s.nv * 2)).map s.wlV⟩
  | .pbH => ⟨52, 1, slV s.pbHB (s.nv * 2), s.nv * 2, List.replicate (s.nv * 2) (.slice none 0 0)⟩
  | .amoH => ⟨52, 1, slV s.amoHB (s.nv * 2), s.nv * 2, List.replicate (s.nv * 2) (.slice none 0 0)⟩
  | .orig => ⟨92, 1, s.origV, s.orig.length, s.orig.map (ptrV ∘ some)⟩
  | .lrn => ⟨92, 1, s.lrnV, s.lrn.length, s.lrn.map (ptrV ∘ some)⟩
  | .qc => ⟨3, 1, s.qcV, s.qc.length, s.qc.map fun (n : Nat) => i64 (n : Int)⟩
  | .qi => ⟨3, 1, s.qiV, s.qi.length, s.qi.map i64⟩
  | .tbuf => ⟨3, 1, slV s.tbufB s.nv, s.nv, s.tbuf⟩
  | .wb l => if l < s.nv * 2 then ⟨107, 2, s.wbV l, (s.wb l).length, watchV (s.wb l)⟩ else .nil 107 2
  | .wl l => if l < s.nv * 2 then ⟨107, 2, s.wlV l, (s.wl l).length, watchV (s.wl l)⟩ else .nil 107 2
  | .cl c => if c ∈ s.ids then .one 112 4 c [s.litV c, .int .u32 (s.word c), s.actC c, .pointer none] else .nil 112 4
  | .li c => if c ∈ s.ids then ⟨82, 1, s.litV c, (s.lits c).length, (s.lits c).map i32⟩ else .nil 82 1

structure Hd (s : St) : Prop where
  f1 : s.sc[1]? = some (.bool false)
  f3 : s.sc[3]? = some (.bool false)
  f4 : s.sc[4]? = some (i64 s.nv)
  f5 : s.sc[5]? = some (.int .u8 s.status)
  f6 : s.sc[6]? = some (i64 s.nbMax)
  f7 : s.sc[7]? = some (i64 s.idx)
  f8 : s.sc[8]? = some (slV s.wbHB (s.nv * 2))
  f9 : s.sc[9]? = some (slV s.wlHB (s.nv * 2))
  f10 : s.sc[10]? = some (slV s.pbHB (s.nv * 2))
  f11 : s.sc[11]? = some (slV s.amoHB (s.nv * 2))
  f12 : s.sc[12]? = some s.origV
  f13 : s.sc[13]? = some s.lrnV
  f14 : s.sc[14]? = some s.trailV
  f15 : s.sc[15]? = some (slV s.modelB s.nv)
  f17 : s.sc[17]? = some (slV s.actB s.nv)
  f18 : s.sc[18]? = some (slV s.polB s.nv)
  f19 : s.sc[19]? = some (slV s.assB s.nv)
  f20 : s.sc[20]? = some (slV s.rsnB s.nv)
  f21 : s.qiV ≠ .slice none 0 0 → s.sc[21]? = some (slV s.actB s.nv)
  f22 : s.sc[22]? = some s.qcV
  f23 : s.sc[23]? = some s.qiV
  f24 : ∃ b, s.sc[24]? = some (.float .f64 b) ∧ NN .f64 b
  f25 : ∃ b, s.sc[25]? = some (.float .f32 b) ∧ NN .f32 b
  f26 : ∃ n, s.sc[26]? = some (i64 n)
  f27 : ∃ n, s.sc[27]? = some (i64 n)
  f28 : s.sc[28]? = some (i64 s.lbdN)
  f29 : s.sc[29]? = some (i64 s.lbdP)
  f30 : ∃ b, s.sc[30]? = some (.float .f64 b)
  f31 : ∃ n, s.sc[31]? = some (i64 n)
  f32 : ∃ n, s.sc[32]? = some (i64 n)
  f33 : s.sc[33]? = some (i64 s.tdN)
  f34 : s.sc[34]? = some (i64 s.tdP)
  f35 : ∃ b, s.sc[35]? = some (.float .f64 b)
  f36 : ∀ j, 36 ≤ j → j < 5086 → ∃ n, s.sc[j]? = some (i64 n)
  f5087 : ∀ j, 5087 ≤ j → j < 5094 → j ≠ 5088 → ∃ n, s.sc[j]? = some (i64 n)
  f5088 : s.sc[5088]? = some (i64 s.nconf)
  f5094 : s.sc[5094]? = some (.slice none 0 0)
  f5097 : ∃ n, s.sc[5097]? = some (i64 n)
  f5098 : ∃ b, s.sc[5098]? = some (.float .f64 b) ∧ b ∈ decayL
  f5099 : s.sc[5099]? = some (slV s.tbufB s.nv)
  fact : ∀ x ∈ s.actL, isF64 x
  facc : ∀ c ∈ s.ids, isF32 (s.actC c)
  ftb : ∀ x ∈ s.tbuf, isI64 x

structure Rep (s : St) (w : World) : Prop where
  rows : Rows s.row w
  hd : Hd s

/-- what most of the steps leave as it is -/
def St.keep (s : St) := (s.sb, s.qc, s.qi, s.status, s.nbMax, s.idx, s.nconf, s.lbdN, s.lbdP, s.tdN, s.tdP, s.polL)

/-- from one state to the next, in memory -/
structure RT (s : St) (w : World) (s' : St) (w' : World) : Prop where
  tr : Tr s.row w s'.row w'
  hd : Hd s'
  kp : s'.keep = s.keep

theorem RT.sb {s s' : St} {w w' : World} (h : RT s w s' w') : s'.sb = s.sb := congrArg (fun p => p.1) h.kp
theorem RT.rep {s s' : St} {w w' : World} (h : RT s w s' w') : Rep s' w' := ⟨h.tr.rows, h.hd⟩
theorem RT.refl {s : St} {w : World} (h : Rep s w) : RT s w s w := ⟨Tr.refl h.rows, h.hd, rfl⟩
theorem RT.trans {s s1 s2 : St} {w w1 w2 : World} (h : RT s w s1 w1) (h' : RT s1 w1 s2 w2) : RT s w s2 w2 := ⟨h.tr.trans h'.tr, h'.hd, h'.kp.trans h.kp⟩
theorem RT.drewN {s s' : St} {w w' : World} (h : RT s w s' w') (n : Nat) : RT s w s' (w'.drewN n) := ⟨h.tr.drewN n, h.hd, h.kp⟩
theorem RT.drew {s s' : St} {w w' : World} (h : RT s w s' w') : RT s w s' w'.drew := ⟨h.tr.drew, h.hd, h.kp⟩
theorem RT.alloc {s s' : St} {w w' : World} (h : RT s w s' w') (o : Obj) : RT s w s' (w'.alloc o) := ⟨h.tr.alloc o, h.hd, h.kp⟩
theorem Rep.drewN {s : St} {w : World} (h : Rep s w) (n : Nat) : Rep s (w.drewN n) := ⟨h.rows.drewN n, h.hd⟩
theorem Rep.drew {s : St} {w : World} (h : Rep s w) : Rep s w.drew := h.drewN 1
theorem Rep.alloc {s : St} {w : World} (h : Rep s w) (o : Obj) : Rep s (w.alloc o) := ⟨h.rows.alloc o, h.hd⟩

section
variable {s : St} {w : World}

theorem own_slV (b n : Nat) : (slV b n).ownBlock = some b := rfl

theorem Rep.sc (h : Rep s w) {j : Nat} {u : Value} (hu : s.sc[j]? = some u) : w.cell? ⟨s.sb, j, none⟩ = some u := h.rows.cell .sol (b := s.sb) rfl hu
theorem Rep.scf (h : Rep s w) (j : Nat) : w.frozen? ⟨s.sb, j, none⟩ = false := h.rows.frozen .sol (b := s.sb) rfl j

theorem getElem?_map_getD {α : Type} (f : α → Value) (l : List α) (d : α) (j : Nat) (hj : j < l.length) : (l.map f)[j]? = some (f (l.getD j d)) := by
  simp [List.getD_eq_getElem?_getD, hj]

theorem Rep.val_len (h : Rep s w) : s.val.length = s.nv := by have := (h.rows.own .model).1; simpa [St.row] using this
theorem Rep.rsn_len (h : Rep s w) : s.rsn.length = s.nv := by have := (h.rows.own .rsn).1; simpa [St.row] using this
theorem Rep.act_len (h : Rep s w) : s.actL.length = s.nv := by have := (h.rows.own .act).1; simpa [St.row] using this
theorem Rep.pol_len (h : Rep s w) : s.polL.length = s.nv := by have := (h.rows.own .pol).1; simpa [St.row] using this

theorem Rep.val (h : Rep s w) {v : Nat} (hv : v < s.nv) : w.cell? ⟨s.modelB, v, none⟩ = some (.int .i64 (s.va v)) :=
  h.rows.cell .model (b := s.modelB) rfl (getElem?_map_getD i64 s.val 0 v (by rw [h.val_len]; exact hv))
theorem Rep.valf (h : Rep s w) (v : Nat) : w.frozen? ⟨s.modelB, v, none⟩ = false := h.rows.frozen .model (b := s.modelB) rfl v
theorem Rep.rsn (h : Rep s w) {v : Nat} (hv : v < s.nv) : w.cell? ⟨s.rsnB, v, none⟩ = some (ptrV (s.ra v)) :=
  h.rows.cell .rsn (b := s.rsnB) rfl (getElem?_map_getD ptrV s.rsn none v (by rw [h.rsn_len]; exact hv))
theorem Rep.rsnf (h : Rep s w) (v : Nat) : w.frozen? ⟨s.rsnB, v, none⟩ = false := h.rows.frozen .rsn (b := s.rsnB) rfl v
theorem Rep.ass (h : Rep s w) {v : Nat} (hv : v < s.nv) : w.cell? ⟨s.assB, v, none⟩ = some (.bool false) :=
  h.rows.cell .ass (b := s.assB) rfl (by simp [St.row, hv])
theorem Rep.wbH (h : Rep s w) {l : Nat} (hl : l < s.nv * 2) : w.cell? ⟨s.wbHB, l, none⟩ = some (s.wbV l) :=
  h.rows.cell .wbH (b := s.wbHB) rfl (by simp [St.row, hl])
theorem Rep.wlH (h : Rep s w) {l : Nat} (hl : l < s.nv * 2) : w.cell? ⟨s.wlHB, l, none⟩ = some (s.wlV l) :=
  h.rows.cell .wlH (b := s.wlHB) rfl (by simp [St.row, hl])
theorem Rep.wlHf (h : Rep s w) (l : Nat) : w.frozen? ⟨s.wlHB, l, none⟩ = false := h.rows.frozen .wlH (b := s.wlHB) rfl l
theorem Rep.wbHf (h : Rep s w) (l : Nat) : w.frozen? ⟨s.wbHB, l, none⟩ = false := h.rows.frozen .wbH (b := s.wbHB) rfl l
theorem Rep.pbH (h : Rep s w) {l : Nat} (hl : l < s.nv * 2) : w.cell? ⟨s.pbHB, l, none⟩ = some (.slice none 0 0) :=
  h.rows.cell .pbH (b := s.pbHB) rfl (by simp [St.row, hl])
theorem Rep.amoH (h : Rep s w) {l : Nat} (hl : l < s.nv * 2) : w.cell? ⟨s.amoHB, l, none⟩ = some (.slice none 0 0) :=
  h.rows.cell .amoH (b := s.amoHB) rfl (by simp [St.row, hl])

theorem watchV_get : ∀ (L : List (Nat × Nat)) (i : Nat), i < L.length → (watchV L)[2 * i]? = some (i32 (L.getD i (0, 0)).1) ∧ (watchV L)[2 * i + 1]? = some (ptrV (some (L.getD i (0, 0)).2))
  | [], i, h => by simp at h
  | (b, c) :: r, 0, _ => by simp [watchV]
  | (b, c) :: r, i + 1, h => by
    have := watchV_get r i (by simpa using h)
    have e : 2 * (i + 1) = 2 * i + 1 + 1 := by omega
    rw [e]
    simpa [watchV] using this
theorem watchV_len : ∀ (L : List (Nat × Nat)), (watchV L).length = 2 * L.length
  | [] => rfl
  | (b, c) :: r => by simp [watchV, watchV_len r]; omega
theorem watchV_append : ∀ (L M : List (Nat × Nat)), watchV (L ++ M) = watchV L ++ watchV M
  | [], M => rfl
  | (b, c) :: r, M => by simp [watchV, watchV_append r M]
theorem watchV_set : ∀ (L : List (Nat × Nat)) (i : Nat) (b c : Nat), ((watchV L).set (2 * i) (i32 b)).set (2 * i + 1) (ptrV (some c)) = watchV (L.set i (b, c))
  | [], i, b, c => by simp [watchV]
  | (b', c') :: r, 0, b, c => by simp [watchV]
  | (b', c') :: r, i + 1, b, c => by
    have e : 2 * (i + 1) = 2 * i + 1 + 1 := by omega
    rw [e]
    simp only [watchV, List.set_cons_succ]
    rw [watchV_set r i b c]
theorem watchV_take : ∀ (L : List (Nat × Nat)) (m : Nat), (watchV L).take (2 * m) = watchV (L.take m)
  | [], m => by simp [watchV]
  | (b, c) :: r, 0 => by simp [watchV]
  | (b, c) :: r, m + 1 => by
    have e : 2 * (m + 1) = 2 * m + 1 + 1 := by omega
    rw [e]; simp [watchV, watchV_take r m]

/-- a list's header and block: nil, or a block of its own -/
theorem Rows.open {ι : Type} {ρ : ι → Row} (h : Rows ρ w) (r : ι) (hn : 0 < (ρ r).n) : ∃ b cap, (ρ r).v = .slice (some ⟨b, 0, none⟩) (ρ r).n cap ∧ (ρ r).v.ownBlock = some b ∧ (ρ r).n ≤ cap ∧ cap ≤ maxLen := by
  obtain ⟨b, hb⟩ := h.pos r hn
  obtain ⟨cap, h1, h2, h3⟩ := h.form r hb
  exact ⟨b, cap, h1, hb, h2, h3⟩
/-- the header's form, nil or not -/
theorem Rows.shape {ι : Type} {ρ : ι → Row} (h : Rows ρ w) (r : ι) : ∃ p cap, (ρ r).v = .slice p (ρ r).n cap := by
  rcases (h.own r).2 with ⟨h', h2⟩ | ⟨g', cap', cur, h', _⟩
  · exact ⟨none, 0, by rw [h', h2]⟩
  · exact ⟨_, cap', h'⟩

theorem Rep.clc (h : Rep s w) {c : Nat} (hc : c ∈ s.ids) {j : Nat} {u : Value} (hu : [s.litV c, .int .u32 (s.word c), s.actC c, .pointer none][j]? = some u) : w.cell? ⟨c, j, none⟩ = some u :=
  h.rows.cell (.cl c) (b := c) (by simp [St.row, hc, Row.one, Value.ownBlock]) (by simpa [St.row, hc, Row.one] using hu)
theorem Rep.clf (h : Rep s w) {c : Nat} (hc : c ∈ s.ids) (j : Nat) : w.frozen? ⟨c, j, none⟩ = false :=
  h.rows.frozen (.cl c) (b := c) (by simp [St.row, hc, Row.one, Value.ownBlock]) j

/-- a clause's literals in memory -/
theorem Rep.lits (h : Rep s w) {c : Nat} (hc : c ∈ s.ids) (hn : 0 < (s.lits c).length) : ∃ b cap, s.litV c = .slice (some ⟨b, 0, none⟩) (s.lits c).length cap ∧ (s.lits c).length ≤ cap ∧ cap ≤ maxLen ∧
    (∀ i, i < (s.lits c).length → w.cell? ⟨b, i, none⟩ = some (.int .i32 (nth (s.lits c) i : Nat))) ∧ (∀ i, w.frozen? ⟨b, i, none⟩ = false) := by
  obtain ⟨b, cap, h1, h2, h3, h4⟩ := h.rows.open (.li c) (by simpa [St.row, hc] using hn)
  have e : (s.row (.li c)).v = s.litV c := by simp [St.row, hc]
  have en : (s.row (.li c)).n = (s.lits c).length := by simp [St.row, hc]
  rw [e, en] at h1
  refine ⟨b, cap, h1, by rw [← en]; exact h3, h4, fun i hi => ?_, fun i => h.rows.frozen (.li c) h2 i⟩
  exact h.rows.cell (.li c) h2 (by simp only [St.row, hc, if_true]; exact getElem?_map_getD i32 (s.lits c) 0 i hi)

end

/- stores -/
theorem map_set_c {α : Type} (f : α → Value) (l : List α) (j : Nat) (x : α) : (l.map f).set j (f x) = (l.set j x).map f := by rw [List.map_set]

def St.setVal (s : St) (v : Nat) (x : Int) : St := { s with val := s.val.set v x }
def St.setRsn (s : St) (v : Nat) (c : Option Nat) : St := { s with rsn := s.rsn.set v c }
def St.setWord (s : St) (c : Nat) (x : Nat) : St := { s with word := fun c' => if c' = c then x else s.word c' }
def St.setLits (s : St) (c : Nat) (L : List Nat) : St := { s with lits := fun c' => if c' = c then L else s.lits c' }
def St.setActC (s : St) (c : Nat) (x : Value) : St := { s with actC := fun c' => if c' = c then x else s.actC c' }
def St.setWl (s : St) (t : Nat) (L : List (Nat × Nat)) : St := { s with wl := fun t' => if t' = t then L else s.wl t' }

theorem Hd.congr {s s' : St} (h : Hd s) (e1 : s'.sc = s.sc) (e2 : s'.nv = s.nv) (e3 : s'.status = s.status) (e4 : s'.nbMax = s.nbMax) (e5 : s'.idx = s.idx)
    (e6 : s'.wbHB = s.wbHB) (e7 : s'.wlHB = s.wlHB) (e8 : s'.pbHB = s.pbHB) (e9 : s'.amoHB = s.amoHB) (e10 : s'.origV = s.origV) (e11 : s'.lrnV = s.lrnV)
    (e12 : s'.trailV = s.trailV) (e13 : s'.modelB = s.modelB) (e14 : s'.actB = s.actB) (e15 : s'.polB = s.polB) (e16 : s'.assB = s.assB) (e17 : s'.rsnB = s.rsnB)
    (e18 : s'.qcV = s.qcV) (e19 : s'.qiV = s.qiV) (e20 : s'.lbdN = s.lbdN) (e21 : s'.lbdP = s.lbdP) (e22 : s'.tdN = s.tdN) (e23 : s'.tdP = s.tdP) (e24 : s'.nconf = s.nconf)
    (e25 : s'.tbufB = s.tbufB) (a1 : ∀ x ∈ s'.actL, isF64 x) (a2 : ∀ c ∈ s'.ids, isF32 (s'.actC c)) (a3 : ∀ x ∈ s'.tbuf, isI64 x) : Hd s' := by
  obtain ⟨h1, h3, h4, h5, h6, h7, h8, h9, h10, h11, h12, h13, h14, h15, h17, h18, h19, h20, h21, h22, h23, h24, h25, h26, h27, h28, h29, h30, h31, h32, h33, h34, h35, h36, h5087, h5088, h5094, h5097, h5098, h5099, _, _, _⟩ := h
  constructor <;> first | assumption | (simp only [e1, e2, e3, e4, e5, e6, e7, e8, e9, e10, e11, e12, e13, e14, e15, e16, e17, e18, e19, e20, e21, e22, e23, e24, e25]; assumption)

section
variable {s : St} {w : World}
theorem Rep.setVal (h : Rep s w) (v : Nat) (x : Int) : RT s w (s.setVal v x) (w.setCell ⟨s.modelB, v, none⟩ (.int .i64 x)) :=
  ⟨h.rows.set .model rfl v (i64 x) (by simp [St.row, St.setVal, List.map_set]) (fun r hr => by cases r <;> first | rfl | contradiction),
   h.hd.congr rfl rfl rfl rfl rfl rfl rfl rfl rfl rfl rfl rfl rfl rfl rfl rfl rfl rfl rfl rfl rfl rfl rfl rfl rfl h.hd.fact h.hd.facc h.hd.ftb, rfl⟩
theorem Rep.setRsn (h : Rep s w) (v : Nat) (c : Option Nat) : RT s w (s.setRsn v c) (w.setCell ⟨s.rsnB, v, none⟩ (ptrV c)) :=
  ⟨h.rows.set .rsn rfl v (ptrV c) (by simp [St.row, St.setRsn, List.map_set]) (fun r hr => by cases r <;> first | rfl | contradiction),
   h.hd.congr rfl rfl rfl rfl rfl rfl rfl rfl rfl rfl rfl rfl rfl rfl rfl rfl rfl rfl rfl rfl rfl rfl rfl rfl rfl h.hd.fact h.hd.facc h.hd.ftb, rfl⟩
theorem Rep.setWord (h : Rep s w) {c : Nat} (hc : c ∈ s.ids) (x : Nat) : RT s w (s.setWord c x) (w.setCell ⟨c, 1, none⟩ (.int .u32 x)) :=
  ⟨h.rows.set (.cl c) (by simp [St.row, hc, Row.one, Value.ownBlock]) 1 (.int .u32 x) (by simp [St.row, St.setWord, hc, Row.one])
    (fun r hr => by
      cases r <;> first | rfl | skip
      rename_i c'
      have hne : c' ≠ c := fun e => hr (by rw [e])
      simp [St.row, St.setWord, hne]),
   h.hd.congr rfl rfl rfl rfl rfl rfl rfl rfl rfl rfl rfl rfl rfl rfl rfl rfl rfl rfl rfl rfl rfl rfl rfl rfl rfl h.hd.fact h.hd.facc h.hd.ftb, rfl⟩
theorem Rep.setActC (h : Rep s w) {c : Nat} (hc : c ∈ s.ids) (x : Value) (hx : isF32 x) : RT s w (s.setActC c x) (w.setCell ⟨c, 2, none⟩ x) :=
  ⟨h.rows.set (.cl c) (by simp [St.row, hc, Row.one, Value.ownBlock]) 2 x (by simp [St.row, St.setActC, hc, Row.one])
    (fun r hr => by
      cases r <;> first | rfl | skip
      rename_i c'
      have hne : c' ≠ c := fun e => hr (by rw [e])
      simp [St.row, St.setActC, hne]),
   h.hd.congr rfl rfl rfl rfl rfl rfl rfl rfl rfl rfl rfl rfl rfl rfl rfl rfl rfl rfl rfl rfl rfl rfl rfl rfl rfl h.hd.fact
     (fun c' hc' => by simp only [St.setActC]; split; exact hx; exact h.hd.facc c' hc') h.hd.ftb, rfl⟩
end

def St.setSc (s : St) (j : Nat) (v : Value) : St := { s with sc := s.sc.set j v }
/-- the trail with one literal more, and its header -/
def St.push (s : St) (l : Nat) (v : Value) : St := { s with trail := s.trail ++ [l], trailV := v, sc := s.sc.set 14 v }

theorem set_ne_get {α : Type} (L : List α) (i j : Nat) (v : α) (h : i ≠ j) : (L.set i v)[j]? = L[j]? := by
  rw [List.getElem?_set]; simp [h]
theorem set_eq_get {α : Type} (L : List α) (i : Nat) (v u : α) (h : L[i]? = some u) : (L.set i v)[i]? = some v := by
  have := (List.getElem?_eq_some_iff.1 h).1
  rw [List.getElem?_set]; simp [this]

theorem Hd.push {s : St} (h : Hd s) (l : Nat) (v : Value) : Hd (s.push l v) := by
  obtain ⟨h1, h3, h4, h5, h6, h7, h8, h9, h10, h11, h12, h13, h14, h15, h17, h18, h19, h20, h21, h22, h23, h24, h25, h26, h27, h28, h29, h30, h31, h32, h33, h34, h35, h36, h5087, h5088, h5094, h5097, h5098, h5099, ha, hb, hc⟩ := h
  constructor <;> simp only [St.push]
  case f14 => exact set_eq_get _ _ _ _ h14
  case f36 => intro j a b; rw [set_ne_get _ _ _ _ (by omega)]; exact h36 j a b
  case f5087 => intro j a b c; rw [set_ne_get _ _ _ _ (by omega)]; exact h5087 j a b c
  case fact => exact ha
  case facc => exact hb
  case ftb => exact hc
  all_goals
    (try rw [set_ne_get _ _ _ _ (by omega)])
    first | assumption | (simp only [set_ne_get _ 14 _ _ (by decide)]; assumption)

theorem Rep.push {s : St} {w w1 : World} (h : Rep s w) (l : Nat) {v' : Value} (ho : w1.ownsRow 0 82 1 v' (s.trail.length + 1) (s.trail.map i32 ++ [i32 l]))
    (hg : w.grownBy w1 s.trailV.ownBlock) (hf : v'.ownBlock = s.trailV.ownBlock ∨ ∃ b, v'.ownBlock = some b ∧ w.heap.size ≤ b) :
    (w1.cell? ⟨s.sb, 14, none⟩).isSome = true ∧ w1.frozen? ⟨s.sb, 14, none⟩ = false ∧ RT s w (s.push l v') (w1.setCell ⟨s.sb, 14, none⟩ v') := by
  let ρ1 : Role → Row := fun r => match r with | .trail => ⟨82, 1, v', s.trail.length + 1, s.trail.map i32 ++ [i32 l]⟩ | r => s.row r
  have t1 : Tr s.row w ρ1 w1 := h.rows.grow (ρ' := ρ1) .trail ho hg hf rfl (fun r hr => by cases r <;> first | rfl | contradiction)
  refine ⟨?_, t1.rows.frozen .sol (b := s.sb) rfl 14, ?_⟩
  · rw [t1.rows.cell .sol (b := s.sb) rfl (show (ρ1 .sol).xs[14]? = some s.trailV from h.hd.f14)]; rfl
  · refine ⟨t1.trans (t1.rows.set .sol rfl 14 v' rfl (fun r hr => ?_)), h.hd.push l v', rfl⟩
    cases r <;> first | contradiction | rfl | skip
    simp [St.row, St.push, ρ1]

end Go.Proofs.YtiimddkopiknpaaGreatDoor

/-
  Small functions: literals, levels, a clause's fields.
-/
namespace Go.Proofs.YtiimddkopiknpaaGreatDoor
open Go.RowKit

def negL (l : Nat) : Nat := if l % 2 = 0 then l + 1 else l - 1
theorem negL_xor (l : Nat) : l ^^^ 1 = negL l := by
  apply Nat.eq_of_testBit_eq
  intro i
  unfold negL
  cases i with
  | zero =>
    rw [Nat.testBit_xor]
    by_cases h : l % 2 = 0
    · have h1 : (l + 1) % 2 = 1 := by omega
      rw [if_pos h]; simp [Nat.testBit_zero, h, h1]
    · have h1 : (l - 1) % 2 = 0 := by omega
      have h2 : l % 2 = 1 := by omega
      rw [if_neg h]; simp [Nat.testBit_zero, h1, h2]
  | succ i =>
    rw [Nat.testBit_xor, Nat.testBit_succ, Nat.testBit_succ, Nat.testBit_succ]
    have : (1 / 2 : Nat) = 0 := rfl
    rw [this, Nat.zero_testBit, Bool.xor_false]
    congr 1
    split <;> omega
theorem ofInt_i32 (a : Nat) (ha : a < 2147483648) : (BitVec.ofInt 32 (a : Int)).toNat = a := by
  rw [BitVec.toNat_ofInt]; omega
theorem bits_neg (l : Nat) (hl : l < 2147483648) : bits .xor .i32 (l : Int) 1 = (negL l : Int) := by
  have hn : negL l < 2147483648 := by unfold negL; split <;> omega
  show IntKind.i32.wrap ((BitVec.ofInt 32 (l : Int) ^^^ BitVec.ofInt 32 ((1 : Nat) : Int)).toNat : Int) = _
  rw [BitVec.toNat_xor, ofInt_i32 l hl, ofInt_i32 1 (by omega), negL_xor]
  exact IntWalk.i32_in _ (by omega)
theorem bits_one (l : Nat) (hl : l < 2147483648) : bits .and .i32 (l : Int) 1 = ((l % 2 : Nat) : Int) := by
  show IntKind.i32.wrap ((BitVec.ofInt 32 (l : Int) &&& BitVec.ofInt 32 ((1 : Nat) : Int)).toNat : Int) = _
  rw [BitVec.toNat_and, ofInt_i32 l hl, ofInt_i32 1 (by omega), Nat.and_one_is_mod]
  exact IntWalk.i32_in _ (by omega)

theorem Calls.ret {P : Program} {f : FuncId} {args : Array Value} {w : World} {v : Value} {R : Ending → World → Prop}
    (h : Calls P f args w fun e w' => e = .returned v ∧ w' = w) (hR : R (.returned v) w) : Calls P f args w R :=
  h.mono fun e w' ⟨he, hw⟩ => by rw [he, hw]; exact hR
theorem Calls.retq {P : Program} {f : FuncId} {args : Array Value} {w : World} {v : Value} {R : Ending → World → Prop}
    (h : Calls P f args w fun e w' => e = .returned v ∧ ∃ q, w' = w.drewN q) (hR : ∀ q, R (.returned v) (w.drewN q)) : Calls P f args w R :=
  h.mono fun e w' ⟨he, q, hw⟩ => by rw [he, hw]; exact hR q

section
set_option maxHeartbeats 400000
theorem Var_c (l : Nat) (w : World) (hl : l < 2147483648) :
    Calls Tryz.prog 29 #[.int .i32 (l : Int)] w fun e w' => e = .returned (.int .i32 ((l / 2 : Nat) : Int)) ∧ w' = w := by
  go_enter Tryz.func29, Tryz.ntmps29
  go_wp2
  go_ret
  exact ⟨by simp, rfl⟩
theorem Neg_c (l : Nat) (w : World) (hl : l < 2147483648) :
    Calls Tryz.prog 53 #[.int .i32 (l : Int)] w fun e w' => e = .returned (.int .i32 (negL l : Int)) ∧ w' = w := by
  have hb := Lib.hid (bits_neg l hl)
  go_enter Tryz.func53, Tryz.ntmps53
  go_wp2
  go_ret
  exact ⟨by simp [hb.out], rfl⟩
theorem Pos_c (l : Nat) (w : World) (hl : l < 2147483648) :
    Calls Tryz.prog 28 #[.int .i32 (l : Int)] w fun e w' => e = .returned (.bool (decide (l % 2 = 0))) ∧ w' = w := by
  go_enter Tryz.func28, Tryz.ntmps28
  go_wp2
  go_ret
  exact ⟨by simp; rw [Bool.eq_iff_iff]; simp; omega, rfl⟩
theorem abs_c (x : Int) (w : World) (hl : -1000000 < x) (hu : x < 1000000) :
    Calls Tryz.prog 71 #[.int .i64 x] w fun e w' => e = .returned (.int .i64 (x.natAbs : Int)) ∧ w' = w := by
  go_enter Tryz.func71, Tryz.ntmps71
  go_wp2
  all_goals
    go_ret
    exact ⟨by simp; omega, rfl⟩
def sgn (l : Nat) (lvl : Int) : Int := if l % 2 = 0 then lvl else -lvl
theorem sgn_c (l : Nat) (lvl : Int) (w : World) (hl : l < 2147483648) (h0 : 0 ≤ lvl) (h1 : lvl < 1000000) :
    Calls Tryz.prog 76 #[.int .i32 (l : Int), .int .i64 lvl] w fun e w' => e = .returned (.int .i64 (sgn l lvl)) ∧ w' = w := by
  by_cases hp : l % 2 = 0
  all_goals
    have hd : sgn l lvl = if l % 2 = 0 then lvl else -lvl := rfl
    simp only [hp, if_true, if_false] at hd
    have hd' := Lib.hid hd
    clear hd
    go_enter Tryz.func76, Tryz.ntmps76
    go_wp2_with (go_at_call 28; refine (Pos_c _ _ hl).mono ?_; rintro e w' ⟨rfl, rfl⟩)
    all_goals
      go_ret
      exact ⟨by simp [hd'.out], rfl⟩

/-- a clause's literals as they lie in memory, to be read -/
structure ClAt (w : World) (c : Nat) (L : List Nat) (b cap : Nat) : Prop where
  hd : w.cell? ⟨c, 0, none⟩ = some (.slice (some ⟨b, 0, none⟩) L.length cap)
  at_ : ∀ i, i < L.length → w.cell? ⟨b, i, none⟩ = some (.int .i32 (nth L i : Nat))
  small : L.length ≤ 1000000

theorem Len_c {c : Nat} {L : List Nat} {b cap : Nat} {w : World} (h : ClAt w c L b cap) :
    Calls Tryz.prog 50 #[.pointer (some ⟨c, 0, none⟩)] w fun e w' => e = .returned (.int .i64 (L.length : Int)) ∧ w' = w := by
  have h1 := h.hd
  have h2 := h.small
  go_enter Tryz.func50, Tryz.ntmps50
  go_wp2
  go_ret
  exact ⟨rfl, rfl⟩
theorem Get_c {c : Nat} {L : List Nat} {b cap : Nat} {w : World} (h : ClAt w c L b cap) (i : Nat) (hi : i < L.length) :
    Calls Tryz.prog 52 #[.pointer (some ⟨c, 0, none⟩), .int .i64 (i : Int)] w fun e w' => e = .returned (.int .i32 (nth L i : Nat)) ∧ w' = w := by
  have h1 := h.hd
  have h2 := h.at_ i hi
  go_enter Tryz.func52, Tryz.ntmps52
  go_wp2
  go_ret
  exact ⟨rfl, rfl⟩
theorem First_c {c : Nat} {L : List Nat} {b cap : Nat} {w : World} (h : ClAt w c L b cap) (hi : 0 < L.length) :
    Calls Tryz.prog 54 #[.pointer (some ⟨c, 0, none⟩)] w fun e w' => e = .returned (.int .i32 (nth L 0 : Nat)) ∧ w' = w := by
  have h1 := h.hd
  have h2 := h.at_ 0 hi
  go_enter Tryz.func54, Tryz.ntmps54
  go_wp2
  go_ret
  exact ⟨rfl, rfl⟩
theorem Second_c {c : Nat} {L : List Nat} {b cap : Nat} {w : World} (h : ClAt w c L b cap) (hi : 1 < L.length) :
    Calls Tryz.prog 55 #[.pointer (some ⟨c, 0, none⟩)] w fun e w' => e = .returned (.int .i32 (nth L 1 : Nat)) ∧ w' = w := by
  have h1 := h.hd
  have h2 := h.at_ 1 hi
  go_enter Tryz.func55, Tryz.ntmps55
  go_wp2
  go_ret
  exact ⟨rfl, rfl⟩
theorem PB_c {c : Nat} {w : World} (h : w.cell? ⟨c, 3, none⟩ = some (.pointer none)) :
    Calls Tryz.prog 47 #[.pointer (some ⟨c, 0, none⟩)] w fun e w' => e = .returned (.bool false) ∧ w' = w := by
  go_enter Tryz.func47, Tryz.ntmps47
  go_wp2
  go_ret
  exact ⟨rfl, rfl⟩
theorem u32_top (x : Nat) (hx : x < 4294967296) : (bits .and .u32 (x : Int) 2147483648 == 2147483648) = decide (2147483648 ≤ x) := by
  rw [show (2147483648 : Int) = ((2147483648 : Nat) : Int) from rfl, u32_and_nat x 2147483648 hx (by omega)]
  have : x &&& 2147483648 = if 2147483648 ≤ x then 2147483648 else 0 := by
    have hq : x / 2 ^ 31 < 2 := by omega
    have e : x &&& 2 ^ 31 = 2 ^ 31 * (x / 2 ^ 31 % 2) := by
      apply Nat.eq_of_testBit_eq
      intro i
      rw [Nat.testBit_and, Nat.testBit_two_pow, Nat.testBit_two_pow_mul]
      by_cases hi : 31 = i
      · subst hi; simp [Nat.testBit_eq_decide_div_mod_eq]
      · by_cases hi2 : 31 ≤ i
        · have : i - 31 ≠ 0 := by omega
          have e2 : (x / 2 ^ 31 % 2).testBit (i - 31) = false := by
            apply Nat.testBit_lt_two_pow
            have : 2 ^ 1 ≤ 2 ^ (i - 31) := Nat.pow_le_pow_right (by omega) (by omega)
            omega
          simp [hi, e2]
        · simp [hi, hi2]
    rw [show (2147483648 : Nat) = 2 ^ 31 from rfl, e]
    split <;> omega
  rw [this]
  by_cases h : 2147483648 ≤ x <;> simp [h]
theorem Learned_c {c x : Nat} {w : World} (h : w.cell? ⟨c, 1, none⟩ = some (.int .u32 (x : Int))) (hx : x < 4294967296) :
    Calls Tryz.prog 86 #[.pointer (some ⟨c, 0, none⟩)] w fun e w' => e = .returned (.bool (decide (2147483648 ≤ x))) ∧ w' = w := by
  have H := Lib.hid (u32_top x hx)
  go_enter Tryz.func86, Tryz.ntmps86
  go_wp2
  go_ret
  exact ⟨by simp only [← H.out]; rfl, rfl⟩
theorem Lock_c {c x : Nat} {w : World} (h : w.cell? ⟨c, 1, none⟩ = some (.int .u32 (x : Int))) (hf : w.frozen? ⟨c, 1, none⟩ = false) (hx : x < 4294967296) :
    Calls Tryz.prog 80 #[.pointer (some ⟨c, 0, none⟩)] w fun e w' => e = .returned (.tuple #[]) ∧ w' = w.setCell ⟨c, 1, none⟩ (.int .u32 ((x ||| 1073741824 : Nat) : Int)) := by
  have hb : bits .or .u32 (x : Int) 1073741824 = ((x ||| 1073741824 : Nat) : Int) := u32_or_nat x 1073741824 hx (by omega)
  have H := Lib.hid hb
  clear hb
  go_enter Tryz.func80, Tryz.ntmps80
  go_wp2
  go_end0
  exact ⟨rfl, by simp only [H.out]⟩
end
end Go.Proofs.YtiimddkopiknpaaGreatDoor

/-
  A region that draws its order, whose reading operations may be taken first: the few that make memory behind them, in their order, the rest in a row.
-/
namespace Go.Proofs.YtiimddkopiknpaaGreatDoor
open Go.RowKit

def noQ : Exit → Act → World → Prop := fun _ _ _ => False

section
variable {P : Program} {ops : Array Oper} {md : Region.Mode} {C : World → Prop} {n : Nat}

def YieldsC (P : Program) (ops : Array Oper) (C : World → Prop) (o : Oper) (v : Value) (a : Act) : Prop :=
  (Region.wanted o (yielded ops a.tmps) = true ∧ ∀ w, C w → Oper.quietUpon P (fun w'' => w'' = w) w v ((execOp a.eval o).run P w)) ∨
  (Region.wanted o (yielded ops a.tmps) = false ∧ v = undef)

theorem YieldsC.of_same {o : Oper} {v : Value} {a a' : Act} (hy : YieldsC P ops C o v a) (he : execOp a'.eval o = execOp a.eval o)
    (hw : Region.wanted o (yielded ops a'.tmps) = Region.wanted o (yielded ops a.tmps)) : YieldsC P ops C o v a' := by
  unfold YieldsC at *
  rw [he, hw]
  exact hy

theorem YieldsC.wpOp {Q : Exit → Act → World → Prop} {i : Nat} {o : Oper} {v : Value} {a : Act} (hi : ops[i]? = some o) (hy : YieldsC P ops C o v a) {K : Act → World → Prop} {w : World} (hC : C w)
    (h : K (a.put o.dst v) w) : wpOp P ops Q i K a w := by
  unfold Go.wpOp
  simp only [hi]
  rcases hy with ⟨hw, hv⟩ | ⟨hw, rfl⟩
  · simp only [hw, if_true]
    refine .inl ?_
    have h3 := hv w hC
    unfold Oper.wp
    generalize (execOp a.eval o).run P w = r at *
    cases r with
    | ok n w' =>
      cases n <;> simp only [Oper.quietUpon] at h3 <;> simp only [Oper.upon]
      case value u => obtain ⟨e1, e2⟩ := h3; rw [e1, e2]; exact h
      case skip => obtain ⟨e1, e2⟩ := h3; rw [e1, ← e2]; exact h
      case enter f args =>
        obtain ⟨e1, hc⟩ := h3
        rw [e1]
        exact hc.mono fun e w'' ⟨he, hw''⟩ => by subst he; subst hw''; exact h
    | halt x w' => simp only [Oper.quietUpon] at h3
  · simp only [hw, Bool.false_eq_true, if_false]; exact h

theorem wpOp_putC {j : Nat} {oi oj : Oper} {v : Value} (hj : ops[j]? = some oj) (hap : oi.apart ops oj = true)
    (hsi : ∀ cs b, oi.op ≠ .select cs b) (hsj : ∀ cs b, oj.op ≠ .select cs b) {K : Act → World → Prop} {a : Act} {w : World}
    (hy : YieldsC P ops C oi v a) (h : wpOp P ops noQ j K (a.put oi.dst v) w) :
    wpOp P ops noQ j (fun a' w' => YieldsC P ops C oi v a' ∧ K (a'.put oi.dst v) w') a w := by
  obtain ⟨h1, h2, h3⟩ := Oper.apart_spec hap
  have keep : ∀ (a : Act), YieldsC P ops C oi v a → ∀ u, YieldsC P ops C oi v (a.put oj.dst u) := fun a hy u =>
    hy.of_same (execOp_put oi hsi a oj.dst u h3) (wanted_put oi a oj.dst u h3)
  have keepD : ∀ d, YieldsC P ops C oi v { a with defers := d :: a.defers } := fun d => hy.of_same rfl rfl
  unfold wpOp at *
  simp only [hj] at *
  rw [wanted_put oj a oi.dst v h1] at h
  split
  · rename_i hw
    simp only [hw, if_true] at h
    rcases h with h | ⟨_, a₀, w₀, hq⟩
    case inr => exact hq.elim
    refine .inl ?_
    unfold Oper.wp at *
    rw [execOp_put oj hsj a oi.dst v h1] at h
    generalize (execOp a.eval oj).run P w = r at *
    cases r with
    | ok n w' =>
      cases n <;> simp only [Oper.upon] at h ⊢
      case value u => exact ⟨keep a hy u, by rw [← Act.put_comm a v u h2]; exact h⟩
      case skip => exact ⟨keep a hy _, by rw [← Act.put_comm a v undef h2]; exact h⟩
      case defer d =>
        refine ⟨keep _ (keepD d) _, ?_⟩
        rw [← Act.put_comm _ v undef h2, ← Act.put_defers]
        exact h
      case enter f args =>
        refine Calls.mono h fun e w'' he => ?_
        cases e with
        | returned u => exact ⟨keep a hy u, by rw [← Act.put_comm a v u h2]; exact he⟩
        | panicked c => exact he
        | outgrown => exact he
      case row row args => exact Go.Rows.mono h fun u w'' he => ⟨keep a hy u, by rw [← Act.put_comm a v u h2]; exact he⟩
    | halt x w' =>
      cases x <;> simp only [Oper.upon] at h ⊢
      case panic u => exact h
  · rename_i hw
    simp only [hw] at h
    exact ⟨keep a hy _, by rw [← Act.put_comm a v undef h2]; exact h⟩

theorem wpOp_noQ {Q : Exit → Act → World → Prop} {i : Nat} {a : Act} {w : World} {K K' : Act → World → Prop} (h : ∀ a w, K a w → K' a w)
    (hh : wpOp P ops noQ i K a w) : wpOp P ops Q i K' a w := by
  unfold wpOp at *
  split
  · rename_i ho; simp only [ho] at hh; exact h _ _ hh
  · rename_i o ho
    simp only [ho] at hh
    split
    · rename_i hw
      simp only [hw, if_true] at hh
      rcases hh with hh | ⟨_, a₀, w₀, hq⟩
      case inr => exact hq.elim
      refine .inl ?_
      unfold Oper.wp at *
      generalize (execOp a.eval o).run P w = r at *
      cases r with
      | ok n w' =>
        cases n <;> simp only [Oper.upon] at hh ⊢
        case value u => exact h _ _ hh
        case skip => exact h _ _ hh
        case defer d => exact h _ _ hh
        case enter f args =>
          refine Calls.mono hh fun e w'' he => ?_
          cases e with
          | returned u => exact h _ _ he
          | panicked c => exact he.elim
          | outgrown => obtain ⟨a₀, w₀, hq⟩ := he; exact hq.elim
        case row row args => exact Go.Rows.mono hh fun u w'' he => h _ _ he
      | halt x w' =>
        cases x <;> simp only [Oper.upon] at hh ⊢
        case panic u => exact hh.elim
    · rename_i hw; simp only [hw] at hh; exact h _ _ hh

def wpAnyC (P : Program) (md : Region.Mode) (ops : Array Oper) (C : World → Prop) (n : Nat) (Qn : Act → World → Prop) : Nat → Array Bool → Act → World → Prop
  | 0, listed, a, w => Region.ready md ops listed = [] ∧ Qn a w
  | fuel + 1, listed, a, w =>
    (Region.ready md ops listed = [] → Qn a w) ∧
    ∀ i ∈ Region.ready md ops listed, wpOp P ops noQ i (fun a' w' => (i < n → C w') ∧ wpAnyC P md ops C n Qn fuel (listed.setIfInBounds i true) a' w') a w

theorem wpAny_of_C {Qn : Act → World → Prop} {Q : Exit → Act → World → Prop} (hQ : ∀ a w, Qn a w → Q .normal a w) : ∀ (fuel : Nat) (listed : Array Bool) (a : Act) (w : World),
    wpAnyC P md ops C n Qn fuel listed a w → wpAny P md ops Q fuel listed a w
  | 0, _, _, _, h => ⟨h.1, hQ _ _ h.2⟩
  | fuel + 1, _, _, _, h => ⟨fun h0 => hQ _ _ (h.1 h0), fun i hi => wpOp_noQ (fun a' w' h' => wpAny_of_C hQ fuel _ a' w' h'.2) (h.2 i hi)⟩

theorem wpAnyC_first {Qn : Act → World → Prop} {i : Nat} {oi : Oper} {v : Value} (hi : ops[i]? = some oi) (hsel : ∀ (j : Nat) (o : Oper) cs b, ops[j]? = some o → o.op ≠ .select cs b)
    (htail : ∀ j oj, ops[j]? = some oj → n ≤ j → ∃ e ∈ oj.after, Region.binds md e = true ∧ e.on = i) :
    ∀ (fuel : Nat) (listed : Array Bool) (a : Act) (w : World),
      (∀ j oj, ops[j]? = some oj → j ≠ i → listed.getD j true = false → (∀ e ∈ oj.after, Region.binds md e = true → e.on ≠ i) → oi.apart ops oj = true) →
      i ∈ Region.ready md ops listed → YieldsC P ops C oi v a → C w →
      wpAnyC P md ops C n Qn fuel (listed.setIfInBounds i true) (a.put oi.dst v) w → wpAnyC P md ops C n Qn (fuel + 1) listed a w := by
  intro fuel
  induction fuel with
  | zero =>
    intro listed a w _ hr hy hC H
    refine ⟨fun h => (by rw [h] at hr; cases hr), fun j hj => ?_⟩
    by_cases hji : j = i
    · subst hji; exact hy.wpOp hi hC ⟨fun _ => hC, H⟩
    · have := ready_mono hj hji
      rw [H.1] at this
      cases this
  | succ fuel ih =>
    intro listed a w hfree hr hy hC H
    refine ⟨fun h => (by rw [h] at hr; cases hr), fun j hj => ?_⟩
    by_cases hji : j = i
    · subst hji; exact hy.wpOp hi hC ⟨fun _ => hC, H⟩
    · have h1 := H.2 j (ready_mono hj hji)
      obtain ⟨hjun, oj, hoj, hall⟩ := mem_ready.1 hj
      have hnot : ∀ e ∈ oj.after, Region.binds md e = true → e.on ≠ i := fun e he hb heq => by
        have h1 := hall e he hb
        have h0 := (mem_ready.1 hr).1
        rw [heq] at h1
        rcases Nat.lt_or_ge i listed.size with h' | h'
        · simp [h'] at h0 h1; rw [h0] at h1; cases h1
        · simp [Array.getElem?_eq_none h'] at h1
      have hjn : j < n := by
        rcases Nat.lt_or_ge j n with h' | h'
        · exact h'
        · obtain ⟨e, he, hb, heq⟩ := htail j oj hoj h'
          exact absurd heq (hnot e he hb)
      have h2 := wpOp_putC hoj (hfree j oj hoj hji hjun hnot) (fun cs b => hsel i oi cs b hi) (fun cs b => hsel j oj cs b hoj) hy h1
      have hfree' : ∀ k ok, ops[k]? = some ok → k ≠ i → (listed.setIfInBounds j true).getD k true = false →
          (∀ e ∈ ok.after, Region.binds md e = true → e.on ≠ i) → oi.apart ops ok = true := fun k ok hk hki hun hno => by
        refine hfree k ok hk hki ?_ hno
        by_cases hjk : j = k
        · subst hjk; exact hjun
        · rw [getD_set_ne true hjk] at hun; exact hun
      refine wpOp_noQ (fun a' w' h3 => ⟨h3.2.1, ih (listed.setIfInBounds j true) a' w' hfree' (ready_mono hr (Ne.symm hji)) h3.1 (h3.2.1 hjn) ?_⟩) h2
      rw [Array.setIfInBounds_comm _ _ hji]
      exact h3.2.2

/-- the reading operations, one by one -/
def wpFirst (P : Program) (ops : Array Oper) (C : World → Prop) (Q : Act → Prop) : List Oper → Act → Prop
  | [], a => Q a
  | o :: rest, a => ∃ v, YieldsC P ops C o v a ∧ wpFirst P ops C Q rest (a.put o.dst v)
/-- those that make memory -/
def wpActs (P : Program) (ops : Array Oper) (C : World → Prop) (K : Act → World → Prop) : List Oper → Act → World → Prop
  | [], a, w => K a w
  | o :: rest, a, w => wpList P ops (Exit.then (fun a' w' => C w' ∧ wpActs P ops C K rest a' w') noQ) [o] a w

def firstSeq (md : Region.Mode) (ops : Array Oper) (n : Nat) : List Nat → Array Bool → Bool
  | [], listed => Region.seqB md ops (ops.size - n) n listed
  | i :: A, listed => decide (Region.ready md ops listed = [i]) && decide (i < n) && firstSeq md ops n A (listed.setIfInBounds i true)
def firstGo (md : Region.Mode) (ops : Array Oper) (n : Nat) (A : List Nat) : List Nat → Array Bool → Bool
  | [], listed => firstSeq md ops n A listed
  | i :: H, listed => (Region.ready md ops listed).contains i && Region.free md ops listed i && firstGo md ops n A H (listed.setIfInBounds i true)
def firstTail (md : Region.Mode) (ops : Array Oper) (n : Nat) (H : List Nat) : Bool :=
  H.all fun i => (List.range ops.size).all fun j => decide (j < n) || Region.waitsFor md ops j i
def firstB (md : Region.Mode) (ops : Array Oper) (n : Nat) (H A : List Nat) : Bool :=
  Region.noSelect ops && decide (n ≤ ops.size) && decide (H.length + A.length = n) && firstTail md ops n H && firstGo md ops n A H (Array.replicate ops.size false)

theorem wpAnyC_of_seq {Qn : Act → World → Prop} : ∀ (l : List Oper) (k : Nat) (listed : Array Bool) (a : Act) (w : World), n ≤ k → (∀ j, l[j]? = ops[k + j]?) →
    Region.seqB md ops l.length k listed = true → wpList P ops (Exit.then Qn noQ) l a w → wpAnyC P md ops C n Qn l.length listed a w
  | [], _, _, _, _, _, _, hB, h => ⟨by simpa [Region.seqB] using hB, h⟩
  | o :: l, k, listed, a, w, hnk, hl, hB, h => by
    have h0 : ops[k]? = some o := by simpa using (hl 0).symm
    simp only [List.length_cons, Region.seqB, Bool.and_eq_true, decide_eq_true_eq] at hB
    refine ⟨fun h1 => (by rw [hB.1] at h1; cases h1), fun i hi => ?_⟩
    rw [hB.1] at hi
    have hik : i = k := by simpa using hi
    subst hik
    have hw : wpOp P ops (Exit.then Qn noQ) i (wpList P ops (Exit.then Qn noQ) l) a w := by unfold wpOp; simp only [h0]; exact h
    have hw' : wpOp P ops noQ i (wpList P ops (Exit.then Qn noQ) l) a w := by
      unfold wpOp at *
      simp only [h0] at *
      split
      · rename_i hwt
        simp only [hwt, if_true] at hw
        rcases hw with hw | ⟨_, a₀, w₀, hq⟩
        case inr => exact hq.elim
        refine .inl ?_
        unfold Oper.wp at *
        generalize (execOp a.eval o).run P w = r at *
        cases r with
        | ok n w' =>
          cases n <;> simp only [Oper.upon] at hw ⊢
          case value u => exact hw
          case skip => exact hw
          case defer d => exact hw
          case enter f args =>
            refine Calls.mono hw fun e w'' he => ?_
            cases e with
            | returned u => exact he
            | panicked c => exact he
            | outgrown => obtain ⟨a₀, w₀, hq⟩ := he; exact hq.elim
          case row row args => exact hw
        | halt x w' =>
          cases x <;> simp only [Oper.upon] at hw ⊢
          case panic u => exact hw
      · rename_i hwt; simp only [hwt] at hw; exact hw
    exact wpOp_noQ (fun a' w' h' => ⟨fun hlt => by omega, wpAnyC_of_seq l (i + 1) _ a' w' (by omega) (fun j => by have := hl (j + 1); simpa [Nat.add_assoc, Nat.add_comm 1 j] using this) hB.2 h'⟩) hw'

theorem wpAnyC_of_acts {Qn : Act → World → Prop} {l : List Oper} (hl : ∀ j, l[j]? = ops[n + j]?) (hlen : l.length = ops.size - n) : ∀ (A : List Nat) (opsL : List Oper) (listed : Array Bool) (a : Act) (w : World),
    A.map (fun i => ops[i]?) = opsL.map some → firstSeq md ops n A listed = true →
    wpActs P ops C (wpList P ops (Exit.then Qn noQ) l) opsL a w → wpAnyC P md ops C n Qn (A.length + l.length) listed a w
  | [], [], listed, a, w, _, hB, h => by
    simp only [List.length_nil, Nat.zero_add]
    exact wpAnyC_of_seq l n listed a w (Nat.le_refl _) hl (by rw [hlen]; exact hB) h
  | [], _ :: _, _, _, _, he, _, _ => by simp at he
  | _ :: _, [], _, _, _, he, _, _ => by simp at he
  | i :: A, o :: opsL, listed, a, w, he, hB, h => by
    simp only [List.map_cons, List.cons.injEq] at he
    simp only [firstSeq, Bool.and_eq_true, decide_eq_true_eq] at hB
    have e : (i :: A).length + l.length = (A.length + l.length) + 1 := by simp only [List.length_cons]; omega
    rw [e]
    refine ⟨fun h1 => (by rw [hB.1.1] at h1; cases h1), fun j hj => ?_⟩
    rw [hB.1.1] at hj
    have hji : j = i := by simpa using hj
    subst hji
    have h' : wpList P ops (Exit.then (fun a' w' => C w' ∧ wpActs P ops C (wpList P ops (Exit.then Qn noQ) l) opsL a' w') noQ) [o] a w := h
    unfold wpOp
    simp only [he.1]
    unfold wpList at h'
    split
    · rename_i hwt
      simp only [hwt, if_true] at h'
      rcases h' with h' | ⟨_, a₀, w₀, hq⟩
      case inr => exact hq.elim
      refine .inl ?_
      have key : ∀ a' w', wpList P ops (Exit.then (fun a' w' => C w' ∧ wpActs P ops C (wpList P ops (Exit.then Qn noQ) l) opsL a' w') noQ) [] a' w' →
          (j < n → C w') ∧ wpAnyC P md ops C n Qn (A.length + l.length) (listed.setIfInBounds j true) a' w' := fun a' w' hh => by
        have hh' : C w' ∧ wpActs P ops C (wpList P ops (Exit.then Qn noQ) l) opsL a' w' := hh
        exact ⟨fun _ => hh'.1, wpAnyC_of_acts hl hlen A opsL _ a' w' he.2 hB.2 hh'.2⟩
      unfold Oper.wp at *
      generalize (execOp a.eval o).run P w = r at *
      cases r with
      | ok n w' =>
        cases n <;> simp only [Oper.upon] at h' ⊢
        case value u => exact key _ _ h'
        case skip => exact key _ _ h'
        case defer d => exact key _ _ h'
        case enter f args =>
          refine Calls.mono h' fun e w'' he => ?_
          cases e with
          | returned u => exact key _ _ he
          | panicked c => exact he
          | outgrown => obtain ⟨a₀, w₀, hq⟩ := he; exact hq.elim
        case row row args => exact Go.Rows.mono h' fun u w'' he => key _ _ he
      | halt x w' =>
        cases x <;> simp only [Oper.upon] at h' ⊢
        case panic u => exact h'
    · rename_i hwt
      simp only [hwt] at h'
      have hh' : C w ∧ wpActs P ops C (wpList P ops (Exit.then Qn noQ) l) opsL (a.put o.dst undef) w := h'
      exact ⟨fun _ => hh'.1, wpAnyC_of_acts hl hlen A opsL _ _ w he.2 hB.2 hh'.2⟩

theorem wpAnyC_of_first {Qn : Act → World → Prop} {l : List Oper} (hl : ∀ j, l[j]? = ops[n + j]?) (hlen : l.length = ops.size - n) (hsel : Region.noSelect ops = true) {A : List Nat} {opsL : List Oper} (hA : A.map (fun i => ops[i]?) = opsL.map some) {w : World} (hC : C w) :
    ∀ (H : List Nat) (hs : List Oper) (listed : Array Bool) (a : Act),
    H.map (fun i => ops[i]?) = hs.map some → firstTail md ops n H = true → firstGo md ops n A H listed = true →
    wpFirst P ops C (fun a' => wpActs P ops C (wpList P ops (Exit.then Qn noQ) l) opsL a' w) hs a → wpAnyC P md ops C n Qn (H.length + (A.length + l.length)) listed a w
  | [], [], listed, a, _, _, hB, h => by
    rw [List.length_nil, Nat.zero_add]
    exact wpAnyC_of_acts hl hlen A opsL listed a w hA hB h
  | [], _ :: _, _, _, he, _, _, _ => by simp at he
  | _ :: _, [], _, _, he, _, _, _ => by simp at he
  | i :: H, o :: hs, listed, a, he, hT, hB, h => by
    simp only [List.map_cons, List.cons.injEq] at he
    simp only [firstGo, Bool.and_eq_true] at hB
    simp only [firstTail, List.all_cons, Bool.and_eq_true] at hT
    obtain ⟨v, hy, hn⟩ := h
    have e : (i :: H).length + (A.length + l.length) = (H.length + (A.length + l.length)) + 1 := by simp only [List.length_cons]; omega
    rw [e]
    refine wpAnyC_first he.1 (Region.noSelect_spec hsel) ?_ _ listed a w (Region.free_spec he.1 hB.1.2) (by simpa using hB.1.1) hy hC
      (wpAnyC_of_first hl hlen hsel hA hC H hs _ _ he.2 (by simpa [firstTail] using hT.2) hB.2 hn)
    intro j oj hoj hnj
    have h1 := List.all_eq_true.1 hT.1 j (by rw [List.mem_range]; exact (Array.getElem?_eq_some_iff.1 hoj).1)
    simp only [Bool.or_eq_true, decide_eq_true_eq] at h1
    have h2 := h1.resolve_left (by omega)
    obtain ⟨oj', hoj', e, he', hb, heq⟩ := Region.waitsFor_spec h2
    rw [hoj] at hoj'
    cases hoj'
    exact ⟨e, he', hb, heq⟩

end

theorem wp_region_first {P : Program} {C : World → Prop} {id : Nat} {l : List Oper} {Q : Exit → Act → World → Prop} {Qn : Act → World → Prop} {a : Act} {w : World} (n : Nat) (H A : List Nat) (hs opsL : List Oper) (hm : P.follows .mixedOrders = true)
    (hH : H.map (fun i => l[i]?) = hs.map some) (hA : A.map (fun i => l[i]?) = opsL.map some) (hB : firstB .any l.toArray n H A = true)
    (hQ : ∀ a w, Qn a w → Q .normal a w) (hC : C w.drew)
    (h : wpFirst P l.toArray C (fun a' => wpActs P l.toArray C (wpList P l.toArray (Exit.then Qn noQ) (l.drop n)) opsL a' w.drew) hs a) : (Code.region id l.toArray true).wp P Q a w := by
  simp only [firstB, Bool.and_eq_true, decide_eq_true_eq] at hB
  obtain ⟨⟨⟨⟨hsel, hn⟩, hlen⟩, hT⟩, hG⟩ := hB
  refine wp_region_any hm (wpAny_of_C (C := C) (n := n) (Qn := Qn) hQ _ _ _ _ ?_)
  have hdl : (l.drop n).length = l.toArray.size - n := by simp
  have h2 := wpAnyC_of_first (md := .any) (ops := l.toArray) (n := n) (l := l.drop n) (Qn := Qn) (fun j => by simp [List.getElem?_drop]) hdl hsel (A := A) (opsL := opsL) (by simpa using hA) hC H hs (Array.replicate l.toArray.size false) a (by simpa using hH) hT hG h
  have e : H.length + (A.length + (l.drop n).length) = l.toArray.size := by rw [hdl]; omega
  rw [e] at h2
  exact h2

theorem wp_region_tail {P : Program} {id : Nat} {Q : Exit → Act → World → Prop} {a : Act} {w : World} {l : List Oper} (n : Nat) (hm : P.follows .mixedOrders = true) (hB : Region.lexTailB .any l.toArray n = true)
    (h : wpStill P l.toArray w.drew (fun a' => wpList P l.toArray Q (l.drop n) a' w.drew) (l.take n) a) : (Code.region id l.toArray true).wp P Q a w :=
  wp_region_still_tail n hm hB h

/-- the same, by the operations' numbers -/
def wpFirstI (P : Program) (ops : Array Oper) (C : World → Prop) (Q : Act → Prop) : List Nat → Act → Prop
  | [], a => Q a
  | i :: H, a => ∃ o, ops[i]? = some o ∧ ∃ v, YieldsC P ops C o v a ∧ wpFirstI P ops C Q H (a.put o.dst v)
def wpActsI (P : Program) (ops : Array Oper) (C : World → Prop) (K : Act → World → Prop) : List Nat → Act → World → Prop
  | [], a, w => K a w
  | i :: A, a, w => ∃ o, ops[i]? = some o ∧ wpList P ops (Exit.then (fun a' w' => C w' ∧ wpActsI P ops C K A a' w') noQ) [o] a w

theorem wpFirst_of_I {P : Program} {ops : Array Oper} {C : World → Prop} {Q : Act → Prop} : ∀ (H : List Nat) (a : Act), wpFirstI P ops C Q H a → ∃ hs, H.map (fun i => ops[i]?) = hs.map some ∧ wpFirst P ops C Q hs a
  | [], a, h => ⟨[], rfl, h⟩
  | i :: H, a, ⟨o, ho, v, hy, hn⟩ => by
    obtain ⟨hs, h1, h2⟩ := wpFirst_of_I H _ hn
    exact ⟨o :: hs, by simp [ho, h1], v, hy, h2⟩

theorem wpList_exit_mono {P : Program} {ops : Array Oper} {K K' : Act → World → Prop} (hK : ∀ a w, K a w → K' a w) {o : Oper} {a : Act} {w : World}
    (h : wpList P ops (Exit.then K noQ) [o] a w) : wpList P ops (Exit.then K' noQ) [o] a w := by
  unfold wpList at *
  split
  · rename_i hw
    simp only [hw, if_true] at h
    rcases h with h | ⟨_, a₀, w₀, hq⟩
    case inr => exact hq.elim
    refine .inl ?_
    unfold Oper.wp at *
    generalize (execOp a.eval o).run P w = r at *
    cases r with
    | ok n w' =>
      cases n <;> simp only [Oper.upon] at h ⊢
      case value u => exact hK _ _ h
      case skip => exact hK _ _ h
      case defer d => exact hK _ _ h
      case enter f args =>
        refine Calls.mono h fun e w'' he => ?_
        cases e with
        | returned u => exact hK _ _ he
        | panicked c => exact he
        | outgrown => obtain ⟨a₀, w₀, hq⟩ := he; exact hq.elim
      case row row args => exact Go.Rows.mono h fun u w'' he => hK _ _ he
    | halt x w' =>
      cases x <;> simp only [Oper.upon] at h ⊢
      case panic u => exact h
  · rename_i hw
    simp only [hw] at h
    exact hK _ _ h

theorem wpActs_of_I {P : Program} {ops : Array Oper} {C : World → Prop} {K : Act → World → Prop} : ∀ (A : List Nat), A.all (fun i => decide (i < ops.size)) = true → ∃ opsL, A.map (fun i => ops[i]?) = opsL.map some ∧ ∀ a w, wpActsI P ops C K A a w → wpActs P ops C K opsL a w
  | [], _ => ⟨[], rfl, fun _ _ h => h⟩
  | i :: A, h => by
    simp only [List.all_cons, Bool.and_eq_true, decide_eq_true_eq] at h
    obtain ⟨opsL, h1, h2⟩ := wpActs_of_I (P := P) (C := C) (K := K) A h.2
    refine ⟨ops[i]'h.1 :: opsL, by simp [h1, h.1], ?_⟩
    rintro a w ⟨o, ho, hw⟩
    have e : o = ops[i]'h.1 := by rw [Array.getElem?_eq_getElem h.1] at ho; cases ho; rfl
    subst e
    exact wpList_exit_mono (fun a' w' ⟨hc, hh⟩ => ⟨hc, h2 a' w' hh⟩) hw

theorem wp_region_firstI {P : Program} (C : World → Prop) {id : Nat} {l : List Oper} {Q : Exit → Act → World → Prop} {a : Act} {w : World} (n : Nat) (H A : List Nat) (hm : P.follows .mixedOrders = true)
    (hB : (firstB .any l.toArray n H A && A.all (fun i => decide (i < l.toArray.size))) = true) (hC : C w.drew)
    (h : wpFirstI P l.toArray C (fun a' => wpActsI P l.toArray C (wpList P l.toArray (Exit.then (fun a w => Q .normal a w) noQ) (l.drop n)) A a' w.drew) H a) : (Code.region id l.toArray true).wp P Q a w := by
  rw [Bool.and_eq_true] at hB
  obtain ⟨opsL, h1, h2⟩ := wpActs_of_I (P := P) (ops := l.toArray) (C := C) (K := wpList P l.toArray (Exit.then (fun a w => Q .normal a w) noQ) (l.drop n)) A hB.2
  obtain ⟨hs, h3, h4⟩ := wpFirst_of_I H a h
  have h5 : wpFirst P l.toArray C (fun a' => wpActs P l.toArray C (wpList P l.toArray (Exit.then (fun a w => Q .normal a w) noQ) (l.drop n)) opsL a' w.drew) hs a := by
    clear h3 h
    induction hs generalizing a with
    | nil => exact h2 _ _ h4
    | cons o hs ih => obtain ⟨v, hy, hn⟩ := h4; exact ⟨v, hy, ih hn⟩
  exact wp_region_first n H A hs opsL hm (by simpa using h3) (by simpa using h1) hB.1 (fun _ _ h => h) hC h5

theorem wpFirstI_cons {P : Program} {ops : Array Oper} {C : World → Prop} {Q : Act → Prop} {i : Nat} {H : List Nat} {a : Act} {o : Oper} (ho : ops[i]? = some o) (hg : o.guard = none)
    (h : ∀ K : Act → Prop, (∀ a, wpFirstI P ops C Q H a → K a) → ∃ v, (∀ w, C w → Oper.quietUpon P (fun w'' => w'' = w) w v ((execOp a.eval o).run P w)) ∧ K (a.put o.dst v)) : wpFirstI P ops C Q (i :: H) a :=
  let ⟨v, h1, h2⟩ := h _ (fun _ h => h)
  ⟨o, ho, v, .inl ⟨by simp [Region.wanted, hg], h1⟩, h2⟩
theorem wpFirstI_nil {P : Program} {ops : Array Oper} {C : World → Prop} {Q : Act → Prop} {a : Act} (h : Q a) : wpFirstI P ops C Q [] a := h
theorem wpActsI_nil {P : Program} {ops : Array Oper} {C : World → Prop} {K : Act → World → Prop} {a : Act} {w : World} (h : K a w) : wpActsI P ops C K [] a w := h
theorem wpActsI_cons {P : Program} {ops : Array Oper} {C : World → Prop} {K : Act → World → Prop} {i : Nat} {A : List Nat} {a : Act} {w : World} {o : Oper} (ho : ops[i]? = some o)
    (h : wpList P ops (Exit.then (fun a' w' => C w' ∧ wpActsI P ops C K A a' w') noQ) [o] a w) : wpActsI P ops C K (i :: A) a w := ⟨o, ho, h⟩

end Go.Proofs.YtiimddkopiknpaaGreatDoor

/-
  A region that draws its order, by an invariant over what is done: for makers that may come in any order.
-/
namespace Go.Proofs.YtiimddkopiknpaaGreatDoor
open Go.RowKit

section
variable {P : Program} {ops : Array Oper} {md : Region.Mode}
def cntL (n : Nat) (listed : Array Bool) : Nat := ((List.range n).filter fun i => !listed.getD i true).length
theorem ready_mem {listed : Array Bool} {i : Nat} (h : i ∈ Region.ready md ops listed) : i < ops.size ∧ listed.getD i true = false := by
  unfold Region.ready at h
  rw [List.mem_filter, List.mem_range] at h
  refine ⟨h.1, ?_⟩
  have := h.2
  simp only [Bool.and_eq_true] at this
  simpa using this.1
theorem ready_dep {listed : Array Bool} {i : Nat} (h : i ∈ Region.ready md ops listed) {o : Oper} (ho : ops[i]? = some o) {e : Edge} (he : e ∈ o.after) (hb : Region.binds md e = true) : listed.getD e.on false = true := by
  unfold Region.ready at h
  rw [List.mem_filter] at h
  have := h.2
  simp only [ho, Option.map_some, Option.getD_some, Bool.and_eq_true] at this
  have h2 := this.2
  rw [Array.all_eq_true] at h2
  obtain ⟨k, hk, rfl⟩ := Array.mem_iff_getElem.1 he
  have := h2 k hk
  rw [hb] at this
  simpa using this
theorem setL (listed : Array Bool) (i j : Nat) (hi : listed.getD i true = false) : (listed.setIfInBounds i true).getD j true = if i = j then true else listed.getD j true := by
  simp only [Array.getD_eq_getD_getElem?, Array.getElem?_setIfInBounds] at hi ⊢
  by_cases e : i = j
  · subst e
    by_cases hs : i < listed.size
    · simp [hs]
    · simp [hs]
  · simp [e]
theorem filter_set {L : List Nat} (hnd : L.Nodup) {p q : Nat → Bool} {i : Nat} (hi : i ∈ L) (hp : p i = true) (hq : q i = false) (h : ∀ j, j ≠ i → q j = p j) : (L.filter q).length + 1 = (L.filter p).length := by
  induction L with
  | nil => simp at hi
  | cons x L ih =>
    rw [List.nodup_cons] at hnd
    rcases List.mem_cons.1 hi with e | hi
    · subst e
      have : L.filter q = L.filter p := List.filter_congr fun j hj => h j fun e => hnd.1 (e ▸ hj)
      rw [List.filter_cons, List.filter_cons, hp, hq, this]
      simp
    · have hne : x ≠ i := fun e => hnd.1 (e ▸ hi)
      have := ih hnd.2 hi
      rw [List.filter_cons, List.filter_cons, h x hne]
      split
      · simp only [List.length_cons]; omega
      · exact this
theorem cntL_set {listed : Array Bool} {n i : Nat} (hi : i < n) (h : listed.getD i true = false) : cntL n (listed.setIfInBounds i true) + 1 = cntL n listed := by
  unfold cntL
  refine filter_set List.nodup_range (List.mem_range.2 hi) (by rw [h]; rfl) (by rw [setL _ _ _ h, if_pos rfl]; rfl) fun j hj => ?_
  rw [setL _ _ _ h, if_neg (fun e => hj e.symm)]
theorem cntL_zero {listed : Array Bool} (h : cntL ops.size listed = 0) : Region.ready md ops listed = [] := by
  apply List.eq_nil_iff_forall_not_mem.2
  intro i hi
  obtain ⟨h1, h2⟩ := ready_mem hi
  unfold cntL at h
  have : i ∈ (List.range ops.size).filter fun i => !listed.getD i true := List.mem_filter.2 ⟨List.mem_range.2 h1, by rw [h2]; rfl⟩
  rw [List.length_eq_zero_iff.1 h] at this
  simp at this

theorem wpAny_inv {Q : Exit → Act → World → Prop} {I : Array Bool → Act → World → Prop}
    (hstep : ∀ listed a w, I listed a w → ∀ i ∈ Region.ready md ops listed, wpOp P ops Q i (fun a' w' => I (listed.setIfInBounds i true) a' w') a w)
    (hend : ∀ listed a w, I listed a w → Region.ready md ops listed = [] → Q .normal a w) : ∀ (fuel : Nat) (listed : Array Bool) (a : Act) (w : World), cntL ops.size listed ≤ fuel → I listed a w → wpAny P md ops Q fuel listed a w
  | 0, listed, a, w, hc, hI => ⟨cntL_zero (by omega), hend _ _ _ hI (cntL_zero (by omega))⟩
  | fuel + 1, listed, a, w, hc, hI => ⟨fun h0 => hend _ _ _ hI h0, fun i hi => by
      obtain ⟨h1, h2⟩ := ready_mem hi
      have := cntL_set h1 h2
      exact wpOp_mono' (fun a' w' h' => wpAny_inv hstep hend fuel _ a' w' (by omega) h') (hstep _ _ _ hI i hi)⟩
  where
  wpOp_mono' {Q : Exit → Act → World → Prop} {i : Nat} {a : Act} {w : World} {K K' : Act → World → Prop} (h : ∀ a w, K a w → K' a w) (hh : wpOp P ops Q i K a w) : wpOp P ops Q i K' a w := by
    unfold wpOp at *
    split
    · rename_i ho; simp only [ho] at hh; exact h _ _ hh
    · rename_i o ho
      simp only [ho] at hh
      split
      · rename_i hw
        simp only [hw, if_true] at hh
        rcases hh with hh | hh
        · exact .inl (Oper.wp_mono h hh)
        · exact .inr hh
      · rename_i hw; simp only [hw] at hh; exact h _ _ hh
end

theorem wp_region_inv {P : Program} {id : Nat} {l : List Oper} {Q : Exit → Act → World → Prop} {a : Act} {w : World} (I : Array Bool → Act → World → Prop) (hm : P.follows .mixedOrders = true) (h0 : I (Array.replicate l.length false) a w.drew)
    (hstep : ∀ listed a w, I listed a w → ∀ i ∈ Region.ready .any l.toArray listed, wpOp P l.toArray Q i (fun a' w' => I (listed.setIfInBounds i true) a' w') a w)
    (hend : ∀ listed a w, I listed a w → Region.ready .any l.toArray listed = [] → Q .normal a w) : (Code.region id l.toArray true).wp P Q a w := by
  refine wp_region_any hm (wpAny_inv hstep hend _ _ _ _ ?_ ?_)
  · unfold cntL
    refine Nat.le_trans (List.length_filter_le _ _) ?_
    simp
  · simpa using h0
end Go.Proofs.YtiimddkopiknpaaGreatDoor

/-
  A region that draws its order and makes memory in any order: each operation's value is known but for the blocks of what it makes.
-/
namespace Go.Proofs.YtiimddkopiknpaaGreatDoor
open Go.RowKit

structure Plan where
  dst : Nat → Nat
  val : (Nat → Nat) → Nat → Value
  mks : Nat → Bool
  cells : (Nat → Nat) → Nat → Array Value × TypeId

def updB (b : Nat → Nat) (i x : Nat) : Nat → Nat := fun j => if j = i then x else b j

/-- memory behind some of the operations -/
structure PlanMem (p : Plan) (N : Nat) (w0 : World) (D : Nat → Prop) (b : Nat → Nat) (w : World) : Prop where
  os : w.os = w0.os
  tape : w.tape = w0.tape
  output : w.output = w0.output
  size : w0.heap.size ≤ w.heap.size
  old : ∀ k, k < w0.heap.size → w.heap[k]? = w0.heap[k]?
  new : ∀ i, i < N → D i → p.mks i = true → w.heap[b i]? = some (.cells (p.cells b i).1 (p.cells b i).2) ∧ w0.heap.size ≤ b i ∧ b i < w.heap.size
  inj : ∀ i j, i < N → j < N → D i → D j → p.mks i = true → p.mks j = true → b i = b j → i = j
structure PlanAct (p : Plan) (N : Nat) (a0 : Act) (D : Nat → Prop) (b : Nat → Nat) (a : Act) : Prop where
  defers : a.defers = a0.defers
  size : a.tmps.size = a0.tmps.size
  keep : ∀ k, (∀ i, i < N → p.dst i ≠ k) → a.tmps.getD k undef = a0.tmps.getD k undef
  val : ∀ i, i < N → D i → a.tmps.getD (p.dst i) undef = p.val b i

theorem putD (a : Act) (d k : Nat) (v : Value) (hd : d < a.tmps.size) : (a.put (some d) v).tmps.getD k undef = if d = k then v else a.tmps.getD k undef := by
  show (a.tmps.setIfInBounds d v).getD k undef = _
  simp only [Array.getD_eq_getD_getElem?, Array.getElem?_setIfInBounds]
  by_cases e : d = k
  · subst e; simp [hd]
  · simp [e]
theorem put_defers (a : Act) (d : Option Nat) (v : Value) : (a.put d v).defers = a.defers := by cases d <;> rfl
theorem put_size (a : Act) (d : Nat) (v : Value) : (a.put (some d) v).tmps.size = a.tmps.size := by
  show (a.tmps.setIfInBounds d v).size = _
  simp

section
variable {P : Program} {l : List Oper} {p : Plan} {a0 : Act} {w0 : World} {N : Nat}
def doneL (listed : Array Bool) (i : Nat) : Prop := listed.getD i true = true
theorem done_set {listed : Array Bool} {i j : Nat} (h : listed.getD i true = false) : doneL (listed.setIfInBounds i true) j ↔ j = i ∨ doneL listed j := by
  unfold doneL
  rw [setL _ _ _ h]
  by_cases e : i = j
  · simp [e]
  · simp [e, Ne.symm e]

def PlanI (l : List Oper) (p : Plan) (N : Nat) (a0 : Act) (w0 : World) (listed : Array Bool) (a : Act) (w : World) : Prop :=
  listed.size = l.length ∧ ∃ b, (∀ j o, l[j]? = some o → doneL listed j → ∀ e ∈ o.after, Region.binds .any e = true → doneL listed e.on) ∧ PlanAct p N a0 (doneL listed) b a ∧ PlanMem p N w0 (doneL listed) b w

theorem PlanAct.put {D D' : Nat → Prop} {b b' : Nat → Nat} {a : Act} {i : Nat} (h : PlanAct p N a0 D b a) (hi : i < N) (hinj : ∀ i j, i < N → j < N → p.dst i = p.dst j → i = j) (hin : p.dst i < a0.tmps.size) (hD : ∀ j, D' j ↔ j = i ∨ D j) (hb : ∀ j, j < N → D j → j ≠ i → p.val b' j = p.val b j) :
    PlanAct p N a0 D' b' (a.put (some (p.dst i)) (p.val b' i)) := by
  have hds : p.dst i < a.tmps.size := by rw [h.size]; exact hin
  refine ⟨(put_defers _ _ _).trans h.defers, (put_size _ _ _).trans h.size, fun k hk => ?_, fun j hj hDj => ?_⟩
  · rw [putD _ _ _ _ hds, if_neg (hk i hi)]; exact h.keep k hk
  · rw [putD _ _ _ _ hds]
    by_cases e : j = i
    · subst e; rw [if_pos rfl]
    · rw [if_neg (fun e2 => e (hinj i j hi hj e2).symm)]
      rcases (hD j).1 hDj with h' | h'
      · exact (e h').elim
      · rw [hb j hj h' e]; exact h.val j hj h'

theorem wp_region_plan {id : Nat} {Q : Exit → Act → World → Prop} {w : World} (p : Plan) (N : Nat) (hm : P.follows .mixedOrders = true) (hN : N = l.length) (hw : w0 = w.drew)
    (hg : ∀ i o, l[i]? = some o → o.guard = none ∧ o.dst = some (p.dst i))
    (hinj : ∀ i j, i < N → j < N → p.dst i = p.dst j → i = j) (hin : ∀ i, i < N → p.dst i < a0.tmps.size)
    (hord : ∀ i o, l[i]? = some o → ∀ e ∈ o.after, Region.binds .any e = true → e.on < i)
    (hindep : ∀ (D : Nat → Prop) (b : Nat → Nat) (x i j : Nat), i < N → j < N → p.mks i = true → (∀ j o, l[j]? = some o → D j → ∀ e ∈ o.after, Region.binds .any e = true → D e.on) → D j → ¬ D i → p.val (updB b i x) j = p.val b j ∧ p.cells (updB b i x) j = p.cells b j)
    (hop : ∀ (D : Nat → Prop) (b : Nat → Nat) (a : Act) (w : World) (i : Nat) (o : Oper), l[i]? = some o → (∀ e ∈ o.after, Region.binds .any e = true → D e.on) → PlanAct p N a0 D b a → PlanMem p N w0 D b w →
      (p.mks i = false ∧ Oper.quietUpon P (fun w'' => w'' = w) w (p.val b i) ((execOp a.eval o).run P w)) ∨
      (p.mks i = true ∧ (execOp a.eval o).run P w = .ok (.value (p.val (updB b i w.heap.size) i)) (w.alloc (.cells (p.cells (updB b i w.heap.size) i).1 (p.cells (updB b i w.heap.size) i).2))))
    (hend : ∀ (b : Nat → Nat) (a : Act) (w : World), PlanAct p N a0 (fun i => i < N) b a → PlanMem p N w0 (fun i => i < N) b w → Q .normal a w) : (Code.region id l.toArray true).wp P Q a0 w := by
  have hop0 : ∀ i, i < N → ∃ o, l[i]? = some o := fun i hi => ⟨l[i]'(by omega), by simp [hN ▸ hi]⟩
  refine wp_region_inv (PlanI l p N a0 w0) hm ?_ ?_ ?_
  · have hnd : ∀ i, i < N → ¬ doneL (Array.replicate l.length false) i := by
      intro i hi h
      unfold doneL at h
      rw [Array.getD_eq_getD_getElem?, Array.getElem?_replicate, if_pos (by omega)] at h
      cases h
    refine ⟨by simp, fun _ => 0, ?_, ⟨rfl, rfl, fun _ _ => rfl, fun i hi h => (hnd i hi h).elim⟩, ?_⟩
    · intro j o ho h
      have := (List.getElem?_eq_some_iff.1 ho).1
      exact (hnd j (by omega) h).elim
    · rw [← hw]
      exact ⟨rfl, rfl, rfl, Nat.le_refl _, fun _ _ => rfl, fun i hi h => (hnd i hi h).elim, fun i _ hi _ h => (hnd i hi h).elim⟩
  · rintro listed a w1 ⟨hsl, b, hcl, hA, hM⟩ i hi
    obtain ⟨h1, h2⟩ := ready_mem hi
    have hiN : i < N := by rw [hN]; simpa using h1
    obtain ⟨o, ho⟩ := hop0 i hiN
    have ho' : l.toArray[i]? = some o := by simpa using ho
    have hdep : ∀ e ∈ o.after, Region.binds .any e = true → doneL listed e.on := by
      intro e he hb
      have := ready_dep hi ho' he hb
      unfold doneL
      simp only [Array.getD_eq_getD_getElem?] at this ⊢
      cases hx : listed[e.on]? with
      | none => rw [hx] at this; cases this
      | some v => rw [hx] at this; simpa using this
    have hndi : ¬ doneL listed i := by unfold doneL; rw [h2]; decide
    obtain ⟨hgd, hdst⟩ := hg i o ho
    have hcl' : ∀ j o, l[j]? = some o → doneL (listed.setIfInBounds i true) j → ∀ e ∈ o.after, Region.binds .any e = true → doneL (listed.setIfInBounds i true) e.on := by
      intro j o' hj hd e he hb
      rw [done_set h2] at hd ⊢
      rcases hd with rfl | hd
      · rw [ho] at hj; cases hj; exact .inr (hdep e he hb)
      · exact .inr (hcl j o' hj hd e he hb)
    rcases hop (doneL listed) b a w1 i o ho hdep hA hM with ⟨hmk, hq⟩ | ⟨hmk, hrun⟩
    · refine wpOp_noQ (K := fun a' w' => PlanI l p N a0 w0 (listed.setIfInBounds i true) a' w') (fun _ _ h => h) (YieldsC.wpOp (C := fun w' => w' = w1) (v := p.val b i) ho' (.inl ⟨by simp [Region.wanted, hgd], fun w' hw' => by rw [hw']; exact hq⟩) rfl ?_)
      rw [hdst]
      refine ⟨by simp [hsl], b, hcl', hA.put hiN hinj (hin i hiN) (fun j => done_set h2) (fun _ _ _ _ => rfl), ⟨hM.os, hM.tape, hM.output, hM.size, hM.old, fun j hj hd hmj => ?_, fun j k hj hk hdj hdk hmj hmk' e => ?_⟩⟩
      · rcases (done_set h2).1 hd with rfl | hd
        · rw [hmk] at hmj; cases hmj
        · exact hM.new j hj hd hmj
      · rcases (done_set h2).1 hdj with rfl | hdj
        · rw [hmk] at hmj; cases hmj
        · rcases (done_set h2).1 hdk with rfl | hdk
          · rw [hmk] at hmk'; cases hmk'
          · exact hM.inj j k hj hk hdj hdk hmj hmk' e
    · unfold wpOp
      simp only [ho']
      rw [if_pos (by simp [Region.wanted, hgd])]
      left
      unfold Oper.wp
      rw [hrun]
      simp only [Oper.upon]
      rw [hdst]
      have hsz := hM.size
      refine ⟨by simp [hsl], updB b i w1.heap.size, hcl', hA.put hiN hinj (hin i hiN) (fun j => done_set h2) (fun j hj hdj hji => (hindep (doneL listed) b w1.heap.size i j hiN hj hmk hcl hdj hndi).1), ⟨hM.os, hM.tape, hM.output, by simp; omega, fun k hk => (_root_.Go.heap_alloc_old w1 _ (by omega)).trans (hM.old k hk), fun j hj hd hmj => ?_, fun j k hj hk hdj hdk hmj hmk' e => ?_⟩⟩
      · by_cases e : j = i
        · subst e
          have e1 : updB b j w1.heap.size j = w1.heap.size := by simp [updB]
          rw [e1]
          exact ⟨_root_.Go.heap_alloc_new w1 _, hsz, by simp⟩
        · have e1 : updB b i w1.heap.size j = b j := by simp [updB, e]
          rw [e1]
          rcases (done_set h2).1 hd with h' | hd
          · exact (e h').elim
          · obtain ⟨z1, z2, z3⟩ := hM.new j hj hd hmj
            rw [(hindep (doneL listed) b w1.heap.size i j hiN hj hmk hcl hd hndi).2]
            exact ⟨(_root_.Go.heap_alloc_old w1 _ z3).trans z1, z2, by simp; omega⟩
      · have hlt : ∀ j, j < N → doneL listed j → p.mks j = true → b j < w1.heap.size := by
          intro j hj hd hmj
          exact (hM.new j hj hd hmj).2.2
        by_cases e1 : j = i <;> by_cases e2 : k = i
        · rw [e1, e2]
        · subst e1
          rcases (done_set h2).1 hdk with h' | hdk
          · exact (e2 h').elim
          · have := hlt k hk hdk hmk'
            simp [updB, e2] at e; omega
        · subst e2
          rcases (done_set h2).1 hdj with h' | hdj
          · exact (e1 h').elim
          · have := hlt j hj hdj hmj
            simp [updB, e1] at e; omega
        · rcases (done_set h2).1 hdj with h' | hdj
          · exact (e1 h').elim
          · rcases (done_set h2).1 hdk with h' | hdk
            · exact (e2 h').elim
            · simp [updB, e1, e2] at e
              exact hM.inj j k hj hk hdj hdk hmj hmk' e
  · rintro listed a w1 ⟨hsl, b, hcl, hA, hM⟩ hr
    have hlsz : ∀ j, j < N → j < listed.size := fun j hj => by rw [hsl]; omega
    -- all are done: by strong induction none can be the first that is not
    have hall : ∀ i, i < N → doneL listed i := by
      intro i
      induction i using Nat.strongRecOn with
      | _ i ih =>
        intro hi
        obtain ⟨o, ho⟩ := hop0 i hi
        apply Classical.byContradiction
        intro hnd
        have hmem : i ∈ Region.ready .any l.toArray listed := by
          unfold Region.ready
          rw [List.mem_filter, List.mem_range]
          refine ⟨by simp; omega, ?_⟩
          have ho' : l.toArray[i]? = some o := by simpa using ho
          simp only [ho', Option.map_some, Option.getD_some, Bool.and_eq_true]
          have h1 : listed.getD i true = false := by
            unfold doneL at hnd
            simpa using hnd
          refine ⟨by rw [h1]; rfl, ?_⟩
          rw [Array.all_eq_true]
          intro k hk
          cases hb : Region.binds .any o.after[k] with
          | false => rfl
          | true =>
            have hlt := hord i o ho _ (Array.getElem_mem hk) hb
            have hd := ih _ hlt (by omega)
            have hsz : (o.after[k]).on < listed.size := hlsz _ (by omega)
            unfold doneL at hd
            simp only [Array.getD_eq_getD_getElem?] at hd ⊢
            rw [Array.getElem?_eq_getElem hsz] at hd ⊢
            simpa using hd
        rw [hr] at hmem
        simp at hmem
    exact hend b a w1 ⟨hA.defers, hA.size, hA.keep, fun i hi _ => hA.val i hi (hall i hi)⟩ ⟨hM.os, hM.tape, hM.output, hM.size, hM.old, fun i hi _ => hM.new i hi (hall i hi), fun i j hi hj _ _ => hM.inj i j hi hj (hall i hi) (hall j hj)⟩
end

/- the plan's checks, by the kernel -/
def ordB (l : List Oper) : Bool := (List.range l.length).all fun i => match l[i]? with | some o => o.after.toList.all fun e => !Region.binds .any e || decide (e.on < i) | none => true
theorem ord_of {l : List Oper} (h : ordB l = true) : ∀ i o, l[i]? = some o → ∀ e ∈ o.after, Region.binds .any e = true → e.on < i := by
  intro i o ho e he hb
  have hi := (List.getElem?_eq_some_iff.1 ho).1
  have h1 := List.all_eq_true.1 h i (List.mem_range.2 hi)
  simp only [ho] at h1
  have h2 := List.all_eq_true.1 h1 e (by simpa using he)
  rw [hb] at h2
  simpa using h2
def gdB (l : List Oper) (dst : Nat → Nat) : Bool := (List.range l.length).all fun i => match l[i]? with | some o => o.guard.isNone && o.dst == some (dst i) | none => true
theorem gd_of {l : List Oper} {dst : Nat → Nat} (h : gdB l dst = true) : ∀ i o, l[i]? = some o → o.guard = none ∧ o.dst = some (dst i) := by
  intro i o ho
  have hi := (List.getElem?_eq_some_iff.1 ho).1
  have h1 := List.all_eq_true.1 h i (List.mem_range.2 hi)
  simp only [ho, Bool.and_eq_true] at h1
  exact ⟨by simpa using h1.1, by simpa using h1.2⟩
/-- the frame behind all operations, written out -/
def planEnd (p : Plan) (b : Nat → Nat) (a0 : Act) : Nat → Act
  | 0 => a0
  | n + 1 => (planEnd p b a0 n).put (some (p.dst n)) (p.val b n)
theorem planEnd_size (p : Plan) (b : Nat → Nat) (a0 : Act) (n : Nat) : (planEnd p b a0 n).tmps.size = a0.tmps.size := by
  induction n with
  | zero => rfl
  | succ n ih => rw [planEnd, put_size, ih]
theorem PlanAct.fin {p : Plan} {N : Nat} {a0 a : Act} {b : Nat → Nat} (h : PlanAct p N a0 (fun i => i < N) b a) (hinj : ∀ i j, i < N → j < N → p.dst i = p.dst j → i = j) (hin : ∀ i, i < N → p.dst i < a0.tmps.size) : a = planEnd p b a0 N := by
  have hd : ∀ n, (planEnd p b a0 n).defers = a0.defers := by
    intro n
    induction n with
    | zero => rfl
    | succ n ih => rw [planEnd, put_defers, ih]
  have hg : ∀ n k, n ≤ N → (planEnd p b a0 n).tmps.getD k undef = a0.tmps.getD k undef ∨ ∃ i, i < n ∧ p.dst i = k ∧ (planEnd p b a0 n).tmps.getD k undef = p.val b i := by
    intro n
    induction n with
    | zero => intro k _; exact .inl rfl
    | succ n ih =>
      intro k hn
      rw [planEnd, putD _ _ _ _ (by rw [planEnd_size]; exact hin n (by omega))]
      by_cases e : p.dst n = k
      · rw [if_pos e]; exact .inr ⟨n, by omega, e, rfl⟩
      · rw [if_neg e]
        rcases ih k (by omega) with h1 | ⟨i, h1, h2, h3⟩
        · exact .inl h1
        · exact .inr ⟨i, by omega, h2, h3⟩
  have hg2 : ∀ n i, n ≤ N → i < n → (planEnd p b a0 n).tmps.getD (p.dst i) undef = p.val b i := by
    intro n
    induction n with
    | zero => intro i _ hi; omega
    | succ n ih =>
      intro i hn hi
      rw [planEnd, putD _ _ _ _ (by rw [planEnd_size]; exact hin n (by omega))]
      by_cases e : p.dst n = p.dst i
      · have := hinj n i (by omega) (by omega) e
        subst this
        rw [if_pos rfl]
      · rw [if_neg e]
        exact ih i (by omega) (by
          have : i ≠ n := fun e2 => e (by rw [e2])
          omega)
  have hk : ∀ k, a.tmps.getD k undef = (planEnd p b a0 N).tmps.getD k undef := by
    intro k
    by_cases hx : ∃ i, i < N ∧ p.dst i = k
    · obtain ⟨i, hi, rfl⟩ := hx
      rw [h.val i hi hi, hg2 N i (Nat.le_refl _) hi]
    · rw [h.keep k (fun i hi e => hx ⟨i, hi, e⟩)]
      rcases hg N k (Nat.le_refl _) with h1 | ⟨i, h1, h2, _⟩
      · exact h1.symm
      · exact (hx ⟨i, h1, h2⟩).elim
  have ht : a.tmps = (planEnd p b a0 N).tmps := by
    apply Array.ext
    · rw [h.size, planEnd_size]
    · intro i h1 h2
      have := hk i
      simpa [Array.getD_eq_getD_getElem?, h1, h2] using this
  have hdd : a.defers = (planEnd p b a0 N).defers := by rw [h.defers, hd]
  cases a
  rename_i t d
  have e : planEnd p b a0 N = ⟨(planEnd p b a0 N).tmps, (planEnd p b a0 N).defers⟩ := rfl
  rw [e, ← ht, ← hdd]
end Go.Proofs.YtiimddkopiknpaaGreatDoor

/-
  A region that draws its order and makes memory, and ends with one store behind all else.
-/
namespace Go.Proofs.YtiimddkopiknpaaGreatDoor
open Go.RowKit

section
variable {P : Program} {l : List Oper} {p : Plan} {a0 : Act} {w0 : World} {N : Nat}
theorem wp_region_planS {id : Nat} {Q : Exit → Act → World → Prop} {w : World} (p : Plan) (N : Nat) (hm : P.follows .mixedOrders = true) (hN : l.length = N + 1) (hw : w0 = w.drew)
    (hg : ∀ i o, i < N → l[i]? = some o → o.guard = none ∧ o.dst = some (p.dst i))
    (hgl : ∀ o, l[N]? = some o → o.guard = none)
    (hlast : ∀ (D : Nat → Prop), (∀ j o, l[j]? = some o → j < N → D j → ∀ e ∈ o.after, Region.binds .any e = true → D e.on) → (∀ o, l[N]? = some o → ∀ e ∈ o.after, Region.binds .any e = true → D e.on) → ∀ i, i < N → D i)
    (hinj : ∀ i j, i < N → j < N → p.dst i = p.dst j → i = j) (hin : ∀ i, i < N → p.dst i < a0.tmps.size)
    (hord : ∀ i o, l[i]? = some o → ∀ e ∈ o.after, Region.binds .any e = true → e.on < i)
    (hindep : ∀ (D : Nat → Prop) (b : Nat → Nat) (x i j : Nat), i < N → j < N → p.mks i = true → (∀ j o, l[j]? = some o → D j → ∀ e ∈ o.after, Region.binds .any e = true → D e.on) → D j → ¬ D i → p.val (updB b i x) j = p.val b j ∧ p.cells (updB b i x) j = p.cells b j)
    (hop : ∀ (D : Nat → Prop) (b : Nat → Nat) (a : Act) (w : World) (i : Nat) (o : Oper), i < N → l[i]? = some o → (∀ e ∈ o.after, Region.binds .any e = true → D e.on) → PlanAct p N a0 D b a → PlanMem p N w0 D b w →
      (p.mks i = false ∧ Oper.quietUpon P (fun w'' => w'' = w) w (p.val b i) ((execOp a.eval o).run P w)) ∨
      (p.mks i = true ∧ (execOp a.eval o).run P w = .ok (.value (p.val (updB b i w.heap.size) i)) (w.alloc (.cells (p.cells (updB b i w.heap.size) i).1 (p.cells (updB b i w.heap.size) i).2))))
    (hend : ∀ (b : Nat → Nat) (a : Act) (w : World) (o : Oper), l[N]? = some o → PlanAct p N a0 (fun i => i < N) b a → PlanMem p N w0 (fun i => i < N) b w → o.wp P a w (fun a' w' => Q .normal a' w') Q) : (Code.region id l.toArray true).wp P Q a0 w := by
  have hop0 : ∀ i, i < N + 1 → ∃ o, l[i]? = some o := fun i hi => ⟨l[i]'(by omega), by simp⟩
  let J : Array Bool → Act → World → Prop := fun listed a w => (PlanI l p N a0 w0 listed a w ∧ ¬ doneL listed N) ∨ ((∀ i, i < N + 1 → doneL listed i) ∧ Q .normal a w)
  refine wp_region_inv J hm ?_ ?_ ?_
  · have hnd : ∀ i, i < N + 1 → ¬ doneL (Array.replicate l.length false) i := by
      intro i hi h
      unfold doneL at h
      rw [Array.getD_eq_getD_getElem?, Array.getElem?_replicate, if_pos (by omega)] at h
      cases h
    refine .inl ⟨⟨by simp, fun _ => 0, ?_, ⟨rfl, rfl, fun _ _ => rfl, fun i hi h => (hnd i (by omega) h).elim⟩, ?_⟩, hnd N (by omega)⟩
    · intro j o ho h
      have := (List.getElem?_eq_some_iff.1 ho).1
      exact (hnd j (by omega) h).elim
    · rw [← hw]
      exact ⟨rfl, rfl, rfl, Nat.le_refl _, fun _ _ => rfl, fun i hi h => (hnd i (by omega) h).elim, fun i _ hi _ h => (hnd i (by omega) h).elim⟩
  · rintro listed a w1 (⟨⟨hsl, b, hcl, hA, hM⟩, hnl⟩ | ⟨hall, _⟩) i hi
    case inr =>
      obtain ⟨h1, h2⟩ := ready_mem hi
      have := hall i (by rw [← hN]; simpa using h1)
      unfold doneL at this
      rw [h2] at this; cases this
    obtain ⟨h1, h2⟩ := ready_mem hi
    have hiN : i < N + 1 := by rw [← hN]; simpa using h1
    obtain ⟨o, ho⟩ := hop0 i hiN
    have ho' : l.toArray[i]? = some o := by simpa using ho
    have hdep : ∀ e ∈ o.after, Region.binds .any e = true → doneL listed e.on := by
      intro e he hb
      have := ready_dep hi ho' he hb
      unfold doneL
      simp only [Array.getD_eq_getD_getElem?] at this ⊢
      cases hx : listed[e.on]? with
      | none => rw [hx] at this; cases this
      | some v => rw [hx] at this; simpa using this
    have hndi : ¬ doneL listed i := by unfold doneL; rw [h2]; decide
    by_cases hlt : i < N
    case neg =>
      have : i = N := by omega
      subst this
      have hall := hlast (doneL listed) (fun j o' hj _ hd => hcl j o' hj hd) (fun o' hj => by rw [ho] at hj; cases hj; exact hdep)
      have hgd := hgl o ho
      unfold wpOp
      simp only [ho']
      rw [if_pos (by simp [Region.wanted, hgd])]
      left
      refine Oper.wp_mono (fun a' w' hq => .inr ⟨fun j hj => ?_, hq⟩) (hend b a w1 o ho ⟨hA.defers, hA.size, hA.keep, fun i hi _ => hA.val i hi (hall i hi)⟩ ⟨hM.os, hM.tape, hM.output, hM.size, hM.old, fun i hi _ => hM.new i hi (hall i hi), fun i j hi hj _ _ => hM.inj i j hi hj (hall i hi) (hall j hj)⟩)
      rw [done_set h2]
      by_cases e : j = i
      · exact .inl e
      · exact .inr (hall j (by omega))
    replace hiN := hlt
    clear hlt
    obtain ⟨hgd, hdst⟩ := hg i o hiN ho
    have hnl' : ¬ doneL (listed.setIfInBounds i true) N := by
      rw [done_set h2]
      rintro (e | e)
      · omega
      · exact hnl e
    have hcl' : ∀ j o, l[j]? = some o → doneL (listed.setIfInBounds i true) j → ∀ e ∈ o.after, Region.binds .any e = true → doneL (listed.setIfInBounds i true) e.on := by
      intro j o' hj hd e he hb
      rw [done_set h2] at hd ⊢
      rcases hd with rfl | hd
      · rw [ho] at hj; cases hj; exact .inr (hdep e he hb)
      · exact .inr (hcl j o' hj hd e he hb)
    rcases hop (doneL listed) b a w1 i o hiN ho hdep hA hM with ⟨hmk, hq⟩ | ⟨hmk, hrun⟩
    · refine wpOp_noQ (K := fun a' w' => J (listed.setIfInBounds i true) a' w') (fun _ _ h => h) (YieldsC.wpOp (C := fun w' => w' = w1) (v := p.val b i) ho' (.inl ⟨by simp [Region.wanted, hgd], fun w' hw' => by rw [hw']; exact hq⟩) rfl ?_)
      rw [hdst]
      refine .inl ⟨⟨by simp [hsl], b, hcl', hA.put hiN hinj (hin i hiN) (fun j => done_set h2) (fun _ _ _ _ => rfl), ⟨hM.os, hM.tape, hM.output, hM.size, hM.old, fun j hj hd hmj => ?_, fun j k hj hk hdj hdk hmj hmk' e => ?_⟩⟩, hnl'⟩
      · rcases (done_set h2).1 hd with rfl | hd
        · rw [hmk] at hmj; cases hmj
        · exact hM.new j hj hd hmj
      · rcases (done_set h2).1 hdj with rfl | hdj
        · rw [hmk] at hmj; cases hmj
        · rcases (done_set h2).1 hdk with rfl | hdk
          · rw [hmk] at hmk'; cases hmk'
          · exact hM.inj j k hj hk hdj hdk hmj hmk' e
    · unfold wpOp
      simp only [ho']
      rw [if_pos (by simp [Region.wanted, hgd])]
      left
      unfold Oper.wp
      rw [hrun]
      simp only [Oper.upon]
      rw [hdst]
      have hsz := hM.size
      refine .inl ⟨⟨by simp [hsl], updB b i w1.heap.size, hcl', hA.put hiN hinj (hin i hiN) (fun j => done_set h2) (fun j hj hdj hji => (hindep (doneL listed) b w1.heap.size i j hiN hj hmk hcl hdj hndi).1), ⟨hM.os, hM.tape, hM.output, by simp; omega, fun k hk => (_root_.Go.heap_alloc_old w1 _ (by omega)).trans (hM.old k hk), fun j hj hd hmj => ?_, fun j k hj hk hdj hdk hmj hmk' e => ?_⟩⟩, hnl'⟩
      · by_cases e : j = i
        · subst e
          have e1 : updB b j w1.heap.size j = w1.heap.size := by simp [updB]
          rw [e1]
          exact ⟨_root_.Go.heap_alloc_new w1 _, hsz, by simp⟩
        · have e1 : updB b i w1.heap.size j = b j := by simp [updB, e]
          rw [e1]
          rcases (done_set h2).1 hd with h' | hd
          · exact (e h').elim
          · obtain ⟨z1, z2, z3⟩ := hM.new j hj hd hmj
            rw [(hindep (doneL listed) b w1.heap.size i j hiN hj hmk hcl hd hndi).2]
            exact ⟨(_root_.Go.heap_alloc_old w1 _ z3).trans z1, z2, by simp; omega⟩
      · have hlt : ∀ j, j < N → doneL listed j → p.mks j = true → b j < w1.heap.size := by
          intro j hj hd hmj
          exact (hM.new j hj hd hmj).2.2
        by_cases e1 : j = i <;> by_cases e2 : k = i
        · rw [e1, e2]
        · subst e1
          rcases (done_set h2).1 hdk with h' | hdk
          · exact (e2 h').elim
          · have := hlt k hk hdk hmk'
            simp [updB, e2] at e; omega
        · subst e2
          rcases (done_set h2).1 hdj with h' | hdj
          · exact (e1 h').elim
          · have := hlt j hj hdj hmj
            simp [updB, e1] at e; omega
        · rcases (done_set h2).1 hdj with h' | hdj
          · exact (e1 h').elim
          · rcases (done_set h2).1 hdk with h' | hdk
            · exact (e2 h').elim
            · simp [updB, e1, e2] at e
              exact hM.inj j k hj hk hdj hdk hmj hmk' e
  · rintro listed a w1 (⟨⟨hsl, b, hcl, hA, hM⟩, hnl⟩ | ⟨_, hQ⟩) hr
    case inr => exact hQ
    have hlsz : ∀ j, j < N + 1 → j < listed.size := fun j hj => by rw [hsl]; omega
    have hall : ∀ i, i < N + 1 → doneL listed i := by
      intro i
      induction i using Nat.strongRecOn with
      | _ i ih =>
        intro hi
        obtain ⟨o, ho⟩ := hop0 i hi
        apply Classical.byContradiction
        intro hnd
        have hmem : i ∈ Region.ready .any l.toArray listed := by
          unfold Region.ready
          rw [List.mem_filter, List.mem_range]
          refine ⟨by simp; omega, ?_⟩
          have ho' : l.toArray[i]? = some o := by simpa using ho
          simp only [ho', Option.map_some, Option.getD_some, Bool.and_eq_true]
          have h1 : listed.getD i true = false := by
            unfold doneL at hnd
            simpa using hnd
          refine ⟨by rw [h1]; rfl, ?_⟩
          rw [Array.all_eq_true]
          intro k hk
          cases hb : Region.binds .any o.after[k] with
          | false => rfl
          | true =>
            have hlt := hord i o ho _ (Array.getElem_mem hk) hb
            have hd := ih _ hlt (by omega)
            have hsz : (o.after[k]).on < listed.size := hlsz _ (by omega)
            unfold doneL at hd
            simp only [Array.getD_eq_getD_getElem?] at hd ⊢
            rw [Array.getElem?_eq_getElem hsz] at hd ⊢
            simpa using hd
        rw [hr] at hmem
        simp at hmem
    exact (hnl (hall N (by omega))).elim
end

/- the checks, by the kernel -/
def gdS (l : List Oper) (N : Nat) (dst : Nat → Nat) : Bool := (List.range N).all fun i => match l[i]? with | some o => o.guard.isNone && o.dst == some (dst i) | none => true
theorem gd_ofS {l : List Oper} {N : Nat} {dst : Nat → Nat} (h : gdS l N dst = true) : ∀ i o, i < N → l[i]? = some o → o.guard = none ∧ o.dst = some (dst i) := by
  intro i o hi ho
  have h1 := List.all_eq_true.1 h i (List.mem_range.2 hi)
  simp only [ho, Bool.and_eq_true] at h1
  exact ⟨by simpa using h1.1, by simpa using h1.2⟩
/-- what the last one waits for, and what that waits for: from the last to the first, all are among them -/
def needB (l : List Oper) (N : Nat) : Bool :=
  let deps : Nat → List Nat := fun i => match l[i]? with | some o => (o.after.toList.filter (Region.binds .any)).map (·.on) | none => []
  let rec go : Nat → List Nat → List Nat
    | 0, L => L
    | i + 1, L => go i (if i ∈ L then deps i ++ L else L)
  (List.range N).all fun i => decide (i ∈ go N (deps N))
theorem need_of {l : List Oper} {N : Nat} (h : needB l N = true) (D : Nat → Prop) (hcl : ∀ j o, l[j]? = some o → j < N → D j → ∀ e ∈ o.after, Region.binds .any e = true → D e.on)
    (hl : ∀ o, l[N]? = some o → ∀ e ∈ o.after, Region.binds .any e = true → D e.on) : ∀ i, i < N → D i := by
  have hgo : ∀ (n : Nat) (L : List Nat), n ≤ N → (∀ x ∈ L, D x) → ∀ x ∈ needB.go (fun i => match l[i]? with | some o => (o.after.toList.filter (Region.binds .any)).map (·.on) | none => []) n L, D x := by
    intro n
    induction n with
    | zero => intro L _ h x hx; exact h x hx
    | succ n ih =>
      intro L hn h x hx
      unfold needB.go at hx
      refine ih _ (by omega) ?_ x hx
      intro y hy
      split at hy
      · rename_i hmem
        rcases List.mem_append.1 hy with hy | hy
        · split at hy
          · rename_i o ho
            obtain ⟨e, he, rfl⟩ := List.mem_map.1 hy
            rw [List.mem_filter] at he
            exact hcl n o ho (by omega) (h n hmem) e (by simpa using he.1) he.2
          · cases hy
        · exact h y hy
      · exact h y hy
  intro i hi
  have h1 := List.all_eq_true.1 h i (List.mem_range.2 hi)
  refine hgo N _ (Nat.le_refl _) ?_ i (of_decide_eq_true h1)
  intro x hx
  dsimp only at hx
  split at hx
  · rename_i o ho
    obtain ⟨e, he, rfl⟩ := List.mem_map.1 hx
    rw [List.mem_filter] at he
    exact hl o ho e (by simpa using he.1) he.2
  · cases hx
end Go.Proofs.YtiimddkopiknpaaGreatDoor

/-
  Laws of the walk: a store into one cell or two, behind which the world is a new name.
-/
namespace Go.Proofs.YtiimddkopiknpaaGreatDoor
open Go.RowKit

theorem isSome_setCell (w : World) (a b : Addr) (v : Value) (h : (w.cell? b).isSome = true) : ((w.setCell a v).cell? b).isSome = true := by
  obtain ⟨u, hu⟩ := Option.isSome_iff_exists.1 h
  obtain ⟨v', h'⟩ := cell?_setCell_some (w := w) (p := a) (x := v) (q := b) (v := u) hu
  rw [h']; rfl
theorem frozen_setCell (w : World) (a b : Addr) (v : Value) : (w.setCell a v).frozen? b = w.frozen? b := by
  simp

theorem cell_new_one (w : World) (x : Value) (T : TypeId) (b : Nat) (hb : b = w.heap.size) : ∀ j u, [x][j]? = some u → ((w.alloc (.cells #[x] T)).drew).cell? ((⟨b, 0, none⟩ : Addr).add j) = some u := by
  intro j u hu
  cases j with
  | zero =>
    simp at hu
    subst hu
    simp [Addr.add_lit, World.cell?_alloc_at (w := w) #[x] T b 0 hb]
  | succ j => simp at hu
theorem cell_new_two (w : World) (x y : Value) (T : TypeId) (b : Nat) (hb : b = w.heap.size) : ∀ j u, [x, y][j]? = some u → ((w.alloc (.cells #[x, y] T)).drew).cell? ((⟨b, 0, none⟩ : Addr).add j) = some u := by
  intro j u hu
  cases j with
  | zero =>
    simp at hu
    subst hu
    simp [Addr.add_lit, World.cell?_alloc_at (w := w) #[x, y] T b 0 hb]
  | succ j =>
    cases j with
    | zero =>
      simp at hu
      subst hu
      simp [Addr.add_lit, World.cell?_alloc_at (w := w) #[x, y] T b 1 hb]
    | succ j => simp at hu

section
variable {P : Program}
theorem run_storeVar_one (w : World) (t : TypeId) (b j : Nat) (v : Value) (hi : (P.info? t).map (·.size) = some 1) (hv : v.oneCell' = true)
    (hc : (w.cell? ⟨b, j, none⟩).isSome = true) (hf : w.frozen? ⟨b, j, none⟩ = false) : (storeVar t ⟨b, j, none⟩ v).run P w = .ok () (w.setCell ⟨b, j, none⟩ v) := by
  obtain ⟨u, hu⟩ := Option.isSome_iff_exists.1 hc
  cases hq : P.info? t with
  | none => simp [hq] at hi
  | some i =>
    have hs : i.size = 1 := by simpa [hq] using hi
    have hcs : v.cells = #[v] := by cases v <;> first | rfl | (simp [Value.oneCell'] at hv)
    have h2 := run_store P w ⟨b, j, none⟩ v .plain hv
    simp [storeVar, sizeOf, typeInfo, hq, hs, hcs, storeCells, Addr.add_lit, h2, hu, hf]

theorem run_storeVar_two (w : World) (t : TypeId) (b j : Nat) (x y : Value) (hi : (P.info? t).map (·.size) = some 2) (hv : x.oneCell' = true) (hv2 : y.oneCell' = true)
    (hc : (w.cell? ⟨b, j, none⟩).isSome = true) (hc2 : (w.cell? ⟨b, j + 1, none⟩).isSome = true) (hf : w.frozen? ⟨b, j, none⟩ = false) (hf2 : w.frozen? ⟨b, j + 1, none⟩ = false) :
    (storeVar t ⟨b, j, none⟩ (.agg #[x, y])).run P w = .ok () ((w.setCell ⟨b, j, none⟩ x).setCell ⟨b, j + 1, none⟩ y) := by
  obtain ⟨u, hu⟩ := Option.isSome_iff_exists.1 hc
  obtain ⟨u2, hu2⟩ := Option.isSome_iff_exists.1 (isSome_setCell w ⟨b, j, none⟩ _ x hc2)
  have hf3 : (w.setCell ⟨b, j, none⟩ x).frozen? ⟨b, j + 1, none⟩ = false := by rw [frozen_setCell]; exact hf2
  cases hq : P.info? t with
  | none => simp [hq] at hi
  | some i =>
    have hs : i.size = 2 := by simpa [hq] using hi
    have h2 := run_store P w ⟨b, j, none⟩ x .plain hv
    have h3 := run_store P (w.setCell ⟨b, j, none⟩ x) ⟨b, j + 1, none⟩ y .plain hv2
    simp only [hu, hf] at h2
    simp only [hu2, hf3] at h3
    simp only [Bool.false_eq_true, if_false] at h2 h3
    simp [storeVar, sizeOf, typeInfo, hq, hs, Value.cells, storeCells, Addr.add_lit, h2, h3]

theorem wpList_store_one {ops : Array Oper} {rest : List Oper} {o : Oper} {a : Act} {w : World} {Q : Exit → Act → World → Prop} (hgd : o.guard = none) (t : TypeId) (x y : Operand) (ho : o.op = .store t x y)
    (b j : Nat) (v : Value) (hx : a.eval x = .pointer (some ⟨b, j, none⟩)) (hy : a.eval y = v) (hi : (P.info? t).map (·.size) = some 1) (hv : v.oneCell' = true)
    (hc : (w.cell? ⟨b, j, none⟩).isSome = true) (hf : w.frozen? ⟨b, j, none⟩ = false) (h : ∀ w', w' = w.setCell ⟨b, j, none⟩ v → wpList P ops Q rest (a.put o.dst undef) w') : wpList P ops Q (o :: rest) a w :=
  wpList_plain hgd fun _ hK => by
    unfold Oper.wp execOp
    simp only [ho, hx, hy, Instr.storeAt, Instr.sureAddr, Sem.run_bind, Sem.run_pure, Result.andThen_ok, run_storeVar_one w t b j v hi hv hc hf]
    exact hK _ _ (h _ rfl)
theorem wpList_store_two {ops : Array Oper} {rest : List Oper} {o : Oper} {a : Act} {w : World} {Q : Exit → Act → World → Prop} (hgd : o.guard = none) (t : TypeId) (x y : Operand) (ho : o.op = .store t x y)
    (b j : Nat) (v1 v2 : Value) (hx : a.eval x = .pointer (some ⟨b, j, none⟩)) (hy : a.eval y = .agg #[v1, v2]) (hi : (P.info? t).map (·.size) = some 2) (hv : v1.oneCell' = true) (hv2 : v2.oneCell' = true)
    (hc : (w.cell? ⟨b, j, none⟩).isSome = true) (hc2 : (w.cell? ⟨b, j + 1, none⟩).isSome = true) (hf : w.frozen? ⟨b, j, none⟩ = false) (hf2 : w.frozen? ⟨b, j + 1, none⟩ = false)
    (h : ∀ w', w' = (w.setCell ⟨b, j, none⟩ v1).setCell ⟨b, j + 1, none⟩ v2 → wpList P ops Q rest (a.put o.dst undef) w') : wpList P ops Q (o :: rest) a w :=
  wpList_plain hgd fun _ hK => by
    unfold Oper.wp execOp
    simp only [ho, hx, hy, Instr.storeAt, Instr.sureAddr, Sem.run_bind, Sem.run_pure, Result.andThen_ok, run_storeVar_two w t b j v1 v2 hi hv hv2 hc hc2 hf hf2]
    exact hK _ _ (h _ rfl)
end
theorem take_splice {α : Type} (X : List α) (m o : Nat) (cs : List α) (h1 : o + cs.length ≤ m) (h2 : m ≤ X.length) :
    (X.take o ++ cs ++ X.drop (o + cs.length)).take m = (X.take m).take o ++ cs ++ (X.take m).drop (o + cs.length) := by
  have hl : (X.take m).length = m := by simp; omega
  have e1 : X.take o = (X.take m).take o := by rw [List.take_take, Nat.min_eq_left (by omega)]
  have e2 : X.drop (o + cs.length) = (X.take m).drop (o + cs.length) ++ X.drop m := by
    conv => lhs; rw [← List.take_append_drop m X]
    rw [List.drop_append, hl, Nat.sub_eq_zero_of_le h1, List.drop_zero]
  rw [e1, e2, ← List.append_assoc]
  apply List.take_left'
  simp only [List.length_append, List.length_take, List.length_drop]
  omega
/-- cells of a row written over by others -/
theorem Rows.splice {ι : Type} {ρ ρ' : ι → Row} {w : World} (h : Rows ρ w) (r : ι) {b : Nat} (hb : (ρ r).v.ownBlock = some b) (o : Nat) (cs : List Value) (ho : o + cs.length ≤ (ρ r).xs.length)
    (hr : ρ' r = { ρ r with xs := (ρ r).xs.take o ++ cs ++ (ρ r).xs.drop (o + cs.length) }) (hne : ∀ r', r' ≠ r → ρ' r' = ρ r') :
    ∃ cur t, w.heap[b]? = some (.cells cur t (0, 0)) ∧ o + cs.length ≤ cur.size ∧ Tr ρ w ρ' (w.setRow b (cur.toList.take o ++ cs ++ cur.toList.drop (o + cs.length)).toArray) := by
  obtain ⟨cap, hv, _⟩ := h.form r hb
  have hw := h.own r
  have hl : (ρ r).xs.length = (ρ r).n * (ρ r).k := hw.1
  rw [hv] at hw
  rcases hw.2 with ⟨h', _⟩ | ⟨g', cap', cur, h', h0, hg, hnc, hcm, hcs, htake⟩
  · simp at h'
  · simp only [Value.slice.injEq, Option.some.injEq, Addr.mk.injEq, and_true, true_and] at h'
    obtain ⟨rfl, rfl⟩ := h'
    have hle : (ρ r).n * (ρ r).k ≤ cur.size := by rw [hcs]; exact Nat.mul_le_mul_right _ hnc
    have hsz : o + cs.length ≤ cur.size := by omega
    refine ⟨cur, _, hg, hsz, ?_⟩
    have hvv : ∀ r', (ρ' r').v = (ρ r').v := by
      intro r'
      by_cases e : r' = r
      · subst e; rw [hr]
      · rw [hne r' e]
    have hgr : w.grownBy (w.setRow b (cur.toList.take o ++ cs ++ cur.toList.drop (o + cs.length)).toArray) (some b) :=
      ⟨rfl, rfl, rfl, by simp, fun k _ hk => setRow_other w b k _ (fun e => hk (by rw [e]))⟩
    refine ⟨⟨fun r' => ?_, ?_⟩, ⟨rfl, rfl, rfl, by simp, ?_⟩, ?_⟩
    · by_cases e : r' = r
      · subst e
        rw [hr]
        simp only []
        rw [hv]
        refine ⟨by simp; omega, .inr ⟨b, cap, _, rfl, h0, setRow_heap w b cur _ _ _ hg, hnc, hcm, ?_, ?_⟩⟩
        · simp; omega
        · rw [← htake]
          exact take_splice cur.toList _ o cs (by rw [← hl]; exact ho) (by simpa using hle)
      · rw [hne r' e]
        refine (h.own r').kept hgr ?_
        cases hb' : (ρ r').v.ownBlock with
        | none => exact .inl rfl
        | some b' => exact .inr fun e' => e (h.inj r' r b (by rw [hb']; exact e') hb)
    · intro r1 r2 b'
      rw [hvv, hvv]; exact h.inj r1 r2 b'
    · intro k _ hk
      exact setRow_other w b k _ (fun e => hk (by subst e; exact ⟨r, hb⟩))
    · rintro b' ⟨r', hr'⟩
      rw [hvv] at hr'; exact .inl ⟨r', hr'⟩

theorem run_copy_size {P : Program} (w : World) (dT sT ty elem : TypeId) (k : Nat) (g o dLen dCap : Nat) (a : Addr) (sLen sCap m : Nat) (cur : Array Value) (t : TypeId) (cs : List Value)
    (hu : P.underlying dT = some (.slice elem)) (hs : (P.info? elem).map (·.size) = some k)
    (hg : w.heap[g]? = some (.cells cur t (0, 0))) (hm : m = Nat.min sLen dLen) (hn : cs.length = m * k)
    (hsrc : ∀ j v, cs[j]? = some v → w.cell? (a.add j) = some v) (hfit : o + cs.length ≤ cur.size) (h1 : ∀ v ∈ cs, v.oneCell' = true) :
    (Builtin.copy_ #[dT, sT] ty #[.slice (some ⟨g, o, none⟩) dLen dCap, .slice (some a) sLen sCap]).run P w =
      .ok (goInt m) (w.setRow g (cur.toList.take o ++ cs ++ cur.toList.drop (o + cs.length)).toArray) := by
  have hl := run_loadCells_list (P := P) w a cs hsrc
  have hst := run_storeCells_at P g o t cs 0 cur w hg (by simpa using hfit) h1
  cases hq : P.info? elem with
  | none => simp [hq] at hs
  | some i =>
    have hi : i.size = k := by simpa [hq] using hs
    simp [Builtin.copy_, run_underlying hu, Builtin.lenOf, Builtin.firstCells, sizeOf, typeInfo, hq, hi, ← hm, ← hn, hl, hst]

theorem wpList_copy_rows {P : Program} {ι : Type} {ρ ρ' : ι → Row} {w : World} {ops : Array Oper} {rest : List Oper} {o : Oper} {a : Act} {Q : Exit → Act → World → Prop} (hgd : o.guard = none) (d s : Operand) (dT sT : TypeId)
    (ho : o.op = .call { callee := .builtin .copy, args := #[d, s], argTypes := #[dT, sT] }) (elem : TypeId) (k : Nat) (hu : P.underlying dT = some (.slice elem)) (hsz : (P.info? elem).map (·.size) = some k)
    (h : Rows ρ w) (r : ι) {b : Nat} (hb : (ρ r).v.ownBlock = some b) (off dLen dCap sLen sCap m : Nat) (ad : Addr) (cs : List Value)
    (hd : a.eval d = .slice (some ⟨b, off, none⟩) dLen dCap) (hs : a.eval s = .slice (some ad) sLen sCap) (hm : m = Nat.min sLen dLen) (hn : cs.length = m * k)
    (hsrc : ∀ j v, cs[j]? = some v → w.cell? (ad.add j) = some v) (hfit : off + cs.length ≤ (ρ r).xs.length) (h1 : ∀ v ∈ cs, v.oneCell' = true)
    (hr : ρ' r = { ρ r with xs := (ρ r).xs.take off ++ cs ++ (ρ r).xs.drop (off + cs.length) }) (hne : ∀ r', r' ≠ r → ρ' r' = ρ r')
    (hK : ∀ w', Tr ρ w ρ' w' → wpList P ops Q rest (a.put o.dst (goInt m)) w') : wpList P ops Q (o :: rest) a w :=
  wpList_plain hgd fun _ hK' => by
    obtain ⟨cur, t, hg, hsz2, ht⟩ := h.splice r hb off cs hfit hr hne
    have hrun := run_copy_size (P := P) w dT sT o.type elem k b off dLen dCap ad sLen sCap m cur t cs hu hsz hg hm hn hsrc hsz2 h1
    unfold Oper.wp execOp
    simp only [ho, resolve, invoke, builtin, Sem.run_bind, Sem.run_pure, Result.andThen_ok, List.map_toArray, List.map_cons, List.map_nil, hd, hs, hrun]
    exact hK' _ _ (hK _ ht)

theorem wpList_copy_zero {P : Program} {w : World} {ops : Array Oper} {rest : List Oper} {o : Oper} {a : Act} {Q : Exit → Act → World → Prop} (hgd : o.guard = none) (d s : Operand) (dT sT : TypeId)
    (ho : o.op = .call { callee := .builtin .copy, args := #[d, s], argTypes := #[dT, sT] }) (elem : TypeId) (k : Nat) (hu : P.underlying dT = some (.slice elem)) (hsz : (P.info? elem).map (·.size) = some k)
    (dp sp : Option Addr) (dLen dCap sLen sCap : Nat) (hd : a.eval d = .slice dp dLen dCap) (hs : a.eval s = .slice sp sLen sCap) (hm : Nat.min sLen dLen = 0)
    (hK : wpList P ops Q rest (a.put o.dst (goInt 0)) w) : wpList P ops Q (o :: rest) a w :=
  wpList_plain hgd fun _ hK' => by
    have hl : ∀ (x : Addr), (loadCells x 0).run P w = .ok #[] w := fun x => by simpa using run_loadCells_list (P := P) w x [] (by simp)
    have hrun : (Builtin.copy_ #[dT, sT] o.type #[.slice dp dLen dCap, .slice sp sLen sCap]).run P w = .ok (goInt 0) w := by
      cases hq : P.info? elem with
      | none => simp [hq] at hsz
      | some i => cases dp <;> cases sp <;> simp [Builtin.copy_, run_underlying hu, Builtin.lenOf, Builtin.firstCells, sizeOf, typeInfo, hq, hm, storeCells, hl]
    unfold Oper.wp execOp
    simp only [ho, resolve, invoke, builtin, Sem.run_bind, Sem.run_pure, Result.andThen_ok, List.map_toArray, List.map_cons, List.map_nil, hd, hs, hrun]
    exact hK' _ _ hK
end Go.Proofs.YtiimddkopiknpaaGreatDoor
