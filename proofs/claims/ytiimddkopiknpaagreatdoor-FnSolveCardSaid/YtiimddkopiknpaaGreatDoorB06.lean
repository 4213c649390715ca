/-
  Clauses under partial values, and the problem in memory.
-/
import Derived.Test.YtiimddkopiknpaaGreatDoorB04
set_option linter.unusedVariables false
set_option linter.unusedSimpArgs false

/-
  Clauses under partial values: what simplifying keeps. Plain.
-/
namespace Go.Proofs.YtiimddkopiknpaaGreatDoor

/-- under the true literals τ the clause is true, or two of its literals are open -/
def Clo (τ : Nat → Prop) (C : List Nat) : Prop := (∃ x ∈ C, τ x) ∨ ∃ x ∈ C, ∃ y ∈ C, x ≠ y ∧ ¬ τ (negL x) ∧ ¬ τ (negL y)
def Con (τ : Nat → Prop) : Prop := ∀ x, τ x → ¬ τ (negL x)
/-- the clauses are under all partial values as the units and the others together -/
def Eqv (F : List (List Nat)) (U : List Nat) (G : List (List Nat)) : Prop := ∀ τ, Con τ → ((∀ C ∈ F, Clo τ C) ↔ (∀ u ∈ U, τ u) ∧ ∀ D ∈ G, Clo τ D)

theorem Con.tru (σ : Nat → Bool) : Con (fun x => tru σ x = true) := by
  intro x hx hn
  rw [tru_neg, hx] at hn; cases hn
theorem Clo.tru {σ : Nat → Bool} {C : List Nat} : Clo (fun x => tru σ x = true) C ↔ ∃ x ∈ C, tru σ x = true := by
  constructor
  · rintro (h | ⟨x, hx, y, _, _, h1, _⟩)
    · exact h
    · refine ⟨x, hx, ?_⟩
      have h1 : ¬ Go.Proofs.YtiimddkopiknpaaGreatDoor.tru σ (negL x) = true := h1
      rw [tru_neg] at h1
      simpa using h1
  · exact .inl
theorem Clo.perm {τ : Nat → Prop} {C D : List Nat} (h : C.Perm D) : Clo τ C ↔ Clo τ D := by
  unfold Clo
  simp only [h.mem_iff]
theorem Clo.nil {τ : Nat → Prop} : ¬ Clo τ [] := by
  rintro (⟨x, h, _⟩ | ⟨x, h, _⟩) <;> simp at h
theorem Clo.one {τ : Nat → Prop} {x : Nat} : Clo τ [x] ↔ τ x := by
  constructor
  · rintro (⟨y, h, h1⟩ | ⟨y, h, z, h', h1, _⟩)
    · have : y = x := by simpa using h
      rw [← this]; exact h1
    · have e1 : y = x := by simpa using h
      have e2 : z = x := by simpa using h'
      exact (h1 (by rw [e1, e2])).elim
  · exact fun h => .inl ⟨x, by simp, h⟩
/-- a false literal may go -/
theorem Clo.drop {τ : Nat → Prop} (hc : Con τ) {y : Nat} {D : List Nat} (hy : τ (negL y)) : Clo τ (y :: D) ↔ Clo τ D := by
  have hny : ¬ τ y := fun h => hc y h hy
  constructor
  · rintro (⟨x, h, h1⟩ | ⟨x, h, z, h', h1, h2, h3⟩)
    · rcases List.mem_cons.1 h with rfl | h
      · exact (hny h1).elim
      · exact .inl ⟨x, h, h1⟩
    · rcases List.mem_cons.1 h with rfl | h
      · exact (h2 hy).elim
      · rcases List.mem_cons.1 h' with rfl | h'
        · exact (h3 hy).elim
        · exact .inr ⟨x, h, z, h', h1, h2, h3⟩
  · rintro (⟨x, h, h1⟩ | ⟨x, h, z, h', h1, h2, h3⟩)
    · exact .inl ⟨x, List.mem_cons_of_mem _ h, h1⟩
    · exact .inr ⟨x, List.mem_cons_of_mem _ h, z, List.mem_cons_of_mem _ h', h1, h2, h3⟩

theorem Eqv.congr {F : List (List Nat)} {U : List Nat} {G G' : List (List Nat)} (h : Eqv F U G) (hG : ∀ τ, Con τ → (∀ u ∈ U, τ u) → ((∀ D ∈ G, Clo τ D) ↔ ∀ D ∈ G', Clo τ D)) : Eqv F U G' := by
  intro τ hτ
  rw [h τ hτ]
  constructor
  · rintro ⟨h1, h2⟩; exact ⟨h1, (hG τ hτ h1).1 h2⟩
  · rintro ⟨h1, h2⟩; exact ⟨h1, (hG τ hτ h1).2 h2⟩
theorem Eqv.perm {F : List (List Nat)} {U : List Nat} {G G' : List (List Nat)} (h : Eqv F U G) (hp : G.Perm G') : Eqv F U G' :=
  h.congr fun τ _ _ => by simp only [hp.mem_iff]
/-- a true clause may go -/
theorem Eqv.sat {F : List (List Nat)} {U : List Nat} {D : List Nat} {G : List (List Nat)} (h : Eqv F U (D :: G)) {x : Nat} (hx : x ∈ D) (hu : x ∈ U) : Eqv F U G :=
  h.congr fun τ _ h1 => by
    constructor
    · exact fun h2 E hE => h2 E (List.mem_cons_of_mem _ hE)
    · intro h2 E hE
      rcases List.mem_cons.1 hE with rfl | hE
      · exact .inl ⟨x, hx, h1 x hu⟩
      · exact h2 E hE
/-- a clause of one literal is a unit -/
theorem Eqv.unit {F : List (List Nat)} {U : List Nat} {x : Nat} {G : List (List Nat)} (h : Eqv F U ([x] :: G)) : Eqv F (U ++ [x]) G := by
  intro τ hτ
  rw [h τ hτ]
  constructor
  · rintro ⟨h1, h2⟩
    refine ⟨fun u hu => ?_, fun D hD => h2 D (List.mem_cons_of_mem _ hD)⟩
    rcases List.mem_append.1 hu with hu | hu
    · exact h1 u hu
    · have : u = x := by simpa using hu
      rw [this]; exact Clo.one.1 (h2 [x] (by simp))
  · rintro ⟨h1, h2⟩
    refine ⟨fun u hu => h1 u (List.mem_append_left _ hu), fun D hD => ?_⟩
    rcases List.mem_cons.1 hD with rfl | hD
    · exact Clo.one.2 (h1 x (by simp))
    · exact h2 D hD
/-- a false literal of a clause may go -/
theorem Eqv.drop {F : List (List Nat)} {U : List Nat} {y : Nat} {D D' : List Nat} {G : List (List Nat)} (h : Eqv F U (D :: G)) (hp : D.Perm (y :: D')) (hu : negL y ∈ U) : Eqv F U (D' :: G) :=
  h.congr fun τ hτ h1 => by
    have e : Clo τ D ↔ Clo τ D' := (Clo.perm hp).trans (Clo.drop hτ (h1 _ hu))
    constructor
    · intro h2 E hE
      rcases List.mem_cons.1 hE with rfl | hE
      · exact e.1 (h2 D (by simp))
      · exact h2 E (List.mem_cons_of_mem _ hE)
    · intro h2 E hE
      rcases List.mem_cons.1 hE with rfl | hE
      · exact e.2 (h2 D' (by simp))
      · exact h2 E (List.mem_cons_of_mem _ hE)
theorem Eqv.empty {F : List (List Nat)} {U : List Nat} {G : List (List Nat)} (h : Eqv F U ([] :: G)) : ∀ τ, Con τ → ¬ ∀ C ∈ F, Clo τ C :=
  fun τ hτ hF => Clo.nil (((h τ hτ).1 hF).2 [] (by simp))

/- lists -/
theorem take_split (L : List Nat) (i n : Nat) (hi : i < n) (hn : n ≤ L.length) : (L.take n).Perm (nth L i :: ((L.set i (nth L (n - 1))).take (n - 1))) := by
  obtain ⟨m, rfl⟩ : ∃ m, n = m + 1 := ⟨n - 1, by omega⟩
  simp only [Nat.add_sub_cancel]
  rw [take_succ_nth L m (by omega)]
  by_cases e : i = m
  · subst e
    have : (L.set i (nth L i)).take i = L.take i := by
      apply List.ext_getElem
      · simp
      · intro k h1 h2
        simp at h1
        simp [List.getElem_set]
        omega
    rw [this]
    exact List.perm_append_singleton _ _
  · have h1 : (L.set i (nth L m)).take m = (L.take m).set i (nth L m) := by
      apply List.ext_getElem
      · simp
      · intro k h1 h2
        simp [List.getElem_set]
    rw [h1]
    have hi2 : i < (L.take m).length := by rw [List.length_take]; omega
    have hx : nth L i = (L.take m)[i] := by rw [nth_lt L i (by omega)]; simp
    rw [hx]
    generalize L.take m = M at *
    generalize nth L m = z
    rw [List.perm_iff_count]
    intro x
    have hpos : M[i] = x → 0 < M.count x := fun e => List.count_pos_iff.2 (by rw [← e]; exact List.getElem_mem hi2)
    simp only [List.count_append, List.count_cons, List.count_nil, List.count_set hi2]
    generalize M[i] = y at *
    by_cases e1 : y = x <;> by_cases e2 : z = x <;> simp [e1, e2] <;> (try have := hpos e1) <;> omega
end Go.Proofs.YtiimddkopiknpaaGreatDoor

/-
  The problem in memory, as rows; its small functions.
-/
namespace Go.Proofs.YtiimddkopiknpaaGreatDoor
open Go.RowKit

structure PSt where
  pb : Nat
  nv : Nat
  st : Nat
  cs : List Nat
  csV : Value
  us : List Nat
  usV : Value
  val : List Int
  mV : Value
  ids : List Nat
  lits : Nat → List Nat
  litV : Nat → Value

inductive PRole where
  | pb | cs | us | mod | cl (c : Nat) | li (c : Nat)

def PSt.cells (s : PSt) : List Value := [i64 s.nv, s.csV, .int .u8 s.st, s.usV, s.mV, .slice none 0 0, .slice none 0 0]
def PSt.row (s : PSt) : PRole → Row
  | .pb => .one 56 7 s.pb s.cells
  | .cs => ⟨92, 1, s.csV, s.cs.length, s.cs.map (ptrV ∘ some)⟩
  | .us => ⟨82, 1, s.usV, s.us.length, s.us.map i32⟩
  | .mod => ⟨84, 1, s.mV, s.val.length, s.val.map i64⟩
  | .cl c => if c ∈ s.ids then .one 112 4 c [s.litV c, .int .u32 0, .float .f32 0, .pointer none] else .nil 112 4
  | .li c => if c ∈ s.ids then ⟨82, 1, s.litV c, (s.lits c).length, (s.lits c).map i32⟩ else .nil 82 1

def PSt.va (s : PSt) (v : Nat) : Int := s.val.getD v 0

section
variable {s : PSt} {w : World}
theorem PSt.own_pb : (s.row .pb).v.ownBlock = some s.pb := rfl
theorem PSt.pbc (h : Rows s.row w) {j : Nat} {u : Value} (hu : s.cells[j]? = some u) : w.cell? ⟨s.pb, j, none⟩ = some u := h.cell .pb (b := s.pb) rfl hu
theorem PSt.pbf (h : Rows s.row w) (j : Nat) : w.frozen? ⟨s.pb, j, none⟩ = false := h.frozen .pb (b := s.pb) rfl j
theorem PSt.clc (h : Rows s.row w) {c : Nat} (hc : c ∈ s.ids) {j : Nat} {u : Value} (hu : [s.litV c, .int .u32 0, .float .f32 0, .pointer none][j]? = some u) : w.cell? ⟨c, j, none⟩ = some u :=
  h.cell (.cl c) (b := c) (by simp [PSt.row, hc, Row.one, Value.ownBlock]) (by simpa [PSt.row, hc, Row.one] using hu)
theorem PSt.clf (h : Rows s.row w) {c : Nat} (hc : c ∈ s.ids) (j : Nat) : w.frozen? ⟨c, j, none⟩ = false := h.frozen (.cl c) (b := c) (by simp [PSt.row, hc, Row.one, Value.ownBlock]) j
theorem PSt.clAt (h : Rows s.row w) {c : Nat} (hc : c ∈ s.ids) (hn : 0 < (s.lits c).length) (hl : (s.lits c).length ≤ 1000000) : ∃ b cap, s.litV c = .slice (some ⟨b, 0, none⟩) (s.lits c).length cap ∧ (s.lits c).length ≤ cap ∧ ClAt w c (s.lits c) b cap ∧ ∀ i, w.frozen? ⟨b, i, none⟩ = false := by
  obtain ⟨b, cap, h1, h2, h3, h4⟩ := h.open (.li c) (by simpa [PSt.row, hc] using hn)
  have e : (s.row (.li c)).v = s.litV c := by simp [PSt.row, hc]
  have en : (s.row (.li c)).n = (s.lits c).length := by simp [PSt.row, hc]
  rw [e, en] at h1
  have hd := PSt.clc h hc (j := 0) rfl
  rw [h1] at hd
  refine ⟨b, cap, h1, by rw [← en]; exact h3, ⟨hd, fun i hi => ?_, hl⟩, fun i => h.frozen (.li c) h2 i⟩
  exact h.cell (.li c) h2 (by simp only [PSt.row, hc, if_true]; exact getElem?_map_getD i32 (s.lits c) 0 i hi)
theorem PSt.csAt (h : Rows s.row w) (hn : 0 < s.cs.length) : ∃ b cap, s.csV = .slice (some ⟨b, 0, none⟩) s.cs.length cap ∧ s.cs.length ≤ cap ∧ (∀ i, i < s.cs.length → w.cell? ⟨b, i, none⟩ = some (.pointer (some ⟨nth s.cs i, 0, none⟩))) ∧ ∀ i, w.frozen? ⟨b, i, none⟩ = false := by
  obtain ⟨b, cap, h1, h2, h3, h4⟩ := h.open .cs hn
  exact ⟨b, cap, h1, h3, fun i hi => h.cell .cs h2 (getElem?_map_getD (ptrV ∘ some) s.cs 0 i hi), fun i => h.frozen .cs h2 i⟩
theorem PSt.modAt (h : Rows s.row w) (hn : 0 < s.val.length) : ∃ b cap, s.mV = .slice (some ⟨b, 0, none⟩) s.val.length cap ∧ (∀ i, i < s.val.length → w.cell? ⟨b, i, none⟩ = some (.int .i64 (s.va i))) ∧ ∀ i, w.frozen? ⟨b, i, none⟩ = false := by
  obtain ⟨b, cap, h1, h2, h3, h4⟩ := h.open .mod hn
  exact ⟨b, cap, h1, fun i hi => h.cell .mod h2 (getElem?_map_getD i64 s.val 0 i hi), fun i => h.frozen .mod h2 i⟩
theorem PSt.usAt (h : Rows s.row w) (hn : 0 < s.us.length) : ∃ b cap, s.usV = .slice (some ⟨b, 0, none⟩) s.us.length cap ∧ (∀ i, i < s.us.length → w.cell? ⟨b, i, none⟩ = some (.int .i32 (nth s.us i : Nat))) := by
  obtain ⟨b, cap, h1, h2, h3, h4⟩ := h.open .us hn
  exact ⟨b, cap, h1, fun i hi => h.cell .us h2 (getElem?_map_getD i32 s.us 0 i hi)⟩

/- stores -/
def PSt.setSt (s : PSt) (x : Nat) : PSt := { s with st := x }
def PSt.setNv (s : PSt) (x : Nat) : PSt := { s with nv := x }
def PSt.setVal (s : PSt) (v : Nat) (x : Int) : PSt := { s with val := s.val.set v x }
def PSt.setCs (s : PSt) (i c : Nat) : PSt := { s with cs := s.cs.set i c }
def PSt.setLit (s : PSt) (c i x : Nat) : PSt := { s with lits := fun c' => if c' = c then (s.lits c).set i x else s.lits c' }
def PSt.shrink (s : PSt) (c n : Nat) (V : Value) : PSt := { s with lits := fun c' => if c' = c then (s.lits c).take n else s.lits c', litV := fun c' => if c' = c then V else s.litV c' }
def PSt.cutCs (s : PSt) (n : Nat) (V : Value) : PSt := { s with cs := s.cs.take n, csV := V }
def PSt.pushU (s : PSt) (l : Nat) (V : Value) : PSt := { s with us := s.us ++ [l], usV := V }

theorem PSt.tSt (h : Rows s.row w) (x : Nat) : Tr s.row w (s.setSt x).row (w.setCell ⟨s.pb, 2, none⟩ (.int .u8 x)) :=
  h.set .pb rfl 2 (.int .u8 x) (by simp [PSt.row, PSt.setSt, PSt.cells, Row.one]) (fun r hr => by cases r <;> first | rfl | contradiction)
theorem PSt.tNv (h : Rows s.row w) (x : Nat) : Tr s.row w (s.setNv x).row (w.setCell ⟨s.pb, 0, none⟩ (.int .i64 x)) :=
  h.set .pb rfl 0 (i64 x) (by simp [PSt.row, PSt.setNv, PSt.cells, Row.one]) (fun r hr => by cases r <;> first | rfl | contradiction)
theorem PSt.tVal (h : Rows s.row w) {b n cap : Nat} (hv : s.mV = .slice (some ⟨b, 0, none⟩) n cap) (v : Nat) (x : Int) : Tr s.row w (s.setVal v x).row (w.setCell ⟨b, v, none⟩ (.int .i64 x)) :=
  h.set .mod (by show s.mV.ownBlock = _; rw [hv]; rfl) v (i64 x) (by simp [PSt.row, PSt.setVal, List.map_set]) (fun r hr => by cases r <;> first | rfl | contradiction)
theorem PSt.tCs (h : Rows s.row w) {b n cap : Nat} (hv : s.csV = .slice (some ⟨b, 0, none⟩) n cap) (i c : Nat) : Tr s.row w (s.setCs i c).row (w.setCell ⟨b, i, none⟩ (.pointer (some ⟨c, 0, none⟩))) :=
  h.set .cs (by show s.csV.ownBlock = _; rw [hv]; rfl) i (ptrV (some c)) (by simp [PSt.row, PSt.setCs, List.map_set]) (fun r hr => by cases r <;> first | rfl | contradiction)
theorem PSt.tLit (h : Rows s.row w) {c : Nat} (hc : c ∈ s.ids) {b n cap : Nat} (hv : s.litV c = .slice (some ⟨b, 0, none⟩) n cap) (i x : Nat) : Tr s.row w (s.setLit c i x).row (w.setCell ⟨b, i, none⟩ (.int .i32 x)) :=
  h.set (.li c) (by simp [PSt.row, hc, hv, Value.ownBlock]) i (i32 x) (by simp [PSt.row, PSt.setLit, hc, List.map_set])
    (fun r hr => by
      cases r <;> first | rfl | skip
      rename_i c'
      have hne : c' ≠ c := fun e => hr (by rw [e])
      simp [PSt.row, PSt.setLit, hne])
/-- a clause is cut: its header, in its cell -/
theorem PSt.tShrink (h : Rows s.row w) {c : Nat} (hc : c ∈ s.ids) {b cap n : Nat} (hv : s.litV c = .slice (some ⟨b, 0, none⟩) (s.lits c).length cap) (hn : n ≤ (s.lits c).length) :
    Tr s.row w (s.shrink c n (.slice (some ⟨b, 0, none⟩) n cap)).row (w.setCell ⟨c, 0, none⟩ (.slice (some ⟨b, 0, none⟩) n cap)) := by
  let ρ1 : PRole → Row := fun r => match r with | .li c' => if c' = c then ⟨82, 1, .slice (some ⟨b, 0, none⟩) n cap, n, ((s.lits c).map i32).take n⟩ else s.row (.li c') | r => s.row r
  have h1 : Rows ρ1 w := h.cut (ρ' := ρ1) (.li c) n (b := b) (cap := cap) (by simp [PSt.row, hc, hv]) (by simpa [PSt.row, hc] using hn) (by simp [ρ1, PSt.row, hc]) (fun r hr => by
    cases r <;> first | rfl | skip
    rename_i c'
    have hne : c' ≠ c := fun e => hr (by rw [e])
    simp [ρ1, hne])
  have t1 : Tr s.row w ρ1 w := Tr.same h1 (fun r => by
    cases r <;> first | rfl | skip
    rename_i c'
    by_cases e : c' = c
    · subst e; simp [ρ1, PSt.row, hc, hv, Value.ownBlock]
    · simp [ρ1, e])
  refine t1.trans (h1.set (.cl c) (b := c) (by simp [ρ1, PSt.row, hc, Row.one, Value.ownBlock]) 0 (.slice (some ⟨b, 0, none⟩) n cap) (by simp [ρ1, PSt.row, PSt.shrink, hc, Row.one]) (fun r hr => ?_))
  cases r
  case cl c' =>
    have hne : c' ≠ c := fun e => hr (by rw [e])
    simp [ρ1, PSt.row, PSt.shrink, hne]
  case li c' =>
    by_cases e : c' = c
    · subst e; simp [ρ1, PSt.row, PSt.shrink, hc, Nat.min_eq_left hn, List.map_take]
    · simp [ρ1, PSt.row, PSt.shrink, e]
  all_goals rfl
/-- the list of clauses is cut -/
theorem PSt.tCutCs (h : Rows s.row w) {b cap n : Nat} (hv : s.csV = .slice (some ⟨b, 0, none⟩) s.cs.length cap) (hn : n ≤ s.cs.length) :
    Tr s.row w (s.cutCs n (.slice (some ⟨b, 0, none⟩) n cap)).row (w.setCell ⟨s.pb, 1, none⟩ (.slice (some ⟨b, 0, none⟩) n cap)) := by
  let ρ1 : PRole → Row := fun r => match r with | .cs => ⟨92, 1, .slice (some ⟨b, 0, none⟩) n cap, n, (s.cs.map (ptrV ∘ some)).take n⟩ | r => s.row r
  have h1 : Rows ρ1 w := h.cut (ρ' := ρ1) .cs n (b := b) (cap := cap) hv hn (by simp [ρ1, PSt.row]) (fun r hr => by cases r <;> first | rfl | contradiction)
  have t1 : Tr s.row w ρ1 w := Tr.same h1 (fun r => by cases r <;> first | rfl | (simp [ρ1, PSt.row, hv, Value.ownBlock]))
  refine t1.trans (h1.set .pb (b := s.pb) rfl 1 (.slice (some ⟨b, 0, none⟩) n cap) (by simp [ρ1, PSt.row, PSt.cutCs, PSt.cells, Row.one]) (fun r hr => ?_))
  cases r <;> first | contradiction | rfl | skip
  simp [ρ1, PSt.row, PSt.cutCs, Nat.min_eq_left hn, List.map_take]
/-- a unit more -/
theorem PSt.tPush {w1 : World} (h : Rows s.row w) (l : Nat) {V' : Value} (ho : w1.ownsRow 0 82 1 V' (s.us.length + 1) (s.us.map i32 ++ [i32 l])) (hg : w.grownBy w1 s.usV.ownBlock)
    (hf : V'.ownBlock = s.usV.ownBlock ∨ ∃ b, V'.ownBlock = some b ∧ w.heap.size ≤ b) :
    (w1.cell? ⟨s.pb, 3, none⟩).isSome = true ∧ w1.frozen? ⟨s.pb, 3, none⟩ = false ∧ Tr s.row w (s.pushU l V').row (w1.setCell ⟨s.pb, 3, none⟩ V') := by
  let ρ1 : PRole → Row := fun r => match r with | .us => ⟨82, 1, V', s.us.length + 1, s.us.map i32 ++ [i32 l]⟩ | r => s.row r
  have t1 : Tr s.row w ρ1 w1 := h.grow (ρ' := ρ1) .us ho hg hf rfl (fun r hr => by cases r <;> first | rfl | contradiction)
  refine ⟨?_, t1.rows.frozen .pb (b := s.pb) rfl 3, ?_⟩
  · rw [t1.rows.cell .pb (b := s.pb) rfl (show (ρ1 .pb).xs[3]? = some s.usV from rfl)]; rfl
  · refine t1.trans (t1.rows.set .pb rfl 3 V' (by simp [ρ1, PSt.row, PSt.pushU, PSt.cells, Row.one]) (fun r hr => ?_))
    cases r <;> first | contradiction | rfl | skip
    simp [PSt.row, PSt.pushU, ρ1]
end

/- IntToLit -/
def litOf (x : Int) : Nat := if x < 0 then 2 * (x.natAbs - 1) + 1 else 2 * (x.natAbs - 1)
theorem litOf_int (x : Int) (h0 : x ≠ 0) : (litOf x : Int) = if x < 0 then 2 * (-x - 1) + 1 else 2 * (x - 1) := by unfold litOf; split <;> omega
theorem litOf_div (x : Int) (h0 : x ≠ 0) : litOf x / 2 = x.natAbs - 1 := by unfold litOf; split <;> omega
theorem litOf_neg (x : Int) (h0 : x ≠ 0) : litOf (-x) = negL (litOf x) := by unfold litOf negL; split <;> split <;> split <;> omega
theorem litOf_inj {x y : Int} (hx : x ≠ 0) (hy : y ≠ 0) (h : litOf x = litOf y) : x = y := by unfold litOf at h; split at h <;> split at h <;> omega
theorem IntToLit_c (x : Int) (w : World) (h0 : x ≠ 0) (h1 : x.natAbs ≤ 1000000) : Calls Tryz.prog 39 #[.int .i32 x] w fun e w' => e = .returned (.int .i32 (litOf x : Int)) ∧ w' = w := by
  have hl := litOf_int x h0
  by_cases hx : x < 0
  · rw [if_pos hx] at hl
    rw [hl]
    clear hl
    go_enter Tryz.func39, Tryz.ntmps39
    go_wp2_with fail
    go_ret
    exact ⟨by simp, rfl⟩
  · rw [if_neg hx] at hl
    rw [hl]
    clear hl
    go_enter Tryz.func39, Tryz.ntmps39
    go_wp2_with fail
    go_ret
    exact ⟨by simp, rfl⟩
end Go.Proofs.YtiimddkopiknpaaGreatDoor

/-
  The problem's small functions: Clause.Set, Clause.Shrink, addUnit, updateStatus.
-/
namespace Go.Proofs.YtiimddkopiknpaaGreatDoor
open Go.RowKit

section
variable {s : PSt} {w : World}
set_option maxHeartbeats 2000000 in
theorem set_c (h : Rows s.row w) {c : Nat} (hc : c ∈ s.ids) (hl : (s.lits c).length ≤ 1000000) {i x : Nat} (hi : i < (s.lits c).length) :
    Calls Tryz.prog 57 #[.pointer (some ⟨c, 0, none⟩), .int .i64 (i : Int), .int .i32 (x : Int)] w fun e w' => e = .returned (.tuple #[]) ∧ Tr s.row w (s.setLit c i x).row w' := by
  obtain ⟨b, cap, hv, hcap, hA, hF⟩ := PSt.clAt h hc (by omega) hl
  have h1 := hA.hd
  have h2 := hA.at_ i hi
  have h3 := hF i
  have ht := PSt.tLit h hc hv i x
  replace ht := Lib.hid ht
  clear hA hF hv
  go_enter Tryz.func57, Tryz.ntmps57
  go_wp2_with fail
  go_end0
  exact ⟨rfl, ht.out⟩
set_option maxHeartbeats 2000000 in
theorem shrink_c (h : Rows s.row w) {c : Nat} (hc : c ∈ s.ids) (hl : (s.lits c).length ≤ 1000000) {n : Nat} (hn : n ≤ (s.lits c).length) (h0 : 0 < n) :
    Calls Tryz.prog 59 #[.pointer (some ⟨c, 0, none⟩), .int .i64 (n : Int)] w fun e w' => e = .returned (.tuple #[]) ∧ ∃ V, Tr s.row w (s.shrink c n V).row w' := by
  obtain ⟨b, cap, hv, hcap, hA, hF⟩ := PSt.clAt h hc (by omega) hl
  have h1 := hA.hd
  have h2 := PSt.clf h hc 0
  have ht := PSt.tShrink h hc hv hn
  have h3 : (w.setCell ⟨c, 0, none⟩ (.slice (some ⟨b, 0, none⟩) n cap)).cell? ⟨c, 3, none⟩ = some (.pointer none) := PSt.clc ht.rows (by exact hc) (j := 3) rfl
  have hnc : (n : Int) ≤ (cap : Int) := by omega
  have hnl : (n : Int) ≤ ((s.lits c).length : Int) := by omega
  replace ht := Lib.hid ht
  clear hA hF
  go_enter Tryz.func59, Tryz.ntmps59
  go_wp2_with fail
  go_end0
  exact ⟨rfl, _, ht.out⟩
set_option maxHeartbeats 2000000 in
theorem updSt_c (h : Rows s.row w) {n : Nat} (hn : n ≤ s.cs.length) (h0 : 0 < s.cs.length) (hl : s.cs.length ≤ 1000000) :
    Calls Tryz.prog 60 #[.pointer (some ⟨s.pb, 0, none⟩), .int .i64 (n : Int)] w fun e w' => e = .returned (.tuple #[]) ∧ ∃ V, Tr s.row w ((s.cutCs n V).setSt (if s.st = 0 ∧ n = 0 then 1 else s.st)).row w' := by
  obtain ⟨b, cap, hv, hcap, hA, hF⟩ := PSt.csAt h h0
  have h1 : w.cell? ⟨s.pb, 1, none⟩ = some s.csV := PSt.pbc h (j := 1) rfl
  rw [hv] at h1
  have hf1 := PSt.pbf h 1
  have hf2 := PSt.pbf h 2
  have h2 : w.cell? ⟨s.pb, 2, none⟩ = some (.int .u8 s.st) := PSt.pbc h (j := 2) rfl
  have ht := PSt.tCutCs h hv hn
  have hnc : (n : Int) ≤ (cap : Int) := by omega
  have hnl : (n : Int) ≤ (s.cs.length : Int) := by omega
  by_cases hz : s.st = 0 ∧ n = 0
  · rw [if_pos hz]
    have ht2 := ht.trans (PSt.tSt ht.rows 1)
    replace ht2 := Lib.hid ht2
    replace ht := Lib.hid ht
    obtain ⟨z1, z2⟩ := hz
    subst z2
    rw [z1] at h2
    have hpb : (s.cutCs 0 (.slice (some ⟨b, 0, none⟩) 0 cap)).pb = s.pb := rfl
    rw [hpb] at ht2
    clear hA hF
    go_enter Tryz.func60, Tryz.ntmps60
    go_wp2_with fail
    go_end0
    exact ⟨rfl, _, ht2.out⟩
  · rw [if_neg hz]
    have ht2 : Tr s.row w ((s.cutCs n (.slice (some ⟨b, 0, none⟩) n cap)).setSt s.st).row (w.setCell ⟨s.pb, 1, none⟩ (.slice (some ⟨b, 0, none⟩) n cap)) := ht
    replace ht2 := Lib.hid ht2
    replace ht := Lib.hid ht
    clear hA hF
    by_cases z1 : s.st = 0
    · have z2 : ¬ n = 0 := fun e => hz ⟨z1, e⟩
      have z3 : ((n : Int) == 0) = false := by simpa using z2
      rw [z1] at h2
      go_enter Tryz.func60, Tryz.ntmps60
      go_wp2_with fail
      go_end0
      exact ⟨rfl, _, ht2.out⟩
    · have z3 : ((s.st : Int) == 0) = false := by simpa using z1
      go_enter Tryz.func60, Tryz.ntmps60
      go_wp2_with fail
      go_end0
      exact ⟨rfl, _, ht2.out⟩

set_option maxRecDepth 100000 in
set_option maxHeartbeats 4000000 in
/-- a unit: its variable is free -/
theorem addUnit_c (h : Rows s.row w) {l : Nat} (hl : l < s.val.length * 2) (hn : s.val.length ≤ 1000000) (hu : s.us.length ≤ 1000000) (hv0 : s.va (l / 2) = 0) :
    Calls Tryz.prog 58 #[.pointer (some ⟨s.pb, 0, none⟩), .int .i32 (l : Int)] w fun e w' => e = .returned (.tuple #[]) ∧ ∃ V, Tr s.row w ((s.setVal (l / 2) (sgn l 1)).pushU l V).row w' := by
  obtain ⟨iL, hiL, hz0, hz1, hz2⟩ := info_parts infoLit
  obtain ⟨b, cap, hmv, hA, hF⟩ := PSt.modAt h (by omega)
  have h4 : w.cell? ⟨s.pb, 4, none⟩ = some s.mV := PSt.pbc h (j := 4) rfl
  rw [hmv] at h4
  have g1 := hA (l / 2) (by omega)
  rw [hv0] at g1
  have gf := hF (l / 2)
  have hls : l < 2147483648 := by omega
  have k1 : (l : Int) / 2 < (s.val.length : Int) := by omega
  have k2 : (0 : Int) ≤ (l : Int) / 2 := by omega
  have k3 : ((l : Int) / 2).toNat = l / 2 := by omega
  have t1 := PSt.tVal h hmv (l / 2) (sgn l 1)
  have h3 : (w.setCell ⟨b, l / 2, none⟩ (.int .i64 (sgn l 1))).cell? ⟨s.pb, 3, none⟩ = some s.usV := PSt.pbc t1.rows (j := 3) rfl
  obtain ⟨vl, hvl⟩ : ∃ vl, vl = s.val.length := ⟨_, rfl⟩
  rw [← hvl] at h4 k1
  replace hvl := Lib.hid hvl
  have hsd : sgn l 1 = if l % 2 = 0 then 1 else -1 := rfl
  by_cases hp : l % 2 = 0
  all_goals
    have hP := fun w => Pos_c l w hls
    first | rw [decide_eq_true hp] at hP | rw [decide_eq_false hp] at hP
    replace hP := Lib.hid hP
    simp only [hp, if_true, if_false] at hsd
    rw [hsd] at t1 h3 ⊢
    have t1a := Lib.hid t1
    clear hsd hA hF
    go_enter Tryz.func58, Tryz.ntmps58
    go_wp2_with (first
      | (go_at_call 28; refine Calls.ret (hP.out _) ?_))
    refine wp_region_tail 8 (by kernel_rfl) (by kernel_rfl) ?_
    simp only [List.take_succ_cons, List.take_zero, List.drop_succ_cons, List.drop_zero]
    repeat still_step
    still_call (Var_c l _ hls)
    repeat still_step
    refine wpStill_nil ?_
    go_wp2_with fail
    refine wp_region_tail 6 (by kernel_rfl) (by kernel_rfl) ?_
    simp only [List.take_succ_cons, List.take_zero, List.drop_succ_cons, List.drop_zero]
    repeat still_step
    still_call (Var_c l _ hls)
    repeat still_step
    refine wpStill_nil ?_
    go_upto_region 7 with fail
    have t2 := t1a.out.drew.drew
    have h3 : ((w.setCell ⟨b, l / 2, none⟩ (.int .i64 (if l % 2 = 0 then 1 else -1))).drew.drew).cell? ⟨s.pb, 3, none⟩ = some s.usV := by simp only [hp, if_true, if_false]; exact h3
    simp only [hp, if_true, if_false] at h3
    obtain ⟨w2, hw2⟩ : ∃ w2, w2 = (w.setCell ⟨b, l / 2, none⟩ (.int .i64 (if l % 2 = 0 then 1 else -1))).drew.drew := ⟨_, rfl⟩
    simp only [hp, if_true, if_false] at hw2
    rw [← hw2] at t2 h3 ⊢
    clear hw2 g1 gf t1 t1a h4 hP
    replace t2 := Lib.hid t2
    go_wp2_with (at_builtin; apply keepHid)
    refine Lib.hid ?_
    refine wpList_append_rows rfl _ _ 53 rfl 82 iL (.int .i32 0) 1 4 Tryz.underlying53 hiL hz0 hz1 hz2 rfl (by decide) s.usV s.us.length (s.us.map i32) rfl ((t2.out.alloc _).rows.own .us) ⟨w2.heap.size, 0, none⟩ 1 1 [i32 l] rfl rfl (cell_new_one1 _ _ _ _ rfl) (by simp [i32, Value.oneCell']) (by unfold maxLen; omega) (by omega) ?_
    intro V' w4 ho hg hf
    obtain ⟨p1, p2, p3⟩ := PSt.tPush (s := s.setVal (l / 2) _) (t2.out.alloc _).rows l ho hg hf
    obtain ⟨u14, hu14⟩ := Option.isSome_iff_exists.1 p1
    obtain ⟨g4, cap4, rfl, _, _⟩ := own_form ho (by omega)
    have p4 := Lib.hid ((t2.out.alloc _).trans p3)
    clear p1 ho hg hf p3
    have p2 : w4.frozen? ⟨s.pb, 3, none⟩ = false := p2
    have hu14 : w4.cell? ⟨s.pb, 3, none⟩ = some u14 := hu14
    go_wp2_with fail
    go_end0
    exact ⟨rfl, _, p4.out⟩
end
end Go.Proofs.YtiimddkopiknpaaGreatDoor

/-
  The steps of simplify2 in plain terms.
-/
namespace Go.Proofs.YtiimddkopiknpaaGreatDoor

/-- the clause c holds its first nb literals, each other clause all of its own -/
def ctc (s : PSt) (c nb : Nat) : Nat → List Nat := fun c' => if c' = c then (s.lits c).take nb else s.lits c'
theorem ctc_full (s : PSt) (c nb : Nat) (h : nb = (s.lits c).length) : ctc s c nb = s.lits := by
  funext c'
  unfold ctc
  split
  · rename_i e; subst e; rw [h, List.take_length]
  · rfl

structure SV (F : List (List Nat)) (s : PSt) (n : Nat) (ct : Nat → List Nat) : Prop where
  nl : n ≤ s.cs.length
  csl : s.cs.length ≤ 1000000
  nd : (s.cs.take n).Nodup
  mem : ∀ c ∈ s.cs.take n, c ∈ s.ids
  len : ∀ c ∈ s.cs.take n, 2 ≤ (s.lits c).length ∧ (s.lits c).length ≤ 1000000
  lit : ∀ c ∈ s.cs.take n, ∀ x ∈ ct c, x < s.nv * 2
  ndv : ∀ c ∈ s.cs.take n, ((ct c).map (· / 2)).Nodup
  vl : s.val.length = s.nv
  nv1 : s.nv ≤ 1000000
  us : ∀ u ∈ s.us, u < s.nv * 2 ∧ s.va (u / 2) = sgn u 1
  va : ∀ v, v < s.nv → s.va v ≠ 0 → ∃ u ∈ s.us, u / 2 = v
  usl : s.us.length + n ≤ 1000000
  usf : s.us.length + n ≤ F.length
  st : s.st = 0
  eqv : Eqv F s.us ((s.cs.take n).map ct)
def clean (s : PSt) (k : Nat) : Prop := ∀ j, j < k → ∀ x ∈ s.lits (nth s.cs j), s.va (x / 2) = 0

/-- what never changes here -/
def PSt.keepP (s : PSt) := (s.pb, s.nv, s.ids, s.cs.length, s.csV, s.mV)

theorem nodup_erase_notin {L : List Nat} (h : L.Nodup) (c : Nat) : c ∉ L.erase c := fun hm => by
  have := (List.Nodup.mem_erase_iff h).1 hm
  exact this.1 rfl
theorem nth_take (L : List Nat) (i n : Nat) (h : i < n) : nth (L.take n) i = nth L i := by
  unfold nth
  rw [List.getD_eq_getElem?_getD, List.getD_eq_getElem?_getD, List.getElem?_take, if_pos h]
theorem mem_take_nth {L : List Nat} {i n : Nat} (hi : i < n) (hn : n ≤ L.length) : nth L i ∈ L.take n := by
  rw [← nth_take L i n hi]
  exact nth_mem _ _ (by rw [List.length_take]; omega)
theorem nth_inj {L : List Nat} (h : L.Nodup) {i j : Nat} (hi : i < L.length) (hj : j < L.length) (e : nth L i = nth L j) : i = j := by
  rw [nth_lt L i hi, nth_lt L j hj] at e
  exact (List.getElem_inj h).1 e

section
variable {F : List (List Nat)} {s : PSt} {n : Nat} {ct : Nat → List Nat}

theorem sgn_one_inj {u w : Nat} (h : u / 2 = w / 2) (hs : sgn u 1 ≠ sgn w 1) : w = negL u := by
  unfold sgn at hs
  unfold negL
  split at hs <;> split at hs <;> (split <;> omega)
/-- an assigned literal is a unit, or its negation is one -/
theorem SV.unit (h : SV F s n ct) {u : Nat} (hu : u / 2 < s.nv) (h0 : s.va (u / 2) ≠ 0) : (s.va (u / 2) = sgn u 1 ∧ u ∈ s.us) ∨ (s.va (u / 2) ≠ sgn u 1 ∧ negL u ∈ s.us) := by
  obtain ⟨w, hw, hw2⟩ := h.va _ hu h0
  have h1 := (h.us w hw).2
  rw [hw2] at h1
  by_cases e : s.va (u / 2) = sgn u 1
  · refine .inl ⟨e, ?_⟩
    rcases eq_or_neg hw2 with rfl | h'
    · exact hw
    · exfalso
      rw [h1, h'] at e
      unfold sgn negL at e
      split at e <;> split at e <;> (try split at e) <;> omega
  · refine .inr ⟨e, ?_⟩
    rw [← sgn_one_inj hw2.symm (by rw [← h1]; exact fun e' => e e'.symm)]; exact hw

theorem map_take_perm {L : List Nat} {f : Nat → List Nat} {c : Nat} (hc : c ∈ L) : (L.map f).Perm (f c :: (L.erase c).map f) := by
  have := (List.perm_cons_erase hc).map f
  exact this
theorem map_erase_congr {L : List Nat} {f g : Nat → List Nat} {c : Nat} (h : L.Nodup) (hfg : ∀ c', c' ≠ c → f c' = g c') : (L.erase c).map f = (L.erase c).map g := by
  apply List.map_congr_left
  intro c' hc'
  exact hfg c' fun e => nodup_erase_notin h c (e ▸ hc')

theorem setLit_va (s : PSt) (c i x v : Nat) : (s.setLit c i x).va v = s.va v := rfl

/-- a false literal is dropped -/
theorem SV.dropLit {c nb j : Nat} (h : SV F s n (ctc s c nb)) (hc : c ∈ s.cs.take n) (hj : j < nb) (hnb : nb ≤ (s.lits c).length) (hu : negL (nth (s.lits c) j) ∈ s.us) :
    SV F (s.setLit c j (nth (s.lits c) (nb - 1))) n (ctc (s.setLit c j (nth (s.lits c) (nb - 1))) c (nb - 1)) := by
  have hsplit := take_split (s.lits c) j nb hj hnb
  have hcc : ctc s c nb c = (s.lits c).take nb := by simp [ctc]
  have hcc' : ctc (s.setLit c j (nth (s.lits c) (nb - 1))) c (nb - 1) c = ((s.lits c).set j (nth (s.lits c) (nb - 1))).take (nb - 1) := by simp [ctc, PSt.setLit]
  have hco : ∀ c', c' ≠ c → ctc (s.setLit c j (nth (s.lits c) (nb - 1))) c (nb - 1) c' = ctc s c nb c' := fun c' e => by simp [ctc, PSt.setLit, e]
  refine ⟨h.nl, h.csl, h.nd, h.mem, ?_, ?_, ?_, h.vl, h.nv1, h.us, h.va, h.usl, h.usf, h.st, ?_⟩
  · intro c' hc'
    simp only [PSt.setLit]
    split
    · rename_i e; subst e; rw [List.length_set]; exact h.len c' hc'
    · exact h.len c' hc'
  · intro c' hc' x hx
    by_cases e : c' = c
    · subst e
      rw [hcc'] at hx
      exact h.lit c' hc' x (by rw [hcc]; exact hsplit.mem_iff.2 (List.mem_cons_of_mem _ hx))
    · rw [hco c' e] at hx; exact h.lit c' hc' x hx
  · intro c' hc'
    by_cases e : c' = c
    · subst e
      rw [hcc']
      have := h.ndv c' hc'
      rw [hcc, (hsplit.map (· / 2)).nodup_iff, List.map_cons, List.nodup_cons] at this
      exact this.2
    · rw [hco c' e]; exact h.ndv c' hc'
  · have h1 := h.eqv.perm (map_take_perm (f := ctc s c nb) hc)
    rw [hcc] at h1
    have h2 := h1.drop hsplit hu
    refine h2.perm ?_
    have h3 := map_take_perm (f := ctc (s.setLit c j (nth (s.lits c) (nb - 1))) c (nb - 1)) hc
    rw [hcc', map_erase_congr h.nd hco] at h3
    exact h3.symm
theorem take_split_mem {L : List Nat} {i n : Nat} (hi : i < n) (hn : n ≤ L.length) {c : Nat} (hc : c ∈ (L.set i (nth L (n - 1))).take (n - 1)) : c ∈ L.take n :=
  (take_split L i n hi hn).mem_iff.2 (List.mem_cons_of_mem _ hc)
/-- the clause at i is dropped: the last takes its place -/
theorem SV.dropC {i : Nat} (h : SV F s n ct) (hi : i < n) (U : List Nat) (hU : s.us = U) (heq : Eqv F U (((s.cs.set i (nth s.cs (n - 1))).take (n - 1)).map ct)) : SV F (s.setCs i (nth s.cs (n - 1))) (n - 1) ct := by
  have hsplit := take_split s.cs i n hi h.nl
  have hnd := hsplit.nodup_iff.1 h.nd
  have hsub : ∀ c ∈ (s.setCs i (nth s.cs (n - 1))).cs.take (n - 1), c ∈ s.cs.take n := fun c hc => take_split_mem hi h.nl hc
  refine ⟨by simp [PSt.setCs]; have := h.nl; omega, by simp [PSt.setCs]; exact h.csl, (List.nodup_cons.1 hnd).2, fun c hc => h.mem c (hsub c hc), fun c hc => h.len c (hsub c hc), fun c hc => h.lit c (hsub c hc), fun c hc => h.ndv c (hsub c hc), h.vl, h.nv1, h.us, h.va, ?_, ?_, h.st, ?_⟩
  · have := h.usl
    show s.us.length + (n - 1) ≤ _
    omega
  · have := h.usf
    show s.us.length + (n - 1) ≤ _
    omega
  · show Eqv F s.us _
    rw [hU]; exact heq
theorem SV.dropSat {i u : Nat} (h : SV F s n ct) (hi : i < n) (hu : u ∈ ct (nth s.cs i)) (hu2 : u ∈ s.us) : SV F (s.setCs i (nth s.cs (n - 1))) (n - 1) ct := by
  have hsplit := take_split s.cs i n hi h.nl
  refine h.dropC hi s.us rfl ?_
  have h1 := h.eqv.perm (hsplit.map ct)
  rw [List.map_cons] at h1
  exact h1.sat hu hu2
/-- the only literal left is a unit -/
theorem SV.dropUnit {i u : Nat} {V : Value} (h : SV F s n ct) (hi : i < n) (hu : ct (nth s.cs i) = [u]) (h0 : s.va (u / 2) = 0) :
    SV F (((s.setVal (u / 2) (sgn u 1)).pushU u V).setCs i (nth s.cs (n - 1))) (n - 1) ct := by
  have hsplit := take_split s.cs i n hi h.nl
  have hcm : nth s.cs i ∈ s.cs.take n := mem_take_nth hi h.nl
  have hun : u < s.nv * 2 := h.lit _ hcm u (by rw [hu]; simp)
  have hnd := hsplit.nodup_iff.1 h.nd
  have hsub : ∀ c ∈ (s.cs.set i (nth s.cs (n - 1))).take (n - 1), c ∈ s.cs.take n := fun c hc => take_split_mem hi h.nl hc
  have hva : ∀ v, ((s.setVal (u / 2) (sgn u 1)).pushU u V).va v = if u / 2 = v then sgn u 1 else s.va v := by
    intro v
    show (s.val.set (u / 2) (sgn u 1)).getD v 0 = if u / 2 = v then sgn u 1 else s.val.getD v 0
    rw [List.getD_eq_getElem?_getD, List.getD_eq_getElem?_getD, List.getElem?_set]
    by_cases e : u / 2 = v
    · subst e
      have : u / 2 < s.val.length := by rw [h.vl]; omega
      simp [this]
    · simp [e]
  have hs1 : sgn u 1 ≠ 0 := by unfold sgn; split <;> omega
  refine ⟨by show n - 1 ≤ (s.cs.set _ _).length; simp; have := h.nl; omega, by show (s.cs.set _ _).length ≤ _; simp; exact h.csl, (List.nodup_cons.1 hnd).2, fun c hc => h.mem c (hsub c hc), fun c hc => h.len c (hsub c hc), fun c hc => h.lit c (hsub c hc), fun c hc => h.ndv c (hsub c hc), by show (s.val.set _ _).length = _; simp; exact h.vl, h.nv1, ?_, ?_, ?_, ?_, h.st, ?_⟩
  · intro w hw
    show w < s.nv * 2 ∧ ((s.setVal (u / 2) (sgn u 1)).pushU u V).va (w / 2) = sgn w 1
    rw [hva]
    have hw : w ∈ s.us ++ [u] := hw
    rcases List.mem_append.1 hw with hw | hw
    · obtain ⟨z1, z2⟩ := h.us w hw
      refine ⟨z1, ?_⟩
      rw [if_neg]
      · exact z2
      · intro e
        rw [e, z2] at h0
        unfold sgn at h0
        split at h0 <;> omega
    · have : w = u := by simpa using hw
      subst this
      exact ⟨hun, by rw [if_pos rfl]⟩
  · intro v hv hv0
    have hv0 : ((s.setVal (u / 2) (sgn u 1)).pushU u V).va v ≠ 0 := hv0
    rw [hva] at hv0
    show ∃ w ∈ s.us ++ [u], w / 2 = v
    by_cases e : u / 2 = v
    · exact ⟨u, by simp, e⟩
    · rw [if_neg e] at hv0
      obtain ⟨w, hw, hw2⟩ := h.va v hv hv0
      exact ⟨w, List.mem_append_left _ hw, hw2⟩
  · show (s.us ++ [u]).length + (n - 1) ≤ _
    have := h.usl
    simp; omega
  · show (s.us ++ [u]).length + (n - 1) ≤ _
    have := h.usf
    simp; omega
  · have h1 := h.eqv.perm (hsplit.map ct)
    rw [List.map_cons, hu] at h1
    exact h1.unit
/-- what is left of the clause stays -/
theorem SV.shrunk {c nb : Nat} {V : Value} (h : SV F s n (ctc s c nb)) (hnb : nb ≤ (s.lits c).length) (h2 : 2 ≤ nb) : SV F (s.shrink c nb V) n (s.shrink c nb V).lits := by
  have e : (s.shrink c nb V).lits = ctc s c nb := by
    funext c'
    simp only [PSt.shrink, ctc]
  rw [e]
  refine ⟨h.nl, h.csl, h.nd, h.mem, ?_, h.lit, h.ndv, h.vl, h.nv1, h.us, h.va, h.usl, h.usf, h.st, h.eqv⟩
  intro c' hc'
  rw [e]
  unfold ctc
  split
  · rename_i e; subst e
    have := h.len c' hc'
    rw [List.length_take]; omega
  · exact h.len c' hc'
end

theorem SV.off {F : List (List Nat)} {s : PSt} {n : Nat} {ct ct' : Nat → List Nat} (h : SV F s n ct) (he : ∀ c ∈ s.cs.take n, ct c = ct' c) : SV F s n ct' :=
  ⟨h.nl, h.csl, h.nd, h.mem, h.len, fun c hc => by rw [← he c hc]; exact h.lit c hc, fun c hc => by rw [← he c hc]; exact h.ndv c hc, h.vl, h.nv1, h.us, h.va, h.usl, h.usf, h.st, by rw [← List.map_congr_left he]; exact h.eqv⟩
theorem notin_split {L : List Nat} {i n : Nat} (hi : i < n) (hn : n ≤ L.length) (h : (L.take n).Nodup) : nth L i ∉ (L.set i (nth L (n - 1))).take (n - 1) := by
  have := (take_split L i n hi hn).nodup_iff.1 h
  exact (List.nodup_cons.1 this).1
theorem clean_setCs {s : PSt} {i x : Nat} (h : clean s i) : clean (s.setCs i x) i := by
  intro j hj y hy
  have e : nth (s.setCs i x).cs j = nth s.cs j := by
    show nth (s.cs.set i x) j = _
    unfold nth
    rw [List.getD_eq_getElem?_getD, List.getD_eq_getElem?_getD, List.getElem?_set, if_neg (by omega)]
  rw [e] at hy
  exact h j hj y hy
theorem clean_lits {s s' : PSt} {i n : Nat} (h : clean s i) (hcs : s'.cs = s.cs) (hva : ∀ v, s'.va v = s.va v) (hin : i < n) (hn : n ≤ s.cs.length) (hnd : (s.cs.take n).Nodup) (hl : ∀ c, c ≠ nth s.cs i → s'.lits c = s.lits c) : clean s' i := by
  intro j hj y hy
  rw [hcs] at hy
  rw [hl _ (fun e => by
    have := nth_inj hnd (i := j) (j := i) (by rw [List.length_take]; omega) (by rw [List.length_take]; omega) (by rw [nth_take _ _ _ (by omega), nth_take _ _ _ hin]; exact e)
    omega)] at hy
  rw [hva]
  exact h j hj y hy
/-- simplify2's end -/
structure PFin (F : List (List Nat)) (s : PSt) : Prop where
  st : s.st = if s.cs.length = 0 then 1 else 0
  csl : s.cs.length ≤ 1000000
  nd : s.cs.Nodup
  mem : ∀ c ∈ s.cs, c ∈ s.ids
  len : ∀ c ∈ s.cs, 2 ≤ (s.lits c).length ∧ (s.lits c).length ≤ 1000000
  lit : ∀ c ∈ s.cs, ∀ x ∈ s.lits c, x < s.nv * 2
  ndv : ∀ c ∈ s.cs, ((s.lits c).map (· / 2)).Nodup
  vl : s.val.length = s.nv
  us : ∀ u ∈ s.us, u < s.nv * 2 ∧ s.va (u / 2) = sgn u 1
  va : ∀ v, v < s.nv → s.va v ≠ 0 → ∃ u ∈ s.us, u / 2 = v
  usl : s.us.length ≤ 1000000
  usf : s.us.length + s.cs.length ≤ F.length
  eqv : Eqv F s.us (s.cs.map s.lits)
  cl : ∀ c ∈ s.cs, ∀ x ∈ s.lits c, s.va (x / 2) = 0
theorem SV.fin {F : List (List Nat)} {s : PSt} {n : Nat} {V : Value} (h : SV F s n s.lits) (hc : clean s n) : PFin F ((s.cutCs n V).setSt (if s.st = 0 ∧ n = 0 then 1 else s.st)) := by
  have hn := h.nl
  refine ⟨?_, ?_, h.nd, h.mem, h.len, h.lit, h.ndv, h.vl, h.us, h.va, by have := h.usl; show s.us.length ≤ _; omega, by have := h.usf; show s.us.length + (s.cs.take n).length ≤ _; rw [List.length_take]; omega, h.eqv, ?_⟩
  · show (if s.st = 0 ∧ n = 0 then 1 else s.st) = if (s.cs.take n).length = 0 then 1 else 0
    rw [h.st, List.length_take, Nat.min_eq_left hn]
    by_cases e : n = 0 <;> simp [e]
  · show (s.cs.take n).length ≤ _
    rw [List.length_take]; have := h.csl; omega
  · intro c hcm x hx
    obtain ⟨k, hk, hk2⟩ := mem_nth _ c hcm
    have hcm : c ∈ s.cs.take n := hcm
    have hk : k < (s.cs.take n).length := hk
    rw [List.length_take] at hk
    have hk2 : nth (s.cs.take n) k = c := hk2
    rw [nth_take _ _ _ (by omega)] at hk2
    exact hc k (by omega) x (by rw [hk2]; exact hx)
end Go.Proofs.YtiimddkopiknpaaGreatDoor
