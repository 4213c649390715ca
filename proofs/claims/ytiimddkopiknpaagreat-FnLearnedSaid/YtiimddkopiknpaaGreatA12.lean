/-
  Regions of operations that come in any order.
-/
import Derived.Test.YtiimddkopiknpaaGreatA01
import Derived.Test.YtiimddkopiknpaaGreatProg
import Derived.Test.YtiimddkopiknpaaGreatA08
import Derived.Test.YtiimddkopiknpaaGreatA02
import Derived.Test.YtiimddkopiknpaaGreatA07
import Derived.Test.YtiimddkopiknpaaGreatA09
import Derived.Test.YtiimddkopiknpaaGreatA05
import Derived.Deep.MidRow
set_option linter.unusedVariables false
set_option linter.unusedSimpArgs false

/-
  A region that draws its order, by an invariant over what is done: for makers that may come in any order.
-/
namespace Go.Proofs.YtiimddkopiknpaaGreat
open Go.RowKit

section
variable {P : Program} {ops : Array Oper} {md : Region.Mode}
def cntL (n : Nat) (listed : Array Bool) : Nat := ((List.range n).filter fun i => !listed.getD i true).length
theorem ready_mem {listed : Array Bool} {i : Nat} (h : i ∈ Region.ready md ops listed) : i < ops.size ∧ listed.getD i true = false := by
  unfold Region.ready at h
  rw [List.mem_filter, List.mem_range] at h
  refine ⟨h.1, ?_⟩
  have := h.2
  simp only [Bool.and_eq_true] at this
  simpa using this.1
theorem ready_dep {listed : Array Bool} {i : Nat} (h : i ∈ Region.ready md ops listed) {o : Oper} (ho : ops[i]? = some o) {e : Edge} (he : e ∈ o.after) (hb : Region.binds md e = true) : listed.getD e.on false = true := by
  unfold Region.ready at h
  rw [List.mem_filter] at h
  have := h.2
  simp only [ho, Option.map_some, Option.getD_some, Bool.and_eq_true] at this
  have h2 := this.2
  rw [Array.all_eq_true] at h2
  obtain ⟨k, hk, rfl⟩ := Array.mem_iff_getElem.1 he
  have := h2 k hk
  rw [hb] at this
  simpa using this
theorem setL (listed : Array Bool) (i j : Nat) (hi : listed.getD i true = false) : (listed.setIfInBounds i true).getD j true = if i = j then true else listed.getD j true := by
  simp only [Array.getD_eq_getD_getElem?, Array.getElem?_setIfInBounds] at hi ⊢
  by_cases e : i = j
  · subst e
    by_cases hs : i < listed.size
    · simp [hs]
    · simp [hs]
  · simp [e]
theorem filter_set {L : List Nat} (hnd : L.Nodup) {p q : Nat → Bool} {i : Nat} (hi : i ∈ L) (hp : p i = true) (hq : q i = false) (h : ∀ j, j ≠ i → q j = p j) : (L.filter q).length + 1 = (L.filter p).length := by
  induction L with
  | nil => simp at hi
  | cons x L ih =>
    rw [List.nodup_cons] at hnd
    rcases List.mem_cons.1 hi with e | hi
    · subst e
      have : L.filter q = L.filter p := List.filter_congr fun j hj => h j fun e => hnd.1 (e ▸ hj)
      rw [List.filter_cons, List.filter_cons, hp, hq, this]
      simp
    · have hne : x ≠ i := fun e => hnd.1 (e ▸ hi)
      have := ih hnd.2 hi
      rw [List.filter_cons, List.filter_cons, h x hne]
      split
      · simp only [List.length_cons]; omega
      · exact this
theorem cntL_set {listed : Array Bool} {n i : Nat} (hi : i < n) (h : listed.getD i true = false) : cntL n (listed.setIfInBounds i true) + 1 = cntL n listed := by
  unfold cntL
  refine filter_set List.nodup_range (List.mem_range.2 hi) (by rw [h]; rfl) (by rw [setL _ _ _ h, if_pos rfl]; rfl) fun j hj => ?_
  rw [setL _ _ _ h, if_neg (fun e => hj e.symm)]
theorem cntL_zero {listed : Array Bool} (h : cntL ops.size listed = 0) : Region.ready md ops listed = [] := by
  apply List.eq_nil_iff_forall_not_mem.2
  intro i hi
  obtain ⟨h1, h2⟩ := ready_mem hi
  unfold cntL at h
  have : i ∈ (List.range ops.size).filter fun i => !listed.getD i true := List.mem_filter.2 ⟨List.mem_range.2 h1, by rw [h2]; rfl⟩
  rw [List.length_eq_zero_iff.1 h] at this
  simp at this

theorem wpAny_inv {Q : Exit → Act → World → Prop} {I : Array Bool → Act → World → Prop}
    (hstep : ∀ listed a w, I listed a w → ∀ i ∈ Region.ready md ops listed, wpOp P ops Q i (fun a' w' => I (listed.setIfInBounds i true) a' w') a w)
    (hend : ∀ listed a w, I listed a w → Region.ready md ops listed = [] → Q .normal a w) : ∀ (fuel : Nat) (listed : Array Bool) (a : Act) (w : World), cntL ops.size listed ≤ fuel → I listed a w → wpAny P md ops Q fuel listed a w
  | 0, listed, a, w, hc, hI => ⟨cntL_zero (by omega), hend _ _ _ hI (cntL_zero (by omega))⟩
  | fuel + 1, listed, a, w, hc, hI => ⟨fun h0 => hend _ _ _ hI h0, fun i hi => by
      obtain ⟨h1, h2⟩ := ready_mem hi
      have := cntL_set h1 h2
      exact wpOp_mono' (fun a' w' h' => wpAny_inv hstep hend fuel _ a' w' (by omega) h') (hstep _ _ _ hI i hi)⟩
  where
  wpOp_mono' {Q : Exit → Act → World → Prop} {i : Nat} {a : Act} {w : World} {K K' : Act → World → Prop} (h : ∀ a w, K a w → K' a w) (hh : wpOp P ops Q i K a w) : wpOp P ops Q i K' a w := by
    unfold wpOp at *
    split
    · rename_i ho; simp only [ho] at hh; exact h _ _ hh
    · rename_i o ho
      simp only [ho] at hh
      split
      · rename_i hw
        simp only [hw, if_true] at hh
        rcases hh with hh | hh
        · exact .inl (Oper.wp_mono h hh)
        · exact .inr hh
      · rename_i hw; simp only [hw] at hh; exact h _ _ hh
end

theorem wp_region_inv {P : Program} {id : Nat} {l : List Oper} {Q : Exit → Act → World → Prop} {a : Act} {w : World} (I : Array Bool → Act → World → Prop) (hm : P.follows .mixedOrders = true) (h0 : I (Array.replicate l.length false) a w.drew)
    (hstep : ∀ listed a w, I listed a w → ∀ i ∈ Region.ready .any l.toArray listed, wpOp P l.toArray Q i (fun a' w' => I (listed.setIfInBounds i true) a' w') a w)
    (hend : ∀ listed a w, I listed a w → Region.ready .any l.toArray listed = [] → Q .normal a w) : (Code.region id l.toArray true).wp P Q a w := by
  refine wp_region_any hm (wpAny_inv hstep hend _ _ _ _ ?_ ?_)
  · unfold cntL
    refine Nat.le_trans (List.length_filter_le _ _) ?_
    simp
  · simpa using h0
end Go.Proofs.YtiimddkopiknpaaGreat

/-
  A region that draws its order and makes memory in any order: each operation's value is known but for the blocks of what it makes.
-/
namespace Go.Proofs.YtiimddkopiknpaaGreat
open Go.RowKit

structure Plan where
  dst : Nat → Nat
  val : (Nat → Nat) → Nat → Value
  mks : Nat → Bool
  cells : (Nat → Nat) → Nat → Array Value × TypeId

def updB (b : Nat → Nat) (i x : Nat) : Nat → Nat := fun j => if j = i then x else b j

/-- memory behind some of the operations -/
structure PlanMem (p : Plan) (N : Nat) (w0 : World) (D : Nat → Prop) (b : Nat → Nat) (w : World) : Prop where
  os : w.os = w0.os
  tape : w.tape = w0.tape
  output : w.output = w0.output
  size : w0.heap.size ≤ w.heap.size
  old : ∀ k, k < w0.heap.size → w.heap[k]? = w0.heap[k]?
  new : ∀ i, i < N → D i → p.mks i = true → w.heap[b i]? = some (.cells (p.cells b i).1 (p.cells b i).2) ∧ w0.heap.size ≤ b i ∧ b i < w.heap.size
  inj : ∀ i j, i < N → j < N → D i → D j → p.mks i = true → p.mks j = true → b i = b j → i = j
structure PlanAct (p : Plan) (N : Nat) (a0 : Act) (D : Nat → Prop) (b : Nat → Nat) (a : Act) : Prop where
  defers : a.defers = a0.defers
  size : a.tmps.size = a0.tmps.size
  keep : ∀ k, (∀ i, i < N → p.dst i ≠ k) → a.tmps.getD k undef = a0.tmps.getD k undef
  val : ∀ i, i < N → D i → a.tmps.getD (p.dst i) undef = p.val b i

theorem putD (a : Act) (d k : Nat) (v : Value) (hd : d < a.tmps.size) : (a.put (some d) v).tmps.getD k undef = if d = k then v else a.tmps.getD k undef := by
  show (a.tmps.setIfInBounds d v).getD k undef = _
  simp only [Array.getD_eq_getD_getElem?, Array.getElem?_setIfInBounds]
  by_cases e : d = k
  · subst e; simp [hd]
  · simp [e]
theorem put_defers (a : Act) (d : Option Nat) (v : Value) : (a.put d v).defers = a.defers := by cases d <;> rfl
theorem put_size (a : Act) (d : Nat) (v : Value) : (a.put (some d) v).tmps.size = a.tmps.size := by
  show (a.tmps.setIfInBounds d v).size = _
  simp

section
variable {P : Program} {l : List Oper} {p : Plan} {a0 : Act} {w0 : World} {N : Nat}
def doneL (listed : Array Bool) (i : Nat) : Prop := listed.getD i true = true
theorem done_set {listed : Array Bool} {i j : Nat} (h : listed.getD i true = false) : doneL (listed.setIfInBounds i true) j ↔ j = i ∨ doneL listed j := by
  unfold doneL
  rw [setL _ _ _ h]
  by_cases e : i = j
  · simp [e]
  · simp [e, Ne.symm e]

def PlanI (l : List Oper) (p : Plan) (N : Nat) (a0 : Act) (w0 : World) (listed : Array Bool) (a : Act) (w : World) : Prop :=
  listed.size = l.length ∧ ∃ b, (∀ j o, l[j]? = some o → doneL listed j → ∀ e ∈ o.after, Region.binds .any e = true → doneL listed e.on) ∧ PlanAct p N a0 (doneL listed) b a ∧ PlanMem p N w0 (doneL listed) b w

theorem PlanAct.put {D D' : Nat → Prop} {b b' : Nat → Nat} {a : Act} {i : Nat} (h : PlanAct p N a0 D b a) (hi : i < N) (hinj : ∀ i j, i < N → j < N → p.dst i = p.dst j → i = j) (hin : p.dst i < a0.tmps.size) (hD : ∀ j, D' j ↔ j = i ∨ D j) (hb : ∀ j, j < N → D j → j ≠ i → p.val b' j = p.val b j) :
    PlanAct p N a0 D' b' (a.put (some (p.dst i)) (p.val b' i)) := by
  have hds : p.dst i < a.tmps.size := by rw [h.size]; exact hin
  refine ⟨(put_defers _ _ _).trans h.defers, (put_size _ _ _).trans h.size, fun k hk => ?_, fun j hj hDj => ?_⟩
  · rw [putD _ _ _ _ hds, if_neg (hk i hi)]; exact h.keep k hk
  · rw [putD _ _ _ _ hds]
    by_cases e : j = i
    · subst e; rw [if_pos rfl]
    · rw [if_neg (fun e2 => e (hinj i j hi hj e2).symm)]
      rcases (hD j).1 hDj with h' | h'
      · exact (e h').elim
      · rw [hb j hj h' e]; exact h.val j hj h'

theorem wp_region_plan {id : Nat} {Q : Exit → Act → World → Prop} {w : World} (p : Plan) (N : Nat) (hm : P.follows .mixedOrders = true) (hN : N = l.length) (hw : w0 = w.drew)
    (hg : ∀ i o, l[i]? = some o → o.guard = none ∧ o.dst = some (p.dst i))
    (hinj : ∀ i j, i < N → j < N → p.dst i = p.dst j → i = j) (hin : ∀ i, i < N → p.dst i < a0.tmps.size)
    (hord : ∀ i o, l[i]? = some o → ∀ e ∈ o.after, Region.binds .any e = true → e.on < i)
    (hindep : ∀ (D : Nat → Prop) (b : Nat → Nat) (x i j : Nat), i < N → j < N → p.mks i = true → (∀ j o, l[j]? = some o → D j → ∀ e ∈ o.after, Region.binds .any e = true → D e.on) → D j → ¬ D i → p.val (updB b i x) j = p.val b j ∧ p.cells (updB b i x) j = p.cells b j)
    (hop : ∀ (D : Nat → Prop) (b : Nat → Nat) (a : Act) (w : World) (i : Nat) (o : Oper), l[i]? = some o → (∀ e ∈ o.after, Region.binds .any e = true → D e.on) → PlanAct p N a0 D b a → PlanMem p N w0 D b w →
      (p.mks i = false ∧ Oper.quietUpon P (fun w'' => w'' = w) w (p.val b i) ((execOp a.eval o).run P w)) ∨
      (p.mks i = true ∧ (execOp a.eval o).run P w = .ok (.value (p.val (updB b i w.heap.size) i)) (w.alloc (.cells (p.cells (updB b i w.heap.size) i).1 (p.cells (updB b i w.heap.size) i).2))))
    (hend : ∀ (b : Nat → Nat) (a : Act) (w : World), PlanAct p N a0 (fun i => i < N) b a → PlanMem p N w0 (fun i => i < N) b w → Q .normal a w) : (Code.region id l.toArray true).wp P Q a0 w := by
  have hop0 : ∀ i, i < N → ∃ o, l[i]? = some o := fun i hi => ⟨l[i]'(by omega), by simp [hN ▸ hi]⟩
  refine wp_region_inv (PlanI l p N a0 w0) hm ?_ ?_ ?_
  · have hnd : ∀ i, i < N → ¬ doneL (Array.replicate l.length false) i := by
      intro i hi h
      unfold doneL at h
      rw [Array.getD_eq_getD_getElem?, Array.getElem?_replicate, if_pos (by omega)] at h
      cases h
    refine ⟨by simp, fun _ => 0, ?_, ⟨rfl, rfl, fun _ _ => rfl, fun i hi h => (hnd i hi h).elim⟩, ?_⟩
    · intro j o ho h
      have := (List.getElem?_eq_some_iff.1 ho).1
      exact (hnd j (by omega) h).elim
    · rw [← hw]
      exact ⟨rfl, rfl, rfl, Nat.le_refl _, fun _ _ => rfl, fun i hi h => (hnd i hi h).elim, fun i _ hi _ h => (hnd i hi h).elim⟩
  · rintro listed a w1 ⟨hsl, b, hcl, hA, hM⟩ i hi
    obtain ⟨h1, h2⟩ := ready_mem hi
    have hiN : i < N := by rw [hN]; simpa using h1
    obtain ⟨o, ho⟩ := hop0 i hiN
    have ho' : l.toArray[i]? = some o := by simpa using ho
    have hdep : ∀ e ∈ o.after, Region.binds .any e = true → doneL listed e.on := by
      intro e he hb
      have := ready_dep hi ho' he hb
      unfold doneL
      simp only [Array.getD_eq_getD_getElem?] at this ⊢
      cases hx : listed[e.on]? with
      | none => rw [hx] at this; cases this
      | some v => rw [hx] at this; simpa using this
    have hndi : ¬ doneL listed i := by unfold doneL; rw [h2]; decide
    obtain ⟨hgd, hdst⟩ := hg i o ho
    have hcl' : ∀ j o, l[j]? = some o → doneL (listed.setIfInBounds i true) j → ∀ e ∈ o.after, Region.binds .any e = true → doneL (listed.setIfInBounds i true) e.on := by
      intro j o' hj hd e he hb
      rw [done_set h2] at hd ⊢
      rcases hd with rfl | hd
      · rw [ho] at hj; cases hj; exact .inr (hdep e he hb)
      · exact .inr (hcl j o' hj hd e he hb)
    rcases hop (doneL listed) b a w1 i o ho hdep hA hM with ⟨hmk, hq⟩ | ⟨hmk, hrun⟩
    · refine wpOp_noQ (K := fun a' w' => PlanI l p N a0 w0 (listed.setIfInBounds i true) a' w') (fun _ _ h => h) (YieldsC.wpOp (C := fun w' => w' = w1) (v := p.val b i) ho' (.inl ⟨by simp [Region.wanted, hgd], fun w' hw' => by rw [hw']; exact hq⟩) rfl ?_)
      rw [hdst]
      refine ⟨by simp [hsl], b, hcl', hA.put hiN hinj (hin i hiN) (fun j => done_set h2) (fun _ _ _ _ => rfl), ⟨hM.os, hM.tape, hM.output, hM.size, hM.old, fun j hj hd hmj => ?_, fun j k hj hk hdj hdk hmj hmk' e => ?_⟩⟩
      · rcases (done_set h2).1 hd with rfl | hd
        · rw [hmk] at hmj; cases hmj
        · exact hM.new j hj hd hmj
      · rcases (done_set h2).1 hdj with rfl | hdj
        · rw [hmk] at hmj; cases hmj
        · rcases (done_set h2).1 hdk with rfl | hdk
          · rw [hmk] at hmk'; cases hmk'
          · exact hM.inj j k hj hk hdj hdk hmj hmk' e
    · unfold wpOp
      simp only [ho']
      rw [if_pos (by simp [Region.wanted, hgd])]
      left
      unfold Oper.wp
      rw [hrun]
      simp only [Oper.upon]
      rw [hdst]
      have hsz := hM.size
      refine ⟨by simp [hsl], updB b i w1.heap.size, hcl', hA.put hiN hinj (hin i hiN) (fun j => done_set h2) (fun j hj hdj hji => (hindep (doneL listed) b w1.heap.size i j hiN hj hmk hcl hdj hndi).1), ⟨hM.os, hM.tape, hM.output, by simp; omega, fun k hk => (_root_.Go.heap_alloc_old w1 _ (by omega)).trans (hM.old k hk), fun j hj hd hmj => ?_, fun j k hj hk hdj hdk hmj hmk' e => ?_⟩⟩
      · by_cases e : j = i
        · subst e
          have e1 : updB b j w1.heap.size j = w1.heap.size := by simp [updB]
          rw [e1]
          exact ⟨_root_.Go.heap_alloc_new w1 _, hsz, by simp⟩
        · have e1 : updB b i w1.heap.size j = b j := by simp [updB, e]
          rw [e1]
          rcases (done_set h2).1 hd with h' | hd
          · exact (e h').elim
          · obtain ⟨z1, z2, z3⟩ := hM.new j hj hd hmj
            rw [(hindep (doneL listed) b w1.heap.size i j hiN hj hmk hcl hd hndi).2]
            exact ⟨(_root_.Go.heap_alloc_old w1 _ z3).trans z1, z2, by simp; omega⟩
      · have hlt : ∀ j, j < N → doneL listed j → p.mks j = true → b j < w1.heap.size := by
          intro j hj hd hmj
          exact (hM.new j hj hd hmj).2.2
        by_cases e1 : j = i <;> by_cases e2 : k = i
        · rw [e1, e2]
        · subst e1
          rcases (done_set h2).1 hdk with h' | hdk
          · exact (e2 h').elim
          · have := hlt k hk hdk hmk'
            simp [updB, e2] at e; omega
        · subst e2
          rcases (done_set h2).1 hdj with h' | hdj
          · exact (e1 h').elim
          · have := hlt j hj hdj hmj
            simp [updB, e1] at e; omega
        · rcases (done_set h2).1 hdj with h' | hdj
          · exact (e1 h').elim
          · rcases (done_set h2).1 hdk with h' | hdk
            · exact (e2 h').elim
            · simp [updB, e1, e2] at e
              exact hM.inj j k hj hk hdj hdk hmj hmk' e
  · rintro listed a w1 ⟨hsl, b, hcl, hA, hM⟩ hr
    have hlsz : ∀ j, j < N → j < listed.size := fun j hj => by rw [hsl]; omega
    -- all are done: by strong induction none can be the first that is not
    have hall : ∀ i, i < N → doneL listed i := by
      intro i
      induction i using Nat.strongRecOn with
      | _ i ih =>
        intro hi
        obtain ⟨o, ho⟩ := hop0 i hi
        apply Classical.byContradiction
        intro hnd
        have hmem : i ∈ Region.ready .any l.toArray listed := by
          unfold Region.ready
          rw [List.mem_filter, List.mem_range]
          refine ⟨by simp; omega, ?_⟩
          have ho' : l.toArray[i]? = some o := by simpa using ho
          simp only [ho', Option.map_some, Option.getD_some, Bool.and_eq_true]
          have h1 : listed.getD i true = false := by
            unfold doneL at hnd
            simpa using hnd
          refine ⟨by rw [h1]; rfl, ?_⟩
          rw [Array.all_eq_true]
          intro k hk
          cases hb : Region.binds .any o.after[k] with
          | false => rfl
          | true =>
            have hlt := hord i o ho _ (Array.getElem_mem hk) hb
            have hd := ih _ hlt (by omega)
            have hsz : (o.after[k]).on < listed.size := hlsz _ (by omega)
            unfold doneL at hd
            simp only [Array.getD_eq_getD_getElem?] at hd ⊢
            rw [Array.getElem?_eq_getElem hsz] at hd ⊢
            simpa using hd
        rw [hr] at hmem
        simp at hmem
    exact hend b a w1 ⟨hA.defers, hA.size, hA.keep, fun i hi _ => hA.val i hi (hall i hi)⟩ ⟨hM.os, hM.tape, hM.output, hM.size, hM.old, fun i hi _ => hM.new i hi (hall i hi), fun i j hi hj _ _ => hM.inj i j hi hj (hall i hi) (hall j hj)⟩
end

/- the plan's checks, by the kernel -/
def ordB (l : List Oper) : Bool := (List.range l.length).all fun i => match l[i]? with | some o => o.after.toList.all fun e => !Region.binds .any e || decide (e.on < i) | none => true
theorem ord_of {l : List Oper} (h : ordB l = true) : ∀ i o, l[i]? = some o → ∀ e ∈ o.after, Region.binds .any e = true → e.on < i := by
  intro i o ho e he hb
  have hi := (List.getElem?_eq_some_iff.1 ho).1
  have h1 := List.all_eq_true.1 h i (List.mem_range.2 hi)
  simp only [ho] at h1
  have h2 := List.all_eq_true.1 h1 e (by simpa using he)
  rw [hb] at h2
  simpa using h2
def gdB (l : List Oper) (dst : Nat → Nat) : Bool := (List.range l.length).all fun i => match l[i]? with | some o => o.guard.isNone && o.dst == some (dst i) | none => true
theorem gd_of {l : List Oper} {dst : Nat → Nat} (h : gdB l dst = true) : ∀ i o, l[i]? = some o → o.guard = none ∧ o.dst = some (dst i) := by
  intro i o ho
  have hi := (List.getElem?_eq_some_iff.1 ho).1
  have h1 := List.all_eq_true.1 h i (List.mem_range.2 hi)
  simp only [ho, Bool.and_eq_true] at h1
  exact ⟨by simpa using h1.1, by simpa using h1.2⟩
/-- the frame behind all operations, written out -/
def planEnd (p : Plan) (b : Nat → Nat) (a0 : Act) : Nat → Act
  | 0 => a0
  | n + 1 => (planEnd p b a0 n).put (some (p.dst n)) (p.val b n)
theorem planEnd_size (p : Plan) (b : Nat → Nat) (a0 : Act) (n : Nat) : (planEnd p b a0 n).tmps.size = a0.tmps.size := by
  induction n with
  | zero => rfl
  | succ n ih => rw [planEnd, put_size, ih]
theorem PlanAct.fin {p : Plan} {N : Nat} {a0 a : Act} {b : Nat → Nat} (h : PlanAct p N a0 (fun i => i < N) b a) (hinj : ∀ i j, i < N → j < N → p.dst i = p.dst j → i = j) (hin : ∀ i, i < N → p.dst i < a0.tmps.size) : a = planEnd p b a0 N := by
  have hd : ∀ n, (planEnd p b a0 n).defers = a0.defers := by
    intro n
    induction n with
    | zero => rfl
    | succ n ih => rw [planEnd, put_defers, ih]
  have hg : ∀ n k, n ≤ N → (planEnd p b a0 n).tmps.getD k undef = a0.tmps.getD k undef ∨ ∃ i, i < n ∧ p.dst i = k ∧ (planEnd p b a0 n).tmps.getD k undef = p.val b i := by
    intro n
    induction n with
    | zero => intro k _; exact .inl rfl
    | succ n ih =>
      intro k hn
      rw [planEnd, putD _ _ _ _ (by rw [planEnd_size]; exact hin n (by omega))]
      by_cases e : p.dst n = k
      · rw [if_pos e]; exact .inr ⟨n, by omega, e, rfl⟩
      · rw [if_neg e]
        rcases ih k (by omega) with h1 | ⟨i, h1, h2, h3⟩
        · exact .inl h1
        · exact .inr ⟨i, by omega, h2, h3⟩
  have hg2 : ∀ n i, n ≤ N → i < n → (planEnd p b a0 n).tmps.getD (p.dst i) undef = p.val b i := by
    intro n
    induction n with
    | zero => intro i _ hi; omega
    | succ n ih =>
      intro i hn hi
      rw [planEnd, putD _ _ _ _ (by rw [planEnd_size]; exact hin n (by omega))]
      by_cases e : p.dst n = p.dst i
      · have := hinj n i (by omega) (by omega) e
        subst this
        rw [if_pos rfl]
      · rw [if_neg e]
        exact ih i (by omega) (by
          have : i ≠ n := fun e2 => e (by rw [e2])
          omega)
  have hk : ∀ k, a.tmps.getD k undef = (planEnd p b a0 N).tmps.getD k undef := by
    intro k
    by_cases hx : ∃ i, i < N ∧ p.dst i = k
    · obtain ⟨i, hi, rfl⟩ := hx
      rw [h.val i hi hi, hg2 N i (Nat.le_refl _) hi]
    · rw [h.keep k (fun i hi e => hx ⟨i, hi, e⟩)]
      rcases hg N k (Nat.le_refl _) with h1 | ⟨i, h1, h2, _⟩
      · exact h1.symm
      · exact (hx ⟨i, h1, h2⟩).elim
  have ht : a.tmps = (planEnd p b a0 N).tmps := by
    apply Array.ext
    · rw [h.size, planEnd_size]
    · intro i h1 h2
      have := hk i
      simpa [Array.getD_eq_getD_getElem?, h1, h2] using this
  have hdd : a.defers = (planEnd p b a0 N).defers := by rw [h.defers, hd]
  cases a
  rename_i t d
  have e : planEnd p b a0 N = ⟨(planEnd p b a0 N).tmps, (planEnd p b a0 N).defers⟩ := rfl
  rw [e, ← ht, ← hdd]
end Go.Proofs.YtiimddkopiknpaaGreat

/-
  A region that draws its order and makes memory, and ends with one store behind all else.
-/
namespace Go.Proofs.YtiimddkopiknpaaGreat
open Go.RowKit

section
variable {P : Program} {l : List Oper} {p : Plan} {a0 : Act} {w0 : World} {N : Nat}
theorem wp_region_planS {id : Nat} {Q : Exit → Act → World → Prop} {w : World} (p : Plan) (N : Nat) (hm : P.follows .mixedOrders = true) (hN : l.length = N + 1) (hw : w0 = w.drew)
    (hg : ∀ i o, i < N → l[i]? = some o → o.guard = none ∧ o.dst = some (p.dst i))
    (hgl : ∀ o, l[N]? = some o → o.guard = none)
    (hlast : ∀ (D : Nat → Prop), (∀ j o, l[j]? = some o → j < N → D j → ∀ e ∈ o.after, Region.binds .any e = true → D e.on) → (∀ o, l[N]? = some o → ∀ e ∈ o.after, Region.binds .any e = true → D e.on) → ∀ i, i < N → D i)
    (hinj : ∀ i j, i < N → j < N → p.dst i = p.dst j → i = j) (hin : ∀ i, i < N → p.dst i < a0.tmps.size)
    (hord : ∀ i o, l[i]? = some o → ∀ e ∈ o.after, Region.binds .any e = true → e.on < i)
    (hindep : ∀ (D : Nat → Prop) (b : Nat → Nat) (x i j : Nat), i < N → j < N → p.mks i = true → (∀ j o, l[j]? = some o → D j → ∀ e ∈ o.after, Region.binds .any e = true → D e.on) → D j → ¬ D i → p.val (updB b i x) j = p.val b j ∧ p.cells (updB b i x) j = p.cells b j)
    (hop : ∀ (D : Nat → Prop) (b : Nat → Nat) (a : Act) (w : World) (i : Nat) (o : Oper), i < N → l[i]? = some o → (∀ e ∈ o.after, Region.binds .any e = true → D e.on) → PlanAct p N a0 D b a → PlanMem p N w0 D b w →
      (p.mks i = false ∧ Oper.quietUpon P (fun w'' => w'' = w) w (p.val b i) ((execOp a.eval o).run P w)) ∨
      (p.mks i = true ∧ (execOp a.eval o).run P w = .ok (.value (p.val (updB b i w.heap.size) i)) (w.alloc (.cells (p.cells (updB b i w.heap.size) i).1 (p.cells (updB b i w.heap.size) i).2))))
    (hend : ∀ (b : Nat → Nat) (a : Act) (w : World) (o : Oper), l[N]? = some o → PlanAct p N a0 (fun i => i < N) b a → PlanMem p N w0 (fun i => i < N) b w → o.wp P a w (fun a' w' => Q .normal a' w') Q) : (Code.region id l.toArray true).wp P Q a0 w := by
  have hop0 : ∀ i, i < N + 1 → ∃ o, l[i]? = some o := fun i hi => ⟨l[i]'(by omega), by simp⟩
  let J : Array Bool → Act → World → Prop := fun listed a w => (PlanI l p N a0 w0 listed a w ∧ ¬ doneL listed N) ∨ ((∀ i, i < N + 1 → doneL listed i) ∧ Q .normal a w)
  refine wp_region_inv J hm ?_ ?_ ?_
  · have hnd : ∀ i, i < N + 1 → ¬ doneL (Array.replicate l.length false) i := by
      intro i hi h
      unfold doneL at h
      rw [Array.getD_eq_getD_getElem?, Array.getElem?_replicate, if_pos (by omega)] at h
      cases h
    refine .inl ⟨⟨by simp, fun _ => 0, ?_, ⟨rfl, rfl, fun _ _ => rfl, fun i hi h => (hnd i (by omega) h).elim⟩, ?_⟩, hnd N (by omega)⟩
    · intro j o ho h
      have := (List.getElem?_eq_some_iff.1 ho).1
      exact (hnd j (by omega) h).elim
    · rw [← hw]
      exact ⟨rfl, rfl, rfl, Nat.le_refl _, fun _ _ => rfl, fun i hi h => (hnd i (by omega) h).elim, fun i _ hi _ h => (hnd i (by omega) h).elim⟩
  · rintro listed a w1 (⟨⟨hsl, b, hcl, hA, hM⟩, hnl⟩ | ⟨hall, _⟩) i hi
    case inr =>
      obtain ⟨h1, h2⟩ := ready_mem hi
      have := hall i (by rw [← hN]; simpa using h1)
      unfold doneL at this
      rw [h2] at this; cases this
    obtain ⟨h1, h2⟩ := ready_mem hi
    have hiN : i < N + 1 := by rw [← hN]; simpa using h1
    obtain ⟨o, ho⟩ := hop0 i hiN
    have ho' : l.toArray[i]? = some o := by simpa using ho
    have hdep : ∀ e ∈ o.after, Region.binds .any e = true → doneL listed e.on := by
      intro e he hb
      have := ready_dep hi ho' he hb
      unfold doneL
      simp only [Array.getD_eq_getD_getElem?] at this ⊢
      cases hx : listed[e.on]? with
      | none => rw [hx] at this; cases this
      | some v => rw [hx] at this; simpa using this
    have hndi : ¬ doneL listed i := by unfold doneL; rw [h2]; decide
    by_cases hlt : i < N
    case neg =>
      have : i = N := by omega
      subst this
      have hall := hlast (doneL listed) (fun j o' hj _ hd => hcl j o' hj hd) (fun o' hj => by rw [ho] at hj; cases hj; exact hdep)
      have hgd := hgl o ho
      unfold wpOp
      simp only [ho']
      rw [if_pos (by simp [Region.wanted, hgd])]
      left
      refine Oper.wp_mono (fun a' w' hq => .inr ⟨fun j hj => ?_, hq⟩) (hend b a w1 o ho ⟨hA.defers, hA.size, hA.keep, fun i hi _ => hA.val i hi (hall i hi)⟩ ⟨hM.os, hM.tape, hM.output, hM.size, hM.old, fun i hi _ => hM.new i hi (hall i hi), fun i j hi hj _ _ => hM.inj i j hi hj (hall i hi) (hall j hj)⟩)
      rw [done_set h2]
      by_cases e : j = i
      · exact .inl e
      · exact .inr (hall j (by omega))
    replace hiN := hlt
    clear hlt
    obtain ⟨hgd, hdst⟩ := hg i o hiN ho
    have hnl' : ¬ doneL (listed.setIfInBounds i true) N := by
      rw [done_set h2]
      rintro (e | e)
      · omega
      · exact hnl e
    have hcl' : ∀ j o, l[j]? = some o → doneL (listed.setIfInBounds i true) j → ∀ e ∈ o.after, Region.binds .any e = true → doneL (listed.setIfInBounds i true) e.on := by
      intro j o' hj hd e he hb
      rw [done_set h2] at hd ⊢
      rcases hd with rfl | hd
      · rw [ho] at hj; cases hj; exact .inr (hdep e he hb)
      · exact .inr (hcl j o' hj hd e he hb)
    rcases hop (doneL listed) b a w1 i o hiN ho hdep hA hM with ⟨hmk, hq⟩ | ⟨hmk, hrun⟩
    · refine wpOp_noQ (K := fun a' w' => J (listed.setIfInBounds i true) a' w') (fun _ _ h => h) (YieldsC.wpOp (C := fun w' => w' = w1) (v := p.val b i) ho' (.inl ⟨by simp [Region.wanted, hgd], fun w' hw' => by rw [hw']; exact hq⟩) rfl ?_)
      rw [hdst]
      refine .inl ⟨⟨by simp [hsl], b, hcl', hA.put hiN hinj (hin i hiN) (fun j => done_set h2) (fun _ _ _ _ => rfl), ⟨hM.os, hM.tape, hM.output, hM.size, hM.old, fun j hj hd hmj => ?_, fun j k hj hk hdj hdk hmj hmk' e => ?_⟩⟩, hnl'⟩
      · rcases (done_set h2).1 hd with rfl | hd
        · rw [hmk] at hmj; cases hmj
        · exact hM.new j hj hd hmj
      · rcases (done_set h2).1 hdj with rfl | hdj
        · rw [hmk] at hmj; cases hmj
        · rcases (done_set h2).1 hdk with rfl | hdk
          · rw [hmk] at hmk'; cases hmk'
          · exact hM.inj j k hj hk hdj hdk hmj hmk' e
    · unfold wpOp
      simp only [ho']
      rw [if_pos (by simp [Region.wanted, hgd])]
      left
      unfold Oper.wp
      rw [hrun]
      simp only [Oper.upon]
      rw [hdst]
      have hsz := hM.size
      refine .inl ⟨⟨by simp [hsl], updB b i w1.heap.size, hcl', hA.put hiN hinj (hin i hiN) (fun j => done_set h2) (fun j hj hdj hji => (hindep (doneL listed) b w1.heap.size i j hiN hj hmk hcl hdj hndi).1), ⟨hM.os, hM.tape, hM.output, by simp; omega, fun k hk => (_root_.Go.heap_alloc_old w1 _ (by omega)).trans (hM.old k hk), fun j hj hd hmj => ?_, fun j k hj hk hdj hdk hmj hmk' e => ?_⟩⟩, hnl'⟩
      · by_cases e : j = i
        · subst e
          have e1 : updB b j w1.heap.size j = w1.heap.size := by simp [updB]
          rw [e1]
          exact ⟨_root_.Go.heap_alloc_new w1 _, hsz, by simp⟩
        · have e1 : updB b i w1.heap.size j = b j := by simp [updB, e]
          rw [e1]
          rcases (done_set h2).1 hd with h' | hd
          · exact (e h').elim
          · obtain ⟨z1, z2, z3⟩ := hM.new j hj hd hmj
            rw [(hindep (doneL listed) b w1.heap.size i j hiN hj hmk hcl hd hndi).2]
            exact ⟨(_root_.Go.heap_alloc_old w1 _ z3).trans z1, z2, by simp; omega⟩
      · have hlt : ∀ j, j < N → doneL listed j → p.mks j = true → b j < w1.heap.size := by
          intro j hj hd hmj
          exact (hM.new j hj hd hmj).2.2
        by_cases e1 : j = i <;> by_cases e2 : k = i
        · rw [e1, e2]
        · subst e1
          rcases (done_set h2).1 hdk with h' | hdk
          · exact (e2 h').elim
          · have := hlt k hk hdk hmk'
            simp [updB, e2] at e; omega
        · subst e2
          rcases (done_set h2).1 hdj with h' | hdj
          · exact (e1 h').elim
          · have := hlt j hj hdj hmj
            simp [updB, e1] at e; omega
        · rcases (done_set h2).1 hdj with h' | hdj
          · exact (e1 h').elim
          · rcases (done_set h2).1 hdk with h' | hdk
            · exact (e2 h').elim
            · simp [updB, e1, e2] at e
              exact hM.inj j k hj hk hdj hdk hmj hmk' e
  · rintro listed a w1 (⟨⟨hsl, b, hcl, hA, hM⟩, hnl⟩ | ⟨_, hQ⟩) hr
    case inr => exact hQ
    have hlsz : ∀ j, j < N + 1 → j < listed.size := fun j hj => by rw [hsl]; omega
    have hall : ∀ i, i < N + 1 → doneL listed i := by
      intro i
      induction i using Nat.strongRecOn with
      | _ i ih =>
        intro hi
        obtain ⟨o, ho⟩ := hop0 i hi
        apply Classical.byContradiction
        intro hnd
        have hmem : i ∈ Region.ready .any l.toArray listed := by
          unfold Region.ready
          rw [List.mem_filter, List.mem_range]
          refine ⟨by simp; omega, ?_⟩
          have ho' : l.toArray[i]? = some o := by simpa using ho
          simp only [ho', Option.map_some, Option.getD_some, Bool.and_eq_true]
          have h1 : listed.getD i true = false := by
            unfold doneL at hnd
            simpa using hnd
          refine ⟨by rw [h1]; rfl, ?_⟩
          rw [Array.all_eq_true]
          intro k hk
          cases hb : Region.binds .any o.after[k] with
          | false => rfl
          | true =>
            have hlt := hord i o ho _ (Array.getElem_mem hk) hb
            have hd := ih _ hlt (by omega)
            have hsz : (o.after[k]).on < listed.size := hlsz _ (by omega)
            unfold doneL at hd
            simp only [Array.getD_eq_getD_getElem?] at hd ⊢
            rw [Array.getElem?_eq_getElem hsz] at hd ⊢
            simpa using hd
        rw [hr] at hmem
        simp at hmem
    exact (hnl (hall N (by omega))).elim
end

/- the checks, by the kernel -/
def gdS (l : List Oper) (N : Nat) (dst : Nat → Nat) : Bool := (List.range N).all fun i => match l[i]? with | some o => o.guard.isNone && o.dst == some (dst i) | none => true
theorem gd_ofS {l : List Oper} {N : Nat} {dst : Nat → Nat} (h : gdS l N dst = true) : ∀ i o, i < N → l[i]? = some o → o.guard = none ∧ o.dst = some (dst i) := by
  intro i o hi ho
  have h1 := List.all_eq_true.1 h i (List.mem_range.2 hi)
  simp only [ho, Bool.and_eq_true] at h1
  exact ⟨by simpa using h1.1, by simpa using h1.2⟩
/-- what the last one waits for, and what that waits for: from the last to the first, all are among them -/
def needB (l : List Oper) (N : Nat) : Bool :=
  let deps : Nat → List Nat := fun i => match l[i]? with | some o => (o.after.toList.filter (Region.binds .any)).map (·.on) | none => []
  let rec go : Nat → List Nat → List Nat
    | 0, L => L
    | i + 1, L => go i (if i ∈ L then deps i ++ L else L)
  (List.range N).all fun i => decide (i ∈ go N (deps N))
theorem need_of {l : List Oper} {N : Nat} (h : needB l N = true) (D : Nat → Prop) (hcl : ∀ j o, l[j]? = some o → j < N → D j → ∀ e ∈ o.after, Region.binds .any e = true → D e.on)
    (hl : ∀ o, l[N]? = some o → ∀ e ∈ o.after, Region.binds .any e = true → D e.on) : ∀ i, i < N → D i := by
  have hgo : ∀ (n : Nat) (L : List Nat), n ≤ N → (∀ x ∈ L, D x) → ∀ x ∈ needB.go (fun i => match l[i]? with | some o => (o.after.toList.filter (Region.binds .any)).map (·.on) | none => []) n L, D x := by
    intro n
    induction n with
    | zero => intro L _ h x hx; exact h x hx
    | succ n ih =>
      intro L hn h x hx
      unfold needB.go at hx
      refine ih _ (by omega) ?_ x hx
      intro y hy
      split at hy
      · rename_i hmem
        rcases List.mem_append.1 hy with hy | hy
        · split at hy
          · rename_i o ho
            obtain ⟨e, he, rfl⟩ := List.mem_map.1 hy
            rw [List.mem_filter] at he
            exact hcl n o ho (by omega) (h n hmem) e (by simpa using he.1) he.2
          · cases hy
        · exact h y hy
      · exact h y hy
  intro i hi
  have h1 := List.all_eq_true.1 h i (List.mem_range.2 hi)
  refine hgo N _ (Nat.le_refl _) ?_ i (of_decide_eq_true h1)
  intro x hx
  dsimp only at hx
  split at hx
  · rename_i o ho
    obtain ⟨e, he, rfl⟩ := List.mem_map.1 hx
    rw [List.mem_filter] at he
    exact hl o ho e (by simpa using he.1) he.2
  · cases hx
end Go.Proofs.YtiimddkopiknpaaGreat

/-
  The solver's struct as New builds it: its cells.
-/
namespace Go.Proofs.YtiimddkopiknpaaGreat
open Go.RowKit

theorem fill_one (place : Nat → Option (Nat × Nat)) (cells : Array Value) (i off : Nat) (v : Value) (rest : List (Nat × Value)) (h : place i = some (off, 1)) (hv : v.oneCell' = true) (ho : off < cells.size) :
    Instr.fill place cells ((i, v) :: rest) = Instr.fill place (cells.setIfInBounds off v) rest := by
  have hc : v.cells = #[v] := by cases v <;> first | rfl | (simp [Value.oneCell'] at hv)
  rw [Instr.fill, h]
  simp only [hc]
  rw [if_neg (by simp; omega)]
  simp

/-- which zero a cell holds -/
def kindV (v : Value) : Nat := match v with
  | .bool false => 1
  | .slice none 0 0 => 2
  | .int .i64 0 => 3
  | .int .u8 0 => 4
  | .float .f64 0 => 5
  | .float .f32 0 => 6
  | _ => 0
def headK : List Nat := [1, 1, 2, 1, 3, 4, 3, 3, 2, 2, 2, 2, 2, 2, 2, 2, 2, 2, 2, 2, 2, 2, 2, 2, 5, 6, 3, 3, 3, 3, 5, 3, 3, 3, 3, 5]
def tailK : List Nat := [3, 3, 3, 3, 3, 3, 3, 3, 2, 2, 2, 3, 5, 2, 2, 2]
def chkSol (z : List Value) : Bool := (z.take 36).map kindV == headK && ((z.drop 36).take 5050).all (fun v => kindV v == 3) && ((z.drop 36).drop 5050).map kindV == tailK
theorem zSol_ok : ((Tryz.prog.info? 100).bind (·.zero)).map (fun v => chkSol v.cells.toList) = some true := by kernel_rfl
def solK (j : Nat) : Nat := if j < 36 then headK.getD j 0 else if j < 5086 then 3 else tailK.getD (j - 5086) 0
theorem map_kind {z : List Value} {K : List Nat} (h : z.map kindV = K) {j : Nat} (hj : j < K.length) : ∃ v, z[j]? = some v ∧ kindV v = K.getD j 0 := by
  subst h
  simp only [List.length_map] at hj
  exact ⟨z[j], by simp, by simp [hj]⟩
theorem zSol : ∃ i z, Tryz.prog.info? 100 = some i ∧ i.zero = some z ∧ z.cells.size = 5102 ∧ ∀ j, j < 5102 → ∃ v, z.cells[j]? = some v ∧ kindV v = solK j := by
  have h := zSol_ok
  cases hi : Tryz.prog.info? 100 with
  | none => rw [hi] at h; cases h
  | some i =>
    rw [hi] at h
    simp only [Option.bind_some] at h
    cases hz : i.zero with
    | none => rw [hz] at h; cases h
    | some z =>
      rw [hz] at h
      have h : chkSol z.cells.toList = true := by simpa using h
      unfold chkSol at h
      simp only [Bool.and_eq_true, beq_iff_eq] at h
      obtain ⟨⟨h1, h2⟩, h3⟩ := h
      have l1 : (z.cells.toList.take 36).length = 36 := by rw [← List.length_map (f := kindV), h1]; rfl
      have l3 : ((z.cells.toList.drop 36).drop 5050).length = 16 := by rw [← List.length_map (f := kindV), h3]; rfl
      have l4 : z.cells.size = 5102 := by
        simp only [List.length_drop, Array.length_toList] at l3
        omega
      refine ⟨i, z, rfl, hz, l4, fun j hj => ?_⟩
      have e : ∀ k, z.cells[k]? = z.cells.toList[k]? := fun k => (Array.getElem?_toList).symm
      rw [e]
      unfold solK
      by_cases c1 : j < 36
      · rw [if_pos c1]
        obtain ⟨v, hv, hk⟩ := map_kind h1 (j := j) (by show j < 36; exact c1)
        rw [List.getElem?_take, if_pos c1] at hv
        exact ⟨v, hv, hk⟩
      · rw [if_neg c1]
        by_cases c2 : j < 5086
        · rw [if_pos c2]
          have hlt : j < z.cells.toList.length := by simp; omega
          refine ⟨z.cells.toList[j], by simp [hlt], ?_⟩
          have hm : z.cells.toList[j] ∈ (z.cells.toList.drop 36).take 5050 := by
            rw [List.mem_iff_getElem?]
            refine ⟨j - 36, ?_⟩
            rw [List.getElem?_take, if_pos (by omega), List.getElem?_drop]
            have : 36 + (j - 36) = j := by omega
            rw [this]; simp [hlt]
          have := List.all_eq_true.1 h2 _ hm
          simpa using this
        · rw [if_neg c2]
          obtain ⟨v, hv, hk⟩ := map_kind h3 (j := j - 5086) (by show j - 5086 < 16; omega)
          rw [List.getElem?_drop, List.getElem?_drop] at hv
          have : 36 + (5050 + (j - 5086)) = j := by omega
          rw [this] at hv
          exact ⟨v, hv, hk⟩
theorem kind_1 {v : Value} (h : kindV v = 1) : v = .bool false := by unfold kindV at h; split at h <;> first | rfl | cases h
theorem kind_2 {v : Value} (h : kindV v = 2) : v = .slice none 0 0 := by unfold kindV at h; split at h <;> first | rfl | cases h
theorem kind_3 {v : Value} (h : kindV v = 3) : v = .int .i64 0 := by unfold kindV at h; split at h <;> first | rfl | cases h
theorem kind_5 {v : Value} (h : kindV v = 5) : v = .float .f64 0 := by unfold kindV at h; split at h <;> first | rfl | cases h
end Go.Proofs.YtiimddkopiknpaaGreat

/-
  What building the solver's struct gives.
-/
namespace Go.Proofs.YtiimddkopiknpaaGreat
open Go.RowKit

theorem solPlaces : ∃ fields, Tryz.prog.underlying 100 = some (.struct fields) ∧ ∀ w : World, (Array.mapM (fun f => do let s ← sizeOf f.type; pure (f.offset, s)) fields : Sem (Array (Nat × Nat))).run Tryz.prog w =
    .ok #[(0, 1), (1, 1), (2, 1), (3, 1), (4, 1), (5, 1), (6, 8), (14, 1), (15, 1), (16, 1), (17, 1), (18, 1), (19, 1), (20, 1), (21, 3), (24, 1), (25, 1), (26, 5060), (5086, 1), (5087, 7), (5094, 1), (5095, 1), (5096, 1), (5097, 1), (5098, 1), (5099, 1), (5100, 1), (5101, 1)] w :=
  ⟨_, Tryz.underlying100, fun w => by kernel_rfl⟩
/-- the values are laid over the zero cells -/
def layL : List (Nat × Value) → Array Value → Array Value
  | [], z => z
  | (off, v) :: r, z => layL r (z.setIfInBounds off v)
theorem layL_size (L : List (Nat × Value)) (z : Array Value) : (layL L z).size = z.size := by
  induction L generalizing z with
  | nil => rfl
  | cons x L ih => show (layL L (z.setIfInBounds x.1 x.2)).size = _; rw [ih]; simp
theorem layL_ne (L : List (Nat × Value)) (z : Array Value) (j : Nat) (h : ∀ x ∈ L, x.1 ≠ j) : (layL L z)[j]? = z[j]? := by
  induction L generalizing z with
  | nil => rfl
  | cons x L ih =>
    show (layL L (z.setIfInBounds x.1 x.2))[j]? = _
    rw [ih _ (fun y hy => h y (List.mem_cons_of_mem _ hy)), Array.getElem?_setIfInBounds, if_neg (h x (by simp))]
theorem layL_at (L : List (Nat × Value)) (z : Array Value) (j : Nat) (v : Value) (hj : j < z.size) (hn : (L.map Prod.fst).Nodup) (h : (j, v) ∈ L) : (layL L z)[j]? = some v := by
  induction L generalizing z with
  | nil => simp at h
  | cons x L ih =>
    rw [List.map_cons, List.nodup_cons] at hn
    show (layL L (z.setIfInBounds x.1 x.2))[j]? = _
    rcases List.mem_cons.1 h with e | h
    · subst e
      rw [layL_ne L _ j (fun y hy e' => hn.1 (by have h9 := List.mem_map_of_mem (f := Prod.fst) hy; rw [e'] at h9; exact h9)), Array.getElem?_setIfInBounds, if_pos rfl, if_pos hj]
    · exact ih _ (by simpa using hj) hn.2 h

theorem build_sol :
    ∃ z : Array Value, z.size = 5102 ∧ (∀ j, j < 5102 → ∃ v, z[j]? = some v ∧ kindV v = solK j) ∧ ∀ (v4 v5 v7 v8 v10 v11 v12 v13 v15 v16 v18 v20 v21 v24 v25 v26 v27 : Value) (_ : ∀ v ∈ [v4, v5, v7, v8, v10, v11, v12, v13, v15, v16, v18, v20, v21, v24, v25, v26, v27], v.oneCell' = true) (w : World), (Instr.build 100 #[(4, v4), (5, v5), (7, v7), (8, v8), (10, v10), (11, v11), (12, v12), (13, v13), (15, v15), (16, v16), (18, v18), (20, v20), (21, v21), (24, v24), (25, v25), (26, v26), (27, v27)]).run Tryz.prog w =
      .ok (.agg (layL [(4, v4), (5, v5), (14, v7), (15, v8), (17, v10), (18, v11), (19, v12), (20, v13), (24, v15), (25, v16), (5086, v18), (5094, v20), (5095, v21), (5098, v24), (5099, v25), (5100, v26), (5101, v27)] z)) w := by
  obtain ⟨i, z, hi, hz, hs, hk⟩ := zSol
  obtain ⟨fields, hu, hp⟩ := solPlaces
  refine ⟨z.cells, hs, hk, fun v4 v5 v7 v8 v10 v11 v12 v13 v15 v16 v18 v20 v21 v24 v25 v26 v27 hone w => ?_⟩
  have hfill : Instr.fill (fun x => (#[(0, 1), (1, 1), (2, 1), (3, 1), (4, 1), (5, 1), (6, 8), (14, 1), (15, 1), (16, 1), (17, 1), (18, 1), (19, 1), (20, 1), (21, 3), (24, 1), (25, 1), (26, 5060), (5086, 1), (5087, 7), (5094, 1), (5095, 1), (5096, 1), (5097, 1), (5098, 1), (5099, 1), (5100, 1), (5101, 1)] : Array (Nat × Nat))[x]?) z.cells [(4, v4), (5, v5), (7, v7), (8, v8), (10, v10), (11, v11), (12, v12), (13, v13), (15, v15), (16, v16), (18, v18), (20, v20), (21, v21), (24, v24), (25, v25), (26, v26), (27, v27)] =
      some (layL [(4, v4), (5, v5), (14, v7), (15, v8), (17, v10), (18, v11), (19, v12), (20, v13), (24, v15), (25, v16), (5086, v18), (5094, v20), (5095, v21), (5098, v24), (5099, v25), (5100, v26), (5101, v27)] z.cells) := by
    rw [fill_one _ _ 4 4 _ _ rfl (hone v4 (by simp)) (by simp [hs]), fill_one _ _ 5 5 _ _ rfl (hone v5 (by simp)) (by simp [hs]), fill_one _ _ 7 14 _ _ rfl (hone v7 (by simp)) (by simp [hs]), fill_one _ _ 8 15 _ _ rfl (hone v8 (by simp)) (by simp [hs]), fill_one _ _ 10 17 _ _ rfl (hone v10 (by simp)) (by simp [hs]), fill_one _ _ 11 18 _ _ rfl (hone v11 (by simp)) (by simp [hs]), fill_one _ _ 12 19 _ _ rfl (hone v12 (by simp)) (by simp [hs]), fill_one _ _ 13 20 _ _ rfl (hone v13 (by simp)) (by simp [hs]), fill_one _ _ 15 24 _ _ rfl (hone v15 (by simp)) (by simp [hs]), fill_one _ _ 16 25 _ _ rfl (hone v16 (by simp)) (by simp [hs]), fill_one _ _ 18 5086 _ _ rfl (hone v18 (by simp)) (by simp [hs]), fill_one _ _ 20 5094 _ _ rfl (hone v20 (by simp)) (by simp [hs]), fill_one _ _ 21 5095 _ _ rfl (hone v21 (by simp)) (by simp [hs]), fill_one _ _ 24 5098 _ _ rfl (hone v24 (by simp)) (by simp [hs]), fill_one _ _ 25 5099 _ _ rfl (hone v25 (by simp)) (by simp [hs]), fill_one _ _ 26 5100 _ _ rfl (hone v26 (by simp)) (by simp [hs]), fill_one _ _ 27 5101 _ _ rfl (hone v27 (by simp)) (by simp [hs])]
    rfl
  unfold Instr.build
  have hz' : (zeroValue 100).run Tryz.prog w = .ok z w := by
    unfold zeroValue typeInfo
    simp [hi, hz]
  rw [Sem.run_bind, hz', Result.andThen_ok, Sem.run_bind, run_underlying hu, Result.andThen_ok]
  simp only []
  rw [Sem.run_bind, hp w, Result.andThen_ok]
  simp only [hfill, Sem.run_pure]
end Go.Proofs.YtiimddkopiknpaaGreat

/-
  What watching a clause more gives: the watch lists hold what the clauses watched so far ask for.
-/
namespace Go.Proofs.YtiimddkopiknpaaGreat

def app2 (f : Nat → List (Nat × Nat)) (t0 : Nat) (e0 : Nat × Nat) (t1 : Nat) (e1 : Nat × Nat) : Nat → List (Nat × Nat) := fun t => if t = t1 then f t1 ++ [e1] else if t = t0 then f t0 ++ [e0] else f t
theorem mem_app2 {f : Nat → List (Nat × Nat)} {t0 t1 t : Nat} {e0 e1 e : Nat × Nat} (hne : t0 ≠ t1) : e ∈ app2 f t0 e0 t1 e1 t ↔ e ∈ f t ∨ (t = t0 ∧ e = e0) ∨ (t = t1 ∧ e = e1) := by
  unfold app2
  by_cases h1 : t = t1
  · subst h1; simp [Ne.symm hne]
  · by_cases h0 : t = t0
    · subst h0; simp [h1]
    · simp [h1, h0]
theorem nodup_app2 {f : Nat → List (Nat × Nat)} {t0 t1 t c a b : Nat} (h : ((f t).map Prod.snd).Nodup) (hc : ∀ e ∈ f t, e.2 ≠ c) : ((app2 f t0 (a, c) t1 (b, c) t).map Prod.snd).Nodup := by
  have key : ∀ (L : List (Nat × Nat)) (x : Nat), (L.map Prod.snd).Nodup → (∀ e ∈ L, e.2 ≠ c) → ((L ++ [(x, c)]).map Prod.snd).Nodup := by
    intro L x h1 h2
    rw [List.map_append, List.nodup_append]
    refine ⟨h1, by simp, ?_⟩
    intro u hu v hv
    obtain ⟨e, he, rfl⟩ := List.mem_map.1 hu
    have : v = c := by simpa using hv
    rw [this]; exact h2 e he
  unfold app2
  by_cases h1 : t = t1
  · subst h1; rw [if_pos rfl]; exact key _ _ h hc
  · rw [if_neg h1]
    by_cases h0 : t = t0
    · subst h0; rw [if_pos rfl]; exact key _ _ h hc
    · rw [if_neg h0]; exact h

theorem watch_wb (m : MS) (c : Nat) (hne : negL (nth (m.lits c) 0) ≠ negL (nth (m.lits c) 1)) : (m.watch c).wb = if (m.lits c).length = 2 then app2 m.wb (negL (nth (m.lits c) 0)) (nth (m.lits c) 1, c) (negL (nth (m.lits c) 1)) (nth (m.lits c) 0, c) else m.wb := by
  unfold MS.watch
  split
  · funext t
    simp only [MS.appWb, app2]
    split
    · rw [if_neg (Ne.symm hne)]
    · rfl
  · rfl
theorem watch_wl (m : MS) (c : Nat) (hne : negL (nth (m.lits c) 0) ≠ negL (nth (m.lits c) 1)) : (m.watch c).wl = if (m.lits c).length = 2 then m.wl else app2 m.wl (negL (nth (m.lits c) 0)) (nth (m.lits c) 1, c) (negL (nth (m.lits c) 1)) (nth (m.lits c) 0, c) := by
  unfold MS.watch
  split
  · rfl
  · funext t
    simp only [MS.appWl, app2]
    split
    · rw [if_neg (Ne.symm hne)]
    · rfl
theorem watch_same (m : MS) (c : Nat) : (m.watch c).nv = m.nv ∧ (m.watch c).val = m.val ∧ (m.watch c).trail = m.trail ∧ (m.watch c).rsn = m.rsn ∧ (m.watch c).lits = m.lits ∧ (m.watch c).word = m.word ∧ (m.watch c).ids = m.ids ∧ (m.watch c).orig = m.orig ∧ (m.watch c).lrn = m.lrn := by
  unfold MS.watch
  split <;> exact ⟨rfl, rfl, rfl, rfl, rfl, rfl, rfl, rfl, rfl⟩

/-- the watch lists hold what the clauses D ask for -/
structure WtD (m : MS) (D : Nat → Prop) : Prop where
  en : ∀ t, t < m.nv * 2 → ∀ e ∈ m.wl t, e.1 ∈ m.lits e.2 ∧ D e.2 ∧ 3 ≤ (m.lits e.2).length ∧ (t = negL (nth (m.lits e.2) 0) ∨ t = negL (nth (m.lits e.2) 1))
  uniq : ∀ t, t < m.nv * 2 → ((m.wl t).map Prod.snd).Nodup
  all : ∀ c, D c → 3 ≤ (m.lits c).length → ∀ k, k < 2 → c ∈ (m.wl (negL (nth (m.lits c) k))).map Prod.snd
  wbe : ∀ t, t < m.nv * 2 → ∀ e ∈ m.wb t, e.1 ∈ m.lits e.2 ∧ D e.2 ∧ (m.lits e.2).length = 2 ∧ negL t ∈ m.lits e.2 ∧ e.1 ≠ negL t
  wbu : ∀ t, t < m.nv * 2 → ((m.wb t).map Prod.snd).Nodup
  wba : ∀ c, D c → (m.lits c).length = 2 → ∀ y ∈ m.lits c, ∃ e ∈ m.wb (negL y), e.2 = c

theorem WtD.start (m : MS) (h1 : ∀ t, m.wl t = []) (h2 : ∀ t, m.wb t = []) : WtD m (fun _ => False) := by
  refine ⟨fun t _ e he => ?_, fun t _ => ?_, fun c hc => hc.elim, fun t _ e he => ?_, fun t _ => ?_, fun c hc => hc.elim⟩
  · rw [h1] at he; cases he
  · rw [h1]; exact List.nodup_nil
  · rw [h2] at he; cases he
  · rw [h2]; exact List.nodup_nil
theorem WtD.mono {m : MS} {D D' : Nat → Prop} (h : WtD m D) (hD : ∀ c, D c ↔ D' c) : WtD m D' := by
  have : D = D' := funext fun c => propext (hD c)
  rw [← this]; exact h
theorem pair_mem {L : List Nat} (h : L.length = 2) {y : Nat} (hy : y ∈ L) : y = nth L 0 ∨ y = nth L 1 := by
  match L, h with
  | [a, b], _ => simpa [nth] using hy
theorem WtD.step {m : MS} {D : Nat → Prop} {c : Nat} (h : WtD m D) (hc : ¬ D c) (hl : 2 ≤ (m.lits c).length) (hne : nth (m.lits c) 0 / 2 ≠ nth (m.lits c) 1 / 2) : WtD (m.watch c) (fun x => D x ∨ x = c) := by
  obtain ⟨a1, _, _, _, a2, _⟩ := watch_same m c
  have hn1 : negL (nth (m.lits c) 0) ≠ negL (nth (m.lits c) 1) := by
    intro e
    have : nth (m.lits c) 0 = nth (m.lits c) 1 := by rw [← negL_negL (nth (m.lits c) 0), e, negL_negL]
    exact hne (by rw [this])
  have hn2 : nth (m.lits c) 0 ≠ nth (m.lits c) 1 := fun e => hne (by rw [e])
  have m0 : nth (m.lits c) 0 ∈ m.lits c := nth_mem _ _ (by omega)
  have m1 : nth (m.lits c) 1 ∈ m.lits c := nth_mem _ _ (by omega)
  have w1 := watch_wb m c hn1
  have w2 := watch_wl m c hn1
  by_cases h2 : (m.lits c).length = 2
  · rw [if_pos h2] at w1 w2
    refine ⟨?_, ?_, ?_, ?_, ?_, ?_⟩
    · rw [a1, a2, w2]; intro t ht e he
      obtain ⟨b1, b2, b3⟩ := h.en t ht e he
      exact ⟨b1, .inl b2, b3⟩
    · rw [a1, w2]; exact h.uniq
    · rw [a2, w2]; intro c' hc' hl' k hk
      rcases hc' with hc' | rfl
      · exact h.all c' hc' hl' k hk
      · omega
    · rw [a1, a2, w1]; intro t ht e he
      rw [mem_app2 hn1] at he
      rcases he with he | ⟨rfl, rfl⟩ | ⟨rfl, rfl⟩
      · obtain ⟨b1, b2, b3⟩ := h.wbe t ht e he
        exact ⟨b1, .inl b2, b3⟩
      · exact ⟨m1, .inr rfl, h2, by rw [negL_negL]; exact m0, by rw [negL_negL]; exact Ne.symm hn2⟩
      · exact ⟨m0, .inr rfl, h2, by rw [negL_negL]; exact m1, by rw [negL_negL]; exact hn2⟩
    · rw [a1, w1]; intro t ht
      exact nodup_app2 (h.wbu t ht) fun e he ec => hc (ec ▸ (h.wbe t ht e he).2.1)
    · rw [a2, w1]; intro c' hc' hl' y hy
      rcases hc' with hc' | rfl
      · obtain ⟨e, he, hec⟩ := h.wba c' hc' hl' y hy
        exact ⟨e, (mem_app2 hn1).2 (.inl he), hec⟩
      · rcases pair_mem h2 hy with rfl | rfl
        · exact ⟨_, (mem_app2 hn1).2 (.inr (.inl ⟨rfl, rfl⟩)), rfl⟩
        · exact ⟨_, (mem_app2 hn1).2 (.inr (.inr ⟨rfl, rfl⟩)), rfl⟩
  · rw [if_neg h2] at w1 w2
    refine ⟨?_, ?_, ?_, ?_, ?_, ?_⟩
    · rw [a1, a2, w2]; intro t ht e he
      rw [mem_app2 hn1] at he
      rcases he with he | ⟨rfl, rfl⟩ | ⟨rfl, rfl⟩
      · obtain ⟨b1, b2, b3⟩ := h.en t ht e he
        exact ⟨b1, .inl b2, b3⟩
      · exact ⟨m1, .inr rfl, by show 3 ≤ (m.lits c).length; omega, .inl rfl⟩
      · exact ⟨m0, .inr rfl, by show 3 ≤ (m.lits c).length; omega, .inr rfl⟩
    · rw [a1, w2]; intro t ht
      exact nodup_app2 (h.uniq t ht) fun e he ec => hc (ec ▸ (h.en t ht e he).2.1)
    · rw [a2, w2]; intro c' hc' hl' k hk
      rcases hc' with hc' | rfl
      · obtain ⟨e, he, hec⟩ := List.mem_map.1 (h.all c' hc' hl' k hk)
        exact List.mem_map.2 ⟨e, (mem_app2 hn1).2 (.inl he), hec⟩
      · have : k = 0 ∨ k = 1 := by omega
        rcases this with rfl | rfl
        · exact List.mem_map.2 ⟨_, (mem_app2 hn1).2 (.inr (.inl ⟨rfl, rfl⟩)), rfl⟩
        · exact List.mem_map.2 ⟨_, (mem_app2 hn1).2 (.inr (.inr ⟨rfl, rfl⟩)), rfl⟩
    · rw [a1, a2, w1]; intro t ht e he
      obtain ⟨b1, b2, b3⟩ := h.wbe t ht e he
      exact ⟨b1, .inl b2, b3⟩
    · rw [a1, w1]; exact h.wbu
    · rw [a2, w1]; intro c' hc' hl' y hy
      rcases hc' with hc' | rfl
      · exact h.wba c' hc' hl' y hy
      · exact (h2 hl').elim

/-- well formed: the lists are no longer than the clauses are many -/
theorem WtD.wf {m : MS} {D : Nat → Prop} (h : WtD m D) (hD : ∀ c, D c → c ∈ m.ids) (hid : m.ids.length ≤ 1000000000) (n0 : 1 ≤ m.nv) (n1 : m.nv ≤ 1000000) (hlen : ∀ c ∈ m.ids, 2 ≤ (m.lits c).length ∧ (m.lits c).length ≤ 1000000)
    (hlit : ∀ c ∈ m.ids, ∀ x ∈ m.lits c, x < m.nv * 2) (hword : ∀ c ∈ m.ids, m.word c < 4294967296) (htr : ∀ i, i < m.trail.length → nth m.trail i < m.nv * 2) (htl : m.trail.length ≤ 1000000000) : Wf m := by
  have hent : ∀ (L : List (Nat × Nat)) i, i < L.length → ent L i ∈ L := by
    intro L i hi
    unfold ent
    rw [List.getD_eq_getElem?_getD, List.getElem?_eq_getElem hi]
    exact List.getElem_mem hi
  have hlen2 : ∀ (L : List (Nat × Nat)), (L.map Prod.snd).Nodup → (∀ e ∈ L, D e.2) → L.length ≤ 1000000000 := by
    intro L h1 h2
    have := h1.length_le_of_subset (l₂ := m.ids) (fun x hx => by
      obtain ⟨e, he, rfl⟩ := List.mem_map.1 hx
      exact hD _ (h2 e he))
    simp at this; omega
  refine ⟨n0, n1, hlen, fun c hc i hi => hlit c hc _ (nth_mem _ _ hi), hword, ?_, ?_, ?_, ?_, htr, htl⟩
  · intro t ht i hi
    obtain ⟨b1, b2, _⟩ := h.en t ht _ (hent _ i hi)
    exact ⟨hlit _ (hD _ b2) _ b1, hD _ b2⟩
  · intro t ht i hi
    obtain ⟨b1, b2, _⟩ := h.wbe t ht _ (hent _ i hi)
    exact ⟨hlit _ (hD _ b2) _ b1, hD _ b2⟩
  · intro t ht
    exact hlen2 _ (h.uniq t ht) fun e he => (h.en t ht e he).2.1
  · intro t ht
    exact hlen2 _ (h.wbu t ht) fun e he => (h.wbe t ht e he).2.1
theorem WtD.wt {m : MS} (h : WtD m (fun c => c ∈ m.ids)) : Wt m m.wl := ⟨h.en, h.uniq, h.all⟩

/-- the first state: only units on the trail, at level one; no clause speaks of them -/
theorem Core.first {m : MS} (hW : Wf m) (h : WtD m (fun c => c ∈ m.ids)) (vl : m.val.length = m.nv) (rl : ∀ v, m.ra v = none) (rll : m.rsn.length = m.nv)
    (hu : ∀ u ∈ m.trail, u < m.nv * 2 ∧ m.va (u / 2) = sgn u 1) (hv : ∀ v, v < m.nv → m.va v ≠ 0 → ∃ u ∈ m.trail, u / 2 = v)
    (ndc : ∀ c ∈ m.ids, ((m.lits c).map (· / 2)).Nodup) (idn : m.ids.Nodup) (idl : m.ids.length ≤ 1000000000) : Core m.trail.length 1 m := by
  have hlev : ∀ i, i < m.trail.length → m.lev (nth m.trail i / 2) = 1 := by
    intro i hi
    unfold MS.lev
    rw [(hu _ (nth_mem _ _ hi)).2]
    exact sgn_abs _ 1
  refine ⟨hW, ⟨?_, ?_, ?_, ?_, ?_, ?_, ?_⟩, vl, rll, Nat.le_refl _, by simp, ndc, idn, idl, fun v _ _ => rl v, h.wbe, h.wba⟩
  · intro v hv1 hv2
    obtain ⟨u, hu1, hu2⟩ := hv v hv1 hv2
    obtain ⟨i, hi, e⟩ := mem_nth _ _ hu1
    exact ⟨i, hi, by rw [e]; exact hu2⟩
  · intro i hi
    exact sgn_lst (Nat.le_refl 1) (hu _ (nth_mem _ _ hi)).2
  · intro i j hij hj
    rw [hlev i (by omega), hlev j hj]; omega
  · intro i hi
    rw [hlev i hi]; omega
  · intro i j hi _ _ h2
    rw [hlev i hi] at h2; omega
  · intro i c _ hr
    rw [rl] at hr; cases hr
  · intro i j hi _ h2
    rw [hlev i hi] at h2; omega
theorem Pc.first {m : MS} (h : WtD m (fun c => c ∈ m.ids)) (hu : ∀ u ∈ m.trail, u < m.nv * 2 ∧ m.va (u / 2) = sgn u 1) (hcl : ∀ c ∈ m.ids, ∀ x ∈ m.lits c, m.va (x / 2) = 0) : Pc m m.wl m.trail.length := by
  have key : ∀ i, i < m.trail.length → ∀ c ∈ m.ids, ∀ x ∈ m.lits c, nth m.trail i ≠ negL x := by
    intro i hi c hc x hx e
    have h1 := (hu _ (nth_mem _ _ hi)).2
    have h2 := hcl c hc x hx
    have : negL x / 2 = x / 2 := by unfold negL; split <;> omega
    rw [e, this, h2] at h1
    unfold sgn at h1; split at h1 <;> omega
  refine ⟨fun i hi e he => ?_, fun i hi e he => ?_⟩
  · obtain ⟨_, b2, b3, b4⟩ := h.en _ (hu _ (nth_mem _ _ hi)).1 e he
    rcases b4 with b4 | b4
    · exact (key i hi _ b2 _ (nth_mem _ _ (by omega)) b4).elim
    · exact (key i hi _ b2 _ (nth_mem _ _ (by omega)) b4).elim
  · obtain ⟨_, b2, b3, b4, _⟩ := h.wbe _ (hu _ (nth_mem _ _ hi)).1 e he
    exact (key i hi _ b2 _ b4 (negL_negL _).symm).elim
end Go.Proofs.YtiimddkopiknpaaGreat

/-
  What the decisions, with what they force, say of the closed values; plain.
-/
namespace Go.Proofs.YtiimddkopiknpaaGreat

/-- all decisions among the first k of ds are true, and all is propagated -/
structure DS (U : List Nat) (ds : List Nat) (k lvl : Nat) (m : MS) : Prop where
  core : Core U.length lvl m
  wt : Wt m m.wl
  pc : Pc m m.wl m.trail.length
  un : ∀ i, i < U.length → nth m.trail i = nth U i
  dec : ∀ i, U.length ≤ i → i < m.trail.length → m.ra (nth m.trail i / 2) = none → nth m.trail i ∈ ds.take k
  hold : ∀ d ∈ ds.take k, m.lst d = 1

section
variable {U ds : List Nat} {k lvl : Nat} {m : MS}

/-- what is on the trail holds under all closed values that hold the units and the decisions -/
theorem fol {S : List Nat} (hT : Tl m lvl) (un : ∀ i, i < U.length → nth m.trail i = nth U i) (dec : ∀ i, U.length ≤ i → i < m.trail.length → m.ra (nth m.trail i / 2) = none → nth m.trail i ∈ S)
    {τ : Nat → Prop} (hc : Con τ) (hu : ∀ u ∈ U, τ u) (hd : ∀ d ∈ S, τ d) (hcl : ∀ c ∈ m.ids, Clo τ (m.lits c)) : ∀ i, i < m.trail.length → τ (nth m.trail i) := by
  intro i
  induction i using Nat.strongRecOn with
  | _ i ih =>
    intro hi
    by_cases h1 : i < U.length
    · rw [un i h1]; exact hu _ (nth_mem _ _ h1)
    · cases hr : m.ra (nth m.trail i / 2) with
      | none => exact hd _ (dec i (by omega) hi hr)
      | some c =>
        obtain ⟨a1, a2, a3⟩ := hT.rsn i c hi hr
        have hneg : ∀ y ∈ m.lits c, y ≠ nth m.trail i → τ (negL y) := by
          intro y hy hne
          obtain ⟨j, hj, hj2⟩ := a3 y hy hne
          rw [← hj2]; exact ih j hj (by omega)
        rcases hcl c a1 with ⟨x, hx, hx2⟩ | ⟨x, hx, y, hy, hxy, hx2, hy2⟩
        · by_cases e : x = nth m.trail i
          · rw [← e]; exact hx2
          · exact (hc x hx2 (hneg x hx e)).elim
        · by_cases e : x = nth m.trail i
          · exact (hy2 (hneg y hy fun e2 => hxy (e.trans e2.symm))).elim
          · exact (hx2 (hneg x hx e)).elim

theorem DS.unsat (h : DS U ds k lvl m) {τ : Nat → Prop} (hc : Con τ) (hu : ∀ u ∈ U, τ u) (hd : ∀ d ∈ ds.take k, τ d) (hcl : ∀ c ∈ m.ids, Clo τ (m.lits c)) {x : Nat} (hx : x < m.nv * 2) (hf : m.lst x = 2) : τ (negL x) := by
  obtain ⟨i, hi, e⟩ := h.core.tl.at_ hx hf
  rw [← e]; exact fol h.core.tl h.un h.dec hc hu hd hcl i hi

/-- the values that are true make all clauses closed -/
theorem DS.clo (h : DS U ds k lvl m) : ∀ c ∈ m.ids, Clo (fun x => m.lst x = 1) (m.lits c) := by
  intro c hc
  have hl := (h.core.wf.len c hc).1
  have hlt : ∀ y ∈ m.lits c, y < m.nv * 2 := fun y hy => h.core.litlt hc hy
  have key : ∀ y ∈ m.lits c, (∃ i, i < m.trail.length ∧ nth m.trail i = negL y) ∨ ¬ m.lst (negL y) = 1 := by
    intro y hy
    by_cases hf : m.lst y = 2
    · exact .inl (h.core.tl.at_ (hlt y hy) hf)
    · right
      intro h1
      exact hf (by have := lst_neg1 h1; rw [negL_negL] at this; exact this)
  have m0 : nth (m.lits c) 0 ∈ m.lits c := nth_mem _ _ (by omega)
  have m1 : nth (m.lits c) 1 ∈ m.lits c := nth_mem _ _ (by omega)
  have hne : nth (m.lits c) 0 ≠ nth (m.lits c) 1 := by
    have hn := h.core.ndc c hc
    match hL : m.lits c, hl with
    | x :: y :: r, _ =>
      rw [hL] at hn
      intro e
      have e : x = y := e
      subst e
      simp at hn
  by_cases h2 : (m.lits c).length = 2
  · have one : ∀ y ∈ m.lits c, (∃ i, i < m.trail.length ∧ nth m.trail i = negL y) → ∃ x ∈ m.lits c, m.lst x = 1 := by
      rintro y hy ⟨i, hi, e⟩
      obtain ⟨e', he, he2⟩ := h.core.wba c hc h2 y hy
      have hb := h.pc.b i hi e' (by rw [e]; exact he)
      have hw := h.core.wbe (negL y) (negL_lt (hlt y hy)) e' he
      exact ⟨e'.1, he2 ▸ hw.1, hb.1⟩
    rcases key _ m0 with h0 | h0
    · exact .inl (one _ m0 h0)
    · rcases key _ m1 with h1 | h1
      · exact .inl (one _ m1 h1)
      · exact .inr ⟨_, m0, _, m1, hne, h0, h1⟩
  · have one : ∀ k, k < 2 → (∃ i, i < m.trail.length ∧ nth m.trail i = negL (nth (m.lits c) k)) → ∃ x ∈ m.lits c, m.lst x = 1 := by
      rintro k hk ⟨i, hi, e⟩
      obtain ⟨e', he, he2⟩ := List.mem_map.1 (h.wt.all c hc (by omega) k hk)
      obtain ⟨x, x1, x2, _⟩ := h.pc.l i hi e' (by rw [e]; exact he)
      exact ⟨x, he2 ▸ x1, x2⟩
    rcases key _ m0 with h0 | h0
    · exact .inl (one 0 (by omega) h0)
    · rcases key _ m1 with h1 | h1
      · exact .inl (one 1 (by omega) h1)
      · exact .inr ⟨_, m0, _, m1, hne, h0, h1⟩
theorem DS.con (_ : DS U ds k lvl m) : Con (fun x => m.lst x = 1) := by
  intro x hx hn
  have := lst_neg1 hx
  rw [this] at hn; cases hn
theorem DS.units (h : DS U ds k lvl m) : ∀ u ∈ U, m.lst u = 1 := by
  intro u hu
  obtain ⟨i, hi, e⟩ := mem_nth _ _ hu
  rw [← e, ← h.un i hi]
  exact h.core.tl.tr1 i (by have := h.core.u0l; omega)

theorem setRsn_none {v : Nat} (h : m.ra v = none) : m.setRsn v none = m := by
  unfold MS.setRsn
  have : m.rsn.set v none = m.rsn := by
    apply List.ext_getElem?
    intro j
    rw [List.getElem?_set]
    by_cases e : v = j
    · subst e
      rw [if_pos rfl]
      unfold MS.ra at h
      rw [List.getD_eq_getElem?_getD] at h
      split
      · rename_i hl
        rw [List.getElem?_eq_getElem hl] at h ⊢
        simpa using h.symm
      · rename_i hl
        rw [List.getElem?_eq_none (by omega)]
    · rw [if_neg e]
  rw [this]
/-- a decision: the start of its propagation -/
theorem DS.start {l : Nat} (h : DS U ds k lvl m) (hl : l < m.nv * 2) (hu : m.lst l = 0) (h1 : 1 ≤ lvl) (hb : U.length + m.nv ≤ 1000000000) :
    JI U.length (lvl + 1) (m.bind l none (lvl + 1)) m.trail.length (m.bind l none (lvl + 1)) ∧ (m.setVal (l / 2) (sgn l ((lvl + 1 : Nat) : Int))).push l = m.bind l none (lvl + 1) := by
  have hu' : m.va (l / 2) = 0 := by
    unfold MS.lst at hu
    split at hu
    · assumption
    · split at hu <;> cases hu
  have hC := h.core.bind (o := l) (r := none) (lvl := lvl + 1) (by omega) (by omega) hu' hl hb (.inl ⟨rfl, .inl (by omega)⟩)
  have hvl := h.core.vl
  refine ⟨⟨⟨hC, ⟨h.wt.en, h.wt.uniq, h.wt.all⟩, ⟨?_, ?_⟩, ?_, Ext.refl _⟩, by rw [bind_len]; omega⟩, ?_⟩
  · intro i hi e he
    rw [bind_tr i (by omega)] at he ⊢
    obtain ⟨x, a1, a2, a3⟩ := h.pc.l i hi e he
    have hx : m.lst x ≠ 0 := by rw [a2]; decide
    exact ⟨x, a1, by rw [bind_lst hvl hl hu' hx]; exact a2, by rw [bind_lev hvl hl hu' (lst_va hx), bind_lev hvl hl hu' (h.core.tl.ne hu' (by omega)).2.1]; exact a3⟩
  · intro i hi e he
    rw [bind_tr i (by omega)] at he ⊢
    obtain ⟨a2, a3⟩ := h.pc.b i hi e he
    have hx : m.lst e.1 ≠ 0 := by rw [a2]; decide
    exact ⟨by rw [bind_lst hvl hl hu' hx]; exact a2, by rw [bind_lev hvl hl hu' (lst_va hx), bind_lev hvl hl hu' (h.core.tl.ne hu' (by omega)).2.1]; exact a3⟩
  · intro i h2 h3
    rw [bind_len] at h3
    have : i = m.trail.length := by omega
    subst this
    rw [bind_tr2]
    exact (bind_self hvl hl (by omega)).2
  · unfold MS.bind
    rw [setRsn_none (h.core.un _ (by omega) hu')]
theorem take_snoc (hk : k < ds.length) : ds.take (k + 1) = ds.take k ++ [nth ds k] := by
  rw [List.take_succ_eq_append_getElem hk, nth_lt _ _ hk]
/-- what holds of the trail while a decision is propagated -/
theorem DS.ext {m' : MS} (h : DS U ds k lvl m) (hk : k < ds.length) (hl : nth ds k < m.nv * 2) (hu : m.lst (nth ds k) = 0) (hE : Ext (m.bind (nth ds k) none (lvl + 1)) m') :
    (∀ i, i < U.length → nth m'.trail i = nth U i) ∧ (∀ i, U.length ≤ i → i < m'.trail.length → m'.ra (nth m'.trail i / 2) = none → nth m'.trail i ∈ ds.take (k + 1)) ∧ ∀ d ∈ ds.take (k + 1), m'.lst d = 1 := by
  have hu' : m.va (nth ds k / 2) = 0 := by
    unfold MS.lst at hu
    split at hu
    · assumption
    · split at hu <;> cases hu
  have hvl := h.core.vl
  have hrl := h.core.rl
  have hu0 := h.core.u0l
  have hlen : (m.bind (nth ds k) none (lvl + 1)).trail.length = m.trail.length + 1 := bind_len
  have old : ∀ x, m.lst x = 1 → m'.lst x = 1 := by
    intro x hx
    have h1 : (m.bind (nth ds k) none (lvl + 1)).lst x = 1 := by rw [bind_lst hvl hl hu' (by rw [hx]; decide)]; exact hx
    rw [lst_congr (hE.old (x / 2) (lst_va (by rw [h1]; decide))).1]; exact h1
  refine ⟨?_, ?_, ?_⟩
  · intro i hi
    rw [hE.pre i (by omega), bind_tr i (by omega)]; exact h.un i hi
  · intro i hi hi2 hr
    by_cases h3 : i < m.trail.length
    · have e1 : nth m'.trail i = nth m.trail i := by rw [hE.pre i (by omega), bind_tr i h3]
      have hne := h.core.tl.ne hu' h3
      rw [e1] at hr ⊢
      have h4 := (hE.old (nth m.trail i / 2) (by rw [bind_va hvl hl, if_neg (fun e => hne.2.2 e.symm)]; exact hne.2.1)).2
      rw [h4, bind_ra hrl hl, if_neg (fun e => hne.2.2 e.symm)] at hr
      rw [take_snoc hk]
      exact List.mem_append_left _ (h.dec i hi h3 hr)
    · by_cases h4 : i = m.trail.length
      · subst h4
        rw [hE.pre _ (by omega), bind_tr2, take_snoc hk]
        simp
      · exact (hE.new i (by omega) hi2 hr).elim
  · intro d hd
    rw [take_snoc hk] at hd
    rcases List.mem_append.1 hd with hd | hd
    · exact old d (h.hold d hd)
    · have : d = nth ds k := by simpa using hd
      rw [this]
      have h1 := (bind_self (r := none) (lvl := lvl + 1) hvl hl (by omega)).1
      rw [lst_congr (hE.old _ (lst_va (by rw [h1]; decide))).1]; exact h1
theorem DS.next {m' : MS} {p : Nat} (h : DS U ds k lvl m) (hk : k < ds.length) (hl : nth ds k < m.nv * 2) (hu : m.lst (nth ds k) = 0) (hJ : JI U.length (lvl + 1) (m.bind (nth ds k) none (lvl + 1)) p m') (hp : m'.trail.length ≤ p) : DS U ds (k + 1) (lvl + 1) m' := by
  obtain ⟨a1, a2, a3⟩ := h.ext hk hl hu hJ.pi.ext
  have : p = m'.trail.length := by have := hJ.hp; omega
  subst this
  exact ⟨hJ.pi.core, hJ.pi.wt, hJ.pi.pc, a1, a2, a3⟩
theorem DS.skip (h : DS U ds k lvl m) (hk : k < ds.length) (hu : m.lst (nth ds k) = 1) : DS U ds (k + 1) lvl m := by
  refine ⟨h.core, h.wt, h.pc, h.un, fun i a b c => ?_, fun d hd => ?_⟩
  · rw [take_snoc hk]; exact List.mem_append_left _ (h.dec i a b c)
  · rw [take_snoc hk] at hd
    rcases List.mem_append.1 hd with hd | hd
    · exact h.hold d hd
    · have : d = nth ds k := by simpa using hd
      rw [this]; exact hu
/-- a clause is in conflict: no closed values hold the decisions -/
theorem DS.conf {m' : MS} {c : Nat} (h : DS U ds k lvl m) (hk : k < ds.length) (hl : nth ds k < m.nv * 2) (hu : m.lst (nth ds k) = 0) (hC : CI U.length (lvl + 1) (m.bind (nth ds k) none (lvl + 1)) c m')
    {τ : Nat → Prop} (hc : Con τ) (hU : ∀ u ∈ U, τ u) (hd : ∀ d ∈ ds, τ d) (hcl : ∀ c ∈ m.ids, Clo τ (m.lits c)) : False := by
  obtain ⟨p, _, hP⟩ := hC.pi
  have hT := hP.core.tl
  obtain ⟨a1, a2, _⟩ := h.ext hk hl hu hP.ext
  have hid : m'.ids = m.ids := hP.ext.ids
  have hcl' : ∀ c ∈ m'.ids, Clo τ (m'.lits c) := by
    intro c' hc'
    rw [hid] at hc'
    exact (Clo.perm (hP.ext.pm c' hc')).2 (hcl c' hc')
  have hall := fol hT a1 a2 hc hU (fun d hd' => hd d (List.mem_of_mem_take hd')) hcl'
  have hneg : ∀ y ∈ m'.lits c, τ (negL y) := by
    intro y hy
    obtain ⟨i, hi, e⟩ := hT.at_ (hP.core.litlt hC.hc hy) (hC.f y hy)
    rw [← e]; exact hall i hi
  rcases hcl' c hC.hc with ⟨x, hx, hx2⟩ | ⟨x, hx, _, _, _, hx2, _⟩
  · exact hc x hx2 (hneg x hx)
  · exact hx2 (hneg x hx)
end
end Go.Proofs.YtiimddkopiknpaaGreat

/-
  New: what the memory is when the solver's rows are made.
-/
namespace Go.Proofs.YtiimddkopiknpaaGreat
open Go.RowKit

theorem own_at {w : World} {g n cap k : Nat} {e : TypeId} {cur : Array Value} {xs : List Value} (hg : w.heap[g]? = some (.cells cur e)) (h1 : n ≤ cap) (h2 : cap ≤ maxLen) (hs : cur.size = cap * k) (hx : cur.toList.take (n * k) = xs) :
    w.ownsRow 0 e k (.slice (some ⟨g, 0, none⟩) n cap) n xs := by
  have : n * k ≤ cap * k := Nat.mul_le_mul_right k h1
  refine ⟨by rw [← hx, List.length_take, Array.length_toList]; omega, .inr ⟨g, cap, cur, rfl, Nat.zero_le _, hg, h1, h2, hs, hx⟩⟩

/-- old rows under other names, beside rows in new blocks -/
theorem rows_of {ι ι' : Type} {ρ : ι → Row} {ρ' : ι' → Row} {w w' : World} (h : Rows ρ w) (hos : w'.os = w.os) (htp : w'.tape = w.tape) (hop : w'.output = w.output) (hs : w.heap.size ≤ w'.heap.size) (hold : ∀ k, k < w.heap.size → w'.heap[k]? = w.heap[k]?)
    (f : ι' → Option ι) (hf : ∀ r' r, f r' = some r → ρ' r' = ρ r) (hn : ∀ r', f r' = none → w'.ownsRow 0 (ρ' r').e (ρ' r').k (ρ' r').v (ρ' r').n (ρ' r').xs ∧ ∀ b, (ρ' r').v.ownBlock = some b → w.heap.size ≤ b)
    (hi : ∀ r1 r2 r, f r1 = some r → f r2 = some r → r1 = r2) (hj : ∀ r1 r2 b, f r1 = none → f r2 = none → (ρ' r1).v.ownBlock = some b → (ρ' r2).v.ownBlock = some b → r1 = r2) : Tr ρ w ρ' w' := by
  have hlt : ∀ r b, (ρ r).v.ownBlock = some b → b < w.heap.size := fun r b hb => h.lt ⟨r, hb⟩
  refine ⟨⟨fun r' => ?_, ?_⟩, ⟨hos, htp, hop, hs, fun k hk _ => hold k hk⟩, ?_⟩
  · cases e : f r' with
    | none => exact (hn r' e).1
    | some r => rw [hf r' r e]; exact ownsRow_of_block (h.own r) fun b hb => hold b (hlt r b hb)
  · intro r1 r2 b h1 h2
    cases e1 : f r1 with
    | none =>
      cases e2 : f r2 with
      | none => exact hj r1 r2 b e1 e2 h1 h2
      | some s2 =>
        have a1 := (hn r1 e1).2 b h1
        rw [hf _ _ e2] at h2
        have := hlt s2 b h2; omega
    | some s1 =>
      rw [hf _ _ e1] at h1
      cases e2 : f r2 with
      | none =>
        have a1 := (hn r2 e2).2 b h2
        have := hlt s1 b h1; omega
      | some s2 =>
        rw [hf _ _ e2] at h2
        have := h.inj s1 s2 b h1 h2
        subst this
        exact hi r1 r2 s1 e1 e2
  · rintro b ⟨r', hr'⟩
    cases e : f r' with
    | none => exact .inr ((hn r' e).2 b hr')
    | some r => rw [hf _ _ e] at hr'; exact .inl ⟨r, hr'⟩

inductive PK where
  | pb | cs | us
def PSt.left (p : PSt) : PK → Row
  | .pb => p.row .pb
  | .cs => p.row .cs
  | .us => p.row .us
/-- the solver's rows before the watch lists are made -/
def St.pre (s : St) : Role → Row
  | .wbH => .nil 130 1
  | .wlH => .nil 130 1
  | .pbH => .nil 71 1
  | .amoH => .nil 71 1
  | .orig => .nil 49 1
  | r => s.row r
def solN (p : PSt) (C : List Value) (ul tc mb : Nat) (b : Nat → Nat) : St :=
  { nv := p.nv, val := p.val, trail := List.replicate ul 0, rsn := List.replicate p.nv none, lits := p.lits, word := fun _ => 0, ids := p.cs, wb := fun _ => [], wl := fun _ => [], orig := [], lrn := [],
    sb := b 42, sc := C, modelB := mb, actB := b 17, polB := b 19, assB := b 21, rsnB := b 23, wbHB := 0, wlHB := 0, pbHB := 0, amoHB := 0, tbufB := b 36,
    trailV := .slice (some ⟨b 11, 0, none⟩) ul tc, origV := .slice none 0 0, lrnV := .slice none 0 0, qcV := .slice none 0 0, qiV := .slice none 0 0, wbV := fun _ => .slice none 0 0, wlV := fun _ => .slice none 0 0,
    litV := p.litV, actC := fun _ => .float .f32 0, actL := List.replicate p.nv (.float .f64 0), polL := List.replicate p.nv false, tbuf := List.replicate p.nv (.int .i64 0), qc := [], qi := [],
    status := p.st, nbMax := 0, idx := 0, nconf := 0, lbdN := 0, lbdP := 0, tdN := 0, tdP := 0 }

/-- what region 7 makes -/
structure Made7 (nv ul tc : Nat) (C : List Value) (b : Nat → Nat) (w0 w : World) : Prop where
  os : w.os = w0.os
  tape : w.tape = w0.tape
  output : w.output = w0.output
  size : w0.heap.size ≤ w.heap.size
  old : ∀ k, k < w0.heap.size → w.heap[k]? = w0.heap[k]?
  ge : ∀ i ∈ [11, 17, 19, 21, 23, 36, 42], w0.heap.size ≤ b i
  inj : ∀ i ∈ [11, 17, 19, 21, 23, 36, 42], ∀ j ∈ [11, 17, 19, 21, 23, 36, 42], b i = b j → i = j
  b11 : w.heap[b 11]? = some (.cells (Array.replicate tc (.int .i32 0)) 53)
  b17 : w.heap[b 17]? = some (.cells (Array.replicate nv (.float .f64 0)) 90)
  b19 : w.heap[b 19]? = some (.cells (Array.replicate nv (.bool false)) 4)
  b21 : w.heap[b 21]? = some (.cells (Array.replicate nv (.bool false)) 4)
  b23 : w.heap[b 23]? = some (.cells (Array.replicate nv (.pointer none)) 49)
  b36 : w.heap[b 36]? = some (.cells (Array.replicate nv (.int .i64 0)) 3)
  b42 : w.heap[b 42]? = some (.cells C.toArray 100)

def fN (p : PSt) : Role ⊕ PK → Option PRole
  | .inl .model => some .mod
  | .inl (.cl c) => if c ∈ p.cs then some (.cl c) else none
  | .inl (.li c) => if c ∈ p.cs then some (.li c) else none
  | .inl _ => none
  | .inr .pb => some .pb
  | .inr .cs => some .cs
  | .inr .us => some .us
def gN : Role ⊕ PK → Option Nat
  | .inl .sol => some 42
  | .inl .trail => some 11
  | .inl .act => some 17
  | .inl .pol => some 19
  | .inl .ass => some 21
  | .inl .rsn => some 23
  | .inl .tbuf => some 36
  | _ => none
theorem gN_mem {r : Role ⊕ PK} {i : Nat} (h : gN r = some i) : i ∈ [11, 17, 19, 21, 23, 36, 42] := by
  unfold gN at h
  split at h <;> cases h <;> simp
theorem gN_inj {r1 r2 : Role ⊕ PK} {i : Nat} (h1 : gN r1 = some i) (h2 : gN r2 = some i) : r1 = r2 := by
  unfold gN at h1
  split at h1 <;> cases h1 <;> (unfold gN at h2; split at h2 <;> first | rfl | simp at h2)
theorem own_slice {b n c : Nat} : (Value.slice (some ⟨b, 0, none⟩) n c).ownBlock = some b := rfl

theorem solN_tr {p : PSt} {C : List Value} {ul tc mb : Nat} {b : Nat → Nat} {w0 w : World} (h : Rows p.row w0) (hM : Made7 p.nv ul tc C b w0 w) (hC : C.length = 5102) (hmem : ∀ c ∈ p.cs, c ∈ p.ids) (hvl : p.val.length = p.nv) (hmv : p.mV = slV mb p.nv)
    (hnv : p.nv ≤ 1000000) (htc : ul ≤ tc) (htc2 : tc ≤ 1000000) : Tr p.row w0 (Sum.elim (solN p C ul tc mb b).pre p.left) w := by
  have hmx : 1000000 ≤ maxLen := by unfold maxLen; omega
  have hnone : ∀ r, fN p r = none → (Sum.elim (solN p C ul tc mb b).pre p.left r).v.ownBlock = (gN r).map b := by
    intro r hr
    rcases r with r | r
    · cases r
      case cl c =>
        have hc : c ∉ p.cs := by intro hc; simp [fN, hc] at hr
        simp [St.pre, St.row, solN, hc, gN, Row.nil, Value.ownBlock]
      case li c =>
        have hc : c ∉ p.cs := by intro hc; simp [fN, hc] at hr
        simp [St.pre, St.row, solN, hc, gN, Row.nil, Value.ownBlock]
      case wb l => simp only [Sum.elim_inl, St.pre, St.row, solN]; split <;> rfl
      case wl l => simp only [Sum.elim_inl, St.pre, St.row, solN]; split <;> rfl
      case model => cases hr
      all_goals rfl
    · cases r <;> cases hr
  refine rows_of h hM.os hM.tape hM.output hM.size hM.old (fN p) ?_ ?_ ?_ ?_
  · intro r' r hr
    rcases r' with r' | r'
    · cases r' <;> first | (cases hr; done) | skip
      case model => cases hr; simp [St.pre, St.row, solN, PSt.row, hmv, hvl]
      case cl c =>
        by_cases hc : c ∈ p.cs
        · simp only [fN, hc, if_true] at hr
          cases hr
          simp [St.pre, St.row, solN, PSt.row, hc, hmem c hc]
        · simp [fN, hc] at hr
      case li c =>
        by_cases hc : c ∈ p.cs
        · simp only [fN, hc, if_true] at hr
          cases hr
          simp [St.pre, St.row, solN, PSt.row, hc, hmem c hc]
        · simp [fN, hc] at hr
    · cases r' <;> (cases hr; rfl)
  · intro r hr
    refine ⟨?_, fun b' hb => ?_⟩
    · rcases r with r | r
      · cases r
        case sol => exact own_at (k := 5102) hM.b42 (Nat.le_refl 1) (by omega) (by simp [hC]) (by simp [solN, Row.one, St.pre, St.row, ← hC])
        case trail =>
          have := own_at (k := 1) (n := ul) hM.b11 htc (by omega) (by simp) rfl
          simpa [St.pre, St.row, solN, i32, Nat.min_eq_left htc] using this
        case act =>
          have := own_at (k := 1) (n := p.nv) hM.b17 (Nat.le_refl _) (by omega) (by simp) rfl
          simpa [St.pre, St.row, solN, slV] using this
        case pol =>
          have := own_at (k := 1) (n := p.nv) hM.b19 (Nat.le_refl _) (by omega) (by simp) rfl
          simpa [St.pre, St.row, solN, slV] using this
        case ass =>
          have := own_at (k := 1) (n := p.nv) hM.b21 (Nat.le_refl _) (by omega) (by simp) rfl
          simpa [St.pre, St.row, solN, slV] using this
        case rsn =>
          have := own_at (k := 1) (n := p.nv) hM.b23 (Nat.le_refl _) (by omega) (by simp) rfl
          simpa [St.pre, St.row, solN, slV, ptrV] using this
        case tbuf =>
          have := own_at (k := 1) (n := p.nv) hM.b36 (Nat.le_refl _) (by omega) (by simp) rfl
          simpa [St.pre, St.row, solN, slV] using this
        case model => cases hr
        case cl c =>
          have hc : c ∉ p.cs := by intro hc; simp [fN, hc] at hr
          simp only [Sum.elim_inl, St.pre, St.row, solN, hc, if_false]
          exact World.ownsRow_nil _ _ _ _
        case li c =>
          have hc : c ∉ p.cs := by intro hc; simp [fN, hc] at hr
          simp only [Sum.elim_inl, St.pre, St.row, solN, hc, if_false]
          exact World.ownsRow_nil _ _ _ _
        case wb l => simp only [Sum.elim_inl, St.pre, St.row, solN]; split <;> exact World.ownsRow_nil _ _ _ _
        case wl l => simp only [Sum.elim_inl, St.pre, St.row, solN]; split <;> exact World.ownsRow_nil _ _ _ _
        all_goals exact World.ownsRow_nil _ _ _ _
      · cases r <;> cases hr
    · rw [hnone r hr] at hb
      cases e : gN r with
      | none => rw [e] at hb; cases hb
      | some i => rw [e] at hb; cases hb; exact hM.ge i (gN_mem e)
  · intro r1 r2 r h1 h2
    have key : ∀ r1 r, fN p r1 = some r → r1 = (match r with | .mod => .inl .model | .cl c => .inl (.cl c) | .li c => .inl (.li c) | .pb => .inr .pb | .cs => .inr .cs | .us => .inr .us : Role ⊕ PK) := by
      intro r1 r h1
      rcases r1 with r1 | r1
      · cases r1 <;> first | (cases h1; done) | (cases h1; rfl; done) | skip
        case cl c => by_cases hc : c ∈ p.cs <;> simp only [fN, hc, if_true, if_false] at h1 <;> cases h1; rfl
        case li c => by_cases hc : c ∈ p.cs <;> simp only [fN, hc, if_true, if_false] at h1 <;> cases h1; rfl
      · cases r1 <;> (cases h1; rfl)
    rw [key r1 r h1, key r2 r h2]
  · intro r1 r2 b' h1 h2 e1 e2
    rw [hnone r1 h1] at e1
    rw [hnone r2 h2] at e2
    cases g1 : gN r1 with
    | none => rw [g1] at e1; cases e1
    | some i =>
      cases g2 : gN r2 with
      | none => rw [g2] at e2; cases e2
      | some j =>
        rw [g1] at e1; rw [g2] at e2
        have : b i = b j := by
          have e1 : b i = b' := by simpa using e1
          have e2 : b j = b' := by simpa using e2
          rw [e1, e2]
        have hij := hM.inj i (gN_mem g1) j (gN_mem g2) this
        subst hij
        exact gN_inj g1 g2
end Go.Proofs.YtiimddkopiknpaaGreat

/-
  Stores of more than one cell; New's small callees.
-/
namespace Go.Proofs.YtiimddkopiknpaaGreat
open Go.RowKit

def setsL : List Value → Nat → List Value → List Value
  | L, _, [] => L
  | L, o, v :: r => setsL (L.set o v) (o + 1) r
theorem setsL_len (vs : List Value) : ∀ (L : List Value) (o : Nat), (setsL L o vs).length = L.length := by
  induction vs with
  | nil => intro L o; rfl
  | cons v r ih => intro L o; rw [setsL, ih, List.length_set]
theorem setsL_out (vs : List Value) : ∀ (L : List Value) (o j : Nat), (j < o ∨ o + vs.length ≤ j) → (setsL L o vs)[j]? = L[j]? := by
  induction vs with
  | nil => intro L o j _; rfl
  | cons v r ih =>
    intro L o j hj
    simp only [List.length_cons] at hj
    rw [setsL, ih _ _ _ (by omega), List.getElem?_set, if_neg (by omega)]
theorem setsL_in (vs : List Value) : ∀ (L : List Value) (o i : Nat), o + vs.length ≤ L.length → i < vs.length → (setsL L o vs)[o + i]? = vs[i]? := by
  induction vs with
  | nil => intro L o i _ hi; simp at hi
  | cons v r ih =>
    intro L o i hl hi
    simp only [List.length_cons] at hl hi
    rw [setsL]
    cases i with
    | zero => rw [setsL_out _ _ _ _ (by omega), List.getElem?_set, if_pos (by omega), if_pos (by omega)]; rfl
    | succ i =>
      have := ih (L.set o v) (o + 1) i (by rw [List.length_set]; omega) (by omega)
      rw [show o + (i + 1) = o + 1 + i by omega, this]; rfl
open Classical in
theorem Rows.sets {ι : Type} (r : ι) {b : Nat} (vs : List Value) : ∀ {ρ ρ' : ι → Row} {w : World} (_ : Rows ρ w) (_ : (ρ r).v.ownBlock = some b) (o : Nat) (_ : ρ' r = { ρ r with xs := setsL (ρ r).xs o vs }) (_ : ∀ r', r' ≠ r → ρ' r' = ρ r'), Tr ρ w ρ' (w.setCells b o vs) := by
  induction vs with
  | nil =>
    intro ρ ρ' w h hb o hr hne
    have : ρ' = ρ := by
      funext r'
      by_cases e : r' = r
      · subst e; rw [hr]; rfl
      · exact hne r' e
    rw [this]; exact Tr.refl h
  | cons v vs ih =>
    intro ρ ρ' w h hb o hr hne
    have t1 := h.set (ρ' := fun r' => if r' = r then { ρ r with xs := (ρ r).xs.set o v } else ρ r') r hb o v (by simp) (fun r' hr' => by simp [hr'])
    refine t1.trans (ih t1.rows (by simpa using hb) (o + 1) ?_ ?_)
    · rw [hr]; simp [setsL]
    · intro r' hr'; rw [hne r' hr']; simp [hr']
theorem Rows.there {ι : Type} {ρ : ι → Row} {w : World} (h : Rows ρ w) (r : ι) {b : Nat} (hb : (ρ r).v.ownBlock = some b) {o n : Nat} (hle : o + n ≤ (ρ r).xs.length) : w.there b o n :=
  fun j hj => ⟨by rw [h.cell r hb (List.getElem?_eq_getElem (show o + j < (ρ r).xs.length by omega))]; rfl, h.frozen r hb _⟩

set_option maxRecDepth 100000 in
theorem resetOpt_c {sb : Nat} {w : World} (h : w.cell? ⟨sb, 5094, none⟩ = some (.slice none 0 0)) : Calls Tryz.prog 53 #[.pointer (some ⟨sb, 0, none⟩)] w fun e w' => e = .returned (.tuple #[]) ∧ w' = w := by
  go_enter Tryz.func53, Tryz.ntmps53
  go_wp2_with fail
  go_end0
  exact ⟨rfl, rfl⟩
set_option maxRecDepth 100000 in
theorem initAct_c {sb : Nat} {w : World} (h : w.cell? ⟨sb, 5094, none⟩ = some (.slice none 0 0)) : Calls Tryz.prog 54 #[.pointer (some ⟨sb, 0, none⟩)] w fun e w' => e = .returned (.tuple #[]) ∧ w' = w := by
  go_enter Tryz.func54, Tryz.ntmps54
  go_wp2_with fail
  go_loopw [10] (fun v10 wr => v10 = .int .i64 0 ∧ wr = w) (fun _ _ => 0)
  case atStart => exact ⟨rfl, rfl⟩
  case round =>
    obtain ⟨rfl, rfl⟩ := hrel
    go_wp2_with fail
    go_end0
    exact ⟨rfl, rfl⟩

theorem build_wl (b1 b2 b3 b4 ob m n : Nat) (w : World) : (Instr.build 85 #[(0, .int .i64 2000), (1, .int .i64 1), (2, slV b1 m), (3, slV b2 m), (4, slV b3 m), (5, slV b4 m), (6, slV ob n)]).run Tryz.prog w =
    .ok (.agg #[.int .i64 2000, .int .i64 1, slV b1 m, slV b2 m, slV b3 m, slV b4 m, slV ob n, .slice none 0 0]) w := by kernel_rfl
theorem infoWss : (Tryz.prog.info? 130).map (fun i => (i.zero, i.size, i.bytes)) = some (some (.slice none 0 0), 1, 24) := by kernel_rfl
theorem infoCss : (Tryz.prog.info? 71).map (fun i => (i.zero, i.size, i.bytes)) = some (some (.slice none 0 0), 1, 24) := by kernel_rfl
theorem sizeWl : (Tryz.prog.info? 85).map (·.size) = some 8 := by kernel_rfl
theorem sizeQu : (Tryz.prog.info? 89).map (·.size) = some 3 := by kernel_rfl
end Go.Proofs.YtiimddkopiknpaaGreat
