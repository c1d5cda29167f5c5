/- A statement whose order Go leaves open: one walk in an order of the prover's choice serves every order. An operation of class 0 yields the same in whatever world; one of class 1 (a load, a call that only reads) yields the same in every world that keeps what stands, and no operation that writes old memory can come before it; one of class 2 is the only one that can come now. -/
import Derived.Orders
set_option linter.unusedVariables false
set_option linter.unusedSimpArgs false
namespace Go.Proofs.YtggbaffkjfofhaaDoor
open Go

/-- All that stands in w stands in w' as it was. -/
structure Grow (w w' : World) : Prop where
  os : w'.os = w.os
  tape : w'.tape = w.tape
  output : w'.output = w.output
  size : w.heap.size ≤ w'.heap.size
  block : ∀ k, k < w.heap.size → w'.heap[k]? = w.heap[k]?

theorem Grow.refl (w : World) : Grow w w := ⟨rfl, rfl, rfl, Nat.le_refl _, fun _ _ => rfl⟩
theorem Grow.trans {w w' w'' : World} (h : Grow w w') (h' : Grow w' w'') : Grow w w'' :=
  ⟨h'.os.trans h.os, h'.tape.trans h.tape, h'.output.trans h.output, Nat.le_trans h.size h'.size,
    fun k hk => (h'.block k (Nat.lt_of_lt_of_le hk h.size)).trans (h.block k hk)⟩

section
variable {P : Program} {ops : Array Oper} {md : Region.Mode} {wild : Nat → Bool}

def runsX (P : Program) (o : Oper) (next : Act → World → Prop) (a : Act) : Result Next → Prop
  | .ok (.value v) w' => next (a.put o.dst v) w'
  | .ok .skip w' => next (a.put o.dst undef) w'
  | .ok (.enter f args) w' => Calls P f args w' fun e w'' => ∃ v, e = .returned v ∧ next (a.put o.dst v) w''
  | _ => False

def stepX (P : Program) (ops : Array Oper) (i : Nat) (K : Act → World → Prop) (a : Act) (w : World) : Prop :=
  match ops[i]? with
  | none => False
  | some o => if Region.wanted o (yielded ops a.tmps) = true then runsX P o K a ((execOp a.eval o).run P w) else K (a.put o.dst undef) w

theorem runsX_mono {o : Oper} {K K' : Act → World → Prop} {a : Act} (h : ∀ a w, K a w → K' a w) : ∀ {r : Result Next}, runsX P o K a r → runsX P o K' a r := by
  intro r hr
  cases r with
  | ok n w' =>
    cases n <;> simp only [runsX] at hr ⊢
    case value u => exact h _ _ hr
    case skip => exact h _ _ hr
    case enter f args => exact Calls.mono hr fun e w'' ⟨v, he, hk⟩ => ⟨v, he, h _ _ hk⟩
  | halt x w' => simp only [runsX] at hr

theorem stepX_mono {i : Nat} {K K' : Act → World → Prop} {a : Act} {w : World} (h : ∀ a w, K a w → K' a w) (hh : stepX P ops i K a w) : stepX P ops i K' a w := by
  unfold stepX at *
  split
  · rename_i ho; simp only [ho] at hh
  · rename_i o ho
    simp only [ho] at hh
    split
    · rename_i hw; simp only [hw, if_true] at hh; exact runsX_mono h hh
    · rename_i hw; simp only [hw] at hh; exact h _ _ hh

theorem wpOp_of_stepX {Q : Exit → Act → World → Prop} {i : Nat} {K : Act → World → Prop} {a : Act} {w : World} (hh : stepX P ops i K a w) : wpOp P ops Q i K a w := by
  unfold stepX at hh
  unfold wpOp
  split
  · rename_i ho; simp only [ho] at hh
  · rename_i o ho
    simp only [ho] at hh
    split
    · rename_i hw
      simp only [hw, if_true] at hh
      refine .inl ?_
      unfold Oper.wp
      generalize (execOp a.eval o).run P w = r at *
      cases r with
      | ok n w' =>
        cases n <;> simp only [runsX] at hh <;> simp only [Oper.upon]
        case value u => exact hh
        case skip => exact hh
        case enter f args => exact Calls.mono hh fun e w'' ⟨v, he, hk⟩ => by subst he; exact hk
      | halt x w' => simp only [runsX] at hh
    · rename_i hw; simp only [hw] at hh; exact hh

/-- In state a, in every world of D, operation o leaves v in its slot and nothing else. -/
def YieldsD (P : Program) (ops : Array Oper) (D : World → Prop) (o : Oper) (v : Value) (a : Act) : Prop :=
  (Region.wanted o (yielded ops a.tmps) = true ∧ ∀ w, D w → ((execOp a.eval o).run P w = .ok (.value v) w ∨
    ∃ f args, (execOp a.eval o).run P w = .ok (.enter f args) w ∧ Calls P f args w (fun e w'' => e = .returned v ∧ w'' = w))) ∨
  (Region.wanted o (yielded ops a.tmps) = false ∧ v = undef)

theorem YieldsD.of_same {D : World → Prop} {o : Oper} {v : Value} {a a' : Act} (hy : YieldsD P ops D o v a) (he : execOp a'.eval o = execOp a.eval o)
    (hw : Region.wanted o (yielded ops a'.tmps) = Region.wanted o (yielded ops a.tmps)) : YieldsD P ops D o v a' := by
  unfold YieldsD at *
  rw [he, hw]
  exact hy

theorem YieldsD.stepX {D : World → Prop} {i : Nat} {o : Oper} {v : Value} {a : Act} (hi : ops[i]? = some o) (hy : YieldsD P ops D o v a)
    {K : Act → World → Prop} {w : World} (hD : D w) (h : K (a.put o.dst v) w) : stepX P ops i K a w := by
  unfold Proofs.YtggbaffkjfofhaaDoor.stepX
  simp only [hi]
  rcases hy with ⟨hw, hv⟩ | ⟨hw, rfl⟩
  · simp only [hw, if_true]
    rcases hv w hD with hv | ⟨f, args, hv, hc⟩
    · rw [hv]; exact h
    · rw [hv]; exact Calls.mono hc fun e w'' ⟨he, hw''⟩ => ⟨v, he, by subst hw''; exact h⟩
  · simp only [hw, Bool.false_eq_true, if_false]; exact h

theorem stepX_put {D : World → Prop} {j : Nat} {oi oj : Oper} {v : Value} (hj : ops[j]? = some oj) (hap : oi.apart ops oj = true)
    (hsi : ∀ cs b, oi.op ≠ .select cs b) (hsj : ∀ cs b, oj.op ≠ .select cs b) {K : Act → World → Prop} {a : Act} {w : World}
    (hy : YieldsD P ops D oi v a) (h : stepX P ops j K (a.put oi.dst v) w) :
    stepX P ops j (fun a' w' => YieldsD P ops D oi v a' ∧ K (a'.put oi.dst v) w') a w := by
  obtain ⟨h1, h2, h3⟩ := Oper.apart_spec hap
  have keep : ∀ (a : Act), YieldsD P ops D oi v a → ∀ u, YieldsD P ops D oi v (a.put oj.dst u) := fun a hy u =>
    hy.of_same (execOp_put oi hsi a oj.dst u h3) (wanted_put oi a oj.dst u h3)
  unfold stepX at *
  simp only [hj] at *
  rw [wanted_put oj a oi.dst v h1] at h
  split
  · rename_i hw
    simp only [hw, if_true] at h
    rw [execOp_put oj hsj a oi.dst v h1] at h
    generalize (execOp a.eval oj).run P w = r at *
    cases r with
    | ok n w' =>
      cases n <;> simp only [runsX] at h ⊢
      case value u => exact ⟨keep a hy u, by rw [← Act.put_comm a v u h2]; exact h⟩
      case skip => exact ⟨keep a hy _, by rw [← Act.put_comm a v undef h2]; exact h⟩
      case enter f args =>
        exact Calls.mono h fun e w'' ⟨u, he, hk⟩ => ⟨u, he, keep a hy u, by rw [← Act.put_comm a v u h2]; exact hk⟩
    | halt x w' => simp only [runsX] at h
  · rename_i hw
    simp only [hw] at h
    exact ⟨keep a hy _, by rw [← Act.put_comm a v undef h2]; exact h⟩

/-- Whatever order is picked from here on; what is not wild keeps what stands. -/
def wpX (P : Program) (md : Region.Mode) (ops : Array Oper) (wild : Nat → Bool) (Q : Act → World → Prop) : Nat → Array Bool → Act → World → Prop
  | 0, listed, a, w => Region.ready md ops listed = [] ∧ Q a w
  | fuel + 1, listed, a, w =>
    (Region.ready md ops listed = [] → Q a w) ∧
    ∀ i ∈ Region.ready md ops listed, stepX P ops i (fun a' w' => (wild i = false → Grow w w') ∧ wpX P md ops wild Q fuel (listed.setIfInBounds i true) a' w') a w

theorem wpAny_of_wpX {Q : Exit → Act → World → Prop} : ∀ (fuel : Nat) (listed : Array Bool) (a : Act) (w : World),
    wpX P md ops wild (Q .normal) fuel listed a w → wpAny P md ops Q fuel listed a w
  | 0, _, _, _, h => h
  | fuel + 1, _, _, _, h => ⟨h.1, fun i hi => wpOp_of_stepX (stepX_mono (fun a' w' h' => wpAny_of_wpX fuel _ a' w' h'.2) (h.2 i hi))⟩

theorem wpX_first {Q : Act → World → Prop} {i : Nat} {oi : Oper} {v : Value} {D : World → Prop} {Inv : Array Bool → Prop} (hi : ops[i]? = some oi)
    (hsel : ∀ (j : Nat) (o : Oper) cs b, ops[j]? = some o → o.op ≠ .select cs b)
    (hInv : ∀ listed j, Inv listed → i ∈ Region.ready md ops listed → j ∈ Region.ready md ops listed → j ≠ i → Inv (listed.setIfInBounds j true) ∧
      ∀ w w', D w → (wild j = false → Grow w w') → D w') :
    ∀ (fuel : Nat) (listed : Array Bool) (a : Act) (w : World),
      (∀ j oj, ops[j]? = some oj → j ≠ i → listed.getD j true = false → (∀ e ∈ oj.after, Region.binds md e = true → e.on ≠ i) → oi.apart ops oj = true) →
      Inv listed → i ∈ Region.ready md ops listed → YieldsD P ops D oi v a → D w →
      wpX P md ops wild Q fuel (listed.setIfInBounds i true) (a.put oi.dst v) w → wpX P md ops wild Q (fuel + 1) listed a w := by
  intro fuel
  induction fuel with
  | zero =>
    intro listed a w _ hI hr hy hD H
    refine ⟨fun h => (by rw [h] at hr; cases hr), fun j hj => ?_⟩
    by_cases hji : j = i
    · subst hji; exact hy.stepX hi hD ⟨fun _ => Grow.refl _, H⟩
    · have := ready_mono hj hji
      rw [H.1] at this
      cases this
  | succ fuel ih =>
    intro listed a w hfree hI hr hy hD H
    refine ⟨fun h => (by rw [h] at hr; cases hr), fun j hj => ?_⟩
    by_cases hji : j = i
    · subst hji; exact hy.stepX hi hD ⟨fun _ => Grow.refl _, H⟩
    · have h1 := H.2 j (ready_mono hj hji)
      obtain ⟨hjun, oj, hoj, hall⟩ := mem_ready.1 hj
      have hnot : ∀ e ∈ oj.after, Region.binds md e = true → e.on ≠ i := fun e he hb heq => by
        have h1 := hall e he hb
        have h0 := (mem_ready.1 hr).1
        rw [heq] at h1
        rcases Nat.lt_or_ge i listed.size with h' | h'
        · simp [h'] at h0 h1; rw [h0] at h1; cases h1
        · simp [Array.getElem?_eq_none h'] at h1
      have h2 := stepX_put hoj (hfree j oj hoj hji hjun hnot) (fun cs b => hsel i oi cs b hi) (fun cs b => hsel j oj cs b hoj) hy h1
      have hfree' : ∀ k ok, ops[k]? = some ok → k ≠ i → (listed.setIfInBounds j true).getD k true = false →
          (∀ e ∈ ok.after, Region.binds md e = true → e.on ≠ i) → oi.apart ops ok = true := fun k ok hk hki hun hno => by
        refine hfree k ok hk hki ?_ hno
        by_cases hjk : j = k
        · subst hjk; exact hjun
        · rw [getD_set_ne true hjk] at hun; exact hun
      obtain ⟨hI', hcl⟩ := hInv listed j hI hr hj hji
      refine stepX_mono (fun a' w' h3 => ⟨h3.2.1, ih (listed.setIfInBounds j true) a' w' hfree' hI' (ready_mono hr (Ne.symm hji)) h3.1 (hcl w w' hD h3.2.1) ?_⟩) h2
      rw [Array.setIfInBounds_comm _ _ hji]
      exact h3.2.2

/-! ### The check of an order -/

/-- What can come before i is among E. -/
def shutB (md : Region.Mode) (ops : Array Oper) (E : Array Bool) (i : Nat) : Bool :=
  (List.range ops.size).all fun j => j == i || E.getD j false || match ops[j]? with
    | some oj => oj.after.any fun e => Region.binds md e && !E.getD e.on false
    | none => true

def growE (md : Region.Mode) (ops : Array Oper) (i : Nat) (E : Array Bool) : Array Bool :=
  (List.range ops.size).foldl (fun E j => if j != i && !E.getD j true && (match ops[j]? with
      | some oj => oj.after.all fun e => !Region.binds md e || E.getD e.on false
      | none => false) then E.setIfInBounds j true else E) E

/-- No operation is wild. -/
def tameB (ops : Array Oper) (wild : Nat → Bool) : Bool := (List.range ops.size).all fun j => !wild j

/-- No wild operation that has not come yet can come before i. -/
def calmB (md : Region.Mode) (ops : Array Oper) (wild : Nat → Bool) (listed : Array Bool) (i : Nat) : Bool :=
  let E := growE md ops i listed
  shutB md ops E i && (List.range ops.size).all fun j => (!listed.getD j false || E.getD j false) && (!(wild j) || !E.getD j false || listed.getD j false)

def orderB (md : Region.Mode) (ops : Array Oper) (wild : Nat → Bool) : List (Nat × Nat) → Array Bool → Bool
  | [], listed => (Region.ready md ops listed).isEmpty
  | (i, c) :: σ, listed => (Region.ready md ops listed).contains i && (match c with
      | 0 => Region.free md ops listed i
      | 1 => Region.free md ops listed i && (tameB ops wild || calmB md ops wild listed i)
      | _ => decide (Region.ready md ops listed = [i])) && orderB md ops wild σ (listed.setIfInBounds i true)

/-- The walk in that order. -/
def walkX (P : Program) (ops : Array Oper) (wild : Nat → Bool) (Q : Act → World → Prop) : List (Nat × Nat) → Act → World → Prop
  | [], a, w => Q a w
  | (i, 0) :: σ, a, w => ∃ o v, ops[i]? = some o ∧ YieldsD P ops (fun _ => True) o v a ∧ walkX P ops wild Q σ (a.put o.dst v) w
  | (i, 1) :: σ, a, w => ∃ o v, ops[i]? = some o ∧ YieldsD P ops (Grow w) o v a ∧ walkX P ops wild Q σ (a.put o.dst v) w
  | (i, _ + 2) :: σ, a, w => stepX P ops i (fun a' w' => (wild i = false → Grow w w') ∧ walkX P ops wild Q σ a' w') a w

theorem wpX_of_walk {Q : Act → World → Prop} (hs : Region.noSelect ops = true) : ∀ (σ : List (Nat × Nat)) (listed : Array Bool) (a : Act) (w : World), listed.size = ops.size →
    orderB md ops wild σ listed = true → walkX P ops wild Q σ a w → wpX P md ops wild Q σ.length listed a w
  | [], listed, a, w, _, hB, h => ⟨by simpa [orderB] using hB, h⟩
  | (i, 0) :: σ, listed, a, w, hz, hB, h => by
    simp only [orderB, Bool.and_eq_true] at hB
    obtain ⟨⟨hr, hf⟩, hB'⟩ := hB
    obtain ⟨o, v, ho, hy, hK⟩ := h
    exact wpX_first (D := fun _ => True) (Inv := fun _ => True) ho (Region.noSelect_spec hs) (fun _ _ _ _ _ _ => ⟨trivial, fun _ _ _ _ => trivial⟩) σ.length listed a w
      (Region.free_spec ho hf) trivial (by simpa using hr) hy trivial (wpX_of_walk hs σ _ _ _ (by simpa using hz) hB' hK)
  | (i, 1) :: σ, listed, a, w, hz, hB, h => by
    simp only [orderB, Bool.and_eq_true] at hB
    obtain ⟨⟨hr, hf, hcalm⟩, hB'⟩ := hB
    obtain ⟨o, v, ho, hy, hK⟩ := h
    rcases (Bool.or_eq_true _ _ ▸ hcalm : tameB ops wild = true ∨ calmB md ops wild listed i = true) with htame | hcalm
    · refine wpX_first (D := Grow w) (Inv := fun _ => True) ho (Region.noSelect_spec hs) (fun l j _ _ hjr _ => ⟨trivial, fun w1 w2 hD hg => hD.trans (hg ?_)⟩) σ.length listed a w
        (Region.free_spec ho hf) trivial (by simpa using hr) hy (Grow.refl w) (wpX_of_walk hs σ _ _ _ (by simpa using hz) hB' hK)
      obtain ⟨_, oj, hoj, _⟩ := mem_ready.1 hjr
      have := List.all_eq_true.1 htame j (List.mem_range.2 (Array.getElem?_eq_some_iff.1 hoj).1)
      simpa using this
    simp only [calmB, Bool.and_eq_true, List.all_eq_true, List.mem_range] at hcalm
    obtain ⟨hshut, hall⟩ := hcalm
    generalize hE : growE md ops i listed = E at *
    have hsub : ∀ j, listed.getD j false = true → E.getD j false = true := fun j hj => by
      by_cases hlt : j < ops.size
      · have := (hall j hlt).1
        rw [hj] at this
        simpa using this
      · have : ¬ j < listed.size := by rw [hz]; exact hlt
        simp [Array.getElem?_eq_none (Nat.le_of_not_lt this)] at hj
    refine wpX_first (D := Grow w) (Inv := fun l => (∀ j, l.getD j false = true → E.getD j false = true) ∧ (∀ j, listed.getD j false = true → l.getD j false = true)) ho (Region.noSelect_spec hs) ?_ σ.length listed a w
      (Region.free_spec ho hf) ⟨hsub, fun _ h => h⟩ (by simpa using hr) hy (Grow.refl w) (wpX_of_walk hs σ _ _ _ (by simpa using hz) hB' hK)
    intro l j ⟨h1, h2⟩ hir hjr hji
    obtain ⟨hjun, oj, hoj, hafter⟩ := mem_ready.1 hjr
    have hjlt : j < ops.size := (Array.getElem?_eq_some_iff.1 hoj).1
    have hjE : E.getD j false = true := by
      have := List.all_eq_true.1 hshut j (List.mem_range.2 hjlt)
      simp only [hoj, Bool.or_eq_true, beq_iff_eq] at this
      rcases this with (h | h) | h
      · exact absurd h hji
      · exact h
      · obtain ⟨e, he, hb⟩ := Array.any_eq_true'.1 h
        simp only [Bool.and_eq_true, Bool.not_eq_true'] at hb
        have := h1 _ (hafter e he hb.1)
        rw [hb.2] at this
        cases this
    refine ⟨⟨fun k hk => ?_, fun k hk => getD_set_true (h2 k hk)⟩, fun w1 w2 hD hg => hD.trans (hg ?_)⟩
    · by_cases hjk : j = k
      · subst hjk; exact hjE
      · rw [getD_set_ne false hjk] at hk; exact h1 k hk
    · cases hw : wild j with
      | false => rfl
      | true =>
        have h3 := (hall j hjlt).2
        rw [hw, hjE] at h3
        have h4 : listed.getD j false = true := by simpa using h3
        have h5 := h2 j h4
        rcases Nat.lt_or_ge j l.size with h' | h'
        · simp [h'] at hjun h5; rw [hjun] at h5; cases h5
        · simp [Array.getElem?_eq_none h'] at h5
  | (i, c + 2) :: σ, listed, a, w, hz, hB, h => by
    simp only [orderB, Bool.and_eq_true, decide_eq_true_eq] at hB
    obtain ⟨⟨_, hr⟩, hB'⟩ := hB
    refine ⟨fun h0 => (by rw [h0] at hr; cases hr), fun j hj => ?_⟩
    rw [hr] at hj
    have hji : j = i := by simpa using hj
    subst hji
    exact stepX_mono (fun a' w' h' => ⟨h'.1, wpX_of_walk hs σ _ a' w' (by simpa using hz) hB' h'.2⟩) h

theorem wp_region_order {id : Nat} {Q : Exit → Act → World → Prop} {a : Act} {w : World} {l : List Oper} (wild : Nat → Bool) (σ : List (Nat × Nat)) (hm : P.follows .mixedOrders = true)
    (hB : (Region.noSelect l.toArray && decide (σ.length = l.length) && orderB .any l.toArray wild σ (Array.replicate l.length false)) = true)
    (h : walkX P l.toArray wild (Q .normal) σ a { w with drawn := w.drawn + 1 }) : (Code.region id l.toArray true).wp P Q a w := by
  simp only [Bool.and_eq_true, decide_eq_true_eq] at hB
  obtain ⟨⟨hs, hl⟩, ho⟩ := hB
  refine wp_region_any hm ?_
  have := wpX_of_walk (md := .any) (wild := wild) hs σ (Array.replicate l.length false) a _ (by simp) ho h
  rw [hl] at this
  simpa using wpAny_of_wpX _ _ _ _ this
end
end Go.Proofs.YtggbaffkjfofhaaDoor
