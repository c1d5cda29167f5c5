/- Regions in which two operations that make memory can come in either order: a tree of walks. -/
import Derived.Test.YtggbaffkjfofhaaDoorEv
import Derived.Test.YtggbaffkjfofhaaDoorMem3
set_option linter.unusedVariables false
set_option linter.unusedSimpArgs false
namespace Go.Proofs.YtggbaffkjfofhaaDoor
open Go

section
variable {P : Program} {ops : Array Oper} {md : Region.Mode} {wild : Nat → Bool}

def setAll : List (Nat × Nat) → Array Bool → Array Bool
  | [], l => l
  | (i, _) :: σ, l => setAll σ (l.setIfInBounds i true)

def lenP (m : Nat) : List (Nat × Nat) → Nat
  | [] => m
  | _ :: σ => lenP m σ + 1

def orderP (md : Region.Mode) (ops : Array Oper) (wild : Nat → Bool) : List (Nat × Nat) → Array Bool → Bool
  | [], listed => true
  | (i, c) :: σ, listed => (Region.ready md ops listed).contains i && (match c with
      | 0 => Region.free md ops listed i
      | 1 => Region.free md ops listed i && (tameB ops wild || calmB md ops wild listed i)
      | _ => decide (Region.ready md ops listed = [i])) && orderP md ops wild σ (listed.setIfInBounds i true)

theorem wpX_of_walkP {Q Q' : Act → World → Prop} (hs : Region.noSelect ops = true) (m : Nat) (fin : Array Bool) (hfin : fin.size = ops.size → ∀ a w, Q a w → wpX P md ops wild Q' m fin a w) : ∀ (σ : List (Nat × Nat)) (listed : Array Bool) (a : Act) (w : World), listed.size = ops.size →
    orderP md ops wild σ listed = true → setAll σ listed = fin → walkX P ops wild Q σ a w → wpX P md ops wild Q' (lenP m σ) listed a w
  | [], listed, a, w, hz, _, hEnd, h => by
    have hE' : listed = fin := hEnd
    subst hE'
    exact hfin hz a w h
  | (i, 0) :: σ, listed, a, w, hz, hB, hEnd, h => by
    simp only [orderP, Bool.and_eq_true] at hB
    obtain ⟨⟨hr, hf⟩, hB'⟩ := hB
    obtain ⟨o, v, ho, hy, hK⟩ := h
    exact wpX_first (D := fun _ => True) (Inv := fun _ => True) ho (Region.noSelect_spec hs) (fun _ _ _ _ _ _ => ⟨trivial, fun _ _ _ _ => trivial⟩) (lenP m σ) listed a w
      (Region.free_spec ho hf) trivial (by simpa using hr) hy trivial (wpX_of_walkP hs m fin hfin σ _ _ _ (by simpa using hz) hB' hEnd hK)
  | (i, 1) :: σ, listed, a, w, hz, hB, hEnd, h => by
    simp only [orderP, Bool.and_eq_true] at hB
    obtain ⟨⟨hr, hf, hcalm⟩, hB'⟩ := hB
    obtain ⟨o, v, ho, hy, hK⟩ := h
    rcases (Bool.or_eq_true _ _ ▸ hcalm : tameB ops wild = true ∨ calmB md ops wild listed i = true) with htame | hcalm
    · refine wpX_first (D := Grow w) (Inv := fun _ => True) ho (Region.noSelect_spec hs) (fun l j _ _ hjr _ => ⟨trivial, fun w1 w2 hD hg => hD.trans (hg ?_)⟩) (lenP m σ) listed a w
        (Region.free_spec ho hf) trivial (by simpa using hr) hy (Grow.refl w) (wpX_of_walkP hs m fin hfin σ _ _ _ (by simpa using hz) hB' hEnd hK)
      obtain ⟨_, oj, hoj, _⟩ := mem_ready.1 hjr
      have := List.all_eq_true.1 htame j (List.mem_range.2 (Array.getElem?_eq_some_iff.1 hoj).1)
      simpa using this
    simp only [calmB, Bool.and_eq_true, List.all_eq_true, List.mem_range] at hcalm
    obtain ⟨hshut, hall⟩ := hcalm
    generalize hE : growE md ops i listed = E at *
    have hsub : ∀ j, listed.getD j false = true → E.getD j false = true := fun j hj => by
      by_cases hlt : j < ops.size
      · have := (hall j hlt).1
        rw [hj] at this
        simpa using this
      · have : ¬ j < listed.size := by rw [hz]; exact hlt
        simp [Array.getElem?_eq_none (Nat.le_of_not_lt this)] at hj
    refine wpX_first (D := Grow w) (Inv := fun l => (∀ j, l.getD j false = true → E.getD j false = true) ∧ (∀ j, listed.getD j false = true → l.getD j false = true)) ho (Region.noSelect_spec hs) ?_ (lenP m σ) listed a w
      (Region.free_spec ho hf) ⟨hsub, fun _ h => h⟩ (by simpa using hr) hy (Grow.refl w) (wpX_of_walkP hs m fin hfin σ _ _ _ (by simpa using hz) hB' hEnd hK)
    intro l j ⟨h1, h2⟩ hir hjr hji
    obtain ⟨hjun, oj, hoj, hafter⟩ := mem_ready.1 hjr
    have hjlt : j < ops.size := (Array.getElem?_eq_some_iff.1 hoj).1
    have hjE : E.getD j false = true := by
      have := List.all_eq_true.1 hshut j (List.mem_range.2 hjlt)
      simp only [hoj, Bool.or_eq_true, beq_iff_eq] at this
      rcases this with (h | h) | h
      · exact absurd h hji
      · exact h
      · obtain ⟨e, he, hb⟩ := Array.any_eq_true'.1 h
        simp only [Bool.and_eq_true, Bool.not_eq_true'] at hb
        have := h1 _ (hafter e he hb.1)
        rw [hb.2] at this
        cases this
    refine ⟨⟨fun k hk => ?_, fun k hk => getD_set_true (h2 k hk)⟩, fun w1 w2 hD hg => hD.trans (hg ?_)⟩
    · by_cases hjk : j = k
      · subst hjk; exact hjE
      · rw [getD_set_ne false hjk] at hk; exact h1 k hk
    · cases hw : wild j with
      | false => rfl
      | true =>
        have h3 := (hall j hjlt).2
        rw [hw, hjE] at h3
        have h4 : listed.getD j false = true := by simpa using h3
        have h5 := h2 j h4
        rcases Nat.lt_or_ge j l.size with h' | h'
        · simp [h'] at hjun h5; rw [hjun] at h5; cases h5
        · simp [Array.getElem?_eq_none h'] at h5
  | (i, c + 2) :: σ, listed, a, w, hz, hB, hEnd, h => by
    simp only [orderP, Bool.and_eq_true, decide_eq_true_eq] at hB
    obtain ⟨⟨_, hr⟩, hB'⟩ := hB
    refine ⟨fun h0 => (by rw [h0] at hr; cases hr), fun j hj => ?_⟩
    rw [hr] at hj
    have hji : j = i := by simpa using hj
    subst hji
    exact stepX_mono (fun a' w' h' => ⟨h'.1, wpX_of_walkP hs m fin hfin σ _ a' w' (by simpa using hz) hB' hEnd h'.2⟩) h


inductive Tr where
  | done
  | cat (σ : List (Nat × Nat)) (t : Tr)
  | two (i : Nat) (t : Tr) (j : Nat) (u : Tr)

def Tr.len : Tr → Nat
  | .done => 0
  | .cat σ t => lenP t.len σ
  | .two _ t _ _ => t.len + 1

def orderT (md : Region.Mode) (ops : Array Oper) (wild : Nat → Bool) : Tr → Array Bool → Bool
  | .done, listed => (Region.ready md ops listed).isEmpty
  | .cat σ t, listed => orderP md ops wild σ listed && orderT md ops wild t (setAll σ listed)
  | .two i t j u, listed => decide (Region.ready md ops listed = [i, j]) && Nat.beq t.len u.len && orderT md ops wild t (listed.setIfInBounds i true) && orderT md ops wild u (listed.setIfInBounds j true)

def walkT (P : Program) (ops : Array Oper) (wild : Nat → Bool) (Q : Act → World → Prop) : Tr → Act → World → Prop
  | .done, a, w => Q a w
  | .cat σ t, a, w => walkX P ops wild (walkT P ops wild Q t) σ a w
  | .two i t j u, a, w => stepX P ops i (fun a' w' => (wild i = false → Grow w w') ∧ walkT P ops wild Q t a' w') a w ∧
      stepX P ops j (fun a' w' => (wild j = false → Grow w w') ∧ walkT P ops wild Q u a' w') a w

theorem setAll_size : ∀ (σ : List (Nat × Nat)) (l : Array Bool), (setAll σ l).size = l.size
  | [], l => rfl
  | (i, _) :: σ, l => by rw [setAll, setAll_size]; simp

theorem wpX_of_tree {Q : Act → World → Prop} (hs : Region.noSelect ops = true) : ∀ (t : Tr) (listed : Array Bool) (a : Act) (w : World), listed.size = ops.size →
    orderT md ops wild t listed = true → walkT P ops wild Q t a w → wpX P md ops wild Q t.len listed a w
  | .done, listed, a, w, _, hB, h => ⟨by simpa [orderT] using hB, h⟩
  | .cat σ t, listed, a, w, hz, hB, h => by
    simp only [orderT, Bool.and_eq_true] at hB
    exact wpX_of_walkP hs t.len _ (fun hz' a w h => wpX_of_tree hs t _ a w hz' hB.2 h) σ listed a w hz hB.1 rfl h
  | .two i t j u, listed, a, w, hz, hB, h => by
    simp only [orderT, Bool.and_eq_true, decide_eq_true_eq] at hB
    obtain ⟨⟨⟨hr, hl⟩, h1⟩, h2⟩ := hB
    have hl' : t.len = u.len := Nat.eq_of_beq_eq_true hl
    refine ⟨fun h0 => (by rw [h0] at hr; cases hr), fun k hk => ?_⟩
    rw [hr] at hk
    rcases List.mem_cons.1 hk with rfl | hk
    · exact stepX_mono (fun a' w' h' => ⟨h'.1, wpX_of_tree hs t _ a' w' (by simpa using hz) h1 h'.2⟩) h.1
    · obtain rfl := List.mem_singleton.1 hk
      exact stepX_mono (fun a' w' h' => ⟨h'.1, by
        show wpX P md ops wild Q t.len _ _ _
        rw [hl']
        exact wpX_of_tree hs u _ a' w' (by simpa using hz) h2 h'.2⟩) h.2

theorem wp_region_tree {id : Nat} {Q : Exit → Act → World → Prop} {a : Act} {w : World} {l : List Oper} (wild : Nat → Bool) (t : Tr) (hm : P.follows .mixedOrders = true)
    (hB : (Region.noSelect l.toArray && Nat.beq t.len l.length && orderT .any l.toArray wild t (Array.replicate l.length false)) = true)
    (h : walkT P l.toArray wild (Q .normal) t a { w with drawn := w.drawn + 1 }) : (Code.region id l.toArray true).wp P Q a w := by
  simp only [Bool.and_eq_true] at hB
  obtain ⟨⟨hs, hl⟩, ho⟩ := hB
  have hl := Nat.eq_of_beq_eq_true hl
  refine wp_region_any hm ?_
  have := wpX_of_tree (md := .any) (wild := wild) hs t (Array.replicate l.length false) a _ (by simp) ho h
  rw [hl] at this
  simpa using wpAny_of_wpX _ _ _ _ this

/-! ### Over the slots that are known -/

def Tr.ok : Tr → Bool
  | .done => true
  | .cat σ t => σ.all (fun p => decide (p.2 ≤ 2)) && t.ok
  | .two _ t _ u => t.ok && u.ok

def stepT (P : Program) (n : Nat) (ops : Array Oper) (wild : Nat → Bool) (i : Nat) (S : Env) (w : World) (K : Env → World → Prop) : Option Oper → Prop
  | some ⟨dst, op, ty, pos, after, none⟩ => SemE P n S w ⟨dst, op, ty, pos, after, none⟩ (fun S' w' => (wild i = false → Grow w w') ∧ K S' w')
  | some ⟨dst, op, ty, pos, after, some (j, want)⟩ => gateE want (gv1 ops[j]? S) (SemE P n S w ⟨dst, op, ty, pos, after, some (j, want)⟩ (fun S' w' => (wild i = false → Grow w w') ∧ K S' w')) (okDst n dst ∧ K (S.put dst (.raw undef)) w)
  | none => False

def wpT (P : Program) (n : Nat) (ops : Array Oper) (wild : Nat → Bool) : Tr → Env → World → (Env → World → Prop) → Prop
  | .done, S, w, K => K S w
  | .cat σ t, S, w, K => wpO P n ops wild σ S w (fun S' w' => wpT P n ops wild t S' w' K)
  | .two i t j u, S, w, K => stepT P n ops wild i S w (fun S' w' => wpT P n ops wild t S' w' K) ops[i]? ∧ stepT P n ops wild j S w (fun S' w' => wpT P n ops wild u S' w' K) ops[j]?

theorem stepT_sound {n : Nat} {i : Nat} {S : Env} {w : World} {K : Env → World → Prop} {a : Act} {R : Act → World → Prop} (hS : Holds n S a) (h : stepT P n ops wild i S w K ops[i]?) (hK : ∀ S' w' a', Holds n S' a' → K S' w' → R a' w') :
    stepX P ops i (fun a' w' => (wild i = false → Grow w w') ∧ R a' w') a w := by
  unfold stepX
  cases ho : ops[i]? with
  | none => rw [ho] at h; exact h
  | some o =>
    obtain ⟨dst, op, ty, pos, after, g⟩ := o
    rw [ho] at h
    cases g with
    | some g =>
      obtain ⟨j, want⟩ := g
      simp only [stepT] at h
      rw [← gv1_eq] at h
      cases hb : ((ops[j]?).bind (·.dst)).bind S.get with
      | none => rw [hb] at h; exact h.elim
      | some v =>
        rw [hb] at h
        cases v <;> try exact h.elim
        case raw u =>
          cases u <;> try exact h.elim
          have hy := yielded_none hS hb
          have hw : Region.wanted ⟨dst, op, ty, pos, after, some (j, want)⟩ (yielded ops a.tmps) = false := by simp [Region.wanted, hy]
          simp only [hw]
          obtain ⟨hd, hk⟩ := h
          exact ⟨fun _ => Grow.refl w, hK _ w _ (hS.put dst (.raw undef) hd) hk⟩
        rename_i b
        have hy := yielded_of hS hb
        simp only [gateE, gateB] at h
        by_cases hbw : b = want
        · have hw : Region.wanted ⟨dst, op, ty, pos, after, some (j, want)⟩ (yielded ops a.tmps) = true := by simp [Region.wanted, hy, hbw]
          simp only [hw, if_true]
          exact runsX_mono (fun a' w' ⟨S', h1, h2⟩ => ⟨h2.1, hK S' w' a' h1 h2.2⟩) (h.1 hbw a hS)
        · have hw : Region.wanted ⟨dst, op, ty, pos, after, some (j, want)⟩ (yielded ops a.tmps) = false := by
            simp [Region.wanted, hy, hbw]
          simp only [hw]
          obtain ⟨hd, hk⟩ := h.2 hbw
          exact ⟨fun _ => Grow.refl w, hK _ w _ (hS.put dst (.raw undef) hd) hk⟩
    | none =>
      have hw : Region.wanted ⟨dst, op, ty, pos, after, none⟩ (yielded ops a.tmps) = true := by simp [Region.wanted]
      simp only [hw, if_true]
      exact runsX_mono (fun a' w' ⟨S', h1, h2⟩ => ⟨h2.1, hK S' w' a' h1 h2.2⟩) (h a hS)

theorem wpT_sound {n : Nat} {Q' : Act → World → Prop} : ∀ {t : Tr} {S : Env} {w : World} {K : Env → World → Prop} {a : Act}, t.ok = true →
    wpT P n ops wild t S w K → Holds n S a → (∀ S' w' a', Holds n S' a' → K S' w' → Q' a' w') → walkT P ops wild Q' t a w
  | .done, S, w, K, a, _, h, hS, hK => hK S w a hS h
  | .cat σ t, S, w, K, a, hok, h, hS, hK => by
    simp only [Tr.ok, Bool.and_eq_true, List.all_eq_true, decide_eq_true_eq] at hok
    exact wpO_sound hok.1 h hS (fun S' w' a' h1 h2 => wpT_sound hok.2 h2 h1 hK)
  | .two i t j u, S, w, K, a, hok, h, hS, hK => by
    simp only [Tr.ok, Bool.and_eq_true] at hok
    exact ⟨stepT_sound hS h.1 (fun S' w' a' h1 h2 => wpT_sound hok.1 h2 h1 hK), stepT_sound hS h.2 (fun S' w' a' h1 h2 => wpT_sound hok.2 h2 h1 hK)⟩

theorem EWp.seqT {n : Nat} {S : Env} {w : World} {Q : Exit → Env → World → Prop} {id : Nat} {l : List Oper} {y : Code} (wild : Nat → Bool) (t : Tr) (J : Env → World → Prop) (hm : P.follows .mixedOrders = true)
    (hB : (t.ok && (Region.noSelect l.toArray && Nat.beq t.len l.length && orderT .any l.toArray wild t (Array.replicate l.length false))) = true)
    (h : wpT P n l.toArray wild t S w.drew J) (h' : ∀ S w, J S w → EWp P n y S w Q) : EWp P n (.seq (.region id l.toArray true) y) S w Q := by
  rw [Bool.and_eq_true] at hB
  refine EWp.seq fun a ha => wp_region_tree wild t hm hB.2 (wpT_sound hB.1 h ha fun S' w' a' h1 h2 => ⟨S', h1, h' S' w' h2⟩)

/-- A guarded operation, before its guard is known. -/
def gateH (P : Program) (n : Nat) (wild : Nat → Bool) (i : Nat) (dst : Option Tmp) (op : Op) (ty : TypeId) (pos : String) (after : Array Edge) (j : Nat) (want : Bool) (S : Env) (w : World) (K : Env → World → Prop) (v : Option SV) : Prop :=
  gateE want v (SemE P n S w ⟨dst, op, ty, pos, after, some (j, want)⟩ (fun S' w' => (wild i = false → Grow w w') ∧ K S' w')) (okDst n dst ∧ K (S.put dst (.raw undef)) w)

theorem evT :
    (∀ P n ops wild S w K, wpT P n ops wild .done S w K = K S w) ∧
    (∀ P n ops wild σ t S w K, wpT P n ops wild (.cat σ t) S w K = wpO P n ops wild σ S w (fun S' w' => wpT P n ops wild t S' w' K)) ∧
    (∀ P n ops wild i t j u S w K, wpT P n ops wild (.two i t j u) S w K = (stepT P n ops wild i S w (fun S' w' => wpT P n ops wild t S' w' K) ops[i]? ∧ stepT P n ops wild j S w (fun S' w' => wpT P n ops wild u S' w' K) ops[j]?)) ∧
    (∀ P n ops wild i S w K dst op ty pos after, stepT P n ops wild i S w K (some ⟨dst, op, ty, pos, after, none⟩) = SemE P n S w ⟨dst, op, ty, pos, after, none⟩ (fun S' w' => (wild i = false → Grow w w') ∧ K S' w')) ∧
    (∀ P n ops wild i S w K dst op ty pos after j want, stepT P n ops wild i S w K (some ⟨dst, op, ty, pos, after, some (j, want)⟩) = gateH P n wild i dst op ty pos after j want S w K (gv1 ops[j]? S)) ∧
    (∀ P n wild i dst op ty pos after j want S w K, gateH P n wild i dst op ty pos after j want S w K (some (.raw undef)) = (okDst n dst ∧ K (S.put dst (.raw undef)) w)) ∧
    (∀ P n wild i dst op ty pos after j S w K, gateH P n wild i dst op ty pos after j true S w K (some (.bool true)) = SemE P n S w ⟨dst, op, ty, pos, after, some (j, true)⟩ (fun S' w' => (wild i = false → Grow w w') ∧ K S' w')) ∧
    (∀ P n wild i dst op ty pos after j S w K, gateH P n wild i dst op ty pos after j false S w K (some (.bool false)) = SemE P n S w ⟨dst, op, ty, pos, after, some (j, false)⟩ (fun S' w' => (wild i = false → Grow w w') ∧ K S' w')) ∧
    (∀ P n wild i dst op ty pos after j S w K, gateH P n wild i dst op ty pos after j true S w K (some (.bool false)) = (okDst n dst ∧ K (S.put dst (.raw undef)) w)) ∧
    (∀ P n wild i dst op ty pos after j S w K, gateH P n wild i dst op ty pos after j false S w K (some (.bool true)) = (okDst n dst ∧ K (S.put dst (.raw undef)) w)) := by
  (repeat' apply And.intro) <;> intros <;> first | rfl | (simp [gateH, gateE, gateB]; done)

theorem EWp.guard {n : Nat} {S : Env} {w : World} {Q : Exit → Env → World → Prop} {id : Nat} {x : Operand} {y : Code} {b : Bool} (hx : S.op x = some (.bool b)) (ht : b = true → EWp P n y S w Q) (hf : b = false → Q (.exit id) S w) :
    EWp P n (.seq (.cond x .skip (.exit id)) y) S w Q :=
  EWp.seq (EWp.cond hx (fun hb => EWp.skip (ht hb)) (fun hb => EWp.exit (hf hb)))

/-- A test at the end. -/
theorem EWp.brR {n : Nat} {S : Env} {w : World} {Q : Exit → Env → World → Prop} {id : Nat} {l : List Oper} {x : Operand} {s t : Code} (ks : List Nat)
    (h : ∀ K : Env → World → Prop, (∀ S w b, S.op x = some (.bool b) → (b = true → EWp P n s S w Q) → (b = false → EWp P n t S w Q) → K S w) → wpE P n l.toArray l S w (fun S' w' => K (S'.keep ks) w')) :
    EWp P n (.seq (.region id l.toArray false) (.cond x s t)) S w Q :=
  EWp.seq (EWp.region (wpE_mono (fun S' w' hk => EWp.keep ks hk) (h (fun S w => EWp P n (.cond x s t) S w Q) (fun S w b hx ht hf => EWp.cond hx ht hf))))

theorem Own.pos {e : TypeId} {sz n : Nat} {v : SV} {xs : List SV} {B : List Blk} (ho : Own e sz v n xs B) (hn : 0 < n) : ∃ b c, v = .sl (some ⟨b, 0, none⟩) n c ∧ n ≤ c := by
  obtain ⟨_, ⟨_, h0, _⟩ | ⟨b, c, rest, rfl, hc, _⟩⟩ := ho
  · omega
  · exact ⟨b, c, rfl, hc⟩

theorem Rd.at {w : World} {p : Addr} {vs : List SV} {j : Nat} {v : SV} (hr : Rd w (some p) vs) (h : vs[j]? = some v) : w.cell? (p.add j) = some v.val := by
  obtain ⟨q, hq, _, hc⟩ := hr j v h
  cases hq
  exact hc
end
end Go.Proofs.YtggbaffkjfofhaaDoor
