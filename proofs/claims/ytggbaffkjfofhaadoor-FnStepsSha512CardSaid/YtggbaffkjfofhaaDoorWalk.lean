/- The walk: codes, loops, regions in the text's order and regions whose order Go leaves open, over the slots that are known. -/
import Derived.Test.YtggbaffkjfofhaaDoorPure
import Derived.Test.YtggbaffkjfofhaaDoorOrder
import Derived.Deep.LoopGhost
set_option linter.unusedVariables false
set_option linter.unusedSimpArgs false
namespace Go.Proofs.YtggbaffkjfofhaaDoor
open Go

section
variable {P : Program}

/-- One operation that is no plain reckoning. -/
def SemE (P : Program) (n : Nat) (S : Env) (w : World) (o : Oper) (K : Env → World → Prop) : Prop :=
  ∀ a, Holds n S a → runsX P o (fun a' w' => ∃ S', Holds n S' a' ∧ K S' w') a ((execOp a.eval o).run P w)

/-- A region in the text's order. -/
def wpE (P : Program) (n : Nat) (ops : Array Oper) : List Oper → Env → World → (Env → World → Prop) → Prop
  | [], S, w, K => K S w
  | o :: rest, S, w, K =>
    match o.guard with
    | none => match pureOp P S o with
      | some (c, v) => okDst n o.dst ∧ c ∧ wpE P n ops rest (S.put o.dst v) w K
      | none => SemE P n S w o (fun S' w' => wpE P n ops rest S' w' K)
    | some (j, want) => match ((ops[j]?).bind (·.dst)).bind S.get with
      | some (.bool b) =>
        (b = want → match pureOp P S o with
          | some (c, v) => okDst n o.dst ∧ c ∧ wpE P n ops rest (S.put o.dst v) w K
          | none => SemE P n S w o (fun S' w' => wpE P n ops rest S' w' K)) ∧
        (b ≠ want → okDst n o.dst ∧ wpE P n ops rest (S.put o.dst (.raw undef)) w K)
      | some (.raw (.tuple _)) => okDst n o.dst ∧ wpE P n ops rest (S.put o.dst (.raw undef)) w K
      | _ => False

/-- Where the walk stands at an operation that is no plain reckoning. -/
def Stop (P : Program) (n : Nat) (ops : Array Oper) (o : Oper) (rest : List Oper) (S : Env) (w : World) (K : Env → World → Prop) : Prop :=
  SemE P n S w o (fun S' w' => wpE P n ops rest S' w' K)

/-- One step of the walk: reckoned, or stopped. -/
def pureOr (P : Program) (n : Nat) (ops : Array Oper) (o : Oper) (rest : List Oper) (S : Env) (w : World) (K : Env → World → Prop) : Option (Prop × SV) → Prop
  | some (c, v) => okDst n o.dst ∧ c ∧ wpE P n ops rest (S.put o.dst v) w K
  | none => Stop P n ops o rest S w K

theorem wpE_nil {P : Program} {n : Nat} {ops : Array Oper} {S : Env} {w : World} {K : Env → World → Prop} : wpE P n ops [] S w K = K S w := rfl
theorem wpE_plain {P : Program} {n : Nat} {ops : Array Oper} {dst : Option Tmp} {op : Op} {ty : TypeId} {pos : String} {after : Array Edge} {rest : List Oper} {S : Env} {w : World} {K : Env → World → Prop} :
    wpE P n ops (⟨dst, op, ty, pos, after, none⟩ :: rest) S w K = pureOr P n ops ⟨dst, op, ty, pos, after, none⟩ rest S w K (pureOp P S ⟨dst, op, ty, pos, after, none⟩) := by
  rw [wpE]
  show (match pureOp P S ⟨dst, op, ty, pos, after, none⟩ with | some (c, v) => _ | none => _) = _
  cases pureOp P S ⟨dst, op, ty, pos, after, none⟩ <;> rfl
theorem wpE_yes {P : Program} {n : Nat} {ops : Array Oper} {dst : Option Tmp} {op : Op} {ty : TypeId} {pos : String} {after : Array Edge} {j : Nat} {want : Bool} {rest : List Oper} {S : Env} {w : World} {K : Env → World → Prop}
    (h : ((ops[j]?).bind (·.dst)).bind S.get = some (.bool want)) (hk : pureOr P n ops ⟨dst, op, ty, pos, after, some (j, want)⟩ rest S w K (pureOp P S ⟨dst, op, ty, pos, after, some (j, want)⟩)) :
    wpE P n ops (⟨dst, op, ty, pos, after, some (j, want)⟩ :: rest) S w K := by
  rw [wpE]
  show (match ((ops[j]?).bind (·.dst)).bind S.get with | some (.bool b) => _ | some (.raw (.tuple _)) => _ | _ => _)
  rw [h]
  refine ⟨fun _ => ?_, fun h => absurd rfl h⟩
  cases hp : pureOp P S ⟨dst, op, ty, pos, after, some (j, want)⟩ <;> (rw [hp] at hk; exact hk)
theorem wpE_no {P : Program} {n : Nat} {ops : Array Oper} {dst : Option Tmp} {op : Op} {ty : TypeId} {pos : String} {after : Array Edge} {j : Nat} {want : Bool} {rest : List Oper} {S : Env} {w : World} {K : Env → World → Prop}
    (h : ((ops[j]?).bind (·.dst)).bind S.get = some (.bool (!want))) (hk : okDst n dst ∧ wpE P n ops rest (S.put dst (.raw undef)) w K) :
    wpE P n ops (⟨dst, op, ty, pos, after, some (j, want)⟩ :: rest) S w K := by
  rw [wpE]
  show (match ((ops[j]?).bind (·.dst)).bind S.get with | some (.bool b) => _ | some (.raw (.tuple _)) => _ | _ => _)
  rw [h]
  exact ⟨fun h => absurd h (by cases want <;> decide), fun _ => hk⟩

theorem yielded_of {n : Nat} {S : Env} {a : Act} (h : Holds n S a) {ops : Array Oper} {j : Nat} {b : Bool} (hb : ((ops[j]?).bind (·.dst)).bind S.get = some (.bool b)) :
    yielded ops a.tmps j = some b := by
  unfold yielded
  cases hd : (ops[j]?).bind (·.dst) with
  | none => rw [hd] at hb; cases hb
  | some d =>
    rw [hd] at hb
    simp only [Option.bind_some] at hb ⊢
    rw [h.slots d _ hb]
    rfl

theorem yielded_none {n : Nat} {S : Env} {a : Act} (h : Holds n S a) {ops : Array Oper} {j : Nat} {xs : Array Value} (hb : ((ops[j]?).bind (·.dst)).bind S.get = some (.raw (.tuple xs))) :
    yielded ops a.tmps j = none := by
  unfold yielded
  cases hd : (ops[j]?).bind (·.dst) with
  | none => rw [hd] at hb; cases hb
  | some d =>
    rw [hd] at hb
    simp only [Option.bind_some] at hb ⊢
    rw [h.slots d _ hb]
    rfl

theorem runsX_wp {o : Oper} {a : Act} {w : World} {K : Act → World → Prop} {Q : Exit → Act → World → Prop} (h : runsX P o K a ((execOp a.eval o).run P w)) : o.wp P a w K Q := by
  unfold Oper.wp
  generalize (execOp a.eval o).run P w = r at *
  cases r with
  | ok n w' =>
    cases n <;> simp only [runsX] at h <;> simp only [Oper.upon]
    case value u => exact h
    case skip => exact h
    case enter f args => exact Calls.mono h fun e w'' ⟨v, he, hk⟩ => by subst he; exact hk
  | halt x w' => simp only [runsX] at h

theorem wpE_sound {n : Nat} {ops : Array Oper} {Q : Exit → Act → World → Prop} : ∀ {l : List Oper} {S : Env} {w : World} {K : Env → World → Prop} {a : Act},
    wpE P n ops l S w K → Holds n S a → (∀ S' w' a', Holds n S' a' → K S' w' → Q .normal a' w') → wpList P ops Q l a w
  | [], S, w, K, a, h, hS, hK => hK S w a hS h
  | o :: rest, S, w, K, a, h, hS, hK => by
    have stepP : ∀ {c : Prop} {v : SV}, pureOp P S o = some (c, v) → (okDst n o.dst ∧ c ∧ wpE P n ops rest (S.put o.dst v) w K) → o.wp P a w (wpList P ops Q rest) Q := by
      intro c v hp ⟨hd, hc, hr⟩
      refine runsX_wp ?_
      rw [pureOp_sound w hS hp hc]
      exact wpE_sound hr (hS.put _ _ hd) hK
    have stepS : SemE P n S w o (fun S' w' => wpE P n ops rest S' w' K) → o.wp P a w (wpList P ops Q rest) Q := fun hs =>
      runsX_wp (runsX_mono (fun a' w' ⟨S', h1, h2⟩ => wpE_sound h2 h1 hK) (hs a hS))
    unfold wpList
    rw [wpE] at h
    split at h
    · rename_i hg
      rw [if_pos (by simp [Region.wanted, hg])]
      refine .inl ?_
      split at h
      · rename_i c v hp; exact stepP hp h
      · exact stepS h
    · rename_i j want hg
      split at h
      · rename_i b hb
        have hy := yielded_of hS hb
        by_cases he : b = want
        · have hw : Region.wanted o (yielded ops a.tmps) = true := by simp [Region.wanted, hg, hy, he]
          rw [if_pos hw]
          refine .inl ?_
          have h1 := h.1 he
          split at h1
          · rename_i c v hp; exact stepP hp h1
          · exact stepS h1
        · have hw : Region.wanted o (yielded ops a.tmps) = false := by simp [Region.wanted, hg, hy, he]
          rw [if_neg (by rw [hw]; decide)]
          have h2 := h.2 he
          exact wpE_sound h2.2 (hS.put _ (.raw undef) h2.1) hK
      · rename_i xs hb
        have hy := yielded_none hS hb
        have hw : Region.wanted o (yielded ops a.tmps) = false := by simp [Region.wanted, hg, hy]
        rw [if_neg (by rw [hw]; decide)]
        exact wpE_sound h.2 (hS.put _ (.raw undef) h.1) hK
      · exact h.elim

theorem SemE.mono {n : Nat} {S : Env} {w : World} {o : Oper} {K K' : Env → World → Prop} (h : ∀ S w, K S w → K' S w) (hs : SemE P n S w o K) : SemE P n S w o K' := fun a ha =>
  runsX_mono (fun a' w' ⟨S', h1, h2⟩ => ⟨S', h1, h _ _ h2⟩) (hs a ha)

theorem wpE_mono {n : Nat} {ops : Array Oper} : ∀ {l : List Oper} {S : Env} {w : World} {K K' : Env → World → Prop}, (∀ S w, K S w → K' S w) → wpE P n ops l S w K → wpE P n ops l S w K'
  | [], S, w, K, K', hK, h => hK S w h
  | o :: rest, S, w, K, K', hK, h => by
    rw [wpE] at h ⊢
    split at h
    · split at h
      · exact ⟨h.1, h.2.1, wpE_mono hK h.2.2⟩
      · exact SemE.mono (fun S w => wpE_mono hK) h
    · split at h
      · refine ⟨fun he => ?_, fun he => ⟨(h.2 he).1, wpE_mono hK (h.2 he).2⟩⟩
        have h1 := h.1 he
        split at h1
        · exact ⟨h1.1, h1.2.1, wpE_mono hK h1.2.2⟩
        · exact SemE.mono (fun S w => wpE_mono hK) h1
      · exact ⟨h.1, wpE_mono hK h.2⟩
      · exact h.elim

/-! ### Codes -/

/-- A code, over the slots that are known. -/
def EWp (P : Program) (n : Nat) (c : Code) (S : Env) (w : World) (Q : Exit → Env → World → Prop) : Prop :=
  ∀ a, Holds n S a → c.wp P (fun e a' w' => ∃ S', Holds n S' a' ∧ Q e S' w') a w

variable {n : Nat} {S : Env} {w : World} {Q : Exit → Env → World → Prop}

theorem EWp.keep (ks : List Nat) {c : Code} (h : EWp P n c (S.keep ks) w Q) : EWp P n c S w Q := fun a ha => h a (ha.keep ks)

def ThenE (K : Env → World → Prop) (Q : Exit → Env → World → Prop) : Exit → Env → World → Prop
  | .normal, S, w => K S w
  | e, S, w => Q e S w

theorem EWp.seq {x y : Code} (h : EWp P n x S w (ThenE (fun S' w' => EWp P n y S' w' Q) Q)) : EWp P n (.seq x y) S w Q := fun a ha =>
  wp_seq (Code.wp_mono (fun e a' w' ⟨S', h1, h2⟩ => by
    cases e
    case normal => exact h2 a' h1
    all_goals exact ⟨S', h1, h2⟩) (h a ha))

theorem EWp.skip (h : Q .normal S w) : EWp P n .skip S w Q := fun _ ha => wp_skip ⟨S, ha, h⟩
theorem EWp.ret (h : Q .ret S w) : EWp P n .ret S w Q := fun _ ha => wp_ret ⟨S, ha, h⟩
theorem EWp.exit {id : Nat} (h : Q (.exit id) S w) : EWp P n (.exit id) S w Q := fun _ ha => wp_exit ⟨S, ha, h⟩

def BlockE (id : Nat) (Q : Exit → Env → World → Prop) : Exit → Env → World → Prop
  | .exit id', S, w => if id' = id then Q .normal S w else Q (.exit id') S w
  | e, S, w => Q e S w

theorem EWp.block {id : Nat} {c : Code} (h : EWp P n c S w (BlockE id Q)) : EWp P n (.block id c) S w Q := fun a ha =>
  wp_block (Code.wp_mono (fun e a' w' ⟨S', h1, h2⟩ => by
    cases e
    case exit id' =>
      simp only [BlockE] at h2
      simp only [Exit.inBlock]
      split
      · rename_i he; rw [if_pos he] at h2; exact ⟨S', h1, h2⟩
      · rename_i he; rw [if_neg he] at h2; exact ⟨S', h1, h2⟩
    all_goals exact ⟨S', h1, h2⟩) (h a ha))

theorem EWp.cond {x : Operand} {b : Bool} {s t : Code} (hx : S.op x = some (.bool b)) (ht : b = true → EWp P n s S w Q) (hf : b = false → EWp P n t S w Q) : EWp P n (.cond x s t) S w Q :=
  fun a ha => wp_cond (t := b) (ha.eval hx) (by
    cases b
    · exact hf rfl a ha
    · exact ht rfl a ha)

/-- A loop: what holds at the head of each round, with a number that goes down. -/
theorem EWp.loop {c : Code} (ks : List Nat) (I : Nat → Env → World → Prop) (k0 : Nat) (h0 : I k0 (S.keep ks) w)
    (round : ∀ k S w, I k S w → EWp P n c S w (ThenE (fun S' w' => ∃ k', k' < k ∧ I k' (S'.keep ks) w') Q)) : EWp P n (.loop c) S w Q := fun a ha => by
  refine wp_loop_ghost (fun k a' w' => ∃ S, Holds n S a' ∧ I k S w') k0 ⟨_, ha.keep ks, h0⟩ ?_
  intro k a' w' ⟨S1, hS1, hI1⟩
  refine Code.wp_mono ?_ (round k S1 w' hI1 a' hS1)
  intro e a2 w2 ⟨S2, hS2, hq⟩
  cases e
  case normal =>
    obtain ⟨k', hlt, hI2⟩ := hq
    exact ⟨k', hlt, _, hS2.keep ks, hI2⟩
  all_goals exact ⟨S2, hS2, hq⟩

theorem EWp.region {id : Nat} {l : List Oper} (h : wpE P n l.toArray l S w (Q .normal)) : EWp P n (.region id l.toArray false) S w Q := fun _ ha =>
  wp_region_lit (wpE_sound h ha (fun S' _ _ h1 h2 => ⟨S', h1, h2⟩))

/-- A region with what stands behind it out of sight, and the slots that are kept. -/
theorem EWp.seqR {id : Nat} {l : List Oper} {y : Code} (ks : List Nat) (h : ∀ K : Env → World → Prop, (∀ S w, EWp P n y S w Q → K S w) → wpE P n l.toArray l S w (fun S' w' => K (S'.keep ks) w')) :
    EWp P n (.seq (.region id l.toArray false) y) S w Q :=
  EWp.seq (EWp.region (h (fun S' w' => ∀ S, S.keep ks = S' → EWp P n y S w' Q) (fun S' w' hy S1 hk => EWp.keep ks (by rw [hk]; exact hy)) |> fun hh => wpE_mono (fun S' w' hk => hk S' rfl) hh))
theorem EWp.regR {id : Nat} {l : List Oper} (ks : List Nat) (h : ∀ K : Env → World → Prop, (∀ S w, (∀ S1, S1.keep ks = S → Q .normal S1 w) → K S w) → wpE P n l.toArray l S w (fun S' w' => K (S'.keep ks) w')) :
    EWp P n (.region id l.toArray false) S w Q :=
  EWp.region (wpE_mono (fun S' w' hk => hk S' rfl) (h (fun S' w' => ∀ S, S.keep ks = S' → Q .normal S w') (fun S' w' hy S1 hk => hy S1 hk)))

/-- The head of a loop: go on, or leave. -/
theorem EWp.headR {id id' : Nat} {l : List Oper} {x : Operand} {y : Code} (ks : List Nat)
    (h : ∀ K : Env → World → Prop, (∀ S w b, S.op x = some (.bool b) → (b = true → EWp P n y S w Q) → (b = false → Q (.exit id') S w) → K S w) → wpE P n l.toArray l S w (fun S' w' => K (S'.keep ks) w')) :
    EWp P n (.seq (.seq (.region id l.toArray false) (.cond x .skip (.exit id'))) y) S w Q :=
  EWp.seq (EWp.seq (EWp.region (wpE_mono (fun S' w' hk => EWp.keep ks hk)
    (h (fun S w => EWp P n (.cond x .skip (.exit id')) S w (ThenE (fun S' w' => EWp P n y S' w' Q) Q)) (fun S w b hx ht hf => EWp.cond hx (fun hb => EWp.skip (ht hb)) (fun hb => EWp.exit (hf hb)))))))

/-- A test: either way goes on behind it. -/
theorem EWp.ifR {id : Nat} {l : List Oper} {x : Operand} {s t y : Code} (ks : List Nat)
    (h : ∀ K : Env → World → Prop, (∀ S w b, S.op x = some (.bool b) → (b = true → EWp P n s S w (ThenE (fun S' w' => EWp P n y S' w' Q) Q)) →
      (b = false → EWp P n t S w (ThenE (fun S' w' => EWp P n y S' w' Q) Q)) → K S w) → wpE P n l.toArray l S w (fun S' w' => K (S'.keep ks) w')) :
    EWp P n (.seq (.seq (.region id l.toArray false) (.cond x s t)) y) S w Q :=
  EWp.seq (EWp.seq (EWp.region (wpE_mono (fun S' w' hk => EWp.keep ks hk)
    (h (fun S w => EWp P n (.cond x s t) S w (ThenE (fun S' w' => EWp P n y S' w' Q) Q)) (fun S w b hx ht hf => EWp.cond hx ht hf)))))

/-- The last region of a branch. -/
theorem EWp.thenR {id : Nat} {l : List Oper} {y : Code} {Q' : Exit → Env → World → Prop} (ks : List Nat) (h : ∀ K : Env → World → Prop, (∀ S w, EWp P n y S w Q → K S w) → wpE P n l.toArray l S w (fun S' w' => K (S'.keep ks) w')) :
    EWp P n (.region id l.toArray false) S w (ThenE (fun S' w' => EWp P n y S' w' Q) Q') :=
  EWp.region (wpE_mono (fun S' w' hk => EWp.keep ks hk) (h (fun S w => EWp P n y S w Q) (fun _ _ h => h)))

theorem EWp.skipThen {y : Code} {Q' : Exit → Env → World → Prop} (h : EWp P n y S w Q) : EWp P n .skip S w (ThenE (fun S' w' => EWp P n y S' w' Q) Q') := EWp.skip h

/-- What holds between two codes. -/
theorem EWp.cut {x y : Code} (ks : List Nat) (J : Env → World → Prop) (h : EWp P n x S w (ThenE (fun S' w' => J (S'.keep ks) w') Q)) (h' : ∀ S w, J S w → EWp P n y S w Q) : EWp P n (.seq x y) S w Q :=
  EWp.seq (fun a ha => Code.wp_mono (fun e a' w' ⟨S', h1, h2⟩ => by
    cases e
    case normal => exact ⟨_, h1.keep ks, h' _ _ h2⟩
    all_goals exact ⟨S', h1, h2⟩) (h a ha))

/-- The last region of a round. -/
theorem EWp.lastR {id : Nat} {l : List Oper} (ks : List Nat) {k : Nat} {I : Nat → Env → World → Prop} (h : ∀ K : Env → World → Prop, (∀ S w, (∃ k', k' < k ∧ I k' S w) → K S w) → wpE P n l.toArray l S w (fun S' w' => K (S'.keep ks) w')) :
    EWp P n (.region id l.toArray false) S w (ThenE (fun S' w' => ∃ k', k' < k ∧ I k' (S'.keep ks) w') Q) :=
  EWp.region (h _ (fun _ _ h => h))

/-! ### A region whose order Go leaves open -/

/-- In every world that keeps what stands, the operation leaves v and nothing else. -/
def Quiet (P : Program) (n : Nat) (S : Env) (w : World) (o : Oper) (v : SV) : Prop :=
  ∀ a, Holds n S a → ∀ w', Grow w w' → ((execOp a.eval o).run P w' = .ok (.value v.val) w' ∨
    ∃ f args, (execOp a.eval o).run P w' = .ok (.enter f args) w' ∧ Calls P f args w' (fun e w'' => e = .returned v.val ∧ w'' = w'))

/-- An operation in that order: by its class. -/
def stepO (P : Program) (n : Nat) (wild : Nat → Bool) (i c : Nat) (o : Oper) (S : Env) (w : World) (K : Env → World → Prop) : Prop :=
  match pureOp P S o with
  | some (cd, v) => okDst n o.dst ∧ cd ∧ K (S.put o.dst v) w
  | none => match c with
    | 1 => ∃ v, Quiet P n S w o v ∧ okDst n o.dst ∧ K (S.put o.dst v) w
    | 2 => SemE P n S w o (fun S' w' => (wild i = false → Grow w w') ∧ K S' w')
    | _ => False

def wpO (P : Program) (n : Nat) (ops : Array Oper) (wild : Nat → Bool) : List (Nat × Nat) → Env → World → (Env → World → Prop) → Prop
  | [], S, w, K => K S w
  | (i, c) :: σ, S, w, K => match ops[i]? with
    | none => False
    | some o => match o.guard with
      | none => stepO P n wild i c o S w (fun S' w' => wpO P n ops wild σ S' w' K)
      | some (j, want) => match ((ops[j]?).bind (·.dst)).bind S.get with
        | some (.bool b) =>
          (b = want → stepO P n wild i c o S w (fun S' w' => wpO P n ops wild σ S' w' K)) ∧
          (b ≠ want → okDst n o.dst ∧ wpO P n ops wild σ (S.put o.dst (.raw undef)) w K)
        | some (.raw (.tuple _)) => okDst n o.dst ∧ wpO P n ops wild σ (S.put o.dst (.raw undef)) w K
        | _ => False

/-- Where such a walk stands: at a reading (class 1), at a step (class 2). -/
def StopR (P : Program) (n : Nat) (ops : Array Oper) (wild : Nat → Bool) (o : Oper) (σ : List (Nat × Nat)) (S : Env) (w : World) (K : Env → World → Prop) : Prop :=
  ∃ v, Quiet P n S w o v ∧ okDst n o.dst ∧ wpO P n ops wild σ (S.put o.dst v) w K
def StopW (P : Program) (n : Nat) (ops : Array Oper) (wild : Nat → Bool) (i : Nat) (o : Oper) (σ : List (Nat × Nat)) (S : Env) (w : World) (K : Env → World → Prop) : Prop :=
  SemE P n S w o (fun S' w' => (wild i = false → Grow w w') ∧ wpO P n ops wild σ S' w' K)

def pureOrO (P : Program) (n : Nat) (ops : Array Oper) (wild : Nat → Bool) (i c : Nat) (o : Oper) (σ : List (Nat × Nat)) (S : Env) (w : World) (K : Env → World → Prop) : Option (Prop × SV) → Prop
  | some (cd, v) => okDst n o.dst ∧ cd ∧ wpO P n ops wild σ (S.put o.dst v) w K
  | none => match c with
    | 1 => StopR P n ops wild o σ S w K
    | 2 => StopW P n ops wild i o σ S w K
    | _ => False

def headO (P : Program) (n : Nat) (ops : Array Oper) (wild : Nat → Bool) (i c : Nat) (σ : List (Nat × Nat)) (S : Env) (w : World) (K : Env → World → Prop) : Option Oper → Prop
  | some ⟨dst, op, ty, pos, after, none⟩ => pureOrO P n ops wild i c ⟨dst, op, ty, pos, after, none⟩ σ S w K (pureOp P S ⟨dst, op, ty, pos, after, none⟩)
  | some ⟨dst, op, ty, pos, after, some (j, want)⟩ => match ((ops[j]?).bind (·.dst)).bind S.get with
    | some (.bool b) => (b = want → pureOrO P n ops wild i c ⟨dst, op, ty, pos, after, some (j, want)⟩ σ S w K (pureOp P S ⟨dst, op, ty, pos, after, some (j, want)⟩)) ∧
      (b ≠ want → okDst n dst ∧ wpO P n ops wild σ (S.put dst (.raw undef)) w K)
    | some (.raw (.tuple _)) => okDst n dst ∧ wpO P n ops wild σ (S.put dst (.raw undef)) w K
    | _ => False
  | none => False

theorem wpO_nil {ops : Array Oper} {wild : Nat → Bool} {K : Env → World → Prop} : wpO P n ops wild [] S w K = K S w := rfl

theorem stepO_eq {ops : Array Oper} {wild : Nat → Bool} {i c : Nat} {o : Oper} {σ : List (Nat × Nat)} {K : Env → World → Prop} :
    stepO P n wild i c o S w (fun S' w' => wpO P n ops wild σ S' w' K) = pureOrO P n ops wild i c o σ S w K (pureOp P S o) := by
  unfold stepO
  cases pureOp P S o <;> rfl

theorem wpO_cons {ops : Array Oper} {wild : Nat → Bool} {i c : Nat} {σ : List (Nat × Nat)} {K : Env → World → Prop} :
    wpO P n ops wild ((i, c) :: σ) S w K = headO P n ops wild i c σ S w K ops[i]? := by
  rw [wpO]
  cases ops[i]? with
  | none => rfl
  | some o =>
    obtain ⟨dst, op, ty, pos, after, guard⟩ := o
    cases guard with
    | none => exact stepO_eq
    | some g =>
      obtain ⟨j, want⟩ := g
      simp only [headO, stepO_eq]

theorem wpO_sound {ops : Array Oper} {wild : Nat → Bool} {Q' : Act → World → Prop} : ∀ {σ : List (Nat × Nat)} {S : Env} {w : World} {K : Env → World → Prop} {a : Act}, (∀ p ∈ σ, p.2 ≤ 2) →
    wpO P n ops wild σ S w K → Holds n S a → (∀ S' w' a', Holds n S' a' → K S' w' → Q' a' w') → walkX P ops wild Q' σ a w
  | [], S, w, K, a, _, h, hS, hK => hK S w a hS h
  | (i, c) :: σ, S, w, K, a, hσ, h, hS, hK => by
    have hσ' : ∀ p ∈ σ, p.2 ≤ 2 := fun p hp => hσ p (List.mem_cons_of_mem _ hp)
    have hc2 : c ≤ 2 := hσ (i, c) (List.mem_cons_self)
    rw [wpO] at h
    split at h
    · exact h.elim
    · rename_i o ho
      have pass : ∀ {v : SV} {w' : World}, okDst n o.dst → wpO P n ops wild σ (S.put o.dst v) w' K → walkX P ops wild Q' σ (a.put o.dst v.val) w' := fun hd hk =>
        wpO_sound hσ' hk (hS.put _ _ hd) hK
      have main : Region.wanted o (yielded ops a.tmps) = true → stepO P n wild i c o S w (fun S' w' => wpO P n ops wild σ S' w' K) → walkX P ops wild Q' ((i, c) :: σ) a w := by
        intro hw hs
        unfold stepO at hs
        split at hs
        · rename_i cd v hp
          obtain ⟨hd, hcd, hk⟩ := hs
          have hy : ∀ D : World → Prop, YieldsD P ops D o v.val a := fun D => .inl ⟨hw, fun w' _ => .inl (pureOp_sound w' hS hp hcd)⟩
          match c, hc2 with
          | 0, _ => exact ⟨o, v.val, ho, hy _, pass hd hk⟩
          | 1, _ => exact ⟨o, v.val, ho, hy _, pass hd hk⟩
          | 2, _ => exact (hy (fun _ => True)).stepX ho trivial ⟨fun _ => Grow.refl _, pass hd hk⟩
        · split at hs
          · obtain ⟨v, hq, hd, hk⟩ := hs
            exact ⟨o, v.val, ho, .inl ⟨hw, fun w' hg => hq a hS w' hg⟩, pass hd hk⟩
          · show stepX P ops i _ a w
            unfold stepX
            simp only [ho, hw, if_true]
            exact runsX_mono (fun a' w' ⟨S', h1, h2, h3⟩ => ⟨h2, wpO_sound hσ' h3 h1 hK⟩) (hs a hS)
          · exact hs.elim
      split at h
      · rename_i hg
        exact main (by simp [Region.wanted, hg]) h
      · rename_i j want hg
        split at h
        · rename_i b hb
          have hy := yielded_of hS hb
          by_cases he : b = want
          · exact main (by simp [Region.wanted, hg, hy, he]) (h.1 he)
          · have hw : Region.wanted o (yielded ops a.tmps) = false := by simp [Region.wanted, hg, hy, he]
            have h2 := h.2 he
            have hy : ∀ D : World → Prop, YieldsD P ops D o undef a := fun D => .inr ⟨hw, rfl⟩
            have hp : walkX P ops wild Q' σ (a.put o.dst undef) w := pass (v := .raw undef) h2.1 h2.2
            match c, hc2 with
            | 0, _ => exact ⟨o, undef, ho, hy _, hp⟩
            | 1, _ => exact ⟨o, undef, ho, hy _, hp⟩
            | 2, _ => exact (hy (fun _ => True)).stepX ho trivial ⟨fun _ => Grow.refl _, hp⟩
        · rename_i xs hb
          have hy := yielded_none hS hb
          have hw : Region.wanted o (yielded ops a.tmps) = false := by simp [Region.wanted, hg, hy]
          have hy : ∀ D : World → Prop, YieldsD P ops D o undef a := fun D => .inr ⟨hw, rfl⟩
          have hp : walkX P ops wild Q' σ (a.put o.dst undef) w := pass (v := .raw undef) h.1 h.2
          match c, hc2 with
          | 0, _ => exact ⟨o, undef, ho, hy _, hp⟩
          | 1, _ => exact ⟨o, undef, ho, hy _, hp⟩
          | 2, _ => exact (hy (fun _ => True)).stepX ho trivial ⟨fun _ => Grow.refl _, hp⟩
        · exact h.elim

theorem EWp.order {id : Nat} {l : List Oper} (wild : Nat → Bool) (σ : List (Nat × Nat)) (hm : P.follows .mixedOrders = true)
    (hB : (σ.all (fun p => decide (p.2 ≤ 2)) && (Region.noSelect l.toArray && decide (σ.length = l.length) && orderB .any l.toArray wild σ (Array.replicate l.length false))) = true)
    (h : wpO P n l.toArray wild σ S w.drew (Q .normal)) : EWp P n (.region id l.toArray true) S w Q := fun _ ha => by
  rw [Bool.and_eq_true] at hB
  refine wp_region_order wild σ hm hB.2 (wpO_sound (fun p hp => by simpa using List.all_eq_true.1 hB.1 p hp) h ha (fun S' _ _ h1 h2 => ⟨S', h1, h2⟩))

theorem wpO_mono {ops : Array Oper} {wild : Nat → Bool} : ∀ {σ : List (Nat × Nat)} {S : Env} {w : World} {K K' : Env → World → Prop}, (∀ S w, K S w → K' S w) → wpO P n ops wild σ S w K → wpO P n ops wild σ S w K'
  | [], S, w, K, K', hK, h => hK S w h
  | (i, c) :: σ, S, w, K, K', hK, h => by
    have hstep : ∀ {o : Oper}, stepO P n wild i c o S w (fun S' w' => wpO P n ops wild σ S' w' K) → stepO P n wild i c o S w (fun S' w' => wpO P n ops wild σ S' w' K') := by
      intro o hs
      unfold stepO at hs ⊢
      split at hs
      · exact ⟨hs.1, hs.2.1, wpO_mono hK hs.2.2⟩
      · split at hs
        · obtain ⟨v, h1, h2, h3⟩ := hs; exact ⟨v, h1, h2, wpO_mono hK h3⟩
        · exact SemE.mono (fun S w hh => ⟨hh.1, wpO_mono hK hh.2⟩) hs
        · exact hs
    rw [wpO] at h ⊢
    split at h
    · exact h.elim
    · split at h
      · exact hstep h
      · split at h
        · exact ⟨fun he => hstep (h.1 he), fun he => ⟨(h.2 he).1, wpO_mono hK (h.2 he).2⟩⟩
        · exact ⟨h.1, wpO_mono hK h.2⟩
        · exact h.elim

theorem EWp.seqO {id : Nat} {l : List Oper} {y : Code} (wild : Nat → Bool) (σ : List (Nat × Nat)) (ks : List Nat) (hm : P.follows .mixedOrders = true)
    (hB : (σ.all (fun p => decide (p.2 ≤ 2)) && (Region.noSelect l.toArray && decide (σ.length = l.length) && orderB .any l.toArray wild σ (Array.replicate l.length false))) = true)
    (h : ∀ K : Env → World → Prop, (∀ S w, EWp P n y S w Q → K S w) → wpO P n l.toArray wild σ S w.drew (fun S' w' => K (S'.keep ks) w')) : EWp P n (.seq (.region id l.toArray true) y) S w Q :=
  EWp.seq (EWp.order wild σ hm hB (wpO_mono (fun S' w' hk => hk S' rfl) (h (fun S' w' => ∀ S, S.keep ks = S' → EWp P n y S w' Q) (fun S' w' hy S1 hk => EWp.keep ks (by rw [hk]; exact hy)))))
theorem EWp.regO {id : Nat} {l : List Oper} (wild : Nat → Bool) (σ : List (Nat × Nat)) (ks : List Nat) (hm : P.follows .mixedOrders = true)
    (hB : (σ.all (fun p => decide (p.2 ≤ 2)) && (Region.noSelect l.toArray && decide (σ.length = l.length) && orderB .any l.toArray wild σ (Array.replicate l.length false))) = true)
    (h : ∀ K : Env → World → Prop, (∀ S w, (∀ S1, S1.keep ks = S → Q .normal S1 w) → K S w) → wpO P n l.toArray wild σ S w.drew (fun S' w' => K (S'.keep ks) w')) : EWp P n (.region id l.toArray true) S w Q :=
  EWp.order wild σ hm hB (wpO_mono (fun S' w' hk => hk S' rfl) (h (fun S' w' => ∀ S, S.keep ks = S' → Q .normal S w') (fun S' w' hy S1 hk => hy S1 hk)))

/-! ### A call -/

def BodyE (P : Program) (n : Nat) (fn : Func) (R : Ending → World → Prop) : Exit → Env → World → Prop
  | .normal, S, w => ∀ a, Holds n S a → ∃ v, (results fn a.tmps).run P w = .ok v w ∧ R (.returned v) w
  | .ret, S, w => ∀ a, Holds n S a → ∃ v, (results fn a.tmps).run P w = .ok v w ∧ R (.returned v) w
  | _, _, _ => False

def argEnv : Nat → List SV → Env
  | _, [] => []
  | k, v :: vs => (k, v) :: argEnv (k + 1) vs

theorem argEnv_get : ∀ (vs : List SV) (k t : Nat) (v : SV), (argEnv k vs).get t = some v → ∃ j, t = k + j ∧ vs[j]? = some v
  | [], k, t, v, h => by simp [argEnv, Env.get] at h
  | u :: vs, k, t, v, h => by
    simp only [argEnv, Env.get] at h
    by_cases he : k = t
    · rw [if_pos he] at h
      exact ⟨0, by omega, by simpa using h⟩
    · rw [if_neg he] at h
      obtain ⟨j, hj, hv⟩ := argEnv_get vs (k + 1) t v h
      exact ⟨j + 1, by omega, by simpa using hv⟩

theorem calls_E {f : FuncId} {fn : Func} {c : Code} {n : Nat} {R : Ending → World → Prop} (args : List SV) (hf : P.funcs[f]? = some fn) (hb : fn.body = some c) (hn : fn.ntmps = n) (hl : decide (args.length ≤ n) = true)
    (h : EWp P n c (argEnv 0 args) w (BodyE P n fn R)) : Calls P f (args.map SV.val).toArray w R := by
  subst hn
  have hl := of_decide_eq_true hl
  refine calls_of_wp hf hb (Code.wp_mono ?_ (h _ ⟨rfl, by simp; omega, ?_⟩))
  · intro e a' w' ⟨S', h1, h2⟩
    cases e
    case normal => obtain ⟨v, h3, h4⟩ := h2 a' h1; exact ⟨h1.defers, v, h3, h4⟩
    case ret => obtain ⟨v, h3, h4⟩ := h2 a' h1; exact ⟨h1.defers, v, h3, h4⟩
    all_goals exact h2.elim
  · intro t v ht
    obtain ⟨j, hj, hv⟩ := argEnv_get args 0 t v ht
    have hlt : j < args.length := (List.getElem?_eq_some_iff.1 hv).1
    have : t = j := by omega
    subst this
    rw [Array.getElem?_append_left (by simpa using hlt)]
    simp [hv]

theorem BodyE.tmp1 {fn : Func} {R : Ending → World → Prop} {t : Nat} {v : SV} (hr : fn.results = #[.tmp t]) (hv : S.get t = some v) (h : R (.returned v.val) w) : BodyE P n fn R .ret S w :=
  fun a ha => ⟨v.val, by rw [results_tmp hr]; simp [ha.slots t v hv], h⟩
theorem BodyE.tmp2 {fn : Func} {R : Ending → World → Prop} {t t' : Nat} {v v' : SV} (hr : fn.results = #[.tmp t, .tmp t']) (hv : S.get t = some v) (hv' : S.get t' = some v')
    (h : R (.returned (SV.tup2 v v').val) w) : BodyE P n fn R .ret S w :=
  fun a ha => ⟨_, by rw [results_tmp2 hr]; simp [ha.slots t v hv, ha.slots t' v' hv']; rfl, h⟩
theorem BodyE.none {fn : Func} {R : Ending → World → Prop} (hr : fn.results = #[]) (h : R (.returned (.tuple #[])) w) : BodyE P n fn R .ret S w :=
  fun a _ => ⟨_, by rw [results_none hr], h⟩
theorem BodyE.none' {fn : Func} {R : Ending → World → Prop} (hr : fn.results = #[]) (h : R (.returned (.tuple #[])) w) : BodyE P n fn R .normal S w :=
  fun a _ => ⟨_, by rw [results_none hr], h⟩

/-! ### What a program's tables say of a store, a load, a call -/
def plain1 (P : Program) (t : TypeId) : Bool :=
  (match P.underlying t with
    | some (.struct _) => false
    | some (.array _ _) => false
    | some _ => true
    | none => false) &&
  (match P.info? t with
    | some i => i.size == 1
    | none => false)

def plainFn (P : Program) (f : FuncId) : Bool :=
  match P.funcs[f]? with
  | some fn => !(fn.name == "runtime.NumGoroutine") && fn.body.isSome
  | none => false
end
end Go.Proofs.YtggbaffkjfofhaaDoor
