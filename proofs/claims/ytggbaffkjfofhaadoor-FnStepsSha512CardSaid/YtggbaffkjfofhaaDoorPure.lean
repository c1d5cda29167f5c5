/- What an operation on known slots gives, reckoned by a function, and that the model's run agrees in whatever world. -/
import Derived.Test.YtggbaffkjfofhaaDoorEnv
set_option linter.unusedVariables false
set_option linter.unusedSimpArgs false
namespace Go.Proofs.YtggbaffkjfofhaaDoor
open Go

/-! ### What the program's tables say, as plain functions -/
def slElem (P : Program) (t : TypeId) : Option Nat :=
  match P.underlying t with
  | some (.slice e) => (P.info? e).map (·.size)
  | _ => none
def arrElem (P : Program) (t : TypeId) : Option (Nat × Nat) :=
  match P.underlying t with
  | some (.array n e) => (P.info? e).map fun i => (n, i.size)
  | _ => none
def fieldOff (P : Program) (s f : Nat) : Option Nat :=
  match P.underlying s with
  | some (.struct fs) => match fs[f]? with
    | some fl => match P.info? fl.type with
      | some i => if i.size = 0 then none else some fl.offset
      | none => none
    | none => none
  | _ => none
def kindOf (P : Program) (t : TypeId) : Option IntKind :=
  match P.underlying t with
  | some (.int k) => some k
  | _ => none
def knownT (P : Program) (t : TypeId) : Bool := (P.underlying t).isSome

/-- An index, a bound of a slice. -/
def idxSV : SV → Option (Prop × Nat)
  | .nat n => some (True, n)
  | .u8 x => some (True, x.toNat)
  | .u32 x => some (True, x.toNat)
  | .u64 x => some (True, x.toNat)
  | .int z => some (0 ≤ z, z.toNat)
  | _ => none

theorem idxSV_val {y : SV} {c : Prop} {k : Nat} (h : idxSV y = some (c, k)) (hc : c) : ∃ yk, y.val = .int yk (k : Int) := by
  unfold idxSV at h
  split at h <;> simp only [Option.some.injEq, Prod.mk.injEq, reduceCtorEq] at h
  all_goals (obtain ⟨rfl, rfl⟩ := h)
  case h_5 => exact ⟨.i64, by simp only [SV.val]; rw [Int.toNat_of_nonneg hc]⟩
  all_goals exact ⟨_, rfl⟩

/-- A bound that is there or not. -/
def bndSV (S : Env) (d : Nat) : Option Operand → Option (Prop × Nat)
  | none => some (True, d)
  | some x => match S.op x with
    | some y => idxSV y
    | none => none

def sliceSV (lo h m : Nat) (a : Option Addr) (k : Nat) : SV := .sl (if m = lo then a else a.map (·.add (lo * k))) (h - lo) (m - lo)

def pureOp (P : Program) (S : Env) (o : Oper) : Option (Prop × SV) :=
  match o.op with
  | .move x => (S.op x).map fun v => (True, v)
  | .assign x => (S.op x).map fun v => (True, v)
  | .pick c a b => match S.op c, S.op a, S.op b with
    | some (.bool t), some x, some y => some (True, bif t then x else y)
    | _, _, _ => none
  | .nilCheck x => match S.op x with
    | some (.ptr a) => some (True, .ptr a)
    | _ => none
  | .binOp op _ x y _ => match S.op x, S.op y with
    | some x, some y => binSV op x y
    | _, _ => none
  | .unOp op _ x => match S.op x with
    | some x => unSV op x
    | _ => none
  | .convert src dst x => match knownT P src, kindOf P dst, S.op x with
    | true, some k, some x => convSV k x
    | _, _, _ => none
  | .fieldAddr s x f => match S.op x, fieldOff P s f with
    | some (.ptr a), some k => some (True, .ptr (a.add k))
    | _, _ => none
  | .indexAddr t x ix => match S.op x, S.op ix with
    | some X, some I => match idxSV I with
      | some (c, i) => match X with
        | .sl (some a) n _ => match slElem P t with
          | some k => some (c ∧ i < n, .ptr (a.add (i * k)))
          | none => none
        | .ptr a => match arrElem P t with
          | some (n, k) => some (c ∧ i < n, .ptr (a.add (i * k)))
          | none => none
        | _ => none
      | none => none
    | _, _ => none
  | .slice t x lo hi none => match S.op x with
    | some (.sl a n c) => match slElem P t, bndSV S n hi, bndSV S 0 lo with
      | some k, some (ch, h), some (cl, l) => some (ch ∧ cl ∧ n ≤ c ∧ h ≤ c ∧ l ≤ h, sliceSV l h c a k)
      | _, _, _ => none
    | some (.ptr a) => match arrElem P t with
      | some (n, k) => match bndSV S n hi, bndSV S 0 lo with
        | some (ch, h), some (cl, l) => some (ch ∧ cl ∧ h ≤ n ∧ l ≤ h, sliceSV l h n (some a) k)
        | _, _ => none
      | none => none
    | _ => none
  | .extract t i => match S.op t with
    | some (.tup2 x y) => match i with
      | 0 => some (True, x)
      | 1 => some (True, y)
      | _ => none
    | some (.tup3 x y z) => match i with
      | 0 => some (True, x)
      | 1 => some (True, y)
      | 2 => some (True, z)
      | _ => none
    | _ => none
  | .call c => match c.callee with
    | .builtin .len => match c.args.toList, c.argTypes.toList with
      | [x], [t] => match S.op x, slElem P t with
        | some (.sl _ n _), some _ => some (True, .nat n)
        | _, _ => none
      | _, _ => none
    | _ => none
  | _ => none

section
variable {P : Program} (w : World)

theorem run_underlying_known {t : TypeId} (h : knownT P t = true) : ∃ d, P.underlying t = some d ∧ (underlying t).run P w = .ok d w := by
  unfold knownT at h
  obtain ⟨d, hd⟩ := Option.isSome_iff_exists.1 h
  exact ⟨d, hd, run_underlying hd w⟩

theorem slElem_spec {t k : Nat} (h : slElem P t = some k) : ∃ e, P.underlying t = some (.slice e) ∧ ∀ w : World, (sizeOf e).run P w = .ok k w := by
  unfold slElem at h
  split at h
  · rename_i e hu
    cases hi : P.info? e with
    | none => rw [hi] at h; cases h
    | some i =>
      rw [hi] at h
      simp only [Option.map_some, Option.some.injEq] at h
      exact ⟨e, hu, fun w => by simp [sizeOf, typeInfo, hi, h]⟩
  · cases h

theorem arrElem_spec {t n k : Nat} (h : arrElem P t = some (n, k)) : ∃ e, P.underlying t = some (.array n e) ∧ ∀ w : World, (sizeOf e).run P w = .ok k w := by
  unfold arrElem at h
  split at h
  · rename_i m e hu
    cases hi : P.info? e with
    | none => rw [hi] at h; cases h
    | some i =>
      rw [hi] at h
      simp only [Option.map_some, Option.some.injEq, Prod.mk.injEq] at h
      obtain ⟨rfl, rfl⟩ := h
      exact ⟨e, hu, fun w => by simp [sizeOf, typeInfo, hi]⟩
  · cases h

theorem run_fieldAt {s f k : Nat} (h : fieldOff P s f = some k) (a : Addr) : (Instr.fieldAt s (.pointer (some a)) f).run P w = .ok (.pointer (some (a.add k))) w := by
  unfold fieldOff at h
  split at h
  · rename_i fs hu
    cases hf : fs[f]? with
    | none => rw [hf] at h; cases h
    | some fl =>
      rw [hf] at h
      simp only at h
      cases hi : P.info? fl.type with
      | none => rw [hi] at h; cases h
      | some i =>
        rw [hi] at h
        simp only at h
        split at h
        · cases h
        · rename_i hz
          obtain rfl := Option.some.inj h
          simp [Instr.fieldAt, run_underlying hu, hf, Instr.sureAddr, fieldPlace, sizeOf, typeInfo, hi, hz]
  · cases h

theorem run_sliceBound {y : Value} {yk : IntKind} {i b : Nat} (hy : y = .int yk (i : Int)) (hb : i ≤ b) (code : BoundsCode) : (Instr.sliceBound y b code).run P w = .ok i w := by
  subst hy
  have h1 : (0 : Int) ≤ (i : Int) ∧ (i : Int) ≤ (b : Int) := by omega
  simp [Instr.sliceBound, asIntOf, h1]

theorem Env.bnd_val {n : Nat} {S : Env} {a : Act} (h : Holds n S a) {d : Nat} {x : Option Operand} {c : Prop} {k : Nat} (hb : bndSV S d x = some (c, k)) (hc : c) :
    (x = none ∧ k = d) ∨ ∃ y yk, x = some y ∧ a.eval y = .int yk (k : Int) := by
  unfold bndSV at hb
  split at hb
  · simp only [Option.some.injEq, Prod.mk.injEq] at hb; exact .inl ⟨rfl, hb.2.symm⟩
  · rename_i y
    cases hy : S.op y with
    | none => rw [hy] at hb; cases hb
    | some v =>
      rw [hy] at hb
      simp only at hb
      obtain ⟨yk, he⟩ := idxSV_val hb hc
      exact .inr ⟨y, yk, rfl, by rw [h.eval hy, he]⟩

theorem run_sliceBounds {n : Nat} {S : Env} {a : Act} (hS : Holds n S a) (isSlice : Bool) (len cap : Nat) {lo hi : Option Operand} {cl ch : Prop} {l h : Nat}
    (hlo : bndSV S 0 lo = some (cl, l)) (hcl : cl) (hhi : bndSV S len hi = some (ch, h)) (hch : ch) (h1 : h ≤ cap) (h2 : l ≤ h) :
    (Instr.sliceBounds isSlice len cap (lo.map a.eval) (hi.map a.eval) none).run P w = .ok (l, h, cap) w := by
  rcases Env.bnd_val hS hlo hcl with ⟨rfl, rfl⟩ | ⟨y, yk, rfl, hy⟩ <;> rcases Env.bnd_val hS hhi hch with ⟨rfl, rfl⟩ | ⟨z, zk, rfl, hz⟩
  · simp [Instr.sliceBounds]
  · simp [Instr.sliceBounds, hz, run_sliceBound w rfl h1]
  · simp [Instr.sliceBounds, hy, run_sliceBound w rfl h2]
  · simp [Instr.sliceBounds, hy, hz, run_sliceBound w rfl h1, run_sliceBound w rfl h2]

theorem run_indexAt_sl {t k n c i : Nat} {a : Addr} {ik : IntKind} (hk : slElem P t = some k) (hi : i < n) :
    (Instr.indexAt t (.slice (some a) n c) (.int ik (i : Int))).run P w = .ok (.pointer (some (a.add (i * k)))) w := by
  obtain ⟨e, hu, hz⟩ := slElem_spec hk
  have h1 : (0 : Int) ≤ (i : Int) ∧ (i : Int) < (n : Int) := by omega
  simp [Instr.indexAt, asIntOf, run_underlying hu, hi, hz]

theorem run_indexAt_arr {t k n i : Nat} {a : Addr} {ik : IntKind} (hk : arrElem P t = some (n, k)) (hi : i < n) :
    (Instr.indexAt t (.pointer (some a)) (.int ik (i : Int))).run P w = .ok (.pointer (some (a.add (i * k)))) w := by
  obtain ⟨e, hu, hz⟩ := arrElem_spec hk
  have h1 : (0 : Int) ≤ (i : Int) ∧ (i : Int) < (n : Int) := by omega
  simp [Instr.indexAt, asIntOf, run_underlying hu, Instr.sureAddr, hi, hz]

theorem pureOp_sound {n : Nat} {S : Env} {o : Oper} {a : Act} {c : Prop} {v : SV} (hS : Holds n S a) (h : pureOp P S o = some (c, v)) (hc : c) :
    (execOp a.eval o).run P w = .ok (.value v.val) w := by
  obtain ⟨dst, op, type, pos, after, guard⟩ := o
  cases op <;> simp only [pureOp, reduceCtorEq] at h
  case move x =>
    cases hx : S.op x with
    | none => rw [hx] at h; cases h
    | some u =>
      rw [hx] at h
      simp only [Option.map_some, Option.some.injEq, Prod.mk.injEq] at h
      simp [execOp, hS.eval hx, h.2]
  case assign x =>
    cases hx : S.op x with
    | none => rw [hx] at h; cases h
    | some u =>
      rw [hx] at h
      simp only [Option.map_some, Option.some.injEq, Prod.mk.injEq] at h
      simp [execOp, hS.eval hx, h.2]
  case pick x y z =>
    split at h
    · rename_i t u r hx hy hz
      simp only [Option.some.injEq, Prod.mk.injEq] at h
      obtain ⟨rfl, rfl⟩ := h
      simp only [execOp, hS.eval hx, hS.eval hy, hS.eval hz, SV.val]
      cases t <;> simp [asBool]
    · cases h
  case nilCheck x =>
    split at h
    · rename_i b hx
      simp only [Option.some.injEq, Prod.mk.injEq] at h
      obtain ⟨rfl, rfl⟩ := h
      simp [execOp, hS.eval hx, SV.val]
    · cases h
  case binOp bop t x y t' =>
    split at h
    · rename_i u r hx hy
      have hb := run_binSV (P := P) w h hc t
      simp only [execOp, hS.eval hx, hS.eval hy]
      have hg : (eqGuard bop t x y u.val r.val).run P w = .ok () w := by
        cases bop
        case eql =>
          have ha : arithSV .eql u r = some (c, v) := h
          unfold arithSV at ha
          split at ha
          case h_8 => cases ha
          all_goals rfl
        case neq =>
          have ha : arithSV .neq u r = some (c, v) := h
          unfold arithSV at ha
          split at ha
          case h_8 => cases ha
          all_goals rfl
        all_goals rfl
      simp [hg, hb]
    · cases h
  case unOp uop t x =>
    split at h
    · rename_i u hx
      have hb := run_unSV (P := P) w h
      simp [execOp, hS.eval hx, hb]
    · cases h
  case convert src dst' x =>
    split at h
    · rename_i k u hs hk hx
      obtain ⟨d, hd, hrd⟩ := run_underlying_known (P := P) w hs
      have hu : P.underlying dst' = some (.int k) := by
        unfold kindOf at hk
        split at hk
        · rename_i k' hk'; simp only [Option.some.injEq] at hk; rw [hk', hk]
        · cases hk
      obtain ⟨xk, z, he, hv⟩ := run_convSV h hc
      simp [execOp, hS.eval hx, convert, hrd, run_underlying hu, he, hv, Conv.intToInt]
    · cases h
  case fieldAddr s x f =>
    split at h
    · rename_i b k hx hk
      simp only [Option.some.injEq, Prod.mk.injEq] at h
      obtain ⟨rfl, rfl⟩ := h
      simp [execOp, hS.eval hx, SV.val, run_fieldAt w hk]
    · cases h
  case indexAddr t x ix =>
    split at h
    · rename_i X I hx hix
      split at h
      · rename_i ci i hi
        split at h
        · rename_i b m m'
          cases hk : slElem P t with
          | none => rw [hk] at h; cases h
          | some k =>
            rw [hk] at h
            simp only [Option.some.injEq, Prod.mk.injEq] at h
            obtain ⟨rfl, rfl⟩ := h
            obtain ⟨ik, he⟩ := idxSV_val hi hc.1
            simp [execOp, hS.eval hx, hS.eval hix, he, SV.val, run_indexAt_sl w hk hc.2]
        · rename_i b
          cases hk : arrElem P t with
          | none => rw [hk] at h; cases h
          | some mk =>
            obtain ⟨m, k⟩ := mk
            rw [hk] at h
            simp only [Option.some.injEq, Prod.mk.injEq] at h
            obtain ⟨rfl, rfl⟩ := h
            obtain ⟨ik, he⟩ := idxSV_val hi hc.1
            simp [execOp, hS.eval hx, hS.eval hix, he, SV.val, run_indexAt_arr w hk hc.2]
        · cases h
      · cases h
    · cases h
  case slice t x lo hi mx =>
    cases mx with
    | some _ => simp only [reduceCtorEq] at h
    | none =>
      simp only at h
      split at h
      · rename_i b m m' hx
        split at h
        · rename_i k ch hh cl l hk hhi hlo
          simp only [Option.some.injEq, Prod.mk.injEq] at h
          obtain ⟨rfl, rfl⟩ := h
          obtain ⟨e, hu, hz⟩ := slElem_spec hk
          have hb := run_sliceBounds (P := P) w hS true m m' hlo hc.2.1 hhi hc.1 hc.2.2.2.1 hc.2.2.2.2
          simp [execOp, hS.eval hx, SV.val, Instr.sliceAt, run_underlying hu, Instr.slice, hb, hz, sliceSV]
        · cases h
      · rename_i b hx
        split at h
        · rename_i m k hk
          split at h
          · rename_i ch hh cl l hhi hlo
            simp only [Option.some.injEq, Prod.mk.injEq] at h
            obtain ⟨rfl, rfl⟩ := h
            obtain ⟨e, hu, hz⟩ := arrElem_spec hk
            have hb := run_sliceBounds (P := P) w hS false m m hlo hc.2.1 hhi hc.1 hc.2.2.1 hc.2.2.2
            simp [execOp, hS.eval hx, SV.val, Instr.sliceAt, run_underlying hu, Instr.sureAddr, hb, hz, sliceSV]
            split <;> rfl
          · cases h
        · cases h
      · cases h
  case extract t i =>
    split at h
    · rename_i x y hx
      split at h
      · simp only [Option.some.injEq, Prod.mk.injEq] at h
        simp [execOp, hS.eval hx, SV.val, Instr.extract, h.2]
      · simp only [Option.some.injEq, Prod.mk.injEq] at h
        simp [execOp, hS.eval hx, SV.val, Instr.extract, h.2]
      · cases h
    · rename_i x y z hx
      split at h
      · simp only [Option.some.injEq, Prod.mk.injEq] at h
        simp [execOp, hS.eval hx, SV.val, Instr.extract, h.2]
      · simp only [Option.some.injEq, Prod.mk.injEq] at h
        simp [execOp, hS.eval hx, SV.val, Instr.extract, h.2]
      · simp only [Option.some.injEq, Prod.mk.injEq] at h
        simp [execOp, hS.eval hx, SV.val, Instr.extract, h.2]
      · cases h
    · cases h
  case call k =>
    obtain ⟨callee, args, argTypes⟩ := k
    simp only at h
    split at h
    · split at h
      · rename_i x t hargs htys
        split at h
        · rename_i m m' b hx hk
          simp only [Option.some.injEq, Prod.mk.injEq] at h
          obtain ⟨rfl, rfl⟩ := h
          obtain ⟨e, hu, hz⟩ := slElem_spec hk
          have ha : args = #[x] := by rw [← hargs]
          have hty : argTypes = #[t] := by rw [← htys]
          subst ha hty
          simp [execOp, resolve, invoke, builtin, hS.eval hx, SV.val, Builtin.len_, run_underlying hu, goInt]
        · cases h
      · cases h
    · cases h
end
end Go.Proofs.YtggbaffkjfofhaaDoor
