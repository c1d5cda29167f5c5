/- The rules by which a walk is reckoned, under one name. -/
import Derived.Test.YtggbaffkjfofhaaDoorMem
set_option linter.unusedVariables false
set_option linter.unusedSimpArgs false
namespace Go.Proofs.YtggbaffkjfofhaaDoor
open Go

theorem cst_u8 (z : Int) : cst (.int .u8 z) = if 0 ≤ z ∧ z < 256 then .u8 (BitVec.ofInt 8 z) else .raw (.int .u8 z) := rfl
theorem cst_u32 (z : Int) : cst (.int .u32 z) = if 0 ≤ z ∧ z < 4294967296 then .u32 (BitVec.ofInt 32 z) else .raw (.int .u32 z) := rfl
theorem cst_u64 (z : Int) : cst (.int .u64 z) = if 0 ≤ z ∧ z < 18446744073709551616 then .u64 (BitVec.ofInt 64 z) else .raw (.int .u64 z) := rfl
theorem cst_i64 (z : Int) : cst (.int .i64 z) = if 0 ≤ z then .nat z.toNat else .int z := rfl

/-- The value of a guard. -/
def gv1 : Option Oper → Env → Option SV
  | some ⟨some d, _, _, _, _, _⟩, S => S.get d
  | _, _ => none
theorem gv1_eq (o : Option Oper) (S : Env) : (o.bind (·.dst)).bind S.get = gv1 o S := by
  cases o with
  | none => rfl
  | some o => obtain ⟨d, op, ty, pos, after, g⟩ := o; cases d <;> rfl
def gateB (b want : Bool) (X Y : Prop) : Prop := (b = want → X) ∧ (b ≠ want → Y)
def gateE (want : Bool) (v : Option SV) (X Y : Prop) : Prop := match v with
  | some (.bool b) => gateB b want X Y
  | some (.raw (.tuple _)) => Y
  | _ => False
theorem gateB.mk {b want : Bool} {X Y : Prop} (h : b = want → X) (h' : b = (!want) → Y) : gateB b want X Y := ⟨h, fun hn => h' (by cases b <;> cases want <;> first | rfl | exact absurd rfl hn)⟩

theorem wpE_gate {P : Program} {n : Nat} {ops : Array Oper} {dst : Option Tmp} {op : Op} {ty : TypeId} {pos : String} {after : Array Edge} {j : Nat} {want : Bool} {rest : List Oper} {S : Env} {w : World} {K : Env → World → Prop} :
    wpE P n ops (⟨dst, op, ty, pos, after, some (j, want)⟩ :: rest) S w K =
      gateE want (gv1 ops[j]? S) (pureOr P n ops ⟨dst, op, ty, pos, after, some (j, want)⟩ rest S w K (pureOp P S ⟨dst, op, ty, pos, after, some (j, want)⟩)) (okDst n dst ∧ wpE P n ops rest (S.put dst (.raw undef)) w K) := by
  rw [wpE]
  show (match ((ops[j]?).bind (·.dst)).bind S.get with | some (.bool b) => _ | some (.raw (.tuple _)) => _ | _ => _) = _
  rw [gv1_eq]
  cases gv1 ops[j]? S with
  | none => rfl
  | some v =>
    cases v <;> first | rfl | (rename_i u; cases u <;> rfl)

theorem headO_gate {P : Program} {n : Nat} {ops : Array Oper} {wild : Nat → Bool} {i c : Nat} {σ : List (Nat × Nat)} {dst : Option Tmp} {op : Op} {ty : TypeId} {pos : String} {after : Array Edge} {j : Nat} {want : Bool} {S : Env} {w : World} {K : Env → World → Prop} :
    headO P n ops wild i c σ S w K (some ⟨dst, op, ty, pos, after, some (j, want)⟩) =
      gateE want (gv1 ops[j]? S) (pureOrO P n ops wild i c ⟨dst, op, ty, pos, after, some (j, want)⟩ σ S w K (pureOp P S ⟨dst, op, ty, pos, after, some (j, want)⟩)) (okDst n dst ∧ wpO P n ops wild σ (S.put dst (.raw undef)) w K) := by
  show (match ((ops[j]?).bind (·.dst)).bind S.get with | some (.bool b) => _ | some (.raw (.tuple _)) => _ | _ => _) = _
  rw [gv1_eq]
  cases gv1 ops[j]? S with
  | none => rfl
  | some v => cases v <;> first | rfl | (rename_i u; cases u <;> rfl)

/-- A guarded operation, before its guard is known. -/
def gateF (P : Program) (n : Nat) (ops : Array Oper) (dst : Option Tmp) (op : Op) (ty : TypeId) (pos : String) (after : Array Edge) (j : Nat) (want : Bool) (rest : List Oper) (S : Env) (w : World) (K : Env → World → Prop) (v : Option SV) : Prop :=
  gateE want v (pureOr P n ops ⟨dst, op, ty, pos, after, some (j, want)⟩ rest S w K (pureOp P S ⟨dst, op, ty, pos, after, some (j, want)⟩)) (okDst n dst ∧ wpE P n ops rest (S.put dst (.raw undef)) w K)
def gateG (P : Program) (n : Nat) (ops : Array Oper) (wild : Nat → Bool) (i c : Nat) (σ : List (Nat × Nat)) (dst : Option Tmp) (op : Op) (ty : TypeId) (pos : String) (after : Array Edge) (j : Nat) (want : Bool) (S : Env) (w : World) (K : Env → World → Prop) (v : Option SV) : Prop :=
  gateE want v (pureOrO P n ops wild i c ⟨dst, op, ty, pos, after, some (j, want)⟩ σ S w K (pureOp P S ⟨dst, op, ty, pos, after, some (j, want)⟩)) (okDst n dst ∧ wpO P n ops wild σ (S.put dst (.raw undef)) w K)

theorem ev :
    (∀ P n ops dst op ty pos after j want rest S w K, wpE P n ops (⟨dst, op, ty, pos, after, some (j, want)⟩ :: rest) S w K = gateF P n ops dst op ty pos after j want rest S w K (gv1 ops[j]? S)) ∧
    (∀ P n ops wild i c σ dst op ty pos after j want S w K, headO P n ops wild i c σ S w K (some ⟨dst, op, ty, pos, after, some (j, want)⟩) = gateG P n ops wild i c σ dst op ty pos after j want S w K (gv1 ops[j]? S)) ∧
    (∀ P n ops dst op ty pos after j rest S w K, gateF P n ops dst op ty pos after j true rest S w K (some (.bool true)) = pureOr P n ops ⟨dst, op, ty, pos, after, some (j, true)⟩ rest S w K (pureOp P S ⟨dst, op, ty, pos, after, some (j, true)⟩)) ∧
    (∀ P n ops dst op ty pos after j rest S w K, gateF P n ops dst op ty pos after j false rest S w K (some (.bool false)) = pureOr P n ops ⟨dst, op, ty, pos, after, some (j, false)⟩ rest S w K (pureOp P S ⟨dst, op, ty, pos, after, some (j, false)⟩)) ∧
    (∀ P n ops dst op ty pos after j rest S w K, gateF P n ops dst op ty pos after j true rest S w K (some (.bool false)) = (okDst n dst ∧ wpE P n ops rest (S.put dst (.raw undef)) w K)) ∧
    (∀ P n ops dst op ty pos after j rest S w K, gateF P n ops dst op ty pos after j false rest S w K (some (.bool true)) = (okDst n dst ∧ wpE P n ops rest (S.put dst (.raw undef)) w K)) ∧
    (∀ P n ops dst op ty pos after j want rest S w K, gateF P n ops dst op ty pos after j want rest S w K (some (.raw undef)) = (okDst n dst ∧ wpE P n ops rest (S.put dst (.raw undef)) w K)) ∧
    (∀ P n ops wild i c σ dst op ty pos after j want S w K, gateG P n ops wild i c σ dst op ty pos after j want S w K (some (.raw undef)) = (okDst n dst ∧ wpO P n ops wild σ (S.put dst (.raw undef)) w K)) ∧
    (∀ P n ops wild i c σ dst op ty pos after j S w K, gateG P n ops wild i c σ dst op ty pos after j true S w K (some (.bool true)) = pureOrO P n ops wild i c ⟨dst, op, ty, pos, after, some (j, true)⟩ σ S w K (pureOp P S ⟨dst, op, ty, pos, after, some (j, true)⟩)) ∧
    (∀ P n ops wild i c σ dst op ty pos after j S w K, gateG P n ops wild i c σ dst op ty pos after j false S w K (some (.bool false)) = pureOrO P n ops wild i c ⟨dst, op, ty, pos, after, some (j, false)⟩ σ S w K (pureOp P S ⟨dst, op, ty, pos, after, some (j, false)⟩)) ∧
    (∀ P n ops wild i c σ dst op ty pos after j S w K, gateG P n ops wild i c σ dst op ty pos after j true S w K (some (.bool false)) = (okDst n dst ∧ wpO P n ops wild σ (S.put dst (.raw undef)) w K)) ∧
    (∀ P n ops wild i c σ dst op ty pos after j S w K, gateG P n ops wild i c σ dst op ty pos after j false S w K (some (.bool true)) = (okDst n dst ∧ wpO P n ops wild σ (S.put dst (.raw undef)) w K)) ∧
    (∀ d op ty pos after g S, gv1 (some ⟨some d, op, ty, pos, after, g⟩) S = S.get d) ∧
    (∀ P n ops S w K, wpE P n ops [] S w K = K S w) ∧
    (∀ P n ops dst op ty pos after rest S w K, wpE P n ops (⟨dst, op, ty, pos, after, none⟩ :: rest) S w K = pureOr P n ops ⟨dst, op, ty, pos, after, none⟩ rest S w K (pureOp P S ⟨dst, op, ty, pos, after, none⟩)) ∧
    (∀ P n ops o rest S w K c v, pureOr P n ops o rest S w K (some (c, v)) = (okDst n o.dst ∧ c ∧ wpE P n ops rest (S.put o.dst v) w K)) ∧
    (∀ P n ops o rest S w K, pureOr P n ops o rest S w K none = Stop P n ops o rest S w K) ∧
    (∀ P n ops wild S w K, wpO P n ops wild [] S w K = K S w) ∧
    (∀ P n ops wild i c σ S w K, wpO P n ops wild ((i, c) :: σ) S w K = headO P n ops wild i c σ S w K ops[i]?) ∧
    (∀ P n ops wild i c σ S w K dst op ty pos after, headO P n ops wild i c σ S w K (some ⟨dst, op, ty, pos, after, none⟩) =
      pureOrO P n ops wild i c ⟨dst, op, ty, pos, after, none⟩ σ S w K (pureOp P S ⟨dst, op, ty, pos, after, none⟩)) ∧
    (∀ P n ops wild i c o σ S w K cd v, pureOrO P n ops wild i c o σ S w K (some (cd, v)) = (okDst n o.dst ∧ cd ∧ wpO P n ops wild σ (S.put o.dst v) w K)) ∧
    (∀ P n ops wild i o σ S w K, pureOrO P n ops wild i 1 o σ S w K none = StopR P n ops wild o σ S w K) ∧
    (∀ P n ops wild i o σ S w K, pureOrO P n ops wild i 2 o σ S w K none = StopW P n ops wild i o σ S w K) ∧
    (∀ (l : List Oper) (i : Nat), l.toArray[i]? = l[i]?) ∧
    (∀ (o : Oper) (l : List Oper), (o :: l)[0]? = some o) ∧
    (∀ (o : Oper) (l : List Oper) (i : Nat), (o :: l)[i + 1]? = l[i]?) ∧
    (∀ n d, okDst n (some d) = (d < n)) ∧
    (∀ n, okDst n none = True) ∧
    (∀ t, Env.get [] t = none) ∧
    (∀ k v S t, Env.get ((k, v) :: S) t = if k = t then some v else Env.get S t) ∧
    (∀ S d v, Env.put S (some d) v = (d, v) :: S) ∧
    (∀ S v, Env.put S none v = S) ∧
    (∀ S, Env.keep S [] = []) ∧
    (∀ p S k ks, Env.keep (p :: S) (k :: ks) = match Env.get (p :: S) k with | some v => (k, v) :: Env.keep (p :: S) ks | none => Env.keep (p :: S) ks) ∧
    (∀ k ks, Env.keep [] (k :: ks) = Env.keep [] ks) ∧
    (∀ S t, Env.op S (.tmp t) = S.get t) ∧
    (∀ S v, Env.op S (.const v) = some (cst v)) ∧
    (∀ S f, Env.op S (.func f) = some (.raw (.func (.func f) #[] #[]))) ∧
    (∀ S g, Env.op S (.global g) = some (.ptr ⟨g, 0, none⟩)) ∧
    (∀ k, argEnv k [] = []) ∧
    (∀ k v vs, argEnv k (v :: vs) = (k, v) :: argEnv (k + 1) vs) ∧
    (∀ z, cst (.int .u8 z) = if 0 ≤ z ∧ z < 256 then .u8 (BitVec.ofInt 8 z) else .raw (.int .u8 z)) ∧
    (∀ z, cst (.int .u32 z) = if 0 ≤ z ∧ z < 4294967296 then .u32 (BitVec.ofInt 32 z) else .raw (.int .u32 z)) ∧
    (∀ z, cst (.int .u64 z) = if 0 ≤ z ∧ z < 18446744073709551616 then .u64 (BitVec.ofInt 64 z) else .raw (.int .u64 z)) ∧
    (∀ z, cst (.int .i64 z) = if 0 ≤ z then .nat z.toNat else .int z) ∧
    (∀ b, cst (.bool b) = .bool b) ∧
    (∀ a n c, cst (.slice a n c) = .sl a n c) ∧
    (∀ a, cst (.pointer (some a)) = .ptr a) ∧
    (cst (.pointer none) = .raw (.pointer none)) ∧
    (∀ s, cst (.string s) = .raw (.string s)) ∧
    (cst .nilIface = .raw .nilIface) ∧
    (∀ P S d x ty p a g, pureOp P S ⟨d, .move x, ty, p, a, g⟩ = (S.op x).map fun v => (True, v)) ∧
    (∀ P S d x ty p a g, pureOp P S ⟨d, .assign x, ty, p, a, g⟩ = (S.op x).map fun v => (True, v)) ∧
    (∀ P S d x y z ty p a g, pureOp P S ⟨d, .pick x y z, ty, p, a, g⟩ = match S.op x, S.op y, S.op z with | some (.bool t), some x, some y => some (True, bif t then x else y) | _, _, _ => none) ∧
    (∀ P S d x ty p a g, pureOp P S ⟨d, .nilCheck x, ty, p, a, g⟩ = match S.op x with | some (.ptr a) => some (True, .ptr a) | _ => none) ∧
    (∀ P S d op t x y t' ty p a g, pureOp P S ⟨d, .binOp op t x y t', ty, p, a, g⟩ = match S.op x, S.op y with | some x, some y => binSV op x y | _, _ => none) ∧
    (∀ P S d op t x ty p a g, pureOp P S ⟨d, .unOp op t x, ty, p, a, g⟩ = match S.op x with | some x => unSV op x | _ => none) ∧
    (∀ P S d s t x ty p a g, pureOp P S ⟨d, .convert s t x, ty, p, a, g⟩ = match knownT P s, kindOf P t, S.op x with | true, some k, some x => convSV k x | _, _, _ => none) ∧
    (∀ P S d s x f ty p a g, pureOp P S ⟨d, .fieldAddr s x f, ty, p, a, g⟩ = match S.op x, fieldOff P s f with | some (.ptr a), some k => some (True, .ptr (a.add k)) | _, _ => none) ∧
    (∀ P S d t x ix ty p a g, pureOp P S ⟨d, .indexAddr t x ix, ty, p, a, g⟩ = match S.op x, S.op ix with
      | some X, some I => match idxSV I with
        | some (c, i) => match X with
          | .sl (some a) n _ => match slElem P t with
            | some k => some (c ∧ i < n, .ptr (a.add (i * k)))
            | none => none
          | .ptr a => match arrElem P t with
            | some (n, k) => some (c ∧ i < n, .ptr (a.add (i * k)))
            | none => none
          | _ => none
        | none => none
      | _, _ => none) ∧
    (∀ P S d t x lo hi ty p a g, pureOp P S ⟨d, .slice t x lo hi none, ty, p, a, g⟩ = match S.op x with
      | some (.sl a n c) => match slElem P t, bndSV S n hi, bndSV S 0 lo with
        | some k, some (ch, h), some (cl, l) => some (ch ∧ cl ∧ n ≤ c ∧ h ≤ c ∧ l ≤ h, sliceSV l h c a k)
        | _, _, _ => none
      | some (.ptr a) => match arrElem P t with
        | some (n, k) => match bndSV S n hi, bndSV S 0 lo with
          | some (ch, h), some (cl, l) => some (ch ∧ cl ∧ h ≤ n ∧ l ≤ h, sliceSV l h n (some a) k)
          | _, _ => none
        | none => none
      | _ => none) ∧
    (∀ P S d t ty p a g, pureOp P S ⟨d, .extract t 0, ty, p, a, g⟩ = match S.op t with | some (.tup2 x _) => some (True, x) | some (.tup3 x _ _) => some (True, x) | _ => none) ∧
    (∀ P S d t ty p a g, pureOp P S ⟨d, .extract t 1, ty, p, a, g⟩ = match S.op t with | some (.tup2 _ x) => some (True, x) | some (.tup3 _ x _) => some (True, x) | _ => none) ∧
    (∀ P S d t ty p a g, pureOp P S ⟨d, .extract t 2, ty, p, a, g⟩ = match S.op t with | some (.tup2 _ _) => none | some (.tup3 _ _ x) => some (True, x) | _ => none) ∧
    (∀ P S d x t ty p a g, pureOp P S ⟨d, .call ⟨.builtin .len, #[x], #[t]⟩, ty, p, a, g⟩ = match S.op x, slElem P t with | some (.sl _ n _), some _ => some (True, .nat n) | _, _ => none) ∧
    (∀ P S d f xs ts ty p a g, pureOp P S ⟨d, .call ⟨.value f, xs, ts⟩, ty, p, a, g⟩ = none) ∧
    (∀ P S d xs ts ty p a g, pureOp P S ⟨d, .call ⟨.builtin .append, xs, ts⟩, ty, p, a, g⟩ = none) ∧
    (∀ P S d xs ts ty p a g, pureOp P S ⟨d, .call ⟨.builtin .copy, xs, ts⟩, ty, p, a, g⟩ = none) ∧
    (∀ P S d xs ts ty p a g, pureOp P S ⟨d, .call ⟨.builtin .min, xs, ts⟩, ty, p, a, g⟩ = none) ∧
    (∀ P S d t x ty p a g, pureOp P S ⟨d, .load t x, ty, p, a, g⟩ = none) ∧
    (∀ P S d t x y ty p a g, pureOp P S ⟨d, .store t x y, ty, p, a, g⟩ = none) ∧
    (∀ P S d t ty p a g, pureOp P S ⟨d, .alloc t, ty, p, a, g⟩ = none) ∧
    (∀ P S d t x ty p a g, pureOp P S ⟨d, .box t x, ty, p, a, g⟩ = none) ∧
    (∀ P S d t m xs ty p a g, pureOp P S ⟨d, .buildSlice t m xs, ty, p, a, g⟩ = none) ∧
    (∀ P S d t x y ty p a g, pureOp P S ⟨d, .makeSlice t x y, ty, p, a, g⟩ = none) ∧
    (∀ P S d t x ty p a g, pureOp P S ⟨d, .sliceToArrayPointer t x, ty, p, a, g⟩ = none) ∧
    (∀ P S d t x y ty p a g, pureOp P S ⟨d, .index t x y, ty, p, a, g⟩ = none) ∧
    (∀ P S d t xs ty p a g, pureOp P S ⟨d, .build t xs, ty, p, a, g⟩ = none) ∧
    (∀ P S d t x f ty p a g, pureOp P S ⟨d, .field t x f, ty, p, a, g⟩ = none) ∧
    (∀ x y, binSV .add x y = arithSV .add x y) ∧ (∀ x y, binSV .sub x y = arithSV .sub x y) ∧ (∀ x y, binSV .mul x y = arithSV .mul x y) ∧
    (∀ x y, binSV .quo x y = arithSV .quo x y) ∧ (∀ x y, binSV .rem x y = arithSV .rem x y) ∧ (∀ x y, binSV .and x y = arithSV .and x y) ∧
    (∀ x y, binSV .or x y = arithSV .or x y) ∧ (∀ x y, binSV .xor x y = arithSV .xor x y) ∧ (∀ x y, binSV .andNot x y = arithSV .andNot x y) ∧
    (∀ x y, binSV .eql x y = arithSV .eql x y) ∧ (∀ x y, binSV .neq x y = arithSV .neq x y) ∧ (∀ x y, binSV .lss x y = arithSV .lss x y) ∧
    (∀ x y, binSV .leq x y = arithSV .leq x y) ∧ (∀ x y, binSV .gtr x y = arithSV .gtr x y) ∧ (∀ x y, binSV .geq x y = arithSV .geq x y) ∧
    (∀ x y, binSV .shl x y = match countSV y with | some (c, k) => shlSV c k x | none => none) ∧
    (∀ x y, binSV .shr x y = match countSV y with | some (c, k) => shrSV c k x | none => none) ∧
    (∀ op x y, arithSV op (.u8 x) (.u8 y) = wordOp .u8 op x y) ∧ (∀ op x y, arithSV op (.u32 x) (.u32 y) = wordOp .u32 op x y) ∧ (∀ op x y, arithSV op (.u64 x) (.u64 y) = wordOp .u64 op x y) ∧
    (∀ op m n, arithSV op (.nat m) (.nat n) = natOp op m n) ∧ (∀ op x y, arithSV op (.int x) (.int y) = intOp op x y) ∧
    (∀ op m y, arithSV op (.nat m) (.int y) = intOp op m y) ∧ (∀ op x n, arithSV op (.int x) (.nat n) = intOp op x n) ∧
    (∀ op v y, arithSV op (.raw v) y = none) ∧
    (∀ n mk x y, @wordOp n mk .add x y = some (True, mk (x + y))) ∧ (∀ n mk x y, @wordOp n mk .sub x y = some (True, mk (x - y))) ∧ (∀ n mk x y, @wordOp n mk .mul x y = some (True, mk (x * y))) ∧
    (∀ n mk x y, @wordOp n mk .and x y = some (True, mk (x &&& y))) ∧ (∀ n mk x y, @wordOp n mk .or x y = some (True, mk (x ||| y))) ∧ (∀ n mk x y, @wordOp n mk .xor x y = some (True, mk (x ^^^ y))) ∧
    (∀ n mk x y, @wordOp n mk .andNot x y = some (True, mk (x &&& ~~~y))) ∧ (∀ n mk x y, @wordOp n mk .eql x y = some (True, .bool (x == y))) ∧ (∀ n mk x y, @wordOp n mk .neq x y = some (True, .bool (x != y))) ∧
    (∀ n mk x y, @wordOp n mk .lss x y = some (True, .bool (decide (x.toNat < y.toNat)))) ∧ (∀ n mk x y, @wordOp n mk .leq x y = some (True, .bool (decide (x.toNat ≤ y.toNat)))) ∧
    (∀ n mk x y, @wordOp n mk .gtr x y = some (True, .bool (decide (y.toNat < x.toNat)))) ∧ (∀ n mk x y, @wordOp n mk .geq x y = some (True, .bool (decide (y.toNat ≤ x.toNat)))) ∧
    (∀ n mk x y, @wordOp n mk .rem x y = some (y.toNat ≠ 0, mk (x % y))) ∧ (∀ n mk x y, @wordOp n mk .quo x y = some (y.toNat ≠ 0, mk (x / y))) ∧
    (∀ m n, natOp .add m n = some (m + n < 9223372036854775808, .nat (m + n))) ∧ (∀ m n, natOp .sub m n = some (n ≤ m ∧ m < 9223372036854775808, .nat (m - n))) ∧
    (∀ m n, natOp .mul m n = some (m * n < 9223372036854775808, .nat (m * n))) ∧ (∀ m n, natOp .and m n = some (m < 9223372036854775808 ∧ n < 9223372036854775808, .nat (m &&& n))) ∧
    (∀ m n, natOp .eql m n = some (True, .bool (decide (m = n)))) ∧ (∀ m n, natOp .neq m n = some (True, .bool (decide (¬ m = n)))) ∧
    (∀ m n, natOp .lss m n = some (True, .bool (decide (m < n)))) ∧ (∀ m n, natOp .leq m n = some (True, .bool (decide (m ≤ n)))) ∧
    (∀ m n, natOp .gtr m n = some (True, .bool (decide (n < m)))) ∧ (∀ m n, natOp .geq m n = some (True, .bool (decide (n ≤ m)))) ∧
    (∀ m n, natOp .rem m n = some (n ≠ 0, .nat (m % n))) ∧ (∀ m n, natOp .quo m n = some (n ≠ 0 ∧ m < 9223372036854775808, .nat (m / n))) ∧
    (∀ m n, natOp .andNot m n = none) ∧
    (∀ x y, intOp .add x y = some (-9223372036854775808 ≤ x + y ∧ x + y < 9223372036854775808, .int (x + y))) ∧ (∀ x y, intOp .sub x y = some (-9223372036854775808 ≤ x - y ∧ x - y < 9223372036854775808, .int (x - y))) ∧
    (∀ x y, intOp .eql x y = some (True, .bool (decide (x = y)))) ∧ (∀ x y, intOp .neq x y = some (True, .bool (decide (¬ x = y)))) ∧
    (∀ x y, intOp .lss x y = some (True, .bool (decide (x < y)))) ∧ (∀ x y, intOp .leq x y = some (True, .bool (decide (x ≤ y)))) ∧
    (∀ x y, intOp .gtr x y = some (True, .bool (decide (y < x)))) ∧ (∀ x y, intOp .geq x y = some (True, .bool (decide (y ≤ x)))) ∧
    (∀ c, countSV (.u8 c) = some (True, c.toNat)) ∧ (∀ c, countSV (.u32 c) = some (True, c.toNat)) ∧ (∀ c, countSV (.u64 c) = some (True, c.toNat)) ∧ (∀ n, countSV (.nat n) = some (True, n)) ∧ (∀ z, countSV (.int z) = some (0 ≤ z, z.toNat)) ∧
    (∀ c k x, shlSV c k (.u8 x) = some (c, .u8 (x <<< k))) ∧ (∀ c k x, shlSV c k (.u32 x) = some (c, .u32 (x <<< k))) ∧ (∀ c k x, shlSV c k (.u64 x) = some (c, .u64 (x <<< k))) ∧
    (∀ c k x, shrSV c k (.u8 x) = some (c, .u8 (x >>> k))) ∧ (∀ c k x, shrSV c k (.u32 x) = some (c, .u32 (x >>> k))) ∧ (∀ c k x, shrSV c k (.u64 x) = some (c, .u64 (x >>> k))) ∧ (∀ c k x, shrSV c k (.i8 x) = some (c, .i8 (x.sshiftRight k))) ∧
    (∀ x, unSV .xor (.u8 x) = some (True, .u8 (~~~x))) ∧ (∀ x, unSV .xor (.u32 x) = some (True, .u32 (~~~x))) ∧ (∀ x, unSV .xor (.u64 x) = some (True, .u64 (~~~x))) ∧ (∀ b, unSV .not (.bool b) = some (True, .bool (!b))) ∧
    (∀ x, convSV .u8 (.u8 x) = some (True, .u8 x)) ∧ (∀ x, convSV .u8 (.u32 x) = some (True, .u8 (x.setWidth 8))) ∧ (∀ x, convSV .u8 (.u64 x) = some (True, .u8 (x.setWidth 8))) ∧ (∀ x, convSV .u8 (.i8 x) = some (True, .u8 x)) ∧
    (∀ n, convSV .u8 (.nat n) = some (True, .u8 (BitVec.ofNat 8 n))) ∧
    (∀ x, convSV .u32 (.u8 x) = some (True, .u32 (x.setWidth 32))) ∧ (∀ x, convSV .u32 (.u32 x) = some (True, .u32 x)) ∧ (∀ x, convSV .u32 (.u64 x) = some (True, .u32 (x.setWidth 32))) ∧ (∀ n, convSV .u32 (.nat n) = some (True, .u32 (BitVec.ofNat 32 n))) ∧
    (∀ x, convSV .u64 (.u8 x) = some (True, .u64 (x.setWidth 64))) ∧ (∀ x, convSV .u64 (.u32 x) = some (True, .u64 (x.setWidth 64))) ∧ (∀ x, convSV .u64 (.u64 x) = some (True, .u64 x)) ∧ (∀ n, convSV .u64 (.nat n) = some (True, .u64 (BitVec.ofNat 64 n))) ∧
    (∀ z, convSV .u64 (.int z) = some (True, .u64 (BitVec.ofInt 64 z))) ∧
    (∀ x, convSV .i64 (.u8 x) = some (True, .nat x.toNat)) ∧ (∀ x, convSV .i64 (.u32 x) = some (True, .nat x.toNat)) ∧ (∀ x, convSV .i64 (.u64 x) = some (x.toNat < 9223372036854775808, .nat x.toNat)) ∧ (∀ n, convSV .i64 (.nat n) = some (n < 9223372036854775808, .nat n)) ∧
    (∀ x, convSV .i8 (.u8 x) = some (True, .i8 x)) ∧
    (∀ n, idxSV (.nat n) = some (True, n)) ∧ (∀ x, idxSV (.u8 x) = some (True, x.toNat)) ∧ (∀ x, idxSV (.u32 x) = some (True, x.toNat)) ∧ (∀ x, idxSV (.u64 x) = some (True, x.toNat)) ∧ (∀ z, idxSV (.int z) = some (0 ≤ z, z.toNat)) ∧
    (∀ S d, bndSV S d none = some (True, d)) ∧ (∀ S d x, bndSV S d (some x) = match S.op x with | some y => idxSV y | none => none) ∧
    (∀ l h m a k, sliceSV l h m a k = .sl (if m = l then a else a.map (·.add (l * k))) (h - l) (m - l)) ∧
    (∀ (f : SV → Prop × SV) (v : SV), (some v).map f = some (f v)) ∧
    (∀ b o n, Addr.add ⟨b, o, none⟩ n = ⟨b, o + n, none⟩) ∧
    (∀ n : Nat, n * 1 = n) ∧ (∀ n : Nat, 0 + n = n) ∧ (∀ n : Nat, n + 0 = n) ∧ (∀ n : Nat, n - 0 = n) ∧ (∀ n : Nat, 0 * n = 0) ∧
    (∀ p, (True ∧ p) = p) ∧ (∀ p, (p ∧ True) = p) ∧
    (∀ x y : SV, (bif true then x else y) = x) ∧ (∀ x y : SV, (bif false then x else y) = y) := by
  (repeat' apply And.intro) <;> intros <;> first | rfl | exact wpE_plain | exact wpO_cons | exact wpE_gate | exact headO_gate | (simp [gateF, gateG, gateE, gateB]; done) | (rename_i b o n; exact Addr.add_lit b o n) | (simp; done)
end Go.Proofs.YtggbaffkjfofhaaDoor
