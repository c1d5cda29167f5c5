/- A small calculus for walks: the slots of a frame that are known, each as a word, a number, an address or a slice; what an operation on such values gives; and that the model's run agrees. Nothing of one program stands here. -/
import Derived.WalkKit
import Derived.Orders
set_option linter.unusedVariables false
set_option linter.unusedSimpArgs false
namespace Go.Proofs.YtggbaffkjfofhaaDoor
open Go

/-- A value as the proofs speak of it. -/
inductive SV where
  | u8 (x : BitVec 8)
  | u32 (x : BitVec 32)
  | u64 (x : BitVec 64)
  | i8 (x : BitVec 8)
  | nat (n : Nat)
  | int (z : Int)
  | bool (b : Bool)
  | ptr (a : Addr)
  | sl (a : Option Addr) (n c : Nat)
  | tup2 (x y : SV)
  | tup3 (x y z : SV)
  | raw (v : Value)

def SV.val : SV → Value
  | .u8 x => .int .u8 x.toNat
  | .u32 x => .int .u32 x.toNat
  | .u64 x => .int .u64 x.toNat
  | .i8 x => .int .i8 x.toInt
  | .nat n => .int .i64 n
  | .int z => .int .i64 z
  | .bool b => .bool b
  | .ptr a => .pointer (some a)
  | .sl a n c => .slice a n c
  | .tup2 x y => .tuple #[x.val, y.val]
  | .tup3 x y z => .tuple #[x.val, y.val, z.val]
  | .raw v => v

/-- The slots that are known. -/
abbrev Env := List (Nat × SV)

def Env.get : Env → Nat → Option SV
  | [], _ => none
  | (k, v) :: S, t => if k = t then some v else Env.get S t

def Env.put (S : Env) : Option Nat → SV → Env
  | some d, v => (d, v) :: S
  | none, _ => S

/-- A constant of the text. -/
def cst : Value → SV
  | .int .u8 z => if 0 ≤ z ∧ z < 256 then .u8 (BitVec.ofInt 8 z) else .raw (.int .u8 z)
  | .int .u32 z => if 0 ≤ z ∧ z < 4294967296 then .u32 (BitVec.ofInt 32 z) else .raw (.int .u32 z)
  | .int .u64 z => if 0 ≤ z ∧ z < 18446744073709551616 then .u64 (BitVec.ofInt 64 z) else .raw (.int .u64 z)
  | .int .i64 z => if 0 ≤ z then .nat z.toNat else .int z
  | .bool b => .bool b
  | .slice a n c => .sl a n c
  | .pointer (some a) => .ptr a
  | v => .raw v

theorem toNat_ofInt {n : Nat} {z : Int} (h0 : 0 ≤ z) (h1 : z < 2 ^ n) : ((BitVec.ofInt n z).toNat : Int) = z := by
  have h2 : z.toNat < 2 ^ n := by
    have : ((z.toNat : Nat) : Int) < ((2 ^ n : Nat) : Int) := by rw [Int.toNat_of_nonneg h0]; simpa using h1
    exact Int.ofNat_lt.1 this
  rw [BitVec.toNat_ofInt]
  have h3 : z % ((2 ^ n : Nat) : Int) = z := Int.emod_eq_of_lt h0 (by simpa using h1)
  rw [h3, Int.toNat_of_nonneg h0]

theorem cst_val (v : Value) : (cst v).val = v := by
  unfold cst
  split
  · split
    · rename_i h; simp only [SV.val]; rw [toNat_ofInt h.1 (by simpa using h.2)]
    · rfl
  · split
    · rename_i h; simp only [SV.val]; rw [toNat_ofInt h.1 (by simpa using h.2)]
    · rfl
  · split
    · rename_i h; simp only [SV.val]; rw [toNat_ofInt h.1 (by simpa using h.2)]
    · rfl
  · split
    · rename_i h; simp only [SV.val]; rw [Int.toNat_of_nonneg h]
    · rfl
  all_goals rfl

def Env.op (S : Env) : Operand → Option SV
  | .tmp t => S.get t
  | .const v => some (cst v)
  | .global g => some (.ptr ⟨g, 0, none⟩)
  | .func f => some (.raw (.func (.func f) #[] #[]))

/-- The frame holds what the list says. -/
structure Holds (n : Nat) (S : Env) (a : Act) : Prop where
  defers : a.defers = []
  size : a.tmps.size = n
  slots : ∀ t v, S.get t = some v → a.tmps[t]? = some v.val

theorem Holds.eval {n : Nat} {S : Env} {a : Act} (h : Holds n S a) {x : Operand} {v : SV} (hx : S.op x = some v) : a.eval x = v.val := by
  cases x with
  | tmp t => simp only [Env.op] at hx; simp [Act.eval, h.slots t v hx]
  | const u => simp only [Env.op, Option.some.injEq] at hx; subst hx; simp [Act.eval, cst_val]
  | global g => simp only [Env.op, Option.some.injEq] at hx; subst hx; rfl
  | func f => simp only [Env.op, Option.some.injEq] at hx; subst hx; rfl

def okDst (n : Nat) : Option Nat → Prop
  | some d => d < n
  | none => True

theorem Holds.put {n : Nat} {S : Env} {a : Act} (h : Holds n S a) (d : Option Nat) (v : SV) (hd : okDst n d) : Holds n (S.put d v) (a.put d v.val) := by
  cases d with
  | none => exact h
  | some d =>
    refine ⟨h.defers, by simp [Act.put, h.size], fun t u ht => ?_⟩
    have hd' : d < n := hd
    simp only [Env.put, Env.get] at ht
    simp only [Act.put, Array.getElem?_setIfInBounds]
    by_cases hk : d = t
    · subst hk
      simp only [if_true, Option.some.injEq] at ht
      subst ht
      simp [h.size, hd']
    · rw [if_neg hk] at ht
      rw [if_neg hk]
      exact h.slots t u ht

/-- Of the known slots these alone. -/
def Env.keep (S : Env) : List Nat → Env
  | [] => []
  | k :: ks => match S.get k with
    | some v => (k, v) :: Env.keep S ks
    | none => Env.keep S ks

theorem Env.keep_get (S : Env) (t : Nat) (v : SV) : ∀ ks, (S.keep ks).get t = some v → S.get t = some v
  | [], h => by simp [Env.keep, Env.get] at h
  | k :: ks, h => by
    simp only [Env.keep] at h
    cases hk : S.get k with
    | none => rw [hk] at h; exact Env.keep_get S t v ks h
    | some u =>
      rw [hk] at h
      simp only [Env.get] at h
      by_cases he : k = t
      · subst he; rw [if_pos rfl] at h; rw [hk]; exact h
      · rw [if_neg he] at h; exact Env.keep_get S t v ks h

theorem Holds.keep {n : Nat} {S : Env} {a : Act} (h : Holds n S a) (ks : List Nat) : Holds n (S.keep ks) a :=
  ⟨h.defers, h.size, fun t v ht => h.slots t v (Env.keep_get S t v ks ht)⟩

/-! ### Operations on words and numbers -/

def wordOp {n : Nat} (mk : BitVec n → SV) (op : BinOp) (x y : BitVec n) : Option (Prop × SV) :=
  match op with
  | .add => some (True, mk (x + y))
  | .sub => some (True, mk (x - y))
  | .mul => some (True, mk (x * y))
  | .and => some (True, mk (x &&& y))
  | .or => some (True, mk (x ||| y))
  | .xor => some (True, mk (x ^^^ y))
  | .andNot => some (True, mk (x &&& ~~~y))
  | .eql => some (True, .bool (x == y))
  | .neq => some (True, .bool (x != y))
  | .lss => some (True, .bool (decide (x.toNat < y.toNat)))
  | .leq => some (True, .bool (decide (x.toNat ≤ y.toNat)))
  | .gtr => some (True, .bool (decide (y.toNat < x.toNat)))
  | .geq => some (True, .bool (decide (y.toNat ≤ x.toNat)))
  | .rem => some (y.toNat ≠ 0, mk (x % y))
  | .quo => some (y.toNat ≠ 0, mk (x / y))
  | _ => none

def natOp (op : BinOp) (m n : Nat) : Option (Prop × SV) :=
  match op with
  | .add => some (m + n < 9223372036854775808, .nat (m + n))
  | .sub => some (n ≤ m ∧ m < 9223372036854775808, .nat (m - n))
  | .mul => some (m * n < 9223372036854775808, .nat (m * n))
  | .and => some (m < 9223372036854775808 ∧ n < 9223372036854775808, .nat (m &&& n))
  | .eql => some (True, .bool (decide (m = n)))
  | .neq => some (True, .bool (decide (¬ m = n)))
  | .lss => some (True, .bool (decide (m < n)))
  | .leq => some (True, .bool (decide (m ≤ n)))
  | .gtr => some (True, .bool (decide (n < m)))
  | .geq => some (True, .bool (decide (n ≤ m)))
  | .rem => some (n ≠ 0, .nat (m % n))
  | .quo => some (n ≠ 0 ∧ m < 9223372036854775808, .nat (m / n))
  | _ => none

def intOp (op : BinOp) (x y : Int) : Option (Prop × SV) :=
  match op with
  | .add => some (-9223372036854775808 ≤ x + y ∧ x + y < 9223372036854775808, .int (x + y))
  | .sub => some (-9223372036854775808 ≤ x - y ∧ x - y < 9223372036854775808, .int (x - y))
  | .eql => some (True, .bool (decide (x = y)))
  | .neq => some (True, .bool (decide (¬ x = y)))
  | .lss => some (True, .bool (decide (x < y)))
  | .leq => some (True, .bool (decide (x ≤ y)))
  | .gtr => some (True, .bool (decide (y < x)))
  | .geq => some (True, .bool (decide (y ≤ x)))
  | _ => none

def arithSV (op : BinOp) : SV → SV → Option (Prop × SV)
  | .u8 x, .u8 y => wordOp .u8 op x y
  | .u32 x, .u32 y => wordOp .u32 op x y
  | .u64 x, .u64 y => wordOp .u64 op x y
  | .nat m, .nat n => natOp op m n
  | .int x, .int y => intOp op x y
  | .nat m, .int y => intOp op m y
  | .int x, .nat n => intOp op x n
  | _, _ => none

/-- A count of a shift. -/
def countSV : SV → Option (Prop × Nat)
  | .u8 c => some (True, c.toNat)
  | .u32 c => some (True, c.toNat)
  | .u64 c => some (True, c.toNat)
  | .nat n => some (True, n)
  | .int z => some (0 ≤ z, z.toNat)
  | _ => none

def shlSV (c : Prop) (k : Nat) : SV → Option (Prop × SV)
  | .u8 x => some (c, .u8 (x <<< k))
  | .u32 x => some (c, .u32 (x <<< k))
  | .u64 x => some (c, .u64 (x <<< k))
  | _ => none

def shrSV (c : Prop) (k : Nat) : SV → Option (Prop × SV)
  | .u8 x => some (c, .u8 (x >>> k))
  | .u32 x => some (c, .u32 (x >>> k))
  | .u64 x => some (c, .u64 (x >>> k))
  | .i8 x => some (c, .i8 (x.sshiftRight k))
  | _ => none

def binSV (op : BinOp) (x y : SV) : Option (Prop × SV) :=
  match op with
  | .shl => match countSV y with
    | some (c, k) => shlSV c k x
    | none => none
  | .shr => match countSV y with
    | some (c, k) => shrSV c k x
    | none => none
  | op => arithSV op x y

def unSV (op : UnOp) (x : SV) : Option (Prop × SV) :=
  match op, x with
  | .xor, .u8 x => some (True, .u8 (~~~x))
  | .xor, .u32 x => some (True, .u32 (~~~x))
  | .xor, .u64 x => some (True, .u64 (~~~x))
  | .not, .bool b => some (True, .bool (!b))
  | _, _ => none

def convSV (k : IntKind) (x : SV) : Option (Prop × SV) :=
  match k, x with
  | .u8, .u8 x => some (True, .u8 x)
  | .u8, .u32 x => some (True, .u8 (x.setWidth 8))
  | .u8, .u64 x => some (True, .u8 (x.setWidth 8))
  | .u8, .i8 x => some (True, .u8 x)
  | .u8, .nat n => some (True, .u8 (BitVec.ofNat 8 n))
  | .u32, .u8 x => some (True, .u32 (x.setWidth 32))
  | .u32, .u32 x => some (True, .u32 x)
  | .u32, .u64 x => some (True, .u32 (x.setWidth 32))
  | .u32, .nat n => some (True, .u32 (BitVec.ofNat 32 n))
  | .u64, .u8 x => some (True, .u64 (x.setWidth 64))
  | .u64, .u32 x => some (True, .u64 (x.setWidth 64))
  | .u64, .u64 x => some (True, .u64 x)
  | .u64, .nat n => some (True, .u64 (BitVec.ofNat 64 n))
  | .u64, .int z => some (True, .u64 (BitVec.ofInt 64 z))
  | .i64, .u8 x => some (True, .nat x.toNat)
  | .i64, .u32 x => some (True, .nat x.toNat)
  | .i64, .u64 x => some (x.toNat < 9223372036854775808, .nat x.toNat)
  | .i64, .nat n => some (n < 9223372036854775808, .nat n)
  | .i8, .u8 x => some (True, .i8 x)
  | _, _ => none

/-! ### What the model's run gives -/
section run
variable {P : Program} (w : World)

theorem wrap_u8_toNat (x : BitVec 8) : IntKind.u8.wrap (x.toNat : Int) = x.toNat := by
  have := x.isLt; simp [IntKind.wrap, IntKind.bits, IntKind.signed]; omega
theorem wrap_u32_toNat (x : BitVec 32) : IntKind.u32.wrap (x.toNat : Int) = x.toNat := by
  have := x.isLt; simp [IntKind.wrap, IntKind.bits, IntKind.signed]; omega
theorem wrap_u64_toNat (x : BitVec 64) : IntKind.u64.wrap (x.toNat : Int) = x.toNat := by
  have := x.isLt; simp [IntKind.wrap, IntKind.bits, IntKind.signed]; omega
theorem wrap_i64_in {z : Int} (h0 : -9223372036854775808 ≤ z) (h1 : z < 9223372036854775808) : IntKind.i64.wrap z = z := by
  simp [IntKind.wrap, IntKind.bits, IntKind.signed]; omega

theorem wrap_of (k : IntKind) (hs : k.signed = false) (z : Int) : k.wrap z = z % (2 ^ k.bits : Nat) := by
  cases k <;> simp_all [IntKind.wrap, IntKind.bits, IntKind.signed]

theorem sub_toNat {n : Nat} (x y : BitVec n) : ((x - y).toNat : Int) = ((x.toNat : Int) - y.toNat) % (2 ^ n : Nat) := by
  rw [BitVec.toNat_sub]
  have h1 := x.isLt
  have h2 := y.isLt
  have e : ((2 ^ n - y.toNat + x.toNat : Nat) : Int) = (x.toNat : Int) - y.toNat + (2 ^ n : Nat) := by omega
  rw [Int.natCast_emod, e]
  simp

theorem run_wordOp {n : Nat} {mk : BitVec n → SV} {k : IntKind} (hk : k.bits = n) (hs : k.signed = false) (hmk : ∀ x, (mk x).val = .int k x.toNat)
    {op : BinOp} {x y : BitVec n} {c : Prop} {v : SV} (h : wordOp mk op x y = some (c, v)) (hc : c) (t : TypeId) :
    (binOp op t (mk x).val (mk y).val).run P w = .ok v.val w := by
  subst hk
  have hx := x.isLt
  have hy := y.isLt
  have back : ∀ r : BitVec k.bits, k.wrap (r.toNat : Int) = r.toNat := fun r => by
    rw [wrap_of k hs]; have := r.isLt; exact_mod_cast Nat.mod_eq_of_lt this
  rw [hmk x, hmk y]
  cases op <;> simp only [wordOp, Option.some.injEq, Prod.mk.injEq, reduceCtorEq] at h
  all_goals (obtain ⟨rfl, rfl⟩ := h)
  case add =>
    have e : k.wrap ((x.toNat : Int) + y.toNat) = ((x + y).toNat : Int) := by rw [wrap_of k hs, BitVec.toNat_add]; simp
    simp only [binOp, hmk]; simp [Op.intArith, e, -BitVec.toNat_add]
  case sub =>
    have e : k.wrap ((x.toNat : Int) - y.toNat) = ((x - y).toNat : Int) := by rw [wrap_of k hs, sub_toNat]
    simp only [binOp, hmk]; simp [Op.intArith, e, -BitVec.toNat_sub]
  case mul =>
    have e : k.wrap ((x.toNat : Int) * y.toNat) = ((x * y).toNat : Int) := by rw [wrap_of k hs, BitVec.toNat_mul]; simp
    simp only [binOp, hmk]; simp [Op.intArith, e, -BitVec.toNat_mul]
  case and => simp only [binOp, hmk]; simp [Op.intBits, back, -BitVec.toNat_and]
  case or => simp only [binOp, hmk]; simp [Op.intBits, back, -BitVec.toNat_or]
  case xor => simp only [binOp, hmk]; simp [Op.intBits, back, -BitVec.toNat_xor]
  case andNot => simp only [binOp, hmk]; simp [Op.intBits, back, -BitVec.toNat_and]
  case eql =>
    have e : ((x.toNat : Int) == (y.toNat : Int)) = (x == y) := by rw [Bool.eq_iff_iff]; simp [BitVec.toNat_eq]; omega
    simp only [binOp, SV.val]; simp [Op.intCmp, e]
  case neq =>
    have e : ((x.toNat : Int) != (y.toNat : Int)) = (x != y) := by rw [Bool.eq_iff_iff]; simp [BitVec.toNat_eq]; omega
    simp only [binOp, SV.val]; simp [Op.intCmp, e]
  case lss => simp only [binOp, SV.val]; simp [Op.intCmp]
  case leq => simp only [binOp, SV.val]; simp [Op.intCmp]
  case gtr => simp only [binOp, SV.val]; simp [Op.intCmp]
  case geq => simp only [binOp, SV.val]; simp [Op.intCmp]
  case rem =>
    have e : (x.toNat : Int).tmod y.toNat = ((x % y).toNat : Int) := by rw [BitVec.toNat_umod, Int.tmod_eq_emod_of_nonneg (by omega)]; simp
    simp only [binOp, hmk]; simp [Op.intDiv, hc, e, -BitVec.toNat_umod]
  case quo =>
    have e0 : ((x / y).toNat : Int) = (x.toNat : Int) / y.toNat := by rw [BitVec.toNat_udiv]; simp
    have e : k.wrap ((x.toNat : Int) / y.toNat) = ((x / y).toNat : Int) := by rw [← e0]; exact back _
    simp only [binOp, hmk]; simp [Op.intDiv, hc, e, -BitVec.toNat_udiv]

theorem and_ofNat64 {m n : Nat} (hm : m < 9223372036854775808) (hn : n < 9223372036854775808) : ((BitVec.ofInt 64 (m : Int)) &&& (BitVec.ofInt 64 (n : Int))).toNat = m &&& n := by
  rw [BitVec.ofInt_natCast, BitVec.ofInt_natCast, BitVec.toNat_and, BitVec.toNat_ofNat, BitVec.toNat_ofNat, Nat.mod_eq_of_lt (by omega), Nat.mod_eq_of_lt (by omega)]

theorem run_natOp {op : BinOp} {m n : Nat} {c : Prop} {v : SV} (h : natOp op m n = some (c, v)) (hc : c) (t : TypeId) :
    (binOp op t (SV.nat m).val (SV.nat n).val).run P w = .ok v.val w := by
  simp only [SV.val]
  cases op <;> simp only [natOp, Option.some.injEq, Prod.mk.injEq, reduceCtorEq] at h
  all_goals (obtain ⟨rfl, rfl⟩ := h; simp only [binOp, SV.val])
  case add => simp [Op.intArith, wrap_i64_in (z := (m : Int) + n) (by omega) (by omega)]
  case sub =>
    have e : IntKind.i64.wrap ((m : Int) - n) = ((m - n : Nat) : Int) := by rw [wrap_i64_in (by omega) (by omega)]; omega
    simp [Op.intArith, e]
  case mul =>
    have e : IntKind.i64.wrap ((m : Int) * n) = ((m * n : Nat) : Int) := by rw [← Int.natCast_mul]; exact wrap_i64_in (by omega) (by omega)
    simp [Op.intArith, e]
  case and =>
    have h1 : m &&& n ≤ m := Nat.and_le_left
    have e : IntKind.i64.wrap ((m &&& n : Nat) : Int) = ((m &&& n : Nat) : Int) := wrap_i64_in (by omega) (by omega)
    have h2 := and_ofNat64 hc.1 hc.2
    show Result.ok (Value.int IntKind.i64 (IntKind.i64.wrap (((BitVec.ofInt 64 (m : Int)) &&& (BitVec.ofInt 64 (n : Int))).toNat : Int))) w = _
    rw [h2, e]
  case eql =>
    have e : ((m : Int) == (n : Int)) = decide (m = n) := by rw [Bool.eq_iff_iff]; simp; omega
    simp [Op.intCmp, e]
  case neq =>
    have e : ((m : Int) != (n : Int)) = decide (¬ m = n) := by rw [Bool.eq_iff_iff]; simp; omega
    simp only [Op.intCmp, e]; simp
  case lss => simp [Op.intCmp]
  case leq => simp [Op.intCmp]
  case gtr => simp [Op.intCmp]
  case geq => simp [Op.intCmp]
  case rem =>
    have e : (m : Int).tmod n = ((m % n : Nat) : Int) := by rw [Int.tmod_eq_emod_of_nonneg (by omega)]; simp
    simp [Op.intDiv, hc, e]
  case quo =>
    have h0 : m / n ≤ m := Nat.div_le_self m n
    have e : IntKind.i64.wrap ((m : Int) / n) = ((m / n : Nat) : Int) := by
      rw [← Int.natCast_ediv]; generalize m / n = q at h0; exact wrap_i64_in (by omega) (by omega)
    simp [Op.intDiv, hc.1, e]

theorem run_intOp {op : BinOp} {x y : Int} {c : Prop} {v : SV} (h : intOp op x y = some (c, v)) (hc : c) (t : TypeId) :
    (binOp op t (SV.int x).val (SV.int y).val).run P w = .ok v.val w := by
  simp only [SV.val]
  cases op <;> simp only [intOp, Option.some.injEq, Prod.mk.injEq, reduceCtorEq] at h
  all_goals (obtain ⟨rfl, rfl⟩ := h; simp only [binOp, SV.val])
  case add => simp [Op.intArith, wrap_i64_in hc.1 hc.2]
  case sub => simp [Op.intArith, wrap_i64_in hc.1 hc.2]
  case eql =>
    have e : (x == y) = decide (x = y) := by rw [Bool.eq_iff_iff]; simp
    simp [Op.intCmp, e]
  case neq =>
    have e : (x != y) = decide (¬ x = y) := by rw [Bool.eq_iff_iff]; simp
    simp only [Op.intCmp, e]; simp
  case lss => simp [Op.intCmp]
  case leq => simp [Op.intCmp]
  case gtr => simp [Op.intCmp]
  case geq => simp [Op.intCmp]

theorem run_arithSV {op : BinOp} {x y : SV} {c : Prop} {v : SV} (h : arithSV op x y = some (c, v)) (hc : c) (t : TypeId) :
    (binOp op t x.val y.val).run P w = .ok v.val w := by
  unfold arithSV at h
  split at h
  · exact run_wordOp w (k := .u8) rfl rfl (fun _ => rfl) h hc t
  · exact run_wordOp w (k := .u32) rfl rfl (fun _ => rfl) h hc t
  · exact run_wordOp w (k := .u64) rfl rfl (fun _ => rfl) h hc t
  · exact run_natOp w h hc t
  · exact run_intOp w h hc t
  · exact run_intOp w h hc t
  · exact run_intOp w h hc t
  · cases h

theorem countSV_val {y : SV} {c : Prop} {k : Nat} (h : countSV y = some (c, k)) (hc : c) : ∃ yk, y.val = .int yk (k : Int) := by
  unfold countSV at h
  split at h <;> simp only [Option.some.injEq, Prod.mk.injEq, reduceCtorEq] at h
  all_goals (obtain ⟨rfl, rfl⟩ := h)
  case h_5 => exact ⟨.i64, by simp only [SV.val]; rw [Int.toNat_of_nonneg hc]⟩
  all_goals exact ⟨_, rfl⟩

theorem shl_toNat {n : Nat} (x : BitVec n) (k : Nat) : ((x <<< k).toNat : Int) = ((x.toNat : Int) * 2 ^ (min k n)) % (2 ^ n : Nat) := by
  rw [BitVec.toNat_shiftLeft, Nat.shiftLeft_eq]
  rcases Nat.le_total k n with h | h
  · rw [Nat.min_eq_left h]; simp
  · rw [Nat.min_eq_right h]
    obtain ⟨d, rfl⟩ : ∃ d, k = n + d := ⟨k - n, by omega⟩
    have e1 : x.toNat * 2 ^ (n + d) % 2 ^ n = 0 := by rw [Nat.pow_add, ← Nat.mul_assoc, Nat.mul_right_comm]; exact Nat.mul_mod_left _ _
    rw [e1]
    have e2 : ((x.toNat : Int) * 2 ^ n) % ((2 ^ n : Nat) : Int) = 0 := by
      have : ((2 ^ n : Nat) : Int) = (2 : Int) ^ n := by simp
      rw [this]; exact Int.mul_emod_left _ _
    rw [e2]; rfl

theorem shr_toNat {n : Nat} (x : BitVec n) (k : Nat) : ((x >>> k).toNat : Int) = (x.toNat : Int).fdiv (2 ^ (min k n)) := by
  rw [BitVec.toNat_ushiftRight, Nat.shiftRight_eq_div_pow]
  have e : (x.toNat : Int).fdiv (2 ^ (min k n)) = ((x.toNat / 2 ^ (min k n) : Nat) : Int) := by
    rw [Int.fdiv_eq_ediv_of_nonneg _ (Int.pow_nonneg (by decide))]; simp
  rw [e]
  rcases Nat.le_total k n with h | h
  · rw [Nat.min_eq_left h]
  · rw [Nat.min_eq_right h]
    have h1 : x.toNat < 2 ^ n := x.isLt
    have h2 : x.toNat < 2 ^ k := Nat.lt_of_lt_of_le h1 (Nat.pow_le_pow_right (by decide) h)
    rw [Nat.div_eq_of_lt h1, Nat.div_eq_of_lt h2]

theorem run_shl {k : Nat} {c : Prop} {x v : SV} {yk : IntKind} (h : shlSV c k x = some (c, v)) (t : TypeId) :
    (binOp .shl t x.val (.int yk (k : Int))).run P w = .ok v.val w := by
  unfold shlSV at h
  split at h <;> simp only [Option.some.injEq, Prod.mk.injEq, reduceCtorEq, true_and] at h
  all_goals (subst h; simp only [binOp, SV.val, Op.shift]; rw [if_neg (by omega)]; simp only [Int.toNat_natCast, shl_toNat, wrap_of .u8 rfl, wrap_of .u32 rfl, wrap_of .u64 rfl]; rfl)

theorem run_shr {k : Nat} {c : Prop} {x v : SV} {yk : IntKind} (h : shrSV c k x = some (c, v)) (t : TypeId) :
    (binOp .shr t x.val (.int yk (k : Int))).run P w = .ok v.val w := by
  unfold shrSV at h
  split at h <;> simp only [Option.some.injEq, Prod.mk.injEq, reduceCtorEq, true_and] at h
  case h_4 x =>
    subst h
    simp only [binOp, SV.val, Op.shift]
    rw [if_neg (by omega)]
    have e : (x.sshiftRight k).toInt = x.toInt.fdiv (2 ^ (min k 8)) := by
      rw [BitVec.toInt_sshiftRight, Int.shiftRight_eq_div_pow]
      rw [Int.fdiv_eq_ediv_of_nonneg _ (Int.pow_nonneg (by decide))]
      rcases Nat.le_total k 8 with hk | hk
      · rw [Nat.min_eq_left hk]; simp
      · rw [Nat.min_eq_right hk]
        have h1 := x.toInt_lt
        have h2 := x.le_toInt
        have h3 : (256 : Int) ≤ 2 ^ k := by
          have := Nat.pow_le_pow_right (n := 2) (by decide) hk
          have h4 : ((2 ^ 8 : Nat) : Int) ≤ ((2 ^ k : Nat) : Int) := Int.ofNat_le.2 this
          simpa using h4
        simp only [Nat.add_one_sub_one, Int.reducePow] at h1 h2
        rcases (show x.toInt < 0 ∨ 0 ≤ x.toInt by omega) with hn | hn
        · have : ∀ p : Int, 256 ≤ p → x.toInt / p = -1 := fun p hp => by
            refine Int.ediv_eq_iff_of_pos (by omega) |>.2 ⟨by omega, by omega⟩
          simp only [Int.natCast_pow, Int.cast_ofNat_Int]
          rw [this _ h3, this _ (by decide)]
        · have : ∀ p : Int, 256 ≤ p → x.toInt / p = 0 := fun p hp => Int.ediv_eq_zero_of_lt hn (by omega)
          simp only [Int.natCast_pow, Int.cast_ofNat_Int]
          rw [this _ h3, this _ (by decide)]
    simp only [Int.toNat_natCast, e]
    rfl
  all_goals (subst h; simp only [binOp, SV.val, Op.shift]; rw [if_neg (by omega)]; simp only [Int.toNat_natCast, shr_toNat]; rfl)

theorem run_binSV {op : BinOp} {x y : SV} {c : Prop} {v : SV} (h : binSV op x y = some (c, v)) (hc : c) (t : TypeId) :
    (binOp op t x.val y.val).run P w = .ok v.val w := by
  cases op
  case shl =>
    simp only [binSV] at h
    cases hy : countSV y with
    | none => rw [hy] at h; cases h
    | some p =>
      obtain ⟨d, k⟩ := p
      rw [hy] at h
      simp only at h
      have hd : d = c := by
        unfold shlSV at h
        split at h <;> simp only [Option.some.injEq, Prod.mk.injEq, reduceCtorEq] at h
        all_goals exact h.1
      subst hd
      obtain ⟨yk, he⟩ := countSV_val hy hc
      rw [he]
      exact run_shl w h t
  case shr =>
    simp only [binSV] at h
    cases hy : countSV y with
    | none => rw [hy] at h; cases h
    | some p =>
      obtain ⟨d, k⟩ := p
      rw [hy] at h
      simp only at h
      have hd : d = c := by
        unfold shrSV at h
        split at h <;> simp only [Option.some.injEq, Prod.mk.injEq, reduceCtorEq] at h
        all_goals exact h.1
      subst hd
      obtain ⟨yk, he⟩ := countSV_val hy hc
      rw [he]
      exact run_shr w h t
  all_goals exact run_arithSV w h hc t

theorem run_not {n : Nat} (k : IntKind) (hk : k.bits = n) (hs : k.signed = false) (x : BitVec n) :
    (Op.unary .xor (.int k x.toNat)).run P w = .ok (.int k (~~~x).toNat) w := by
  subst hk
  have e : BitVec.ofInt k.bits k.max = BitVec.allOnes k.bits := by cases k <;> first | (cases hs; done) | decide
  have e2 : BitVec.ofInt k.bits (x.toNat : Int) = x := by rw [BitVec.ofInt_natCast, BitVec.ofNat_toNat, BitVec.setWidth_eq]
  have e3 : k.wrap ((~~~x).toNat : Int) = (~~~x).toNat := by
    rw [wrap_of k hs]; have := (~~~x).isLt; exact_mod_cast Nat.mod_eq_of_lt this
  simp only [Op.unary, Op.intBits, hs, Bool.false_eq_true, if_false, e, e2, BitVec.allOnes_xor, e3]
  rfl

theorem run_unSV {op : UnOp} {x : SV} {c : Prop} {v : SV} (h : unSV op x = some (c, v)) : (Op.unary op x.val).run P w = .ok v.val w := by
  unfold unSV at h
  split at h <;> simp only [Option.some.injEq, Prod.mk.injEq, reduceCtorEq] at h
  all_goals (obtain ⟨rfl, rfl⟩ := h)
  · exact run_not w .u8 rfl rfl _
  · exact run_not w .u32 rfl rfl _
  · exact run_not w .u64 rfl rfl _
  · rfl

theorem run_convSV {k : IntKind} {x : SV} {c : Prop} {v : SV} (h : convSV k x = some (c, v)) (hc : c) :
    ∃ xk z, x.val = .int xk z ∧ v.val = .int k (k.wrap z) := by
  unfold convSV at h
  split at h <;> simp only [Option.some.injEq, Prod.mk.injEq, reduceCtorEq] at h
  all_goals (obtain ⟨rfl, rfl⟩ := h; refine ⟨_, _, rfl, ?_⟩; simp only [SV.val, Value.int.injEq, true_and])
  case h_1 => exact (wrap_u8_toNat _).symm
  case h_2 => simp [IntKind.wrap, IntKind.bits, IntKind.signed]
  case h_3 => simp [IntKind.wrap, IntKind.bits, IntKind.signed]
  case h_4 x => have := x.isLt; simp [IntKind.wrap, IntKind.bits, IntKind.signed, BitVec.toInt_eq_toNat_cond]; split <;> omega
  case h_5 => simp [IntKind.wrap, IntKind.bits, IntKind.signed]
  case h_6 x => have := x.isLt; simp [IntKind.wrap, IntKind.bits, IntKind.signed]
  case h_7 => exact (wrap_u32_toNat _).symm
  case h_8 => simp [IntKind.wrap, IntKind.bits, IntKind.signed]
  case h_9 => simp [IntKind.wrap, IntKind.bits, IntKind.signed]
  case h_10 x => have := x.isLt; simp [IntKind.wrap, IntKind.bits, IntKind.signed]
  case h_11 x => have := x.isLt; simp [IntKind.wrap, IntKind.bits, IntKind.signed]
  case h_12 => exact (wrap_u64_toNat _).symm
  case h_13 => simp [IntKind.wrap, IntKind.bits, IntKind.signed]
  case h_14 z => simp [IntKind.wrap, IntKind.bits, IntKind.signed, BitVec.toNat_ofInt]; omega
  case h_15 x => have := x.isLt; exact (wrap_i64_in (by omega) (by omega)).symm
  case h_16 x => have := x.isLt; exact (wrap_i64_in (by omega) (by omega)).symm
  case h_17 x => exact (wrap_i64_in (by omega) (by omega)).symm
  case h_18 => exact (wrap_i64_in (by omega) (by omega)).symm
  case h_19 x => have := x.isLt; simp [IntKind.wrap, IntKind.bits, IntKind.signed, BitVec.toInt_eq_toNat_cond]; split <;> omega
end run
end Go.Proofs.YtggbaffkjfofhaaDoor
