/- Numbers by their digits of 16 bits: digits, one more, products, comparison. -/
import Derived.Test.YtloonhdnheobpaaDoorRta
import Derived.Laws.OwnMore
import Derived.Laws.MakeOwn
set_option linter.unusedVariables false
set_option linter.unusedSimpArgs false
namespace Go.Proofs.YtloonhdnheobpaaDoor
open Go

/-- A slice that reads a list of numbers. -/
def Nums (w : World) (v : SV) (xs : List Nat) : Prop := ∃ a c, v = .sl a xs.length c ∧ xs.length ≤ c ∧ (a = none → xs.length = 0) ∧ Rd w a (xs.map SV.nat)
theorem Nums.grow {w w' : World} {v : SV} {xs : List Nat} (h : Nums w v xs) (hg : Grow w w') : Nums w' v xs := by
  obtain ⟨a, c, rfl, h1, h2, h3⟩ := h
  exact ⟨a, c, rfl, h1, h2, h3.grow hg⟩
theorem Own.nums {n : Nat} {v : SV} {xs : List Nat} {B H : List Blk} {w0 w : World} {X : List Nat} (ho : Own 3 1 v n (xs.map SV.nat) B) (hl : HL w0 w X (B ++ H)) : Nums w v xs := by
  obtain ⟨a, c, rfl, hc, ha⟩ := ho.shape
  have hn : xs.length = n := by have := ho.1; simpa using this
  subst hn
  exact ⟨a, c, rfl, hc, ha, ho.rd hl rfl⟩
theorem nat_get {xs : List Nat} {j : Nat} (h : j < xs.length) : (xs.map SV.nat)[j]? = some (.nat (xs.getD j 0)) := by
  simp [List.getD_eq_getElem?_getD, List.getElem?_eq_getElem h]
theorem isOneN (xs : List Nat) : ∀ v ∈ xs.map SV.nat, v.isOne = true := by
  intro v hv
  obtain ⟨b, _, rfl⟩ := List.mem_map.1 hv
  rfl

section
variable {P : Program} {n : Nat} {S : Env} {w : World} {K : Env → World → Prop}
theorem Plain.max {dst : Option Tmp} {x y : Operand} {ts : Array TypeId} {ty : TypeId} {pos : String} {after : Array Edge} {g : Option (Nat × Bool)} {a b : Nat} (hx : S.op x = some (.nat a)) (hy : S.op y = some (.nat b)) :
    Plain P n S ⟨dst, .call { callee := .builtin .max, args := #[x, y], argTypes := ts }, ty, pos, after, g⟩ (.nat (Max.max a b)) := fun av hav w => by
  have e : (Builtin.max_ ts ty #[(SV.nat a).val, (SV.nat b).val]).run P w = .ok (SV.nat (Max.max a b)).val w := by
    show Result.ok (Value.int IntKind.i64 (if (a : Int) < (b : Int) then (b : Int) else (a : Int))) w = _
    by_cases h : a < b
    · rw [if_pos (by omega), Nat.max_eq_right (by omega)]; rfl
    · rw [if_neg (by omega), Nat.max_eq_left (by omega)]; rfl
  simp [execOp, resolve, hav.eval hx, hav.eval hy, invoke, builtin, e]

def intSl (P : Program) (t e : TypeId) : Bool := sliceOf P t e 1 && (match P.info? e with
  | some i => (match i.zero with | some (.int .i64 0) => true | _ => false) && Nat.beq i.bytes 8
  | none => false)
theorem intSl_spec {t e : TypeId} (h : intSl P t e = true) : P.underlying t = some (.slice e) ∧ ∃ i, P.info? e = some i ∧ i.zero = some (.int .i64 0) ∧ i.size = 1 ∧ i.bytes = 8 := by
  unfold intSl at h
  rw [Bool.and_eq_true] at h
  obtain ⟨h1, h2⟩ := h
  obtain ⟨hu, i, z, hi, hz, hiz, hzs, hb⟩ := sliceOf_spec h1
  rw [hi] at h2
  simp only [Bool.and_eq_true] at h2
  obtain ⟨h3, h4⟩ := h2
  refine ⟨hu, i, hi, ?_, hiz, Nat.eq_of_beq_eq_true h4⟩
  rw [hz] at h3 ⊢
  cases z <;> try cases h3
  rename_i k x
  cases k <;> try cases h3
  split at h3
  · rename_i heq
    exact heq
  · cases h3

/-- make of so many noughts. -/
theorem SemE.makeInts {w0 : World} {X : List Nat} {H : List Blk} (hl : HL w0 w X H) (e : TypeId) {dst : Option Tmp} {t : TypeId} {x y : Operand} {ty : TypeId} {pos : String} {after : Array Edge} {g : Option (Nat × Bool)} {c : Nat}
    (ht : intSl P t e = true) (hx : S.op x = some (.nat c)) (hy : S.op y = some (.nat c)) (hc : c ≤ 1000000) (hd : okB n dst = true)
    (h : ∀ b w', HL w0 w' X (H ++ [(b, e, (List.replicate c 0).map SV.nat)]) → K (S.put dst (.sl (some ⟨b, 0, none⟩) c c)) w') : SemE P n S w ⟨dst, .makeSlice t x y, ty, pos, after, g⟩ K := by
  obtain ⟨hu, i, hi, hz, hs1, hb1⟩ := intSl_spec ht
  have hrun := run_make (P := P) w t e i (.int .i64 0) hu hi hz .i64 .i64 c c (by omega) (by omega) (by rw [hb1]; omega) (by omega)
  simp only [Int.toNat_natCast, hs1, Nat.mul_one] at hrun
  have hcs : madeCells (Value.int .i64 0).cells c = (((List.replicate c 0).map SV.nat).map SV.val).toArray := by
    apply Array.ext'
    rw [show (Value.int .i64 0).cells = #[Value.int .i64 0] from rfl, toList_madeCells_one]
    simp [SV.val]
  rw [hcs] at hrun
  refine SemE.value (.sl (some ⟨w.heap.size, 0, none⟩) c c) (w' := w.alloc (.cells (((List.replicate c 0).map SV.nat).map SV.val).toArray e)) hd (fun av hav => by
    have hx' : av.eval x = .int .i64 c := hav.eval hx
    have hy' : av.eval y = .int .i64 c := hav.eval hy
    simp [execOp, hx', hy', hrun, SV.val]) ?_
  exact h _ _ (hl.alloc e _)
end
theorem intsl : intSl Tryd.prog 33 3 = true := by kernel_rfl

def digF (v : BitVec 64) (n : Nat) : List Nat := (List.range n).map fun k => ((v >>> (16 * k)) &&& 65535#64).toNat
theorem digF_succ (v : BitVec 64) (n : Nat) : digF v (n + 1) = digF v n ++ [((v >>> (16 * n)) &&& 65535#64).toNat] := by simp [digF, List.range_succ]
theorem digF_len (v : BitVec 64) (n : Nat) : (digF v n).length = n := by simp [digF]

set_option maxRecDepth 100000 in
theorem digitsC (x : BitVec 64) (n top : Nat) (w : World) (hn : n ≤ 4) : Calls Tryd.prog 16 #[(SV.u64 x).val, (SV.nat n).val, (SV.nat top).val] w fun e w' => ∃ v', e = .returned v'.val ∧ Nums w' v' (digF x n ++ [top]) ∧ Grow w w' := by
  refine calls_E [.u64 x, .nat n, .nat top] Tryd.func16 rfl Tryd.ntmps16 rfl ?_
  refine EWp.seqR [0, 1, 2] fun K hK => ?_
  simp only [ev, fx, ↓reduceIte, Nat.reduceEqDiff, Nat.reduceLT, Nat.reduceLeDiff, Nat.reduceAdd, Nat.reduceSub, Nat.reduceMul, Int.reduceLT, Int.reduceLE, Int.reduceToNat, BitVec.reduceOfInt, BitVec.reduceToNat, reduceCtorEq, and_self, decide_true, decide_false, Bool.not_true, Bool.not_false, ne_eq, not_true_eq_false, not_false_eq_true, true_and, and_true]
  repeat (refine And.intro (by omega) ?_)
  refine hK _ _ ?_; clear hK K
  refine EWp.seqR [0, 1, 2, 7] fun K hK => ?_
  simp only [ev, fx, ↓reduceIte, Nat.reduceEqDiff, Nat.reduceLT, Nat.reduceLeDiff, Nat.reduceAdd, Nat.reduceSub, Nat.reduceMul, Int.reduceLT, Int.reduceLE, Int.reduceToNat, BitVec.reduceOfInt, BitVec.reduceToNat, reduceCtorEq, and_self, decide_true, decide_false, Bool.not_true, Bool.not_false, ne_eq, not_true_eq_false, not_false_eq_true, true_and, and_true]
  refine SemE.buildSlice (vs := []) (HL.start w) 3 slof_33 rfl rfl (by omega) rfl fun b0 w1 hb0 hl => ?_
  have ho : Own 3 1 (.sl (some ⟨b0, 0, none⟩) 0 0) 0 ((digF x 0).map SV.nat) [(b0, 3, [])] := Own.full (by simp [digF]) (by unfold maxLen; omega)
  simp only [ev, fx, ↓reduceIte, Nat.reduceEqDiff, Nat.reduceLT, Nat.reduceLeDiff, Nat.reduceAdd, Nat.reduceSub, Nat.reduceMul, Int.reduceLT, Int.reduceLE, Int.reduceToNat, BitVec.reduceOfInt, BitVec.reduceToNat, reduceCtorEq, and_self, decide_true, decide_false, Bool.not_true, Bool.not_false, ne_eq, not_true_eq_false, not_false_eq_true, true_and, and_true]
  repeat (refine And.intro (by omega) ?_)
  refine hK _ _ ?_; clear hK K
  refine EWp.cut [2, 7] (fun S' w' => ∃ v B, S' = [(2, .nat top), (7, v)] ∧ Own 3 1 v n ((digF x n).map SV.nat) B ∧ HL w w' [] (B ++ [])) ?_ ?_
  case refine_2 =>
    clear hl ho
    rintro S' w' ⟨v, B, rfl, ho, hl⟩
    refine EWp.seqR [6] fun K hK => ?_
    simp only [ev, fx, ↓reduceIte, Nat.reduceEqDiff, Nat.reduceLT, Nat.reduceLeDiff, Nat.reduceAdd, Nat.reduceSub, Nat.reduceMul, Int.reduceLT, Int.reduceLE, Int.reduceToNat, BitVec.reduceOfInt, BitVec.reduceToNat, reduceCtorEq, and_self, decide_true, decide_false, Bool.not_true, Bool.not_false, ne_eq, not_true_eq_false, not_false_eq_true, true_and, and_true]
    rw [List.append_nil] at hl
    refine SemE.buildSlice (vs := [.nat top]) hl 3 slof_33 rfl rfl (by omega) rfl fun b1 w2 hb1 hl => ?_
    simp only [ev, fx, ↓reduceIte, Nat.reduceEqDiff, Nat.reduceLT, Nat.reduceLeDiff, Nat.reduceAdd, Nat.reduceSub, Nat.reduceMul, Int.reduceLT, Int.reduceLE, Int.reduceToNat, BitVec.reduceOfInt, BitVec.reduceToNat, reduceCtorEq, and_self, decide_true, decide_false, Bool.not_true, Bool.not_false, ne_eq, not_true_eq_false, not_false_eq_true, true_and, and_true]
    have hr1 : Rd w2 (some ⟨b1, 0, none⟩) [.nat top] := Rd.blk (hl.sub (List.sublist_append_right B [(b1, 3, [.nat top])])) (k := 0) rfl 0 1
    refine SemE.append hl ho slof_33 rfl rfl rfl hr1 rfl (fun h => by cases h) (by simp [SV.isOne]) (by omega) rfl fun v2 B2 w3 ho hl _ => ?_
    have ho : Own 3 1 v2 (n + 1) ((digF x n ++ [top]).map SV.nat) B2 := by rw [List.map_append]; exact ho
    simp only [ev, fx, ↓reduceIte, Nat.reduceEqDiff, Nat.reduceLT, Nat.reduceLeDiff, Nat.reduceAdd, Nat.reduceSub, Nat.reduceMul, Int.reduceLT, Int.reduceLE, Int.reduceToNat, BitVec.reduceOfInt, BitVec.reduceToNat, reduceCtorEq, and_self, decide_true, decide_false, Bool.not_true, Bool.not_false, ne_eq, not_true_eq_false, not_false_eq_true, true_and, and_true]
    repeat (refine And.intro (by omega) ?_)
    refine hK _ _ ?_; clear hK K
    exact EWp.ret (BodyE.tmp1 rfl rfl ⟨v2, rfl, ho.nums hl, (hl.sub (List.nil_sublist _)).toGrow⟩)
  refine EWp.seqR [0, 2, 7, 10, 11] fun K hK => ?_
  simp only [ev, fx, ↓reduceIte, Nat.reduceEqDiff, Nat.reduceLT, Nat.reduceLeDiff, Nat.reduceAdd, Nat.reduceSub, Nat.reduceMul, Int.reduceLT, Int.reduceLE, Int.reduceToNat, BitVec.reduceOfInt, BitVec.reduceToNat, reduceCtorEq, and_self, decide_true, decide_false, Bool.not_true, Bool.not_false, ne_eq, not_true_eq_false, not_false_eq_true, true_and, and_true]
  repeat (refine And.intro (by omega) ?_)
  refine hK _ _ ?_; clear hK K
  refine EWp.block ?_
  refine EWp.loop [0, 2, 7, 10, 11] (fun k S' w' => ∃ (i : Nat) (v : SV) (B : List Blk), i ≤ n ∧ k = n - i ∧ S' = [(0, .u64 x), (2, .nat top), (7, v), (10, .nat n), (11, .nat i)] ∧ Own 3 1 v i ((digF x i).map SV.nat) B ∧ HL w w' [] (B ++ [])) n ?_ ?_
  case refine_1 => exact ⟨0, _, _, by omega, rfl, rfl, ho, hl⟩
  clear hl ho
  rintro k S' w' ⟨i, v, B, hi, rfl, rfl, ho, hl⟩
  refine EWp.seqR [0, 2, 7, 10, 11, 12] fun K hK => ?_
  simp only [ev, fx, ↓reduceIte, Nat.reduceEqDiff, Nat.reduceLT, Nat.reduceLeDiff, Nat.reduceAdd, Nat.reduceSub, Nat.reduceMul, Int.reduceLT, Int.reduceLE, Int.reduceToNat, BitVec.reduceOfInt, BitVec.reduceToNat, reduceCtorEq, and_self, decide_true, decide_false, Bool.not_true, Bool.not_false, ne_eq, not_true_eq_false, not_false_eq_true, true_and, and_true]
  repeat (refine And.intro (by omega) ?_)
  refine hK _ _ ?_; clear hK K
  refine EWp.guard (b := decide (i < n)) rfl (fun hlt => ?_) (fun hlt => ?_)
  case refine_2 =>
    have hlt := of_decide_eq_false hlt
    obtain rfl : i = n := by omega
    simp only [BlockE, ThenE, ↓reduceIte]
    exact ⟨v, B, rfl, ho, hl⟩
  have hlt := of_decide_eq_true hlt
  refine EWp.cut [0, 2, 7, 10, 11] (fun S' w' => ∃ v B, S' = [(0, .u64 x), (2, .nat top), (7, v), (10, .nat n), (11, .nat i)] ∧ Own 3 1 v (i + 1) ((digF x (i + 1)).map SV.nat) B ∧ HL w w' [] (B ++ [])) ?_ ?_
  case refine_2 =>
    clear hl ho
    rintro S' w' ⟨v, B, rfl, ho, hl⟩
    refine EWp.regR [0, 2, 7, 10, 11] fun K hK => ?_
    simp only [ev, fx, ↓reduceIte, Nat.reduceEqDiff, Nat.reduceLT, Nat.reduceLeDiff, Nat.reduceAdd, Nat.reduceSub, Nat.reduceMul, Int.reduceLT, Int.reduceLE, Int.reduceToNat, BitVec.reduceOfInt, BitVec.reduceToNat, reduceCtorEq, and_self, decide_true, decide_false, Bool.not_true, Bool.not_false, ne_eq, not_true_eq_false, not_false_eq_true, true_and, and_true]
    exact ⟨by omega, hK _ _ fun S1 h1 => ⟨n - i - 1, by omega, i + 1, v, B, by omega, by omega, h1, ho, hl⟩⟩
  refine EWp.block ?_
  refine EWp.seqR [0, 2, 7, 8, 10, 11] fun K hK => ?_
  simp only [ev, fx, ↓reduceIte, Nat.reduceEqDiff, Nat.reduceLT, Nat.reduceLeDiff, Nat.reduceAdd, Nat.reduceSub, Nat.reduceMul, Int.reduceLT, Int.reduceLE, Int.reduceToNat, BitVec.reduceOfInt, BitVec.reduceToNat, reduceCtorEq, and_self, decide_true, decide_false, Bool.not_true, Bool.not_false, ne_eq, not_true_eq_false, not_false_eq_true, true_and, and_true]
  repeat (refine And.intro (by omega) ?_)
  refine hK _ _ ?_; clear hK K
  refine EWp.regR [0, 2, 7, 10, 11] fun K hK => ?_
  have hd : ((x >>> (16 * i)) &&& 65535#64).toNat < 65536 := by rw [BitVec.toNat_and]; exact Nat.lt_of_le_of_lt Nat.and_le_right (by decide)
  have hd0 : ((x >>> (16 * i)) &&& 65535#64).toNat < 9223372036854775808 := by omega
  simp only [ev, fx, ↓reduceIte, Nat.reduceEqDiff, Nat.reduceLT, Nat.reduceLeDiff, Nat.reduceAdd, Nat.reduceSub, Nat.reduceMul, Int.reduceLT, Int.reduceLE, Int.reduceToNat, BitVec.reduceOfInt, BitVec.reduceToNat, reduceCtorEq, and_self, decide_true, decide_false, Bool.not_true, Bool.not_false, ne_eq, not_true_eq_false, not_false_eq_true, true_and, and_true, hd0]
  repeat (refine And.intro (by omega) ?_)
  rw [List.append_nil] at hl
  refine SemE.buildSlice (vs := [.nat ((x >>> (16 * i)) &&& 65535#64).toNat]) hl 3 slof_33 rfl rfl (by omega) rfl fun b1 w2 hb1 hl => ?_
  have hr1 : Rd w2 (some ⟨b1, 0, none⟩) [.nat ((x >>> (16 * i)) &&& 65535#64).toNat] := Rd.blk (hl.sub (List.sublist_append_right B [(b1, 3, [.nat ((x >>> (16 * i)) &&& 65535#64).toNat])])) (k := 0) rfl 0 1
  simp only [ev, fx, ↓reduceIte, Nat.reduceEqDiff, Nat.reduceLT, Nat.reduceLeDiff, Nat.reduceAdd, Nat.reduceSub, Nat.reduceMul, Int.reduceLT, Int.reduceLE, Int.reduceToNat, BitVec.reduceOfInt, BitVec.reduceToNat, reduceCtorEq, and_self, decide_true, decide_false, Bool.not_true, Bool.not_false, ne_eq, not_true_eq_false, not_false_eq_true, true_and, and_true]
  refine SemE.append hl ho slof_33 rfl rfl rfl hr1 rfl (fun h => by cases h) (by simp [SV.isOne]) (by omega) rfl fun v2 B2 w3 ho hl _ => ?_
  have ho : Own 3 1 v2 (i + 1) ((digF x (i + 1)).map SV.nat) B2 := by rw [digF_succ, List.map_append]; exact ho
  have hl := hl.sub (List.sublist_append_left B2 _)
  simp only [ev, fx, ↓reduceIte, Nat.reduceEqDiff, Nat.reduceLT, Nat.reduceLeDiff, Nat.reduceAdd, Nat.reduceSub, Nat.reduceMul, Int.reduceLT, Int.reduceLE, Int.reduceToNat, BitVec.reduceOfInt, BitVec.reduceToNat, reduceCtorEq, and_self, decide_true, decide_false, Bool.not_true, Bool.not_false, ne_eq, not_true_eq_false, not_false_eq_true, true_and, and_true]
  refine hK _ _ fun S1 h1 => ?_; clear hK K
  simp only [BlockE, ThenE]
  exact ⟨v2, B2, h1, ho, by rw [List.append_nil]; exact hl⟩

def moreF : List Nat → List Nat
  | [] => [1]
  | x :: xs => if (x + 1) % 65536 = 0 then 0 :: moreF xs else (x + 1) % 65536 :: xs

set_option maxRecDepth 100000 in
theorem moreC (v : SV) (xs : List Nat) (w : World) (h : Nums w v xs) (h0 : 0 < xs.length) (hlen : xs.length ≤ 1000) (hb : ∀ z ∈ xs, z ≤ 1099511627776) : Calls Tryd.prog 19 #[v.val] w fun e w' => ∃ v', e = .returned v'.val ∧ Nums w' v' (moreF xs) ∧ Grow w w' := by
  obtain ⟨a, c, rfl, hc, ha, hr⟩ := h
  generalize hn : xs.length = n at *
  refine calls_E [.sl a n c] Tryd.func19 rfl Tryd.ntmps19 rfl ?_
  refine EWp.seqR [0] fun K hK => ?_
  simp only [ev, fx, ↓reduceIte, Nat.reduceEqDiff, Nat.reduceLT, Nat.reduceLeDiff, Nat.reduceAdd, Nat.reduceSub, Nat.reduceMul, Int.reduceLT, Int.reduceLE, Int.reduceToNat, BitVec.reduceOfInt, BitVec.reduceToNat, reduceCtorEq, and_self, decide_true, decide_false, Bool.not_true, Bool.not_false, ne_eq, not_true_eq_false, not_false_eq_true, true_and, and_true]
  repeat (refine And.intro (by omega) ?_)
  refine hK _ _ ?_; clear hK K
  refine EWp.seqR [3] fun K hK => ?_
  simp only [ev, fx, ↓reduceIte, Nat.reduceEqDiff, Nat.reduceLT, Nat.reduceLeDiff, Nat.reduceAdd, Nat.reduceSub, Nat.reduceMul, Int.reduceLT, Int.reduceLE, Int.reduceToNat, BitVec.reduceOfInt, BitVec.reduceToNat, reduceCtorEq, and_self, decide_true, decide_false, Bool.not_true, Bool.not_false, ne_eq, not_true_eq_false, not_false_eq_true, true_and, and_true]
  refine SemE.buildSlice (vs := []) (HL.start w) 3 slof_33 rfl rfl (by omega) rfl fun b0 w1 hb0 hl => ?_
  have ho : Own 3 1 (.sl (some ⟨b0, 0, none⟩) 0 0) 0 [] [(b0, 3, [])] := Own.full (by simp) (by unfold maxLen; omega)
  simp only [ev, fx, ↓reduceIte, Nat.reduceEqDiff, Nat.reduceLT, Nat.reduceLeDiff, Nat.reduceAdd, Nat.reduceSub, Nat.reduceMul, Int.reduceLT, Int.reduceLE, Int.reduceToNat, BitVec.reduceOfInt, BitVec.reduceToNat, reduceCtorEq, and_self, decide_true, decide_false, Bool.not_true, Bool.not_false, ne_eq, not_true_eq_false, not_false_eq_true, true_and, and_true]
  refine SemE.append (B := [(b0, 3, [])]) (H := []) hl ho slof_33 rfl rfl rfl (hr.grow hl.toGrow) (by simp [hn]) ha (isOneN xs) (by omega) rfl fun v1 B1 w2 ho hl _ => ?_
  rw [Nat.zero_add, List.nil_append] at ho
  obtain ⟨_, ⟨_, hz, _⟩ | ⟨b, c1, rest, rfl, hc1, hmx, hrest, rfl⟩⟩ := ho
  · omega
  rw [List.append_nil] at hl
  simp only [ev, fx, ↓reduceIte, Nat.reduceEqDiff, Nat.reduceLT, Nat.reduceLeDiff, Nat.reduceAdd, Nat.reduceSub, Nat.reduceMul, Int.reduceLT, Int.reduceLE, Int.reduceToNat, BitVec.reduceOfInt, BitVec.reduceToNat, reduceCtorEq, and_self, decide_true, decide_false, Bool.not_true, Bool.not_false, ne_eq, not_true_eq_false, not_false_eq_true, true_and, and_true]
  repeat (refine And.intro (by omega) ?_)
  refine hK _ _ ?_; clear hK K
  refine EWp.cut [3] (fun S' w' => S' = [(3, .sl (some ⟨b, 0, none⟩) n c1)] ∧ moreF xs = List.replicate n 0 ++ [1] ∧ HL w w' [] [(b, 3, (List.replicate n 0).map SV.nat ++ rest)]) ?_ ?_
  case refine_2 =>
    clear hl
    rintro S' w' ⟨rfl, hmf, hl⟩
    refine EWp.seqR [2] fun K hK => ?_
    simp only [ev, fx, ↓reduceIte, Nat.reduceEqDiff, Nat.reduceLT, Nat.reduceLeDiff, Nat.reduceAdd, Nat.reduceSub, Nat.reduceMul, Int.reduceLT, Int.reduceLE, Int.reduceToNat, BitVec.reduceOfInt, BitVec.reduceToNat, reduceCtorEq, and_self, decide_true, decide_false, Bool.not_true, Bool.not_false, ne_eq, not_true_eq_false, not_false_eq_true, true_and, and_true]
    refine SemE.buildSlice (vs := [.nat 1]) hl 3 slof_33 rfl rfl (by omega) rfl fun b1 w2 hb1 hl => ?_
    simp only [ev, fx, ↓reduceIte, Nat.reduceEqDiff, Nat.reduceLT, Nat.reduceLeDiff, Nat.reduceAdd, Nat.reduceSub, Nat.reduceMul, Int.reduceLT, Int.reduceLE, Int.reduceToNat, BitVec.reduceOfInt, BitVec.reduceToNat, reduceCtorEq, and_self, decide_true, decide_false, Bool.not_true, Bool.not_false, ne_eq, not_true_eq_false, not_false_eq_true, true_and, and_true]
    have hr1 : Rd w2 (some ⟨b1, 0, none⟩) [.nat 1] := Rd.blk hl (k := 1) rfl 0 1
    have ho : Own 3 1 (.sl (some ⟨b, 0, none⟩) n c1) n ((List.replicate n 0).map SV.nat) [(b, 3, (List.replicate n 0).map SV.nat ++ rest)] := Own.made rest (by simp) hc1 hmx hrest
    refine SemE.append hl ho slof_33 rfl rfl rfl hr1 rfl (fun h => by cases h) (by simp [SV.isOne]) (by omega) rfl fun v2 B2 w3 ho hl _ => ?_
    have ho : Own 3 1 v2 (n + 1) ((moreF xs).map SV.nat) B2 := by rw [hmf, List.map_append]; exact ho
    simp only [ev, fx, ↓reduceIte, Nat.reduceEqDiff, Nat.reduceLT, Nat.reduceLeDiff, Nat.reduceAdd, Nat.reduceSub, Nat.reduceMul, Int.reduceLT, Int.reduceLE, Int.reduceToNat, BitVec.reduceOfInt, BitVec.reduceToNat, reduceCtorEq, and_self, decide_true, decide_false, Bool.not_true, Bool.not_false, ne_eq, not_true_eq_false, not_false_eq_true, true_and, and_true]
    repeat (refine And.intro (by omega) ?_)
    refine hK _ _ ?_; clear hK K
    exact EWp.ret (BodyE.tmp1 rfl rfl ⟨v2, rfl, ho.nums hl, (hl.sub (List.nil_sublist _)).toGrow⟩)
  refine EWp.seqR [3, 9, 10] fun K hK => ?_
  simp only [ev, fx, ↓reduceIte, Nat.reduceEqDiff, Nat.reduceLT, Nat.reduceLeDiff, Nat.reduceAdd, Nat.reduceSub, Nat.reduceMul, Int.reduceLT, Int.reduceLE, Int.reduceToNat, BitVec.reduceOfInt, BitVec.reduceToNat, reduceCtorEq, and_self, decide_true, decide_false, Bool.not_true, Bool.not_false, ne_eq, not_true_eq_false, not_false_eq_true, true_and, and_true]
  repeat (refine And.intro (by omega) ?_)
  refine hK _ _ ?_; clear hK K
  refine EWp.block ?_
  refine EWp.loop [3, 9, 10] (fun k S' w' => ∃ i : Nat, i ≤ n ∧ k = n - i ∧ S' = [(3, .sl (some ⟨b, 0, none⟩) n c1), (9, .nat n), (10, .nat i)] ∧ moreF xs = List.replicate i 0 ++ moreF (xs.drop i) ∧ HL w w' [] [(b, 3, (List.replicate i 0 ++ xs.drop i).map SV.nat ++ rest)]) n ?_ ?_
  case refine_1 => exact ⟨0, by omega, rfl, rfl, by simp, by simpa using hl⟩
  clear hl
  rintro k S' w' ⟨i, hi, rfl, rfl, hmf, hl⟩
  refine EWp.seqR [3, 9, 10, 11] fun K hK => ?_
  simp only [ev, fx, ↓reduceIte, Nat.reduceEqDiff, Nat.reduceLT, Nat.reduceLeDiff, Nat.reduceAdd, Nat.reduceSub, Nat.reduceMul, Int.reduceLT, Int.reduceLE, Int.reduceToNat, BitVec.reduceOfInt, BitVec.reduceToNat, reduceCtorEq, and_self, decide_true, decide_false, Bool.not_true, Bool.not_false, ne_eq, not_true_eq_false, not_false_eq_true, true_and, and_true]
  repeat (refine And.intro (by omega) ?_)
  refine hK _ _ ?_; clear hK K
  refine EWp.guard (b := decide (i < n)) rfl (fun hlt => ?_) (fun hlt => ?_)
  case refine_2 =>
    have hlt := of_decide_eq_false hlt
    obtain rfl : i = n := by omega
    have hd : xs.drop i = [] := List.drop_of_length_le (by omega)
    rw [hd] at hmf hl
    simp only [BlockE, ThenE, ↓reduceIte]
    exact ⟨rfl, hmf, by simpa using hl⟩
  have hlt := of_decide_eq_true hlt
  obtain ⟨z, hz⟩ : ∃ z, xs[i]? = some z := ⟨xs[i]'(by omega), by simp [List.getElem?_eq_getElem (by omega : i < xs.length)]⟩
  have hdr : xs.drop i = z :: xs.drop (i + 1) := by
    have h1 := List.drop_eq_getElem_cons (l := xs) (i := i) (by omega)
    rw [h1]
    congr 1
    have := List.getElem?_eq_getElem (l := xs) (i := i) (by omega)
    rw [this] at hz
    exact Option.some.inj hz
  have hzb : z ≤ 1099511627776 := hb z (List.mem_of_getElem? hz)
  rw [hdr] at hl hmf
  have hget : ((List.replicate i 0 ++ z :: xs.drop (i + 1)).map SV.nat ++ rest)[i]? = some (.nat z) := by
    rw [List.getElem?_append_left (by simp), List.getElem?_map, List.getElem?_append_right (by simp)]
    simp
  have hset : ∀ y : Nat, ((List.replicate i 0 ++ z :: xs.drop (i + 1)).map SV.nat ++ rest).set i (.nat y) = (List.replicate i 0 ++ y :: xs.drop (i + 1)).map SV.nat ++ rest := fun y => by
    rw [List.set_append_left _ _ (by simp), ← List.map_set, List.set_append_right _ _ (by simp)]
    simp
  refine EWp.cut [3, 9, 10] (fun S' w' => (z + 1) % 65536 = 0 ∧ S' = [(3, .sl (some ⟨b, 0, none⟩) n c1), (9, .nat n), (10, .nat i)] ∧ HL w w' [] [(b, 3, (List.replicate i 0 ++ 0 :: xs.drop (i + 1)).map SV.nat ++ rest)]) ?_ ?_
  case refine_2 =>
    clear hl
    rintro S' w' ⟨hz0, rfl, hl⟩
    refine EWp.regR [3, 9, 10] fun K hK => ?_
    simp only [ev, fx, ↓reduceIte, Nat.reduceEqDiff, Nat.reduceLT, Nat.reduceLeDiff, Nat.reduceAdd, Nat.reduceSub, Nat.reduceMul, Int.reduceLT, Int.reduceLE, Int.reduceToNat, BitVec.reduceOfInt, BitVec.reduceToNat, reduceCtorEq, and_self, decide_true, decide_false, Bool.not_true, Bool.not_false, ne_eq, not_true_eq_false, not_false_eq_true, true_and, and_true]
    have e : List.replicate i 0 ++ 0 :: xs.drop (i + 1) = List.replicate (i + 1) 0 ++ xs.drop (i + 1) := by rw [List.replicate_succ']; simp
    have e2 : ∀ l : List Nat, List.replicate i 0 ++ 0 :: l = List.replicate (i + 1) 0 ++ l := fun l => by rw [List.replicate_succ']; simp
    exact ⟨by omega, hK _ _ fun S1 h1 => ⟨n - i - 1, by omega, i + 1, by omega, by omega, h1, by rw [hmf, moreF, if_pos hz0, e2], by rw [← e]; exact hl⟩⟩
  refine EWp.block ?_
  refine EWp.seqR [3, 4, 9, 10] fun K hK => ?_
  simp only [ev, fx, ↓reduceIte, Nat.reduceEqDiff, Nat.reduceLT, Nat.reduceLeDiff, Nat.reduceAdd, Nat.reduceSub, Nat.reduceMul, Int.reduceLT, Int.reduceLE, Int.reduceToNat, BitVec.reduceOfInt, BitVec.reduceToNat, reduceCtorEq, and_self, decide_true, decide_false, Bool.not_true, Bool.not_false, ne_eq, not_true_eq_false, not_false_eq_true, true_and, and_true]
  repeat (refine And.intro (by omega) ?_)
  refine hK _ _ ?_; clear hK K
  refine EWp.seqR [3, 4, 9, 10] fun K hK => ?_
  simp only [ev, fx, ↓reduceIte, Nat.reduceEqDiff, Nat.reduceLT, Nat.reduceLeDiff, Nat.reduceAdd, Nat.reduceSub, Nat.reduceMul, Int.reduceLT, Int.reduceLE, Int.reduceToNat, BitVec.reduceOfInt, BitVec.reduceToNat, reduceCtorEq, and_self, decide_true, decide_false, Bool.not_true, Bool.not_false, ne_eq, not_true_eq_false, not_false_eq_true, true_and, and_true]
  repeat (refine And.intro (by omega) ?_)
  refine SemE.loadB hl 0 rfl one_3 rfl rfl (by first | exact hget | (rw [Nat.zero_add]; exact hget)) ?_
  simp only [ev, fx, ↓reduceIte, Nat.reduceEqDiff, Nat.reduceLT, Nat.reduceLeDiff, Nat.reduceAdd, Nat.reduceSub, Nat.reduceMul, Int.reduceLT, Int.reduceLE, Int.reduceToNat, BitVec.reduceOfInt, BitVec.reduceToNat, reduceCtorEq, and_self, decide_true, decide_false, Bool.not_true, Bool.not_false, ne_eq, not_true_eq_false, not_false_eq_true, true_and, and_true]
  repeat (refine And.intro (by omega) ?_)
  refine SemE.storeB (v := .nat ((z + 1) % 65536)) hl 0 rfl rfl one_3 rfl rfl (by simp <;> omega) fun w2 hl => ?_
  simp only [List.set_cons_zero, Nat.zero_add, hset] at hl
  simp only [ev, fx, ↓reduceIte, Nat.reduceEqDiff, Nat.reduceLT, Nat.reduceLeDiff, Nat.reduceAdd, Nat.reduceSub, Nat.reduceMul, Int.reduceLT, Int.reduceLE, Int.reduceToNat, BitVec.reduceOfInt, BitVec.reduceToNat, reduceCtorEq, and_self, decide_true, decide_false, Bool.not_true, Bool.not_false, ne_eq, not_true_eq_false, not_false_eq_true, true_and, and_true]
  repeat (refine And.intro (by omega) ?_)
  refine hK _ _ ?_; clear hK K
  have hget2 : ∀ y : Nat, ((List.replicate i 0 ++ y :: xs.drop (i + 1)).map SV.nat ++ rest)[i]? = some (.nat y) := fun y => by
    rw [List.getElem?_append_left (by simp), List.getElem?_map, List.getElem?_append_right (by simp)]
    simp
  refine EWp.brR [3, 9, 10, 26] fun K hK => ?_
  simp only [ev, fx, ↓reduceIte, Nat.reduceEqDiff, Nat.reduceLT, Nat.reduceLeDiff, Nat.reduceAdd, Nat.reduceSub, Nat.reduceMul, Int.reduceLT, Int.reduceLE, Int.reduceToNat, BitVec.reduceOfInt, BitVec.reduceToNat, reduceCtorEq, and_self, decide_true, decide_false, Bool.not_true, Bool.not_false, ne_eq, not_true_eq_false, not_false_eq_true, true_and, and_true]
  repeat (refine And.intro (by omega) ?_)
  refine SemE.loadB hl 0 rfl one_3 rfl rfl (by first | exact hget2 _ | (rw [Nat.zero_add]; exact hget2 _)) ?_
  simp only [ev, fx, ↓reduceIte, Nat.reduceEqDiff, Nat.reduceLT, Nat.reduceLeDiff, Nat.reduceAdd, Nat.reduceSub, Nat.reduceMul, Int.reduceLT, Int.reduceLE, Int.reduceToNat, BitVec.reduceOfInt, BitVec.reduceToNat, reduceCtorEq, and_self, decide_true, decide_false, Bool.not_true, Bool.not_false, ne_eq, not_true_eq_false, not_false_eq_true, true_and, and_true]
  refine hK _ _ (decide (¬ (z + 1) % 65536 = 0)) rfl (fun h => ?_) (fun h => ?_) <;> clear hK K
  · have h := of_decide_eq_true h
    refine EWp.seqR [2] fun K hK => ?_
    simp only [ev, fx, ↓reduceIte, Nat.reduceEqDiff, Nat.reduceLT, Nat.reduceLeDiff, Nat.reduceAdd, Nat.reduceSub, Nat.reduceMul, Int.reduceLT, Int.reduceLE, Int.reduceToNat, BitVec.reduceOfInt, BitVec.reduceToNat, reduceCtorEq, and_self, decide_true, decide_false, Bool.not_true, Bool.not_false, ne_eq, not_true_eq_false, not_false_eq_true, true_and, and_true]
    repeat (refine And.intro (by omega) ?_)
    refine hK _ _ ?_; clear hK K
    refine EWp.ret ?_
    simp only [BlockE, ThenE]
    have e : moreF xs = List.replicate i 0 ++ (z + 1) % 65536 :: xs.drop (i + 1) := by rw [hmf, moreF, if_neg h]
    have ho : Own 3 1 (.sl (some ⟨b, 0, none⟩) n c1) n ((moreF xs).map SV.nat) [(b, 3, (moreF xs).map SV.nat ++ rest)] := Own.made rest (by rw [e]; simp; omega) hc1 hmx hrest
    rw [← e] at hl
    exact BodyE.tmp1 rfl rfl ⟨_, rfl, ho.nums (H := []) (by rw [List.append_nil]; exact hl), hl.toGrow⟩
  · have h : (z + 1) % 65536 = 0 := by simpa using h
    rw [h] at hl
    refine EWp.skip ?_
    simp only [BlockE, ThenE]
    exact ⟨h, rfl, hl⟩
end Go.Proofs.YtloonhdnheobpaaDoor
