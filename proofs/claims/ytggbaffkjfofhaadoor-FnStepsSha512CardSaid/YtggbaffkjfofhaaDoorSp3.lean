/- The reference's SHA-384 and SHA-512. -/
import Derived.Test.YtggbaffkjfofhaaDoorSpecB3
import Derived.Test.YtggbaffkjfofhaaDoorFd3
import Derived.Test.YtggbaffkjfofhaaDoorPad3
import Derived.Test.YtggbaffkjfofhaaDoorBeg3
set_option linter.unusedVariables false
set_option linter.unusedSimpArgs false
namespace Go.Proofs.YtggbaffkjfofhaaDoor
open Go

section
variable {P : Program} {n : Nat} {S : Env} {w : World} {K : Env → World → Prop}
/-- Bytes that are a text already, made a slice of bytes: their row is marked. -/
theorem SemE.convBytes {w0 : World} {X : List Nat} {H : List Blk} {e bt : TypeId} {b m c : Nat} {vs : List SV} (hl : HL w0 w X (H ++ [(b, bt, vs)])) {dst : Option Tmp} {t : TypeId} {x : Operand} {ty : TypeId} {pos : String} {after : Array Edge} {g : Option (Nat × Bool)}
    (ht : byteSl P t e = true) (he : kindOf P e = some .u8) (hx : S.op x = some (.sl (some ⟨b, 0, none⟩) m c)) (hd : okB n dst = true)
    (h : ∀ w', HL w0 w' X H → Rd w' (some ⟨b, 0, none⟩) vs → K (S.put dst (.sl (some ⟨b, 0, none⟩) m c)) w') : SemE P n S w ⟨dst, .convert t t x, ty, pos, after, g⟩ K := by
  obtain ⟨hu, i, hi, hz, hs1, hb1⟩ := byteSl_spec ht
  have hue : P.underlying e = some (.int .u8) := by
    unfold kindOf at he
    cases hk : P.underlying e with
    | none => rw [hk] at he; cases he
    | some d => rw [hk] at he; cases d <;> simp at he; rw [he]
  have hbk := hl.at (k := H.length) (b := b) (t := bt) (cs := vs) (by simp)
  have hlt := (Array.getElem?_eq_some_iff.1 hbk).1
  have hnd := hl.nd
  rw [List.map_append, List.nodup_append] at hnd
  have hsh : w.shape? b = some (bt, vs.length) := by simp [World.shape?, hbk]
  have hrun : (convert t t (.slice (some ⟨b, 0, none⟩) m c)).run P w = .ok (.slice (some ⟨b, 0, none⟩) m c) (w.freeze ⟨b, vs.length, none⟩ 1) := by
    simp [convert, run_underlying hu, run_underlying hue, markStringish, hsh]
  have hfz : (w.freeze ⟨b, vs.length, none⟩ 1).heap = w.heap.modify b (fun | .cells c elem (lo, hi) => .cells c elem (if lo == hi then (vs.length, vs.length + 1) else (min lo vs.length, max hi (vs.length + 1))) | o => o) := by
    unfold World.freeze; rw [if_neg (by decide)]; rfl
  have hother : ∀ j, j ≠ b → (w.freeze ⟨b, vs.length, none⟩ 1).heap[j]? = w.heap[j]? := fun j hj => by
    rw [hfz, Array.getElem?_modify, if_neg (Ne.symm hj)]
  have hthis : (w.freeze ⟨b, vs.length, none⟩ 1).heap[b]? = some (.cells (vs.map SV.val).toArray bt (vs.length, vs.length + 1)) := by
    rw [hfz, Array.getElem?_modify, if_pos rfl, hbk]; rfl
  have hsz : (w.freeze ⟨b, vs.length, none⟩ 1).heap.size = w.heap.size := by rw [hfz]; simp
  have hsame : (w.freeze ⟨b, vs.length, none⟩ 1).os = w.os ∧ (w.freeze ⟨b, vs.length, none⟩ 1).tape = w.tape ∧ (w.freeze ⟨b, vs.length, none⟩ 1).output = w.output := by
    unfold World.freeze; rw [if_neg (by decide)]; exact ⟨rfl, rfl, rfl⟩
  refine SemE.value (.sl (some ⟨b, 0, none⟩) m c) (w' := w.freeze ⟨b, vs.length, none⟩ 1) hd (fun av hav => by simp [execOp, hav.eval hx, SV.val, hrun]) (h _ ?_ ?_)
  · refine ⟨hsame.1.trans hl.os, hsame.2.1.trans hl.tape, hsame.2.2.trans hl.output, by rw [hsz]; exact hl.size, ?_, ?_, hnd.1, fun x hx => hl.inx x (List.mem_append_left _ hx)⟩
    · intro j hj hX
      rw [hother j ?_]
      · exact hl.old j hj hX
      · rintro rfl
        rcases hl.inx (j, bt, vs) (by simp) with h1 | h1
        · exact hX h1
        · exact absurd h1 (Nat.not_le_of_lt hj)
    · intro x hx
      rw [hother x.1 (fun h => hnd.2.2 x.1 (List.mem_map_of_mem hx) b (by simp) h)]
      exact hl.blk x (List.mem_append_left _ hx)
  · intro j v hv
    refine ⟨_, rfl, by rw [hsz]; exact hlt, ?_⟩
    rw [Addr.add_lit, Nat.zero_add]
    simp [World.cell?, hthis, hv]
end

/-- The words of the first state, the first i of them turned. -/
def mx (i : Nat) : List SV := (List.range 8).map fun j => .u64 (if j < i then g8 i512 j ^^^ 0xa5a5a5a5a5a5a5a5#64 else g8 i512 j)
theorem mx_get (i : Nat) {j : Nat} (h : j < 8) : (mx i)[j]? = some (.u64 (if j < i then g8 i512 j ^^^ 0xa5a5a5a5a5a5a5a5#64 else g8 i512 j)) := by simp [mx, h]
theorem mx_len (i : Nat) : (mx i).length = 8 := by simp [mx]
theorem mx_set {i : Nat} (h : i < 8) : (mx i).set i (.u64 (g8 i512 i ^^^ 0xa5a5a5a5a5a5a5a5#64)) = mx (i + 1) := by
  apply List.ext_getElem?
  intro j
  rw [List.getElem?_set, mx_len]
  by_cases hj : j < 8
  · rw [mx_get _ hj, mx_get _ hj]
    by_cases he : i = j
    · subst he; simp [hj]
    · rw [if_neg he]
      by_cases h1 : j < i
      · rw [if_pos h1, if_pos (by omega)]
      · rw [if_neg h1, if_neg (by omega)]
  · rw [if_neg (by omega), List.getElem?_eq_none (by rw [mx_len]; omega), List.getElem?_eq_none (by rw [mx_len]; omega)]
theorem mx_0 : mx 0 = eight i512 := rfl
theorem mx_8 : mx 8 = eight x512 := by kernel_rfl

def name (ki : Kd) : List B8 := match ki with
  | .k256 => nm256 | _ => nm224
theorem name_pad (ki : Kd) : padS 128 16 112 (name ki) = padded (name ki) := by cases ki <;> kernel_rfl
theorem name_len (ki : Kd) : (name ki).length = 11 := by cases ki <;> rfl

set_option maxRecDepth 100000 in
set_option maxHeartbeats 1000000 in
theorem begin64 (ki : Kd) (w : World) : Calls Tryd.prog 21 #[(SV.nat (kdOf ki)).val] w fun e w' => ∃ p c, e = .returned (SV.sl (some p) 8 c).val ∧ Rd w' (some p) (eight (initOf ki)) ∧ Grow w w' := by
  refine calls_E [.nat (kdOf ki)] Tryd.func21 rfl Tryd.ntmps21 rfl ?_
  refine EWp.seqR [0] fun K hK => ?_
  simp only [ev, fx, ↓reduceIte, Nat.reduceEqDiff, Nat.reduceLT, Nat.reduceLeDiff, Nat.reduceAdd, Nat.reduceSub, Nat.reduceMul, Int.reduceLT, Int.reduceLE, Int.reduceToNat, BitVec.reduceOfInt, BitVec.reduceToNat, reduceCtorEq, and_self, decide_true, decide_false, Bool.not_true, Bool.not_false, ne_eq, not_true_eq_false, not_false_eq_true, true_and, and_true]
  repeat (refine And.intro (by omega) ?_)
  refine hK _ _ ?_; clear hK K
  refine EWp.seqR [0, 3] fun K hK => ?_
  simp only [ev, fx, ↓reduceIte, Nat.reduceEqDiff, Nat.reduceLT, Nat.reduceLeDiff, Nat.reduceAdd, Nat.reduceSub, Nat.reduceMul, Int.reduceLT, Int.reduceLE, Int.reduceToNat, BitVec.reduceOfInt, BitVec.reduceToNat, reduceCtorEq, and_self, decide_true, decide_false, Bool.not_true, Bool.not_false, ne_eq, not_true_eq_false, not_false_eq_true, true_and, and_true]
  refine SemE.buildSlice (vs := mx 0) (HL.start w) 31 slof_22 rfl rfl (by omega) rfl fun b0 w1 hb0 hl => ?_
  rw [List.nil_append] at hl
  simp only [ev, fx, ↓reduceIte, Nat.reduceEqDiff, Nat.reduceLT, Nat.reduceLeDiff, Nat.reduceAdd, Nat.reduceSub, Nat.reduceMul, Int.reduceLT, Int.reduceLE, Int.reduceToNat, BitVec.reduceOfInt, BitVec.reduceToNat, reduceCtorEq, and_self, decide_true, decide_false, Bool.not_true, Bool.not_false, ne_eq, not_true_eq_false, not_false_eq_true, true_and, and_true]
  repeat (refine And.intro (by omega) ?_)
  refine hK _ _ ?_; clear hK K
  by_cases hk : ki = .k384
  · subst hk
    refine EWp.cut [] (fun _ _ => False) ?_ (fun _ _ h => h.elim)
    refine EWp.seqR [0, 3, 7] fun K hK => ?_
    simp only [ev, fx, ↓reduceIte, Nat.reduceEqDiff, Nat.reduceLT, Nat.reduceLeDiff, Nat.reduceAdd, Nat.reduceSub, Nat.reduceMul, Int.reduceLT, Int.reduceLE, Int.reduceToNat, BitVec.reduceOfInt, BitVec.reduceToNat, reduceCtorEq, and_self, decide_true, decide_false, Bool.not_true, Bool.not_false, ne_eq, not_true_eq_false, not_false_eq_true, true_and, and_true]
    repeat (refine And.intro (by omega) ?_)
    refine hK _ _ ?_; clear hK K
    refine EWp.block ?_
    refine EWp.brR [0, 3, 7, 8] fun K hK => ?_
    simp only [ev, fx, ↓reduceIte, Nat.reduceEqDiff, Nat.reduceLT, Nat.reduceLeDiff, Nat.reduceAdd, Nat.reduceSub, Nat.reduceMul, Int.reduceLT, Int.reduceLE, Int.reduceToNat, BitVec.reduceOfInt, BitVec.reduceToNat, reduceCtorEq, and_self, decide_true, decide_false, Bool.not_true, Bool.not_false, ne_eq, not_true_eq_false, not_false_eq_true, true_and, and_true, kdOf]
    refine hK _ _ true rfl (fun _ => ?_) (fun h => by cases h); clear hK K
    refine EWp.seqR [2] fun K hK => ?_
    simp only [ev, fx, ↓reduceIte, Nat.reduceEqDiff, Nat.reduceLT, Nat.reduceLeDiff, Nat.reduceAdd, Nat.reduceSub, Nat.reduceMul, Int.reduceLT, Int.reduceLE, Int.reduceToNat, BitVec.reduceOfInt, BitVec.reduceToNat, reduceCtorEq, and_self, decide_true, decide_false, Bool.not_true, Bool.not_false, ne_eq, not_true_eq_false, not_false_eq_true, true_and, and_true]
    refine SemE.buildSlice (vs := eight i384) hl 31 slof_22 rfl rfl (by omega) rfl fun b w2 hb hl => ?_
    simp only [ev, fx, ↓reduceIte, Nat.reduceEqDiff, Nat.reduceLT, Nat.reduceLeDiff, Nat.reduceAdd, Nat.reduceSub, Nat.reduceMul, Int.reduceLT, Int.reduceLE, Int.reduceToNat, BitVec.reduceOfInt, BitVec.reduceToNat, reduceCtorEq, and_self, decide_true, decide_false, Bool.not_true, Bool.not_false, ne_eq, not_true_eq_false, not_false_eq_true, true_and, and_true]
    repeat (refine And.intro (by omega) ?_)
    refine hK _ _ ?_; clear hK K
    have hl := hl.sub (List.sublist_append_right _ _)
    refine EWp.ret ?_
    simp only [BlockE, ThenE]
    exact BodyE.tmp1 rfl rfl ⟨_, _, rfl, Rd.blk hl (k := 0) rfl 0 8, hl.toGrow⟩
  by_cases hk2 : ki = .k512
  · subst hk2
    refine EWp.cut [] (fun _ _ => False) ?_ (fun _ _ h => h.elim)
    refine EWp.seqR [0, 3, 7] fun K hK => ?_
    simp only [ev, fx, ↓reduceIte, Nat.reduceEqDiff, Nat.reduceLT, Nat.reduceLeDiff, Nat.reduceAdd, Nat.reduceSub, Nat.reduceMul, Int.reduceLT, Int.reduceLE, Int.reduceToNat, BitVec.reduceOfInt, BitVec.reduceToNat, reduceCtorEq, and_self, decide_true, decide_false, Bool.not_true, Bool.not_false, ne_eq, not_true_eq_false, not_false_eq_true, true_and, and_true]
    repeat (refine And.intro (by omega) ?_)
    refine hK _ _ ?_; clear hK K
    refine EWp.block ?_
    refine EWp.brR [0, 3, 7, 8] fun K hK => ?_
    simp only [ev, fx, ↓reduceIte, Nat.reduceEqDiff, Nat.reduceLT, Nat.reduceLeDiff, Nat.reduceAdd, Nat.reduceSub, Nat.reduceMul, Int.reduceLT, Int.reduceLE, Int.reduceToNat, BitVec.reduceOfInt, BitVec.reduceToNat, reduceCtorEq, and_self, decide_true, decide_false, Bool.not_true, Bool.not_false, ne_eq, not_true_eq_false, not_false_eq_true, true_and, and_true, kdOf]
    refine hK _ _ false rfl (fun h => by cases h) (fun _ => ?_); clear hK K
    refine EWp.brR [0, 3, 7, 11] fun K hK => ?_
    simp only [ev, fx, ↓reduceIte, Nat.reduceEqDiff, Nat.reduceLT, Nat.reduceLeDiff, Nat.reduceAdd, Nat.reduceSub, Nat.reduceMul, Int.reduceLT, Int.reduceLE, Int.reduceToNat, BitVec.reduceOfInt, BitVec.reduceToNat, reduceCtorEq, and_self, decide_true, decide_false, Bool.not_true, Bool.not_false, ne_eq, not_true_eq_false, not_false_eq_true, true_and, and_true, kdOf]
    refine hK _ _ true rfl (fun _ => ?_) (fun h => by cases h); clear hK K
    refine EWp.seqR [2] fun K hK => ?_
    simp only [ev, fx, ↓reduceIte, Nat.reduceEqDiff, Nat.reduceLT, Nat.reduceLeDiff, Nat.reduceAdd, Nat.reduceSub, Nat.reduceMul, Int.reduceLT, Int.reduceLE, Int.reduceToNat, BitVec.reduceOfInt, BitVec.reduceToNat, reduceCtorEq, and_self, decide_true, decide_false, Bool.not_true, Bool.not_false, ne_eq, not_true_eq_false, not_false_eq_true, true_and, and_true]
    repeat (refine And.intro (by omega) ?_)
    refine hK _ _ ?_; clear hK K
    refine EWp.ret ?_
    simp only [BlockE, ThenE]
    rw [mx_0] at hl
    exact BodyE.tmp1 rfl rfl ⟨_, _, rfl, Rd.blk hl (k := 0) rfl 0 8, hl.toGrow⟩
  have hkd : kdOf ki = 4 ∨ kdOf ki = 5 := by cases ki <;> first | exact absurd rfl hk | exact absurd rfl hk2 | (simp [kdOf])
  have hk20 : ¬ kdOf ki = 2 := by omega
  have hk30 : ¬ kdOf ki = 3 := by omega
  refine EWp.cut [0, 3] (fun S' w' => S' = [(0, .nat (kdOf ki)), (3, .sl (some ⟨b0, 0, none⟩) 8 8)] ∧ w' = w1) ?_ ?_
  case refine_1 =>
    refine EWp.seqR [0, 3, 7] fun K hK => ?_
    simp only [ev, fx, ↓reduceIte, Nat.reduceEqDiff, Nat.reduceLT, Nat.reduceLeDiff, Nat.reduceAdd, Nat.reduceSub, Nat.reduceMul, Int.reduceLT, Int.reduceLE, Int.reduceToNat, BitVec.reduceOfInt, BitVec.reduceToNat, reduceCtorEq, and_self, decide_true, decide_false, Bool.not_true, Bool.not_false, ne_eq, not_true_eq_false, not_false_eq_true, true_and, and_true]
    repeat (refine And.intro (by omega) ?_)
    refine hK _ _ ?_; clear hK K
    refine EWp.block ?_
    refine EWp.brR [0, 3, 7, 8] fun K hK => ?_
    simp only [ev, fx, ↓reduceIte, Nat.reduceEqDiff, Nat.reduceLT, Nat.reduceLeDiff, Nat.reduceAdd, Nat.reduceSub, Nat.reduceMul, Int.reduceLT, Int.reduceLE, Int.reduceToNat, BitVec.reduceOfInt, BitVec.reduceToNat, reduceCtorEq, and_self, decide_true, decide_false, Bool.not_true, Bool.not_false, ne_eq, not_true_eq_false, not_false_eq_true, true_and, and_true, hk20]
    refine hK _ _ false rfl (fun h => by cases h) (fun _ => ?_); clear hK K
    refine EWp.brR [0, 3, 11] fun K hK => ?_
    simp only [ev, fx, ↓reduceIte, Nat.reduceEqDiff, Nat.reduceLT, Nat.reduceLeDiff, Nat.reduceAdd, Nat.reduceSub, Nat.reduceMul, Int.reduceLT, Int.reduceLE, Int.reduceToNat, BitVec.reduceOfInt, BitVec.reduceToNat, reduceCtorEq, and_self, decide_true, decide_false, Bool.not_true, Bool.not_false, ne_eq, not_true_eq_false, not_false_eq_true, true_and, and_true, hk30]
    refine hK _ _ false rfl (fun h => by cases h) (fun _ => ?_); clear hK K
    refine EWp.skip ?_
    simp only [BlockE, ThenE]
    exact ⟨rfl, trivial⟩
  rintro S' w' ⟨rfl, hw⟩
  rw [hw]; clear hw w'
  refine EWp.cut [0, 3] (fun S' w' => S' = [(0, .nat (kdOf ki)), (3, .sl (some ⟨b0, 0, none⟩) 8 8)] ∧ HL w w' [] [(b0, 31, eight x512)]) ?_ ?_
  case refine_1 =>
    refine EWp.seqR [0, 3, 15, 16] fun K hK => ?_
    simp only [ev, fx, ↓reduceIte, Nat.reduceEqDiff, Nat.reduceLT, Nat.reduceLeDiff, Nat.reduceAdd, Nat.reduceSub, Nat.reduceMul, Int.reduceLT, Int.reduceLE, Int.reduceToNat, BitVec.reduceOfInt, BitVec.reduceToNat, reduceCtorEq, and_self, decide_true, decide_false, Bool.not_true, Bool.not_false, ne_eq, not_true_eq_false, not_false_eq_true, true_and, and_true]
    repeat (refine And.intro (by omega) ?_)
    refine hK _ _ ?_; clear hK K
    refine EWp.block ?_
    refine EWp.loop [0, 3, 15, 16] (fun k S' w' => ∃ i, i ≤ 8 ∧ k = 8 - i ∧ S' = [(0, .nat (kdOf ki)), (3, .sl (some ⟨b0, 0, none⟩) 8 8), (15, .nat 8), (16, .nat i)] ∧ HL w w' [] [(b0, 31, mx i)]) 8 ?_ ?_
    case refine_1 => exact ⟨0, by omega, rfl, rfl, hl⟩
    clear hl
    rintro k S' w' ⟨i, hi, rfl, rfl, hl⟩
    refine EWp.seqR [0, 3, 15, 16, 17] fun K hK => ?_
    simp only [ev, fx, ↓reduceIte, Nat.reduceEqDiff, Nat.reduceLT, Nat.reduceLeDiff, Nat.reduceAdd, Nat.reduceSub, Nat.reduceMul, Int.reduceLT, Int.reduceLE, Int.reduceToNat, BitVec.reduceOfInt, BitVec.reduceToNat, reduceCtorEq, and_self, decide_true, decide_false, Bool.not_true, Bool.not_false, ne_eq, not_true_eq_false, not_false_eq_true, true_and, and_true]
    repeat (refine And.intro (by omega) ?_)
    refine hK _ _ ?_; clear hK K
    refine EWp.guard (b := decide (i < 8)) rfl (fun hlt => ?_) (fun hlt => ?_)
    case refine_2 =>
      have hlt := of_decide_eq_false hlt
      obtain rfl : i = 8 := by omega
      simp only [BlockE, ThenE, ↓reduceIte]
      rw [← mx_8]
      exact ⟨rfl, hl⟩
    have hlt := of_decide_eq_true hlt
    refine EWp.cut [0, 3, 15, 16] (fun S' w' => S' = [(0, .nat (kdOf ki)), (3, .sl (some ⟨b0, 0, none⟩) 8 8), (15, .nat 8), (16, .nat i)] ∧ HL w w' [] [(b0, 31, mx (i + 1))]) ?_ ?_
    case refine_2 =>
      clear hl
      rintro S' w' ⟨rfl, hl⟩
      refine EWp.regR [0, 3, 15, 16] fun K hK => ?_
      simp only [ev, fx, ↓reduceIte, Nat.reduceEqDiff, Nat.reduceLT, Nat.reduceLeDiff, Nat.reduceAdd, Nat.reduceSub, Nat.reduceMul, Int.reduceLT, Int.reduceLE, Int.reduceToNat, BitVec.reduceOfInt, BitVec.reduceToNat, reduceCtorEq, and_self, decide_true, decide_false, Bool.not_true, Bool.not_false, ne_eq, not_true_eq_false, not_false_eq_true, true_and, and_true]
      exact ⟨by omega, hK _ _ fun S1 h1 => ⟨8 - i - 1, by omega, i + 1, by omega, by omega, h1, hl⟩⟩
    refine EWp.block ?_
    refine EWp.seqR [0, 3, 4, 15, 16] fun K hK => ?_
    simp only [ev, fx, ↓reduceIte, Nat.reduceEqDiff, Nat.reduceLT, Nat.reduceLeDiff, Nat.reduceAdd, Nat.reduceSub, Nat.reduceMul, Int.reduceLT, Int.reduceLE, Int.reduceToNat, BitVec.reduceOfInt, BitVec.reduceToNat, reduceCtorEq, and_self, decide_true, decide_false, Bool.not_true, Bool.not_false, ne_eq, not_true_eq_false, not_false_eq_true, true_and, and_true]
    repeat (refine And.intro (by omega) ?_)
    refine hK _ _ ?_; clear hK K
    refine EWp.regR [0, 3, 15, 16] fun K hK => ?_
    simp only [ev, fx, ↓reduceIte, Nat.reduceEqDiff, Nat.reduceLT, Nat.reduceLeDiff, Nat.reduceAdd, Nat.reduceSub, Nat.reduceMul, Int.reduceLT, Int.reduceLE, Int.reduceToNat, BitVec.reduceOfInt, BitVec.reduceToNat, reduceCtorEq, and_self, decide_true, decide_false, Bool.not_true, Bool.not_false, ne_eq, not_true_eq_false, not_false_eq_true, true_and, and_true]
    repeat (refine And.intro (by omega) ?_)
    refine SemE.loadB (v := .u64 (g8 i512 i)) hl 0 rfl one_31 rfl rfl (by rw [mx_get _ hlt, if_neg (Nat.lt_irrefl i)]) ?_
    simp only [ev, fx, ↓reduceIte, Nat.reduceEqDiff, Nat.reduceLT, Nat.reduceLeDiff, Nat.reduceAdd, Nat.reduceSub, Nat.reduceMul, Int.reduceLT, Int.reduceLE, Int.reduceToNat, BitVec.reduceOfInt, BitVec.reduceToNat, reduceCtorEq, and_self, decide_true, decide_false, Bool.not_true, Bool.not_false, ne_eq, not_true_eq_false, not_false_eq_true, true_and, and_true]
    repeat (refine And.intro (by omega) ?_)
    refine SemE.storeB hl 0 rfl rfl one_31 rfl rfl (by rw [mx_len]; omega) fun w' hl => ?_
    rw [List.set_cons_zero, mx_set hlt] at hl
    simp only [ev, fx, ↓reduceIte, Nat.reduceEqDiff, Nat.reduceLT, Nat.reduceLeDiff, Nat.reduceAdd, Nat.reduceSub, Nat.reduceMul, Int.reduceLT, Int.reduceLE, Int.reduceToNat, BitVec.reduceOfInt, BitVec.reduceToNat, reduceCtorEq, and_self, decide_true, decide_false, Bool.not_true, Bool.not_false, ne_eq, not_true_eq_false, not_false_eq_true, true_and, and_true]
    refine hK _ _ fun S1 h1 => ?_; clear hK K
    simp only [BlockE, ThenE]
    exact ⟨h1, hl⟩
  clear hl
  rintro S' w' ⟨rfl, hl⟩
  refine EWp.seqR [0, 3, 5] fun K hK => ?_
  simp only [ev, fx, ↓reduceIte, Nat.reduceEqDiff, Nat.reduceLT, Nat.reduceLeDiff, Nat.reduceAdd, Nat.reduceSub, Nat.reduceMul, Int.reduceLT, Int.reduceLE, Int.reduceToNat, BitVec.reduceOfInt, BitVec.reduceToNat, reduceCtorEq, and_self, decide_true, decide_false, Bool.not_true, Bool.not_false, ne_eq, not_true_eq_false, not_false_eq_true, true_and, and_true]
  refine SemE.buildSlice (vs := nm224.map SV.u8) hl 5 slof_23 rfl rfl (by omega) rfl fun b1 w2 hb1 hl => ?_
  simp only [ev, fx, ↓reduceIte, Nat.reduceEqDiff, Nat.reduceLT, Nat.reduceLeDiff, Nat.reduceAdd, Nat.reduceSub, Nat.reduceMul, Int.reduceLT, Int.reduceLE, Int.reduceToNat, BitVec.reduceOfInt, BitVec.reduceToNat, reduceCtorEq, and_self, decide_true, decide_false, Bool.not_true, Bool.not_false, ne_eq, not_true_eq_false, not_false_eq_true, true_and, and_true]
  refine SemE.convBytes hl bsl_23 kind_5 rfl rfl fun w3 hl hrn => ?_
  simp only [ev, fx, ↓reduceIte, Nat.reduceEqDiff, Nat.reduceLT, Nat.reduceLeDiff, Nat.reduceAdd, Nat.reduceSub, Nat.reduceMul, Int.reduceLT, Int.reduceLE, Int.reduceToNat, BitVec.reduceOfInt, BitVec.reduceToNat, reduceCtorEq, and_self, decide_true, decide_false, Bool.not_true, Bool.not_false, ne_eq, not_true_eq_false, not_false_eq_true, true_and, and_true]
  repeat (refine And.intro (by omega) ?_)
  refine hK _ _ ?_; clear hK K
  refine EWp.cut [3, 5] (fun S' w' => ∃ b2, S' = [(3, .sl (some ⟨b0, 0, none⟩) 8 8), (5, .sl (some ⟨b2, 0, none⟩) 11 11)] ∧ Rd w' (some ⟨b2, 0, none⟩) ((name ki).map SV.u8) ∧ HL w w' [] [(b0, 31, eight x512)]) ?_ ?_
  case refine_1 =>
    refine EWp.brR [3, 5, 29] fun K hK => ?_
    simp only [ev, fx, ↓reduceIte, Nat.reduceEqDiff, Nat.reduceLT, Nat.reduceLeDiff, Nat.reduceAdd, Nat.reduceSub, Nat.reduceMul, Int.reduceLT, Int.reduceLE, Int.reduceToNat, BitVec.reduceOfInt, BitVec.reduceToNat, reduceCtorEq, and_self, decide_true, decide_false, Bool.not_true, Bool.not_false, ne_eq, not_true_eq_false, not_false_eq_true, true_and, and_true]
    refine hK _ _ (decide (kdOf ki = 5)) rfl (fun h => ?_) (fun h => ?_) <;> clear hK K
    · have h := of_decide_eq_true h
      obtain rfl : ki = .k256 := by cases ki <;> first | rfl | (simp [kdOf] at h)
      refine EWp.regR [3, 5] fun K hK => ?_
      simp only [ev, fx, ↓reduceIte, Nat.reduceEqDiff, Nat.reduceLT, Nat.reduceLeDiff, Nat.reduceAdd, Nat.reduceSub, Nat.reduceMul, Int.reduceLT, Int.reduceLE, Int.reduceToNat, BitVec.reduceOfInt, BitVec.reduceToNat, reduceCtorEq, and_self, decide_true, decide_false, Bool.not_true, Bool.not_false, ne_eq, not_true_eq_false, not_false_eq_true, true_and, and_true]
      refine SemE.buildSlice (vs := nm256.map SV.u8) hl 5 slof_23 rfl rfl (by omega) rfl fun b2 w4 hb2 hl => ?_
      simp only [ev, fx, ↓reduceIte, Nat.reduceEqDiff, Nat.reduceLT, Nat.reduceLeDiff, Nat.reduceAdd, Nat.reduceSub, Nat.reduceMul, Int.reduceLT, Int.reduceLE, Int.reduceToNat, BitVec.reduceOfInt, BitVec.reduceToNat, reduceCtorEq, and_self, decide_true, decide_false, Bool.not_true, Bool.not_false, ne_eq, not_true_eq_false, not_false_eq_true, true_and, and_true]
      refine SemE.convBytes hl bsl_23 kind_5 rfl rfl fun w5 hl hrn => ?_
      simp only [ev, fx, ↓reduceIte, Nat.reduceEqDiff, Nat.reduceLT, Nat.reduceLeDiff, Nat.reduceAdd, Nat.reduceSub, Nat.reduceMul, Int.reduceLT, Int.reduceLE, Int.reduceToNat, BitVec.reduceOfInt, BitVec.reduceToNat, reduceCtorEq, and_self, decide_true, decide_false, Bool.not_true, Bool.not_false, ne_eq, not_true_eq_false, not_false_eq_true, true_and, and_true]
      refine hK _ _ fun S1 h1 => ?_; clear hK K
      simp only [ThenE]
      exact ⟨b2, h1, hrn, hl⟩
    · have h := of_decide_eq_false h
      obtain rfl : ki = .k224 := by cases ki <;> first | rfl | exact absurd rfl hk | exact absurd rfl hk2 | (simp [kdOf] at h)
      refine EWp.skip ?_
      simp only [ThenE]
      exact ⟨b1, rfl, hrn, hl⟩
  clear hl hrn
  rintro S' w' ⟨b2, rfl, hrn, hl⟩
  refine EWp.seqR [2] fun K hK => ?_
  simp only [ev, fx, ↓reduceIte, Nat.reduceEqDiff, Nat.reduceLT, Nat.reduceLeDiff, Nat.reduceAdd, Nat.reduceSub, Nat.reduceMul, Int.reduceLT, Int.reduceLE, Int.reduceToNat, BitVec.reduceOfInt, BitVec.reduceToNat, reduceCtorEq, and_self, decide_true, decide_false, Bool.not_true, Bool.not_false, ne_eq, not_true_eq_false, not_false_eq_true, true_and, and_true]
  refine SemE.call fn_27 rfl rfl (padded128 (some ⟨b2, 0, none⟩) 11 11 (name ki) _ hrn (name_len ki) (fun h => by cases h) (by omega)) ?_
  rintro _ w3 ⟨v3, B3, rfl, ho3, hl3⟩
  refine ⟨_, rfl, ?_⟩
  rw [name_pad] at ho3
  have hpl : (padded (name ki)).length = 128 := by simp [padded, name_len]
  rw [hpl] at ho3
  obtain ⟨bv, cv, rfl, hcv⟩ := ho3.pos (by omega)
  have hrd := ho3.rd (H := []) (by rw [List.append_nil]; exact hl3) rfl
  have hg := hl.toGrow.trans hl3.toGrow
  have hrh := (Rd.blk hl (k := 0) rfl 0 8).grow hl3.toGrow
  simp only [ev, fx, ↓reduceIte, Nat.reduceEqDiff, Nat.reduceLT, Nat.reduceLeDiff, Nat.reduceAdd, Nat.reduceSub, Nat.reduceMul, Int.reduceLT, Int.reduceLE, Int.reduceToNat, BitVec.reduceOfInt, BitVec.reduceToNat, reduceCtorEq, and_self, decide_true, decide_false, Bool.not_true, Bool.not_false, ne_eq, not_true_eq_false, not_false_eq_true, true_and, and_true]
  refine SemE.call fn_34 rfl rfl (specBlock3 x512 ⟨b0, 0, none⟩ 8 ⟨bv, 0, none⟩ 128 cv (padded (name ki)) _ hrh hrd hpl (by omega) hcv (by omega)) ?_
  rintro _ w4 ⟨p4, c4, rfl, hp4, hg4⟩
  refine ⟨_, rfl, ?_⟩
  simp only [ev, fx, ↓reduceIte, Nat.reduceEqDiff, Nat.reduceLT, Nat.reduceLeDiff, Nat.reduceAdd, Nat.reduceSub, Nat.reduceMul, Int.reduceLT, Int.reduceLE, Int.reduceToNat, BitVec.reduceOfInt, BitVec.reduceToNat, reduceCtorEq, and_self, decide_true, decide_false, Bool.not_true, Bool.not_false, ne_eq, not_true_eq_false, not_false_eq_true, true_and, and_true]
  repeat (refine And.intro (by omega) ?_)
  refine hK _ _ ?_; clear hK K
  have hbl : blk x512 (padded (name ki)) = initOf ki := by
    cases ki
    · exact absurd rfl hk
    · exact absurd rfl hk2
    · exact blk224
    · exact blk256
  rw [hbl] at hp4
  exact EWp.ret (BodyE.tmp1 rfl rfl ⟨p4, c4, rfl, hp4, hg.trans hg4⟩)

def wordsB (xs : List Wd) : List B8 := (xs.map bytes8).flatten
theorem wordsB_take_succ (xs : List Wd) (i : Nat) (hi : i < xs.length) : wordsB (xs.take (i + 1)) = wordsB (xs.take i) ++ bytes8 (xs.getD i 0) := by
  unfold wordsB
  rw [List.take_succ_eq_append_getElem hi, List.map_append, List.flatten_append]
  simp [List.getD_eq_getElem?_getD, hi]
theorem wordsB_len (xs : List Wd) : (wordsB xs).length = 8 * xs.length := by
  induction xs with
  | nil => rfl
  | cons x xs ih => simp [wordsB] at ih ⊢; simp [bytes8, ih]; omega
theorem wordsB_eight (s : S8) : wordsB [s.a, s.b, s.c, s.d, s.e, s.f, s.g, s.h] = sumB s := by simp [wordsB, sumB]
def b8L (x : Wd) (j : Nat) : List B8 := (List.range j).map (be8 x)
theorem b8L_succ (x : Wd) (j : Nat) : b8L x (j + 1) = b8L x j ++ [be8 x j] := by simp [b8L, List.range_succ]

set_option maxRecDepth 100000 in
set_option maxHeartbeats 1000000 in
theorem words64C (p : Addr) (n c : Nat) (xs : List Wd) (w : World) (hr : Rd w (some p) (xs.map SV.u64)) (hn : xs.length = n) (hbig : n ≤ 1000) :
    Calls Tryd.prog 28 #[(SV.sl (some p) n c).val] w fun e w' => ∃ v B, e = .returned v.val ∧ Own 5 1 v (wordsB xs).length ((wordsB xs).map SV.u8) B ∧ HL w w' [] B := by
  refine calls_E [.sl (some p) n c] Tryd.func28 rfl Tryd.ntmps28 rfl ?_
  refine EWp.seqR [0] fun K hK => ?_
  simp only [ev, fx, ↓reduceIte, Nat.reduceEqDiff, Nat.reduceLT, Nat.reduceLeDiff, Nat.reduceAdd, Nat.reduceSub, Nat.reduceMul, Int.reduceLT, Int.reduceLE, Int.reduceToNat, BitVec.reduceOfInt, BitVec.reduceToNat, reduceCtorEq, and_self, decide_true, decide_false, Bool.not_true, Bool.not_false, ne_eq, not_true_eq_false, not_false_eq_true, true_and, and_true]
  repeat (refine And.intro (by omega) ?_)
  refine hK _ _ ?_; clear hK K
  refine EWp.seqR [0, 3] fun K hK => ?_
  simp only [ev, fx, ↓reduceIte, Nat.reduceEqDiff, Nat.reduceLT, Nat.reduceLeDiff, Nat.reduceAdd, Nat.reduceSub, Nat.reduceMul, Int.reduceLT, Int.reduceLE, Int.reduceToNat, BitVec.reduceOfInt, BitVec.reduceToNat, reduceCtorEq, and_self, decide_true, decide_false, Bool.not_true, Bool.not_false, ne_eq, not_true_eq_false, not_false_eq_true, true_and, and_true]
  refine SemE.buildSlice (vs := []) (HL.start w) 5 slof_23 rfl rfl (by omega) rfl fun b0 w1 hb0 hl => ?_
  have ho : Own 5 1 (.sl (some ⟨b0, 0, none⟩) 0 0) 0 ([] : List SV) [(b0, 5, [])] := Own.full rfl (by unfold maxLen; omega)
  have hl : HL w w1 [] [(b0, 5, [])] := hl
  generalize ([(b0, 5, [])] : List Blk) = B at ho hl
  generalize (SV.sl (some ⟨b0, 0, none⟩) 0 0) = v at ho ⊢
  simp only [ev, fx, ↓reduceIte, Nat.reduceEqDiff, Nat.reduceLT, Nat.reduceLeDiff, Nat.reduceAdd, Nat.reduceSub, Nat.reduceMul, Int.reduceLT, Int.reduceLE, Int.reduceToNat, BitVec.reduceOfInt, BitVec.reduceToNat, reduceCtorEq, and_self, decide_true, decide_false, Bool.not_true, Bool.not_false, ne_eq, not_true_eq_false, not_false_eq_true, true_and, and_true]
  repeat (refine And.intro (by omega) ?_)
  refine hK _ _ ?_; clear hK K
  refine EWp.cut [3] (fun S' w' => ∃ v B, S' = [(3, v)] ∧ Own 5 1 v (wordsB xs).length ((wordsB xs).map SV.u8) B ∧ HL w w' [] B) ?_ ?_
  case refine_2 =>
    clear hl ho
    rintro S' w' ⟨v, B, rfl, ho, hl⟩
    refine EWp.seqR [2] fun K hK => ?_
    simp only [ev, fx, ↓reduceIte, Nat.reduceEqDiff, Nat.reduceLT, Nat.reduceLeDiff, Nat.reduceAdd, Nat.reduceSub, Nat.reduceMul, Int.reduceLT, Int.reduceLE, Int.reduceToNat, BitVec.reduceOfInt, BitVec.reduceToNat, reduceCtorEq, and_self, decide_true, decide_false, Bool.not_true, Bool.not_false, ne_eq, not_true_eq_false, not_false_eq_true, true_and, and_true]
    repeat (refine And.intro (by omega) ?_)
    refine hK _ _ ?_; clear hK K
    exact EWp.ret (BodyE.tmp1 rfl rfl ⟨v, B, rfl, ho, hl⟩)
  refine EWp.seqR [3, 8, 9, 10] fun K hK => ?_
  simp only [ev, fx, ↓reduceIte, Nat.reduceEqDiff, Nat.reduceLT, Nat.reduceLeDiff, Nat.reduceAdd, Nat.reduceSub, Nat.reduceMul, Int.reduceLT, Int.reduceLE, Int.reduceToNat, BitVec.reduceOfInt, BitVec.reduceToNat, reduceCtorEq, and_self, decide_true, decide_false, Bool.not_true, Bool.not_false, ne_eq, not_true_eq_false, not_false_eq_true, true_and, and_true]
  repeat (refine And.intro (by omega) ?_)
  refine hK _ _ ?_; clear hK K
  refine EWp.block ?_
  refine EWp.loop [3, 8, 9, 10] (fun k S' w' => ∃ i v B, i ≤ n ∧ k = n - i ∧ S' = [(3, v), (8, .sl (some p) n c), (9, .nat n), (10, .nat i)] ∧ Own 5 1 v (8 * i) ((wordsB (xs.take i)).map SV.u8) B ∧ HL w w' [] B) n ?_ ?_
  case refine_1 => exact ⟨0, v, B, by omega, rfl, rfl, ho, hl⟩
  clear hl ho
  rintro k S' w' ⟨i, v, B, hi, rfl, rfl, ho, hl⟩
  refine EWp.seqR [3, 8, 9, 10, 11] fun K hK => ?_
  simp only [ev, fx, ↓reduceIte, Nat.reduceEqDiff, Nat.reduceLT, Nat.reduceLeDiff, Nat.reduceAdd, Nat.reduceSub, Nat.reduceMul, Int.reduceLT, Int.reduceLE, Int.reduceToNat, BitVec.reduceOfInt, BitVec.reduceToNat, reduceCtorEq, and_self, decide_true, decide_false, Bool.not_true, Bool.not_false, ne_eq, not_true_eq_false, not_false_eq_true, true_and, and_true]
  repeat (refine And.intro (by omega) ?_)
  refine hK _ _ ?_; clear hK K
  refine EWp.guard (b := decide (i < n)) rfl (fun hlt => ?_) (fun hlt => ?_)
  case refine_2 =>
    have hlt := of_decide_eq_false hlt
    simp only [BlockE, ThenE, ↓reduceIte]
    have : xs.take i = xs := List.take_of_length_le (by omega)
    rw [this] at ho
    refine ⟨v, B, rfl, ?_, hl⟩
    rw [wordsB_len, hn, show n = i by omega]
    exact ho
  have hlt := of_decide_eq_true hlt
  have hsucc := wordsB_take_succ xs i (by omega)
  have hx : (xs.map SV.u64)[i]? = some (.u64 (xs.getD i 0)) := by simp [show i < xs.length by omega]
  have hcell := (hr.grow hl.toGrow).at hx
  generalize xs.getD i 0 = x at hsucc hcell
  generalize wordsB (xs.take i) = pre at hsucc ho
  refine EWp.cut [3, 8, 9, 10] (fun S' w' => ∃ v B, S' = [(3, v), (8, .sl (some p) n c), (9, .nat n), (10, .nat i)] ∧ Own 5 1 v (8 * (i + 1)) ((wordsB (xs.take (i + 1))).map SV.u8) B ∧ HL w w' [] B) ?_ ?_
  case refine_2 =>
    clear hl ho
    rintro S' w' ⟨v, B, rfl, ho, hl⟩
    refine EWp.regR [3, 8, 9, 10] fun K hK => ?_
    simp only [ev, fx, ↓reduceIte, Nat.reduceEqDiff, Nat.reduceLT, Nat.reduceLeDiff, Nat.reduceAdd, Nat.reduceSub, Nat.reduceMul, Int.reduceLT, Int.reduceLE, Int.reduceToNat, BitVec.reduceOfInt, BitVec.reduceToNat, reduceCtorEq, and_self, decide_true, decide_false, Bool.not_true, Bool.not_false, ne_eq, not_true_eq_false, not_false_eq_true, true_and, and_true]
    exact ⟨by omega, hK _ _ fun S1 h1 => ⟨n - i - 1, by omega, i + 1, v, B, by omega, by omega, h1, ho, hl⟩⟩
  refine EWp.block ?_
  refine EWp.seqR [3, 5, 8, 9, 10] fun K hK => ?_
  simp only [ev, fx, ↓reduceIte, Nat.reduceEqDiff, Nat.reduceLT, Nat.reduceLeDiff, Nat.reduceAdd, Nat.reduceSub, Nat.reduceMul, Int.reduceLT, Int.reduceLE, Int.reduceToNat, BitVec.reduceOfInt, BitVec.reduceToNat, reduceCtorEq, and_self, decide_true, decide_false, Bool.not_true, Bool.not_false, ne_eq, not_true_eq_false, not_false_eq_true, true_and, and_true]
  refine ⟨by omega, SemE.load (.u64 x) rfl one_31 rfl hcell ?_⟩
  simp only [ev, fx, ↓reduceIte, Nat.reduceEqDiff, Nat.reduceLT, Nat.reduceLeDiff, Nat.reduceAdd, Nat.reduceSub, Nat.reduceMul, Int.reduceLT, Int.reduceLE, Int.reduceToNat, BitVec.reduceOfInt, BitVec.reduceToNat, reduceCtorEq, and_self, decide_true, decide_false, Bool.not_true, Bool.not_false, ne_eq, not_true_eq_false, not_false_eq_true, true_and, and_true]
  repeat (refine And.intro (by omega) ?_)
  refine hK _ _ ?_; clear hK K
  refine EWp.seqR [3, 5, 6, 8, 9, 10] fun K hK => ?_
  simp only [ev, fx, ↓reduceIte, Nat.reduceEqDiff, Nat.reduceLT, Nat.reduceLeDiff, Nat.reduceAdd, Nat.reduceSub, Nat.reduceMul, Int.reduceLT, Int.reduceLE, Int.reduceToNat, BitVec.reduceOfInt, BitVec.reduceToNat, reduceCtorEq, and_self, decide_true, decide_false, Bool.not_true, Bool.not_false, ne_eq, not_true_eq_false, not_false_eq_true, true_and, and_true]
  repeat (refine And.intro (by omega) ?_)
  refine hK _ _ ?_; clear hK K
  refine EWp.recast [(3, v), (5, .u64 x), (6, .int 56), (8, .sl (some p) n c), (9, .nat n), (10, .nat i)] ⟨rfl, rfl, rfl, rfl, rfl, rfl, rfl, rfl, rfl, rfl, rfl, rfl, trivial⟩ ?_
  refine EWp.block ?_
  refine EWp.loop [3, 5, 6, 8, 9, 10] (fun k S' w' => ∃ (j : Nat) (z : Int) (v : SV) (B : List Blk), j ≤ 8 ∧ k = 8 - j ∧ z = 56 - 8 * (j : Int) ∧ S' = [(3, v), (5, .u64 x), (6, .int z), (8, .sl (some p) n c), (9, .nat n), (10, .nat i)] ∧ Own 5 1 v (8 * i + j) ((pre ++ b8L x j).map SV.u8) B ∧ HL w w' [] B) 8 ?_ ?_
  case refine_1 => exact ⟨0, 56, v, B, by omega, rfl, by omega, rfl, by simpa [b8L] using ho, hl⟩
  clear hl ho hcell
  rintro k S' w' ⟨j, z, v, B, hj, rfl, hz, rfl, ho, hl⟩
  refine EWp.headR [3, 5, 6, 8, 9, 10, 15] fun K hK => ?_
  simp only [ev, fx, ↓reduceIte, Nat.reduceEqDiff, Nat.reduceLT, Nat.reduceLeDiff, Nat.reduceAdd, Nat.reduceSub, Nat.reduceMul, Int.reduceLT, Int.reduceLE, Int.reduceToNat, BitVec.reduceOfInt, BitVec.reduceToNat, reduceCtorEq, and_self, decide_true, decide_false, Bool.not_true, Bool.not_false, ne_eq, not_true_eq_false, not_false_eq_true, true_and, and_true]
  refine hK _ _ (decide (((0 : Nat) : Int) ≤ z)) rfl (fun hlt2 => ?_) (fun hlt2 => ?_) <;> clear hK K
  case refine_2 =>
    have hlt2 := of_decide_eq_false hlt2
    obtain rfl : j = 8 := by omega
    simp only [BlockE, ThenE, ↓reduceIte]
    refine ⟨v, B, rfl, ?_, hl⟩
    rw [hsucc]
    exact ho
  have hlt2 := of_decide_eq_true hlt2
  obtain ⟨q, hq⟩ : ∃ q : Nat, q = 56 - 8 * j := ⟨_, rfl⟩
  obtain rfl : z = (q : Int) := by omega
  refine EWp.recast [(3, v), (5, .u64 x), (6, .nat q), (8, .sl (some p) n c), (9, .nat n), (10, .nat i)] ⟨rfl, rfl, rfl, rfl, rfl, rfl, rfl, rfl, rfl, rfl, rfl, rfl, trivial⟩ ?_
  refine EWp.cut [3, 5, 6, 8, 9, 10] (fun S' w' => ∃ v B, S' = [(3, v), (5, .u64 x), (6, .nat q), (8, .sl (some p) n c), (9, .nat n), (10, .nat i)] ∧ Own 5 1 v (8 * i + j + 1) ((pre ++ b8L x (j + 1)).map SV.u8) B ∧ HL w w' [] B) ?_ ?_
  case refine_2 =>
    clear hl ho
    rintro S' w' ⟨v, B, rfl, ho, hl⟩
    refine EWp.recast [(3, v), (5, .u64 x), (6, .int (q : Int)), (8, .sl (some p) n c), (9, .nat n), (10, .nat i)] ⟨rfl, rfl, rfl, rfl, rfl, rfl, rfl, rfl, rfl, rfl, rfl, rfl, trivial⟩ ?_
    refine EWp.regR [3, 5, 6, 8, 9, 10] fun K hK => ?_
    simp only [ev, fx, ↓reduceIte, Nat.reduceEqDiff, Nat.reduceLT, Nat.reduceLeDiff, Nat.reduceAdd, Nat.reduceSub, Nat.reduceMul, Int.reduceLT, Int.reduceLE, Int.reduceToNat, BitVec.reduceOfInt, BitVec.reduceToNat, reduceCtorEq, and_self, decide_true, decide_false, Bool.not_true, Bool.not_false, ne_eq, not_true_eq_false, not_false_eq_true, true_and, and_true]
    repeat (refine And.intro (by omega) ?_)
    exact hK _ _ fun S1 h1 => ⟨8 - j - 1, by omega, j + 1, (q : Int) - ((8 : Nat) : Int), v, B, by omega, by omega, by omega, h1, ho, hl⟩
  refine EWp.block ?_
  refine EWp.regR [3, 5, 6, 8, 9, 10] fun K hK => ?_
  simp only [ev, fx, ↓reduceIte, Nat.reduceEqDiff, Nat.reduceLT, Nat.reduceLeDiff, Nat.reduceAdd, Nat.reduceSub, Nat.reduceMul, Int.reduceLT, Int.reduceLE, Int.reduceToNat, BitVec.reduceOfInt, BitVec.reduceToNat, reduceCtorEq, and_self, decide_true, decide_false, Bool.not_true, Bool.not_false, ne_eq, not_true_eq_false, not_false_eq_true, true_and, and_true]
  refine SemE.buildSlice (vs := [SV.u8 ((x >>> q).setWidth 8)]) hl 5 slof_23 rfl rfl (by omega) rfl fun b1 w2 hb1 hl => ?_
  simp only [ev, fx, ↓reduceIte, Nat.reduceEqDiff, Nat.reduceLT, Nat.reduceLeDiff, Nat.reduceAdd, Nat.reduceSub, Nat.reduceMul, Int.reduceLT, Int.reduceLE, Int.reduceToNat, BitVec.reduceOfInt, BitVec.reduceToNat, reduceCtorEq, and_self, decide_true, decide_false, Bool.not_true, Bool.not_false, ne_eq, not_true_eq_false, not_false_eq_true, true_and, and_true]
  have hr1 : Rd w2 (some ⟨b1, 0, none⟩) [SV.u8 ((x >>> q).setWidth 8)] := Rd.blk (hl.sub (List.sublist_append_right _ [(b1, 5, [SV.u8 ((x >>> q).setWidth 8)])])) (k := 0) rfl 0 1
  refine SemE.append hl ho slof_23 rfl rfl rfl hr1 rfl (fun h => by cases h) (by simp [SV.isOne]) (by omega) rfl fun v2 B2 w3 ho hl _ => ?_
  have hl := hl.sub (List.sublist_append_left B2 _)
  simp only [ev, fx, ↓reduceIte, Nat.reduceEqDiff, Nat.reduceLT, Nat.reduceLeDiff, Nat.reduceAdd, Nat.reduceSub, Nat.reduceMul, Int.reduceLT, Int.reduceLE, Int.reduceToNat, BitVec.reduceOfInt, BitVec.reduceToNat, reduceCtorEq, and_self, decide_true, decide_false, Bool.not_true, Bool.not_false, ne_eq, not_true_eq_false, not_false_eq_true, true_and, and_true]
  refine hK _ _ fun S1 h1 => ?_; clear hK K
  simp only [BlockE, ThenE]
  refine ⟨v2, B2, h1, ?_, hl⟩
  have hb : be8 x j = (x >>> q).setWidth 8 := by rw [hq]; rfl
  rw [b8L_succ, hb, ← List.append_assoc, List.map_append]
  exact ho

theorem tail_be (L i : Nat) (hi : i < 8) : tailB 16 L (8 + i) = be8 (BitVec.ofNat 64 L <<< 3) i := by
  unfold tailB be8
  rw [if_pos (by omega)]
  have e1 : 8#64 * BitVec.ofNat 64 L = BitVec.ofNat 64 L <<< 3 := by
    apply BitVec.eq_of_toNat_eq
    simp only [BitVec.toNat_mul, BitVec.toNat_shiftLeft, Nat.shiftLeft_eq]
    show (8 * _) % _ = (_ * 8) % _
    rw [Nat.mul_comm]
  rw [e1, show 8 * (16 - 1 - (8 + i)) = 56 - 8 * i by omega]
theorem padS_padB (T : List B8) : padS 128 16 112 T = T ++ padB T.length := by
  unfold padS padB
  have h1 : tailL 16 T.length 16 = List.replicate 8 0#8 ++ (List.range 8).map (be8 (BitVec.ofNat 64 T.length <<< 3)) := by
    apply List.ext_getElem?
    intro j
    unfold tailL
    by_cases hj : j < 16
    · rw [List.getElem?_map, List.getElem?_range hj, Option.map_some]
      by_cases h8 : j < 8
      · rw [List.getElem?_append_left (by simpa using h8), List.getElem?_replicate, if_pos h8]
        unfold tailB
        rw [if_neg (by omega)]; rfl
      · rw [List.getElem?_append_right (by simp; omega), List.getElem?_map, List.getElem?_range (by simp; omega), Option.map_some, List.length_replicate]
        rw [← tail_be T.length (j - 8) (by omega), show 8 + (j - 8) = j by omega]
    · rw [List.getElem?_eq_none (by simp; omega), List.getElem?_eq_none (by simp; omega)]
  have h2 : zN 128 112 T.length = padT T.length - 1 := by unfold zN padT; split <;> omega
  obtain ⟨h3, _⟩ := padT_pos T.length
  have h4 : List.replicate (padT T.length + 7) 0#8 = List.replicate (padT T.length - 1) 0#8 ++ List.replicate 8 0#8 := by
    rw [List.replicate_append_replicate, show padT T.length - 1 + 8 = padT T.length + 7 by omega]
  rw [h1, h2, h4]
  simp
theorem pad128 (L : Nat) : (L + (padT L + 16)) % 128 = 0 := by unfold padT; split <;> omega

set_option maxRecDepth 100000 in
/-- The blocks of a text. -/
theorem blocks64C (s : S8) (pa : Addr) (cp : Nat) (v : SV) (bs : List B8) (w : World) (hh : Rd w (some pa) (eight s)) (ht : Txt w v bs) (hbig : bs.length ≤ 1000000) :
    Calls Tryd.prog 16 #[(SV.sl (some pa) 8 cp).val, v.val] w fun e w' => ∃ p c, e = .returned (SV.sl (some p) 8 c).val ∧ Rd w' (some p) (eight (blocks s bs)) ∧ Grow w w' := by
  obtain ⟨ap, c, rfl, hc, ha, hr⟩ := ht
  refine calls_E [.sl (some pa) 8 cp, .sl ap bs.length c] Tryd.func16 rfl Tryd.ntmps16 rfl ?_
  refine EWp.seqR [0, 1] fun K hK => ?_
  simp only [ev, fx, ↓reduceIte, Nat.reduceEqDiff, Nat.reduceLT, Nat.reduceLeDiff, Nat.reduceAdd, Nat.reduceSub, Nat.reduceMul, Int.reduceLT, Int.reduceLE, Int.reduceToNat, BitVec.reduceOfInt, BitVec.reduceToNat, reduceCtorEq, and_self, decide_true, decide_false, Bool.not_true, Bool.not_false, ne_eq, not_true_eq_false, not_false_eq_true, true_and, and_true]
  repeat (refine And.intro (by omega) ?_)
  refine hK _ _ ?_; clear hK K
  refine EWp.cut [0] (fun S' w' => ∃ pa cp, S' = [(0, .sl (some pa) 8 cp)] ∧ Rd w' (some pa) (eight (blocks s bs)) ∧ Grow w w') ?_ ?_
  case refine_2 =>
    rintro S' w' ⟨pa, cp, rfl, hpa, hg⟩
    refine EWp.seqR [4] fun K hK => ?_
    simp only [ev, fx, ↓reduceIte, Nat.reduceEqDiff, Nat.reduceLT, Nat.reduceLeDiff, Nat.reduceAdd, Nat.reduceSub, Nat.reduceMul, Int.reduceLT, Int.reduceLE, Int.reduceToNat, BitVec.reduceOfInt, BitVec.reduceToNat, reduceCtorEq, and_self, decide_true, decide_false, Bool.not_true, Bool.not_false, ne_eq, not_true_eq_false, not_false_eq_true, true_and, and_true]
    repeat (refine And.intro (by omega) ?_)
    refine hK _ _ ?_; clear hK K
    exact EWp.ret (BodyE.tmp1 rfl rfl ⟨pa, cp, rfl, hpa, hg⟩)
  refine EWp.block ?_
  refine EWp.loop [0, 1] (fun k S' w' => ∃ (st : S8) (bs' : List B8) (pa : Addr) (cp : Nat) (pp : Option Addr) (cq : Nat), k = bs'.length ∧ blocks st bs' = blocks s bs ∧ bs'.length ≤ cq ∧ bs'.length ≤ 1000000 ∧
    S' = [(0, .sl (some pa) 8 cp), (1, .sl pp bs'.length cq)] ∧ Rd w' (some pa) (eight st) ∧ Rd w' pp (bs'.map SV.u8) ∧ Grow w w') bs.length ?_ ?_
  case refine_1 => exact ⟨s, bs, pa, cp, ap, c, rfl, rfl, hc, hbig, rfl, hh, hr, Grow.refl w⟩
  clear hh hr
  rintro k S' w' ⟨st, bs', pa, cp, pp, cq, rfl, hblk, hcq, hn', rfl, hpa, hpp, hg⟩
  refine EWp.headR [0, 1, 7] fun K hK => ?_
  simp only [ev, fx, ↓reduceIte, Nat.reduceEqDiff, Nat.reduceLT, Nat.reduceLeDiff, Nat.reduceAdd, Nat.reduceSub, Nat.reduceMul, Int.reduceLT, Int.reduceLE, Int.reduceToNat, BitVec.reduceOfInt, BitVec.reduceToNat, reduceCtorEq, and_self, decide_true, decide_false, Bool.not_true, Bool.not_false, ne_eq, not_true_eq_false, not_false_eq_true, true_and, and_true]
  refine hK _ _ (decide (128 ≤ bs'.length)) rfl (fun hlt => ?_) (fun hlt => ?_) <;> clear hK K
  case refine_2 =>
    have hlt := of_decide_eq_false hlt
    rw [blocks_lo st (by omega)] at hblk
    subst hblk
    simp only [BlockE, ThenE, ↓reduceIte]
    exact ⟨pa, cp, rfl, hpa, hg⟩
  have hge := of_decide_eq_true hlt
  obtain ⟨qp, rfl, _, _⟩ := hpp 0 (.u8 (bs'.getD 0 0)) (by simp [show 0 < bs'.length by omega])
  refine EWp.cut [0, 1] (fun S' w' => ∃ pa cp, S' = [(0, .sl (some pa) 8 cp), (1, .sl (some qp) bs'.length cq)] ∧ Rd w' (some pa) (eight (blk st bs')) ∧ Rd w' (some qp) (bs'.map SV.u8) ∧ Grow w w') ?_ ?_
  case refine_2 =>
    clear hg hpa hpp
    rintro S' w' ⟨pa, cp, rfl, hpa, hpp, hg⟩
    refine EWp.regR [0, 1] fun K hK => ?_
    simp only [ev, fx, ↓reduceIte, Nat.reduceEqDiff, Nat.reduceLT, Nat.reduceLeDiff, Nat.reduceAdd, Nat.reduceSub, Nat.reduceMul, Int.reduceLT, Int.reduceLE, Int.reduceToNat, BitVec.reduceOfInt, BitVec.reduceToNat, reduceCtorEq, and_self, decide_true, decide_false, Bool.not_true, Bool.not_false, ne_eq, not_true_eq_false, not_false_eq_true, true_and, and_true]
    repeat (refine And.intro (by omega) ?_)
    refine hK _ _ fun S1 h1 => ?_; clear hK K
    simp only [ThenE]
    refine ⟨bs'.length - 128, by omega, blk st bs', bs'.drop 128, pa, cp, _, cq - 128, by simp, by rw [← blocks_hi st hge, hblk], by simp; omega, by simp; omega, ?_, hpa, by rw [List.map_drop]; exact hpp.drop 128 cq (by simpa using hcq), hg⟩
    rw [h1]
    simp
  refine EWp.block ?_
  refine EWp.regR [0, 1] fun K hK => ?_
  simp only [ev, fx, ↓reduceIte, Nat.reduceEqDiff, Nat.reduceLT, Nat.reduceLeDiff, Nat.reduceAdd, Nat.reduceSub, Nat.reduceMul, Int.reduceLT, Int.reduceLE, Int.reduceToNat, BitVec.reduceOfInt, BitVec.reduceToNat, reduceCtorEq, and_self, decide_true, decide_false, Bool.not_true, Bool.not_false, ne_eq, not_true_eq_false, not_false_eq_true, true_and, and_true, sl0]
  repeat (refine And.intro (by omega) ?_)
  refine SemE.call fn_34 rfl rfl (specBlock3 st pa cp qp 128 cq (bs'.take 128) w' hpa (by rw [List.map_take]; exact hpp.take 128) (by simp; omega) (by omega) (by omega) (by omega)) ?_
  rintro _ w2 ⟨p2, c2, rfl, hp2, hg2⟩
  refine ⟨_, rfl, ?_⟩
  simp only [ev, fx, ↓reduceIte, Nat.reduceEqDiff, Nat.reduceLT, Nat.reduceLeDiff, Nat.reduceAdd, Nat.reduceSub, Nat.reduceMul, Int.reduceLT, Int.reduceLE, Int.reduceToNat, BitVec.reduceOfInt, BitVec.reduceToNat, reduceCtorEq, and_self, decide_true, decide_false, Bool.not_true, Bool.not_false, ne_eq, not_true_eq_false, not_false_eq_true, true_and, and_true]
  refine hK _ _ fun S1 h1 => ?_; clear hK K
  simp only [BlockE, ThenE]
  refine ⟨p2, c2, h1, ?_, hpp.grow hg2, hg.trans hg2⟩
  rw [← blk_take]
  exact hp2


set_option maxRecDepth 100000 in
theorem specSizes (ki : Kd) (w : World) : Calls Tryd.prog 26 #[(SV.nat (kdOf ki)).val] w fun e w' => e = .returned (SV.tup2 (.nat (szOf ki)) (.nat 128)).val ∧ Grow w w' := by
  refine calls_E [.nat (kdOf ki)] Tryd.func26 rfl Tryd.ntmps26 rfl ?_
  refine EWp.seqR [0] fun K hK => ?_
  simp only [ev, fx, ↓reduceIte, Nat.reduceEqDiff, Nat.reduceLT, Nat.reduceLeDiff, Nat.reduceAdd, Nat.reduceSub, Nat.reduceMul, Int.reduceLT, Int.reduceLE, Int.reduceToNat, BitVec.reduceOfInt, BitVec.reduceToNat, reduceCtorEq, and_self, decide_true, decide_false, Bool.not_true, Bool.not_false, ne_eq, not_true_eq_false, not_false_eq_true, true_and, and_true]
  repeat (refine And.intro (by omega) ?_)
  refine hK _ _ ?_; clear hK K
  refine EWp.seqR [0, 4] fun K hK => ?_
  simp only [ev, fx, ↓reduceIte, Nat.reduceEqDiff, Nat.reduceLT, Nat.reduceLeDiff, Nat.reduceAdd, Nat.reduceSub, Nat.reduceMul, Int.reduceLT, Int.reduceLE, Int.reduceToNat, BitVec.reduceOfInt, BitVec.reduceToNat, reduceCtorEq, and_self, decide_true, decide_false, Bool.not_true, Bool.not_false, ne_eq, not_true_eq_false, not_false_eq_true, true_and, and_true]
  repeat (refine And.intro (by omega) ?_)
  refine hK _ _ ?_; clear hK K
  have hk1 : 2 ≤ kdOf ki := by cases ki <;> simp [kdOf]
  have hk2 : kdOf ki ≤ 5 := by cases ki <;> simp [kdOf]
  have hk8 : kdOf ki < 8 := by omega
  refine EWp.ifR [0, 4, 10] fun K hK => ?_
  simp only [ev, fx, ↓reduceIte, Nat.reduceEqDiff, Nat.reduceLT, Nat.reduceLeDiff, Nat.reduceAdd, Nat.reduceSub, Nat.reduceMul, Int.reduceLT, Int.reduceLE, Int.reduceToNat, BitVec.reduceOfInt, BitVec.reduceToNat, reduceCtorEq, and_self, decide_true, decide_false, Bool.not_true, Bool.not_false, ne_eq, not_true_eq_false, not_false_eq_true, true_and, and_true, hk1, hk2]
  refine hK _ _ true rfl (fun _ => ?_) (fun h => by cases h); clear hK K
  refine EWp.thenR [0, 4] fun K hK => ?_
  simp only [ev, fx, ↓reduceIte, Nat.reduceEqDiff, Nat.reduceLT, Nat.reduceLeDiff, Nat.reduceAdd, Nat.reduceSub, Nat.reduceMul, Int.reduceLT, Int.reduceLE, Int.reduceToNat, BitVec.reduceOfInt, BitVec.reduceToNat, reduceCtorEq, and_self, decide_true, decide_false, Bool.not_true, Bool.not_false, ne_eq, not_true_eq_false, not_false_eq_true, true_and, and_true]
  repeat (refine And.intro (by omega) ?_)
  refine hK _ _ ?_; clear hK K
  refine EWp.seqR [2, 3] fun K hK => ?_
  simp only [ev, fx, ↓reduceIte, Nat.reduceEqDiff, Nat.reduceLT, Nat.reduceLeDiff, Nat.reduceAdd, Nat.reduceSub, Nat.reduceMul, Int.reduceLT, Int.reduceLE, Int.reduceToNat, BitVec.reduceOfInt, BitVec.reduceToNat, reduceCtorEq, and_self, decide_true, decide_false, Bool.not_true, Bool.not_false, ne_eq, not_true_eq_false, not_false_eq_true, true_and, and_true]
  refine SemE.buildSlice (vs := [.nat 28, .nat 32, .nat 48, .nat 64, .nat 28, .nat 32, .nat 20, .nat 16]) (HL.start w) 3 slof_67 rfl rfl (by omega) rfl fun b w1 hb hl => ?_
  simp only [ev, fx, ↓reduceIte, Nat.reduceEqDiff, Nat.reduceLT, Nat.reduceLeDiff, Nat.reduceAdd, Nat.reduceSub, Nat.reduceMul, Int.reduceLT, Int.reduceLE, Int.reduceToNat, BitVec.reduceOfInt, BitVec.reduceToNat, reduceCtorEq, and_self, decide_true, decide_false, Bool.not_true, Bool.not_false, ne_eq, not_true_eq_false, not_false_eq_true, true_and, and_true]
  repeat (refine And.intro (by omega) ?_)
  refine SemE.loadB (v := .nat (szOf ki)) hl 0 rfl one_3 rfl rfl (by cases ki <;> rfl) ?_
  simp only [ev, fx, ↓reduceIte, Nat.reduceEqDiff, Nat.reduceLT, Nat.reduceLeDiff, Nat.reduceAdd, Nat.reduceSub, Nat.reduceMul, Int.reduceLT, Int.reduceLE, Int.reduceToNat, BitVec.reduceOfInt, BitVec.reduceToNat, reduceCtorEq, and_self, decide_true, decide_false, Bool.not_true, Bool.not_false, ne_eq, not_true_eq_false, not_false_eq_true, true_and, and_true]
  repeat (refine And.intro (by omega) ?_)
  refine hK _ _ ?_; clear hK K
  exact EWp.ret (BodyE.tmp2 rfl rfl rfl ⟨rfl, (hl.sub (List.nil_sublist _)).toGrow⟩)

set_option maxRecDepth 100000 in
/-- The reference's hash. -/
theorem specHash3 (ki : Kd) (v : SV) (T : List B8) (w : World) (ht : Txt w v T) (hbig : T.length ≤ 100000) :
    Calls Tryd.prog 25 #[(SV.nat (kdOf ki)).val, v.val] w fun e w' => ∃ v', e = .returned v'.val ∧ Txt w' v' (hashB ki T) ∧ Grow w w' := by
  refine calls_E [.nat (kdOf ki), v] Tryd.func25 rfl Tryd.ntmps25 rfl ?_
  refine EWp.seqR [0, 1] fun K hK => ?_
  simp only [ev, fx, ↓reduceIte, Nat.reduceEqDiff, Nat.reduceLT, Nat.reduceLeDiff, Nat.reduceAdd, Nat.reduceSub, Nat.reduceMul, Int.reduceLT, Int.reduceLE, Int.reduceToNat, BitVec.reduceOfInt, BitVec.reduceToNat, reduceCtorEq, and_self, decide_true, decide_false, Bool.not_true, Bool.not_false, ne_eq, not_true_eq_false, not_false_eq_true, true_and, and_true]
  repeat (refine And.intro (by omega) ?_)
  refine hK _ _ ?_; clear hK K
  refine EWp.seqR [0, 1, 5] fun K hK => ?_
  simp only [ev, fx, ↓reduceIte, Nat.reduceEqDiff, Nat.reduceLT, Nat.reduceLeDiff, Nat.reduceAdd, Nat.reduceSub, Nat.reduceMul, Int.reduceLT, Int.reduceLE, Int.reduceToNat, BitVec.reduceOfInt, BitVec.reduceToNat, reduceCtorEq, and_self, decide_true, decide_false, Bool.not_true, Bool.not_false, ne_eq, not_true_eq_false, not_false_eq_true, true_and, and_true]
  refine SemE.call fn_26 rfl rfl (specSizes ki _) ?_
  rintro _ w1 ⟨rfl, hg⟩
  refine ⟨_, rfl, ?_⟩
  simp only [ev, fx, ↓reduceIte, Nat.reduceEqDiff, Nat.reduceLT, Nat.reduceLeDiff, Nat.reduceAdd, Nat.reduceSub, Nat.reduceMul, Int.reduceLT, Int.reduceLE, Int.reduceToNat, BitVec.reduceOfInt, BitVec.reduceToNat, reduceCtorEq, and_self, decide_true, decide_false, Bool.not_true, Bool.not_false, ne_eq, not_true_eq_false, not_false_eq_true, true_and, and_true]
  repeat (refine And.intro (by omega) ?_)
  refine hK _ _ ?_; clear hK K
  refine EWp.seqR [4] fun K hK => ?_
  simp only [ev, fx, ↓reduceIte, Nat.reduceEqDiff, Nat.reduceLT, Nat.reduceLeDiff, Nat.reduceAdd, Nat.reduceSub, Nat.reduceMul, Int.reduceLT, Int.reduceLE, Int.reduceToNat, BitVec.reduceOfInt, BitVec.reduceToNat, reduceCtorEq, and_self, decide_true, decide_false, Bool.not_true, Bool.not_false, ne_eq, not_true_eq_false, not_false_eq_true, true_and, and_true]
  refine SemE.call fn_21 rfl rfl (begin64 ki _) ?_
  rintro _ w2 ⟨p2, c2, rfl, hp2, hg2⟩
  refine ⟨_, rfl, ?_⟩
  have hg := hg.trans hg2
  simp only [ev, fx, ↓reduceIte, Nat.reduceEqDiff, Nat.reduceLT, Nat.reduceLeDiff, Nat.reduceAdd, Nat.reduceSub, Nat.reduceMul, Int.reduceLT, Int.reduceLE, Int.reduceToNat, BitVec.reduceOfInt, BitVec.reduceToNat, reduceCtorEq, and_self, decide_true, decide_false, Bool.not_true, Bool.not_false, ne_eq, not_true_eq_false, not_false_eq_true, true_and, and_true]
  have ht1 := ht.grow hg
  have htv := ht1
  obtain ⟨a, c, rfl, hc, ha, hr⟩ := htv
  refine SemE.call fn_27 rfl rfl (padded128 a T.length c T _ hr rfl ha (by omega)) ?_
  rintro _ w3 ⟨v3, B3, rfl, ho3, hl3⟩
  refine ⟨_, rfl, ?_⟩
  rw [padS_padB] at ho3
  have ht3 := ho3.txt (H := []) (by rw [List.append_nil]; exact hl3)
  have hp2 := hp2.grow hl3.toGrow
  have hg := hg.trans hl3.toGrow
  clear ho3 hl3
  simp only [ev, fx, ↓reduceIte, Nat.reduceEqDiff, Nat.reduceLT, Nat.reduceLeDiff, Nat.reduceAdd, Nat.reduceSub, Nat.reduceMul, Int.reduceLT, Int.reduceLE, Int.reduceToNat, BitVec.reduceOfInt, BitVec.reduceToNat, reduceCtorEq, and_self, decide_true, decide_false, Bool.not_true, Bool.not_false, ne_eq, not_true_eq_false, not_false_eq_true, true_and, and_true]
  have hpt := padT_pos T.length
  refine SemE.call fn_16 rfl rfl (blocks64C (initOf ki) p2 c2 v3 _ _ hp2 ht3 (by rw [List.length_append, padB_length]; omega)) ?_
  rintro _ w4 ⟨p4, c4, rfl, hp4, hg4⟩
  refine ⟨_, rfl, ?_⟩
  have hg := hg.trans hg4
  have hhb : hashB ki T = (sumB (blocks (initOf ki) (T ++ padB T.length))).take (szOf ki) := rfl
  generalize blocks (initOf ki) (T ++ padB T.length) = r at hp4 hhb
  simp only [ev, fx, ↓reduceIte, Nat.reduceEqDiff, Nat.reduceLT, Nat.reduceLeDiff, Nat.reduceAdd, Nat.reduceSub, Nat.reduceMul, Int.reduceLT, Int.reduceLE, Int.reduceToNat, BitVec.reduceOfInt, BitVec.reduceToNat, reduceCtorEq, and_self, decide_true, decide_false, Bool.not_true, Bool.not_false, ne_eq, not_true_eq_false, not_false_eq_true, true_and, and_true]
  refine SemE.call fn_28 rfl rfl (words64C p4 8 c4 [r.a, r.b, r.c, r.d, r.e, r.f, r.g, r.h] _ hp4 rfl (by omega)) ?_
  rintro _ w5 ⟨v5, B5, rfl, ho5, hl5⟩
  refine ⟨_, rfl, ?_⟩
  rw [wordsB_eight, sumB_len] at ho5
  obtain ⟨bv, cv, rfl, hcv⟩ := ho5.pos (by omega)
  have hrd := ho5.rd (H := []) (by rw [List.append_nil]; exact hl5) rfl
  have hg := hg.trans hl5.toGrow
  have hn1 : szOf ki ≤ 64 := by cases ki <;> simp [szOf]
  simp only [ev, fx, ↓reduceIte, Nat.reduceEqDiff, Nat.reduceLT, Nat.reduceLeDiff, Nat.reduceAdd, Nat.reduceSub, Nat.reduceMul, Int.reduceLT, Int.reduceLE, Int.reduceToNat, BitVec.reduceOfInt, BitVec.reduceToNat, reduceCtorEq, and_self, decide_true, decide_false, Bool.not_true, Bool.not_false, ne_eq, not_true_eq_false, not_false_eq_true, true_and, and_true, sl0]
  repeat (refine And.intro (by omega) ?_)
  refine hK _ _ ?_; clear hK K
  refine EWp.ret (BodyE.tmp1 rfl rfl ⟨_, rfl, ?_, hg⟩)
  rw [hhb]
  refine Txt.mk (by rw [List.map_take]; exact hrd.take _) (by simp [sumB_len]; omega) (by omega) (fun h => by cases h)
end Go.Proofs.YtggbaffkjfofhaaDoor
