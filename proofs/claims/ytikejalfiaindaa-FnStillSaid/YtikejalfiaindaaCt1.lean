/- constSum of SHA-1: the sum that is made in the same time whatever waits. -/
import Derived.Test.YtikejalfiaindaaSum1
import Derived.Test.YtikejalfiaindaaMem9
set_option linter.unusedVariables false
set_option linter.unusedSimpArgs false
namespace Go.Proofs.Ytikejalfiaindaa
open Go

theorem sh8 : ∀ i < 8, (56#64 - 8#64 * BitVec.ofNat 64 i).toNat = 56 - 8 * i := by decide
theorem tn8 {i : Nat} (h : i < 256) : (BitVec.ofNat 8 i).toNat = i := by rw [BitVec.toNat_ofNat]; omega
theorem tn64 {i : Nat} (h : i < 256) : (BitVec.ofNat 64 i).toNat = i := by rw [BitVec.toNat_ofNat]; omega
def mskB (i n : Nat) : Bool := ((BitVec.ofNat 8 i - BitVec.ofNat 8 n).sshiftRight 7) == (if i < n then 255#8 else 0#8)
theorem msk_all : ((List.range 64).all fun i => (List.range 64).all fun n => mskB i n) = true := by kernel_rfl
theorem msk {i n : Nat} (hi : i < 64) (hn : n < 64) : (BitVec.ofNat 8 i - BitVec.ofNat 8 n).sshiftRight 7 = if i < n then 255#8 else 0#8 := by
  have h := List.all_eq_true.1 (List.all_eq_true.1 msk_all i (List.mem_range.2 hi)) n (List.mem_range.2 hn)
  exact eq_of_beq h
theorem add8 (i : Nat) : BitVec.ofNat 8 i + 1#8 = BitVec.ofNat 8 (i + 1) := by rw [BitVec.ofNat_add]
theorem add64 (i : Nat) : BitVec.ofNat 64 i + 1#64 = BitVec.ofNat 64 (i + 1) := by rw [BitVec.ofNat_add]
theorem sub8 : ∀ i < 64, 56 ≤ i → (BitVec.ofNat 8 i - 56#8).toNat = i - 56 := by decide

/-- The byte j of the block, behind the first round. -/
def ctB (x : List B8) (m : Nat) (m1 : B8) (l : BitVec 64) (j : Nat) : B8 := (if j < m then x.getD j 0 else if j = m then 0x80#8 else 0#8) ||| (if 56 ≤ j then m1 &&& be8 l (j - 56) else 0#8)
def ctX (x : List B8) (m : Nat) (m1 : B8) (l : BitVec 64) (i : Nat) : List B8 := (List.range 64).map fun j => if j < i then ctB x m m1 l j else x.getD j 0
theorem ctX_len (x : List B8) (m : Nat) (m1 : B8) (l : BitVec 64) (i : Nat) : (ctX x m m1 l i).length = 64 := by simp [ctX]
theorem ctX_get (x : List B8) (m : Nat) (m1 : B8) (l : BitVec 64) (i : Nat) {j : Nat} (h : j < 64) : (ctX x m m1 l i)[j]? = some (if j < i then ctB x m m1 l j else x.getD j 0) := by simp [ctX, h]
theorem ctX_set (x : List B8) (m : Nat) (m1 : B8) (l : BitVec 64) (i : Nat) (h : i < 64) : (ctX x m m1 l i).set i (ctB x m m1 l i) = ctX x m m1 l (i + 1) := by
  apply List.ext_getElem?
  intro j
  rw [List.getElem?_set]
  by_cases hj : j < 64
  · rw [ctX_get _ _ _ _ _ hj, ctX_get _ _ _ _ _ hj]
    by_cases hij : i = j
    · subst hij
      simp [ctX_len, hj]
    · simp only [hij, if_false]
      congr 1
      by_cases h1 : j < i
      · rw [if_pos h1, if_pos (by omega)]
      · rw [if_neg h1, if_neg (by omega)]
  · rw [List.getElem?_eq_none (by simp [ctX_len]; omega), List.getElem?_eq_none (by simp [ctX_len]; omega)]
    by_cases hij : i = j
    · omega
    · simp [hij]
theorem ctX_zero (x : List B8) (m : Nat) (m1 : B8) (l : BitVec 64) (hx : x.length = 64) : ctX x m m1 l 0 = x := by
  apply List.ext_getElem?
  intro j
  by_cases hj : j < 64
  · rw [ctX_get _ _ _ _ _ hj, if_neg (by omega), List.getElem?_eq_getElem (by omega)]
    simp [List.getD_eq_getElem?_getD, List.getElem?_eq_getElem (by omega : j < x.length)]
  · rw [List.getElem?_eq_none (by simp [ctX_len]; omega), List.getElem?_eq_none (by omega)]

def gF (N : Nat) (f old : Nat → B8) (k : Nat) : List B8 := (List.range N).map fun j => if j < k then f j else old j
theorem gF_len {N : Nat} {f old : Nat → B8} {k : Nat} : (gF N f old k).length = N := by simp [gF]
theorem gF_get {N : Nat} (f old : Nat → B8) (k : Nat) {j : Nat} (h : j < N) : (gF N f old k)[j]? = some (if j < k then f j else old j) := by simp [gF, h]
theorem gF_set {N : Nat} (f old : Nat → B8) {i : Nat} (h : i < N) : (gF N f old i).set i (f i) = gF N f old (i + 1) := by
  apply List.ext_getElem?
  intro j
  rw [List.getElem?_set]
  by_cases hj : j < N
  · rw [gF_get _ _ _ hj, gF_get _ _ _ hj]
    by_cases hij : i = j
    · subst hij
      simp [gF_len, hj]
    · simp only [hij, if_false]
      congr 1
      by_cases h1 : j < i
      · rw [if_pos h1, if_pos (by omega)]
      · rw [if_neg h1, if_neg (by omega)]
  · rw [List.getElem?_eq_none (by simp [gF_len]; omega), List.getElem?_eq_none (by simp [gF_len]; omega)]
    by_cases hij : i = j
    · omega
    · simp [hij]
theorem set_u8 (xs : List B8) (j : Nat) (v : B8) : (xs.map SV.u8).set j (.u8 v) = (xs.set j v).map SV.u8 := by rw [List.map_set]
def g5 (h : S5) (i : Nat) : W32 := match i with | 0 => h.a | 1 => h.b | 2 => h.c | 3 => h.d | _ => h.e
theorem five_get (h : S5) {i : Nat} (hi : i < 5) : ([SV.u32 h.a, SV.u32 h.b, SV.u32 h.c, SV.u32 h.d, SV.u32 h.e] : List SV)[i]? = some (.u32 (g5 h i)) := by
  match i, hi with
  | 0, _ => rfl
  | 1, _ => rfl
  | 2, _ => rfl
  | 3, _ => rfl
  | 4, _ => rfl
theorem sumB_at (h : S5) {i : Nat} (hi : i < 5) : (sumB h).getD (i * 4) 0 = be4 (g5 h i) 0 ∧ (sumB h).getD (i * 4 + 1) 0 = be4 (g5 h i) 1 ∧ (sumB h).getD (i * 4 + 2) 0 = be4 (g5 h i) 2 ∧ (sumB h).getD (i * 4 + 3) 0 = be4 (g5 h i) 3 := by
  match i, hi with
  | 0, _ => exact ⟨rfl, rfl, rfl, rfl⟩
  | 1, _ => exact ⟨rfl, rfl, rfl, rfl⟩
  | 2, _ => exact ⟨rfl, rfl, rfl, rfl⟩
  | 3, _ => exact ⟨rfl, rfl, rfl, rfl⟩
  | 4, _ => exact ⟨rfl, rfl, rfl, rfl⟩
theorem be4_3 (v : W32) : be4 v 3 = v.setWidth 8 := by simp [be4]
theorem be64L_get {v : BitVec 64} {k j : Nat} (h : j < k) : (be64L v k)[j]? = some (.u8 (be8 v j)) := by
  rw [be64L, List.getElem?_map, List.getElem?_range h]; rfl
theorem ff_and (y : B8) : 255#8 &&& y = y := BitVec.allOnes_and
theorem zz_and (y : B8) : 0#8 &&& y = 0#8 := BitVec.zero_and
theorem not255 : ~~~(255#8) = 0#8 := by decide
theorem not0 : ~~~(0#8) = 255#8 := by decide
theorem digC_at (s : S5) (x : List B8) (nx : Nat) (ln : BitVec 64) (hx : x.length = 64) {j : Nat} (h : j < 64) : (digC s x nx ln)[5 + j]? = some (.u8 (x.getD j 0)) := by
  rw [Nat.add_comm]
  unfold digC dig5
  simp only [List.getElem?_cons_succ]
  rw [List.getElem?_append_left (by rw [List.length_map]; omega), List.getElem?_map, List.getElem?_eq_getElem (by omega)]
  simp [List.getD_eq_getElem?_getD, List.getElem?_eq_getElem (by omega : j < x.length)]
theorem digC_put (s : S5) (x : List B8) (nx : Nat) (ln : BitVec 64) (hx : x.length = 64) {j : Nat} (h : j < 64) (v : B8) : (digC s x nx ln).set (5 + j) (.u8 v) = digC s (x.set j v) nx ln := by
  rw [Nat.add_comm]
  unfold digC dig5
  simp only [List.set_cons_succ]
  rw [List.set_append_left _ _ (by rw [List.length_map]; omega), List.map_set]
theorem sep_step (m i : Nat) (x : List B8) : (~~~(if i < m then 255#8 else 0#8) &&& (if i ≤ m then 0x80#8 else 0#8)) ||| ((if i < m then 255#8 else 0#8) &&& x.getD i 0) = (if i < m then x.getD i 0 else if i = m then 0x80#8 else 0#8 : B8) := by
  by_cases h1 : i < m
  · simp only [if_pos h1, if_pos (Nat.le_of_lt h1), not255, zz_and, ff_and]; exact BitVec.zero_or
  · by_cases h2 : i = m
    · subst h2
      simp only [Nat.lt_irrefl, if_false, Nat.le_refl, if_true, not0, ff_and, zz_and]; exact BitVec.or_zero
    · simp only [if_neg h1, if_neg h2, if_neg (show ¬ i ≤ m by omega), not0, ff_and, zz_and]; exact BitVec.or_zero
theorem sep_next (m i : Nat) : (if i ≤ m then 0x80#8 else 0#8 : B8) &&& (if i < m then 255#8 else 0#8) = if i + 1 ≤ m then 0x80#8 else 0#8 := by
  by_cases h1 : i < m
  · simp only [if_pos h1, if_pos (Nat.le_of_lt h1), if_pos (show i + 1 ≤ m from h1)]; exact BitVec.and_allOnes
  · simp only [if_neg h1, if_neg (show ¬ i + 1 ≤ m by omega)]; exact BitVec.and_zero

theorem or_z (y : B8) : y ||| 0#8 = y := BitVec.or_zero
theorem z_or (y : B8) : 0#8 ||| y = y := BitVec.zero_or
theorem getD_get {xs : List B8} {j : Nat} (h : j < xs.length) : xs[j]? = some (xs.getD j 0) := by
  rw [List.getElem?_eq_getElem h]; simp [List.getD_eq_getElem?_getD, List.getElem?_eq_getElem h]
theorem ct_one (x : List B8) (L : Nat) (hx : x.length = 64) (h : L % 64 < 56) : ctX x (L % 64) 255#8 (BitVec.ofNat 64 L <<< 3) 64 = x.take (L % 64) ++ padB L := by
  have hp : padT L = 56 - L % 64 := by unfold padT; rw [if_pos h]
  unfold padB
  rw [hp]
  generalize L % 64 = m at *
  generalize BitVec.ofNat 64 L <<< 3 = lv
  apply List.ext_getElem?
  intro j
  by_cases hj : j < 64
  · rw [ctX_get _ _ _ _ _ hj, if_pos hj]
    unfold ctB
    by_cases h1 : j < m
    · rw [List.getElem?_append_left (by simp; omega), List.getElem?_take, if_pos h1, getD_get (by omega), if_pos h1, if_neg (show ¬ 56 ≤ j by omega), or_z]
    · rw [List.getElem?_append_right (by simp; omega), if_neg h1]
      have hlen : (x.take m).length = m := by simp; omega
      rw [hlen]
      by_cases h2 : j = m
      · subst h2
        rw [if_pos rfl, if_neg (show ¬ 56 ≤ j by omega), or_z, Nat.sub_self]; rfl
      · rw [if_neg h2]
        by_cases h3 : 56 ≤ j
        · rw [if_pos h3, z_or, ff_and, List.getElem?_append_right (by simp; omega)]
          rw [List.getElem?_map, List.getElem?_range (by simp; omega)]
          simp only [List.length_cons, List.length_replicate, Option.map_some]
          congr 2
          omega
        · rw [if_neg h3, or_z, List.getElem?_append_left (by simp; omega), show j - m = (j - m - 1) + 1 by omega, List.getElem?_cons_succ, List.getElem?_replicate, if_pos (by omega)]
  · rw [List.getElem?_eq_none (by simp [ctX_len]; omega), List.getElem?_eq_none (by simp; omega)]
theorem ct_two (x : List B8) (L : Nat) (hx : x.length = 64) (h : ¬ L % 64 < 56) : ctX x (L % 64) 0#8 (BitVec.ofNat 64 L <<< 3) 64 ++ (List.replicate 56 0#8 ++ (List.range 8).map (be8 (BitVec.ofNat 64 L <<< 3))) = x.take (L % 64) ++ padB L := by
  have hp : padT L = 120 - L % 64 := by unfold padT; rw [if_neg h]
  unfold padB
  rw [hp]
  have hm : L % 64 < 64 := Nat.mod_lt _ (by omega)
  generalize L % 64 = m at *
  generalize BitVec.ofNat 64 L <<< 3 = lv
  have e : ctX x m 0#8 lv 64 = x.take m ++ (0x80#8 :: List.replicate (63 - m) 0#8) := by
    apply List.ext_getElem?
    intro j
    by_cases hj : j < 64
    · rw [ctX_get _ _ _ _ _ hj, if_pos hj]
      unfold ctB
      have hz : (if 56 ≤ j then 0#8 &&& be8 lv (j - 56) else 0#8) = 0#8 := by
        split
        · exact zz_and _
        · rfl
      rw [hz, or_z]
      by_cases h1 : j < m
      · rw [List.getElem?_append_left (by simp; omega), List.getElem?_take, if_pos h1, getD_get (by omega), if_pos h1]
      · rw [List.getElem?_append_right (by simp; omega), if_neg h1]
        have hlen : (x.take m).length = m := by simp; omega
        rw [hlen]
        by_cases h2 : j = m
        · subst h2
          rw [if_pos rfl, Nat.sub_self]; rfl
        · rw [if_neg h2, show j - m = (j - m - 1) + 1 by omega, List.getElem?_cons_succ, List.getElem?_replicate, if_pos (by omega)]
    · rw [List.getElem?_eq_none (by simp [ctX_len]; omega), List.getElem?_eq_none (by simp; omega)]
  rw [e, show 120 - m - 1 = (63 - m) + 56 by omega, ← List.replicate_append_replicate]
  simp

set_option maxRecDepth 100000 in
set_option maxHeartbeats 2000000 in
theorem constSum1 (b : Nat) (s : S5) (x : List B8) (L : Nat) (w : World) (hb : w.heap[b]? = some (.cells ((digC s x (L % 64) (BitVec.ofNat 64 L)).map SV.val).toArray 73 (0, 0)))
    (hx : x.length = 64) (hL : L < 1152921504606846976) :
    Calls Try.prog 51 #[(SV.ptr ⟨b, 0, none⟩).val] w fun e w' => e = .returned (SV.agg ((sumB (blocks s (x.take (L % 64) ++ padB L))).map SV.u8)).val ∧
      ∃ cs, HL w w' [b] [(b, 73, cs)] := by
  refine calls_E [.ptr ⟨b, 0, none⟩] Try.func51 rfl Try.ntmps51 rfl ?_
  have hl := HL.startB hb
  have hmlt : L % 64 < 64 := Nat.mod_lt _ (by omega)
  generalize hm : L % 64 = m at *
  refine EWp.seqR [0, 2] fun K hK => ?_
  simp only [ev, fx, ↓reduceIte, Nat.reduceEqDiff, Nat.reduceLT, Nat.reduceLeDiff, Nat.reduceAdd, Nat.reduceSub, Nat.reduceMul, Int.reduceLT, Int.reduceLE, Int.reduceToNat, BitVec.reduceOfInt, BitVec.reduceToNat, reduceCtorEq, and_self, decide_true, decide_false, Bool.not_true, Bool.not_false, ne_eq, not_true_eq_false, not_false_eq_true, true_and, and_true]
  refine SemE.alloc hl zero_55 rfl fun g2 w1 hg2 hl => ?_
  simp only [ev, fx, ↓reduceIte, Nat.reduceEqDiff, Nat.reduceLT, Nat.reduceLeDiff, Nat.reduceAdd, Nat.reduceSub, Nat.reduceMul, Int.reduceLT, Int.reduceLE, Int.reduceToNat, BitVec.reduceOfInt, BitVec.reduceToNat, reduceCtorEq, and_self, decide_true, decide_false, Bool.not_true, Bool.not_false, ne_eq, not_true_eq_false, not_false_eq_true, true_and, and_true]
  repeat (refine And.intro (by omega) ?_)
  refine hK _ _ ?_; clear hK K
  refine EWp.seqR [0, 2, 3] fun K hK => ?_
  simp only [ev, fx, ↓reduceIte, Nat.reduceEqDiff, Nat.reduceLT, Nat.reduceLeDiff, Nat.reduceAdd, Nat.reduceSub, Nat.reduceMul, Int.reduceLT, Int.reduceLE, Int.reduceToNat, BitVec.reduceOfInt, BitVec.reduceToNat, reduceCtorEq, and_self, decide_true, decide_false, Bool.not_true, Bool.not_false, ne_eq, not_true_eq_false, not_false_eq_true, true_and, and_true]
  refine SemE.alloc hl zero_88 rfl fun g3 w2 hg3 hl => ?_
  simp only [List.cons_append, List.nil_append] at hl
  simp only [ev, fx, ↓reduceIte, Nat.reduceEqDiff, Nat.reduceLT, Nat.reduceLeDiff, Nat.reduceAdd, Nat.reduceSub, Nat.reduceMul, Int.reduceLT, Int.reduceLE, Int.reduceToNat, BitVec.reduceOfInt, BitVec.reduceToNat, reduceCtorEq, and_self, decide_true, decide_false, Bool.not_true, Bool.not_false, ne_eq, not_true_eq_false, not_false_eq_true, true_and, and_true]
  repeat (refine And.intro (by omega) ?_)
  refine hK _ _ ?_; clear hK K
  refine EWp.seqR [0, 2, 3, 4] fun K hK => ?_
  simp only [ev, fx, ↓reduceIte, Nat.reduceEqDiff, Nat.reduceLT, Nat.reduceLeDiff, Nat.reduceAdd, Nat.reduceSub, Nat.reduceMul, Int.reduceLT, Int.reduceLE, Int.reduceToNat, BitVec.reduceOfInt, BitVec.reduceToNat, reduceCtorEq, and_self, decide_true, decide_false, Bool.not_true, Bool.not_false, ne_eq, not_true_eq_false, not_false_eq_true, true_and, and_true]
  refine SemE.loadB hl 0 rfl one_64 rfl rfl (digC_len_get _ _ _ _ hx) ?_
  simp only [ev, fx, ↓reduceIte, Nat.reduceEqDiff, Nat.reduceLT, Nat.reduceLeDiff, Nat.reduceAdd, Nat.reduceSub, Nat.reduceMul, Int.reduceLT, Int.reduceLE, Int.reduceToNat, BitVec.reduceOfInt, BitVec.reduceToNat, reduceCtorEq, and_self, decide_true, decide_false, Bool.not_true, Bool.not_false, ne_eq, not_true_eq_false, not_false_eq_true, true_and, and_true]
  repeat (refine And.intro (by omega) ?_)
  refine hK _ _ ?_; clear hK K
  have hpl : ∀ i, i ≤ 8 → (putAt (List.replicate 8 (SV.u8 0)) 0 (be64L (BitVec.ofNat 64 L <<< 3) i)).length = 8 := fun i hi => by rw [putAt_length _ _ _ (by rw [be64L_len]; simp; omega)]; simp
  refine EWp.cut [0, 2, 3] (fun S' w' => S' = [(0, .ptr ⟨b, 0, none⟩), (2, .ptr ⟨g2, 0, none⟩), (3, .ptr ⟨g3, 0, none⟩)] ∧
    HL w w' [b] [(b, 73, digC s x m (BitVec.ofNat 64 L)), (g2, 55, List.replicate 20 (SV.u8 0)), (g3, 88, be64L (BitVec.ofNat 64 L <<< 3) 8)]) ?_ ?_
  case refine_1 =>
    refine EWp.seqR [0, 2, 3, 4, 5] fun K hK => ?_
    simp only [ev, fx, ↓reduceIte, Nat.reduceEqDiff, Nat.reduceLT, Nat.reduceLeDiff, Nat.reduceAdd, Nat.reduceSub, Nat.reduceMul, Int.reduceLT, Int.reduceLE, Int.reduceToNat, BitVec.reduceOfInt, BitVec.reduceToNat, reduceCtorEq, and_self, decide_true, decide_false, Bool.not_true, Bool.not_false, ne_eq, not_true_eq_false, not_false_eq_true, true_and, and_true]
    repeat (refine And.intro (by omega) ?_)
    refine hK _ _ ?_; clear hK K
    refine EWp.block ?_
    refine EWp.loop [0, 2, 3, 4, 5] (fun k S' w' => ∃ i, i ≤ 8 ∧ k = 8 - i ∧ S' = [(0, .ptr ⟨b, 0, none⟩), (2, .ptr ⟨g2, 0, none⟩), (3, .ptr ⟨g3, 0, none⟩), (4, .u64 (BitVec.ofNat 64 L <<< 3)), (5, .u64 (BitVec.ofNat 64 i))] ∧
      HL w w' [b] [(b, 73, digC s x m (BitVec.ofNat 64 L)), (g2, 55, List.replicate 20 (SV.u8 0)), (g3, 88, putAt (List.replicate 8 (SV.u8 0)) 0 (be64L (BitVec.ofNat 64 L <<< 3) i))]) 8 ?_ ?_
    case refine_1 => exact ⟨0, by omega, rfl, rfl, by rw [show be64L (BitVec.ofNat 64 L <<< 3) 0 = [] from rfl, putAt_nil]; exact hl⟩
    clear hl
    rintro k S' w' ⟨i, hi, rfl, rfl, hl⟩
    have hti := tn64 (show i < 256 by omega)
    refine EWp.headR [0, 2, 3, 4, 5, 24] fun K hK => ?_
    simp only [ev, fx, ↓reduceIte, Nat.reduceEqDiff, Nat.reduceLT, Nat.reduceLeDiff, Nat.reduceAdd, Nat.reduceSub, Nat.reduceMul, Int.reduceLT, Int.reduceLE, Int.reduceToNat, BitVec.reduceOfInt, BitVec.reduceToNat, reduceCtorEq, and_self, decide_true, decide_false, Bool.not_true, Bool.not_false, ne_eq, not_true_eq_false, not_false_eq_true, true_and, and_true, hti]
    refine hK _ _ (decide (i < 8)) rfl (fun hlt => ?_) (fun hlt => ?_) <;> clear hK K
    case refine_2 =>
      have hlt := of_decide_eq_false hlt
      obtain rfl : i = 8 := by omega
      simp only [BlockE, ThenE, ↓reduceIte]
      refine ⟨rfl, ?_⟩
      have e : putAt (List.replicate 8 (SV.u8 0)) 0 (be64L (BitVec.ofNat 64 L <<< 3) 8) = be64L (BitVec.ofNat 64 L <<< 3) 8 := by
        unfold putAt; rw [be64L_len]; simp
      rw [← e]; exact hl
    have hlt := of_decide_eq_true hlt
    refine EWp.cut [0, 2, 3, 4, 5] (fun S' w' => S' = [(0, .ptr ⟨b, 0, none⟩), (2, .ptr ⟨g2, 0, none⟩), (3, .ptr ⟨g3, 0, none⟩), (4, .u64 (BitVec.ofNat 64 L <<< 3)), (5, .u64 (BitVec.ofNat 64 i))] ∧
      HL w w' [b] [(b, 73, digC s x m (BitVec.ofNat 64 L)), (g2, 55, List.replicate 20 (SV.u8 0)), (g3, 88, putAt (List.replicate 8 (SV.u8 0)) 0 (be64L (BitVec.ofNat 64 L <<< 3) (i + 1)))]) ?_ ?_
    case refine_2 =>
      clear hl
      rintro S' w' ⟨rfl, hl⟩
      refine EWp.regR [0, 2, 3, 4, 5] fun K hK => ?_
      simp only [ev, fx, ↓reduceIte, Nat.reduceEqDiff, Nat.reduceLT, Nat.reduceLeDiff, Nat.reduceAdd, Nat.reduceSub, Nat.reduceMul, Int.reduceLT, Int.reduceLE, Int.reduceToNat, BitVec.reduceOfInt, BitVec.reduceToNat, reduceCtorEq, and_self, decide_true, decide_false, Bool.not_true, Bool.not_false, ne_eq, not_true_eq_false, not_false_eq_true, true_and, and_true, add64]
      exact hK _ _ fun S1 h1 => ⟨7 - i, by omega, i + 1, by omega, by omega, h1, hl⟩
    refine EWp.block ?_
    refine EWp.regR [0, 2, 3, 4, 5] fun K hK => ?_
    have hsh := sh8 i hlt
    simp only [ev, fx, ↓reduceIte, Nat.reduceEqDiff, Nat.reduceLT, Nat.reduceLeDiff, Nat.reduceAdd, Nat.reduceSub, Nat.reduceMul, Int.reduceLT, Int.reduceLE, Int.reduceToNat, BitVec.reduceOfInt, BitVec.reduceToNat, reduceCtorEq, and_self, decide_true, decide_false, Bool.not_true, Bool.not_false, ne_eq, not_true_eq_false, not_false_eq_true, true_and, and_true, hti, hsh]
    repeat (refine And.intro (by omega) ?_)
    have hs := putAt_snoc (List.replicate 8 (SV.u8 0)) 0 (be64L (BitVec.ofNat 64 L <<< 3) i) (.u8 (be8 (BitVec.ofNat 64 L <<< 3) i)) (by rw [be64L_len]; simp; omega)
    rw [be64L_len, Nat.zero_add] at hs
    refine SemE.storeB (v := .u8 (be8 (BitVec.ofNat 64 L <<< 3) i)) hl 2 rfl rfl one_5 rfl rfl (by rw [hpl i (by omega)]; omega) fun w3 hl => ?_
    simp only [List.set_cons_zero, List.set_cons_succ, Nat.zero_add, hs, ← be64L_succ] at hl
    simp only [ev, fx, ↓reduceIte, Nat.reduceEqDiff, Nat.reduceLT, Nat.reduceLeDiff, Nat.reduceAdd, Nat.reduceSub, Nat.reduceMul, Int.reduceLT, Int.reduceLE, Int.reduceToNat, BitVec.reduceOfInt, BitVec.reduceToNat, reduceCtorEq, and_self, decide_true, decide_false, Bool.not_true, Bool.not_false, ne_eq, not_true_eq_false, not_false_eq_true, true_and, and_true]
    refine hK _ _ fun S1 h1 => ?_; clear hK K
    simp only [BlockE, ThenE]
    exact ⟨h1, hl⟩
  clear hl hpl
  rintro S' w3 ⟨rfl, hl⟩
  generalize hl64 : BitVec.ofNat 64 L <<< 3 = lv at *
  refine EWp.seqR [0, 2, 3, 6] fun K hK => ?_
  simp only [ev, fx, ↓reduceIte, Nat.reduceEqDiff, Nat.reduceLT, Nat.reduceLeDiff, Nat.reduceAdd, Nat.reduceSub, Nat.reduceMul, Int.reduceLT, Int.reduceLE, Int.reduceToNat, BitVec.reduceOfInt, BitVec.reduceToNat, reduceCtorEq, and_self, decide_true, decide_false, Bool.not_true, Bool.not_false, ne_eq, not_true_eq_false, not_false_eq_true, true_and, and_true]
  refine SemE.loadB hl 0 rfl one_3 rfl rfl (digC_nx_get _ _ _ _ hx) ?_
  simp only [ev, fx, ↓reduceIte, Nat.reduceEqDiff, Nat.reduceLT, Nat.reduceLeDiff, Nat.reduceAdd, Nat.reduceSub, Nat.reduceMul, Int.reduceLT, Int.reduceLE, Int.reduceToNat, BitVec.reduceOfInt, BitVec.reduceToNat, reduceCtorEq, and_self, decide_true, decide_false, Bool.not_true, Bool.not_false, ne_eq, not_true_eq_false, not_false_eq_true, true_and, and_true]
  repeat (refine And.intro (by omega) ?_)
  refine hK _ _ ?_; clear hK K
  refine EWp.seqR [0, 2, 3, 6, 7] fun K hK => ?_
  simp only [ev, fx, ↓reduceIte, Nat.reduceEqDiff, Nat.reduceLT, Nat.reduceLeDiff, Nat.reduceAdd, Nat.reduceSub, Nat.reduceMul, Int.reduceLT, Int.reduceLE, Int.reduceToNat, BitVec.reduceOfInt, BitVec.reduceToNat, reduceCtorEq, and_self, decide_true, decide_false, Bool.not_true, Bool.not_false, ne_eq, not_true_eq_false, not_false_eq_true, true_and, and_true]
  repeat (refine And.intro (by omega) ?_)
  refine hK _ _ ?_; clear hK K
  have hm1 := msk (i := m) (n := 56) hmlt (by omega)
  refine EWp.seqR [0, 2, 3, 6, 8] fun K hK => ?_
  simp only [ev, fx, ↓reduceIte, Nat.reduceEqDiff, Nat.reduceLT, Nat.reduceLeDiff, Nat.reduceAdd, Nat.reduceSub, Nat.reduceMul, Int.reduceLT, Int.reduceLE, Int.reduceToNat, BitVec.reduceOfInt, BitVec.reduceToNat, reduceCtorEq, and_self, decide_true, decide_false, Bool.not_true, Bool.not_false, ne_eq, not_true_eq_false, not_false_eq_true, true_and, and_true, hm1]
  refine hK _ _ ?_; clear hK K
  generalize hm1e : (if m < 56 then 255#8 else 0#8 : B8) = m1 at *
  refine EWp.seqR [0, 2, 3, 6, 8, 9] fun K hK => ?_
  simp only [ev, fx, ↓reduceIte, Nat.reduceEqDiff, Nat.reduceLT, Nat.reduceLeDiff, Nat.reduceAdd, Nat.reduceSub, Nat.reduceMul, Int.reduceLT, Int.reduceLE, Int.reduceToNat, BitVec.reduceOfInt, BitVec.reduceToNat, reduceCtorEq, and_self, decide_true, decide_false, Bool.not_true, Bool.not_false, ne_eq, not_true_eq_false, not_false_eq_true, true_and, and_true]
  repeat (refine And.intro (by omega) ?_)
  refine hK _ _ ?_; clear hK K
  refine EWp.cut [0, 2, 3, 8, 9] (fun S' w' => S' = [(0, .ptr ⟨b, 0, none⟩), (2, .ptr ⟨g2, 0, none⟩), (3, .ptr ⟨g3, 0, none⟩), (8, .u8 m1), (9, .u8 0)] ∧
    HL w w' [b] [(b, 73, digC s (ctX x m m1 lv 64) m (BitVec.ofNat 64 L)), (g2, 55, List.replicate 20 (SV.u8 0)), (g3, 88, be64L lv 8)]) ?_ ?_
  case refine_1 =>
    refine EWp.seqR [0, 2, 3, 6, 8, 9, 10] fun K hK => ?_
    simp only [ev, fx, ↓reduceIte, Nat.reduceEqDiff, Nat.reduceLT, Nat.reduceLeDiff, Nat.reduceAdd, Nat.reduceSub, Nat.reduceMul, Int.reduceLT, Int.reduceLE, Int.reduceToNat, BitVec.reduceOfInt, BitVec.reduceToNat, reduceCtorEq, and_self, decide_true, decide_false, Bool.not_true, Bool.not_false, ne_eq, not_true_eq_false, not_false_eq_true, true_and, and_true]
    repeat (refine And.intro (by omega) ?_)
    refine hK _ _ ?_; clear hK K
    refine EWp.block ?_
    refine EWp.loop [0, 2, 3, 6, 8, 9, 10] (fun k S' w' => ∃ i : Nat, i ≤ 64 ∧ k = 64 - i ∧ S' = [(0, .ptr ⟨b, 0, none⟩), (2, .ptr ⟨g2, 0, none⟩), (3, .ptr ⟨g3, 0, none⟩), (6, .u8 (BitVec.ofNat 8 m)), (8, .u8 m1), (9, .u8 (if i ≤ m then 0x80#8 else 0#8)), (10, .u8 (BitVec.ofNat 8 i))] ∧
      HL w w' [b] [(b, 73, digC s (ctX x m m1 lv i) m (BitVec.ofNat 64 L)), (g2, 55, List.replicate 20 (SV.u8 0)), (g3, 88, be64L lv 8)]) 64 ?_ ?_
    case refine_1 => exact ⟨0, by omega, rfl, by rw [if_pos (Nat.zero_le _)]; rfl, by rw [ctX_zero _ _ _ _ hx]; exact hl⟩
    clear hl
    rintro k S' w' ⟨i, hi, rfl, rfl, hl⟩
    have hti := tn8 (show i < 256 by omega)
    refine EWp.headR [0, 2, 3, 6, 8, 9, 10, 47] fun K hK => ?_
    simp only [ev, fx, ↓reduceIte, Nat.reduceEqDiff, Nat.reduceLT, Nat.reduceLeDiff, Nat.reduceAdd, Nat.reduceSub, Nat.reduceMul, Int.reduceLT, Int.reduceLE, Int.reduceToNat, BitVec.reduceOfInt, BitVec.reduceToNat, reduceCtorEq, and_self, decide_true, decide_false, Bool.not_true, Bool.not_false, ne_eq, not_true_eq_false, not_false_eq_true, true_and, and_true, hti]
    refine hK _ _ (decide (i < 64)) rfl (fun hlt => ?_) (fun hlt => ?_) <;> clear hK K
    case refine_2 =>
      have hlt := of_decide_eq_false hlt
      obtain rfl : i = 64 := by omega
      simp only [BlockE, ThenE, ↓reduceIte]
      refine ⟨?_, hl⟩
      rw [if_neg (by omega)]
      rfl
    have hlt := of_decide_eq_true hlt
    refine EWp.cut [0, 2, 3, 6, 8, 9, 10] (fun S' w' => S' = [(0, .ptr ⟨b, 0, none⟩), (2, .ptr ⟨g2, 0, none⟩), (3, .ptr ⟨g3, 0, none⟩), (6, .u8 (BitVec.ofNat 8 m)), (8, .u8 m1), (9, .u8 (if i + 1 ≤ m then 0x80#8 else 0#8)), (10, .u8 (BitVec.ofNat 8 i))] ∧
      HL w w' [b] [(b, 73, digC s (ctX x m m1 lv (i + 1)) m (BitVec.ofNat 64 L)), (g2, 55, List.replicate 20 (SV.u8 0)), (g3, 88, be64L lv 8)]) ?_ ?_
    case refine_2 =>
      clear hl
      rintro S' w' ⟨rfl, hl⟩
      refine EWp.regR [0, 2, 3, 6, 8, 9, 10] fun K hK => ?_
      simp only [ev, fx, ↓reduceIte, Nat.reduceEqDiff, Nat.reduceLT, Nat.reduceLeDiff, Nat.reduceAdd, Nat.reduceSub, Nat.reduceMul, Int.reduceLT, Int.reduceLE, Int.reduceToNat, BitVec.reduceOfInt, BitVec.reduceToNat, reduceCtorEq, and_self, decide_true, decide_false, Bool.not_true, Bool.not_false, ne_eq, not_true_eq_false, not_false_eq_true, true_and, and_true, add8]
      exact hK _ _ fun S1 h1 => ⟨63 - i, by omega, i + 1, by omega, by omega, h1, hl⟩
    refine EWp.block ?_
    have hmk := msk (i := i) (n := m) hlt hmlt
    refine EWp.seqR [0, 2, 3, 6, 8, 9, 10, 11] fun K hK => ?_
    simp only [ev, fx, ↓reduceIte, Nat.reduceEqDiff, Nat.reduceLT, Nat.reduceLeDiff, Nat.reduceAdd, Nat.reduceSub, Nat.reduceMul, Int.reduceLT, Int.reduceLE, Int.reduceToNat, BitVec.reduceOfInt, BitVec.reduceToNat, reduceCtorEq, and_self, decide_true, decide_false, Bool.not_true, Bool.not_false, ne_eq, not_true_eq_false, not_false_eq_true, true_and, and_true, hmk]
    refine hK _ _ ?_; clear hK K
    have hcl := ctX_len x m m1 lv i
    have hci : (ctX x m m1 lv i).getD i 0 = x.getD i 0 := by
      rw [List.getD_eq_getElem?_getD, ctX_get _ _ _ _ _ hlt, if_neg (by omega)]; rfl
    have hss := sep_step m i x
    refine EWp.seqO (fun i => [18].contains i) [(0, 0), (1, 0), (2, 0), (3, 0), (4, 0), (5, 1), (6, 0), (7, 0), (8, 0), (9, 0), (10, 0), (11, 0), (12, 1), (13, 1), (14, 1), (15, 0), (16, 0), (17, 0), (18, 2)] [0, 2, 3, 6, 8, 9, 10, 11] mixed (by kernel_rfl) fun K hK => ?_
    have hl := hl.drew
    simp only [ev, fx, ↓reduceIte, Nat.reduceEqDiff, Nat.reduceLT, Nat.reduceLeDiff, Nat.reduceAdd, Nat.reduceSub, Nat.reduceMul, Int.reduceLT, Int.reduceLE, Int.reduceToNat, BitVec.reduceOfInt, BitVec.reduceToNat, reduceCtorEq, and_self, decide_true, decide_false, Bool.not_true, Bool.not_false, ne_eq, not_true_eq_false, not_false_eq_true, true_and, and_true, hti]
    repeat (refine And.intro (by omega) ?_)
    refine StopR.loadB hl 0 rfl one_5 rfl rfl (digC_at s _ m _ hcl hlt) ?_
    simp only [ev, fx, ↓reduceIte, Nat.reduceEqDiff, Nat.reduceLT, Nat.reduceLeDiff, Nat.reduceAdd, Nat.reduceSub, Nat.reduceMul, Int.reduceLT, Int.reduceLE, Int.reduceToNat, BitVec.reduceOfInt, BitVec.reduceToNat, reduceCtorEq, and_self, decide_true, decide_false, Bool.not_true, Bool.not_false, ne_eq, not_true_eq_false, not_false_eq_true, true_and, and_true, hti, hci, hss]
    repeat (refine And.intro (by omega) ?_)
    have hcB : ctB x m m1 lv i = (if i < m then x.getD i 0 else if i = m then 0x80#8 else 0#8 : B8) ||| (if 56 ≤ i then m1 &&& be8 lv (i - 56) else 0#8) := rfl
    generalize (if i < m then x.getD i 0 else if i = m then 0x80#8 else 0#8 : B8) = v1 at *
    refine SemE.storeB (v := .u8 v1) hl 0 rfl rfl one_5 rfl rfl (by rw [digC_length _ _ _ _ hcl]; omega) fun w4 hl => ⟨fun h => absurd h (by decide), ?_⟩
    rw [List.set_cons_zero, digC_put s _ m _ hcl hlt] at hl
    simp only [ev, fx, ↓reduceIte, Nat.reduceEqDiff, Nat.reduceLT, Nat.reduceLeDiff, Nat.reduceAdd, Nat.reduceSub, Nat.reduceMul, Int.reduceLT, Int.reduceLE, Int.reduceToNat, BitVec.reduceOfInt, BitVec.reduceToNat, reduceCtorEq, and_self, decide_true, decide_false, Bool.not_true, Bool.not_false, ne_eq, not_true_eq_false, not_false_eq_true, true_and, and_true]
    refine hK _ _ ?_; clear hK K
    have hsn := sep_next m i
    refine EWp.seqR [0, 2, 3, 6, 8, 9, 10] fun K hK => ?_
    simp only [ev, fx, ↓reduceIte, Nat.reduceEqDiff, Nat.reduceLT, Nat.reduceLeDiff, Nat.reduceAdd, Nat.reduceSub, Nat.reduceMul, Int.reduceLT, Int.reduceLE, Int.reduceToNat, BitVec.reduceOfInt, BitVec.reduceToNat, reduceCtorEq, and_self, decide_true, decide_false, Bool.not_true, Bool.not_false, ne_eq, not_true_eq_false, not_false_eq_true, true_and, and_true, hsn]
    refine hK _ _ ?_; clear hK K
    have hcs := ctX_set x m m1 lv i hlt
    have hcl2 : ((ctX x m m1 lv i).set i v1).length = 64 := by rw [List.length_set, hcl]
    have hci2 : ((ctX x m m1 lv i).set i v1).getD i 0 = v1 := by
      rw [List.getD_eq_getElem?_getD, List.getElem?_set_self (by omega)]; rfl
    refine EWp.brR [0, 2, 3, 6, 8, 9, 10, 78] fun K hK => ?_
    simp only [ev, fx, ↓reduceIte, Nat.reduceEqDiff, Nat.reduceLT, Nat.reduceLeDiff, Nat.reduceAdd, Nat.reduceSub, Nat.reduceMul, Int.reduceLT, Int.reduceLE, Int.reduceToNat, BitVec.reduceOfInt, BitVec.reduceToNat, reduceCtorEq, and_self, decide_true, decide_false, Bool.not_true, Bool.not_false, ne_eq, not_true_eq_false, not_false_eq_true, true_and, and_true, hti]
    refine hK _ _ (decide (56 ≤ i)) rfl (fun h => ?_) (fun h => ?_) <;> clear hK K
    · have h := of_decide_eq_true h
      have hsb := sub8 i hlt h
      rw [if_pos h] at hcB
      refine EWp.regO (fun i => [16].contains i) [(0, 0), (1, 0), (2, 0), (3, 0), (4, 0), (5, 1), (6, 0), (7, 0), (8, 1), (9, 0), (10, 1), (11, 1), (12, 1), (13, 0), (14, 0), (15, 0), (16, 2)] [0, 2, 3, 6, 8, 9, 10] mixed (by kernel_rfl) fun K hK => ?_
      have hl := hl.drew
      simp only [ev, fx, ↓reduceIte, Nat.reduceEqDiff, Nat.reduceLT, Nat.reduceLeDiff, Nat.reduceAdd, Nat.reduceSub, Nat.reduceMul, Int.reduceLT, Int.reduceLE, Int.reduceToNat, BitVec.reduceOfInt, BitVec.reduceToNat, reduceCtorEq, and_self, decide_true, decide_false, Bool.not_true, Bool.not_false, ne_eq, not_true_eq_false, not_false_eq_true, true_and, and_true, hti, hsb]
      repeat (refine And.intro (by omega) ?_)
      refine StopR.loadB hl 0 rfl one_5 rfl rfl (digC_at s _ m _ hcl2 hlt) ?_
      simp only [ev, fx, ↓reduceIte, Nat.reduceEqDiff, Nat.reduceLT, Nat.reduceLeDiff, Nat.reduceAdd, Nat.reduceSub, Nat.reduceMul, Int.reduceLT, Int.reduceLE, Int.reduceToNat, BitVec.reduceOfInt, BitVec.reduceToNat, reduceCtorEq, and_self, decide_true, decide_false, Bool.not_true, Bool.not_false, ne_eq, not_true_eq_false, not_false_eq_true, true_and, and_true, hti, hsb, hci2]
      repeat (refine And.intro (by omega) ?_)
      refine StopR.loadB (v := .u8 (be8 lv (i - 56))) hl 2 rfl one_5 rfl rfl (by first | exact be64L_get (by omega) | (rw [Nat.zero_add]; exact be64L_get (by omega))) ?_
      simp only [ev, fx, ↓reduceIte, Nat.reduceEqDiff, Nat.reduceLT, Nat.reduceLeDiff, Nat.reduceAdd, Nat.reduceSub, Nat.reduceMul, Int.reduceLT, Int.reduceLE, Int.reduceToNat, BitVec.reduceOfInt, BitVec.reduceToNat, reduceCtorEq, and_self, decide_true, decide_false, Bool.not_true, Bool.not_false, ne_eq, not_true_eq_false, not_false_eq_true, true_and, and_true, hti, hsb, ← hcB]
      repeat (refine And.intro (by omega) ?_)
      refine SemE.storeB (v := .u8 (ctB x m m1 lv i)) hl 0 rfl rfl one_5 rfl rfl (by rw [digC_length _ _ _ _ hcl2]; omega) fun w5 hl => ⟨fun h => absurd h (by decide), ?_⟩
      rw [List.set_cons_zero, digC_put s _ m _ hcl2 hlt, List.set_set, hcs] at hl
      simp only [ev, fx, ↓reduceIte, Nat.reduceEqDiff, Nat.reduceLT, Nat.reduceLeDiff, Nat.reduceAdd, Nat.reduceSub, Nat.reduceMul, Int.reduceLT, Int.reduceLE, Int.reduceToNat, BitVec.reduceOfInt, BitVec.reduceToNat, reduceCtorEq, and_self, decide_true, decide_false, Bool.not_true, Bool.not_false, ne_eq, not_true_eq_false, not_false_eq_true, true_and, and_true]
      refine hK _ _ fun S1 h1 => ?_; clear hK K
      simp only [BlockE, ThenE]
      exact ⟨h1, hl⟩
    · have h := of_decide_eq_false h
      have hz : v1 ||| 0#8 = v1 := BitVec.or_zero
      rw [if_neg h, hz] at hcB
      rw [← hcB, hcs] at hl
      refine EWp.skip ?_
      simp only [BlockE, ThenE]
      exact ⟨rfl, hl⟩
  clear hl
  rintro S' w4 ⟨rfl, hl⟩
  have hXl := ctX_len x m m1 lv 64
  generalize hXe : ctX x m m1 lv 64 = X at *
  refine EWp.seqR [0, 2, 3, 8, 9] fun K hK => ?_
  simp only [ev, fx, ↓reduceIte, Nat.reduceEqDiff, Nat.reduceLT, Nat.reduceLeDiff, Nat.reduceAdd, Nat.reduceSub, Nat.reduceMul, Int.reduceLT, Int.reduceLE, Int.reduceToNat, BitVec.reduceOfInt, BitVec.reduceToNat, reduceCtorEq, and_self, decide_true, decide_false, Bool.not_true, Bool.not_false, ne_eq, not_true_eq_false, not_false_eq_true, true_and, and_true, sl0, Option.map_some]
  refine SemE.call fn_53 rfl rfl (block1 b s (X.map SV.u8 ++ [.nat m, .u64 (BitVec.ofNat 64 L)]) (some ⟨b, 5, none⟩) 64 64 X w4 (hl.at (k := 0) rfl) (by
    have := Rd.blk hl (k := 0) rfl 5 64
    rwa [digC_x _ _ _ _ hXl] at this) hXl (by omega) (by omega)) ?_
  rintro _ w5 ⟨rfl, hl5⟩
  refine ⟨_, rfl, ?_⟩
  have hl := hl.call (k := 0) rfl hl5
  simp only [List.set_cons_zero, List.append_nil] at hl
  generalize hh1 : blocks s X = h1 at hl
  have hl : HL w w5 [b] [(b, 73, digC h1 X m (BitVec.ofNat 64 L)), (g2, 55, List.replicate 20 (SV.u8 0)), (g3, 88, be64L lv 8)] := hl
  simp only [ev, fx, ↓reduceIte, Nat.reduceEqDiff, Nat.reduceLT, Nat.reduceLeDiff, Nat.reduceAdd, Nat.reduceSub, Nat.reduceMul, Int.reduceLT, Int.reduceLE, Int.reduceToNat, BitVec.reduceOfInt, BitVec.reduceToNat, reduceCtorEq, and_self, decide_true, decide_false, Bool.not_true, Bool.not_false, ne_eq, not_true_eq_false, not_false_eq_true, true_and, and_true]
  repeat (refine And.intro (by omega) ?_)
  refine hK _ _ ?_; clear hK K
  refine EWp.seqR [0, 2, 3, 8, 9, 12] fun K hK => ?_
  simp only [ev, fx, ↓reduceIte, Nat.reduceEqDiff, Nat.reduceLT, Nat.reduceLeDiff, Nat.reduceAdd, Nat.reduceSub, Nat.reduceMul, Int.reduceLT, Int.reduceLE, Int.reduceToNat, BitVec.reduceOfInt, BitVec.reduceToNat, reduceCtorEq, and_self, decide_true, decide_false, Bool.not_true, Bool.not_false, ne_eq, not_true_eq_false, not_false_eq_true, true_and, and_true]
  refine SemE.alloc hl zero_55 rfl fun g4 w6 hg4 hl => ?_
  simp only [List.cons_append, List.nil_append] at hl
  simp only [ev, fx, ↓reduceIte, Nat.reduceEqDiff, Nat.reduceLT, Nat.reduceLeDiff, Nat.reduceAdd, Nat.reduceSub, Nat.reduceMul, Int.reduceLT, Int.reduceLE, Int.reduceToNat, BitVec.reduceOfInt, BitVec.reduceToNat, reduceCtorEq, and_self, decide_true, decide_false, Bool.not_true, Bool.not_false, ne_eq, not_true_eq_false, not_false_eq_true, true_and, and_true]
  repeat (refine And.intro (by omega) ?_)
  refine hK _ _ ?_; clear hK K
  have hrep : List.replicate 20 (SV.u8 0) = (gF 20 (fun j => m1 &&& (sumB h1).getD j 0) (fun _ => 0) 0).map SV.u8 := rfl
  generalize hf3 : (fun j => m1 &&& (sumB h1).getD j 0) = f3 at *
  refine EWp.cut [0, 2, 3, 8, 9, 12] (fun S' w' => S' = [(0, .ptr ⟨b, 0, none⟩), (2, .ptr ⟨g2, 0, none⟩), (3, .ptr ⟨g3, 0, none⟩), (8, .u8 m1), (9, .u8 0), (12, .ptr ⟨g4, 0, none⟩)] ∧
    HL w w' [b] [(b, 73, digC h1 X m (BitVec.ofNat 64 L)), (g2, 55, List.replicate 20 (SV.u8 0)), (g3, 88, be64L lv 8), (g4, 55, (gF 20 f3 (fun _ => 0) 20).map SV.u8)]) ?_ ?_
  case refine_1 =>
    refine EWp.seqR [0, 2, 3, 8, 9, 12, 104, 105] fun K hK => ?_
    simp only [ev, fx, ↓reduceIte, Nat.reduceEqDiff, Nat.reduceLT, Nat.reduceLeDiff, Nat.reduceAdd, Nat.reduceSub, Nat.reduceMul, Int.reduceLT, Int.reduceLE, Int.reduceToNat, BitVec.reduceOfInt, BitVec.reduceToNat, reduceCtorEq, and_self, decide_true, decide_false, Bool.not_true, Bool.not_false, ne_eq, not_true_eq_false, not_false_eq_true, true_and, and_true]
    refine SemE.loadA (vs := [.u32 h1.a, .u32 h1.b, .u32 h1.c, .u32 h1.d, .u32 h1.e]) rfl agg_51 rfl (by
      have := Rd.blk hl (k := 0) rfl 0 5
      exact this) ?_
    simp only [ev, fx, ↓reduceIte, Nat.reduceEqDiff, Nat.reduceLT, Nat.reduceLeDiff, Nat.reduceAdd, Nat.reduceSub, Nat.reduceMul, Int.reduceLT, Int.reduceLE, Int.reduceToNat, BitVec.reduceOfInt, BitVec.reduceToNat, reduceCtorEq, and_self, decide_true, decide_false, Bool.not_true, Bool.not_false, ne_eq, not_true_eq_false, not_false_eq_true, true_and, and_true]
    repeat (refine And.intro (by omega) ?_)
    refine hK _ _ ?_; clear hK K
    refine EWp.block ?_
    refine EWp.loop [0, 2, 3, 8, 9, 12, 104, 105] (fun k S' w' => ∃ i : Nat, i ≤ 5 ∧ k = 5 - i ∧ S' = [(0, .ptr ⟨b, 0, none⟩), (2, .ptr ⟨g2, 0, none⟩), (3, .ptr ⟨g3, 0, none⟩), (8, .u8 m1), (9, .u8 0), (12, .ptr ⟨g4, 0, none⟩), (104, SV.agg [.u32 h1.a, .u32 h1.b, .u32 h1.c, .u32 h1.d, .u32 h1.e]), (105, .nat i)] ∧
      HL w w' [b] [(b, 73, digC h1 X m (BitVec.ofNat 64 L)), (g2, 55, List.replicate 20 (SV.u8 0)), (g3, 88, be64L lv 8), (g4, 55, (gF 20 f3 (fun _ => 0) (i * 4)).map SV.u8)]) 5 ?_ ?_
    case refine_1 => exact ⟨0, by omega, rfl, rfl, hl⟩
    clear hl
    rintro k S' w' ⟨i, hi, rfl, rfl, hl⟩
    refine EWp.seqR [0, 2, 3, 8, 9, 12, 104, 105, 106] fun K hK => ?_
    simp only [ev, fx, ↓reduceIte, Nat.reduceEqDiff, Nat.reduceLT, Nat.reduceLeDiff, Nat.reduceAdd, Nat.reduceSub, Nat.reduceMul, Int.reduceLT, Int.reduceLE, Int.reduceToNat, BitVec.reduceOfInt, BitVec.reduceToNat, reduceCtorEq, and_self, decide_true, decide_false, Bool.not_true, Bool.not_false, ne_eq, not_true_eq_false, not_false_eq_true, true_and, and_true]
    repeat (refine And.intro (by omega) ?_)
    refine hK _ _ ?_; clear hK K
    refine EWp.guard (b := decide (i < 5)) rfl (fun hlt => ?_) (fun hlt => ?_)
    case refine_2 =>
      have hlt := of_decide_eq_false hlt
      obtain rfl : i = 5 := by omega
      simp only [BlockE, ThenE, ↓reduceIte]
      exact ⟨rfl, hl⟩
    have hlt := of_decide_eq_true hlt
    refine EWp.cut [0, 2, 3, 8, 9, 12, 104, 105] (fun S' w' => S' = [(0, .ptr ⟨b, 0, none⟩), (2, .ptr ⟨g2, 0, none⟩), (3, .ptr ⟨g3, 0, none⟩), (8, .u8 m1), (9, .u8 0), (12, .ptr ⟨g4, 0, none⟩), (104, SV.agg [.u32 h1.a, .u32 h1.b, .u32 h1.c, .u32 h1.d, .u32 h1.e]), (105, .nat i)] ∧
      HL w w' [b] [(b, 73, digC h1 X m (BitVec.ofNat 64 L)), (g2, 55, List.replicate 20 (SV.u8 0)), (g3, 88, be64L lv 8), (g4, 55, (gF 20 f3 (fun _ => 0) ((i + 1) * 4)).map SV.u8)]) ?_ ?_
    case refine_2 =>
      clear hl
      rintro S' w' ⟨rfl, hl⟩
      refine EWp.regR [0, 2, 3, 8, 9, 12, 104, 105] fun K hK => ?_
      simp only [ev, fx, ↓reduceIte, Nat.reduceEqDiff, Nat.reduceLT, Nat.reduceLeDiff, Nat.reduceAdd, Nat.reduceSub, Nat.reduceMul, Int.reduceLT, Int.reduceLE, Int.reduceToNat, BitVec.reduceOfInt, BitVec.reduceToNat, reduceCtorEq, and_self, decide_true, decide_false, Bool.not_true, Bool.not_false, ne_eq, not_true_eq_false, not_false_eq_true, true_and, and_true]
      exact ⟨by omega, hK _ _ fun S1 h1 => ⟨4 - i, by omega, i + 1, by omega, by omega, h1, hl⟩⟩
    refine EWp.block ?_
    refine EWp.seqR [0, 2, 3, 8, 9, 12, 13, 14, 104, 105] fun K hK => ?_
    simp only [ev, fx, ↓reduceIte, Nat.reduceEqDiff, Nat.reduceLT, Nat.reduceLeDiff, Nat.reduceAdd, Nat.reduceSub, Nat.reduceMul, Int.reduceLT, Int.reduceLE, Int.reduceToNat, BitVec.reduceOfInt, BitVec.reduceToNat, reduceCtorEq, and_self, decide_true, decide_false, Bool.not_true, Bool.not_false, ne_eq, not_true_eq_false, not_false_eq_true, true_and, and_true]
    refine SemE.plain (.u32 (g5 h1 i)) (Plain.index Try.underlying51 one_50 rfl rfl hlt (five_get h1 hlt)) rfl ?_
    simp only [ev, fx, ↓reduceIte, Nat.reduceEqDiff, Nat.reduceLT, Nat.reduceLeDiff, Nat.reduceAdd, Nat.reduceSub, Nat.reduceMul, Int.reduceLT, Int.reduceLE, Int.reduceToNat, BitVec.reduceOfInt, BitVec.reduceToNat, reduceCtorEq, and_self, decide_true, decide_false, Bool.not_true, Bool.not_false, ne_eq, not_true_eq_false, not_false_eq_true, true_and, and_true]
    refine hK _ _ ?_; clear hK K
    obtain ⟨q0, q1, q2, q3⟩ := sumB_at h1 hlt
    have e0 : m1 &&& (g5 h1 i >>> 24).setWidth 8 = f3 (i * 4) := by rw [← hf3]; exact congrArg (m1 &&& ·) q0.symm
    have e1 : m1 &&& (g5 h1 i >>> 16).setWidth 8 = f3 (i * 4 + 1) := by rw [← hf3]; exact congrArg (m1 &&& ·) q1.symm
    have e2 : m1 &&& (g5 h1 i >>> 8).setWidth 8 = f3 (i * 4 + 2) := by rw [← hf3]; exact congrArg (m1 &&& ·) q2.symm
    have e3 : m1 &&& (g5 h1 i).setWidth 8 = f3 (i * 4 + 3) := by rw [← hf3]; rw [be4_3] at q3; exact congrArg (m1 &&& ·) q3.symm
    refine EWp.seqR [0, 2, 3, 8, 9, 12, 13, 14, 104, 105] fun K hK => ?_
    simp only [ev, fx, ↓reduceIte, Nat.reduceEqDiff, Nat.reduceLT, Nat.reduceLeDiff, Nat.reduceAdd, Nat.reduceSub, Nat.reduceMul, Int.reduceLT, Int.reduceLE, Int.reduceToNat, BitVec.reduceOfInt, BitVec.reduceToNat, reduceCtorEq, and_self, decide_true, decide_false, Bool.not_true, Bool.not_false, ne_eq, not_true_eq_false, not_false_eq_true, true_and, and_true, e0]
    repeat (refine And.intro (by omega) ?_)
    refine SemE.storeB (v := .u8 (f3 (i * 4))) hl 3 rfl rfl one_5 rfl rfl (by rw [List.length_map, gF_len]; omega) fun w' hl => ?_
    simp only [List.set_cons_zero, List.set_cons_succ, Nat.zero_add, set_u8] at hl
    rw [gF_set f3 _ (show i * 4 < 20 by omega)] at hl
    simp only [ev, fx, ↓reduceIte, Nat.reduceEqDiff, Nat.reduceLT, Nat.reduceLeDiff, Nat.reduceAdd, Nat.reduceSub, Nat.reduceMul, Int.reduceLT, Int.reduceLE, Int.reduceToNat, BitVec.reduceOfInt, BitVec.reduceToNat, reduceCtorEq, and_self, decide_true, decide_false, Bool.not_true, Bool.not_false, ne_eq, not_true_eq_false, not_false_eq_true, true_and, and_true]
    refine hK _ _ ?_; clear hK K
    refine EWp.seqR [0, 2, 3, 8, 9, 12, 13, 14, 104, 105] fun K hK => ?_
    simp only [ev, fx, ↓reduceIte, Nat.reduceEqDiff, Nat.reduceLT, Nat.reduceLeDiff, Nat.reduceAdd, Nat.reduceSub, Nat.reduceMul, Int.reduceLT, Int.reduceLE, Int.reduceToNat, BitVec.reduceOfInt, BitVec.reduceToNat, reduceCtorEq, and_self, decide_true, decide_false, Bool.not_true, Bool.not_false, ne_eq, not_true_eq_false, not_false_eq_true, true_and, and_true, e1]
    repeat (refine And.intro (by omega) ?_)
    refine SemE.storeB (v := .u8 (f3 (i * 4 + 1))) hl 3 rfl rfl one_5 rfl rfl (by rw [List.length_map, gF_len]; omega) fun w' hl => ?_
    simp only [List.set_cons_zero, List.set_cons_succ, Nat.zero_add, set_u8] at hl
    rw [gF_set f3 _ (show i * 4 + 1 < 20 by omega)] at hl
    simp only [ev, fx, ↓reduceIte, Nat.reduceEqDiff, Nat.reduceLT, Nat.reduceLeDiff, Nat.reduceAdd, Nat.reduceSub, Nat.reduceMul, Int.reduceLT, Int.reduceLE, Int.reduceToNat, BitVec.reduceOfInt, BitVec.reduceToNat, reduceCtorEq, and_self, decide_true, decide_false, Bool.not_true, Bool.not_false, ne_eq, not_true_eq_false, not_false_eq_true, true_and, and_true]
    refine hK _ _ ?_; clear hK K
    refine EWp.seqR [0, 2, 3, 8, 9, 12, 13, 14, 104, 105] fun K hK => ?_
    simp only [ev, fx, ↓reduceIte, Nat.reduceEqDiff, Nat.reduceLT, Nat.reduceLeDiff, Nat.reduceAdd, Nat.reduceSub, Nat.reduceMul, Int.reduceLT, Int.reduceLE, Int.reduceToNat, BitVec.reduceOfInt, BitVec.reduceToNat, reduceCtorEq, and_self, decide_true, decide_false, Bool.not_true, Bool.not_false, ne_eq, not_true_eq_false, not_false_eq_true, true_and, and_true, e2]
    repeat (refine And.intro (by omega) ?_)
    refine SemE.storeB (v := .u8 (f3 (i * 4 + 2))) hl 3 rfl rfl one_5 rfl rfl (by rw [List.length_map, gF_len]; omega) fun w' hl => ?_
    simp only [List.set_cons_zero, List.set_cons_succ, Nat.zero_add, set_u8] at hl
    rw [gF_set f3 _ (show i * 4 + 2 < 20 by omega)] at hl
    simp only [ev, fx, ↓reduceIte, Nat.reduceEqDiff, Nat.reduceLT, Nat.reduceLeDiff, Nat.reduceAdd, Nat.reduceSub, Nat.reduceMul, Int.reduceLT, Int.reduceLE, Int.reduceToNat, BitVec.reduceOfInt, BitVec.reduceToNat, reduceCtorEq, and_self, decide_true, decide_false, Bool.not_true, Bool.not_false, ne_eq, not_true_eq_false, not_false_eq_true, true_and, and_true]
    refine hK _ _ ?_; clear hK K
    refine EWp.regR [0, 2, 3, 8, 9, 12, 104, 105] fun K hK => ?_
    simp only [ev, fx, ↓reduceIte, Nat.reduceEqDiff, Nat.reduceLT, Nat.reduceLeDiff, Nat.reduceAdd, Nat.reduceSub, Nat.reduceMul, Int.reduceLT, Int.reduceLE, Int.reduceToNat, BitVec.reduceOfInt, BitVec.reduceToNat, reduceCtorEq, and_self, decide_true, decide_false, Bool.not_true, Bool.not_false, ne_eq, not_true_eq_false, not_false_eq_true, true_and, and_true, e3]
    repeat (refine And.intro (by omega) ?_)
    refine SemE.storeB (v := .u8 (f3 (i * 4 + 3))) hl 3 rfl rfl one_5 rfl rfl (by rw [List.length_map, gF_len]; omega) fun w' hl => ?_
    simp only [List.set_cons_zero, List.set_cons_succ, Nat.zero_add, set_u8] at hl
    rw [gF_set f3 _ (show i * 4 + 3 < 20 by omega)] at hl
    simp only [ev, fx, ↓reduceIte, Nat.reduceEqDiff, Nat.reduceLT, Nat.reduceLeDiff, Nat.reduceAdd, Nat.reduceSub, Nat.reduceMul, Int.reduceLT, Int.reduceLE, Int.reduceToNat, BitVec.reduceOfInt, BitVec.reduceToNat, reduceCtorEq, and_self, decide_true, decide_false, Bool.not_true, Bool.not_false, ne_eq, not_true_eq_false, not_false_eq_true, true_and, and_true]
    refine hK _ _ fun S1 h1 => ?_; clear hK K
    simp only [BlockE, ThenE]
    exact ⟨h1, by rw [show (i + 1) * 4 = i * 4 + 3 + 1 by omega]; exact hl⟩
  clear hl hrep
  rintro S' w7 ⟨rfl, hl⟩
  have hX0 : gF 64 (fun j => if j < 56 then 0#8 else be8 lv (j - 56)) (fun j => X.getD j 0) 0 = X := by
    apply List.ext_getElem?
    intro j
    by_cases hj : j < 64
    · rw [gF_get _ _ _ hj, if_neg (by omega), List.getElem?_eq_getElem (by omega)]
      simp [List.getD_eq_getElem?_getD, List.getElem?_eq_getElem (by omega : j < X.length)]
    · rw [List.getElem?_eq_none (by simp [gF_len]; omega), List.getElem?_eq_none (by omega)]
  have hX2 : gF 64 (fun j => if j < 56 then 0#8 else be8 lv (j - 56)) (fun j => X.getD j 0) 64 = List.replicate 56 0#8 ++ (List.range 8).map (be8 lv) := by
    apply List.ext_getElem?
    intro j
    by_cases hj : j < 64
    · rw [gF_get _ _ _ hj, if_pos hj]
      by_cases h56 : j < 56
      · rw [List.getElem?_append_left (by simpa using h56), List.getElem?_replicate, if_pos h56, if_pos h56]
      · rw [List.getElem?_append_right (by simp; omega), List.length_replicate, List.getElem?_map, List.getElem?_range (by omega), if_neg h56]; rfl
    · rw [List.getElem?_eq_none (by simp [gF_len]; omega), List.getElem?_eq_none (by simp; omega)]
  have hf4 : ∀ j, (fun j => if j < 56 then 0#8 else be8 lv (j - 56)) j = if j < 56 then 0#8 else be8 lv (j - 56) := fun _ => rfl
  generalize (fun j => if j < 56 then 0#8 else be8 lv (j - 56)) = f4 at *
  generalize (fun j => X.getD j 0) = old4 at *
  refine EWp.cut [0, 2, 8, 12] (fun S' w' => S' = [(0, .ptr ⟨b, 0, none⟩), (2, .ptr ⟨g2, 0, none⟩), (8, .u8 m1), (12, .ptr ⟨g4, 0, none⟩)] ∧
    HL w w' [b] [(b, 73, digC h1 (gF 64 f4 old4 64) m (BitVec.ofNat 64 L)), (g2, 55, List.replicate 20 (SV.u8 0)), (g3, 88, be64L lv 8), (g4, 55, (gF 20 f3 (fun _ => 0) 20).map SV.u8)]) ?_ ?_
  case refine_1 =>
    refine EWp.seqR [0, 2, 3, 8, 9, 12, 15] fun K hK => ?_
    simp only [ev, fx, ↓reduceIte, Nat.reduceEqDiff, Nat.reduceLT, Nat.reduceLeDiff, Nat.reduceAdd, Nat.reduceSub, Nat.reduceMul, Int.reduceLT, Int.reduceLE, Int.reduceToNat, BitVec.reduceOfInt, BitVec.reduceToNat, reduceCtorEq, and_self, decide_true, decide_false, Bool.not_true, Bool.not_false, ne_eq, not_true_eq_false, not_false_eq_true, true_and, and_true]
    repeat (refine And.intro (by omega) ?_)
    refine hK _ _ ?_; clear hK K
    refine EWp.block ?_
    refine EWp.loop [0, 2, 3, 8, 9, 12, 15] (fun k S' w' => ∃ i : Nat, i ≤ 64 ∧ k = 64 - i ∧ S' = [(0, .ptr ⟨b, 0, none⟩), (2, .ptr ⟨g2, 0, none⟩), (3, .ptr ⟨g3, 0, none⟩), (8, .u8 m1), (9, .u8 0), (12, .ptr ⟨g4, 0, none⟩), (15, .u8 (BitVec.ofNat 8 i))] ∧
      HL w w' [b] [(b, 73, digC h1 (gF 64 f4 old4 i) m (BitVec.ofNat 64 L)), (g2, 55, List.replicate 20 (SV.u8 0)), (g3, 88, be64L lv 8), (g4, 55, (gF 20 f3 (fun _ => 0) 20).map SV.u8)]) 64 ?_ ?_
    case refine_1 => exact ⟨0, by omega, rfl, rfl, by rw [hX0]; exact hl⟩
    clear hl
    rintro k S' w' ⟨i, hi, rfl, rfl, hl⟩
    have hti := tn8 (show i < 256 by omega)
    refine EWp.headR [0, 2, 3, 8, 9, 12, 15, 145] fun K hK => ?_
    simp only [ev, fx, ↓reduceIte, Nat.reduceEqDiff, Nat.reduceLT, Nat.reduceLeDiff, Nat.reduceAdd, Nat.reduceSub, Nat.reduceMul, Int.reduceLT, Int.reduceLE, Int.reduceToNat, BitVec.reduceOfInt, BitVec.reduceToNat, reduceCtorEq, and_self, decide_true, decide_false, Bool.not_true, Bool.not_false, ne_eq, not_true_eq_false, not_false_eq_true, true_and, and_true, hti]
    refine hK _ _ (decide (i < 64)) rfl (fun hlt => ?_) (fun hlt => ?_) <;> clear hK K
    case refine_2 =>
      have hlt := of_decide_eq_false hlt
      obtain rfl : i = 64 := by omega
      simp only [BlockE, ThenE, ↓reduceIte]
      exact ⟨rfl, hl⟩
    have hlt := of_decide_eq_true hlt
    refine EWp.cut [0, 2, 3, 8, 9, 12, 15] (fun S' w' => S' = [(0, .ptr ⟨b, 0, none⟩), (2, .ptr ⟨g2, 0, none⟩), (3, .ptr ⟨g3, 0, none⟩), (8, .u8 m1), (9, .u8 0), (12, .ptr ⟨g4, 0, none⟩), (15, .u8 (BitVec.ofNat 8 i))] ∧
      HL w w' [b] [(b, 73, digC h1 (gF 64 f4 old4 (i + 1)) m (BitVec.ofNat 64 L)), (g2, 55, List.replicate 20 (SV.u8 0)), (g3, 88, be64L lv 8), (g4, 55, (gF 20 f3 (fun _ => 0) 20).map SV.u8)]) ?_ ?_
    case refine_2 =>
      clear hl
      rintro S' w' ⟨rfl, hl⟩
      refine EWp.regR [0, 2, 3, 8, 9, 12, 15] fun K hK => ?_
      simp only [ev, fx, ↓reduceIte, Nat.reduceEqDiff, Nat.reduceLT, Nat.reduceLeDiff, Nat.reduceAdd, Nat.reduceSub, Nat.reduceMul, Int.reduceLT, Int.reduceLE, Int.reduceToNat, BitVec.reduceOfInt, BitVec.reduceToNat, reduceCtorEq, and_self, decide_true, decide_false, Bool.not_true, Bool.not_false, ne_eq, not_true_eq_false, not_false_eq_true, true_and, and_true, add8]
      exact hK _ _ fun S1 h1 => ⟨63 - i, by omega, i + 1, by omega, by omega, h1, hl⟩
    refine EWp.block ?_
    refine EWp.brR [0, 2, 3, 8, 9, 12, 15, 149] fun K hK => ?_
    simp only [ev, fx, ↓reduceIte, Nat.reduceEqDiff, Nat.reduceLT, Nat.reduceLeDiff, Nat.reduceAdd, Nat.reduceSub, Nat.reduceMul, Int.reduceLT, Int.reduceLE, Int.reduceToNat, BitVec.reduceOfInt, BitVec.reduceToNat, reduceCtorEq, and_self, decide_true, decide_false, Bool.not_true, Bool.not_false, ne_eq, not_true_eq_false, not_false_eq_true, true_and, and_true, hti]
    have hfi := hf4 i
    have hgs := gF_set f4 old4 hlt
    refine hK _ _ (decide (i < 56)) rfl (fun h => ?_) (fun h => ?_) <;> clear hK K
    · have h := of_decide_eq_true h
      rw [if_pos h] at hfi
      refine EWp.seqR [0, 2, 3, 8, 12, 15] fun K hK => ?_
      simp only [ev, fx, ↓reduceIte, Nat.reduceEqDiff, Nat.reduceLT, Nat.reduceLeDiff, Nat.reduceAdd, Nat.reduceSub, Nat.reduceMul, Int.reduceLT, Int.reduceLE, Int.reduceToNat, BitVec.reduceOfInt, BitVec.reduceToNat, reduceCtorEq, and_self, decide_true, decide_false, Bool.not_true, Bool.not_false, ne_eq, not_true_eq_false, not_false_eq_true, true_and, and_true, hti]
      repeat (refine And.intro (by omega) ?_)
      refine SemE.storeB (v := .u8 (f4 i)) hl 0 rfl (by rw [hfi]; rfl) one_5 rfl rfl (by rw [digC_length _ _ _ _ gF_len]; omega) fun w5 hl => ?_
      rw [List.set_cons_zero, digC_put h1 _ m _ gF_len hlt, hgs] at hl
      simp only [ev, fx, ↓reduceIte, Nat.reduceEqDiff, Nat.reduceLT, Nat.reduceLeDiff, Nat.reduceAdd, Nat.reduceSub, Nat.reduceMul, Int.reduceLT, Int.reduceLE, Int.reduceToNat, BitVec.reduceOfInt, BitVec.reduceToNat, reduceCtorEq, and_self, decide_true, decide_false, Bool.not_true, Bool.not_false, ne_eq, not_true_eq_false, not_false_eq_true, true_and, and_true]
      refine hK _ _ ?_; clear hK K
      refine EWp.regR [0, 2, 3, 8, 9, 12, 15] fun K hK => ?_
      simp only [ev, fx, ↓reduceIte, Nat.reduceEqDiff, Nat.reduceLT, Nat.reduceLeDiff, Nat.reduceAdd, Nat.reduceSub, Nat.reduceMul, Int.reduceLT, Int.reduceLE, Int.reduceToNat, BitVec.reduceOfInt, BitVec.reduceToNat, reduceCtorEq, and_self, decide_true, decide_false, Bool.not_true, Bool.not_false, ne_eq, not_true_eq_false, not_false_eq_true, true_and, and_true]
      refine hK _ _ fun S1 h1 => ?_; clear hK K
      simp only [BlockE, ThenE]
      exact ⟨h1, hl⟩
    · have h := of_decide_eq_false h
      have hsb := sub8 i hlt (by omega)
      rw [if_neg h] at hfi
      refine EWp.regO (fun i => [9].contains i) [(0, 0), (1, 0), (2, 0), (3, 1), (4, 0), (5, 1), (6, 0), (7, 0), (8, 0), (9, 2)] [0, 2, 3, 8, 9, 12, 15] mixed (by kernel_rfl) fun K hK => ?_
      have hl := hl.drew
      simp only [ev, fx, ↓reduceIte, Nat.reduceEqDiff, Nat.reduceLT, Nat.reduceLeDiff, Nat.reduceAdd, Nat.reduceSub, Nat.reduceMul, Int.reduceLT, Int.reduceLE, Int.reduceToNat, BitVec.reduceOfInt, BitVec.reduceToNat, reduceCtorEq, and_self, decide_true, decide_false, Bool.not_true, Bool.not_false, ne_eq, not_true_eq_false, not_false_eq_true, true_and, and_true, hti, hsb]
      repeat (refine And.intro (by omega) ?_)
      refine StopR.loadB (v := .u8 (f4 i)) hl 2 rfl one_5 rfl rfl (by rw [hfi]; first | exact be64L_get (by omega) | (rw [Nat.zero_add]; exact be64L_get (by omega))) ?_
      simp only [ev, fx, ↓reduceIte, Nat.reduceEqDiff, Nat.reduceLT, Nat.reduceLeDiff, Nat.reduceAdd, Nat.reduceSub, Nat.reduceMul, Int.reduceLT, Int.reduceLE, Int.reduceToNat, BitVec.reduceOfInt, BitVec.reduceToNat, reduceCtorEq, and_self, decide_true, decide_false, Bool.not_true, Bool.not_false, ne_eq, not_true_eq_false, not_false_eq_true, true_and, and_true, hti, hsb]
      repeat (refine And.intro (by omega) ?_)
      refine SemE.storeB (v := .u8 (f4 i)) hl 0 rfl rfl one_5 rfl rfl (by rw [digC_length _ _ _ _ gF_len]; omega) fun w5 hl => ⟨fun h => absurd h (by decide), ?_⟩
      rw [List.set_cons_zero, digC_put h1 _ m _ gF_len hlt, hgs] at hl
      simp only [ev, fx, ↓reduceIte, Nat.reduceEqDiff, Nat.reduceLT, Nat.reduceLeDiff, Nat.reduceAdd, Nat.reduceSub, Nat.reduceMul, Int.reduceLT, Int.reduceLE, Int.reduceToNat, BitVec.reduceOfInt, BitVec.reduceToNat, reduceCtorEq, and_self, decide_true, decide_false, Bool.not_true, Bool.not_false, ne_eq, not_true_eq_false, not_false_eq_true, true_and, and_true]
      refine hK _ _ fun S1 h1 => ?_; clear hK K
      simp only [BlockE, ThenE]
      exact ⟨h1, hl⟩
  clear hl hf4 hX0
  rintro S' w8 ⟨rfl, hl⟩
  have hX2l : (gF 64 f4 old4 64).length = 64 := gF_len
  rw [hX2] at hl hX2l
  generalize hX2e : List.replicate 56 0#8 ++ (List.range 8).map (be8 lv) = X2 at *
  refine EWp.seqR [0, 2, 8, 12] fun K hK => ?_
  simp only [ev, fx, ↓reduceIte, Nat.reduceEqDiff, Nat.reduceLT, Nat.reduceLeDiff, Nat.reduceAdd, Nat.reduceSub, Nat.reduceMul, Int.reduceLT, Int.reduceLE, Int.reduceToNat, BitVec.reduceOfInt, BitVec.reduceToNat, reduceCtorEq, and_self, decide_true, decide_false, Bool.not_true, Bool.not_false, ne_eq, not_true_eq_false, not_false_eq_true, true_and, and_true, sl0, Option.map_some]
  refine SemE.call fn_53 rfl rfl (block1 b h1 (X2.map SV.u8 ++ [.nat m, .u64 (BitVec.ofNat 64 L)]) (some ⟨b, 5, none⟩) 64 64 X2 w8 (hl.at (k := 0) rfl) (by
    have := Rd.blk hl (k := 0) rfl 5 64
    rwa [digC_x _ _ _ _ hX2l] at this) hX2l (by omega) (by omega)) ?_
  rintro _ w9 ⟨rfl, hl9⟩
  refine ⟨_, rfl, ?_⟩
  have hl := hl.call (k := 0) rfl hl9
  simp only [List.set_cons_zero, List.append_nil] at hl
  generalize hh2 : blocks h1 X2 = h2 at hl
  have hl : HL w w9 [b] [(b, 73, digC h2 X2 m (BitVec.ofNat 64 L)), (g2, 55, List.replicate 20 (SV.u8 0)), (g3, 88, be64L lv 8), (g4, 55, (gF 20 f3 (fun _ => 0) 20).map SV.u8)] := hl
  simp only [ev, fx, ↓reduceIte, Nat.reduceEqDiff, Nat.reduceLT, Nat.reduceLeDiff, Nat.reduceAdd, Nat.reduceSub, Nat.reduceMul, Int.reduceLT, Int.reduceLE, Int.reduceToNat, BitVec.reduceOfInt, BitVec.reduceToNat, reduceCtorEq, and_self, decide_true, decide_false, Bool.not_true, Bool.not_false, ne_eq, not_true_eq_false, not_false_eq_true, true_and, and_true]
  repeat (refine And.intro (by omega) ?_)
  refine hK _ _ ?_; clear hK K
  have h35 : gF 20 f3 (fun _ => 0) 20 = gF 20 (fun j => f3 j ||| (~~~m1 &&& (sumB h2).getD j 0)) f3 0 := by
    apply List.ext_getElem?
    intro j
    by_cases hj : j < 20
    · rw [gF_get _ _ _ hj, gF_get _ _ _ hj, if_pos hj, if_neg (by omega)]
    · rw [List.getElem?_eq_none (by simp [gF_len]; omega), List.getElem?_eq_none (by simp [gF_len]; omega)]
  rw [h35] at hl
  generalize hf5 : (fun j => f3 j ||| (~~~m1 &&& (sumB h2).getD j 0)) = f5 at *
  refine EWp.cut [2, 12] (fun S' w' => S' = [(2, .ptr ⟨g2, 0, none⟩), (12, .ptr ⟨g4, 0, none⟩)] ∧
    HL w w' [b] [(b, 73, digC h2 X2 m (BitVec.ofNat 64 L)), (g2, 55, List.replicate 20 (SV.u8 0)), (g3, 88, be64L lv 8), (g4, 55, (gF 20 f5 f3 20).map SV.u8)]) ?_ ?_
  case refine_1 =>
    refine EWp.seqR [0, 2, 8, 12, 174, 175] fun K hK => ?_
    simp only [ev, fx, ↓reduceIte, Nat.reduceEqDiff, Nat.reduceLT, Nat.reduceLeDiff, Nat.reduceAdd, Nat.reduceSub, Nat.reduceMul, Int.reduceLT, Int.reduceLE, Int.reduceToNat, BitVec.reduceOfInt, BitVec.reduceToNat, reduceCtorEq, and_self, decide_true, decide_false, Bool.not_true, Bool.not_false, ne_eq, not_true_eq_false, not_false_eq_true, true_and, and_true]
    refine SemE.loadA (vs := [.u32 h2.a, .u32 h2.b, .u32 h2.c, .u32 h2.d, .u32 h2.e]) rfl agg_51 rfl (by
      have := Rd.blk hl (k := 0) rfl 0 5
      exact this) ?_
    simp only [ev, fx, ↓reduceIte, Nat.reduceEqDiff, Nat.reduceLT, Nat.reduceLeDiff, Nat.reduceAdd, Nat.reduceSub, Nat.reduceMul, Int.reduceLT, Int.reduceLE, Int.reduceToNat, BitVec.reduceOfInt, BitVec.reduceToNat, reduceCtorEq, and_self, decide_true, decide_false, Bool.not_true, Bool.not_false, ne_eq, not_true_eq_false, not_false_eq_true, true_and, and_true]
    repeat (refine And.intro (by omega) ?_)
    refine hK _ _ ?_; clear hK K
    refine EWp.block ?_
    refine EWp.loop [0, 2, 8, 12, 174, 175] (fun k S' w' => ∃ i : Nat, i ≤ 5 ∧ k = 5 - i ∧ S' = [(0, .ptr ⟨b, 0, none⟩), (2, .ptr ⟨g2, 0, none⟩), (8, .u8 m1), (12, .ptr ⟨g4, 0, none⟩), (174, SV.agg [.u32 h2.a, .u32 h2.b, .u32 h2.c, .u32 h2.d, .u32 h2.e]), (175, .nat i)] ∧
      HL w w' [b] [(b, 73, digC h2 X2 m (BitVec.ofNat 64 L)), (g2, 55, List.replicate 20 (SV.u8 0)), (g3, 88, be64L lv 8), (g4, 55, (gF 20 f5 f3 (i * 4)).map SV.u8)]) 5 ?_ ?_
    case refine_1 => exact ⟨0, by omega, rfl, rfl, hl⟩
    clear hl
    rintro k S' w' ⟨i, hi, rfl, rfl, hl⟩
    refine EWp.seqR [0, 2, 8, 12, 174, 175, 176] fun K hK => ?_
    simp only [ev, fx, ↓reduceIte, Nat.reduceEqDiff, Nat.reduceLT, Nat.reduceLeDiff, Nat.reduceAdd, Nat.reduceSub, Nat.reduceMul, Int.reduceLT, Int.reduceLE, Int.reduceToNat, BitVec.reduceOfInt, BitVec.reduceToNat, reduceCtorEq, and_self, decide_true, decide_false, Bool.not_true, Bool.not_false, ne_eq, not_true_eq_false, not_false_eq_true, true_and, and_true]
    repeat (refine And.intro (by omega) ?_)
    refine hK _ _ ?_; clear hK K
    refine EWp.guard (b := decide (i < 5)) rfl (fun hlt => ?_) (fun hlt => ?_)
    case refine_2 =>
      have hlt := of_decide_eq_false hlt
      obtain rfl : i = 5 := by omega
      simp only [BlockE, ThenE, ↓reduceIte]
      exact ⟨rfl, hl⟩
    have hlt := of_decide_eq_true hlt
    refine EWp.cut [0, 2, 8, 12, 174, 175] (fun S' w' => S' = [(0, .ptr ⟨b, 0, none⟩), (2, .ptr ⟨g2, 0, none⟩), (8, .u8 m1), (12, .ptr ⟨g4, 0, none⟩), (174, SV.agg [.u32 h2.a, .u32 h2.b, .u32 h2.c, .u32 h2.d, .u32 h2.e]), (175, .nat i)] ∧
      HL w w' [b] [(b, 73, digC h2 X2 m (BitVec.ofNat 64 L)), (g2, 55, List.replicate 20 (SV.u8 0)), (g3, 88, be64L lv 8), (g4, 55, (gF 20 f5 f3 ((i + 1) * 4)).map SV.u8)]) ?_ ?_
    case refine_2 =>
      clear hl
      rintro S' w' ⟨rfl, hl⟩
      refine EWp.regR [0, 2, 8, 12, 174, 175] fun K hK => ?_
      simp only [ev, fx, ↓reduceIte, Nat.reduceEqDiff, Nat.reduceLT, Nat.reduceLeDiff, Nat.reduceAdd, Nat.reduceSub, Nat.reduceMul, Int.reduceLT, Int.reduceLE, Int.reduceToNat, BitVec.reduceOfInt, BitVec.reduceToNat, reduceCtorEq, and_self, decide_true, decide_false, Bool.not_true, Bool.not_false, ne_eq, not_true_eq_false, not_false_eq_true, true_and, and_true]
      exact ⟨by omega, hK _ _ fun S1 h1 => ⟨4 - i, by omega, i + 1, by omega, by omega, h1, hl⟩⟩
    refine EWp.block ?_
    refine EWp.seqR [0, 2, 8, 12, 16, 17, 174, 175] fun K hK => ?_
    simp only [ev, fx, ↓reduceIte, Nat.reduceEqDiff, Nat.reduceLT, Nat.reduceLeDiff, Nat.reduceAdd, Nat.reduceSub, Nat.reduceMul, Int.reduceLT, Int.reduceLE, Int.reduceToNat, BitVec.reduceOfInt, BitVec.reduceToNat, reduceCtorEq, and_self, decide_true, decide_false, Bool.not_true, Bool.not_false, ne_eq, not_true_eq_false, not_false_eq_true, true_and, and_true]
    refine SemE.plain (.u32 (g5 h2 i)) (Plain.index Try.underlying51 one_50 rfl rfl hlt (five_get h2 hlt)) rfl ?_
    simp only [ev, fx, ↓reduceIte, Nat.reduceEqDiff, Nat.reduceLT, Nat.reduceLeDiff, Nat.reduceAdd, Nat.reduceSub, Nat.reduceMul, Int.reduceLT, Int.reduceLE, Int.reduceToNat, BitVec.reduceOfInt, BitVec.reduceToNat, reduceCtorEq, and_self, decide_true, decide_false, Bool.not_true, Bool.not_false, ne_eq, not_true_eq_false, not_false_eq_true, true_and, and_true]
    refine hK _ _ ?_; clear hK K
    obtain ⟨q0, q1, q2, q3⟩ := sumB_at h2 hlt
    have e0 : f3 (i * 4) ||| (~~~m1 &&& (g5 h2 i >>> 24).setWidth 8) = f5 (i * 4) := by rw [← hf5]; exact congrArg (fun y => f3 (i * 4) ||| (~~~m1 &&& y)) q0.symm
    have e1 : f3 (i * 4 + 1) ||| (~~~m1 &&& (g5 h2 i >>> 16).setWidth 8) = f5 (i * 4 + 1) := by rw [← hf5]; exact congrArg (fun y => f3 (i * 4 + 1) ||| (~~~m1 &&& y)) q1.symm
    have e2 : f3 (i * 4 + 2) ||| (~~~m1 &&& (g5 h2 i >>> 8).setWidth 8) = f5 (i * 4 + 2) := by rw [← hf5]; exact congrArg (fun y => f3 (i * 4 + 2) ||| (~~~m1 &&& y)) q2.symm
    have e3 : f3 (i * 4 + 3) ||| (~~~m1 &&& (g5 h2 i).setWidth 8) = f5 (i * 4 + 3) := by rw [← hf5]; rw [be4_3] at q3; exact congrArg (fun y => f3 (i * 4 + 3) ||| (~~~m1 &&& y)) q3.symm
    refine EWp.seqR [0, 2, 8, 12, 16, 17, 174, 175] fun K hK => ?_
    simp only [ev, fx, ↓reduceIte, Nat.reduceEqDiff, Nat.reduceLT, Nat.reduceLeDiff, Nat.reduceAdd, Nat.reduceSub, Nat.reduceMul, Int.reduceLT, Int.reduceLE, Int.reduceToNat, BitVec.reduceOfInt, BitVec.reduceToNat, reduceCtorEq, and_self, decide_true, decide_false, Bool.not_true, Bool.not_false, ne_eq, not_true_eq_false, not_false_eq_true, true_and, and_true]
    repeat (refine And.intro (by omega) ?_)
    refine SemE.loadB (v := .u8 (f3 (i * 4))) hl 3 rfl one_5 rfl rfl (by rw [List.getElem?_map, gF_get _ _ _ (show i * 4 < 20 by omega), if_neg (by omega)]; rfl) ?_
    simp only [ev, fx, ↓reduceIte, Nat.reduceEqDiff, Nat.reduceLT, Nat.reduceLeDiff, Nat.reduceAdd, Nat.reduceSub, Nat.reduceMul, Int.reduceLT, Int.reduceLE, Int.reduceToNat, BitVec.reduceOfInt, BitVec.reduceToNat, reduceCtorEq, and_self, decide_true, decide_false, Bool.not_true, Bool.not_false, ne_eq, not_true_eq_false, not_false_eq_true, true_and, and_true, e0]
    repeat (refine And.intro (by omega) ?_)
    refine SemE.storeB (v := .u8 (f5 (i * 4))) hl 3 rfl rfl one_5 rfl rfl (by rw [List.length_map, gF_len]; omega) fun w' hl => ?_
    simp only [List.set_cons_zero, List.set_cons_succ, Nat.zero_add, set_u8] at hl
    rw [gF_set f5 _ (show i * 4 < 20 by omega)] at hl
    simp only [ev, fx, ↓reduceIte, Nat.reduceEqDiff, Nat.reduceLT, Nat.reduceLeDiff, Nat.reduceAdd, Nat.reduceSub, Nat.reduceMul, Int.reduceLT, Int.reduceLE, Int.reduceToNat, BitVec.reduceOfInt, BitVec.reduceToNat, reduceCtorEq, and_self, decide_true, decide_false, Bool.not_true, Bool.not_false, ne_eq, not_true_eq_false, not_false_eq_true, true_and, and_true]
    refine hK _ _ ?_; clear hK K
    refine EWp.seqR [0, 2, 8, 12, 16, 17, 174, 175] fun K hK => ?_
    simp only [ev, fx, ↓reduceIte, Nat.reduceEqDiff, Nat.reduceLT, Nat.reduceLeDiff, Nat.reduceAdd, Nat.reduceSub, Nat.reduceMul, Int.reduceLT, Int.reduceLE, Int.reduceToNat, BitVec.reduceOfInt, BitVec.reduceToNat, reduceCtorEq, and_self, decide_true, decide_false, Bool.not_true, Bool.not_false, ne_eq, not_true_eq_false, not_false_eq_true, true_and, and_true]
    repeat (refine And.intro (by omega) ?_)
    refine SemE.loadB (v := .u8 (f3 (i * 4 + 1))) hl 3 rfl one_5 rfl rfl (by rw [List.getElem?_map, gF_get _ _ _ (show i * 4 + 1 < 20 by omega), if_neg (by omega)]; rfl) ?_
    simp only [ev, fx, ↓reduceIte, Nat.reduceEqDiff, Nat.reduceLT, Nat.reduceLeDiff, Nat.reduceAdd, Nat.reduceSub, Nat.reduceMul, Int.reduceLT, Int.reduceLE, Int.reduceToNat, BitVec.reduceOfInt, BitVec.reduceToNat, reduceCtorEq, and_self, decide_true, decide_false, Bool.not_true, Bool.not_false, ne_eq, not_true_eq_false, not_false_eq_true, true_and, and_true, e1]
    repeat (refine And.intro (by omega) ?_)
    refine SemE.storeB (v := .u8 (f5 (i * 4 + 1))) hl 3 rfl rfl one_5 rfl rfl (by rw [List.length_map, gF_len]; omega) fun w' hl => ?_
    simp only [List.set_cons_zero, List.set_cons_succ, Nat.zero_add, set_u8] at hl
    rw [gF_set f5 _ (show i * 4 + 1 < 20 by omega)] at hl
    simp only [ev, fx, ↓reduceIte, Nat.reduceEqDiff, Nat.reduceLT, Nat.reduceLeDiff, Nat.reduceAdd, Nat.reduceSub, Nat.reduceMul, Int.reduceLT, Int.reduceLE, Int.reduceToNat, BitVec.reduceOfInt, BitVec.reduceToNat, reduceCtorEq, and_self, decide_true, decide_false, Bool.not_true, Bool.not_false, ne_eq, not_true_eq_false, not_false_eq_true, true_and, and_true]
    refine hK _ _ ?_; clear hK K
    refine EWp.seqR [0, 2, 8, 12, 16, 17, 174, 175] fun K hK => ?_
    simp only [ev, fx, ↓reduceIte, Nat.reduceEqDiff, Nat.reduceLT, Nat.reduceLeDiff, Nat.reduceAdd, Nat.reduceSub, Nat.reduceMul, Int.reduceLT, Int.reduceLE, Int.reduceToNat, BitVec.reduceOfInt, BitVec.reduceToNat, reduceCtorEq, and_self, decide_true, decide_false, Bool.not_true, Bool.not_false, ne_eq, not_true_eq_false, not_false_eq_true, true_and, and_true]
    repeat (refine And.intro (by omega) ?_)
    refine SemE.loadB (v := .u8 (f3 (i * 4 + 2))) hl 3 rfl one_5 rfl rfl (by rw [List.getElem?_map, gF_get _ _ _ (show i * 4 + 2 < 20 by omega), if_neg (by omega)]; rfl) ?_
    simp only [ev, fx, ↓reduceIte, Nat.reduceEqDiff, Nat.reduceLT, Nat.reduceLeDiff, Nat.reduceAdd, Nat.reduceSub, Nat.reduceMul, Int.reduceLT, Int.reduceLE, Int.reduceToNat, BitVec.reduceOfInt, BitVec.reduceToNat, reduceCtorEq, and_self, decide_true, decide_false, Bool.not_true, Bool.not_false, ne_eq, not_true_eq_false, not_false_eq_true, true_and, and_true, e2]
    repeat (refine And.intro (by omega) ?_)
    refine SemE.storeB (v := .u8 (f5 (i * 4 + 2))) hl 3 rfl rfl one_5 rfl rfl (by rw [List.length_map, gF_len]; omega) fun w' hl => ?_
    simp only [List.set_cons_zero, List.set_cons_succ, Nat.zero_add, set_u8] at hl
    rw [gF_set f5 _ (show i * 4 + 2 < 20 by omega)] at hl
    simp only [ev, fx, ↓reduceIte, Nat.reduceEqDiff, Nat.reduceLT, Nat.reduceLeDiff, Nat.reduceAdd, Nat.reduceSub, Nat.reduceMul, Int.reduceLT, Int.reduceLE, Int.reduceToNat, BitVec.reduceOfInt, BitVec.reduceToNat, reduceCtorEq, and_self, decide_true, decide_false, Bool.not_true, Bool.not_false, ne_eq, not_true_eq_false, not_false_eq_true, true_and, and_true]
    refine hK _ _ ?_; clear hK K
    refine EWp.regR [0, 2, 8, 12, 174, 175] fun K hK => ?_
    simp only [ev, fx, ↓reduceIte, Nat.reduceEqDiff, Nat.reduceLT, Nat.reduceLeDiff, Nat.reduceAdd, Nat.reduceSub, Nat.reduceMul, Int.reduceLT, Int.reduceLE, Int.reduceToNat, BitVec.reduceOfInt, BitVec.reduceToNat, reduceCtorEq, and_self, decide_true, decide_false, Bool.not_true, Bool.not_false, ne_eq, not_true_eq_false, not_false_eq_true, true_and, and_true]
    repeat (refine And.intro (by omega) ?_)
    refine SemE.loadB (v := .u8 (f3 (i * 4 + 3))) hl 3 rfl one_5 rfl rfl (by rw [List.getElem?_map, gF_get _ _ _ (show i * 4 + 3 < 20 by omega), if_neg (by omega)]; rfl) ?_
    simp only [ev, fx, ↓reduceIte, Nat.reduceEqDiff, Nat.reduceLT, Nat.reduceLeDiff, Nat.reduceAdd, Nat.reduceSub, Nat.reduceMul, Int.reduceLT, Int.reduceLE, Int.reduceToNat, BitVec.reduceOfInt, BitVec.reduceToNat, reduceCtorEq, and_self, decide_true, decide_false, Bool.not_true, Bool.not_false, ne_eq, not_true_eq_false, not_false_eq_true, true_and, and_true, e3]
    repeat (refine And.intro (by omega) ?_)
    refine SemE.storeB (v := .u8 (f5 (i * 4 + 3))) hl 3 rfl rfl one_5 rfl rfl (by rw [List.length_map, gF_len]; omega) fun w' hl => ?_
    simp only [List.set_cons_zero, List.set_cons_succ, Nat.zero_add, set_u8] at hl
    rw [gF_set f5 _ (show i * 4 + 3 < 20 by omega)] at hl
    simp only [ev, fx, ↓reduceIte, Nat.reduceEqDiff, Nat.reduceLT, Nat.reduceLeDiff, Nat.reduceAdd, Nat.reduceSub, Nat.reduceMul, Int.reduceLT, Int.reduceLE, Int.reduceToNat, BitVec.reduceOfInt, BitVec.reduceToNat, reduceCtorEq, and_self, decide_true, decide_false, Bool.not_true, Bool.not_false, ne_eq, not_true_eq_false, not_false_eq_true, true_and, and_true]
    refine hK _ _ fun S1 h1 => ?_; clear hK K
    simp only [BlockE, ThenE]
    exact ⟨h1, by rw [show (i + 1) * 4 = i * 4 + 3 + 1 by omega]; exact hl⟩
  clear hl h35
  rintro S' w10 ⟨rfl, hl⟩
  have hfin : gF 20 f5 f3 20 = sumB (blocks s (x.take m ++ padB L)) := by
    by_cases h56 : m < 56
    · rw [if_pos h56] at hm1e
      subst hm1e
      have hX : X = x.take m ++ padB L := by rw [← hXe, ← hl64, ← hm]; exact ct_one x L hx (by rw [hm]; exact h56)
      rw [← hX, hh1]
      apply List.ext_getElem?
      intro j
      by_cases hj : j < 20
      · rw [gF_get _ _ _ hj, if_pos hj, getD_get (by rw [sumB_len]; exact hj), ← hf5, ← hf3]
        simp only [not255, zz_and, or_z, ff_and]
      · rw [List.getElem?_eq_none (by simp [gF_len]; omega), List.getElem?_eq_none (by rw [sumB_len]; omega)]
    · rw [if_neg h56] at hm1e
      subst hm1e
      have hX : X ++ X2 = x.take m ++ padB L := by rw [← hXe, ← hX2e, ← hl64, ← hm]; exact ct_two x L hx (by rw [hm]; exact h56)
      rw [← hX, blocks_append X2 64 s X hXl (by decide), hh1, hh2]
      apply List.ext_getElem?
      intro j
      by_cases hj : j < 20
      · rw [gF_get _ _ _ hj, if_pos hj, getD_get (by rw [sumB_len]; exact hj), ← hf5, ← hf3]
        simp only [not0, zz_and, z_or, ff_and]
      · rw [List.getElem?_eq_none (by simp [gF_len]; omega), List.getElem?_eq_none (by rw [sumB_len]; omega)]
  rw [hfin] at hl
  generalize sumB (blocks s (x.take m ++ padB L)) = out at *
  have hol : out.length = 20 := by rw [← hfin]; exact gF_len
  refine EWp.seqR [2] fun K hK => ?_
  simp only [ev, fx, ↓reduceIte, Nat.reduceEqDiff, Nat.reduceLT, Nat.reduceLeDiff, Nat.reduceAdd, Nat.reduceSub, Nat.reduceMul, Int.reduceLT, Int.reduceLE, Int.reduceToNat, BitVec.reduceOfInt, BitVec.reduceToNat, reduceCtorEq, and_self, decide_true, decide_false, Bool.not_true, Bool.not_false, ne_eq, not_true_eq_false, not_false_eq_true, true_and, and_true]
  refine SemE.loadA (vs := out.map SV.u8) rfl (by rw [List.length_map, hol]; exact agg_55) rfl (by
    have := Rd.blk hl (k := 3) rfl 0 20
    rwa [List.drop_zero, List.take_of_length_le (by rw [List.length_map, hol]; omega)] at this) ?_
  simp only [ev, fx, ↓reduceIte, Nat.reduceEqDiff, Nat.reduceLT, Nat.reduceLeDiff, Nat.reduceAdd, Nat.reduceSub, Nat.reduceMul, Int.reduceLT, Int.reduceLE, Int.reduceToNat, BitVec.reduceOfInt, BitVec.reduceToNat, reduceCtorEq, and_self, decide_true, decide_false, Bool.not_true, Bool.not_false, ne_eq, not_true_eq_false, not_false_eq_true, true_and, and_true]
  refine SemE.storeA (vs := out.map SV.u8) hl 1 rfl rfl (by rw [List.length_map, hol]; exact agg_55) (isOneB _) rfl (by rw [List.length_map, hol, List.length_replicate]; omega) fun w11 hl => ?_
  have hsp : (List.replicate 20 (SV.u8 0)).take 0 ++ out.map SV.u8 ++ (List.replicate 20 (SV.u8 0)).drop (0 + (out.map SV.u8).length) = out.map SV.u8 := by
    rw [List.take_zero, List.nil_append, List.length_map, hol, List.drop_of_length_le (by simp), List.append_nil]
  simp only [List.set_cons_zero, List.set_cons_succ, hsp] at hl
  simp only [ev, fx, ↓reduceIte, Nat.reduceEqDiff, Nat.reduceLT, Nat.reduceLeDiff, Nat.reduceAdd, Nat.reduceSub, Nat.reduceMul, Int.reduceLT, Int.reduceLE, Int.reduceToNat, BitVec.reduceOfInt, BitVec.reduceToNat, reduceCtorEq, and_self, decide_true, decide_false, Bool.not_true, Bool.not_false, ne_eq, not_true_eq_false, not_false_eq_true, true_and, and_true]
  repeat (refine And.intro (by omega) ?_)
  refine hK _ _ ?_; clear hK K
  exact EWp.ret (bodyCellA (.inl rfl) rfl (t := 2) (b := g2) (cs := out.map SV.u8) rfl (by rw [List.length_map, hol]; exact agg_55) (hl.at (k := 1) rfl) ⟨rfl, digC h2 X2 m (BitVec.ofNat 64 L), hl.sub (by simp)⟩)
end Go.Proofs.Ytikejalfiaindaa
