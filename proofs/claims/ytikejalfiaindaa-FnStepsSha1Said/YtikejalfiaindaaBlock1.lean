/- The block function of SHA-1, walked. -/
import Derived.Test.YtikejalfiaindaaLeaf
import Derived.Test.YtikejalfiaindaaDigM
set_option linter.unusedVariables false
set_option linter.unusedSimpArgs false
namespace Go.Proofs.Ytikejalfiaindaa
open Go

theorem fOf_16 {t : Nat} (b c d : W32) (h : 16 ≤ t) (h' : t < 20) : fOf t b c d = b &&& c ||| ~~~b &&& d := if_pos h'
theorem fOf_20 {t : Nat} (b c d : W32) (h : 20 ≤ t) (h' : t < 40) : fOf t b c d = b ^^^ c ^^^ d := by unfold fOf; rw [if_neg (by omega), if_pos h']
theorem fOf_40 {t : Nat} (b c d : W32) (h : 40 ≤ t) (h' : t < 60) : fOf t b c d = b &&& c ||| b &&& d ||| c &&& d := by unfold fOf; rw [if_neg (by omega), if_neg (by omega), if_pos h']
theorem fOf_60 {t : Nat} (b c d : W32) (h : 60 ≤ t) (h' : t < 80) : fOf t b c d = b ^^^ c ^^^ d := by unfold fOf; rw [if_neg (by omega), if_neg (by omega), if_neg (by omega)]
theorem kOf_16 {t : Nat} (h : 16 ≤ t) (h' : t < 20) : kOf t = 0x5a827999#32 := if_pos h'
theorem kOf_20 {t : Nat} (h : 20 ≤ t) (h' : t < 40) : kOf t = 0x6ed9eba1#32 := by unfold kOf; rw [if_neg (by omega), if_pos h']
theorem kOf_40 {t : Nat} (h : 40 ≤ t) (h' : t < 60) : kOf t = 0x8f1bbcdc#32 := by unfold kOf; rw [if_neg (by omega), if_neg (by omega), if_pos h']
theorem kOf_60 {t : Nat} (h : 60 ≤ t) (h' : t < 80) : kOf t = 0xca62c1d6#32 := by unfold kOf; rw [if_neg (by omega), if_neg (by omega), if_neg (by omega)]

def ringC (f : Nat → W32) : List SV := (List.range 16).map fun j => .u32 (f j)
theorem ringC_get (f : Nat → W32) {j : Nat} (h : j < 16) : (ringC f)[j]? = some (.u32 (f j)) := by simp [ringC, h]
theorem ringC_len (f : Nat → W32) : (ringC f).length = 16 := by simp [ringC]
theorem ringC_set (f : Nat → W32) (i : Nat) (v : W32) : (ringC f).set i (.u32 v) = ringC (fun j => if j = i then v else f j) := by
  apply List.ext_getElem?
  intro j
  rw [List.getElem?_set, ringC_len]
  by_cases hj : j < 16
  · rw [ringC_get _ hj]
    by_cases he : i = j
    · subst he; rw [ringC_get _ hj]; simp [hj]
    · rw [if_neg he, ringC_get _ hj, if_neg (Ne.symm he)]
  · have h1 : (ringC f)[j]? = none := List.getElem?_eq_none (by rw [ringC_len]; omega)
    have h2 : (ringC fun j => if j = i then v else f j)[j]? = none := List.getElem?_eq_none (by rw [ringC_len]; omega)
    rw [h1, h2]
    split
    · rw [if_neg (by omega)]
    · rfl
theorem ringC_zero : ringC (fun _ => 0) = List.replicate 16 (.u32 0) := rfl

def sB (b g : Nat) (a : Option Addr) (n c : Nat) (s : S5) : Env :=
  [(0, .ptr ⟨b, 0, none⟩), (1, .sl a n c), (4, .ptr ⟨g, 0, none⟩), (5, .u32 s.a), (6, .u32 s.b), (7, .u32 s.c), (8, .u32 s.d), (9, .u32 s.e)]
def sR (b g : Nat) (a : Option Addr) (n c : Nat) (s r : S5) (i : Nat) : Env :=
  [(0, .ptr ⟨b, 0, none⟩), (1, .sl a n c), (4, .ptr ⟨g, 0, none⟩), (5, .u32 s.a), (6, .u32 s.b), (7, .u32 s.c), (8, .u32 s.d), (9, .u32 s.e),
   (12, .u32 r.a), (13, .u32 r.b), (14, .u32 r.c), (15, .u32 r.d), (16, .u32 r.e), (17, .nat i)]
def sF (b g : Nat) (a : Option Addr) (n c : Nat) (s : S5) (i : Nat) : Env :=
  [(0, .ptr ⟨b, 0, none⟩), (1, .sl a n c), (4, .ptr ⟨g, 0, none⟩), (5, .u32 s.a), (6, .u32 s.b), (7, .u32 s.c), (8, .u32 s.d), (9, .u32 s.e), (10, .nat i)]

theorem byte_at {w : World} {p : Addr} {bs : List B8} (hr : Rd w (some p) (bs.map SV.u8)) {j : Nat} (hj : j < bs.length) : w.cell? (p.add j) = some (SV.u8 (bs.getD j 0)).val := by
  obtain ⟨q, hq, _, hc⟩ := hr j (.u8 (bs.getD j 0)) (by simp [hj])
  cases hq
  exact hc

set_option maxRecDepth 100000 in
theorem blockGen (b : Nat) (s : S5) (rest : List SV) (a : Option Addr) (n c : Nat) (bs : List B8) (w : World) (hb : w.heap[b]? = some (.cells ((dig5 s rest).map SV.val).toArray 73 (0, 0)))
    (hr : Rd w a (bs.map SV.u8)) (hn : bs.length = n) (hnc : n ≤ c) (hbig : n < 4611686018427387904) :
    Calls Try.prog 47 #[(SV.ptr ⟨b, 0, none⟩).val, (SV.sl a n c).val] w fun e w' => e = .returned (SV.raw (.tuple #[])).val ∧ HL w w' [b] [(b, 73, dig5 (blocks s bs) rest)] := by
  refine calls_E [.ptr ⟨b, 0, none⟩, .sl a n c] Try.func47 rfl Try.ntmps47 rfl ?_
  refine EWp.seqR [0, 1, 4] fun K hK => ?_
  simp only [ev, fx, ↓reduceIte, Nat.reduceEqDiff, Nat.reduceLT, Nat.reduceLeDiff, Nat.reduceAdd, Nat.reduceSub, Nat.reduceMul, Int.reduceLT, Int.reduceLE, Int.reduceToNat, BitVec.reduceOfInt, BitVec.reduceToNat, reduceCtorEq, and_self, decide_true, decide_false, Bool.not_true, Bool.not_false, ne_eq, not_true_eq_false, not_false_eq_true, true_and, and_true]
  refine SemE.alloc (HL.start w) zero_84 rfl fun g w1 hg hl1 => ?_
  simp only [ev, fx, ↓reduceIte, Nat.reduceEqDiff, Nat.reduceLT, Nat.reduceLeDiff, Nat.reduceAdd, Nat.reduceSub, Nat.reduceMul, Int.reduceLT, Int.reduceLE, Int.reduceToNat, BitVec.reduceOfInt, BitVec.reduceToNat, reduceCtorEq, and_self, decide_true, decide_false, Bool.not_true, Bool.not_false, ne_eq, not_true_eq_false, not_false_eq_true, true_and, and_true, List.nil_append] at hl1 ⊢
  refine hK _ _ ?_; clear hK K
  refine EWp.seqO (fun _ => false) [(0, 0), (1, 0), (2, 0), (3, 0), (4, 1), (5, 0), (6, 0), (7, 0), (8, 0), (9, 1), (10, 0), (11, 0), (12, 0), (13, 0), (14, 1), (15, 0), (16, 0), (17, 0), (18, 0), (19, 1), (20, 0), (21, 0), (22, 0), (23, 0), (24, 1), (25, 0), (26, 0), (27, 0), (28, 0), (29, 0)] [0, 1, 4, 5, 6, 7, 8, 9] mixed (by kernel_rfl) fun K hK => ?_
  have hlb := hl1.drew.addX hb
  simp only [ev, fx, ↓reduceIte, Nat.reduceEqDiff, Nat.reduceLT, Nat.reduceLeDiff, Nat.reduceAdd, Nat.reduceSub, Nat.reduceMul, Int.reduceLT, Int.reduceLE, Int.reduceToNat, BitVec.reduceOfInt, BitVec.reduceToNat, reduceCtorEq, and_self, decide_true, decide_false, Bool.not_true, Bool.not_false, ne_eq, not_true_eq_false, not_false_eq_true, true_and, and_true]
  refine StopR.loadB hlb 0 rfl one_50 rfl rfl rfl ?_
  simp only [ev, fx, ↓reduceIte, Nat.reduceEqDiff, Nat.reduceLT, Nat.reduceLeDiff, Nat.reduceAdd, Nat.reduceSub, Nat.reduceMul, Int.reduceLT, Int.reduceLE, Int.reduceToNat, BitVec.reduceOfInt, BitVec.reduceToNat, reduceCtorEq, and_self, decide_true, decide_false, Bool.not_true, Bool.not_false, ne_eq, not_true_eq_false, not_false_eq_true, true_and, and_true]
  refine StopR.loadB hlb 0 rfl one_50 rfl rfl rfl ?_
  simp only [ev, fx, ↓reduceIte, Nat.reduceEqDiff, Nat.reduceLT, Nat.reduceLeDiff, Nat.reduceAdd, Nat.reduceSub, Nat.reduceMul, Int.reduceLT, Int.reduceLE, Int.reduceToNat, BitVec.reduceOfInt, BitVec.reduceToNat, reduceCtorEq, and_self, decide_true, decide_false, Bool.not_true, Bool.not_false, ne_eq, not_true_eq_false, not_false_eq_true, true_and, and_true]
  refine StopR.loadB hlb 0 rfl one_50 rfl rfl rfl ?_
  simp only [ev, fx, ↓reduceIte, Nat.reduceEqDiff, Nat.reduceLT, Nat.reduceLeDiff, Nat.reduceAdd, Nat.reduceSub, Nat.reduceMul, Int.reduceLT, Int.reduceLE, Int.reduceToNat, BitVec.reduceOfInt, BitVec.reduceToNat, reduceCtorEq, and_self, decide_true, decide_false, Bool.not_true, Bool.not_false, ne_eq, not_true_eq_false, not_false_eq_true, true_and, and_true]
  refine StopR.loadB hlb 0 rfl one_50 rfl rfl rfl ?_
  simp only [ev, fx, ↓reduceIte, Nat.reduceEqDiff, Nat.reduceLT, Nat.reduceLeDiff, Nat.reduceAdd, Nat.reduceSub, Nat.reduceMul, Int.reduceLT, Int.reduceLE, Int.reduceToNat, BitVec.reduceOfInt, BitVec.reduceToNat, reduceCtorEq, and_self, decide_true, decide_false, Bool.not_true, Bool.not_false, ne_eq, not_true_eq_false, not_false_eq_true, true_and, and_true]
  refine StopR.loadB hlb 0 rfl one_50 rfl rfl rfl ?_
  simp only [ev, fx, ↓reduceIte, Nat.reduceEqDiff, Nat.reduceLT, Nat.reduceLeDiff, Nat.reduceAdd, Nat.reduceSub, Nat.reduceMul, Int.reduceLT, Int.reduceLE, Int.reduceToNat, BitVec.reduceOfInt, BitVec.reduceToNat, reduceCtorEq, and_self, decide_true, decide_false, Bool.not_true, Bool.not_false, ne_eq, not_true_eq_false, not_false_eq_true, true_and, and_true]
  refine hK _ _ ?_; clear hK K hlb
  have hl2 := hl1.drew
  rw [← ringC_zero] at hl2
  generalize w1.drew = w2 at hl2 ⊢
  clear hl1 w1
  refine EWp.cut [0, 1, 4, 5, 6, 7, 8, 9] (fun S' w' => ∃ (a' : Option Addr) (n' c' : Nat) (f : Nat → W32), S' = sB b g a' n' c' (blocks s bs) ∧ HL w w' [] [(g, 84, ringC f)]) ?_ ?_
  case refine_2 =>
    rintro S' w' ⟨a', n', c', f, rfl, hl⟩
    refine EWp.regO (fun i => [13, 17, 21, 25, 29].contains i) [(0, 0), (1, 0), (2, 0), (3, 0), (4, 0), (5, 0), (6, 0), (7, 0), (8, 0), (9, 0), (10, 0), (11, 0), (12, 0), (14, 0), (15, 0), (18, 0), (19, 0), (22, 0), (23, 0), (26, 0), (27, 0), (13, 2), (16, 0), (17, 2), (20, 0), (21, 2), (24, 0), (25, 2), (28, 0), (29, 2)] [] mixed (by kernel_rfl) fun K hK => ?_
    have hl := hl.drew.addX hb
    simp only [ev, fx, ↓reduceIte, Nat.reduceEqDiff, Nat.reduceLT, Nat.reduceLeDiff, Nat.reduceAdd, Nat.reduceSub, Nat.reduceMul, Int.reduceLT, Int.reduceLE, Int.reduceToNat, BitVec.reduceOfInt, BitVec.reduceToNat, reduceCtorEq, and_self, decide_true, decide_false, Bool.not_true, Bool.not_false, ne_eq, not_true_eq_false, not_false_eq_true, true_and, and_true, sB]
    refine SemE.storeB hl 0 rfl rfl one_50 rfl rfl (by simp [dig5]) fun w' hl => ⟨fun h => absurd h (by decide), ?_⟩
    simp only [ev, fx, ↓reduceIte, Nat.reduceEqDiff, Nat.reduceLT, Nat.reduceLeDiff, Nat.reduceAdd, Nat.reduceSub, Nat.reduceMul, Int.reduceLT, Int.reduceLE, Int.reduceToNat, BitVec.reduceOfInt, BitVec.reduceToNat, reduceCtorEq, and_self, decide_true, decide_false, Bool.not_true, Bool.not_false, ne_eq, not_true_eq_false, not_false_eq_true, true_and, and_true]
    refine SemE.storeB hl 0 rfl rfl one_50 rfl rfl (by simp [dig5]) fun w' hl => ⟨fun h => absurd h (by decide), ?_⟩
    simp only [ev, fx, ↓reduceIte, Nat.reduceEqDiff, Nat.reduceLT, Nat.reduceLeDiff, Nat.reduceAdd, Nat.reduceSub, Nat.reduceMul, Int.reduceLT, Int.reduceLE, Int.reduceToNat, BitVec.reduceOfInt, BitVec.reduceToNat, reduceCtorEq, and_self, decide_true, decide_false, Bool.not_true, Bool.not_false, ne_eq, not_true_eq_false, not_false_eq_true, true_and, and_true]
    refine SemE.storeB hl 0 rfl rfl one_50 rfl rfl (by simp [dig5]) fun w' hl => ⟨fun h => absurd h (by decide), ?_⟩
    simp only [ev, fx, ↓reduceIte, Nat.reduceEqDiff, Nat.reduceLT, Nat.reduceLeDiff, Nat.reduceAdd, Nat.reduceSub, Nat.reduceMul, Int.reduceLT, Int.reduceLE, Int.reduceToNat, BitVec.reduceOfInt, BitVec.reduceToNat, reduceCtorEq, and_self, decide_true, decide_false, Bool.not_true, Bool.not_false, ne_eq, not_true_eq_false, not_false_eq_true, true_and, and_true]
    refine SemE.storeB hl 0 rfl rfl one_50 rfl rfl (by simp [dig5]) fun w' hl => ⟨fun h => absurd h (by decide), ?_⟩
    simp only [ev, fx, ↓reduceIte, Nat.reduceEqDiff, Nat.reduceLT, Nat.reduceLeDiff, Nat.reduceAdd, Nat.reduceSub, Nat.reduceMul, Int.reduceLT, Int.reduceLE, Int.reduceToNat, BitVec.reduceOfInt, BitVec.reduceToNat, reduceCtorEq, and_self, decide_true, decide_false, Bool.not_true, Bool.not_false, ne_eq, not_true_eq_false, not_false_eq_true, true_and, and_true]
    refine SemE.storeB hl 0 rfl rfl one_50 rfl rfl (by simp [dig5]) fun w' hl => ⟨fun h => absurd h (by decide), ?_⟩
    simp only [ev, fx, ↓reduceIte, Nat.reduceEqDiff, Nat.reduceLT, Nat.reduceLeDiff, Nat.reduceAdd, Nat.reduceSub, Nat.reduceMul, Int.reduceLT, Int.reduceLE, Int.reduceToNat, BitVec.reduceOfInt, BitVec.reduceToNat, reduceCtorEq, and_self, decide_true, decide_false, Bool.not_true, Bool.not_false, ne_eq, not_true_eq_false, not_false_eq_true, true_and, and_true]
    refine hK _ _ fun S1 _ => ?_; clear hK K
    exact BodyE.none' rfl ⟨rfl, hl.sub (by simp [dig5])⟩
  refine EWp.block ?_
  refine EWp.loop [0, 1, 4, 5, 6, 7, 8, 9] (fun k S' w' => ∃ (st : S5) (bs' : List B8) (a' : Option Addr) (c' : Nat) (f : Nat → W32), k = bs'.length ∧ blocks st bs' = blocks s bs ∧
    S' = sB b g a' bs'.length c' st ∧ Rd w a' (bs'.map SV.u8) ∧ bs'.length ≤ c' ∧ bs'.length ≤ n ∧ HL w w' [] [(g, 84, ringC f)]) n ?_ ?_
  case refine_1 => exact ⟨s, bs, a, c, _, hn.symm, rfl, by rw [hn]; rfl, hr, by omega, by omega, hl2⟩
  rintro k S' w' ⟨st, bs', a', c', f, rfl, hblk, rfl, hrd, hc', hn', hl⟩
  clear hl2 w2
  refine EWp.headR [0, 1, 4, 5, 6, 7, 8, 9, 59] fun K hK => ?_
  simp only [ev, fx, ↓reduceIte, Nat.reduceEqDiff, Nat.reduceLT, Nat.reduceLeDiff, Nat.reduceAdd, Nat.reduceSub, Nat.reduceMul, Int.reduceLT, Int.reduceLE, Int.reduceToNat, BitVec.reduceOfInt, BitVec.reduceToNat, reduceCtorEq, and_self, decide_true, decide_false, Bool.not_true, Bool.not_false, ne_eq, not_true_eq_false, not_false_eq_true, true_and, and_true, sB]
  refine hK _ _ (decide (64 ≤ bs'.length)) ?_ ?_ ?_
  · rfl
  · intro hge
    have hge := of_decide_eq_true hge
    obtain ⟨p, rfl, _, _⟩ := hrd 0 (.u8 (bs'.getD 0 0)) (by simp [show 0 < bs'.length by omega])
    refine EWp.block ?_
    refine EWp.cut [0, 1, 4, 5, 6, 7, 8, 9] (fun S' w' => ∃ f, S' = sB b g (some p) bs'.length c' st ∧ (∀ j, j < 16 → f j = wordAt bs' j) ∧ HL w w' [] [(g, 84, ringC f)]) ?_ ?_
    case refine_1 =>
      refine EWp.seqR [0, 1, 4, 5, 6, 7, 8, 9, 10] fun K hK => ?_
      simp only [ev, fx, ↓reduceIte, Nat.reduceEqDiff, Nat.reduceLT, Nat.reduceLeDiff, Nat.reduceAdd, Nat.reduceSub, Nat.reduceMul, Int.reduceLT, Int.reduceLE, Int.reduceToNat, BitVec.reduceOfInt, BitVec.reduceToNat, reduceCtorEq, and_self, decide_true, decide_false, Bool.not_true, Bool.not_false, ne_eq, not_true_eq_false, not_false_eq_true, true_and, and_true]
      repeat (refine And.intro (by omega) ?_)
      refine hK _ _ ?_; clear hK K
      refine EWp.block ?_
      refine EWp.loop [0, 1, 4, 5, 6, 7, 8, 9, 10] (fun k S' w' => ∃ i f, i ≤ 16 ∧ k = 16 - i ∧ S' = sF b g (some p) bs'.length c' st i ∧ (∀ j, j < i → f j = wordAt bs' j) ∧ HL w w' [] [(g, 84, ringC f)]) 16 ?_ ?_
      case refine_1 => exact ⟨0, f, by omega, rfl, rfl, fun j hj => absurd hj (by omega), hl⟩
      clear hl
      rintro k S' w' ⟨i, f, hi, rfl, rfl, hf, hl⟩
      refine EWp.headR [0, 1, 4, 5, 6, 7, 8, 9, 10, 61] fun K hK => ?_
      simp only [ev, fx, ↓reduceIte, Nat.reduceEqDiff, Nat.reduceLT, Nat.reduceLeDiff, Nat.reduceAdd, Nat.reduceSub, Nat.reduceMul, Int.reduceLT, Int.reduceLE, Int.reduceToNat, BitVec.reduceOfInt, BitVec.reduceToNat, reduceCtorEq, and_self, decide_true, decide_false, Bool.not_true, Bool.not_false, ne_eq, not_true_eq_false, not_false_eq_true, true_and, and_true, sF]
      refine hK _ _ (decide (i < 16)) rfl (fun hlt => ?_) (fun hlt => ?_) <;> clear hK K
      case refine_2 =>
        have hlt := of_decide_eq_false hlt
        simp only [BlockE, ThenE, ↓reduceIte]
        exact ⟨f, rfl, fun j hj => hf j (by omega), hl⟩
      have hlt := of_decide_eq_true hlt
      refine EWp.cut [0, 1, 4, 5, 6, 7, 8, 9, 10] (fun S' w' => ∃ f, S' = sF b g (some p) bs'.length c' st i ∧ (∀ j, j < i + 1 → f j = wordAt bs' j) ∧ HL w w' [] [(g, 84, ringC f)]) ?_ ?_
      case refine_2 =>
        clear hl hf f
        rintro S' w' ⟨f, rfl, hf, hl⟩
        refine EWp.regR [0, 1, 4, 5, 6, 7, 8, 9, 10] fun K hK => ?_
        simp only [ev, fx, ↓reduceIte, Nat.reduceEqDiff, Nat.reduceLT, Nat.reduceLeDiff, Nat.reduceAdd, Nat.reduceSub, Nat.reduceMul, Int.reduceLT, Int.reduceLE, Int.reduceToNat, BitVec.reduceOfInt, BitVec.reduceToNat, reduceCtorEq, and_self, decide_true, decide_false, Bool.not_true, Bool.not_false, ne_eq, not_true_eq_false, not_false_eq_true, true_and, and_true, sF]
        exact ⟨by omega, hK _ _ fun S1 h1 => ⟨15 - i, by omega, i + 1, f, by omega, by omega, h1, hf, hl⟩⟩
      refine EWp.block ?_
      refine EWp.seqR [0, 1, 4, 5, 6, 7, 8, 9, 10, 11] fun K hK => ?_
      simp only [ev, fx, ↓reduceIte, Nat.reduceEqDiff, Nat.reduceLT, Nat.reduceLeDiff, Nat.reduceAdd, Nat.reduceSub, Nat.reduceMul, Int.reduceLT, Int.reduceLE, Int.reduceToNat, BitVec.reduceOfInt, BitVec.reduceToNat, reduceCtorEq, and_self, decide_true, decide_false, Bool.not_true, Bool.not_false, ne_eq, not_true_eq_false, not_false_eq_true, true_and, and_true]
      refine ⟨by omega, ?_⟩
      repeat (refine And.intro (by omega) ?_)
      refine hK _ _ ?_; clear hK K
      refine EWp.regO (fun i => [31].contains i) [(0, 0), (1, 0), (2, 0), (3, 0), (4, 1), (5, 0), (6, 0), (7, 0), (8, 0), (9, 0), (10, 0), (11, 1), (12, 0), (13, 0), (14, 0), (15, 0), (16, 0), (17, 0), (18, 0), (19, 1), (20, 0), (21, 0), (22, 0), (23, 0), (24, 0), (25, 0), (26, 0), (27, 1), (28, 0), (29, 0), (30, 0), (31, 2)] [0, 1, 4, 5, 6, 7, 8, 9, 10] mixed (by kernel_rfl) fun K hK => ?_
      have hl := hl.drew
      have hr := fun j hj => byte_at (j := j) (hrd.grow hl.toGrow) hj
      simp only [ev, fx, ↓reduceIte, Nat.reduceEqDiff, Nat.reduceLT, Nat.reduceLeDiff, Nat.reduceAdd, Nat.reduceSub, Nat.reduceMul, Int.reduceLT, Int.reduceLE, Int.reduceToNat, BitVec.reduceOfInt, BitVec.reduceToNat, reduceCtorEq, and_self, decide_true, decide_false, Bool.not_true, Bool.not_false, ne_eq, not_true_eq_false, not_false_eq_true, true_and, and_true]
      refine ⟨by omega, StopR.load _ rfl one_5 rfl (hr _ (by omega)) ?_⟩
      simp only [ev, fx, ↓reduceIte, Nat.reduceEqDiff, Nat.reduceLT, Nat.reduceLeDiff, Nat.reduceAdd, Nat.reduceSub, Nat.reduceMul, Int.reduceLT, Int.reduceLE, Int.reduceToNat, BitVec.reduceOfInt, BitVec.reduceToNat, reduceCtorEq, and_self, decide_true, decide_false, Bool.not_true, Bool.not_false, ne_eq, not_true_eq_false, not_false_eq_true, true_and, and_true]
      refine ⟨by omega, by omega, StopR.load _ rfl one_5 rfl (hr _ (by omega)) ?_⟩
      simp only [ev, fx, ↓reduceIte, Nat.reduceEqDiff, Nat.reduceLT, Nat.reduceLeDiff, Nat.reduceAdd, Nat.reduceSub, Nat.reduceMul, Int.reduceLT, Int.reduceLE, Int.reduceToNat, BitVec.reduceOfInt, BitVec.reduceToNat, reduceCtorEq, and_self, decide_true, decide_false, Bool.not_true, Bool.not_false, ne_eq, not_true_eq_false, not_false_eq_true, true_and, and_true]
      refine ⟨by omega, by omega, StopR.load _ rfl one_5 rfl (hr _ (by omega)) ?_⟩
      simp only [ev, fx, ↓reduceIte, Nat.reduceEqDiff, Nat.reduceLT, Nat.reduceLeDiff, Nat.reduceAdd, Nat.reduceSub, Nat.reduceMul, Int.reduceLT, Int.reduceLE, Int.reduceToNat, BitVec.reduceOfInt, BitVec.reduceToNat, reduceCtorEq, and_self, decide_true, decide_false, Bool.not_true, Bool.not_false, ne_eq, not_true_eq_false, not_false_eq_true, true_and, and_true]
      refine ⟨by omega, by omega, StopR.load _ rfl one_5 rfl (hr _ (by omega)) ?_⟩
      simp only [ev, fx, ↓reduceIte, Nat.reduceEqDiff, Nat.reduceLT, Nat.reduceLeDiff, Nat.reduceAdd, Nat.reduceSub, Nat.reduceMul, Int.reduceLT, Int.reduceLE, Int.reduceToNat, BitVec.reduceOfInt, BitVec.reduceToNat, reduceCtorEq, and_self, decide_true, decide_false, Bool.not_true, Bool.not_false, ne_eq, not_true_eq_false, not_false_eq_true, true_and, and_true]
      refine ⟨by omega, SemE.storeB hl 0 rfl rfl one_50 rfl rfl (by simp [ringC_len]; omega) fun w' hl => ⟨fun h => absurd h (by decide), ?_⟩⟩
      simp only [ev, fx, ↓reduceIte, Nat.reduceEqDiff, Nat.reduceLT, Nat.reduceLeDiff, Nat.reduceAdd, Nat.reduceSub, Nat.reduceMul, Int.reduceLT, Int.reduceLE, Int.reduceToNat, BitVec.reduceOfInt, BitVec.reduceToNat, reduceCtorEq, and_self, decide_true, decide_false, Bool.not_true, Bool.not_false, ne_eq, not_true_eq_false, not_false_eq_true, true_and, and_true]
      refine hK _ _ fun S1 h1 => ?_; clear hK K
      simp only [ringC_set, List.set_cons_zero] at hl
      simp only [BlockE, ThenE]
      refine ⟨_, h1, ?_, hl⟩
      intro j hj
      by_cases he : j = i
      · subst he; simp only [if_true, wordAt, be32, Nat.mul_comm 4 j]
      · simp only [he, if_false]; exact hf j (by omega)
    clear hl f
    rintro S' w' ⟨f, rfl, hf, hl⟩
    refine EWp.seqR [0, 1, 4, 5, 6, 7, 8, 9, 12, 13, 14, 15, 16] fun K hK => ?_
    simp only [ev, fx, ↓reduceIte, Nat.reduceEqDiff, Nat.reduceLT, Nat.reduceLeDiff, Nat.reduceAdd, Nat.reduceSub, Nat.reduceMul, Int.reduceLT, Int.reduceLE, Int.reduceToNat, BitVec.reduceOfInt, BitVec.reduceToNat, reduceCtorEq, and_self, decide_true, decide_false, Bool.not_true, Bool.not_false, ne_eq, not_true_eq_false, not_false_eq_true, true_and, and_true]
    simp only [ev, fx, ↓reduceIte, Nat.reduceEqDiff, Nat.reduceLT, Nat.reduceLeDiff, Nat.reduceAdd, Nat.reduceSub, Nat.reduceMul, Int.reduceLT, Int.reduceLE, Int.reduceToNat, BitVec.reduceOfInt, BitVec.reduceToNat, reduceCtorEq, and_self, decide_true, decide_false, Bool.not_true, Bool.not_false, ne_eq, not_true_eq_false, not_false_eq_true, true_and, and_true, sB]
    repeat (refine And.intro (by omega) ?_)
    refine hK _ _ ?_; clear hK K
    refine EWp.seqR [0, 1, 4, 5, 6, 7, 8, 9, 12, 13, 14, 15, 16, 17] fun K hK => ?_
    simp only [ev, fx, ↓reduceIte, Nat.reduceEqDiff, Nat.reduceLT, Nat.reduceLeDiff, Nat.reduceAdd, Nat.reduceSub, Nat.reduceMul, Int.reduceLT, Int.reduceLE, Int.reduceToNat, BitVec.reduceOfInt, BitVec.reduceToNat, reduceCtorEq, and_self, decide_true, decide_false, Bool.not_true, Bool.not_false, ne_eq, not_true_eq_false, not_false_eq_true, true_and, and_true]
    repeat (refine And.intro (by omega) ?_)
    refine hK _ _ ?_; clear hK K
    refine EWp.cut [0, 1, 4, 5, 6, 7, 8, 9, 12, 13, 14, 15, 16, 17] (fun S' w' => ∃ f, S' = sR b g (some p) bs'.length c' st (roundsOf (sched (wordAt bs')) st 16) 16 ∧ Ring (sched (wordAt bs')) 16 f ∧ HL w w' [] [(g, 84, ringC f)]) ?_ ?_
    case refine_1 =>
      refine EWp.block ?_
      refine EWp.loop [0, 1, 4, 5, 6, 7, 8, 9, 12, 13, 14, 15, 16, 17] (fun k S' w' => ∃ i, i ≤ 16 ∧ k = 16 - i ∧ S' = sR b g (some p) bs'.length c' st (roundsOf (sched (wordAt bs')) st i) i ∧ HL w w' [] [(g, 84, ringC f)]) 16 ?_ ?_
      case refine_1 => exact ⟨0, by omega, rfl, rfl, hl⟩
      clear hl w'
      rintro k S' w' ⟨i, hi, rfl, rfl, hl⟩
      refine EWp.headR [0, 1, 4, 5, 6, 7, 8, 9, 12, 13, 14, 15, 16, 17, 103] fun K hK => ?_
      simp only [ev, fx, ↓reduceIte, Nat.reduceEqDiff, Nat.reduceLT, Nat.reduceLeDiff, Nat.reduceAdd, Nat.reduceSub, Nat.reduceMul, Int.reduceLT, Int.reduceLE, Int.reduceToNat, BitVec.reduceOfInt, BitVec.reduceToNat, reduceCtorEq, and_self, decide_true, decide_false, Bool.not_true, Bool.not_false, ne_eq, not_true_eq_false, not_false_eq_true, true_and, and_true, sR]
      refine hK _ _ (decide (i < 16)) rfl (fun hlt => ?_) (fun hlt => ?_) <;> clear hK K
      case refine_2 =>
        have hlt := of_decide_eq_false hlt
        obtain rfl : i = 16 := by omega
        simp only [BlockE, ThenE, ↓reduceIte]
        exact ⟨f, rfl, fun k h1 h2 => by rw [Nat.mod_eq_of_lt h1, hf k h1, sched_lo _ h1], hl⟩
      have hlt := of_decide_eq_true hlt
      refine EWp.cut [0, 1, 4, 5, 6, 7, 8, 9, 12, 13, 14, 15, 16, 17] (fun S' w' => S' = sR b g (some p) bs'.length c' st (roundsOf (sched (wordAt bs')) st (i + 1)) i ∧ HL w w' [] [(g, 84, ringC f)]) ?_ ?_
      case refine_2 =>
        clear hl
        rintro S' w' ⟨rfl, hl⟩
        refine EWp.regR [0, 1, 4, 5, 6, 7, 8, 9, 12, 13, 14, 15, 16, 17] fun K hK => ?_
        simp only [ev, fx, ↓reduceIte, Nat.reduceEqDiff, Nat.reduceLT, Nat.reduceLeDiff, Nat.reduceAdd, Nat.reduceSub, Nat.reduceMul, Int.reduceLT, Int.reduceLE, Int.reduceToNat, BitVec.reduceOfInt, BitVec.reduceToNat, reduceCtorEq, and_self, decide_true, decide_false, Bool.not_true, Bool.not_false, ne_eq, not_true_eq_false, not_false_eq_true, true_and, and_true, sR]
        exact ⟨by omega, hK _ _ fun S1 h1 => ⟨15 - i, by omega, i + 1, by omega, by omega, h1, hl⟩⟩
      refine EWp.block ?_
      refine EWp.seqR [0, 1, 4, 5, 6, 7, 8, 9, 12, 13, 14, 15, 16, 17, 18] fun K hK => ?_
      simp only [ev, fx, ↓reduceIte, Nat.reduceEqDiff, Nat.reduceLT, Nat.reduceLeDiff, Nat.reduceAdd, Nat.reduceSub, Nat.reduceMul, Int.reduceLT, Int.reduceLE, Int.reduceToNat, BitVec.reduceOfInt, BitVec.reduceToNat, reduceCtorEq, and_self, decide_true, decide_false, Bool.not_true, Bool.not_false, ne_eq, not_true_eq_false, not_false_eq_true, true_and, and_true]
      repeat (refine And.intro (by omega) ?_)
      refine hK _ _ ?_; clear hK K
      refine EWp.seqO (fun _ => false) [(0, 0), (1, 1), (2, 0), (3, 0), (4, 0), (5, 0), (6, 0), (7, 0), (8, 0), (9, 1), (10, 0), (11, 0), (12, 0)] [0, 1, 4, 5, 6, 7, 8, 9, 12, 13, 14, 15, 16, 17, 19] mixed (by kernel_rfl) fun K hK => ?_
      have hl := hl.drew
      simp only [ev, fx, ↓reduceIte, Nat.reduceEqDiff, Nat.reduceLT, Nat.reduceLeDiff, Nat.reduceAdd, Nat.reduceSub, Nat.reduceMul, Int.reduceLT, Int.reduceLE, Int.reduceToNat, BitVec.reduceOfInt, BitVec.reduceToNat, reduceCtorEq, and_self, decide_true, decide_false, Bool.not_true, Bool.not_false, ne_eq, not_true_eq_false, not_false_eq_true, true_and, and_true, and15]
      refine StopR.mk (.u32 (rotl _ 5)) (Quiet.call fn_57 rfl fun w' _ => rot32 _ 5 (by decide) w') rfl ?_
      simp only [ev, fx, ↓reduceIte, Nat.reduceEqDiff, Nat.reduceLT, Nat.reduceLeDiff, Nat.reduceAdd, Nat.reduceSub, Nat.reduceMul, Int.reduceLT, Int.reduceLE, Int.reduceToNat, BitVec.reduceOfInt, BitVec.reduceToNat, reduceCtorEq, and_self, decide_true, decide_false, Bool.not_true, Bool.not_false, ne_eq, not_true_eq_false, not_false_eq_true, true_and, and_true, and15]
      refine ⟨by omega, by omega, StopR.loadB hl 0 rfl one_50 rfl rfl (ringC_get _ (by omega)) ?_⟩
      simp only [ev, fx, ↓reduceIte, Nat.reduceEqDiff, Nat.reduceLT, Nat.reduceLeDiff, Nat.reduceAdd, Nat.reduceSub, Nat.reduceMul, Int.reduceLT, Int.reduceLE, Int.reduceToNat, BitVec.reduceOfInt, BitVec.reduceToNat, reduceCtorEq, and_self, decide_true, decide_false, Bool.not_true, Bool.not_false, ne_eq, not_true_eq_false, not_false_eq_true, true_and, and_true]
      repeat (refine And.intro (by omega) ?_)
      refine hK _ _ ?_; clear hK K
      refine EWp.regR [0, 1, 4, 5, 6, 7, 8, 9, 12, 13, 14, 15, 16, 17] fun K hK => ?_
      simp only [ev, fx, ↓reduceIte, Nat.reduceEqDiff, Nat.reduceLT, Nat.reduceLeDiff, Nat.reduceAdd, Nat.reduceSub, Nat.reduceMul, Int.reduceLT, Int.reduceLE, Int.reduceToNat, BitVec.reduceOfInt, BitVec.reduceToNat, reduceCtorEq, and_self, decide_true, decide_false, Bool.not_true, Bool.not_false, ne_eq, not_true_eq_false, not_false_eq_true, true_and, and_true]
      refine SemE.call fn_57 rfl rfl (rot32 _ 30 (by decide) _) ?_
      rintro _ _ ⟨rfl, rfl⟩
      refine ⟨_, rfl, ?_⟩
      simp only [ev, fx, ↓reduceIte, Nat.reduceEqDiff, Nat.reduceLT, Nat.reduceLeDiff, Nat.reduceAdd, Nat.reduceSub, Nat.reduceMul, Int.reduceLT, Int.reduceLE, Int.reduceToNat, BitVec.reduceOfInt, BitVec.reduceToNat, reduceCtorEq, and_self, decide_true, decide_false, Bool.not_true, Bool.not_false, ne_eq, not_true_eq_false, not_false_eq_true, true_and, and_true]
      refine hK _ _ fun S1 h1 => ?_; clear hK K
      simp only [BlockE, ThenE]
      refine ⟨?_, hl⟩
      rw [h1]
      have hw : f (i % 16) = sched (wordAt bs') i := by rw [Nat.mod_eq_of_lt hlt, hf i hlt, sched_lo _ hlt]
      simp only [sR, roundsOf, stepOf, hw, fOf, kOf, show i < 20 by omega, ↓reduceIte]
    clear hl hf f
    rintro S' w' ⟨f, rfl, hf, hl⟩
    refine EWp.cut [0, 1, 4, 5, 6, 7, 8, 9, 12, 13, 14, 15, 16, 17] (fun S' w' => ∃ f, S' = sR b g (some p) bs'.length c' st (roundsOf (sched (wordAt bs')) st 20) 20 ∧ Ring (sched (wordAt bs')) 20 f ∧ HL w w' [] [(g, 84, ringC f)]) ?_ ?_
    case refine_1 =>
      refine EWp.block ?_
      refine EWp.loop [0, 1, 4, 5, 6, 7, 8, 9, 12, 13, 14, 15, 16, 17] (fun k S' w' => ∃ i f, 16 ≤ i ∧ i ≤ 20 ∧ k = 20 - i ∧ S' = sR b g (some p) bs'.length c' st (roundsOf (sched (wordAt bs')) st i) i ∧ Ring (sched (wordAt bs')) i f ∧ HL w w' [] [(g, 84, ringC f)]) (20 - 16) ?_ ?_
      case refine_1 => exact ⟨16, f, by omega, by omega, by omega, rfl, hf, hl⟩
      clear hl hf f w'
      rintro k S' w' ⟨i, f, hlo, hi, rfl, rfl, hf, hl⟩
      refine EWp.headR [0, 1, 4, 5, 6, 7, 8, 9, 12, 13, 14, 15, 16, 17, 133] fun K hK => ?_
      simp only [ev, fx, ↓reduceIte, Nat.reduceEqDiff, Nat.reduceLT, Nat.reduceLeDiff, Nat.reduceAdd, Nat.reduceSub, Nat.reduceMul, Int.reduceLT, Int.reduceLE, Int.reduceToNat, BitVec.reduceOfInt, BitVec.reduceToNat, reduceCtorEq, and_self, decide_true, decide_false, Bool.not_true, Bool.not_false, ne_eq, not_true_eq_false, not_false_eq_true, true_and, and_true, sR]
      refine hK _ _ (decide (i < 20)) rfl (fun hlt => ?_) (fun hlt => ?_) <;> clear hK K
      case refine_2 =>
        have hlt := of_decide_eq_false hlt
        obtain rfl : i = 20 := by omega
        simp only [BlockE, ThenE, ↓reduceIte]
        exact ⟨f, rfl, hf, hl⟩
      have hlt := of_decide_eq_true hlt
      refine EWp.cut [0, 1, 4, 5, 6, 7, 8, 9, 12, 13, 14, 15, 16, 17] (fun S' w' => ∃ f, S' = sR b g (some p) bs'.length c' st (roundsOf (sched (wordAt bs')) st (i + 1)) i ∧ Ring (sched (wordAt bs')) (i + 1) f ∧ HL w w' [] [(g, 84, ringC f)]) ?_ ?_
      case refine_2 =>
        clear hl hf f
        rintro S' w' ⟨f, rfl, hf, hl⟩
        refine EWp.regR [0, 1, 4, 5, 6, 7, 8, 9, 12, 13, 14, 15, 16, 17] fun K hK => ?_
        simp only [ev, fx, ↓reduceIte, Nat.reduceEqDiff, Nat.reduceLT, Nat.reduceLeDiff, Nat.reduceAdd, Nat.reduceSub, Nat.reduceMul, Int.reduceLT, Int.reduceLE, Int.reduceToNat, BitVec.reduceOfInt, BitVec.reduceToNat, reduceCtorEq, and_self, decide_true, decide_false, Bool.not_true, Bool.not_false, ne_eq, not_true_eq_false, not_false_eq_true, true_and, and_true, sR]
        exact ⟨by omega, hK _ _ fun S1 h1 => ⟨20 - i - 1, by omega, i + 1, f, by omega, by omega, by omega, h1, hf, hl⟩⟩
      refine EWp.block ?_
      refine EWp.seqO (fun _ => false) [(0, 0), (1, 0), (2, 0), (3, 0), (4, 1), (5, 0), (6, 0), (7, 0), (8, 0), (9, 1), (10, 0), (11, 0), (12, 0), (13, 0), (14, 0), (15, 1), (16, 0), (17, 0), (18, 0), (19, 0), (20, 1), (21, 0), (22, 0)] [0, 1, 4, 5, 6, 7, 8, 9, 12, 13, 14, 15, 16, 17, 20] mixed (by kernel_rfl) fun K hK => ?_
      have hl := hl.drew
      simp only [ev, fx, ↓reduceIte, Nat.reduceEqDiff, Nat.reduceLT, Nat.reduceLeDiff, Nat.reduceAdd, Nat.reduceSub, Nat.reduceMul, Int.reduceLT, Int.reduceLE, Int.reduceToNat, BitVec.reduceOfInt, BitVec.reduceToNat, reduceCtorEq, and_self, decide_true, decide_false, Bool.not_true, Bool.not_false, ne_eq, not_true_eq_false, not_false_eq_true, true_and, and_true, and15]
      refine ⟨by omega, by omega, by omega, StopR.loadB hl 0 rfl one_50 rfl rfl (ringC_get _ (by omega)) ?_⟩
      simp only [ev, fx, ↓reduceIte, Nat.reduceEqDiff, Nat.reduceLT, Nat.reduceLeDiff, Nat.reduceAdd, Nat.reduceSub, Nat.reduceMul, Int.reduceLT, Int.reduceLE, Int.reduceToNat, BitVec.reduceOfInt, BitVec.reduceToNat, reduceCtorEq, and_self, decide_true, decide_false, Bool.not_true, Bool.not_false, ne_eq, not_true_eq_false, not_false_eq_true, true_and, and_true, and15]
      refine ⟨by omega, by omega, by omega, StopR.loadB hl 0 rfl one_50 rfl rfl (ringC_get _ (by omega)) ?_⟩
      simp only [ev, fx, ↓reduceIte, Nat.reduceEqDiff, Nat.reduceLT, Nat.reduceLeDiff, Nat.reduceAdd, Nat.reduceSub, Nat.reduceMul, Int.reduceLT, Int.reduceLE, Int.reduceToNat, BitVec.reduceOfInt, BitVec.reduceToNat, reduceCtorEq, and_self, decide_true, decide_false, Bool.not_true, Bool.not_false, ne_eq, not_true_eq_false, not_false_eq_true, true_and, and_true, and15]
      refine ⟨by omega, by omega, by omega, StopR.loadB hl 0 rfl one_50 rfl rfl (ringC_get _ (by omega)) ?_⟩
      simp only [ev, fx, ↓reduceIte, Nat.reduceEqDiff, Nat.reduceLT, Nat.reduceLeDiff, Nat.reduceAdd, Nat.reduceSub, Nat.reduceMul, Int.reduceLT, Int.reduceLE, Int.reduceToNat, BitVec.reduceOfInt, BitVec.reduceToNat, reduceCtorEq, and_self, decide_true, decide_false, Bool.not_true, Bool.not_false, ne_eq, not_true_eq_false, not_false_eq_true, true_and, and_true, and15]
      refine ⟨by omega, by omega, StopR.loadB hl 0 rfl one_50 rfl rfl (ringC_get _ (by omega)) ?_⟩
      simp only [ev, fx, ↓reduceIte, Nat.reduceEqDiff, Nat.reduceLT, Nat.reduceLeDiff, Nat.reduceAdd, Nat.reduceSub, Nat.reduceMul, Int.reduceLT, Int.reduceLE, Int.reduceToNat, BitVec.reduceOfInt, BitVec.reduceToNat, reduceCtorEq, and_self, decide_true, decide_false, Bool.not_true, Bool.not_false, ne_eq, not_true_eq_false, not_false_eq_true, true_and, and_true]
      repeat (refine And.intro (by omega) ?_)
      refine hK _ _ ?_; clear hK K
      refine EWp.seqR [0, 1, 4, 5, 6, 7, 8, 9, 12, 13, 14, 15, 16, 17] fun K hK => ?_
      simp only [ev, fx, ↓reduceIte, Nat.reduceEqDiff, Nat.reduceLT, Nat.reduceLeDiff, Nat.reduceAdd, Nat.reduceSub, Nat.reduceMul, Int.reduceLT, Int.reduceLE, Int.reduceToNat, BitVec.reduceOfInt, BitVec.reduceToNat, reduceCtorEq, and_self, decide_true, decide_false, Bool.not_true, Bool.not_false, ne_eq, not_true_eq_false, not_false_eq_true, true_and, and_true]
      simp only [and15]
      refine ⟨by omega, SemE.call fn_57 rfl rfl (rot32 _ 1 (by decide) _) ?_⟩
      rintro _ _ ⟨rfl, rfl⟩
      refine ⟨_, rfl, ?_⟩
      simp only [ev, fx, ↓reduceIte, Nat.reduceEqDiff, Nat.reduceLT, Nat.reduceLeDiff, Nat.reduceAdd, Nat.reduceSub, Nat.reduceMul, Int.reduceLT, Int.reduceLE, Int.reduceToNat, BitVec.reduceOfInt, BitVec.reduceToNat, reduceCtorEq, and_self, decide_true, decide_false, Bool.not_true, Bool.not_false, ne_eq, not_true_eq_false, not_false_eq_true, true_and, and_true]
      rw [ring_word hf (by omega)]
      refine ⟨by omega, SemE.storeB hl 0 rfl rfl one_50 rfl rfl (by rw [ringC_len]; omega) fun w' hl => ?_⟩
      have hf := hf.next _ rfl
      simp only [ringC_set, List.set_cons_zero] at hl
      have hw : (fun j => if j = i % 16 then sched (wordAt bs') i else f j) (i % 16) = sched (wordAt bs') i := if_pos rfl
      generalize (fun j => if j = i % 16 then sched (wordAt bs') i else f j) = f at hf hl hw
      simp only [ev, fx, ↓reduceIte, Nat.reduceEqDiff, Nat.reduceLT, Nat.reduceLeDiff, Nat.reduceAdd, Nat.reduceSub, Nat.reduceMul, Int.reduceLT, Int.reduceLE, Int.reduceToNat, BitVec.reduceOfInt, BitVec.reduceToNat, reduceCtorEq, and_self, decide_true, decide_false, Bool.not_true, Bool.not_false, ne_eq, not_true_eq_false, not_false_eq_true, true_and, and_true]
      repeat (refine And.intro (by omega) ?_)
      refine hK _ _ ?_; clear hK K
      refine EWp.seqR [0, 1, 4, 5, 6, 7, 8, 9, 12, 13, 14, 15, 16, 17, 21] fun K hK => ?_
      simp only [ev, fx, ↓reduceIte, Nat.reduceEqDiff, Nat.reduceLT, Nat.reduceLeDiff, Nat.reduceAdd, Nat.reduceSub, Nat.reduceMul, Int.reduceLT, Int.reduceLE, Int.reduceToNat, BitVec.reduceOfInt, BitVec.reduceToNat, reduceCtorEq, and_self, decide_true, decide_false, Bool.not_true, Bool.not_false, ne_eq, not_true_eq_false, not_false_eq_true, true_and, and_true]
      repeat (refine And.intro (by omega) ?_)
      refine hK _ _ ?_; clear hK K
      refine EWp.seqO (fun _ => false) [(0, 0), (1, 1), (2, 0), (3, 0), (4, 0), (5, 0), (6, 0), (7, 0), (8, 0), (9, 1), (10, 0), (11, 0), (12, 0)] [0, 1, 4, 5, 6, 7, 8, 9, 12, 13, 14, 15, 16, 17, 22] mixed (by kernel_rfl) fun K hK => ?_
      have hl := hl.drew
      simp only [ev, fx, ↓reduceIte, Nat.reduceEqDiff, Nat.reduceLT, Nat.reduceLeDiff, Nat.reduceAdd, Nat.reduceSub, Nat.reduceMul, Int.reduceLT, Int.reduceLE, Int.reduceToNat, BitVec.reduceOfInt, BitVec.reduceToNat, reduceCtorEq, and_self, decide_true, decide_false, Bool.not_true, Bool.not_false, ne_eq, not_true_eq_false, not_false_eq_true, true_and, and_true, and15]
      refine StopR.mk (.u32 (rotl _ 5)) (Quiet.call fn_57 rfl fun w' _ => rot32 _ 5 (by decide) w') rfl ?_
      simp only [ev, fx, ↓reduceIte, Nat.reduceEqDiff, Nat.reduceLT, Nat.reduceLeDiff, Nat.reduceAdd, Nat.reduceSub, Nat.reduceMul, Int.reduceLT, Int.reduceLE, Int.reduceToNat, BitVec.reduceOfInt, BitVec.reduceToNat, reduceCtorEq, and_self, decide_true, decide_false, Bool.not_true, Bool.not_false, ne_eq, not_true_eq_false, not_false_eq_true, true_and, and_true, and15]
      refine ⟨by omega, by omega, StopR.loadB hl 0 rfl one_50 rfl rfl (ringC_get _ (by omega)) ?_⟩
      simp only [ev, fx, ↓reduceIte, Nat.reduceEqDiff, Nat.reduceLT, Nat.reduceLeDiff, Nat.reduceAdd, Nat.reduceSub, Nat.reduceMul, Int.reduceLT, Int.reduceLE, Int.reduceToNat, BitVec.reduceOfInt, BitVec.reduceToNat, reduceCtorEq, and_self, decide_true, decide_false, Bool.not_true, Bool.not_false, ne_eq, not_true_eq_false, not_false_eq_true, true_and, and_true]
      repeat (refine And.intro (by omega) ?_)
      refine hK _ _ ?_; clear hK K
      refine EWp.regR [0, 1, 4, 5, 6, 7, 8, 9, 12, 13, 14, 15, 16, 17] fun K hK => ?_
      simp only [ev, fx, ↓reduceIte, Nat.reduceEqDiff, Nat.reduceLT, Nat.reduceLeDiff, Nat.reduceAdd, Nat.reduceSub, Nat.reduceMul, Int.reduceLT, Int.reduceLE, Int.reduceToNat, BitVec.reduceOfInt, BitVec.reduceToNat, reduceCtorEq, and_self, decide_true, decide_false, Bool.not_true, Bool.not_false, ne_eq, not_true_eq_false, not_false_eq_true, true_and, and_true]
      refine SemE.call fn_57 rfl rfl (rot32 _ 30 (by decide) _) ?_
      rintro _ _ ⟨rfl, rfl⟩
      refine ⟨_, rfl, ?_⟩
      simp only [ev, fx, ↓reduceIte, Nat.reduceEqDiff, Nat.reduceLT, Nat.reduceLeDiff, Nat.reduceAdd, Nat.reduceSub, Nat.reduceMul, Int.reduceLT, Int.reduceLE, Int.reduceToNat, BitVec.reduceOfInt, BitVec.reduceToNat, reduceCtorEq, and_self, decide_true, decide_false, Bool.not_true, Bool.not_false, ne_eq, not_true_eq_false, not_false_eq_true, true_and, and_true]
      refine hK _ _ fun S1 h1 => ?_; clear hK K
      simp only [BlockE, ThenE]
      refine ⟨f, ?_, hf, hl⟩
      rw [h1]
      simp only [sR, roundsOf, stepOf, hw, maj_eq, fOf_16 _ _ _ hlo hlt, kOf_16 hlo hlt]
    clear hl hf f
    rintro S' w' ⟨f, rfl, hf, hl⟩
    refine EWp.cut [0, 1, 4, 5, 6, 7, 8, 9, 12, 13, 14, 15, 16, 17] (fun S' w' => ∃ f, S' = sR b g (some p) bs'.length c' st (roundsOf (sched (wordAt bs')) st 40) 40 ∧ Ring (sched (wordAt bs')) 40 f ∧ HL w w' [] [(g, 84, ringC f)]) ?_ ?_
    case refine_1 =>
      refine EWp.block ?_
      refine EWp.loop [0, 1, 4, 5, 6, 7, 8, 9, 12, 13, 14, 15, 16, 17] (fun k S' w' => ∃ i f, 20 ≤ i ∧ i ≤ 40 ∧ k = 40 - i ∧ S' = sR b g (some p) bs'.length c' st (roundsOf (sched (wordAt bs')) st i) i ∧ Ring (sched (wordAt bs')) i f ∧ HL w w' [] [(g, 84, ringC f)]) (40 - 20) ?_ ?_
      case refine_1 => exact ⟨20, f, by omega, by omega, by omega, rfl, hf, hl⟩
      clear hl hf f w'
      rintro k S' w' ⟨i, f, hlo, hi, rfl, rfl, hf, hl⟩
      refine EWp.headR [0, 1, 4, 5, 6, 7, 8, 9, 12, 13, 14, 15, 16, 17, 190] fun K hK => ?_
      simp only [ev, fx, ↓reduceIte, Nat.reduceEqDiff, Nat.reduceLT, Nat.reduceLeDiff, Nat.reduceAdd, Nat.reduceSub, Nat.reduceMul, Int.reduceLT, Int.reduceLE, Int.reduceToNat, BitVec.reduceOfInt, BitVec.reduceToNat, reduceCtorEq, and_self, decide_true, decide_false, Bool.not_true, Bool.not_false, ne_eq, not_true_eq_false, not_false_eq_true, true_and, and_true, sR]
      refine hK _ _ (decide (i < 40)) rfl (fun hlt => ?_) (fun hlt => ?_) <;> clear hK K
      case refine_2 =>
        have hlt := of_decide_eq_false hlt
        obtain rfl : i = 40 := by omega
        simp only [BlockE, ThenE, ↓reduceIte]
        exact ⟨f, rfl, hf, hl⟩
      have hlt := of_decide_eq_true hlt
      refine EWp.cut [0, 1, 4, 5, 6, 7, 8, 9, 12, 13, 14, 15, 16, 17] (fun S' w' => ∃ f, S' = sR b g (some p) bs'.length c' st (roundsOf (sched (wordAt bs')) st (i + 1)) i ∧ Ring (sched (wordAt bs')) (i + 1) f ∧ HL w w' [] [(g, 84, ringC f)]) ?_ ?_
      case refine_2 =>
        clear hl hf f
        rintro S' w' ⟨f, rfl, hf, hl⟩
        refine EWp.regR [0, 1, 4, 5, 6, 7, 8, 9, 12, 13, 14, 15, 16, 17] fun K hK => ?_
        simp only [ev, fx, ↓reduceIte, Nat.reduceEqDiff, Nat.reduceLT, Nat.reduceLeDiff, Nat.reduceAdd, Nat.reduceSub, Nat.reduceMul, Int.reduceLT, Int.reduceLE, Int.reduceToNat, BitVec.reduceOfInt, BitVec.reduceToNat, reduceCtorEq, and_self, decide_true, decide_false, Bool.not_true, Bool.not_false, ne_eq, not_true_eq_false, not_false_eq_true, true_and, and_true, sR]
        exact ⟨by omega, hK _ _ fun S1 h1 => ⟨40 - i - 1, by omega, i + 1, f, by omega, by omega, by omega, h1, hf, hl⟩⟩
      refine EWp.block ?_
      refine EWp.seqO (fun _ => false) [(0, 0), (1, 0), (2, 0), (3, 0), (4, 1), (5, 0), (6, 0), (7, 0), (8, 0), (9, 1), (10, 0), (11, 0), (12, 0), (13, 0), (14, 0), (15, 1), (16, 0), (17, 0), (18, 0), (19, 0), (20, 1), (21, 0), (22, 0)] [0, 1, 4, 5, 6, 7, 8, 9, 12, 13, 14, 15, 16, 17, 23] mixed (by kernel_rfl) fun K hK => ?_
      have hl := hl.drew
      simp only [ev, fx, ↓reduceIte, Nat.reduceEqDiff, Nat.reduceLT, Nat.reduceLeDiff, Nat.reduceAdd, Nat.reduceSub, Nat.reduceMul, Int.reduceLT, Int.reduceLE, Int.reduceToNat, BitVec.reduceOfInt, BitVec.reduceToNat, reduceCtorEq, and_self, decide_true, decide_false, Bool.not_true, Bool.not_false, ne_eq, not_true_eq_false, not_false_eq_true, true_and, and_true, and15]
      refine ⟨by omega, by omega, by omega, StopR.loadB hl 0 rfl one_50 rfl rfl (ringC_get _ (by omega)) ?_⟩
      simp only [ev, fx, ↓reduceIte, Nat.reduceEqDiff, Nat.reduceLT, Nat.reduceLeDiff, Nat.reduceAdd, Nat.reduceSub, Nat.reduceMul, Int.reduceLT, Int.reduceLE, Int.reduceToNat, BitVec.reduceOfInt, BitVec.reduceToNat, reduceCtorEq, and_self, decide_true, decide_false, Bool.not_true, Bool.not_false, ne_eq, not_true_eq_false, not_false_eq_true, true_and, and_true, and15]
      refine ⟨by omega, by omega, by omega, StopR.loadB hl 0 rfl one_50 rfl rfl (ringC_get _ (by omega)) ?_⟩
      simp only [ev, fx, ↓reduceIte, Nat.reduceEqDiff, Nat.reduceLT, Nat.reduceLeDiff, Nat.reduceAdd, Nat.reduceSub, Nat.reduceMul, Int.reduceLT, Int.reduceLE, Int.reduceToNat, BitVec.reduceOfInt, BitVec.reduceToNat, reduceCtorEq, and_self, decide_true, decide_false, Bool.not_true, Bool.not_false, ne_eq, not_true_eq_false, not_false_eq_true, true_and, and_true, and15]
      refine ⟨by omega, by omega, by omega, StopR.loadB hl 0 rfl one_50 rfl rfl (ringC_get _ (by omega)) ?_⟩
      simp only [ev, fx, ↓reduceIte, Nat.reduceEqDiff, Nat.reduceLT, Nat.reduceLeDiff, Nat.reduceAdd, Nat.reduceSub, Nat.reduceMul, Int.reduceLT, Int.reduceLE, Int.reduceToNat, BitVec.reduceOfInt, BitVec.reduceToNat, reduceCtorEq, and_self, decide_true, decide_false, Bool.not_true, Bool.not_false, ne_eq, not_true_eq_false, not_false_eq_true, true_and, and_true, and15]
      refine ⟨by omega, by omega, StopR.loadB hl 0 rfl one_50 rfl rfl (ringC_get _ (by omega)) ?_⟩
      simp only [ev, fx, ↓reduceIte, Nat.reduceEqDiff, Nat.reduceLT, Nat.reduceLeDiff, Nat.reduceAdd, Nat.reduceSub, Nat.reduceMul, Int.reduceLT, Int.reduceLE, Int.reduceToNat, BitVec.reduceOfInt, BitVec.reduceToNat, reduceCtorEq, and_self, decide_true, decide_false, Bool.not_true, Bool.not_false, ne_eq, not_true_eq_false, not_false_eq_true, true_and, and_true]
      repeat (refine And.intro (by omega) ?_)
      refine hK _ _ ?_; clear hK K
      refine EWp.seqR [0, 1, 4, 5, 6, 7, 8, 9, 12, 13, 14, 15, 16, 17] fun K hK => ?_
      simp only [ev, fx, ↓reduceIte, Nat.reduceEqDiff, Nat.reduceLT, Nat.reduceLeDiff, Nat.reduceAdd, Nat.reduceSub, Nat.reduceMul, Int.reduceLT, Int.reduceLE, Int.reduceToNat, BitVec.reduceOfInt, BitVec.reduceToNat, reduceCtorEq, and_self, decide_true, decide_false, Bool.not_true, Bool.not_false, ne_eq, not_true_eq_false, not_false_eq_true, true_and, and_true]
      simp only [and15]
      refine ⟨by omega, SemE.call fn_57 rfl rfl (rot32 _ 1 (by decide) _) ?_⟩
      rintro _ _ ⟨rfl, rfl⟩
      refine ⟨_, rfl, ?_⟩
      simp only [ev, fx, ↓reduceIte, Nat.reduceEqDiff, Nat.reduceLT, Nat.reduceLeDiff, Nat.reduceAdd, Nat.reduceSub, Nat.reduceMul, Int.reduceLT, Int.reduceLE, Int.reduceToNat, BitVec.reduceOfInt, BitVec.reduceToNat, reduceCtorEq, and_self, decide_true, decide_false, Bool.not_true, Bool.not_false, ne_eq, not_true_eq_false, not_false_eq_true, true_and, and_true]
      rw [ring_word hf (by omega)]
      refine ⟨by omega, SemE.storeB hl 0 rfl rfl one_50 rfl rfl (by rw [ringC_len]; omega) fun w' hl => ?_⟩
      have hf := hf.next _ rfl
      simp only [ringC_set, List.set_cons_zero] at hl
      have hw : (fun j => if j = i % 16 then sched (wordAt bs') i else f j) (i % 16) = sched (wordAt bs') i := if_pos rfl
      generalize (fun j => if j = i % 16 then sched (wordAt bs') i else f j) = f at hf hl hw
      simp only [ev, fx, ↓reduceIte, Nat.reduceEqDiff, Nat.reduceLT, Nat.reduceLeDiff, Nat.reduceAdd, Nat.reduceSub, Nat.reduceMul, Int.reduceLT, Int.reduceLE, Int.reduceToNat, BitVec.reduceOfInt, BitVec.reduceToNat, reduceCtorEq, and_self, decide_true, decide_false, Bool.not_true, Bool.not_false, ne_eq, not_true_eq_false, not_false_eq_true, true_and, and_true]
      repeat (refine And.intro (by omega) ?_)
      refine hK _ _ ?_; clear hK K
      refine EWp.seqR [0, 1, 4, 5, 6, 7, 8, 9, 12, 13, 14, 15, 16, 17, 24] fun K hK => ?_
      simp only [ev, fx, ↓reduceIte, Nat.reduceEqDiff, Nat.reduceLT, Nat.reduceLeDiff, Nat.reduceAdd, Nat.reduceSub, Nat.reduceMul, Int.reduceLT, Int.reduceLE, Int.reduceToNat, BitVec.reduceOfInt, BitVec.reduceToNat, reduceCtorEq, and_self, decide_true, decide_false, Bool.not_true, Bool.not_false, ne_eq, not_true_eq_false, not_false_eq_true, true_and, and_true]
      repeat (refine And.intro (by omega) ?_)
      refine hK _ _ ?_; clear hK K
      refine EWp.seqO (fun _ => false) [(0, 0), (1, 1), (2, 0), (3, 0), (4, 0), (5, 0), (6, 0), (7, 0), (8, 0), (9, 1), (10, 0), (11, 0), (12, 0)] [0, 1, 4, 5, 6, 7, 8, 9, 12, 13, 14, 15, 16, 17, 25] mixed (by kernel_rfl) fun K hK => ?_
      have hl := hl.drew
      simp only [ev, fx, ↓reduceIte, Nat.reduceEqDiff, Nat.reduceLT, Nat.reduceLeDiff, Nat.reduceAdd, Nat.reduceSub, Nat.reduceMul, Int.reduceLT, Int.reduceLE, Int.reduceToNat, BitVec.reduceOfInt, BitVec.reduceToNat, reduceCtorEq, and_self, decide_true, decide_false, Bool.not_true, Bool.not_false, ne_eq, not_true_eq_false, not_false_eq_true, true_and, and_true, and15]
      refine StopR.mk (.u32 (rotl _ 5)) (Quiet.call fn_57 rfl fun w' _ => rot32 _ 5 (by decide) w') rfl ?_
      simp only [ev, fx, ↓reduceIte, Nat.reduceEqDiff, Nat.reduceLT, Nat.reduceLeDiff, Nat.reduceAdd, Nat.reduceSub, Nat.reduceMul, Int.reduceLT, Int.reduceLE, Int.reduceToNat, BitVec.reduceOfInt, BitVec.reduceToNat, reduceCtorEq, and_self, decide_true, decide_false, Bool.not_true, Bool.not_false, ne_eq, not_true_eq_false, not_false_eq_true, true_and, and_true, and15]
      refine ⟨by omega, by omega, StopR.loadB hl 0 rfl one_50 rfl rfl (ringC_get _ (by omega)) ?_⟩
      simp only [ev, fx, ↓reduceIte, Nat.reduceEqDiff, Nat.reduceLT, Nat.reduceLeDiff, Nat.reduceAdd, Nat.reduceSub, Nat.reduceMul, Int.reduceLT, Int.reduceLE, Int.reduceToNat, BitVec.reduceOfInt, BitVec.reduceToNat, reduceCtorEq, and_self, decide_true, decide_false, Bool.not_true, Bool.not_false, ne_eq, not_true_eq_false, not_false_eq_true, true_and, and_true]
      repeat (refine And.intro (by omega) ?_)
      refine hK _ _ ?_; clear hK K
      refine EWp.regR [0, 1, 4, 5, 6, 7, 8, 9, 12, 13, 14, 15, 16, 17] fun K hK => ?_
      simp only [ev, fx, ↓reduceIte, Nat.reduceEqDiff, Nat.reduceLT, Nat.reduceLeDiff, Nat.reduceAdd, Nat.reduceSub, Nat.reduceMul, Int.reduceLT, Int.reduceLE, Int.reduceToNat, BitVec.reduceOfInt, BitVec.reduceToNat, reduceCtorEq, and_self, decide_true, decide_false, Bool.not_true, Bool.not_false, ne_eq, not_true_eq_false, not_false_eq_true, true_and, and_true]
      refine SemE.call fn_57 rfl rfl (rot32 _ 30 (by decide) _) ?_
      rintro _ _ ⟨rfl, rfl⟩
      refine ⟨_, rfl, ?_⟩
      simp only [ev, fx, ↓reduceIte, Nat.reduceEqDiff, Nat.reduceLT, Nat.reduceLeDiff, Nat.reduceAdd, Nat.reduceSub, Nat.reduceMul, Int.reduceLT, Int.reduceLE, Int.reduceToNat, BitVec.reduceOfInt, BitVec.reduceToNat, reduceCtorEq, and_self, decide_true, decide_false, Bool.not_true, Bool.not_false, ne_eq, not_true_eq_false, not_false_eq_true, true_and, and_true]
      refine hK _ _ fun S1 h1 => ?_; clear hK K
      simp only [BlockE, ThenE]
      refine ⟨f, ?_, hf, hl⟩
      rw [h1]
      simp only [sR, roundsOf, stepOf, hw, maj_eq, fOf_20 _ _ _ hlo hlt, kOf_20 hlo hlt]
    clear hl hf f
    rintro S' w' ⟨f, rfl, hf, hl⟩
    refine EWp.cut [0, 1, 4, 5, 6, 7, 8, 9, 12, 13, 14, 15, 16, 17] (fun S' w' => ∃ f, S' = sR b g (some p) bs'.length c' st (roundsOf (sched (wordAt bs')) st 60) 60 ∧ Ring (sched (wordAt bs')) 60 f ∧ HL w w' [] [(g, 84, ringC f)]) ?_ ?_
    case refine_1 =>
      refine EWp.block ?_
      refine EWp.loop [0, 1, 4, 5, 6, 7, 8, 9, 12, 13, 14, 15, 16, 17] (fun k S' w' => ∃ i f, 40 ≤ i ∧ i ≤ 60 ∧ k = 60 - i ∧ S' = sR b g (some p) bs'.length c' st (roundsOf (sched (wordAt bs')) st i) i ∧ Ring (sched (wordAt bs')) i f ∧ HL w w' [] [(g, 84, ringC f)]) (60 - 40) ?_ ?_
      case refine_1 => exact ⟨40, f, by omega, by omega, by omega, rfl, hf, hl⟩
      clear hl hf f w'
      rintro k S' w' ⟨i, f, hlo, hi, rfl, rfl, hf, hl⟩
      refine EWp.headR [0, 1, 4, 5, 6, 7, 8, 9, 12, 13, 14, 15, 16, 17, 244] fun K hK => ?_
      simp only [ev, fx, ↓reduceIte, Nat.reduceEqDiff, Nat.reduceLT, Nat.reduceLeDiff, Nat.reduceAdd, Nat.reduceSub, Nat.reduceMul, Int.reduceLT, Int.reduceLE, Int.reduceToNat, BitVec.reduceOfInt, BitVec.reduceToNat, reduceCtorEq, and_self, decide_true, decide_false, Bool.not_true, Bool.not_false, ne_eq, not_true_eq_false, not_false_eq_true, true_and, and_true, sR]
      refine hK _ _ (decide (i < 60)) rfl (fun hlt => ?_) (fun hlt => ?_) <;> clear hK K
      case refine_2 =>
        have hlt := of_decide_eq_false hlt
        obtain rfl : i = 60 := by omega
        simp only [BlockE, ThenE, ↓reduceIte]
        exact ⟨f, rfl, hf, hl⟩
      have hlt := of_decide_eq_true hlt
      refine EWp.cut [0, 1, 4, 5, 6, 7, 8, 9, 12, 13, 14, 15, 16, 17] (fun S' w' => ∃ f, S' = sR b g (some p) bs'.length c' st (roundsOf (sched (wordAt bs')) st (i + 1)) i ∧ Ring (sched (wordAt bs')) (i + 1) f ∧ HL w w' [] [(g, 84, ringC f)]) ?_ ?_
      case refine_2 =>
        clear hl hf f
        rintro S' w' ⟨f, rfl, hf, hl⟩
        refine EWp.regR [0, 1, 4, 5, 6, 7, 8, 9, 12, 13, 14, 15, 16, 17] fun K hK => ?_
        simp only [ev, fx, ↓reduceIte, Nat.reduceEqDiff, Nat.reduceLT, Nat.reduceLeDiff, Nat.reduceAdd, Nat.reduceSub, Nat.reduceMul, Int.reduceLT, Int.reduceLE, Int.reduceToNat, BitVec.reduceOfInt, BitVec.reduceToNat, reduceCtorEq, and_self, decide_true, decide_false, Bool.not_true, Bool.not_false, ne_eq, not_true_eq_false, not_false_eq_true, true_and, and_true, sR]
        exact ⟨by omega, hK _ _ fun S1 h1 => ⟨60 - i - 1, by omega, i + 1, f, by omega, by omega, by omega, h1, hf, hl⟩⟩
      refine EWp.block ?_
      refine EWp.seqO (fun _ => false) [(0, 0), (1, 0), (2, 0), (3, 0), (4, 1), (5, 0), (6, 0), (7, 0), (8, 0), (9, 1), (10, 0), (11, 0), (12, 0), (13, 0), (14, 0), (15, 1), (16, 0), (17, 0), (18, 0), (19, 0), (20, 1), (21, 0), (22, 0)] [0, 1, 4, 5, 6, 7, 8, 9, 12, 13, 14, 15, 16, 17, 26] mixed (by kernel_rfl) fun K hK => ?_
      have hl := hl.drew
      simp only [ev, fx, ↓reduceIte, Nat.reduceEqDiff, Nat.reduceLT, Nat.reduceLeDiff, Nat.reduceAdd, Nat.reduceSub, Nat.reduceMul, Int.reduceLT, Int.reduceLE, Int.reduceToNat, BitVec.reduceOfInt, BitVec.reduceToNat, reduceCtorEq, and_self, decide_true, decide_false, Bool.not_true, Bool.not_false, ne_eq, not_true_eq_false, not_false_eq_true, true_and, and_true, and15]
      refine ⟨by omega, by omega, by omega, StopR.loadB hl 0 rfl one_50 rfl rfl (ringC_get _ (by omega)) ?_⟩
      simp only [ev, fx, ↓reduceIte, Nat.reduceEqDiff, Nat.reduceLT, Nat.reduceLeDiff, Nat.reduceAdd, Nat.reduceSub, Nat.reduceMul, Int.reduceLT, Int.reduceLE, Int.reduceToNat, BitVec.reduceOfInt, BitVec.reduceToNat, reduceCtorEq, and_self, decide_true, decide_false, Bool.not_true, Bool.not_false, ne_eq, not_true_eq_false, not_false_eq_true, true_and, and_true, and15]
      refine ⟨by omega, by omega, by omega, StopR.loadB hl 0 rfl one_50 rfl rfl (ringC_get _ (by omega)) ?_⟩
      simp only [ev, fx, ↓reduceIte, Nat.reduceEqDiff, Nat.reduceLT, Nat.reduceLeDiff, Nat.reduceAdd, Nat.reduceSub, Nat.reduceMul, Int.reduceLT, Int.reduceLE, Int.reduceToNat, BitVec.reduceOfInt, BitVec.reduceToNat, reduceCtorEq, and_self, decide_true, decide_false, Bool.not_true, Bool.not_false, ne_eq, not_true_eq_false, not_false_eq_true, true_and, and_true, and15]
      refine ⟨by omega, by omega, by omega, StopR.loadB hl 0 rfl one_50 rfl rfl (ringC_get _ (by omega)) ?_⟩
      simp only [ev, fx, ↓reduceIte, Nat.reduceEqDiff, Nat.reduceLT, Nat.reduceLeDiff, Nat.reduceAdd, Nat.reduceSub, Nat.reduceMul, Int.reduceLT, Int.reduceLE, Int.reduceToNat, BitVec.reduceOfInt, BitVec.reduceToNat, reduceCtorEq, and_self, decide_true, decide_false, Bool.not_true, Bool.not_false, ne_eq, not_true_eq_false, not_false_eq_true, true_and, and_true, and15]
      refine ⟨by omega, by omega, StopR.loadB hl 0 rfl one_50 rfl rfl (ringC_get _ (by omega)) ?_⟩
      simp only [ev, fx, ↓reduceIte, Nat.reduceEqDiff, Nat.reduceLT, Nat.reduceLeDiff, Nat.reduceAdd, Nat.reduceSub, Nat.reduceMul, Int.reduceLT, Int.reduceLE, Int.reduceToNat, BitVec.reduceOfInt, BitVec.reduceToNat, reduceCtorEq, and_self, decide_true, decide_false, Bool.not_true, Bool.not_false, ne_eq, not_true_eq_false, not_false_eq_true, true_and, and_true]
      repeat (refine And.intro (by omega) ?_)
      refine hK _ _ ?_; clear hK K
      refine EWp.seqR [0, 1, 4, 5, 6, 7, 8, 9, 12, 13, 14, 15, 16, 17] fun K hK => ?_
      simp only [ev, fx, ↓reduceIte, Nat.reduceEqDiff, Nat.reduceLT, Nat.reduceLeDiff, Nat.reduceAdd, Nat.reduceSub, Nat.reduceMul, Int.reduceLT, Int.reduceLE, Int.reduceToNat, BitVec.reduceOfInt, BitVec.reduceToNat, reduceCtorEq, and_self, decide_true, decide_false, Bool.not_true, Bool.not_false, ne_eq, not_true_eq_false, not_false_eq_true, true_and, and_true]
      simp only [and15]
      refine ⟨by omega, SemE.call fn_57 rfl rfl (rot32 _ 1 (by decide) _) ?_⟩
      rintro _ _ ⟨rfl, rfl⟩
      refine ⟨_, rfl, ?_⟩
      simp only [ev, fx, ↓reduceIte, Nat.reduceEqDiff, Nat.reduceLT, Nat.reduceLeDiff, Nat.reduceAdd, Nat.reduceSub, Nat.reduceMul, Int.reduceLT, Int.reduceLE, Int.reduceToNat, BitVec.reduceOfInt, BitVec.reduceToNat, reduceCtorEq, and_self, decide_true, decide_false, Bool.not_true, Bool.not_false, ne_eq, not_true_eq_false, not_false_eq_true, true_and, and_true]
      rw [ring_word hf (by omega)]
      refine ⟨by omega, SemE.storeB hl 0 rfl rfl one_50 rfl rfl (by rw [ringC_len]; omega) fun w' hl => ?_⟩
      have hf := hf.next _ rfl
      simp only [ringC_set, List.set_cons_zero] at hl
      have hw : (fun j => if j = i % 16 then sched (wordAt bs') i else f j) (i % 16) = sched (wordAt bs') i := if_pos rfl
      generalize (fun j => if j = i % 16 then sched (wordAt bs') i else f j) = f at hf hl hw
      simp only [ev, fx, ↓reduceIte, Nat.reduceEqDiff, Nat.reduceLT, Nat.reduceLeDiff, Nat.reduceAdd, Nat.reduceSub, Nat.reduceMul, Int.reduceLT, Int.reduceLE, Int.reduceToNat, BitVec.reduceOfInt, BitVec.reduceToNat, reduceCtorEq, and_self, decide_true, decide_false, Bool.not_true, Bool.not_false, ne_eq, not_true_eq_false, not_false_eq_true, true_and, and_true]
      repeat (refine And.intro (by omega) ?_)
      refine hK _ _ ?_; clear hK K
      refine EWp.seqR [0, 1, 4, 5, 6, 7, 8, 9, 12, 13, 14, 15, 16, 17, 27] fun K hK => ?_
      simp only [ev, fx, ↓reduceIte, Nat.reduceEqDiff, Nat.reduceLT, Nat.reduceLeDiff, Nat.reduceAdd, Nat.reduceSub, Nat.reduceMul, Int.reduceLT, Int.reduceLE, Int.reduceToNat, BitVec.reduceOfInt, BitVec.reduceToNat, reduceCtorEq, and_self, decide_true, decide_false, Bool.not_true, Bool.not_false, ne_eq, not_true_eq_false, not_false_eq_true, true_and, and_true]
      repeat (refine And.intro (by omega) ?_)
      refine hK _ _ ?_; clear hK K
      refine EWp.seqO (fun _ => false) [(0, 0), (1, 1), (2, 0), (3, 0), (4, 0), (5, 0), (6, 0), (7, 0), (8, 0), (9, 1), (10, 0), (11, 0), (12, 0)] [0, 1, 4, 5, 6, 7, 8, 9, 12, 13, 14, 15, 16, 17, 28] mixed (by kernel_rfl) fun K hK => ?_
      have hl := hl.drew
      simp only [ev, fx, ↓reduceIte, Nat.reduceEqDiff, Nat.reduceLT, Nat.reduceLeDiff, Nat.reduceAdd, Nat.reduceSub, Nat.reduceMul, Int.reduceLT, Int.reduceLE, Int.reduceToNat, BitVec.reduceOfInt, BitVec.reduceToNat, reduceCtorEq, and_self, decide_true, decide_false, Bool.not_true, Bool.not_false, ne_eq, not_true_eq_false, not_false_eq_true, true_and, and_true, and15]
      refine StopR.mk (.u32 (rotl _ 5)) (Quiet.call fn_57 rfl fun w' _ => rot32 _ 5 (by decide) w') rfl ?_
      simp only [ev, fx, ↓reduceIte, Nat.reduceEqDiff, Nat.reduceLT, Nat.reduceLeDiff, Nat.reduceAdd, Nat.reduceSub, Nat.reduceMul, Int.reduceLT, Int.reduceLE, Int.reduceToNat, BitVec.reduceOfInt, BitVec.reduceToNat, reduceCtorEq, and_self, decide_true, decide_false, Bool.not_true, Bool.not_false, ne_eq, not_true_eq_false, not_false_eq_true, true_and, and_true, and15]
      refine ⟨by omega, by omega, StopR.loadB hl 0 rfl one_50 rfl rfl (ringC_get _ (by omega)) ?_⟩
      simp only [ev, fx, ↓reduceIte, Nat.reduceEqDiff, Nat.reduceLT, Nat.reduceLeDiff, Nat.reduceAdd, Nat.reduceSub, Nat.reduceMul, Int.reduceLT, Int.reduceLE, Int.reduceToNat, BitVec.reduceOfInt, BitVec.reduceToNat, reduceCtorEq, and_self, decide_true, decide_false, Bool.not_true, Bool.not_false, ne_eq, not_true_eq_false, not_false_eq_true, true_and, and_true]
      repeat (refine And.intro (by omega) ?_)
      refine hK _ _ ?_; clear hK K
      refine EWp.regR [0, 1, 4, 5, 6, 7, 8, 9, 12, 13, 14, 15, 16, 17] fun K hK => ?_
      simp only [ev, fx, ↓reduceIte, Nat.reduceEqDiff, Nat.reduceLT, Nat.reduceLeDiff, Nat.reduceAdd, Nat.reduceSub, Nat.reduceMul, Int.reduceLT, Int.reduceLE, Int.reduceToNat, BitVec.reduceOfInt, BitVec.reduceToNat, reduceCtorEq, and_self, decide_true, decide_false, Bool.not_true, Bool.not_false, ne_eq, not_true_eq_false, not_false_eq_true, true_and, and_true]
      refine SemE.call fn_57 rfl rfl (rot32 _ 30 (by decide) _) ?_
      rintro _ _ ⟨rfl, rfl⟩
      refine ⟨_, rfl, ?_⟩
      simp only [ev, fx, ↓reduceIte, Nat.reduceEqDiff, Nat.reduceLT, Nat.reduceLeDiff, Nat.reduceAdd, Nat.reduceSub, Nat.reduceMul, Int.reduceLT, Int.reduceLE, Int.reduceToNat, BitVec.reduceOfInt, BitVec.reduceToNat, reduceCtorEq, and_self, decide_true, decide_false, Bool.not_true, Bool.not_false, ne_eq, not_true_eq_false, not_false_eq_true, true_and, and_true]
      refine hK _ _ fun S1 h1 => ?_; clear hK K
      simp only [BlockE, ThenE]
      refine ⟨f, ?_, hf, hl⟩
      rw [h1]
      simp only [sR, roundsOf, stepOf, hw, maj_eq, fOf_40 _ _ _ hlo hlt, kOf_40 hlo hlt]
    clear hl hf f
    rintro S' w' ⟨f, rfl, hf, hl⟩
    refine EWp.cut [0, 1, 4, 5, 6, 7, 8, 9, 12, 13, 14, 15, 16, 17] (fun S' w' => ∃ f, S' = sR b g (some p) bs'.length c' st (roundsOf (sched (wordAt bs')) st 80) 80 ∧ Ring (sched (wordAt bs')) 80 f ∧ HL w w' [] [(g, 84, ringC f)]) ?_ ?_
    case refine_1 =>
      refine EWp.block ?_
      refine EWp.loop [0, 1, 4, 5, 6, 7, 8, 9, 12, 13, 14, 15, 16, 17] (fun k S' w' => ∃ i f, 60 ≤ i ∧ i ≤ 80 ∧ k = 80 - i ∧ S' = sR b g (some p) bs'.length c' st (roundsOf (sched (wordAt bs')) st i) i ∧ Ring (sched (wordAt bs')) i f ∧ HL w w' [] [(g, 84, ringC f)]) (80 - 60) ?_ ?_
      case refine_1 => exact ⟨60, f, by omega, by omega, by omega, rfl, hf, hl⟩
      clear hl hf f w'
      rintro k S' w' ⟨i, f, hlo, hi, rfl, rfl, hf, hl⟩
      refine EWp.headR [0, 1, 4, 5, 6, 7, 8, 9, 12, 13, 14, 15, 16, 17, 302] fun K hK => ?_
      simp only [ev, fx, ↓reduceIte, Nat.reduceEqDiff, Nat.reduceLT, Nat.reduceLeDiff, Nat.reduceAdd, Nat.reduceSub, Nat.reduceMul, Int.reduceLT, Int.reduceLE, Int.reduceToNat, BitVec.reduceOfInt, BitVec.reduceToNat, reduceCtorEq, and_self, decide_true, decide_false, Bool.not_true, Bool.not_false, ne_eq, not_true_eq_false, not_false_eq_true, true_and, and_true, sR]
      refine hK _ _ (decide (i < 80)) rfl (fun hlt => ?_) (fun hlt => ?_) <;> clear hK K
      case refine_2 =>
        have hlt := of_decide_eq_false hlt
        obtain rfl : i = 80 := by omega
        simp only [BlockE, ThenE, ↓reduceIte]
        exact ⟨f, rfl, hf, hl⟩
      have hlt := of_decide_eq_true hlt
      refine EWp.cut [0, 1, 4, 5, 6, 7, 8, 9, 12, 13, 14, 15, 16, 17] (fun S' w' => ∃ f, S' = sR b g (some p) bs'.length c' st (roundsOf (sched (wordAt bs')) st (i + 1)) i ∧ Ring (sched (wordAt bs')) (i + 1) f ∧ HL w w' [] [(g, 84, ringC f)]) ?_ ?_
      case refine_2 =>
        clear hl hf f
        rintro S' w' ⟨f, rfl, hf, hl⟩
        refine EWp.regR [0, 1, 4, 5, 6, 7, 8, 9, 12, 13, 14, 15, 16, 17] fun K hK => ?_
        simp only [ev, fx, ↓reduceIte, Nat.reduceEqDiff, Nat.reduceLT, Nat.reduceLeDiff, Nat.reduceAdd, Nat.reduceSub, Nat.reduceMul, Int.reduceLT, Int.reduceLE, Int.reduceToNat, BitVec.reduceOfInt, BitVec.reduceToNat, reduceCtorEq, and_self, decide_true, decide_false, Bool.not_true, Bool.not_false, ne_eq, not_true_eq_false, not_false_eq_true, true_and, and_true, sR]
        exact ⟨by omega, hK _ _ fun S1 h1 => ⟨80 - i - 1, by omega, i + 1, f, by omega, by omega, by omega, h1, hf, hl⟩⟩
      refine EWp.block ?_
      refine EWp.seqO (fun _ => false) [(0, 0), (1, 0), (2, 0), (3, 0), (4, 1), (5, 0), (6, 0), (7, 0), (8, 0), (9, 1), (10, 0), (11, 0), (12, 0), (13, 0), (14, 0), (15, 1), (16, 0), (17, 0), (18, 0), (19, 0), (20, 1), (21, 0), (22, 0)] [0, 1, 4, 5, 6, 7, 8, 9, 12, 13, 14, 15, 16, 17, 29] mixed (by kernel_rfl) fun K hK => ?_
      have hl := hl.drew
      simp only [ev, fx, ↓reduceIte, Nat.reduceEqDiff, Nat.reduceLT, Nat.reduceLeDiff, Nat.reduceAdd, Nat.reduceSub, Nat.reduceMul, Int.reduceLT, Int.reduceLE, Int.reduceToNat, BitVec.reduceOfInt, BitVec.reduceToNat, reduceCtorEq, and_self, decide_true, decide_false, Bool.not_true, Bool.not_false, ne_eq, not_true_eq_false, not_false_eq_true, true_and, and_true, and15]
      refine ⟨by omega, by omega, by omega, StopR.loadB hl 0 rfl one_50 rfl rfl (ringC_get _ (by omega)) ?_⟩
      simp only [ev, fx, ↓reduceIte, Nat.reduceEqDiff, Nat.reduceLT, Nat.reduceLeDiff, Nat.reduceAdd, Nat.reduceSub, Nat.reduceMul, Int.reduceLT, Int.reduceLE, Int.reduceToNat, BitVec.reduceOfInt, BitVec.reduceToNat, reduceCtorEq, and_self, decide_true, decide_false, Bool.not_true, Bool.not_false, ne_eq, not_true_eq_false, not_false_eq_true, true_and, and_true, and15]
      refine ⟨by omega, by omega, by omega, StopR.loadB hl 0 rfl one_50 rfl rfl (ringC_get _ (by omega)) ?_⟩
      simp only [ev, fx, ↓reduceIte, Nat.reduceEqDiff, Nat.reduceLT, Nat.reduceLeDiff, Nat.reduceAdd, Nat.reduceSub, Nat.reduceMul, Int.reduceLT, Int.reduceLE, Int.reduceToNat, BitVec.reduceOfInt, BitVec.reduceToNat, reduceCtorEq, and_self, decide_true, decide_false, Bool.not_true, Bool.not_false, ne_eq, not_true_eq_false, not_false_eq_true, true_and, and_true, and15]
      refine ⟨by omega, by omega, by omega, StopR.loadB hl 0 rfl one_50 rfl rfl (ringC_get _ (by omega)) ?_⟩
      simp only [ev, fx, ↓reduceIte, Nat.reduceEqDiff, Nat.reduceLT, Nat.reduceLeDiff, Nat.reduceAdd, Nat.reduceSub, Nat.reduceMul, Int.reduceLT, Int.reduceLE, Int.reduceToNat, BitVec.reduceOfInt, BitVec.reduceToNat, reduceCtorEq, and_self, decide_true, decide_false, Bool.not_true, Bool.not_false, ne_eq, not_true_eq_false, not_false_eq_true, true_and, and_true, and15]
      refine ⟨by omega, by omega, StopR.loadB hl 0 rfl one_50 rfl rfl (ringC_get _ (by omega)) ?_⟩
      simp only [ev, fx, ↓reduceIte, Nat.reduceEqDiff, Nat.reduceLT, Nat.reduceLeDiff, Nat.reduceAdd, Nat.reduceSub, Nat.reduceMul, Int.reduceLT, Int.reduceLE, Int.reduceToNat, BitVec.reduceOfInt, BitVec.reduceToNat, reduceCtorEq, and_self, decide_true, decide_false, Bool.not_true, Bool.not_false, ne_eq, not_true_eq_false, not_false_eq_true, true_and, and_true]
      repeat (refine And.intro (by omega) ?_)
      refine hK _ _ ?_; clear hK K
      refine EWp.seqR [0, 1, 4, 5, 6, 7, 8, 9, 12, 13, 14, 15, 16, 17] fun K hK => ?_
      simp only [ev, fx, ↓reduceIte, Nat.reduceEqDiff, Nat.reduceLT, Nat.reduceLeDiff, Nat.reduceAdd, Nat.reduceSub, Nat.reduceMul, Int.reduceLT, Int.reduceLE, Int.reduceToNat, BitVec.reduceOfInt, BitVec.reduceToNat, reduceCtorEq, and_self, decide_true, decide_false, Bool.not_true, Bool.not_false, ne_eq, not_true_eq_false, not_false_eq_true, true_and, and_true]
      simp only [and15]
      refine ⟨by omega, SemE.call fn_57 rfl rfl (rot32 _ 1 (by decide) _) ?_⟩
      rintro _ _ ⟨rfl, rfl⟩
      refine ⟨_, rfl, ?_⟩
      simp only [ev, fx, ↓reduceIte, Nat.reduceEqDiff, Nat.reduceLT, Nat.reduceLeDiff, Nat.reduceAdd, Nat.reduceSub, Nat.reduceMul, Int.reduceLT, Int.reduceLE, Int.reduceToNat, BitVec.reduceOfInt, BitVec.reduceToNat, reduceCtorEq, and_self, decide_true, decide_false, Bool.not_true, Bool.not_false, ne_eq, not_true_eq_false, not_false_eq_true, true_and, and_true]
      rw [ring_word hf (by omega)]
      refine ⟨by omega, SemE.storeB hl 0 rfl rfl one_50 rfl rfl (by rw [ringC_len]; omega) fun w' hl => ?_⟩
      have hf := hf.next _ rfl
      simp only [ringC_set, List.set_cons_zero] at hl
      have hw : (fun j => if j = i % 16 then sched (wordAt bs') i else f j) (i % 16) = sched (wordAt bs') i := if_pos rfl
      generalize (fun j => if j = i % 16 then sched (wordAt bs') i else f j) = f at hf hl hw
      simp only [ev, fx, ↓reduceIte, Nat.reduceEqDiff, Nat.reduceLT, Nat.reduceLeDiff, Nat.reduceAdd, Nat.reduceSub, Nat.reduceMul, Int.reduceLT, Int.reduceLE, Int.reduceToNat, BitVec.reduceOfInt, BitVec.reduceToNat, reduceCtorEq, and_self, decide_true, decide_false, Bool.not_true, Bool.not_false, ne_eq, not_true_eq_false, not_false_eq_true, true_and, and_true]
      repeat (refine And.intro (by omega) ?_)
      refine hK _ _ ?_; clear hK K
      refine EWp.seqR [0, 1, 4, 5, 6, 7, 8, 9, 12, 13, 14, 15, 16, 17, 30] fun K hK => ?_
      simp only [ev, fx, ↓reduceIte, Nat.reduceEqDiff, Nat.reduceLT, Nat.reduceLeDiff, Nat.reduceAdd, Nat.reduceSub, Nat.reduceMul, Int.reduceLT, Int.reduceLE, Int.reduceToNat, BitVec.reduceOfInt, BitVec.reduceToNat, reduceCtorEq, and_self, decide_true, decide_false, Bool.not_true, Bool.not_false, ne_eq, not_true_eq_false, not_false_eq_true, true_and, and_true]
      repeat (refine And.intro (by omega) ?_)
      refine hK _ _ ?_; clear hK K
      refine EWp.seqO (fun _ => false) [(0, 0), (1, 1), (2, 0), (3, 0), (4, 0), (5, 0), (6, 0), (7, 0), (8, 0), (9, 1), (10, 0), (11, 0), (12, 0)] [0, 1, 4, 5, 6, 7, 8, 9, 12, 13, 14, 15, 16, 17, 31] mixed (by kernel_rfl) fun K hK => ?_
      have hl := hl.drew
      simp only [ev, fx, ↓reduceIte, Nat.reduceEqDiff, Nat.reduceLT, Nat.reduceLeDiff, Nat.reduceAdd, Nat.reduceSub, Nat.reduceMul, Int.reduceLT, Int.reduceLE, Int.reduceToNat, BitVec.reduceOfInt, BitVec.reduceToNat, reduceCtorEq, and_self, decide_true, decide_false, Bool.not_true, Bool.not_false, ne_eq, not_true_eq_false, not_false_eq_true, true_and, and_true, and15]
      refine StopR.mk (.u32 (rotl _ 5)) (Quiet.call fn_57 rfl fun w' _ => rot32 _ 5 (by decide) w') rfl ?_
      simp only [ev, fx, ↓reduceIte, Nat.reduceEqDiff, Nat.reduceLT, Nat.reduceLeDiff, Nat.reduceAdd, Nat.reduceSub, Nat.reduceMul, Int.reduceLT, Int.reduceLE, Int.reduceToNat, BitVec.reduceOfInt, BitVec.reduceToNat, reduceCtorEq, and_self, decide_true, decide_false, Bool.not_true, Bool.not_false, ne_eq, not_true_eq_false, not_false_eq_true, true_and, and_true, and15]
      refine ⟨by omega, by omega, StopR.loadB hl 0 rfl one_50 rfl rfl (ringC_get _ (by omega)) ?_⟩
      simp only [ev, fx, ↓reduceIte, Nat.reduceEqDiff, Nat.reduceLT, Nat.reduceLeDiff, Nat.reduceAdd, Nat.reduceSub, Nat.reduceMul, Int.reduceLT, Int.reduceLE, Int.reduceToNat, BitVec.reduceOfInt, BitVec.reduceToNat, reduceCtorEq, and_self, decide_true, decide_false, Bool.not_true, Bool.not_false, ne_eq, not_true_eq_false, not_false_eq_true, true_and, and_true]
      repeat (refine And.intro (by omega) ?_)
      refine hK _ _ ?_; clear hK K
      refine EWp.regR [0, 1, 4, 5, 6, 7, 8, 9, 12, 13, 14, 15, 16, 17] fun K hK => ?_
      simp only [ev, fx, ↓reduceIte, Nat.reduceEqDiff, Nat.reduceLT, Nat.reduceLeDiff, Nat.reduceAdd, Nat.reduceSub, Nat.reduceMul, Int.reduceLT, Int.reduceLE, Int.reduceToNat, BitVec.reduceOfInt, BitVec.reduceToNat, reduceCtorEq, and_self, decide_true, decide_false, Bool.not_true, Bool.not_false, ne_eq, not_true_eq_false, not_false_eq_true, true_and, and_true]
      refine SemE.call fn_57 rfl rfl (rot32 _ 30 (by decide) _) ?_
      rintro _ _ ⟨rfl, rfl⟩
      refine ⟨_, rfl, ?_⟩
      simp only [ev, fx, ↓reduceIte, Nat.reduceEqDiff, Nat.reduceLT, Nat.reduceLeDiff, Nat.reduceAdd, Nat.reduceSub, Nat.reduceMul, Int.reduceLT, Int.reduceLE, Int.reduceToNat, BitVec.reduceOfInt, BitVec.reduceToNat, reduceCtorEq, and_self, decide_true, decide_false, Bool.not_true, Bool.not_false, ne_eq, not_true_eq_false, not_false_eq_true, true_and, and_true]
      refine hK _ _ fun S1 h1 => ?_; clear hK K
      simp only [BlockE, ThenE]
      refine ⟨f, ?_, hf, hl⟩
      rw [h1]
      simp only [sR, roundsOf, stepOf, hw, maj_eq, fOf_60 _ _ _ hlo hlt, kOf_60 hlo hlt]
    clear hl hf f
    rintro S' w' ⟨f, rfl, hf, hl⟩
    refine EWp.seqR [0, 1, 4, 5, 6, 7, 8, 9, 12, 13, 14, 15, 16] fun K hK => ?_
    simp only [ev, fx, ↓reduceIte, Nat.reduceEqDiff, Nat.reduceLT, Nat.reduceLeDiff, Nat.reduceAdd, Nat.reduceSub, Nat.reduceMul, Int.reduceLT, Int.reduceLE, Int.reduceToNat, BitVec.reduceOfInt, BitVec.reduceToNat, reduceCtorEq, and_self, decide_true, decide_false, Bool.not_true, Bool.not_false, ne_eq, not_true_eq_false, not_false_eq_true, true_and, and_true]
    simp only [ev, fx, ↓reduceIte, Nat.reduceEqDiff, Nat.reduceLT, Nat.reduceLeDiff, Nat.reduceAdd, Nat.reduceSub, Nat.reduceMul, Int.reduceLT, Int.reduceLE, Int.reduceToNat, BitVec.reduceOfInt, BitVec.reduceToNat, reduceCtorEq, and_self, decide_true, decide_false, Bool.not_true, Bool.not_false, ne_eq, not_true_eq_false, not_false_eq_true, true_and, and_true, sR]
    repeat (refine And.intro (by omega) ?_)
    refine hK _ _ ?_; clear hK K
    refine EWp.seqR [0, 1, 4, 5, 6, 7, 8, 9, 12, 13, 14, 15, 16] fun K hK => ?_
    simp only [ev, fx, ↓reduceIte, Nat.reduceEqDiff, Nat.reduceLT, Nat.reduceLeDiff, Nat.reduceAdd, Nat.reduceSub, Nat.reduceMul, Int.reduceLT, Int.reduceLE, Int.reduceToNat, BitVec.reduceOfInt, BitVec.reduceToNat, reduceCtorEq, and_self, decide_true, decide_false, Bool.not_true, Bool.not_false, ne_eq, not_true_eq_false, not_false_eq_true, true_and, and_true]
    repeat (refine And.intro (by omega) ?_)
    refine hK _ _ ?_; clear hK K
    refine EWp.seqR [0, 1, 4, 5, 6, 7, 8, 9, 12, 13, 14, 15, 16] fun K hK => ?_
    simp only [ev, fx, ↓reduceIte, Nat.reduceEqDiff, Nat.reduceLT, Nat.reduceLeDiff, Nat.reduceAdd, Nat.reduceSub, Nat.reduceMul, Int.reduceLT, Int.reduceLE, Int.reduceToNat, BitVec.reduceOfInt, BitVec.reduceToNat, reduceCtorEq, and_self, decide_true, decide_false, Bool.not_true, Bool.not_false, ne_eq, not_true_eq_false, not_false_eq_true, true_and, and_true]
    repeat (refine And.intro (by omega) ?_)
    refine hK _ _ ?_; clear hK K
    refine EWp.seqR [0, 1, 4, 5, 6, 7, 8, 9, 12, 13, 14, 15, 16] fun K hK => ?_
    simp only [ev, fx, ↓reduceIte, Nat.reduceEqDiff, Nat.reduceLT, Nat.reduceLeDiff, Nat.reduceAdd, Nat.reduceSub, Nat.reduceMul, Int.reduceLT, Int.reduceLE, Int.reduceToNat, BitVec.reduceOfInt, BitVec.reduceToNat, reduceCtorEq, and_self, decide_true, decide_false, Bool.not_true, Bool.not_false, ne_eq, not_true_eq_false, not_false_eq_true, true_and, and_true]
    repeat (refine And.intro (by omega) ?_)
    refine hK _ _ ?_; clear hK K
    refine EWp.seqR [0, 1, 4, 5, 6, 7, 8, 9, 12, 13, 14, 15, 16] fun K hK => ?_
    simp only [ev, fx, ↓reduceIte, Nat.reduceEqDiff, Nat.reduceLT, Nat.reduceLeDiff, Nat.reduceAdd, Nat.reduceSub, Nat.reduceMul, Int.reduceLT, Int.reduceLE, Int.reduceToNat, BitVec.reduceOfInt, BitVec.reduceToNat, reduceCtorEq, and_self, decide_true, decide_false, Bool.not_true, Bool.not_false, ne_eq, not_true_eq_false, not_false_eq_true, true_and, and_true]
    repeat (refine And.intro (by omega) ?_)
    refine hK _ _ ?_; clear hK K
    refine EWp.regR [0, 1, 4, 5, 6, 7, 8, 9] fun K hK => ?_
    simp only [ev, fx, ↓reduceIte, Nat.reduceEqDiff, Nat.reduceLT, Nat.reduceLeDiff, Nat.reduceAdd, Nat.reduceSub, Nat.reduceMul, Int.reduceLT, Int.reduceLE, Int.reduceToNat, BitVec.reduceOfInt, BitVec.reduceToNat, reduceCtorEq, and_self, decide_true, decide_false, Bool.not_true, Bool.not_false, ne_eq, not_true_eq_false, not_false_eq_true, true_and, and_true]
    refine ⟨by omega, hK _ _ fun S1 h1 => ?_⟩; clear hK K
    simp only [BlockE, ThenE]
    refine ⟨bs'.length - 64, by omega, blk st bs', bs'.drop 64, _, c' - 64, f, by simp, by rw [← hblk, blocks_hi st hge], ?_, by rw [List.map_drop]; exact hrd.drop 64 c' (by simpa using hc'), by simp; omega, by simp; omega, hl⟩
    rw [h1]
    simp [sB, blk, addS]
  · intro hlt
    simp only [BlockE, ThenE, ↓reduceIte]
    have hlt := of_decide_eq_false hlt
    exact ⟨a', bs'.length, c', f, by rw [← hblk, blocks_lo st (by omega)]; rfl, hl⟩
end Go.Proofs.Ytikejalfiaindaa
