/- stepsOf: the steps, with their fronts and texts. -/
import Derived.Test.YtggbaffkjfofhaaDoorSg1
import Derived.Test.YtggbaffkjfofhaaDoorLs3
import Derived.Test.YtggbaffkjfofhaaDoorMem7
import Derived.Test.YtggbaffkjfofhaaDoorKp3
set_option linter.unusedVariables false
set_option linter.unusedSimpArgs false
namespace Go.Proofs.YtggbaffkjfofhaaDoor
open Go

/-- Slices that read as texts, each foreign or in a known block. -/
def Lst (w : World) (H : List Blk) (vs : List SV) (ts : List (List B8)) : Prop := vs.length = ts.length ∧ ∀ (j : Nat) (v : SV) (t : List B8), vs[j]? = some v → ts[j]? = some t → Elem w H v t
theorem Lst.nil (w : World) (H : List Blk) : Lst w H [] [] := ⟨rfl, fun j v t h _ => by simp at h⟩
theorem Lst.snoc {w : World} {H : List Blk} {vs : List SV} {ts : List (List B8)} {v : SV} {t : List B8} (h : Lst w H vs ts) (hv : Elem w H v t) : Lst w H (vs ++ [v]) (ts ++ [t]) := by
  obtain ⟨h1, h2⟩ := h
  refine ⟨by simp [h1], fun j u s hj hs => ?_⟩
  by_cases hlt : j < vs.length
  · rw [List.getElem?_append_left hlt] at hj
    rw [List.getElem?_append_left (by omega)] at hs
    exact h2 j u s hj hs
  · rw [List.getElem?_append_right (by omega)] at hj
    rw [List.getElem?_append_right (by omega)] at hs
    by_cases h0 : j = vs.length
    · subst h0
      rw [Nat.sub_self] at hj
      rw [h1, Nat.sub_self] at hs
      simp at hj hs
      subst hj; subst hs
      exact hv
    · rw [List.getElem?_eq_none (by simp; omega)] at hj
      cases hj
theorem Lst.mono {w : World} {H H' : List Blk} {vs : List SV} {ts : List (List B8)} (h : Lst w H vs ts) (hs : ∀ y ∈ H, y ∈ H') : Lst w H' vs ts := ⟨h.1, fun j v t hv ht => (h.2 j v t hv ht).mono hs⟩
theorem Lst.txs {w0 w : World} {H H' : List Blk} {vs : List SV} {ts : List (List B8)} {B : List Blk} {v : SV} {n : Nat} (h : Lst w0 H vs ts) (ho : Own 23 1 v n vs B) (hl : HL w0 w [] (B ++ H')) (hh : HL w0 w [] H) : Txs w v ts := by
  obtain ⟨a, c, rfl, hc, ha⟩ := ho.shape
  have hn : vs.length = n := by have := ho.1; simpa using this
  have h1 := h.1
  exact Txs.mk ⟨vs, h1, ho.rd hl rfl, fun i u t hu ht => (h.2 i u t hu ht).txt hh⟩ (by omega) hc ha

/-- A slice that reads as steps. -/
def StR (w : World) (v : SV) (St : List (Nat × List B8)) : Prop := ∃ a c es, v = .sl a St.length c ∧ St.length ≤ c ∧ (a = none → St.length = 0) ∧ es.length = St.length ∧
  Rd w a ((St.zip es).flatMap fun x => [SV.nat x.1.1, x.2]) ∧ ∀ (j : Nat) (u : SV) (s : Nat × List B8), es[j]? = some u → St[j]? = some s → Txt w u s.2
theorem StR.grow {w w' : World} {v : SV} {St : List (Nat × List B8)} (h : StR w v St) (hg : Grow w w') : StR w' v St := by
  obtain ⟨a, c, es, h1, h2, h3, h4, h5, h6⟩ := h
  exact ⟨a, c, es, h1, h2, h3, h4, h5.grow hg, fun j u s hu hs => (h6 j u s hu hs).grow hg⟩

theorem stE_snoc {w : World} {es : List SV} {St : List (Nat × List B8)} {v : SV} {x : Nat × List B8} (hn : es.length = St.length) (h : ∀ (j : Nat) (u : SV) (s : Nat × List B8), es[j]? = some u → St[j]? = some s → Txt w u s.2) (hv : Txt w v x.2) :
    ∀ (j : Nat) (u : SV) (s : Nat × List B8), (es ++ [v])[j]? = some u → (St ++ [x])[j]? = some s → Txt w u s.2 := fun j u s hu hs => by
  by_cases hlt : j < es.length
  · rw [List.getElem?_append_left hlt] at hu
    rw [List.getElem?_append_left (by omega)] at hs
    exact h j u s hu hs
  · rw [List.getElem?_append_right (by omega)] at hu
    rw [List.getElem?_append_right (by omega)] at hs
    by_cases h0 : j = es.length
    · subst h0
      rw [Nat.sub_self] at hu
      rw [hn, Nat.sub_self] at hs
      simp at hu hs
      subst hu; subst hs
      exact hv
    · rw [List.getElem?_eq_none (by simp; omega)] at hu
      cases hu

/-- What stands while the steps are laid. -/
def SInv (w w' : World) (St Sb : List (Nat × List B8)) (v7 v8 v9 v10 : SV) : Prop :=
  ∃ (es fs ts : List SV) (D7 D8 D9 D10 H : List Blk), es.length = St.length ∧ (∀ (j : Nat) (u : SV) (s : Nat × List B8), es[j]? = some u → St[j]? = some s → Txt w u s.2) ∧
    Own 69 2 v7 St.length ((St.zip es).flatMap fun x => [SV.nat x.1.1, x.2]) D7 ∧ Own 5 1 v8 (aftS [] Sb).length ((aftS [] Sb).map SV.u8) D8 ∧
    Lst w [] fs ((runS [] Sb).map (·.1)) ∧ Own 23 1 v9 fs.length fs D9 ∧ Lst w H ts ((runS [] Sb).map (·.2)) ∧ Own 23 1 v10 ts.length ts D10 ∧ HL w w' [] (D7 ++ (D8 ++ (D9 ++ (D10 ++ H))))

theorem runS_len : ∀ (s : List (Nat × List B8)) (text : List B8), (runS text s).length ≤ s.length
  | [], text => Nat.le_refl _
  | (k, b) :: s, text => by
    simp only [runS]
    by_cases h0 : k = 0
    · simp only [h0, if_true]; have := runS_len s (text ++ b); simp; omega
    · by_cases h1 : k = 1
      · subst h1
        simp only [show ¬ (1 : Nat) = 0 by omega, if_false, if_true, List.length_cons]
        have := runS_len s text; omega
      · by_cases h2 : k = 2
        · subst h2
          simp only [show ¬ (2 : Nat) = 0 by omega, show ¬ (2 : Nat) = 1 by omega, if_false, if_true]
          have := runS_len s []; simp; omega
        · simp only [h0, h1, h2, if_false]; have := runS_len s text; simp; omega

theorem cat_mem_le {dd : List (List B8)} (h : (cat dd).length ≤ 5000) (i : Nat) : (dd.getD i []).length ≤ 5000 := by
  rw [List.getD_eq_getElem?_getD]
  cases hi : dd[i]? with
  | none => simp
  | some t =>
    have h2 : t.length ≤ (cat dd).length := by
      obtain ⟨l1, l2, rfl⟩ := List.append_of_mem (List.mem_of_getElem? hi)
      simp [cat]
      omega
    simp only [Option.getD_some]
    omega

set_option maxRecDepth 100000 in
theorem stepsOfC (ao : Option Addr) (no co : Nat) (os : List B8) (v1 : SV) (dd : List (List B8)) (w : World) (hro : Rd w ao (os.map SV.u8)) (hno : os.length = no) (hle : no ≤ 30) (hd : Txs w v1 dd) (hf : dd.length ≤ 100 ∧ (cat dd).length ≤ 5000) :
    Calls Tryd.prog 29 #[(SV.sl ao no co).val, v1.val] w fun e w' => ∃ v7 v9 v10, e = .returned (SV.tup3 v7 v9 v10).val ∧ StR w' v7 (stL os dd no ++ [(1, [])]) ∧
      Txs w' v9 ((runS [] (stL os dd no ++ [(1, [])])).map (·.1)) ∧ Txs w' v10 ((runS [] (stL os dd no ++ [(1, [])])).map (·.2)) ∧ Grow w w' := by
  obtain ⟨a1, c1, rfl, hc1, ha1, hr1⟩ := hd
  generalize hn1 : dd.length = n1 at *
  refine calls_E [.sl ao no co, .sl a1 n1 c1] Tryd.func29 rfl Tryd.ntmps29 rfl ?_
  refine EWp.seqR [0, 1] fun K hK => ?_
  simp only [ev, fx, ↓reduceIte, Nat.reduceEqDiff, Nat.reduceLT, Nat.reduceLeDiff, Nat.reduceAdd, Nat.reduceSub, Nat.reduceMul, Int.reduceLT, Int.reduceLE, Int.reduceToNat, BitVec.reduceOfInt, BitVec.reduceToNat, reduceCtorEq, and_self, decide_true, decide_false, Bool.not_true, Bool.not_false, ne_eq, not_true_eq_false, not_false_eq_true, true_and, and_true]
  repeat (refine And.intro (by omega) ?_)
  refine hK _ _ ?_; clear hK K
  refine EWp.seqR [0, 1, 7, 8, 9, 10] fun K hK => ?_
  simp only [ev, fx, ↓reduceIte, Nat.reduceEqDiff, Nat.reduceLT, Nat.reduceLeDiff, Nat.reduceAdd, Nat.reduceSub, Nat.reduceMul, Int.reduceLT, Int.reduceLE, Int.reduceToNat, BitVec.reduceOfInt, BitVec.reduceToNat, reduceCtorEq, and_self, decide_true, decide_false, Bool.not_true, Bool.not_false, ne_eq, not_true_eq_false, not_false_eq_true, true_and, and_true]
  refine SemE.buildNil (HL.start w) 69 slof_47 rfl fun b7 w1 hb7 hl => ?_
  simp only [ev, fx, ↓reduceIte, Nat.reduceEqDiff, Nat.reduceLT, Nat.reduceLeDiff, Nat.reduceAdd, Nat.reduceSub, Nat.reduceMul, Int.reduceLT, Int.reduceLE, Int.reduceToNat, BitVec.reduceOfInt, BitVec.reduceToNat, reduceCtorEq, and_self, decide_true, decide_false, Bool.not_true, Bool.not_false, ne_eq, not_true_eq_false, not_false_eq_true, true_and, and_true]
  refine SemE.buildNil hl 5 slof_23 rfl fun b8 w2 hb8 hl => ?_
  simp only [ev, fx, ↓reduceIte, Nat.reduceEqDiff, Nat.reduceLT, Nat.reduceLeDiff, Nat.reduceAdd, Nat.reduceSub, Nat.reduceMul, Int.reduceLT, Int.reduceLE, Int.reduceToNat, BitVec.reduceOfInt, BitVec.reduceToNat, reduceCtorEq, and_self, decide_true, decide_false, Bool.not_true, Bool.not_false, ne_eq, not_true_eq_false, not_false_eq_true, true_and, and_true]
  refine SemE.buildNil hl 23 slof_28 rfl fun b9 w3 hb9 hl => ?_
  simp only [ev, fx, ↓reduceIte, Nat.reduceEqDiff, Nat.reduceLT, Nat.reduceLeDiff, Nat.reduceAdd, Nat.reduceSub, Nat.reduceMul, Int.reduceLT, Int.reduceLE, Int.reduceToNat, BitVec.reduceOfInt, BitVec.reduceToNat, reduceCtorEq, and_self, decide_true, decide_false, Bool.not_true, Bool.not_false, ne_eq, not_true_eq_false, not_false_eq_true, true_and, and_true]
  refine SemE.buildNil hl 23 slof_28 rfl fun b10 w4 hb10 hl => ?_
  simp only [List.nil_append, List.cons_append] at hl
  simp only [ev, fx, ↓reduceIte, Nat.reduceEqDiff, Nat.reduceLT, Nat.reduceLeDiff, Nat.reduceAdd, Nat.reduceSub, Nat.reduceMul, Int.reduceLT, Int.reduceLE, Int.reduceToNat, BitVec.reduceOfInt, BitVec.reduceToNat, reduceCtorEq, and_self, decide_true, decide_false, Bool.not_true, Bool.not_false, ne_eq, not_true_eq_false, not_false_eq_true, true_and, and_true]
  repeat (refine And.intro (by omega) ?_)
  refine hK _ _ ?_; clear hK K
  have hI : SInv w w4 (stL os dd 0) (stL os dd 0) (.sl (some ⟨b7, 0, none⟩) 0 0) (.sl (some ⟨b8, 0, none⟩) 0 0) (.sl (some ⟨b9, 0, none⟩) 0 0) (.sl (some ⟨b10, 0, none⟩) 0 0) :=
    ⟨[], [], [], [(b7, _, [])], [(b8, _, [])], [(b9, _, [])], [(b10, _, [])], [], rfl, fun j u s h _ => by simp at h, Own.full (by simp [stL]) (by unfold maxLen; omega), Own.full (by simp [stL, aftS]) (by unfold maxLen; omega),
      Lst.nil _ _, Own.full (by simp) (by unfold maxLen; omega), Lst.nil _ _, Own.full (by simp) (by unfold maxLen; omega), hl⟩
  clear hl
  refine EWp.cut [7, 8, 9, 10] (fun S' w' => ∃ v7 v8 v9 v10, S' = [(7, v7), (8, v8), (9, v9), (10, v10)] ∧ SInv w w' (stL os dd no) (stL os dd no) v7 v8 v9 v10) ?_ ?_
  case refine_2 =>
    clear hI
    rintro S' w' ⟨v7, v8, v9, v10, rfl, es, fs, ts, D7, D8, D9, D10, H, hes, het, ho7, ho8, hl9, ho9, hl10, ho10, hl⟩
    refine EWp.seqR [4, 5, 6] fun K hK => ?_
    simp only [ev, fx, ↓reduceIte, Nat.reduceEqDiff, Nat.reduceLT, Nat.reduceLeDiff, Nat.reduceAdd, Nat.reduceSub, Nat.reduceMul, Int.reduceLT, Int.reduceLE, Int.reduceToNat, BitVec.reduceOfInt, BitVec.reduceToNat, reduceCtorEq, and_self, decide_true, decide_false, Bool.not_true, Bool.not_false, ne_eq, not_true_eq_false, not_false_eq_true, true_and, and_true]
    refine SemE.build [.nat 1, .sl none 0 0] rfl (fun av ha => ?_) ?_
    · kernel_rfl
    simp only [ev, fx, ↓reduceIte, Nat.reduceEqDiff, Nat.reduceLT, Nat.reduceLeDiff, Nat.reduceAdd, Nat.reduceSub, Nat.reduceMul, Int.reduceLT, Int.reduceLE, Int.reduceToNat, BitVec.reduceOfInt, BitVec.reduceToNat, reduceCtorEq, and_self, decide_true, decide_false, Bool.not_true, Bool.not_false, ne_eq, not_true_eq_false, not_false_eq_true, true_and, and_true]
    refine SemE.buildOne (vs := [.nat 1, .sl none 0 0]) hl 69 slof_47 (by decide) (by decide) rfl rfl fun b1 w2 hb1 hl => ?_
    simp only [ev, fx, ↓reduceIte, Nat.reduceEqDiff, Nat.reduceLT, Nat.reduceLeDiff, Nat.reduceAdd, Nat.reduceSub, Nat.reduceMul, Int.reduceLT, Int.reduceLE, Int.reduceToNat, BitVec.reduceOfInt, BitVec.reduceToNat, reduceCtorEq, and_self, decide_true, decide_false, Bool.not_true, Bool.not_false, ne_eq, not_true_eq_false, not_false_eq_true, true_and, and_true]
    have hr1 : Rd w2 (some ⟨b1, 0, none⟩) [.nat 1, .sl none 0 0] := Rd.blk (hl.sub (List.sublist_append_right _ [(b1, 69, [SV.nat 1, SV.sl none 0 0])])) (k := 0) rfl 0 2
    rw [List.append_assoc] at hl
    refine SemE.append hl ho7 slof_47 rfl rfl rfl hr1 rfl (fun h => by cases h) (by simp [SV.isOne]) (by simp [stL]; omega) rfl fun u7 E7 w3 ho7 hl _ => ?_
    simp only [ev, fx, ↓reduceIte, Nat.reduceEqDiff, Nat.reduceLT, Nat.reduceLeDiff, Nat.reduceAdd, Nat.reduceSub, Nat.reduceMul, Int.reduceLT, Int.reduceLE, Int.reduceToNat, BitVec.reduceOfInt, BitVec.reduceToNat, reduceCtorEq, and_self, decide_true, decide_false, Bool.not_true, Bool.not_false, ne_eq, not_true_eq_false, not_false_eq_true, true_and, and_true]
    simp only [List.append_assoc] at hl
    refine SemE.buildSlice (vs := [.sl none 0 0]) hl 23 slof_28 rfl rfl (by decide) rfl fun b2 w4 hb2 hl => ?_
    simp only [ev, fx, ↓reduceIte, Nat.reduceEqDiff, Nat.reduceLT, Nat.reduceLeDiff, Nat.reduceAdd, Nat.reduceSub, Nat.reduceMul, Int.reduceLT, Int.reduceLE, Int.reduceToNat, BitVec.reduceOfInt, BitVec.reduceToNat, reduceCtorEq, and_self, decide_true, decide_false, Bool.not_true, Bool.not_false, ne_eq, not_true_eq_false, not_false_eq_true, true_and, and_true]
    have hr2 : Rd w4 (some ⟨b2, 0, none⟩) [.sl none 0 0] := Rd.blk (hl.sub (List.sublist_append_right _ [(b2, 23, [SV.sl none 0 0])])) (k := 0) rfl 0 1
    simp only [List.append_assoc] at hl
    have hl := hl.perm (List.Perm.trans (List.perm_append_comm_assoc E7 D8 _) (List.Perm.trans (List.Perm.append_left D8 (List.perm_append_comm_assoc E7 D9 _)) (List.perm_append_comm_assoc D8 D9 _)))
    have hfl : fs.length ≤ 30 := by
      rw [hl9.1, List.length_map]
      exact Nat.le_trans (runS_len _ _) (by simp [stL]; omega)
    have htl : ts.length ≤ 30 := by
      rw [hl10.1, List.length_map]
      exact Nat.le_trans (runS_len _ _) (by simp [stL]; omega)
    refine SemE.append hl ho9 slof_28 rfl rfl rfl hr2 rfl (fun h => by cases h) (by simp [SV.isOne]) (by omega) rfl fun u9 E9 w5 ho9 hl _ => ?_
    simp only [ev, fx, ↓reduceIte, Nat.reduceEqDiff, Nat.reduceLT, Nat.reduceLeDiff, Nat.reduceAdd, Nat.reduceSub, Nat.reduceMul, Int.reduceLT, Int.reduceLE, Int.reduceToNat, BitVec.reduceOfInt, BitVec.reduceToNat, reduceCtorEq, and_self, decide_true, decide_false, Bool.not_true, Bool.not_false, ne_eq, not_true_eq_false, not_false_eq_true, true_and, and_true]
    have hv8 : v8.isOne = true := by
      obtain ⟨a8, c8, rfl, _⟩ := ho8.shape
      rfl
    refine SemE.buildSlice (vs := [v8]) hl 23 slof_28 (by simp [partsSV, Env.op, Env.get, hv8]) rfl (by decide) rfl fun b3 w6 hb3 hl => ?_
    simp only [ev, fx, ↓reduceIte, Nat.reduceEqDiff, Nat.reduceLT, Nat.reduceLeDiff, Nat.reduceAdd, Nat.reduceSub, Nat.reduceMul, Int.reduceLT, Int.reduceLE, Int.reduceToNat, BitVec.reduceOfInt, BitVec.reduceToNat, reduceCtorEq, and_self, decide_true, decide_false, Bool.not_true, Bool.not_false, ne_eq, not_true_eq_false, not_false_eq_true, true_and, and_true]
    have hr3 : Rd w6 (some ⟨b3, 0, none⟩) [v8] := Rd.blk (hl.sub (List.sublist_append_right _ [(b3, 23, [v8])])) (k := 0) rfl 0 1
    simp only [List.append_assoc] at hl
    have hl := hl.perm (List.Perm.trans (List.Perm.append_left E9 (List.Perm.append_left D8 (List.perm_append_comm_assoc E7 D10 _))) (List.Perm.trans (List.Perm.append_left E9 (List.perm_append_comm_assoc D8 D10 _)) (List.perm_append_comm_assoc E9 D10 _)))
    refine SemE.append hl ho10 slof_28 rfl rfl rfl hr3 rfl (fun h => by cases h) (by simp [hv8]) (by omega) rfl fun u10 E10 w7 ho10 hl _ => ?_
    simp only [ev, fx, ↓reduceIte, Nat.reduceEqDiff, Nat.reduceLT, Nat.reduceLeDiff, Nat.reduceAdd, Nat.reduceSub, Nat.reduceMul, Int.reduceLT, Int.reduceLE, Int.reduceToNat, BitVec.reduceOfInt, BitVec.reduceToNat, reduceCtorEq, and_self, decide_true, decide_false, Bool.not_true, Bool.not_false, ne_eq, not_true_eq_false, not_false_eq_true, true_and, and_true]
    repeat (refine And.intro (by omega) ?_)
    refine hK _ _ ?_; clear hK K
    have e0 : runS [] (stL os dd no ++ [(1, [])]) = runS [] (stL os dd no) ++ [([], aftS [] (stL os dd no))] := by rw [runS_append]; rfl
    rw [e0, List.map_append, List.map_append]
    refine EWp.ret (BodyE.tmp3 rfl rfl rfl rfl ⟨u7, u9, u10, rfl, ?_, ?_, ?_, hl.toGrow⟩)
    · have hl7 := hl.sub ((List.sublist_append_left E7 (H ++ ([(b1, 69, [SV.nat 1, SV.sl none 0 0])] ++ ([(b2, 23, [SV.sl none 0 0])] ++ [(b3, 23, [v8])])))).trans ((List.sublist_append_right D8 _).trans ((List.sublist_append_right E9 _).trans (List.sublist_append_right E10 _))))
      obtain ⟨a7, c7, rfl, hc7, ha7⟩ := ho7.shape
      have hr7 := ho7.rd (H := []) (by simpa using hl7) rfl
      refine ⟨a7, c7, es ++ [.sl none 0 0], by simp, by simpa using hc7, by simpa using ha7, by simp [hes], ?_, stE_snoc hes (fun j u s hu hs => (het j u s hu hs).grow hl.toGrow) (Txt.nil _ _ _)⟩
      rw [List.zip_append hes.symm, List.flatMap_append]
      exact hr7
    · exact (hl9.snoc (.inl (Txt.nil _ _ _))).txs ho9 (hl.sub (List.sublist_append_right E10 _)) (hl.sub (List.nil_sublist _))
    · exact ((hl10.mono (H' := D8 ++ H) (fun y hy => List.mem_append_right _ hy)).snoc ((ho8.elem (Txt.nil _ _ _)).mono (fun y hy => List.mem_append_left _ hy))).txs ho10 hl
        (hl.sub ((List.Sublist.append_left ((List.sublist_append_left H _).trans (List.sublist_append_right E7 _)) D8).trans ((List.sublist_append_right E9 _).trans (List.sublist_append_right E10 _))))
  clear hb7 hb8 hb9 hb10
  generalize (SV.sl (some ⟨b7, 0, none⟩) 0 0) = u7, (SV.sl (some ⟨b8, 0, none⟩) 0 0) = u8, (SV.sl (some ⟨b9, 0, none⟩) 0 0) = u9, (SV.sl (some ⟨b10, 0, none⟩) 0 0) = u10 at hI ⊢
  refine EWp.seqR [1, 7, 8, 9, 10, 18, 19, 20] fun K hK => ?_
  simp only [ev, fx, ↓reduceIte, Nat.reduceEqDiff, Nat.reduceLT, Nat.reduceLeDiff, Nat.reduceAdd, Nat.reduceSub, Nat.reduceMul, Int.reduceLT, Int.reduceLE, Int.reduceToNat, BitVec.reduceOfInt, BitVec.reduceToNat, reduceCtorEq, and_self, decide_true, decide_false, Bool.not_true, Bool.not_false, ne_eq, not_true_eq_false, not_false_eq_true, true_and, and_true]
  repeat (refine And.intro (by omega) ?_)
  refine hK _ _ ?_; clear hK K
  refine EWp.block ?_
  refine EWp.loop [1, 7, 8, 9, 10, 18, 19, 20] (fun k S' w' => ∃ i v7 v8 v9 v10, i ≤ no ∧ k = no - i ∧ S' = [(1, .sl a1 n1 c1), (7, v7), (8, v8), (9, v9), (10, v10), (18, .sl ao no co), (19, .nat no), (20, .nat i)] ∧
    (aftS [] (stL os dd i)).length ≤ 5000 * i ∧ SInv w w' (stL os dd i) (stL os dd i) v7 v8 v9 v10) no ?_ ?_
  case refine_1 => exact ⟨0, _, _, _, _, by omega, rfl, rfl, by simp [stL, aftS], hI⟩
  clear hI
  rintro k S' w' ⟨i, v7, v8, v9, v10, hi, rfl, rfl, h5, hS⟩
  refine EWp.seqR [1, 7, 8, 9, 10, 18, 19, 20, 21] fun K hK => ?_
  simp only [ev, fx, ↓reduceIte, Nat.reduceEqDiff, Nat.reduceLT, Nat.reduceLeDiff, Nat.reduceAdd, Nat.reduceSub, Nat.reduceMul, Int.reduceLT, Int.reduceLE, Int.reduceToNat, BitVec.reduceOfInt, BitVec.reduceToNat, reduceCtorEq, and_self, decide_true, decide_false, Bool.not_true, Bool.not_false, ne_eq, not_true_eq_false, not_false_eq_true, true_and, and_true]
  repeat (refine And.intro (by omega) ?_)
  refine hK _ _ ?_; clear hK K
  refine EWp.guard (b := decide (i < no)) rfl (fun hlt => ?_) (fun hlt => ?_)
  case refine_2 =>
    have hlt := of_decide_eq_false hlt
    obtain rfl : i = no := by omega
    simp only [BlockE, ThenE, ↓reduceIte]
    exact ⟨_, _, _, _, rfl, hS⟩
  have hlt := of_decide_eq_true hlt
  refine EWp.cut [1, 7, 8, 9, 10, 18, 19, 20] (fun S' w' => ∃ v7 v8 v9 v10, S' = [(1, .sl a1 n1 c1), (7, v7), (8, v8), (9, v9), (10, v10), (18, .sl ao no co), (19, .nat no), (20, .nat i)] ∧
    (aftS [] (stL os dd (i + 1))).length ≤ 5000 * (i + 1) ∧ SInv w w' (stL os dd (i + 1)) (stL os dd (i + 1)) v7 v8 v9 v10) ?_ ?_
  case refine_2 =>
    clear hS
    rintro S' w' ⟨v7, v8, v9, v10, rfl, h5, hS⟩
    refine EWp.regR [1, 7, 8, 9, 10, 18, 19, 20] fun K hK => ?_
    simp only [ev, fx, ↓reduceIte, Nat.reduceEqDiff, Nat.reduceLT, Nat.reduceLeDiff, Nat.reduceAdd, Nat.reduceSub, Nat.reduceMul, Int.reduceLT, Int.reduceLE, Int.reduceToNat, BitVec.reduceOfInt, BitVec.reduceToNat, reduceCtorEq, and_self, decide_true, decide_false, Bool.not_true, Bool.not_false, ne_eq, not_true_eq_false, not_false_eq_true, true_and, and_true]
    exact ⟨by omega, hK _ _ fun S1 h1 => ⟨no - i - 1, by omega, i + 1, v7, v8, v9, v10, by omega, by omega, h1, h5, hS⟩⟩
  obtain ⟨es, fs, ts, D7, D8, D9, D10, H, hes, het, ho7, ho8, hl9, ho9, hl10, ho10, hl⟩ := hS
  have hop : os[i]? = some (os.getD i 0) := by
    rw [List.getD_eq_getElem?_getD, List.getElem?_eq_getElem (by omega)]; rfl
  have estp : stL os dd (i + 1) = stL os dd i ++ [((os.getD i 0).toNat % 4, dd.getD i [])] := stL_succ os dd i
  have hbl : (dd.getD i []).length ≤ 5000 := cat_mem_le hf.2 i
  generalize os.getD i 0 = op at hop estp
  obtain ⟨p, rfl, _, hcell⟩ := (hro.grow hl.toGrow) i (.u8 op) (by simp [hop])
  refine EWp.block ?_
  refine EWp.seqR [1, 7, 8, 9, 10, 11, 12, 18, 19, 20] fun K hK => ?_
  simp only [ev, fx, ↓reduceIte, Nat.reduceEqDiff, Nat.reduceLT, Nat.reduceLeDiff, Nat.reduceAdd, Nat.reduceSub, Nat.reduceMul, Int.reduceLT, Int.reduceLE, Int.reduceToNat, BitVec.reduceOfInt, BitVec.reduceToNat, reduceCtorEq, and_self, decide_true, decide_false, Bool.not_true, Bool.not_false, ne_eq, not_true_eq_false, not_false_eq_true, true_and, and_true]
  refine ⟨by omega, SemE.load (.u8 op) rfl one_5 rfl hcell ?_⟩
  simp only [ev, fx, ↓reduceIte, Nat.reduceEqDiff, Nat.reduceLT, Nat.reduceLeDiff, Nat.reduceAdd, Nat.reduceSub, Nat.reduceMul, Int.reduceLT, Int.reduceLE, Int.reduceToNat, BitVec.reduceOfInt, BitVec.reduceToNat, reduceCtorEq, and_self, decide_true, decide_false, Bool.not_true, Bool.not_false, ne_eq, not_true_eq_false, not_false_eq_true, true_and, and_true]
  repeat (refine And.intro (by omega) ?_)
  refine hK _ _ ?_; clear hK K
  refine EWp.seqR [1, 7, 8, 9, 10, 11, 12, 13, 18, 19, 20] fun K hK => ?_
  simp only [ev, fx, ↓reduceIte, Nat.reduceEqDiff, Nat.reduceLT, Nat.reduceLeDiff, Nat.reduceAdd, Nat.reduceSub, Nat.reduceMul, Int.reduceLT, Int.reduceLE, Int.reduceToNat, BitVec.reduceOfInt, BitVec.reduceToNat, reduceCtorEq, and_self, decide_true, decide_false, Bool.not_true, Bool.not_false, ne_eq, not_true_eq_false, not_false_eq_true, true_and, and_true]
  refine SemE.buildNil hl 5 slof_23 rfl fun bq w2 hbq hl => ?_
  simp only [ev, fx, ↓reduceIte, Nat.reduceEqDiff, Nat.reduceLT, Nat.reduceLeDiff, Nat.reduceAdd, Nat.reduceSub, Nat.reduceMul, Int.reduceLT, Int.reduceLE, Int.reduceToNat, BitVec.reduceOfInt, BitVec.reduceToNat, reduceCtorEq, and_self, decide_true, decide_false, Bool.not_true, Bool.not_false, ne_eq, not_true_eq_false, not_false_eq_true, true_and, and_true]
  repeat (refine And.intro (by omega) ?_)
  refine hK _ _ ?_; clear hK K
  simp only [List.append_assoc] at hl
  refine EWp.cut [1, 7, 8, 9, 10, 12, 13, 18, 19, 20] (fun S' w' => w' = w2 ∧ ∃ v, S' = [(1, .sl a1 n1 c1), (7, v7), (8, v8), (9, v9), (10, v10), (12, .u8 op), (13, v), (18, .sl (some p) no co), (19, .nat no), (20, .nat i)] ∧ Txt w v (dd.getD i [])) ?_ ?_
  case refine_1 =>
    refine EWp.seqR [1, 7, 8, 9, 10, 11, 12, 13, 18, 19, 20, 29] fun K hK => ?_
    simp only [ev, fx, ↓reduceIte, Nat.reduceEqDiff, Nat.reduceLT, Nat.reduceLeDiff, Nat.reduceAdd, Nat.reduceSub, Nat.reduceMul, Int.reduceLT, Int.reduceLE, Int.reduceToNat, BitVec.reduceOfInt, BitVec.reduceToNat, reduceCtorEq, and_self, decide_true, decide_false, Bool.not_true, Bool.not_false, ne_eq, not_true_eq_false, not_false_eq_true, true_and, and_true]
    refine hK _ _ (EWp.cond (b := decide (i < n1)) rfl (fun hin => ?_) (fun hin => ?_)) <;> clear hK K
    · have hin := of_decide_eq_true hin
      obtain ⟨vs, g1, g2, g3⟩ := hr1
      have g4 : vs[i]? = some vs[i] := List.getElem?_eq_getElem (by omega)
      generalize vs[i] = v at g4
      obtain ⟨p1, rfl, _, hcell1⟩ := (g2.grow hl.toGrow) i v g4
      have g5 : dd[i]? = some (dd.getD i []) := by
        rw [List.getD_eq_getElem?_getD, List.getElem?_eq_getElem (by omega)]; rfl
      have g6 := g3 i v _ g4 g5
      obtain ⟨ax, cx, rfl, g7⟩ := g6
      refine EWp.regR [1, 7, 8, 9, 10, 12, 13, 18, 19, 20] fun K hK => ?_
      simp only [ev, fx, ↓reduceIte, Nat.reduceEqDiff, Nat.reduceLT, Nat.reduceLeDiff, Nat.reduceAdd, Nat.reduceSub, Nat.reduceMul, Int.reduceLT, Int.reduceLE, Int.reduceToNat, BitVec.reduceOfInt, BitVec.reduceToNat, reduceCtorEq, and_self, decide_true, decide_false, Bool.not_true, Bool.not_false, ne_eq, not_true_eq_false, not_false_eq_true, true_and, and_true]
      refine ⟨by omega, SemE.load (.sl ax (dd.getD i []).length cx) rfl one_23 rfl hcell1 ?_⟩
      simp only [ev, fx, ↓reduceIte, Nat.reduceEqDiff, Nat.reduceLT, Nat.reduceLeDiff, Nat.reduceAdd, Nat.reduceSub, Nat.reduceMul, Int.reduceLT, Int.reduceLE, Int.reduceToNat, BitVec.reduceOfInt, BitVec.reduceToNat, reduceCtorEq, and_self, decide_true, decide_false, Bool.not_true, Bool.not_false, ne_eq, not_true_eq_false, not_false_eq_true, true_and, and_true]
      refine hK _ _ fun S1 h1 => ⟨rfl, _, h1, ⟨ax, cx, rfl, g7⟩⟩
    · have hin := of_decide_eq_false hin
      have g5 : dd.getD i [] = [] := by rw [List.getD_eq_getElem?_getD, List.getElem?_eq_none (by omega)]; rfl
      rw [g5]
      exact EWp.skip ⟨rfl, _, rfl, Txt.nil _ _ _⟩
  rintro S' _ ⟨rfl, v, rfl, hv⟩
  generalize dd.getD i [] = t at *
  rename_i w0
  have hv2 := hv
  obtain ⟨av, cv, rfl, hcv, hav, hrv⟩ := hv2
  have e48 : (op.toNat : Int).toNat % 4 = op.toNat % 4 := rfl
  refine EWp.seqR [1, 7, 8, 9, 10, 12, 13, 18, 19, 20] fun K hK => ?_
  simp only [ev, fx, ↓reduceIte, Nat.reduceEqDiff, Nat.reduceLT, Nat.reduceLeDiff, Nat.reduceAdd, Nat.reduceSub, Nat.reduceMul, Int.reduceLT, Int.reduceLE, Int.reduceToNat, BitVec.reduceOfInt, BitVec.reduceToNat, reduceCtorEq, and_self, decide_true, decide_false, Bool.not_true, Bool.not_false, ne_eq, not_true_eq_false, not_false_eq_true, true_and, and_true]
  refine SemE.build [.nat (op.toNat % 4), .sl av t.length cv] rfl (fun ax ha => ?_) ?_
  · show Tryd.prog.built _ [(0, ax.eval (.tmp 37)), (1, ax.eval (.tmp 38))] = _
    rw [ha.eval (v := SV.nat (op.toNat % 4)) rfl, ha.eval (v := SV.sl av t.length cv) rfl]
    kernel_rfl
  simp only [ev, fx, ↓reduceIte, Nat.reduceEqDiff, Nat.reduceLT, Nat.reduceLeDiff, Nat.reduceAdd, Nat.reduceSub, Nat.reduceMul, Int.reduceLT, Int.reduceLE, Int.reduceToNat, BitVec.reduceOfInt, BitVec.reduceToNat, reduceCtorEq, and_self, decide_true, decide_false, Bool.not_true, Bool.not_false, ne_eq, not_true_eq_false, not_false_eq_true, true_and, and_true]
  refine SemE.buildOne (vs := [.nat (op.toNat % 4), .sl av t.length cv]) hl 69 slof_47 (by simp) (by simp) rfl rfl fun b1 w2 hb1 hl => ?_
  simp only [ev, fx, ↓reduceIte, Nat.reduceEqDiff, Nat.reduceLT, Nat.reduceLeDiff, Nat.reduceAdd, Nat.reduceSub, Nat.reduceMul, Int.reduceLT, Int.reduceLE, Int.reduceToNat, BitVec.reduceOfInt, BitVec.reduceToNat, reduceCtorEq, and_self, decide_true, decide_false, Bool.not_true, Bool.not_false, ne_eq, not_true_eq_false, not_false_eq_true, true_and, and_true]
  have hr8 : Rd w2 (some ⟨b1, 0, none⟩) [.nat (op.toNat % 4), .sl av t.length cv] := Rd.blk (hl.sub (List.sublist_append_right _ [(b1, 69, [SV.nat (op.toNat % 4), SV.sl av t.length cv])])) (k := 0) rfl 0 2
  simp only [List.append_assoc] at hl
  refine SemE.append hl ho7 slof_47 rfl rfl rfl hr8 rfl (fun h => by cases h) (by simp [SV.isOne]) (by simp [stL]; omega) rfl fun v7 E7 w3 ho7 hl _ => ?_
  simp only [ev, fx, ↓reduceIte, Nat.reduceEqDiff, Nat.reduceLT, Nat.reduceLeDiff, Nat.reduceAdd, Nat.reduceSub, Nat.reduceMul, Int.reduceLT, Int.reduceLE, Int.reduceToNat, BitVec.reduceOfInt, BitVec.reduceToNat, reduceCtorEq, and_self, decide_true, decide_false, Bool.not_true, Bool.not_false, ne_eq, not_true_eq_false, not_false_eq_true, true_and, and_true]
  repeat (refine And.intro (by omega) ?_)
  refine hK _ _ ?_; clear hK K
  have hes' : (es ++ [SV.sl av t.length cv]).length = (stL os dd i ++ [(op.toNat % 4, t)]).length := by simp [hes]
  have het' := stE_snoc hes het hv (x := (op.toNat % 4, t))
  have ho7 : Own 69 2 v7 (stL os dd i ++ [(op.toNat % 4, t)]).length (((stL os dd i ++ [(op.toNat % 4, t)]).zip (es ++ [SV.sl av t.length cv])).flatMap fun x => [SV.nat x.1.1, x.2]) E7 :=
    ho7.cast (by simp) (by rw [List.zip_append hes.symm, List.flatMap_append]; rfl)
  rw [estp]
  clear het hr8 hcell hop hro
  have hsub : ∀ y ∈ H, y ∈ H ++ ([(bq, 5, [])] ++ [(b1, 69, [SV.nat (op.toNat % 4), SV.sl av t.length cv])]) := fun y hy => List.mem_append_left _ hy
  have hA := aftS_append (stL os dd i) [(op.toNat % 4, t)] []
  have hR := runS_append (stL os dd i) [(op.toNat % 4, t)] []
  have hln : (stL os dd i).length ≤ 30 := by simp [stL]; omega
  generalize stL os dd i = A at *
  generalize (H ++ ([(bq, 5, [])] ++ [(b1, 69, [SV.nat (op.toNat % 4), SV.sl av t.length cv])])) = H1 at *
  have q0 := eq4 op 0 (by omega)
  have q1 := eq4 op 1 (by omega)
  have q2 := eq4 op 2 (by omega)
  refine EWp.seqR [1, 7, 8, 9, 10, 13, 18, 19, 20, 43] fun K hK => ?_
  simp only [ev, fx, ↓reduceIte, Nat.reduceEqDiff, Nat.reduceLT, Nat.reduceLeDiff, Nat.reduceAdd, Nat.reduceSub, Nat.reduceMul, Int.reduceLT, Int.reduceLE, Int.reduceToNat, BitVec.reduceOfInt, BitVec.reduceToNat, reduceCtorEq, and_self, decide_true, decide_false, Bool.not_true, Bool.not_false, ne_eq, not_true_eq_false, not_false_eq_true, true_and, and_true]
  repeat (refine And.intro (by omega) ?_)
  refine hK _ _ ?_; clear hK K
  refine EWp.block ?_
  refine EWp.seqR [1, 7, 8, 9, 10, 13, 18, 19, 20, 43, 44] fun K hK => ?_
  simp only [ev, fx, ↓reduceIte, Nat.reduceEqDiff, Nat.reduceLT, Nat.reduceLeDiff, Nat.reduceAdd, Nat.reduceSub, Nat.reduceMul, Int.reduceLT, Int.reduceLE, Int.reduceToNat, BitVec.reduceOfInt, BitVec.reduceToNat, reduceCtorEq, and_self, decide_true, decide_false, Bool.not_true, Bool.not_false, ne_eq, not_true_eq_false, not_false_eq_true, true_and, and_true]
  refine hK _ _ (EWp.cond (b := op % 4#8 == 0#8) rfl (fun hb => ?_) (fun hb => ?_)) <;> clear hK K
  · rw [q0] at hb
    have hb := of_decide_eq_true hb
    have eA : aftS [] (A ++ [(op.toNat % 4, t)]) = aftS [] A ++ t := by rw [hA, hb]; rfl
    have eR : runS [] (A ++ [(op.toNat % 4, t)]) = runS [] A := by rw [hR, hb]; simp [runS]
    have hrt : Rd w3 av (t.map SV.u8) := hrv.grow hl.toGrow
    have hl := hl.perm (List.perm_append_comm_assoc E7 D8 _)
    refine EWp.regR [1, 7, 8, 9, 10, 18, 19, 20] fun K hK => ?_
    simp only [ev, fx, ↓reduceIte, Nat.reduceEqDiff, Nat.reduceLT, Nat.reduceLeDiff, Nat.reduceAdd, Nat.reduceSub, Nat.reduceMul, Int.reduceLT, Int.reduceLE, Int.reduceToNat, BitVec.reduceOfInt, BitVec.reduceToNat, reduceCtorEq, and_self, decide_true, decide_false, Bool.not_true, Bool.not_false, ne_eq, not_true_eq_false, not_false_eq_true, true_and, and_true]
    refine SemE.append hl ho8 slof_23 rfl rfl rfl hrt (by simp) hav (isOneB t) (by omega) rfl fun v8 E8 w4 ho8 hl _ => ?_
    simp only [ev, fx, ↓reduceIte, Nat.reduceEqDiff, Nat.reduceLT, Nat.reduceLeDiff, Nat.reduceAdd, Nat.reduceSub, Nat.reduceMul, Int.reduceLT, Int.reduceLE, Int.reduceToNat, BitVec.reduceOfInt, BitVec.reduceToNat, reduceCtorEq, and_self, decide_true, decide_false, Bool.not_true, Bool.not_false, ne_eq, not_true_eq_false, not_false_eq_true, true_and, and_true]
    refine hK _ _ fun S1 h1 => ?_
    simp only [BlockE, ThenE]
    refine ⟨v7, v8, v9, v10, h1, by rw [eA, List.length_append]; omega, es ++ [SV.sl av t.length cv], fs, ts, E7, E8, D9, D10, H1, hes', het', ho7, ho8.cast (by rw [eA, List.length_append]) (by rw [eA, List.map_append]), by rw [eR]; exact hl9, ho9,
      by rw [eR]; exact hl10.mono hsub, ho10, hl.perm (List.perm_append_comm_assoc E8 E7 _)⟩
  rw [q0] at hb
  have hb0 := of_decide_eq_false hb
  clear hb
  refine EWp.seqR [1, 7, 8, 9, 10, 13, 18, 19, 20, 43, 49] fun K hK => ?_
  simp only [ev, fx, ↓reduceIte, Nat.reduceEqDiff, Nat.reduceLT, Nat.reduceLeDiff, Nat.reduceAdd, Nat.reduceSub, Nat.reduceMul, Int.reduceLT, Int.reduceLE, Int.reduceToNat, BitVec.reduceOfInt, BitVec.reduceToNat, reduceCtorEq, and_self, decide_true, decide_false, Bool.not_true, Bool.not_false, ne_eq, not_true_eq_false, not_false_eq_true, true_and, and_true]
  refine hK _ _ (EWp.cond (b := op % 4#8 == 1#8) rfl (fun hb => ?_) (fun hb => ?_)) <;> clear hK K
  · rw [q1] at hb
    have hb := of_decide_eq_true hb
    have eA : aftS [] (A ++ [(op.toNat % 4, t)]) = aftS [] A := by rw [hA, hb]; rfl
    have eR : runS [] (A ++ [(op.toNat % 4, t)]) = runS [] A ++ [(t, aftS [] A)] := by rw [hR, hb]; rfl
    have hfl : fs.length ≤ 30 := by
      rw [hl9.1, List.length_map]
      exact Nat.le_trans (runS_len _ _) hln
    have htl : ts.length ≤ 30 := by
      rw [hl10.1, List.length_map]
      exact Nat.le_trans (runS_len _ _) hln
    have hl := hl.perm (List.Perm.trans (List.perm_append_comm_assoc E7 D8 _) (List.Perm.trans (List.Perm.append_left D8 (List.perm_append_comm_assoc E7 D9 _)) (List.perm_append_comm_assoc D8 D9 _)))
    refine EWp.seqR [1, 7, 8, 9, 10, 13, 18, 19, 20] fun K hK => ?_
    simp only [ev, fx, ↓reduceIte, Nat.reduceEqDiff, Nat.reduceLT, Nat.reduceLeDiff, Nat.reduceAdd, Nat.reduceSub, Nat.reduceMul, Int.reduceLT, Int.reduceLE, Int.reduceToNat, BitVec.reduceOfInt, BitVec.reduceToNat, reduceCtorEq, and_self, decide_true, decide_false, Bool.not_true, Bool.not_false, ne_eq, not_true_eq_false, not_false_eq_true, true_and, and_true]
    refine SemE.buildSlice (vs := [SV.sl av t.length cv]) hl 23 slof_28 rfl rfl (by decide) rfl fun b2 w4 hb2 hl => ?_
    simp only [ev, fx, ↓reduceIte, Nat.reduceEqDiff, Nat.reduceLT, Nat.reduceLeDiff, Nat.reduceAdd, Nat.reduceSub, Nat.reduceMul, Int.reduceLT, Int.reduceLE, Int.reduceToNat, BitVec.reduceOfInt, BitVec.reduceToNat, reduceCtorEq, and_self, decide_true, decide_false, Bool.not_true, Bool.not_false, ne_eq, not_true_eq_false, not_false_eq_true, true_and, and_true]
    have hr2 : Rd w4 (some ⟨b2, 0, none⟩) [SV.sl av t.length cv] := Rd.blk (hl.sub (List.sublist_append_right _ [(b2, 23, [SV.sl av t.length cv])])) (k := 0) rfl 0 1
    simp only [List.append_assoc] at hl
    refine SemE.append hl ho9 slof_28 rfl rfl rfl hr2 rfl (fun h => by cases h) (by simp [SV.isOne]) (by omega) rfl fun v9 E9 w5 ho9 hl _ => ?_
    simp only [ev, fx, ↓reduceIte, Nat.reduceEqDiff, Nat.reduceLT, Nat.reduceLeDiff, Nat.reduceAdd, Nat.reduceSub, Nat.reduceMul, Int.reduceLT, Int.reduceLE, Int.reduceToNat, BitVec.reduceOfInt, BitVec.reduceToNat, reduceCtorEq, and_self, decide_true, decide_false, Bool.not_true, Bool.not_false, ne_eq, not_true_eq_false, not_false_eq_true, true_and, and_true]
    repeat (refine And.intro (by omega) ?_)
    refine hK _ _ ?_; clear hK K
    obtain ⟨a8, c8, rfl, hc8, ha8⟩ := ho8.shape
    refine EWp.regR [1, 7, 8, 9, 10, 18, 19, 20] fun K hK => ?_
    simp only [ev, fx, ↓reduceIte, Nat.reduceEqDiff, Nat.reduceLT, Nat.reduceLeDiff, Nat.reduceAdd, Nat.reduceSub, Nat.reduceMul, Int.reduceLT, Int.reduceLE, Int.reduceToNat, BitVec.reduceOfInt, BitVec.reduceToNat, reduceCtorEq, and_self, decide_true, decide_false, Bool.not_true, Bool.not_false, ne_eq, not_true_eq_false, not_false_eq_true, true_and, and_true]
    refine SemE.buildNil hl 5 slof_23 rfl fun b3 w6 hb3 hl => ?_
    simp only [ev, fx, ↓reduceIte, Nat.reduceEqDiff, Nat.reduceLT, Nat.reduceLeDiff, Nat.reduceAdd, Nat.reduceSub, Nat.reduceMul, Int.reduceLT, Int.reduceLE, Int.reduceToNat, BitVec.reduceOfInt, BitVec.reduceToNat, reduceCtorEq, and_self, decide_true, decide_false, Bool.not_true, Bool.not_false, ne_eq, not_true_eq_false, not_false_eq_true, true_and, and_true]
    have hr8 : Rd w6 a8 ((aftS [] A).map SV.u8) := ho8.rd (H := E9 ++ (E7 ++ (D10 ++ (H1 ++ ([(b2, 23, [SV.sl av t.length cv])] ++ [(b3, 5, [])]))))) (hl.perm (by simpa using List.perm_append_comm_assoc E9 D8 _)) rfl
    have hl := hl.perm List.perm_append_comm
    refine SemE.append hl (Own.full (e := 5) (xs := []) (by simp) (by unfold maxLen; omega)) slof_23 rfl rfl rfl hr8 (by simp) ha8 (isOneB _) (by omega) rfl fun v3 E3 w7 ho3 hl _ => ?_
    obtain ⟨a3, c3, rfl, hc3, ha3⟩ := ho3.shape
    simp only [ev, fx, ↓reduceIte, Nat.reduceEqDiff, Nat.reduceLT, Nat.reduceLeDiff, Nat.reduceAdd, Nat.reduceSub, Nat.reduceMul, Int.reduceLT, Int.reduceLE, Int.reduceToNat, BitVec.reduceOfInt, BitVec.reduceToNat, reduceCtorEq, and_self, decide_true, decide_false, Bool.not_true, Bool.not_false, ne_eq, not_true_eq_false, not_false_eq_true, true_and, and_true]
    refine SemE.buildSlice (vs := [SV.sl a3 ((aftS [] A).length) c3]) hl 23 slof_28 rfl rfl (by decide) rfl fun b4 w8 hb4 hl => ?_
    simp only [ev, fx, ↓reduceIte, Nat.reduceEqDiff, Nat.reduceLT, Nat.reduceLeDiff, Nat.reduceAdd, Nat.reduceSub, Nat.reduceMul, Int.reduceLT, Int.reduceLE, Int.reduceToNat, BitVec.reduceOfInt, BitVec.reduceToNat, reduceCtorEq, and_self, decide_true, decide_false, Bool.not_true, Bool.not_false, ne_eq, not_true_eq_false, not_false_eq_true, true_and, and_true]
    have hr4 : Rd w8 (some ⟨b4, 0, none⟩) [SV.sl a3 ((aftS [] A).length) c3] := Rd.blk (hl.sub (List.sublist_append_right _ [(b4, 23, [SV.sl a3 ((aftS [] A).length) c3])])) (k := 0) rfl 0 1
    simp only [List.append_assoc] at hl
    simp only [Nat.zero_add, List.nil_append] at ho3
    have h3 : (SV.sl a3 (aftS [] A).length c3).isOne = true := rfl
    generalize (SV.sl a3 (aftS [] A).length c3) = v3 at *
    have hsub2 : ∀ y ∈ H, y ∈ E3 ++ (H1 ++ ([(b2, 23, [SV.sl av t.length cv])] ++ [(b4, 23, [v3])])) := fun y hy => List.mem_append_right _ (List.mem_append_left _ (hsub y hy))
    generalize (H1 ++ ([(b2, 23, [SV.sl av t.length cv])] ++ [(b4, 23, [v3])])) = R at *
    have hl := hl.perm (show (E3 ++ (E9 ++ (D8 ++ (E7 ++ (D10 ++ R))))).Perm (D10 ++ (E3 ++ (E9 ++ (D8 ++ (E7 ++ R))))) by simpa using List.perm_append_comm_assoc (E3 ++ (E9 ++ (D8 ++ E7))) D10 R)
    refine SemE.append hl ho10 slof_28 rfl rfl rfl hr4 rfl (fun h => by cases h) (by simp [h3]) (by omega) rfl fun v10 E10 w9 ho10 hl _ => ?_
    simp only [ev, fx, ↓reduceIte, Nat.reduceEqDiff, Nat.reduceLT, Nat.reduceLeDiff, Nat.reduceAdd, Nat.reduceSub, Nat.reduceMul, Int.reduceLT, Int.reduceLE, Int.reduceToNat, BitVec.reduceOfInt, BitVec.reduceToNat, reduceCtorEq, and_self, decide_true, decide_false, Bool.not_true, Bool.not_false, ne_eq, not_true_eq_false, not_false_eq_true, true_and, and_true]
    refine hK _ _ fun S1 h1 => ?_
    simp only [BlockE, ThenE]
    refine ⟨v7, _, v9, v10, h1, by rw [eA]; omega, es ++ [SV.sl av t.length cv], fs ++ [SV.sl av t.length cv], ts ++ [v3], E7, D8, E9, E10, E3 ++ R, hes', het', ho7, ho8.cast (by rw [eA]) (by rw [eA]),
      by rw [eR, List.map_append]; exact hl9.snoc (.inl hv), ho9.cast (by simp) rfl, by rw [eR, List.map_append]; exact (hl10.mono hsub2).snoc ((ho3.elem (Txt.nil _ _ _)).mono (fun y hy => List.mem_append_left _ hy)), ho10.cast (by simp) rfl, hl.perm ?_⟩
    refine List.Perm.trans (show List.Perm _ (E7 ++ (E10 ++ (E3 ++ (E9 ++ (D8 ++ R))))) by simpa using List.perm_append_comm_assoc (E10 ++ (E3 ++ (E9 ++ D8))) E7 R) (List.Perm.append_left E7 ?_)
    refine List.Perm.trans (show List.Perm _ (D8 ++ (E10 ++ (E3 ++ (E9 ++ R)))) by simpa using List.perm_append_comm_assoc (E10 ++ (E3 ++ E9)) D8 R) (List.Perm.append_left D8 ?_)
    simpa using List.perm_append_comm_assoc (E10 ++ E3) E9 R
  rw [q1] at hb
  have hb1 := of_decide_eq_false hb
  clear hb
  have eR : runS [] (A ++ [(op.toNat % 4, t)]) = runS [] A := by
    rw [hR]
    simp only [runS, hb0, hb1, if_false]
    split <;> simp
  refine EWp.seqR [1, 7, 8, 9, 10, 13, 18, 19, 20, 43, 61] fun K hK => ?_
  simp only [ev, fx, ↓reduceIte, Nat.reduceEqDiff, Nat.reduceLT, Nat.reduceLeDiff, Nat.reduceAdd, Nat.reduceSub, Nat.reduceMul, Int.reduceLT, Int.reduceLE, Int.reduceToNat, BitVec.reduceOfInt, BitVec.reduceToNat, reduceCtorEq, and_self, decide_true, decide_false, Bool.not_true, Bool.not_false, ne_eq, not_true_eq_false, not_false_eq_true, true_and, and_true]
  refine hK _ _ (EWp.cond (b := op % 4#8 == 2#8) rfl (fun hb => ?_) (fun hb => ?_)) <;> clear hK K
  · rw [q2] at hb
    have hb := of_decide_eq_true hb
    have eA : aftS [] (A ++ [(op.toNat % 4, t)]) = [] := by rw [hA, hb]; rfl
    refine EWp.regR [1, 7, 8, 9, 10, 18, 19, 20] fun K hK => ?_
    simp only [ev, fx, ↓reduceIte, Nat.reduceEqDiff, Nat.reduceLT, Nat.reduceLeDiff, Nat.reduceAdd, Nat.reduceSub, Nat.reduceMul, Int.reduceLT, Int.reduceLE, Int.reduceToNat, BitVec.reduceOfInt, BitVec.reduceToNat, reduceCtorEq, and_self, decide_true, decide_false, Bool.not_true, Bool.not_false, ne_eq, not_true_eq_false, not_false_eq_true, true_and, and_true]
    refine SemE.buildNil hl 5 slof_23 rfl fun b2 w4 hb2 hl => ?_
    simp only [ev, fx, ↓reduceIte, Nat.reduceEqDiff, Nat.reduceLT, Nat.reduceLeDiff, Nat.reduceAdd, Nat.reduceSub, Nat.reduceMul, Int.reduceLT, Int.reduceLE, Int.reduceToNat, BitVec.reduceOfInt, BitVec.reduceToNat, reduceCtorEq, and_self, decide_true, decide_false, Bool.not_true, Bool.not_false, ne_eq, not_true_eq_false, not_false_eq_true, true_and, and_true]
    refine hK _ _ fun S1 h1 => ?_
    simp only [BlockE, ThenE]
    simp only [List.append_assoc] at hl
    have hl := hl.sub (List.Sublist.append_left (List.sublist_append_right D8 (D9 ++ (D10 ++ (H1 ++ [(b2, 5, [])])))) E7)
    refine ⟨v7, _, v9, v10, h1, by rw [eA]; simp, es ++ [SV.sl av t.length cv], fs, ts, E7, [(b2, 5, [])], D9, D10, H1, hes', het', ho7, (Own.full (by simp) (by unfold maxLen; omega)).cast (by rw [eA]; rfl) (by rw [eA]; rfl), by rw [eR]; exact hl9, ho9,
      by rw [eR]; exact hl10.mono hsub, ho10, hl.perm ?_⟩
    refine List.Perm.append_left E7 ?_
    refine List.Perm.trans ?_ (List.perm_append_comm (l₁ := D9 ++ (D10 ++ H1)))
    simp
  rw [q2] at hb
  have hb2 := of_decide_eq_false hb
  have eA : aftS [] (A ++ [(op.toNat % 4, t)]) = aftS [] A := by
    rw [hA]; simp only [aftS, hb0, hb1, hb2, if_false]
  refine EWp.skip ?_
  simp only [BlockE, ThenE]
  exact ⟨v7, v8, v9, v10, rfl, by rw [eA]; omega, es ++ [SV.sl av t.length cv], fs, ts, E7, D8, D9, D10, H1, hes', het', ho7, ho8.cast (by rw [eA]) (by rw [eA]), by rw [eR]; exact hl9, ho9, by rw [eR]; exact hl10.mono hsub, ho10, hl⟩
end Go.Proofs.YtggbaffkjfofhaaDoor
