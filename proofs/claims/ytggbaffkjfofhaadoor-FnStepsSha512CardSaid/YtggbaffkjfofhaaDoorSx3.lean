/- impl.Steps64: steps of one digest. -/
import Derived.Test.YtggbaffkjfofhaaDoorSo3
import Derived.Test.YtggbaffkjfofhaaDoorKu3
import Derived.Test.YtggbaffkjfofhaaDoorMem8
set_option linter.unusedVariables false
set_option linter.unusedSimpArgs false
namespace Go.Proofs.YtggbaffkjfofhaaDoor
open Go

/-- What stands while the steps are done. -/
def XInv (ki : Kd) (w w' : World) (b : Nat) (St : List (Nat × List B8)) (v6 : SV) : Prop :=
  ∃ (cs vs : List SV) (D6 H : List Blk), Dig ki (aftS [] St) cs ∧ Lst w H vs ((runS [] St).map fun x => x.1 ++ hashB ki x.2) ∧ Own 23 1 v6 vs.length vs D6 ∧ HL w w' [] ((b, 76, cs) :: (D6 ++ H))

theorem HL.mine {w0 w : World} {X : List Nat} {B : List Blk} (h : HL w0 w X B) : HL w w (B.map (·.1)) B :=
  ⟨rfl, rfl, rfl, Nat.le_refl _, fun _ _ _ => rfl, h.blk, h.nd, fun x hx => .inl (List.mem_map_of_mem hx)⟩

/-- A copy that is written, with other blocks behind. -/
theorem writeCopyH (b : Nat) (T q : List B8) (cs : List SV) (ki : Kd) (hd : Dig ki T cs) (w0 w : World) (hko : KO w0) (H : List Blk) (hl : HL w0 w [] ((b, 76, cs) :: H)) (v : SV) (B : List Blk) (w1 : World) (ho : Own 5 1 v q.length (q.map SV.u8) B) (hl1 : HL w w1 [] B) (hbig : q.length ≤ 60000) :
    Calls Tryd.prog 41 #[(SV.ptr ⟨b, 0, none⟩).val, v.val] w1 fun e w' => e = .returned (SV.tup2 (.nat q.length) (.raw .nilIface)).val ∧ ∃ cs', Dig ki (T ++ q) cs' ∧ HL w0 w' [] ((b, 76, cs') :: H) := by
  have hlm := hl.more hl1
  have hnd := hlm.nd
  rw [List.map_append, List.nodup_append] at hnd
  have hbB : b ∉ B.map (·.1) := fun hm => hnd.2.2 b (by simp) b hm rfl
  obtain ⟨a, c, rfl, hc, ha⟩ := ho.shape
  have hrd := ho.rd (H := []) (by rw [List.append_nil]; exact hl1) rfl
  have hoff := ho.off (H := []) (by rw [List.append_nil]; exact hl1) (Y := [b]) rfl (by simpa using hbB)
  have hb0 := hl.inx _ (List.mem_cons_self ..)
  simp only [List.not_mem_nil, false_or] at hb0
  refine (writeD b T cs ki hd a q.length c q w1 (hlm.at (k := 0) rfl) (hko.keep hlm (by simp)) (by have := hko.lt; omega) hrd rfl hc ha hoff hbig).mono ?_
  rintro e w' ⟨he, cs', hd', hl'⟩
  refine ⟨he, cs', hd', ?_⟩
  have := (hlm.sub (List.sublist_append_left _ B)).call (k := 0) rfl hl'
  simpa using this

theorem permA {α : Type} (x y z : α) (B D H : List α) : ((B ++ ([x] ++ y :: (D ++ H))) ++ [z]).Perm (D ++ (y :: (H ++ (B ++ [x, z])))) := by
  classical
  rw [List.perm_iff_count]
  intro a
  simp only [List.count_append, List.count_cons, List.count_nil]
  omega

theorem aftS_len : ∀ (s : List (Nat × List B8)) (text : List B8), (∀ x ∈ s, x.2.length ≤ 5000) → (aftS text s).length ≤ text.length + 5000 * s.length
  | [], text, _ => by simp [aftS]
  | (k, b) :: s, text, h => by
    have hb := h (k, b) (by simp)
    have ht : ∀ x ∈ s, x.2.length ≤ 5000 := fun x hx => h x (by simp [hx])
    simp only [aftS, List.length_cons]
    simp only at hb
    split
    · have := aftS_len s (text ++ b) ht; rw [List.length_append] at this; omega
    · split
      · have := aftS_len s text ht; omega
      · split
        · have := aftS_len s [] ht; simp at this; omega
        · have := aftS_len s text ht; omega

/-- The bytes of steps. -/
def tot (s : List (Nat × List B8)) : Nat := (s.map fun x => x.2.length).sum
theorem tot_append (s s' : List (Nat × List B8)) : tot (s ++ s') = tot s + tot s' := by simp [tot]
theorem runS_bnd (N : Nat) : ∀ (s : List (Nat × List B8)) (text : List B8), text.length + tot s ≤ N → ∀ x ∈ runS text s, x.1.length ≤ N ∧ x.2.length ≤ N
  | [], text, _, x, hx => by simp [runS] at hx
  | (k, b) :: s, text, h, x, hx => by
    have ht : tot ((k, b) :: s) = b.length + tot s := by simp [tot]
    rw [ht] at h
    simp only [runS] at hx
    split at hx
    · exact runS_bnd N s (text ++ b) (by rw [List.length_append]; omega) x hx
    · split at hx
      · rcases List.mem_cons.1 hx with rfl | hx
        · exact ⟨by simp only; omega, by simp only; omega⟩
        · exact runS_bnd N s text (by omega) x hx
      · split at hx
        · exact runS_bnd N s [] (by simp; omega) x hx
        · exact runS_bnd N s text (by omega) x hx
theorem tot_stL (os : List B8) (dd : List (List B8)) : ∀ i, tot (stL os dd i) = (cat (dd.take i)).length
  | 0 => by simp [stL, tot, cat]
  | i + 1 => by
    rw [stL_succ, tot_append, tot_stL os dd i]
    by_cases h : i < dd.length
    · rw [cat_take_succ dd i h, List.length_append]; simp [tot, stp]
    · rw [List.take_of_length_le (by omega), List.take_of_length_le (by omega)]
      simp [tot, stp, List.getD_eq_getElem?_getD, List.getElem?_eq_none (Nat.le_of_not_lt h)]
theorem cat_take_le (dd : List (List B8)) (i : Nat) : (cat (dd.take i)).length ≤ (cat dd).length := by
  have h2 : cat dd = cat (dd.take i) ++ cat (dd.drop i) := by unfold cat; rw [← List.flatten_append, List.take_append_drop]
  rw [h2, List.length_append]; omega
theorem stL_four {os : List B8} {dd : List (List B8)} (h : (cat dd).length ≤ 5000) (n : Nat) : ∀ s ∈ stL os dd n ++ [(1, [])], s.1 < 4 ∧ s.2.length ≤ 5000 := by
  intro s hs
  rcases List.mem_append.1 hs with hs | hs
  · obtain ⟨j, _, rfl⟩ := List.mem_map.1 hs
    exact ⟨Nat.mod_lt _ (by omega), cat_mem_le h j⟩
  · obtain rfl := List.mem_singleton.1 hs
    exact ⟨by omega, by simp⟩

theorem pairAt {α : Type} (g h : α → SV) : ∀ (l : List α) (i : Nat), (l.flatMap fun x => [g x, h x])[i * 2]? = l[i]?.map g ∧ (l.flatMap fun x => [g x, h x])[i * 2 + 1]? = l[i]?.map h
  | [], i => by simp
  | x :: l, 0 => by simp
  | x :: l, i + 1 => by
    have := pairAt g h l i
    rw [show (i + 1) * 2 = i * 2 + 1 + 1 by omega]
    simpa using this

set_option maxRecDepth 100000 in
theorem stepsC (ki : Kd) (a : Option Addr) (m c : Nat) (es : List SV) (St : List (Nat × List B8)) (w : World) (hko : KO w) (hm : St.length = m) (hc : m ≤ c) (ha : a = none → m = 0) (hes : es.length = m)
    (hr : Rd w a ((St.zip es).flatMap fun x => [SV.nat x.1.1, x.2])) (het : ∀ (j : Nat) (u : SV) (s : Nat × List B8), es[j]? = some u → St[j]? = some s → Txt w u s.2) (hm31 : m ≤ 31) (h4 : ∀ s ∈ St, s.1 < 4 ∧ s.2.length ≤ 5000) :
    Calls Tryd.prog 30 #[(SV.nat (kdOf ki)).val, (SV.sl a m c).val] w fun e w' => ∃ v', e = .returned v'.val ∧ Txs w' v' ((runS [] St).map fun x => x.1 ++ hashB ki x.2) ∧ Grow w w' := by
  refine calls_E [.nat (kdOf ki), .sl a m c] Tryd.func30 rfl Tryd.ntmps30 rfl ?_
  refine EWp.seqR [0, 1] fun K hK => ?_
  simp only [ev, fx, ↓reduceIte, Nat.reduceEqDiff, Nat.reduceLT, Nat.reduceLeDiff, Nat.reduceAdd, Nat.reduceSub, Nat.reduceMul, Int.reduceLT, Int.reduceLE, Int.reduceToNat, BitVec.reduceOfInt, BitVec.reduceToNat, reduceCtorEq, and_self, decide_true, decide_false, Bool.not_true, Bool.not_false, ne_eq, not_true_eq_false, not_false_eq_true, true_and, and_true]
  repeat (refine And.intro (by omega) ?_)
  refine hK _ _ ?_; clear hK K
  refine EWp.seqR [0, 1, 5] fun K hK => ?_
  simp only [ev, fx, ↓reduceIte, Nat.reduceEqDiff, Nat.reduceLT, Nat.reduceLeDiff, Nat.reduceAdd, Nat.reduceSub, Nat.reduceMul, Int.reduceLT, Int.reduceLE, Int.reduceToNat, BitVec.reduceOfInt, BitVec.reduceToNat, reduceCtorEq, and_self, decide_true, decide_false, Bool.not_true, Bool.not_false, ne_eq, not_true_eq_false, not_false_eq_true, true_and, and_true]
  refine SemE.call fn_40 rfl rfl (new64_k ki _) ?_
  rintro _ w1 ⟨b, hb, rfl, hl⟩
  refine ⟨_, rfl, ?_⟩
  simp only [ev, fx, ↓reduceIte, Nat.reduceEqDiff, Nat.reduceLT, Nat.reduceLeDiff, Nat.reduceAdd, Nat.reduceSub, Nat.reduceMul, Int.reduceLT, Int.reduceLE, Int.reduceToNat, BitVec.reduceOfInt, BitVec.reduceToNat, reduceCtorEq, and_self, decide_true, decide_false, Bool.not_true, Bool.not_false, ne_eq, not_true_eq_false, not_false_eq_true, true_and, and_true]
  repeat (refine And.intro (by omega) ?_)
  refine hK _ _ ?_; clear hK K
  refine EWp.ifR [0, 1, 5, 15] fun K hK => ?_
  simp only [ev, fx, ↓reduceIte, Nat.reduceEqDiff, Nat.reduceLT, Nat.reduceLeDiff, Nat.reduceAdd, Nat.reduceSub, Nat.reduceMul, Int.reduceLT, Int.reduceLE, Int.reduceToNat, BitVec.reduceOfInt, BitVec.reduceToNat, reduceCtorEq, and_self, decide_true, decide_false, Bool.not_true, Bool.not_false, ne_eq, not_true_eq_false, not_false_eq_true, true_and, and_true]
  refine SemE.plain _ (Plain.eqlNil (some ⟨b, 0, none⟩) ptr_58 rfl rfl rfl) rfl ?_
  simp only [ev, fx, ↓reduceIte, Nat.reduceEqDiff, Nat.reduceLT, Nat.reduceLeDiff, Nat.reduceAdd, Nat.reduceSub, Nat.reduceMul, Int.reduceLT, Int.reduceLE, Int.reduceToNat, BitVec.reduceOfInt, BitVec.reduceToNat, reduceCtorEq, and_self, decide_true, decide_false, Bool.not_true, Bool.not_false, ne_eq, not_true_eq_false, not_false_eq_true, true_and, and_true]
  refine hK _ _ false rfl (fun h => by cases h) (fun _ => ?_); clear hK K
  refine EWp.skipThen ?_
  refine EWp.seqR [0, 1, 5, 6] fun K hK => ?_
  simp only [ev, fx, ↓reduceIte, Nat.reduceEqDiff, Nat.reduceLT, Nat.reduceLeDiff, Nat.reduceAdd, Nat.reduceSub, Nat.reduceMul, Int.reduceLT, Int.reduceLE, Int.reduceToNat, BitVec.reduceOfInt, BitVec.reduceToNat, reduceCtorEq, and_self, decide_true, decide_false, Bool.not_true, Bool.not_false, ne_eq, not_true_eq_false, not_false_eq_true, true_and, and_true]
  repeat (refine And.intro (by omega) ?_)
  refine hK _ _ ?_; clear hK K
  have hd : Dig ki [] (digC (initOf ki) (List.replicate 128 0) 0 0 ki) := Dig.new ki _ (by simp)
  have hX : XInv ki w w1 b (St.take 0) (.sl none 0 0) := ⟨_, [], [], [], hd, Lst.nil _ _, Own.nil _ _, hl⟩
  clear hl hd
  refine EWp.cut [6] (fun S' w' => ∃ b v6, S' = [(6, v6)] ∧ XInv ki w w' b St v6) ?_ ?_
  case refine_2 =>
    clear hX
    rintro S' w' ⟨b, v6, rfl, cs, vs, D6, H, hd, hv, ho, hl⟩
    refine EWp.seqR [4] fun K hK => ?_
    simp only [ev, fx, ↓reduceIte, Nat.reduceEqDiff, Nat.reduceLT, Nat.reduceLeDiff, Nat.reduceAdd, Nat.reduceSub, Nat.reduceMul, Int.reduceLT, Int.reduceLE, Int.reduceToNat, BitVec.reduceOfInt, BitVec.reduceToNat, reduceCtorEq, and_self, decide_true, decide_false, Bool.not_true, Bool.not_false, ne_eq, not_true_eq_false, not_false_eq_true, true_and, and_true]
    repeat (refine And.intro (by omega) ?_)
    refine hK _ _ ?_; clear hK K
    refine EWp.ret (BodyE.tmp1 rfl rfl ⟨v6, rfl, ?_, hl.toGrow⟩)
    have hl2 : HL w w' [] (D6 ++ H) := hl.sub (List.sublist_cons_self _ _)
    exact hv.txs ho hl2 (hl2.sub (List.sublist_append_right _ _))
  generalize (SV.sl none 0 0) = v6 at hX ⊢
  refine EWp.seqR [0, 5, 6, 16, 17, 18] fun K hK => ?_
  simp only [ev, fx, ↓reduceIte, Nat.reduceEqDiff, Nat.reduceLT, Nat.reduceLeDiff, Nat.reduceAdd, Nat.reduceSub, Nat.reduceMul, Int.reduceLT, Int.reduceLE, Int.reduceToNat, BitVec.reduceOfInt, BitVec.reduceToNat, reduceCtorEq, and_self, decide_true, decide_false, Bool.not_true, Bool.not_false, ne_eq, not_true_eq_false, not_false_eq_true, true_and, and_true]
  repeat (refine And.intro (by omega) ?_)
  refine hK _ _ ?_; clear hK K
  refine EWp.block ?_
  refine EWp.loop [0, 5, 6, 16, 17, 18] (fun k S' w' => ∃ i b v6, i ≤ m ∧ k = m - i ∧ S' = [(0, .nat (kdOf ki)), (5, .ptr ⟨b, 0, none⟩), (6, v6), (16, .sl a m c), (17, .nat m), (18, .nat i)] ∧ XInv ki w w' b (St.take i) v6) m ?_ ?_
  case refine_1 => exact ⟨0, _, _, by omega, rfl, rfl, hX⟩
  clear hX hb b v6
  rintro k S' w' ⟨i, b, v6, hi, rfl, rfl, hX⟩
  refine EWp.seqR [0, 5, 6, 16, 17, 18, 19] fun K hK => ?_
  simp only [ev, fx, ↓reduceIte, Nat.reduceEqDiff, Nat.reduceLT, Nat.reduceLeDiff, Nat.reduceAdd, Nat.reduceSub, Nat.reduceMul, Int.reduceLT, Int.reduceLE, Int.reduceToNat, BitVec.reduceOfInt, BitVec.reduceToNat, reduceCtorEq, and_self, decide_true, decide_false, Bool.not_true, Bool.not_false, ne_eq, not_true_eq_false, not_false_eq_true, true_and, and_true]
  repeat (refine And.intro (by omega) ?_)
  refine hK _ _ ?_; clear hK K
  refine EWp.guard (b := decide (i < m)) rfl (fun hlt => ?_) (fun hlt => ?_)
  case refine_2 =>
    have hlt := of_decide_eq_false hlt
    simp only [BlockE, ThenE, ↓reduceIte]
    rw [List.take_of_length_le (by omega)] at hX
    exact ⟨_, _, rfl, hX⟩
  have hlt := of_decide_eq_true hlt
  refine EWp.cut [0, 5, 6, 16, 17, 18] (fun S' w' => ∃ b v6, S' = [(0, .nat (kdOf ki)), (5, .ptr ⟨b, 0, none⟩), (6, v6), (16, .sl a m c), (17, .nat m), (18, .nat i)] ∧ XInv ki w w' b (St.take (i + 1)) v6) ?_ ?_
  case refine_2 =>
    clear hX
    rintro S' w' ⟨b, v6, rfl, hX⟩
    refine EWp.regR [0, 5, 6, 16, 17, 18] fun K hK => ?_
    simp only [ev, fx, ↓reduceIte, Nat.reduceEqDiff, Nat.reduceLT, Nat.reduceLeDiff, Nat.reduceAdd, Nat.reduceSub, Nat.reduceMul, Int.reduceLT, Int.reduceLE, Int.reduceToNat, BitVec.reduceOfInt, BitVec.reduceToNat, reduceCtorEq, and_self, decide_true, decide_false, Bool.not_true, Bool.not_false, ne_eq, not_true_eq_false, not_false_eq_true, true_and, and_true]
    exact ⟨by omega, hK _ _ fun S1 h1 => ⟨m - i - 1, by omega, i + 1, b, v6, by omega, by omega, h1, hX⟩⟩
  obtain ⟨p, rfl⟩ : ∃ p, a = some p := by
    cases a with
    | none => have := ha rfl; omega
    | some p => exact ⟨p, rfl⟩
  obtain ⟨cs, vs, D6, H, hd, hv, ho, hl⟩ := hX
  obtain ⟨s, hs⟩ : ∃ s, St[i]? = some s := ⟨_, List.getElem?_eq_getElem (by omega)⟩
  obtain ⟨u, hu⟩ : ∃ u, es[i]? = some u := ⟨_, List.getElem?_eq_getElem (by omega)⟩
  have hz : (St.zip es)[i]? = some (s, u) := by simp [List.getElem?_zip_eq_some, hs, hu]
  have hp := pairAt (fun x : (Nat × List B8) × SV => SV.nat x.1.1) (fun x => x.2) (St.zip es) i
  rw [hz] at hp
  have hr2 : Rd w' (some (p.add (i * 2))) [SV.nat s.1, u] := fun j v hj => by
    match j, hj with
    | 0, hj =>
      simp at hj; subst hj
      obtain ⟨q, hq, h1, h2⟩ := (hr.grow hl.toGrow) (i * 2) _ hp.1
      cases hq
      exact ⟨_, rfl, by rw [Addr.add_block]; exact h1, by rw [Addr.add_add]; exact h2⟩
    | 1, hj =>
      simp at hj; subst hj
      obtain ⟨q, hq, h1, h2⟩ := (hr.grow hl.toGrow) (i * 2 + 1) _ hp.2
      cases hq
      exact ⟨_, rfl, by rw [Addr.add_block]; exact h1, by rw [Addr.add_add]; exact h2⟩
    | j + 2, hj => simp at hj
  obtain ⟨au, cu, rfl, hcu, hau, hru⟩ := het i u s hu hs
  refine EWp.block ?_
  refine EWp.seqR [0, 5, 6, 8, 16, 17, 18] fun K hK => ?_
  simp only [ev, fx, ↓reduceIte, Nat.reduceEqDiff, Nat.reduceLT, Nat.reduceLeDiff, Nat.reduceAdd, Nat.reduceSub, Nat.reduceMul, Int.reduceLT, Int.reduceLE, Int.reduceToNat, BitVec.reduceOfInt, BitVec.reduceToNat, reduceCtorEq, and_self, decide_true, decide_false, Bool.not_true, Bool.not_false, ne_eq, not_true_eq_false, not_false_eq_true, true_and, and_true]
  refine ⟨hlt, SemE.loadA (vs := [.nat s.1, .sl au s.2.length cu]) rfl (by kernel_rfl) rfl hr2 ?_⟩
  simp only [ev, fx, ↓reduceIte, Nat.reduceEqDiff, Nat.reduceLT, Nat.reduceLeDiff, Nat.reduceAdd, Nat.reduceSub, Nat.reduceMul, Int.reduceLT, Int.reduceLE, Int.reduceToNat, BitVec.reduceOfInt, BitVec.reduceToNat, reduceCtorEq, and_self, decide_true, decide_false, Bool.not_true, Bool.not_false, ne_eq, not_true_eq_false, not_false_eq_true, true_and, and_true]
  refine SemE.alloc hl (cs := [.nat 0, .sl none 0 0]) (by unfold zeroIs; kernel_rfl) rfl fun b8 w2 hb8 hl => ?_
  simp only [ev, fx, ↓reduceIte, Nat.reduceEqDiff, Nat.reduceLT, Nat.reduceLeDiff, Nat.reduceAdd, Nat.reduceSub, Nat.reduceMul, Int.reduceLT, Int.reduceLE, Int.reduceToNat, BitVec.reduceOfInt, BitVec.reduceToNat, reduceCtorEq, and_self, decide_true, decide_false, Bool.not_true, Bool.not_false, ne_eq, not_true_eq_false, not_false_eq_true, true_and, and_true]
  have hl := hl.perm List.perm_append_comm
  refine SemE.storeA hl 0 (vs := [.nat s.1, .sl au s.2.length cu]) rfl rfl (by kernel_rfl) (by simp [SV.isOne]) rfl (by simp) fun w3 hl => ?_
  simp only [ev, fx, ↓reduceIte, Nat.reduceEqDiff, Nat.reduceLT, Nat.reduceLeDiff, Nat.reduceAdd, Nat.reduceSub, Nat.reduceMul, Int.reduceLT, Int.reduceLE, Int.reduceToNat, BitVec.reduceOfInt, BitVec.reduceToNat, reduceCtorEq, and_self, decide_true, decide_false, Bool.not_true, Bool.not_false, ne_eq, not_true_eq_false, not_false_eq_true, true_and, and_true]
  repeat (refine And.intro (by omega) ?_)
  refine hK _ _ ?_; clear hK K
  have hl : HL w w3 [] ([(b8, 69, [.nat s.1, .sl au s.2.length cu])] ++ ((b, 76, cs) :: (D6 ++ H))) := hl
  refine EWp.seqR [0, 5, 6, 8, 16, 17, 18, 23] fun K hK => ?_
  simp only [ev, fx, ↓reduceIte, Nat.reduceEqDiff, Nat.reduceLT, Nat.reduceLeDiff, Nat.reduceAdd, Nat.reduceSub, Nat.reduceMul, Int.reduceLT, Int.reduceLE, Int.reduceToNat, BitVec.reduceOfInt, BitVec.reduceToNat, reduceCtorEq, and_self, decide_true, decide_false, Bool.not_true, Bool.not_false, ne_eq, not_true_eq_false, not_false_eq_true, true_and, and_true]
  refine SemE.loadB hl 0 rfl one_3 rfl rfl rfl ?_
  simp only [ev, fx, ↓reduceIte, Nat.reduceEqDiff, Nat.reduceLT, Nat.reduceLeDiff, Nat.reduceAdd, Nat.reduceSub, Nat.reduceMul, Int.reduceLT, Int.reduceLE, Int.reduceToNat, BitVec.reduceOfInt, BitVec.reduceToNat, reduceCtorEq, and_self, decide_true, decide_false, Bool.not_true, Bool.not_false, ne_eq, not_true_eq_false, not_false_eq_true, true_and, and_true]
  repeat (refine And.intro (by omega) ?_)
  refine hK _ _ ?_; clear hK K
  have ht1 : St.take (i + 1) = St.take i ++ [s] := by rw [List.take_add_one, hs]; rfl
  rw [ht1]
  have hA := aftS_append (St.take i) [s] []
  have hL := aftS_len (St.take i) [] (fun x hx => (h4 x (List.mem_of_mem_take hx)).2)
  have hLt : (St.take i).length ≤ 31 := by rw [List.length_take]; omega
  simp only [List.length_nil] at hL
  have hR := runS_append (St.take i) [s] []
  obtain ⟨h4a, h4b⟩ := h4 s (List.mem_of_getElem? hs)
  obtain ⟨k, t⟩ := s
  simp only at hru hau hcu h4a h4b hl ⊢
  refine EWp.block ?_
  refine EWp.seqR [0, 5, 6, 8, 16, 17, 18, 23, 24] fun K hK => ?_
  simp only [ev, fx, ↓reduceIte, Nat.reduceEqDiff, Nat.reduceLT, Nat.reduceLeDiff, Nat.reduceAdd, Nat.reduceSub, Nat.reduceMul, Int.reduceLT, Int.reduceLE, Int.reduceToNat, BitVec.reduceOfInt, BitVec.reduceToNat, reduceCtorEq, and_self, decide_true, decide_false, Bool.not_true, Bool.not_false, ne_eq, not_true_eq_false, not_false_eq_true, true_and, and_true]
  refine hK _ _ (EWp.cond (b := decide (k = 0)) rfl (fun hb => ?_) (fun hb => ?_)) <;> clear hK K
  · have hb := of_decide_eq_true hb
    subst hb
    have eA : aftS [] (St.take i ++ [(0, t)]) = aftS [] (St.take i) ++ t := by rw [hA]; rfl
    have eR : runS [] (St.take i ++ [(0, t)]) = runS [] (St.take i) := by rw [hR]; simp [runS]
    refine EWp.regR [0, 5, 6, 16, 17, 18] fun K hK => ?_
    simp only [ev, fx, ↓reduceIte, Nat.reduceEqDiff, Nat.reduceLT, Nat.reduceLeDiff, Nat.reduceAdd, Nat.reduceSub, Nat.reduceMul, Int.reduceLT, Int.reduceLE, Int.reduceToNat, BitVec.reduceOfInt, BitVec.reduceToNat, reduceCtorEq, and_self, decide_true, decide_false, Bool.not_true, Bool.not_false, ne_eq, not_true_eq_false, not_false_eq_true, true_and, and_true]
    refine SemE.loadB hl 0 (v := .sl au t.length cu) rfl one_23 rfl rfl rfl ?_
    simp only [ev, fx, ↓reduceIte, Nat.reduceEqDiff, Nat.reduceLT, Nat.reduceLeDiff, Nat.reduceAdd, Nat.reduceSub, Nat.reduceMul, Int.reduceLT, Int.reduceLE, Int.reduceToNat, BitVec.reduceOfInt, BitVec.reduceToNat, reduceCtorEq, and_self, decide_true, decide_false, Bool.not_true, Bool.not_false, ne_eq, not_true_eq_false, not_false_eq_true, true_and, and_true]
    refine SemE.call fn_33 rfl rfl (copiedC au t.length cu (t.map SV.u8) _ (hru.grow hl.toGrow) (by simp) hau (isOneB t) (by omega)) ?_
    rintro _ w4 ⟨v2, B, rfl, ho2, hl2⟩
    refine ⟨_, rfl, ?_⟩
    simp only [ev, fx, ↓reduceIte, Nat.reduceEqDiff, Nat.reduceLT, Nat.reduceLeDiff, Nat.reduceAdd, Nat.reduceSub, Nat.reduceMul, Int.reduceLT, Int.reduceLE, Int.reduceToNat, BitVec.reduceOfInt, BitVec.reduceToNat, reduceCtorEq, and_self, decide_true, decide_false, Bool.not_true, Bool.not_false, ne_eq, not_true_eq_false, not_false_eq_true, true_and, and_true]
    have hlf := hl.perm (List.perm_append_comm_assoc [(b8, 69, [SV.nat 0, SV.sl au t.length cu])] [(b, 76, cs)] (D6 ++ H))
    refine SemE.call fn_41 rfl rfl (writeCopyH b _ t cs ki hd w _ hko _ hlf v2 B w4 ho2 hl2 (by omega)) ?_
    rintro _ w5 ⟨rfl, cs', hd', hl3⟩
    refine ⟨_, rfl, ?_⟩
    simp only [ev, fx, ↓reduceIte, Nat.reduceEqDiff, Nat.reduceLT, Nat.reduceLeDiff, Nat.reduceAdd, Nat.reduceSub, Nat.reduceMul, Int.reduceLT, Int.reduceLE, Int.reduceToNat, BitVec.reduceOfInt, BitVec.reduceToNat, reduceCtorEq, and_self, decide_true, decide_false, Bool.not_true, Bool.not_false, ne_eq, not_true_eq_false, not_false_eq_true, true_and, and_true]
    refine hK _ _ fun S1 h1 => ?_
    simp only [BlockE, ThenE]
    exact ⟨b, v6, h1, cs', vs, D6, H, by rw [eA]; exact hd', by rw [eR]; exact hv, ho, hl3.sub (List.Sublist.cons_cons _ (List.sublist_append_right [_] (D6 ++ H)))⟩
  have hb0 := of_decide_eq_false hb
  clear hb
  refine EWp.seqR [0, 5, 6, 8, 16, 17, 18, 23, 31] fun K hK => ?_
  simp only [ev, fx, ↓reduceIte, Nat.reduceEqDiff, Nat.reduceLT, Nat.reduceLeDiff, Nat.reduceAdd, Nat.reduceSub, Nat.reduceMul, Int.reduceLT, Int.reduceLE, Int.reduceToNat, BitVec.reduceOfInt, BitVec.reduceToNat, reduceCtorEq, and_self, decide_true, decide_false, Bool.not_true, Bool.not_false, ne_eq, not_true_eq_false, not_false_eq_true, true_and, and_true]
  refine hK _ _ (EWp.cond (b := decide (k = 1)) rfl (fun hb => ?_) (fun hb => ?_)) <;> clear hK K
  · have hb := of_decide_eq_true hb
    subst hb
    have eA : aftS [] (St.take i ++ [(1, t)]) = aftS [] (St.take i) := by rw [hA]; rfl
    have eR : runS [] (St.take i ++ [(1, t)]) = runS [] (St.take i) ++ [(t, aftS [] (St.take i))] := by rw [hR]; rfl
    refine EWp.regR [0, 5, 6, 16, 17, 18] fun K hK => ?_
    simp only [ev, fx, ↓reduceIte, Nat.reduceEqDiff, Nat.reduceLT, Nat.reduceLeDiff, Nat.reduceAdd, Nat.reduceSub, Nat.reduceMul, Int.reduceLT, Int.reduceLE, Int.reduceToNat, BitVec.reduceOfInt, BitVec.reduceToNat, reduceCtorEq, and_self, decide_true, decide_false, Bool.not_true, Bool.not_false, ne_eq, not_true_eq_false, not_false_eq_true, true_and, and_true]
    refine SemE.loadB hl 0 (v := .sl au t.length cu) rfl one_23 rfl rfl rfl ?_
    simp only [ev, fx, ↓reduceIte, Nat.reduceEqDiff, Nat.reduceLT, Nat.reduceLeDiff, Nat.reduceAdd, Nat.reduceSub, Nat.reduceMul, Int.reduceLT, Int.reduceLE, Int.reduceToNat, BitVec.reduceOfInt, BitVec.reduceToNat, reduceCtorEq, and_self, decide_true, decide_false, Bool.not_true, Bool.not_false, ne_eq, not_true_eq_false, not_false_eq_true, true_and, and_true]
    refine SemE.call fn_33 rfl rfl (copiedC au t.length cu (t.map SV.u8) _ (hru.grow hl.toGrow) (by simp) hau (isOneB t) (by omega)) ?_
    rintro _ w4 ⟨v2, B, rfl, ho2, hl2⟩
    refine ⟨_, rfl, ?_⟩
    simp only [ev, fx, ↓reduceIte, Nat.reduceEqDiff, Nat.reduceLT, Nat.reduceLeDiff, Nat.reduceAdd, Nat.reduceSub, Nat.reduceMul, Int.reduceLT, Int.reduceLE, Int.reduceToNat, BitVec.reduceOfInt, BitVec.reduceToNat, reduceCtorEq, and_self, decide_true, decide_false, Bool.not_true, Bool.not_false, ne_eq, not_true_eq_false, not_false_eq_true, true_and, and_true]
    have hlm := hl.more hl2
    have hnd := hlm.nd
    rw [List.map_append, List.nodup_append] at hnd
    have hbB : b ∉ B.map (·.1) := fun hm => hnd.2.2 b (by simp) b hm rfl
    have hkB : 0 ∉ B.map (·.1) := fun hm => by
      obtain ⟨y, hy, e⟩ := List.mem_map.1 hm
      have h1 := hl2.inx y hy
      have h2 := (hko.keep hl (by simp)).lt
      simp only [List.not_mem_nil, false_or] at h1
      omega
    refine SemE.call fn_39 rfl rfl (sumD b _ cs ki hd v2 t.length _ B w4 (hlm.at (k := 1) rfl) (hko.keep hlm (by simp)) ho2 hl2.mine hbB hkB (by omega) (by omega)) ?_
    rintro _ w5 ⟨v3, B3, rfl, ho3, hl3⟩
    refine ⟨_, rfl, ?_⟩
    have hl5 := (hlm.perm List.perm_append_comm).callB hl3
    have ho3 : Own 5 1 v3 (t ++ hashB ki (aftS [] (St.take i))).length ((t ++ hashB ki (aftS [] (St.take i))).map SV.u8) B3 := ho3.cast (by rw [List.length_append, hashB_len]) (by rw [List.map_append])
    have h3 : v3.isOne = true := by
      obtain ⟨a3, c3, rfl, _, _⟩ := ho3.shape
      rfl
    simp only [ev, fx, ↓reduceIte, Nat.reduceEqDiff, Nat.reduceLT, Nat.reduceLeDiff, Nat.reduceAdd, Nat.reduceSub, Nat.reduceMul, Int.reduceLT, Int.reduceLE, Int.reduceToNat, BitVec.reduceOfInt, BitVec.reduceToNat, reduceCtorEq, and_self, decide_true, decide_false, Bool.not_true, Bool.not_false, ne_eq, not_true_eq_false, not_false_eq_true, true_and, and_true]
    have hvl : vs.length ≤ 31 := by
      rw [hv.1, List.length_map]
      exact Nat.le_trans (runS_len _ _) hLt
    refine SemE.buildSlice (vs := [v3]) hl5 23 slof_28 (by simp [partsSV, Env.op, Env.get, h3]) rfl (by decide) rfl fun b2 w6 hb2 hl => ?_
    simp only [ev, fx, ↓reduceIte, Nat.reduceEqDiff, Nat.reduceLT, Nat.reduceLeDiff, Nat.reduceAdd, Nat.reduceSub, Nat.reduceMul, Int.reduceLT, Int.reduceLE, Int.reduceToNat, BitVec.reduceOfInt, BitVec.reduceToNat, reduceCtorEq, and_self, decide_true, decide_false, Bool.not_true, Bool.not_false, ne_eq, not_true_eq_false, not_false_eq_true, true_and, and_true]
    have hr2 : Rd w6 (some ⟨b2, 0, none⟩) [v3] := Rd.blk (hl.sub (List.sublist_append_right _ [(b2, 23, [v3])])) (k := 0) rfl 0 1
    have hl := hl.perm (show List.Perm _ (D6 ++ ((b, 76, cs) :: (H ++ (B3 ++ [(b8, 69, [SV.nat 1, SV.sl au t.length cu]), (b2, 23, [v3])])))) from permA _ _ _ _ _ _)
    refine SemE.append hl ho slof_28 rfl rfl rfl hr2 rfl (fun h => by cases h) (by simp [h3]) (by omega) rfl fun v6 E6 w7 ho hl _ => ?_
    simp only [ev, fx, ↓reduceIte, Nat.reduceEqDiff, Nat.reduceLT, Nat.reduceLeDiff, Nat.reduceAdd, Nat.reduceSub, Nat.reduceMul, Int.reduceLT, Int.reduceLE, Int.reduceToNat, BitVec.reduceOfInt, BitVec.reduceToNat, reduceCtorEq, and_self, decide_true, decide_false, Bool.not_true, Bool.not_false, ne_eq, not_true_eq_false, not_false_eq_true, true_and, and_true]
    refine hK _ _ fun S1 h1 => ?_
    simp only [BlockE, ThenE]
    refine ⟨b, v6, h1, cs, vs ++ [v3], E6, H ++ B3, by rw [eA]; exact hd, ?_, ho.cast (by simp) rfl, ?_⟩
    · rw [eR, List.map_append]
      exact (hv.mono (fun y hy => List.mem_append_left _ hy)).snoc ((ho3.elem (Txt.nil _ _ _)).mono (fun y hy => List.mem_append_right _ hy))
    · have hl := hl.sub (List.Sublist.append_left (List.Sublist.cons_cons _ (List.Sublist.append_left (List.sublist_append_left B3 _) H)) E6)
      exact hl.perm List.perm_middle
  have hb1 := of_decide_eq_false hb
  clear hb
  have eR : runS [] (St.take i ++ [(k, t)]) = runS [] (St.take i) := by
    rw [hR]
    simp only [runS, hb0, hb1, if_false]
    split <;> simp
  have hlf := hl.perm (List.perm_append_comm_assoc [(b8, 69, [SV.nat k, SV.sl au t.length cu])] [(b, 76, cs)] (D6 ++ H))
  have hlq : HL w w3 [] ((b, 76, cs) :: (D6 ++ H)) := hlf.sub (List.Sublist.cons_cons _ (List.sublist_append_right [_] (D6 ++ H)))
  clear hlf
  refine EWp.seqR [0, 5, 6, 16, 17, 18, 23, 41] fun K hK => ?_
  simp only [ev, fx, ↓reduceIte, Nat.reduceEqDiff, Nat.reduceLT, Nat.reduceLeDiff, Nat.reduceAdd, Nat.reduceSub, Nat.reduceMul, Int.reduceLT, Int.reduceLE, Int.reduceToNat, BitVec.reduceOfInt, BitVec.reduceToNat, reduceCtorEq, and_self, decide_true, decide_false, Bool.not_true, Bool.not_false, ne_eq, not_true_eq_false, not_false_eq_true, true_and, and_true]
  refine hK _ _ (EWp.cond (b := decide (k = 2)) rfl (fun hb => ?_) (fun hb => ?_)) <;> clear hK K
  · have hb := of_decide_eq_true hb
    subst hb
    have eA : aftS [] (St.take i ++ [(2, t)]) = [] := by rw [hA]; rfl
    obtain ⟨x, hx, htk, rfl⟩ := hd
    refine EWp.regR [0, 5, 6, 16, 17, 18] fun K hK => ?_
    simp only [ev, fx, ↓reduceIte, Nat.reduceEqDiff, Nat.reduceLT, Nat.reduceLeDiff, Nat.reduceAdd, Nat.reduceSub, Nat.reduceMul, Int.reduceLT, Int.reduceLE, Int.reduceToNat, BitVec.reduceOfInt, BitVec.reduceToNat, reduceCtorEq, and_self, decide_true, decide_false, Bool.not_true, Bool.not_false, ne_eq, not_true_eq_false, not_false_eq_true, true_and, and_true]
    refine SemE.call fn_42 rfl rfl (reset3 b _ x _ _ ki hx w3 (hlq.at (k := 0) rfl)) ?_
    rintro _ w4 ⟨rfl, hl2⟩
    refine ⟨_, rfl, ?_⟩
    simp only [ev, fx, ↓reduceIte, Nat.reduceEqDiff, Nat.reduceLT, Nat.reduceLeDiff, Nat.reduceAdd, Nat.reduceSub, Nat.reduceMul, Int.reduceLT, Int.reduceLE, Int.reduceToNat, BitVec.reduceOfInt, BitVec.reduceToNat, reduceCtorEq, and_self, decide_true, decide_false, Bool.not_true, Bool.not_false, ne_eq, not_true_eq_false, not_false_eq_true, true_and, and_true]
    refine hK _ _ fun S1 h1 => ?_
    simp only [BlockE, ThenE]
    exact ⟨b, v6, h1, digC (initOf ki) x 0 0 ki, vs, D6, H, by rw [eA]; exact ⟨x, hx, by simp, by rw [blocks_lo (initOf ki) (by simp)]; rfl⟩, by rw [eR]; exact hv, ho, by simpa using hlq.call (k := 0) rfl hl2⟩
  have hb2 := of_decide_eq_false hb
  clear hb
  obtain rfl : k = 3 := by omega
  have eA : aftS [] (St.take i ++ [(3, t)]) = aftS [] (St.take i) := by rw [hA]; rfl
  refine EWp.seqR [0, 5, 6, 16, 17, 18, 23, 45] fun K hK => ?_
  simp only [ev, fx, ↓reduceIte, Nat.reduceEqDiff, Nat.reduceLT, Nat.reduceLeDiff, Nat.reduceAdd, Nat.reduceSub, Nat.reduceMul, Int.reduceLT, Int.reduceLE, Int.reduceToNat, BitVec.reduceOfInt, BitVec.reduceToNat, reduceCtorEq, and_self, decide_true, decide_false, Bool.not_true, Bool.not_false, ne_eq, not_true_eq_false, not_false_eq_true, true_and, and_true]
  refine hK _ _ (EWp.cond (b := true) rfl (fun hb => ?_) (fun hb => by cases hb)) <;> clear hK K
  refine EWp.seqR [0, 5, 6, 9, 10, 16, 17, 18] fun K hK => ?_
  simp only [ev, fx, ↓reduceIte, Nat.reduceEqDiff, Nat.reduceLT, Nat.reduceLeDiff, Nat.reduceAdd, Nat.reduceSub, Nat.reduceMul, Int.reduceLT, Int.reduceLE, Int.reduceToNat, BitVec.reduceOfInt, BitVec.reduceToNat, reduceCtorEq, and_self, decide_true, decide_false, Bool.not_true, Bool.not_false, ne_eq, not_true_eq_false, not_false_eq_true, true_and, and_true]
  refine SemE.call fn_37 rfl rfl (marD b _ cs ki hd _ (hlq.at (k := 0) rfl)) ?_
  rintro _ w4 ⟨v2, B2, rfl, ho2, hl2⟩
  refine ⟨_, rfl, ?_⟩
  have hlm := hlq.more hl2
  simp only [ev, fx, ↓reduceIte, Nat.reduceEqDiff, Nat.reduceLT, Nat.reduceLeDiff, Nat.reduceAdd, Nat.reduceSub, Nat.reduceMul, Int.reduceLT, Int.reduceLE, Int.reduceToNat, BitVec.reduceOfInt, BitVec.reduceToNat, reduceCtorEq, and_self, decide_true, decide_false, Bool.not_true, Bool.not_false, ne_eq, not_true_eq_false, not_false_eq_true, true_and, and_true]
  repeat (refine And.intro (by omega) ?_)
  refine hK _ _ ?_; clear hK K
  refine EWp.seqR [0, 5, 6, 9, 10, 11, 16, 17, 18] fun K hK => ?_
  simp only [ev, fx, ↓reduceIte, Nat.reduceEqDiff, Nat.reduceLT, Nat.reduceLeDiff, Nat.reduceAdd, Nat.reduceSub, Nat.reduceMul, Int.reduceLT, Int.reduceLE, Int.reduceToNat, BitVec.reduceOfInt, BitVec.reduceToNat, reduceCtorEq, and_self, decide_true, decide_false, Bool.not_true, Bool.not_false, ne_eq, not_true_eq_false, not_false_eq_true, true_and, and_true]
  refine SemE.call fn_40 rfl rfl (new64_k ki _) ?_
  rintro _ w5 ⟨bn, hbn, rfl, hl3⟩
  refine ⟨_, rfl, ?_⟩
  have hlm := (hlm.more hl3).perm List.perm_append_comm
  have hnd := hlm.nd
  simp only [List.cons_append, List.nil_append, List.map_cons, List.map_append, List.nodup_cons, List.mem_append, not_or, List.mem_cons] at hnd
  have hbB : bn ∉ B2.map (·.1) := hnd.1.2.2
  obtain ⟨a2, c2, rfl, hc2, ha2⟩ := ho2.shape
  have hrd := (ho2.rd (H := []) (by rw [List.append_nil]; exact hl2) rfl).grow hl3.toGrow
  have hoff := ho2.off (H := []) (by rw [List.append_nil]; exact hl2) (Y := [bn]) rfl (by simpa using hbB)
  simp only [ev, fx, ↓reduceIte, Nat.reduceEqDiff, Nat.reduceLT, Nat.reduceLeDiff, Nat.reduceAdd, Nat.reduceSub, Nat.reduceMul, Int.reduceLT, Int.reduceLE, Int.reduceToNat, BitVec.reduceOfInt, BitVec.reduceToNat, reduceCtorEq, and_self, decide_true, decide_false, Bool.not_true, Bool.not_false, ne_eq, not_true_eq_false, not_false_eq_true, true_and, and_true]
  repeat (refine And.intro (by omega) ?_)
  refine hK _ _ ?_; clear hK K
  refine EWp.ifR [0, 5, 6, 11, 16, 17, 18, 61] fun K hK => ?_
  simp only [ev, fx, ↓reduceIte, Nat.reduceEqDiff, Nat.reduceLT, Nat.reduceLeDiff, Nat.reduceAdd, Nat.reduceSub, Nat.reduceMul, Int.reduceLT, Int.reduceLE, Int.reduceToNat, BitVec.reduceOfInt, BitVec.reduceToNat, reduceCtorEq, and_self, decide_true, decide_false, Bool.not_true, Bool.not_false, ne_eq, not_true_eq_false, not_false_eq_true, true_and, and_true]
  refine SemE.plain (.bool false) (Plain.neqErr iface_error rfl ErrV.nil) rfl ?_
  simp only [ev, fx, ↓reduceIte, Nat.reduceEqDiff, Nat.reduceLT, Nat.reduceLeDiff, Nat.reduceAdd, Nat.reduceSub, Nat.reduceMul, Int.reduceLT, Int.reduceLE, Int.reduceToNat, BitVec.reduceOfInt, BitVec.reduceToNat, reduceCtorEq, and_self, decide_true, decide_false, Bool.not_true, Bool.not_false, ne_eq, not_true_eq_false, not_false_eq_true, true_and, and_true]
  refine SemE.call fn_43 rfl rfl (unD bn _ _ _ _ ki (by simp) _ a2 c2 w5 (hlm.at (k := 0) rfl) hrd hc2 hoff (by omega)) ?_
  rintro _ w6 ⟨rfl, cs3, hd3, hl6⟩
  refine ⟨_, rfl, ?_⟩
  have hl := hlm.call (k := 0) rfl hl6
  simp only [List.cons_append, List.nil_append, List.set_cons_zero, List.append_nil] at hl
  clear hlm hl2 hl3 hl6 hrd hoff ho2 hnd
  simp only [ev, fx, ↓reduceIte, Nat.reduceEqDiff, Nat.reduceLT, Nat.reduceLeDiff, Nat.reduceAdd, Nat.reduceSub, Nat.reduceMul, Int.reduceLT, Int.reduceLE, Int.reduceToNat, BitVec.reduceOfInt, BitVec.reduceToNat, reduceCtorEq, and_self, decide_true, decide_false, Bool.not_true, Bool.not_false, ne_eq, not_true_eq_false, not_false_eq_true, true_and, and_true]
  refine SemE.plain (.bool false) (Plain.neqErr iface_error rfl ErrV.nil) rfl ?_
  simp only [ev, fx, ↓reduceIte, Nat.reduceEqDiff, Nat.reduceLT, Nat.reduceLeDiff, Nat.reduceAdd, Nat.reduceSub, Nat.reduceMul, Int.reduceLT, Int.reduceLE, Int.reduceToNat, BitVec.reduceOfInt, BitVec.reduceToNat, reduceCtorEq, and_self, decide_true, decide_false, Bool.not_true, Bool.not_false, ne_eq, not_true_eq_false, not_false_eq_true, true_and, and_true]
  refine hK _ _ false rfl (fun h => by cases h) (fun _ => ?_); clear hK K
  refine EWp.skipThen ?_
  refine EWp.regR [0, 5, 6, 16, 17, 18] fun K hK => ?_
  simp only [ev, fx, ↓reduceIte, Nat.reduceEqDiff, Nat.reduceLT, Nat.reduceLeDiff, Nat.reduceAdd, Nat.reduceSub, Nat.reduceMul, Int.reduceLT, Int.reduceLE, Int.reduceToNat, BitVec.reduceOfInt, BitVec.reduceToNat, reduceCtorEq, and_self, decide_true, decide_false, Bool.not_true, Bool.not_false, ne_eq, not_true_eq_false, not_false_eq_true, true_and, and_true]
  refine hK _ _ fun S1 h1 => ?_
  simp only [BlockE, ThenE]
  exact ⟨bn, v6, h1, cs3, vs, D6, H, by rw [eA]; exact hd3, by rw [eR]; exact hv, ho, hl.sub (List.Sublist.cons_cons _ ((List.sublist_cons_self _ _).trans (List.sublist_append_left _ B2)))⟩
end Go.Proofs.YtggbaffkjfofhaaDoor
