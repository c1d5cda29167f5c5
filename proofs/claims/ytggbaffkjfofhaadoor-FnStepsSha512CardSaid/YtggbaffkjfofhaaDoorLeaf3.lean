/- The small functions. -/
import Derived.Test.YtggbaffkjfofhaaDoorFacts
import Derived.Test.YtggbaffkjfofhaaDoorSha3M
set_option linter.unusedVariables false
set_option linter.unusedSimpArgs false
namespace Go.Proofs.YtggbaffkjfofhaaDoor
open Go

theorem drewG (w : World) : Grow w w.drew := ⟨rfl, rfl, rfl, Nat.le_refl _, fun _ _ => rfl⟩

theorem neg_and (k : Nat) (h0 : 0 < k) (hk : k < 64) : (BitVec.ofInt 64 (-(k : Int)) &&& 63#64).toNat = 64 - k := by
  rw [BitVec.toNat_and, show (63#64).toNat = 2 ^ 6 - 1 from rfl, Nat.and_two_pow_sub_one_eq_mod, BitVec.toNat_ofInt]
  omega
theorem neg_sub (k : Nat) (h0 : 0 < k) (hk : k < 64) : (64#64 - (BitVec.ofInt 64 (-(k : Int)) &&& 63#64)).toNat = k := by
  rw [BitVec.toNat_sub, neg_and k h0 hk]
  show (2 ^ 64 - (64 - k) + 64) % 2 ^ 64 = k
  omega
theorem rotr_comm (x : Wd) (k : Nat) : x <<< (64 - k) ||| x >>> k = rotr x k := BitVec.or_comm _ _

/-- A word turned right. -/
theorem rot3 (x : Wd) (k : Nat) (z : Int) (hz : z = -(k : Int)) (h0 : 0 < k) (hk : k < 64) (w : World) : Calls Tryd.prog 56 #[(SV.u64 x).val, (SV.int z).val] w fun e w' => e = .returned (SV.u64 (rotr x k)).val ∧ w' = w := by
  subst hz
  refine calls_E [.u64 x, .int (-(k : Int))] Tryd.func56 rfl Tryd.ntmps56 rfl ?_
  refine EWp.seqR [0, 1] fun K hK => ?_
  simp only [ev, fx, ↓reduceIte, Nat.reduceEqDiff, Nat.reduceLT, Nat.reduceLeDiff, Nat.reduceAdd, Nat.reduceSub, Nat.reduceMul, Int.reduceLT, Int.reduceLE, Int.reduceToNat, BitVec.reduceOfInt, BitVec.reduceToNat, reduceCtorEq, and_self, decide_true, decide_false, Bool.not_true, Bool.not_false, ne_eq, not_true_eq_false, not_false_eq_true, true_and, and_true]
  refine hK _ _ ?_; clear hK K
  refine EWp.seqR [0, 5] fun K hK => ?_
  simp only [ev, fx, ↓reduceIte, Nat.reduceEqDiff, Nat.reduceLT, Nat.reduceLeDiff, Nat.reduceAdd, Nat.reduceSub, Nat.reduceMul, Int.reduceLT, Int.reduceLE, Int.reduceToNat, BitVec.reduceOfInt, BitVec.reduceToNat, reduceCtorEq, and_self, decide_true, decide_false, Bool.not_true, Bool.not_false, ne_eq, not_true_eq_false, not_false_eq_true, true_and, and_true]
  refine hK _ _ ?_; clear hK K
  refine EWp.seqR [4] fun K hK => ?_
  simp only [ev, fx, ↓reduceIte, Nat.reduceEqDiff, Nat.reduceLT, Nat.reduceLeDiff, Nat.reduceAdd, Nat.reduceSub, Nat.reduceMul, Int.reduceLT, Int.reduceLE, Int.reduceToNat, BitVec.reduceOfInt, BitVec.reduceToNat, reduceCtorEq, and_self, decide_true, decide_false, Bool.not_true, Bool.not_false, ne_eq, not_true_eq_false, not_false_eq_true, true_and, and_true]
  refine hK _ _ ?_; clear hK K
  exact EWp.ret (BodyE.tmp1 rfl rfl ⟨by rw [neg_and k h0 hk, neg_sub k h0 hk, rotr_comm], rfl⟩)

theorem right3 (x : Wd) (k : Nat) (hk : k ≤ 64) (w : World) : Calls Tryd.prog 45 #[(SV.u64 x).val, (SV.nat k).val] w fun e w' => e = .returned (SV.u64 (rotr x k)).val ∧ Grow w w' := by
  refine calls_E [.u64 x, .nat k] Tryd.func45 rfl Tryd.ntmps45 rfl ?_
  refine EWp.seqR [0, 1] fun K hK => ?_
  simp only [ev, fx, ↓reduceIte, Nat.reduceEqDiff, Nat.reduceLT, Nat.reduceLeDiff, Nat.reduceAdd, Nat.reduceSub, Nat.reduceMul, Int.reduceLT, Int.reduceLE, Int.reduceToNat, BitVec.reduceOfInt, BitVec.reduceToNat, reduceCtorEq, and_self, decide_true, decide_false, Bool.not_true, Bool.not_false, ne_eq, not_true_eq_false, not_false_eq_true, true_and, and_true]
  repeat (refine And.intro (by omega) ?_)
  refine hK _ _ ?_; clear hK K
  refine EWp.seqO (fun _ => false) [(0, 0), (1, 0), (2, 0), (3, 0), (4, 0), (5, 0), (6, 0), (7, 0), (8, 0)] [4] mixed (by kernel_rfl) fun K hK => ?_
  simp only [ev, fx, ↓reduceIte, Nat.reduceEqDiff, Nat.reduceLT, Nat.reduceLeDiff, Nat.reduceAdd, Nat.reduceSub, Nat.reduceMul, Int.reduceLT, Int.reduceLE, Int.reduceToNat, BitVec.reduceOfInt, BitVec.reduceToNat, reduceCtorEq, and_self, decide_true, decide_false, Bool.not_true, Bool.not_false, ne_eq, not_true_eq_false, not_false_eq_true, true_and, and_true]
  refine ⟨by omega, ?_⟩
  repeat (refine And.intro (by omega) ?_)
  refine hK _ _ ?_; clear hK K
  exact EWp.ret (BodyE.tmp1 rfl rfl ⟨rfl, drewG _⟩)

/-- The table of the package. -/
def Kl : List SV := (List.range 80).map fun t => .u64 (Kf t)
def KO (w : World) : Prop := Rd w (some ⟨0, 0, none⟩) Kl
theorem Kl_get {t : Nat} (h : t < 80) : Kl[t]? = some (.u64 (Kf t)) := by simp [Kl, h]
theorem KO.at {w : World} (h : KO w) {t : Nat} (ht : t < 80) : w.cell? ⟨0, t, none⟩ = some (SV.u64 (Kf t)).val := by
  obtain ⟨p, hp, _, hc⟩ := h t _ (Kl_get ht)
  cases hp
  rwa [Addr.add_lit, Nat.zero_add] at hc
theorem KO.grow {w w' : World} (h : KO w) (hg : Grow w w') : KO w' := Rd.grow h hg
theorem KO.lt {w : World} (h : KO w) : 0 < w.heap.size := by
  obtain ⟨p, hp, hb, _⟩ := h 0 _ (Kl_get (by omega))
  cases hp
  exact hb
theorem KO.keep {w0 w : World} {X : List Nat} {H : List Blk} (h : KO w0) (hl : HL w0 w X H) (hx : 0 ∉ X) : KO w := Rd.keep h hl (fun p hp => by cases hp; exact hx)
end Go.Proofs.YtggbaffkjfofhaaDoor
