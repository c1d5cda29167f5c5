/- Laws of SHA-512's blocks, in plain terms. -/
import Derived.Test.YtggbaffkjfofhaaDoorSha3M
set_option linter.unusedVariables false
set_option linter.unusedSimpArgs false
namespace Go.Proofs.YtggbaffkjfofhaaDoor

theorem sched_congr {m m' : Nat → Wd} (h : ∀ t, t < 16 → m t = m' t) : ∀ t, sched m t = sched m' t := by
  intro t
  induction t using Nat.strongRecOn with
  | _ t ih =>
    by_cases ht : t < 16
    · rw [sched_lo _ ht, sched_lo _ ht, h t ht]
    · rw [sched_hi m (t := t) (by omega), sched_hi m' (t := t) (by omega), ih (t - 2) (by omega), ih (t - 7) (by omega), ih (t - 15) (by omega), ih (t - 16) (by omega)]
theorem blk_take (s : S8) (bs : List B8) : blk s (bs.take 128) = blk s bs := by
  have h : sched (wordAt (bs.take 128)) = sched (wordAt bs) := funext (sched_congr fun t ht => by
    have e : ∀ j, j < 128 → (bs.take 128).getD j 0 = bs.getD j 0 := fun j hj => by
      simp [List.getD_eq_getElem?_getD, List.getElem?_take, hj]
    unfold wordAt
    rw [e _ (by omega), e _ (by omega), e _ (by omega), e _ (by omega), e _ (by omega), e _ (by omega), e _ (by omega), e _ (by omega)])
  unfold blk
  rw [h]

theorem blocks_append (qs : List B8) : ∀ (n : Nat) (s : S8) (bs : List B8), bs.length = n → n % 128 = 0 → blocks s (bs ++ qs) = blocks (blocks s bs) qs := by
  intro n
  induction n using Nat.strongRecOn with
  | _ n ih =>
    intro s bs hn h128
    by_cases hlt : n < 128
    · have hnil : bs = [] := List.eq_nil_of_length_eq_zero (by omega)
      subst hnil
      rw [blocks_lo s (bs := []) (by simp)]
      rfl
    · rw [blocks_hi s (bs := bs ++ qs) (by simp; omega), blocks_hi s (bs := bs) (by omega)]
      have e1 : blk s (bs ++ qs) = blk s bs := by
        rw [← blk_take s (bs ++ qs), ← blk_take s bs, List.take_append_of_le_length (by omega)]
      have e2 : (bs ++ qs).drop 128 = bs.drop 128 ++ qs := List.drop_append_of_le_length (by omega)
      rw [e1, e2]
      exact ih (n - 128) (by omega) _ _ (by simp; omega) (by omega)

/-- What is left of a text t behind some of its blocks. -/
structure Rest (s : S8) (t : List B8) (s1 : S8) (r : List B8) : Prop where
  blk : blocks s t = blocks s1 r
  off : ∃ j, r = t.drop (128 * j) ∧ 128 * j ≤ t.length

theorem Rest.refl (s : S8) (t : List B8) : Rest s t s t := ⟨rfl, 0, by simp, by simp⟩
theorem Rest.step {s s1 : S8} {t r0 r1 : List B8} (h : Rest s t s1 (r0 ++ r1)) (h0 : r0.length % 128 = 0) : Rest s t (blocks s1 r0) r1 := by
  obtain ⟨j, hj, hle⟩ := h.off
  refine ⟨h.blk.trans (blocks_append r1 _ s1 r0 rfl h0), j + r0.length / 128, ?_, ?_⟩
  · have : 128 * (j + r0.length / 128) = 128 * j + r0.length := by omega
    rw [this, ← List.drop_drop, ← hj, List.drop_left]
  · have := congrArg List.length hj
    simp at this
    omega
/-- The end: less than a block is left. -/
theorem Rest.done {s s1 : S8} {t r : List B8} (h : Rest s t s1 r) (hr : r.length < 128) : s1 = blocks s t ∧ r.length = t.length % 128 ∧ r = t.drop (128 * (t.length / 128)) := by
  obtain ⟨j, hj, hle⟩ := h.off
  have hl := congrArg List.length hj
  simp at hl
  have hq : t.length / 128 = j := by omega
  refine ⟨?_, by omega, by rw [hq]; exact hj⟩
  rw [h.blk, blocks_lo s1 hr]
end Go.Proofs.YtggbaffkjfofhaaDoor
