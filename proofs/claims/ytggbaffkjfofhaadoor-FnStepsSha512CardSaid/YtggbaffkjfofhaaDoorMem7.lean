/- More rules: functions of three results. -/
import Derived.Test.YtggbaffkjfofhaaDoorFacts
set_option linter.unusedVariables false
set_option linter.unusedSimpArgs false
namespace Go.Proofs.YtggbaffkjfofhaaDoor
open Go

section
variable {P : Program} {n : Nat} {S : Env} {w : World} {K : Env → World → Prop}

theorem Txt.drop {a : Option Addr} {m c : Nat} {T : List (BitVec 8)} (h : Txt w (.sl a m c) T) (k : Nat) (hk : k ≤ m) : Txt w (.sl (if c = k then a else a.map fun x => x.add k) (m - k) (c - k)) (T.drop k) := by
  obtain ⟨a', c', he, hc, ha, hr⟩ := h
  cases he
  exact Txt.mk (by rw [List.map_drop]; exact hr.drop k c (by simpa using hc)) (by simp) (by omega) (fun h => by have := slNone ha h; omega)

theorem BodyE.tmp3 {fn : Func} {R : Ending → World → Prop} {t t' t'' : Nat} {v v' v'' : SV} (hr : fn.results = #[.tmp t, .tmp t', .tmp t'']) (hv : S.get t = some v) (hv' : S.get t' = some v') (hv'' : S.get t'' = some v'')
    (h : R (.returned (SV.tup3 v v' v'').val) w) : BodyE P n fn R .ret S w :=
  fun a ha => ⟨(SV.tup3 v v' v'').val, by simp [results, hr, ha.slots t v hv, ha.slots t' v' hv', ha.slots t'' v'' hv'', SV.val], h⟩

theorem bodyCellA2 {fn : Func} {R : Ending → World → Prop} {t t' t'' : Nat} {ty bt : TypeId} {b : Nat} {cs : List SV} {v' v'' : SV} (hr : fn.results = #[.cell t ty, .tmp t', .tmp t'']) (hv : S.get t = some (.ptr ⟨b, 0, none⟩)) (hv' : S.get t' = some v') (hv'' : S.get t'' = some v'')
    (ht : aggN P ty cs.length = true) (hb : w.heap[b]? = some (.cells (cs.map SV.val).toArray bt (0, 0))) (h : R (.returned (SV.tup3 (SV.agg cs) v' v'').val) w) : BodyE P n fn R .ret S w := fun a ha => by
  have hp : a.tmps[t]?.getD undef = .pointer (some ⟨b, 0, none⟩) := by
    have := ha.slots t _ hv
    simp [this, SV.val]
  unfold aggN at ht
  rw [Bool.and_eq_true] at ht
  cases hu : P.underlying ty with
  | none => rw [hu] at ht; cases ht.1
  | some d =>
    have h1 := ht.1
    rw [hu] at h1
    have h2 := ht.2
    cases hi : P.info? ty with
    | none => rw [hi] at h2; cases h2
    | some i =>
      rw [hi] at h2
      have hrow := run_loadVar_row (P := P) w b bt ty (cs.map SV.val).toArray (0, 0) d hb hu (by cases d <;> first | rfl | cases h1) (by rw [hi]; simpa using h2)
      exact ⟨(SV.tup3 (SV.agg cs) v' v'').val, by simp [results, hr, hp, ha.slots t' v' hv', ha.slots t'' v'' hv'', asAddr, hrow, SV.val, SV.agg_val], h⟩
end
end Go.Proofs.YtggbaffkjfofhaaDoor
