/- More operations: whole variables, boxes, slices that are built, appended to and copied into. -/
import Derived.Test.YtggbaffkjfofhaaDoorMem
import Derived.Maps.AppendAt
import Derived.Great.BuildSlice
import Derived.Great.FillDense
import Derived.Laws.IdiomCopy
set_option linter.unusedVariables false
set_option linter.unusedSimpArgs false
namespace Go.Proofs.YtggbaffkjfofhaaDoor
open Go

/-- A value of several cells. -/
def SV.agg (vs : List SV) : SV := .raw (.agg (vs.map SV.val).toArray)
theorem SV.agg_val (vs : List SV) : (SV.agg vs).val = .agg (vs.map SV.val).toArray := rfl

section
variable {w0 w w' : World} {X : List Nat} {H H' : List Blk}

theorem HL.perm (h : HL w0 w X H) (hp : H.Perm H') : HL w0 w X H' :=
  ⟨h.os, h.tape, h.output, h.size, h.old, fun x hx => h.blk x (hp.mem_iff.2 hx), (hp.map _).nodup_iff.1 h.nd, fun x hx => h.inx x (hp.mem_iff.2 hx)⟩

theorem HL.setRow (h : HL w0 w X H) {k b : Nat} {t : TypeId} {cs : List SV} (hk : H[k]? = some (b, t, cs)) (cs' : List SV) : HL w0 (w.setRow b (cs'.map SV.val).toArray) X (H.set k (b, t, cs')) :=
  h.put hk rfl rfl rfl (by simp) (setRow_heap w b _ _ t (0, 0) (h.at hk)) (fun j _ hne => setRow_other w b j _ hne)

/-- A new block, all old ones as they were. -/
theorem HL.fresh (h : HL w0 w X H) {g : Nat} {t : TypeId} {cs : List SV} (ho : w'.os = w.os) (ht : w'.tape = w.tape) (hu : w'.output = w.output) (hz : w.heap.size ≤ w'.heap.size)
    (hold : ∀ j, j < w.heap.size → w'.heap[j]? = w.heap[j]?) (hg : w.heap.size ≤ g) (hb : w'.heap[g]? = some (.cells (cs.map SV.val).toArray t (0, 0))) : HL w0 w' X ((g, t, cs) :: H) := by
  refine (h.more (N := [(g, t, cs)]) ⟨ho, ht, hu, hz, fun k hk _ => hold k hk, ?_, by simp, ?_⟩).perm ?_
  · intro x hx
    obtain rfl := List.mem_singleton.1 hx
    exact hb
  · intro x hx
    obtain rfl := List.mem_singleton.1 hx
    exact .inr hg
  · exact (List.perm_append_comm : (H ++ [(g, t, cs)]).Perm ([(g, t, cs)] ++ H))

theorem HL.tail {x : Blk} (h : HL w0 w X (x :: H)) : HL w0 w X H := h.sub (List.sublist_cons_self _ _)

theorem HL.grown {B : List Blk} {row : Option Nat} (h : HL w0 w X (B ++ H)) (hg : w.grownBy w' row) (hrow : ∀ j, row = some j → j ∈ B.map (·.1)) : HL w0 w' X H := by
  have hH : HL w0 w X H := h.sub (List.sublist_append_right _ _)
  have hnd := h.nd
  rw [List.map_append, List.nodup_append] at hnd
  refine ⟨hg.os.trans h.os, hg.tape.trans h.tape, hg.output.trans h.output, Nat.le_trans h.size hg.size, ?_, ?_, hH.nd, hH.inx⟩
  · intro j hj hX
    refine (hg.block j (Nat.lt_of_lt_of_le hj h.size) (fun he => ?_)).trans (h.old j hj hX)
    obtain ⟨y, hy, rfl⟩ := List.mem_map.1 (hrow j he.symm)
    rcases h.inx y (List.mem_append_left _ hy) with h1 | h1
    · exact hX h1
    · omega
  · intro x hx
    have hlt : x.1 < w.heap.size := (Array.getElem?_eq_some_iff.1 (hH.blk x hx)).1
    rw [hg.block x.1 hlt (fun he => ?_)]
    · exact hH.blk x hx
    · exact hnd.2.2 x.1 (hrow x.1 he.symm) x.1 (List.mem_map_of_mem hx) rfl

theorem HL.grownCons {B : List Blk} {row : Option Nat} (h : HL w0 w X (B ++ H)) (hg : w.grownBy w' row) (hrow : ∀ j, row = some j → j ∈ B.map (·.1)) {b : Nat} {t : TypeId} {cs : List SV}
    (hb : w'.heap[b]? = some (.cells (cs.map SV.val).toArray t (0, 0))) (hw : b ∈ B.map (·.1) ∨ w.heap.size ≤ b) : HL w0 w' X ((b, t, cs) :: H) := by
  have h' := h.grown hg hrow
  have hnd := h.nd
  rw [List.map_append, List.nodup_append] at hnd
  refine ⟨h'.os, h'.tape, h'.output, h'.size, h'.old, ?_, ?_, ?_⟩
  · intro x hx
    rcases List.mem_cons.1 hx with rfl | hx
    · exact hb
    · exact h'.blk x hx
  · rw [List.map_cons, List.nodup_cons]
    refine ⟨fun hm => ?_, h'.nd⟩
    rcases hw with h1 | h1
    · exact hnd.2.2 b h1 b hm rfl
    · obtain ⟨y, hy, he⟩ := List.mem_map.1 hm
      have hlt : y.1 < w.heap.size := (Array.getElem?_eq_some_iff.1 (h.blk y (List.mem_append_right _ hy))).1
      simp only at he
      omega
  · intro x hx
    rcases List.mem_cons.1 hx with rfl | hx
    · rcases hw with h1 | h1
      · obtain ⟨y, hy, he⟩ := List.mem_map.1 h1
        have := h.inx y (List.mem_append_left _ hy)
        rwa [he] at this
      · exact .inr (Nat.le_trans h.size h1)
    · exact h'.inx x hx

/-- A slice that nothing else reaches: what it holds, and its block. -/
def Own (e : TypeId) (sz : Nat) (v : SV) (n : Nat) (xs : List SV) (B : List Blk) : Prop :=
  xs.length = n * sz ∧ ((v = .sl none 0 0 ∧ n = 0 ∧ B = []) ∨
    ∃ b c rest, v = .sl (some ⟨b, 0, none⟩) n c ∧ n ≤ c ∧ c ≤ maxLen ∧ rest.length + n * sz = c * sz ∧ B = [(b, e, xs ++ rest)])

theorem Own.nil (e : TypeId) (sz : Nat) : Own e sz (.sl none 0 0) 0 [] [] := ⟨by simp, .inl ⟨rfl, rfl, rfl⟩⟩
theorem Own.made {e : TypeId} {sz b n c : Nat} {xs : List SV} (rest : List SV) (hl : xs.length = n * sz) (hn : n ≤ c) (hc : c ≤ maxLen) (hr : rest.length + n * sz = c * sz) :
    Own e sz (.sl (some ⟨b, 0, none⟩) n c) n xs [(b, e, xs ++ rest)] := ⟨hl, .inr ⟨b, c, rest, rfl, hn, hc, hr, rfl⟩⟩
theorem Own.full {e : TypeId} {sz b n : Nat} {xs : List SV} (hl : xs.length = n * sz) (hc : n ≤ maxLen) : Own e sz (.sl (some ⟨b, 0, none⟩) n n) n xs [(b, e, xs)] := by
  have := Own.made (e := e) (b := b) ([] : List SV) hl (Nat.le_refl n) hc (by simp)
  simpa using this

/-- The address of such a slice and its cells. -/
theorem Own.shape {e : TypeId} {sz n : Nat} {v : SV} {xs : List SV} {B : List Blk} (ho : Own e sz v n xs B) : ∃ a c, v = .sl a n c ∧ n ≤ c ∧ (a = none → n = 0) := by
  obtain ⟨_, ⟨rfl, rfl, rfl⟩ | ⟨b, c, rest, rfl, hn, _, _, rfl⟩⟩ := ho
  · exact ⟨none, 0, rfl, Nat.le_refl _, fun _ => rfl⟩
  · exact ⟨_, c, rfl, hn, fun h => by cases h⟩

theorem Own.rd {e : TypeId} {sz n : Nat} {v : SV} {xs : List SV} {B : List Blk} (ho : Own e sz v n xs B) (h : HL w0 w X (B ++ H)) {a : Option Addr} {c : Nat} (hv : v = .sl a n c) : Rd w a xs := by
  obtain ⟨hl, ⟨rfl, rfl, rfl⟩ | ⟨b, c', rest, rfl, hn, _, _, rfl⟩⟩ := ho
  · have : xs = [] := List.eq_nil_of_length_eq_zero (by simpa using hl)
    subst this; exact Rd.nil _
  · cases hv
    have := Rd.blk h (k := 0) rfl 0 xs.length
    simpa using this

theorem Own.off {e : TypeId} {sz n : Nat} {v : SV} {xs : List SV} {B : List Blk} (ho : Own e sz v n xs B) (h : HL w0 w X (B ++ H)) {a : Option Addr} {c : Nat} (hv : v = .sl a n c) {Y : List Nat} (hY : ∀ y ∈ Y, y ∉ B.map (·.1)) : Off a Y := by
  obtain ⟨hl, ⟨rfl, rfl, rfl⟩ | ⟨b, c', rest, rfl, hn, _, _, rfl⟩⟩ := ho
  · cases hv; intro p hp; cases hp
  · cases hv
    intro p hp
    cases hp
    intro hm
    exact hY _ hm (by simp)
end

section
variable {P : Program} {n : Nat} {S : Env} {w : World} {K : Env → World → Prop}

theorem EWp.retT {fn : Func} {R : Ending → World → Prop} {J : Env → World → Prop} (h : BodyE P n fn R .ret S w) : EWp P n .ret S w (ThenE J (BodyE P n fn R)) := EWp.ret h

/-- t has k cells, and is an array or a struct. -/
def aggN (P : Program) (t : TypeId) (k : Nat) : Bool :=
  (match P.underlying t with
    | some (.struct _) => true
    | some (.array _ _) => true
    | _ => false) &&
  (match P.info? t with
    | some i => i.size == k
    | none => false)

theorem aggN_spec {t : TypeId} {k : Nat} (h : aggN P t k = true) : (∀ w : World, (isAgg t).run P w = .ok true w) ∧ ∀ w : World, (sizeOf t).run P w = .ok k w := by
  unfold aggN at h
  rw [Bool.and_eq_true] at h
  obtain ⟨h1, h2⟩ := h
  constructor
  · intro w
    cases hu : P.underlying t with
    | none => rw [hu] at h1; cases h1
    | some d =>
      rw [hu] at h1
      unfold isAgg
      rw [Sem.run_bind, run_underlying hu w]
      cases d <;> first | rfl | cases h1
  · intro w
    cases hi : P.info? t with
    | none => rw [hi] at h2; cases h2
    | some i =>
      rw [hi] at h2
      have : i.size = k := by simpa using h2
      simp [sizeOf, typeInfo, hi, this]

theorem Rd.cells {p : Addr} {vs : List SV} (hr : Rd w (some p) vs) : ∀ j u, (vs.map SV.val)[j]? = some u → w.cell? (p.add j) = some u := by
  intro j u hu
  rw [List.getElem?_map] at hu
  obtain ⟨v, hv, rfl⟩ := Option.map_eq_some_iff.1 hu
  obtain ⟨q, hq, _, hc⟩ := hr j v hv
  cases hq
  exact hc

theorem run_loadAt_agg {t : TypeId} {vs : List SV} (ht : aggN P t vs.length = true) {p : Addr} (hr : Rd w (some p) vs) : (Instr.loadAt t (.pointer (some p))).run P w = .ok (SV.agg vs).val w := by
  obtain ⟨h1, h2⟩ := aggN_spec ht
  have h3 := run_loadCells_list (P := P) w p (vs.map SV.val) hr.cells
  rw [List.length_map] at h3
  simp [Instr.loadAt, Instr.sureAddr, loadVar, h1, h2, h3, SV.agg_val]

theorem SemE.loadA {dst : Option Tmp} {t : TypeId} {x : Operand} {ty : TypeId} {pos : String} {after : Array Edge} {g : Option (Nat × Bool)} {p : Addr} {vs : List SV}
    (hx : S.op x = some (.ptr p)) (ht : aggN P t vs.length = true) (hd : okB n dst = true) (hr : Rd w (some p) vs) (h : K (S.put dst (SV.agg vs)) w) : SemE P n S w ⟨dst, .load t x, ty, pos, after, g⟩ K :=
  SemE.value (SV.agg vs) hd (fun a ha => by simp [execOp, ha.eval hx, show (SV.ptr p).val = Value.pointer (some p) from rfl, run_loadAt_agg ht hr]) h

theorem Quiet.loadA {dst : Option Tmp} {t : TypeId} {x : Operand} {ty : TypeId} {pos : String} {after : Array Edge} {g : Option (Nat × Bool)} {p : Addr} {vs : List SV}
    (hx : S.op x = some (.ptr p)) (ht : aggN P t vs.length = true) (hr : Rd w (some p) vs) : Quiet P n S w ⟨dst, .load t x, ty, pos, after, g⟩ (SV.agg vs) := fun a ha w' hg =>
  .inl (by simp [execOp, ha.eval hx, show (SV.ptr p).val = Value.pointer (some p) from rfl, run_loadAt_agg ht (hr.grow hg)])

theorem map_splice (cs vs : List SV) (i : Nat) : ((cs.map SV.val).toArray.toList.take i ++ vs.map SV.val ++ (cs.map SV.val).toArray.toList.drop (i + (vs.map SV.val).length)) = (cs.take i ++ vs ++ cs.drop (i + vs.length)).map SV.val := by
  simp [List.map_take, List.map_drop]

theorem SemE.storeA {w0 : World} {X : List Nat} {H : List Blk} (hl : HL w0 w X H) (k : Nat) {t : TypeId} {x y : Operand} {ty : TypeId} {pos : String} {after : Array Edge} {g : Option (Nat × Bool)}
    {b i : Nat} {bt : TypeId} {cs vs : List SV} (hx : S.op x = some (.ptr ⟨b, i, none⟩)) (hy : S.op y = some (SV.agg vs)) (ht : aggN P t vs.length = true) (h1 : ∀ v ∈ vs, v.isOne = true) (hk : H[k]? = some (b, bt, cs))
    (hi : i + vs.length ≤ cs.length) (h : ∀ w', HL w0 w' X (H.set k (b, bt, cs.take i ++ vs ++ cs.drop (i + vs.length))) → K S w') : SemE P n S w ⟨none, .store t x y, ty, pos, after, g⟩ K := fun a ha => by
  obtain ⟨_, h2⟩ := aggN_spec ht
  have hst := run_storeCells_at P b i bt (vs.map SV.val) 0 (cs.map SV.val).toArray w (hl.at hk) (by simpa using hi) (fun v hv => by
    obtain ⟨u, hu, rfl⟩ := List.mem_map.1 hv
    exact SV.isOne_val (h1 u hu))
  simp only [Nat.add_zero] at hst
  rw [map_splice] at hst
  have hr : (execOp a.eval ⟨none, .store t x y, ty, pos, after, g⟩).run P w = .ok .skip (w.setRow b ((cs.take i ++ vs ++ cs.drop (i + vs.length)).map SV.val).toArray) := by
    simp [execOp, ha.eval hx, ha.eval hy, show (SV.ptr ⟨b, i, none⟩).val = Value.pointer (some ⟨b, i, none⟩) from rfl, SV.agg_val, Instr.storeAt, Instr.sureAddr, storeVar, h2, Value.cells, hst]
  rw [hr]
  exact ⟨S, ha, h _ (hl.setRow hk _)⟩

theorem SemE.boxA {w0 : World} {X : List Nat} {H : List Blk} (hl : HL w0 w X H) {dst : Option Tmp} {t : TypeId} {x : Operand} {ty : TypeId} {pos : String} {after : Array Edge} {g : Option (Nat × Bool)} {vs : List SV}
    (hx : S.op x = some (SV.agg vs)) (hd : okB n dst = true) (h : ∀ b w', w0.heap.size ≤ b → HL w0 w' X (H ++ [(b, t, vs)]) → K (S.put dst (.ptr ⟨b, 0, none⟩)) w') : SemE P n S w ⟨dst, .box t x, ty, pos, after, g⟩ K :=
  SemE.value (.ptr ⟨w.heap.size, 0, none⟩) (w' := w.alloc (.cells (vs.map SV.val).toArray t)) hd (fun a ha => by
    simp [execOp, ha.eval hx, Instr.box, newVar, newRow, newObj, SV.agg_val, Value.cells, Sem.run, SV.val]) (h _ _ hl.size (hl.alloc t vs))

theorem SemE.box1 {w0 : World} {X : List Nat} {H : List Blk} (hl : HL w0 w X H) {dst : Option Tmp} {t : TypeId} {x : Operand} {ty : TypeId} {pos : String} {after : Array Edge} {g : Option (Nat × Bool)} {v : SV}
    (hx : S.op x = some v) (h1 : v.isOne = true) (hd : okB n dst = true) (h : ∀ b w', w0.heap.size ≤ b → HL w0 w' X (H ++ [(b, t, [v])]) → K (S.put dst (.ptr ⟨b, 0, none⟩)) w') : SemE P n S w ⟨dst, .box t x, ty, pos, after, g⟩ K :=
  SemE.value (.ptr ⟨w.heap.size, 0, none⟩) (w' := w.alloc (.cells ([v].map SV.val).toArray t)) hd (fun a ha => by
    have hcs : v.val.cells = #[v.val] := by have := SV.isOne_val h1; cases hv : v.val <;> first | rfl | (rw [hv] at this; cases this)
    simp [execOp, ha.eval hx, Instr.box, newVar, newRow, newObj, hcs, Sem.run, SV.val]) (h _ _ hl.size (hl.alloc t [v]))

/-! ### A slice that is built -/

/-- t is a slice of elements of type e, of one cell each. -/
def sliceOf (P : Program) (t e : TypeId) (sz : Nat) : Bool :=
  (match P.underlying t with
    | some (.slice e') => Nat.beq e' e
    | _ => false) && (match P.info? e with
    | some i => i.size == sz && (match i.zero with | some z => z.cells.size == sz | none => false) && Nat.ble i.bytes 1024
    | none => false)

theorem sliceOf_spec {t e : TypeId} {sz : Nat} (h : sliceOf P t e sz = true) : P.underlying t = some (.slice e) ∧ ∃ i z, P.info? e = some i ∧ i.zero = some z ∧ i.size = sz ∧ z.cells.size = sz ∧ i.bytes ≤ 1024 := by
  unfold sliceOf at h
  rw [Bool.and_eq_true] at h
  refine ⟨?_, ?_⟩
  · cases hu : P.underlying t with
    | none => rw [hu] at h; cases h.1
    | some d =>
      have h1 := h.1
      rw [hu] at h1
      cases d <;> first | (rw [Nat.eq_of_beq_eq_true h1]; done) | cases h1
  cases hi : P.info? e with
  | none => rw [hi] at h; cases h.2
  | some i =>
    have h2 := h.2
    rw [hi] at h2
    cases hz : i.zero with
    | none => simp [hz] at h2
    | some z =>
      simp only [hz, Bool.and_eq_true, beq_iff_eq, Nat.ble_eq] at h2
      exact ⟨i, z, rfl, hz, h2.1.1, h2.1.2, h2.2⟩

def partsSV (S : Env) : Nat → List (Nat × Operand) → Option (List SV)
  | _, [] => some []
  | k, (i, x) :: ps => if i = k then (match S.op x, partsSV S (k + 1) ps with
    | some v, some vs => if v.isOne then some (v :: vs) else none
    | _, _ => none) else none

theorem partsSV_val {a : Act} (ha : Holds n S a) : ∀ {ps : List (Nat × Operand)} {k : Nat} {vs : List SV}, partsSV S k ps = some vs →
    ps.map (fun x => (x.1, a.eval x.2)) = ((vs.map SV.val).zipIdx k).map (fun x => (x.2, x.1)) ∧ (∀ v ∈ vs, v.isOne = true) ∧ vs.length = ps.length
  | [], k, vs, h => by simp only [partsSV, Option.some.injEq] at h; subst h; simp
  | (i, x) :: ps, k, vs, h => by
    simp only [partsSV] at h
    split at h
    · rename_i hik
      subst hik
      split at h
      · rename_i v us hv hus
        split at h
        · rename_i h1
          obtain rfl := Option.some.inj h
          obtain ⟨g1, g2, g3⟩ := partsSV_val ha hus
          refine ⟨by simp [ha.eval hv, g1], ?_, by simp [g3]⟩
          intro u hu
          rcases List.mem_cons.1 hu with rfl | hu
          · exact h1
          · exact g2 u hu
        · cases h
      · cases h
    · cases h

theorem SemE.buildSlice {w0 : World} {X : List Nat} {H : List Blk} (hl : HL w0 w X H) (e : TypeId) {dst : Option Tmp} {t : TypeId} {m : Nat} {ps : List (Nat × Operand)} {ty : TypeId} {pos : String} {after : Array Edge} {g : Option (Nat × Bool)}
    {vs : List SV} (ht : sliceOf P t e 1 = true) (hp : partsSV S 0 ps = some vs) (hm : ps.length = m) (hbig : m ≤ 1000) (hd : okB n dst = true)
    (h : ∀ b w', w0.heap.size ≤ b → HL w0 w' X (H ++ [(b, e, vs)]) → K (S.put dst (.sl (some ⟨b, 0, none⟩) m m)) w') : SemE P n S w ⟨dst, .buildSlice t m ps.toArray, ty, pos, after, g⟩ K := by
  obtain ⟨hu, i, z, hi, hz, hsz, hzs, hb⟩ := sliceOf_spec ht
  refine SemE.value (.sl (some ⟨w.heap.size, 0, none⟩) m m) (w' := w.alloc (.cells (vs.map SV.val).toArray e)) hd (fun a ha => ?_) (h _ _ hl.size (hl.alloc e vs))
  obtain ⟨g1, g2, g3⟩ := partsSV_val ha hp
  have hparts : (ps.toArray.map fun (i, x) => (i, a.eval x)).toList = ((vs.map SV.val).zipIdx 0).map (fun x => (x.2, x.1)) := by simpa using g1
  have hone : ∀ v ∈ vs.map SV.val, v.cells = #[v] := fun v hv => by
    obtain ⟨u, hu, rfl⟩ := List.mem_map.1 hv
    have := SV.isOne_val (g2 u hu)
    cases hv : u.val <;> first | rfl | (rw [hv] at this; cases this)
  by_cases h0 : m = 0
  · subst h0
    have hps : ps = [] := List.eq_nil_of_length_eq_zero hm
    subst hps
    have hvs : vs = [] := List.eq_nil_of_length_eq_zero (by simpa using g3)
    subst hvs
    simp [execOp, Instr.buildSlice, run_underlying hu, sizeOf, typeInfo, hi, Instr.fill, newRow, newObj, Sem.run, SV.val]
    exact congrArg (fun cs => w.alloc (.cells cs e)) (Array.ext' (by simp))
  · have hrun := run_buildSlice (P := P) w t e m (ps.toArray.map fun (i, x) => (i, a.eval x)) (vs.map SV.val).toArray i z hu hi hz (by rw [hsz]; omega) (by rw [hsz]; omega) (by
      rw [hparts, hsz, Nat.mul_one]
      exact Go.Great.fill_flat _ _ hone (by simp [g3, hm]))
    simp [execOp] at hrun ⊢
    rw [hrun]
    rfl

/-! ### append -/

theorem Rd.one {a : Option Addr} {vs : List SV} (hr : Rd w a vs) : ∀ (j : Nat) (u : SV), vs[j]? = some u → ∃ p, a = some p := fun j u hu => by
  obtain ⟨p, h, _⟩ := hr j u hu; exact ⟨p, h⟩

theorem SemE.append {w0 : World} {X : List Nat} {B H : List Blk} (hl : HL w0 w X (B ++ H)) {e : TypeId} {sz k m c : Nat} {v : SV} {xs vs : List SV} (ho : Own e sz v k xs B)
    {dst : Option Tmp} {s x : Operand} {t : TypeId} {ty : TypeId} {pos : String} {after : Array Edge} {g : Option (Nat × Bool)} {a : Option Addr} (ht : sliceOf P t e sz = true) (hsz : Nat.ble 1 sz = true)
    (hs : S.op s = some v) (hx : S.op x = some (.sl a m c)) (hr : Rd w a vs) (hm : vs.length = m * sz) (ha0 : a = none → m = 0) (h1 : ∀ v ∈ vs, v.isOne = true) (hbig : k + m ≤ 68719476736) (hd : okB n dst = true)
    (h : ∀ v' B' w', Own e sz v' (k + m) (xs ++ vs) B' → HL w0 w' X (B' ++ H) → (∀ y ∈ B', y.1 ∈ B.map (·.1) ∨ w.heap.size ≤ y.1) → K (S.put dst v') w') :
    SemE P n S w ⟨dst, .call { callee := .builtin .append, args := #[s, x], argTypes := #[t, t] }, ty, pos, after, g⟩ K := by
  obtain ⟨hu, i, z, hi, hz, hiz, hzs, hb⟩ := sliceOf_spec ht
  have hsz' : 0 < sz := by rw [Nat.ble_eq] at hsz; omega
  have hop : ∀ {av : Act} (hav : Holds n S av) {u : Value} {w' : World}, (Builtin.append_ #[t, t] ty #[v.val, (SV.sl a m c).val]).run P w = .ok u w' →
      (execOp av.eval ⟨dst, .call { callee := .builtin .append, args := #[s, x], argTypes := #[t, t] }, ty, pos, after, g⟩).run P w = .ok (.value u) w' := fun hav u w' hrun => by
    simp [execOp, resolve, hav.eval hs, hav.eval hx, invoke, builtin, hrun]
  cases a with
  | none =>
    have hm0 := ha0 rfl
    subst hm0
    have hvs : vs = [] := List.eq_nil_of_length_eq_zero (by simpa using hm)
    subst hvs
    refine SemE.value v (w' := w) hd (fun av hav => hop hav ?_) (h v B w (by simpa using ho) hl (fun y hy => .inl (List.mem_map_of_mem hy)))
    obtain ⟨hxs, ⟨rfl, rfl, rfl⟩ | ⟨b, c', rest, rfl, hn, _, _, rfl⟩⟩ := ho
    · simp [SV.val, Builtin.append_, run_underlying hu, sizeOf, typeInfo, hi, Builtin.lenOf, Builtin.firstCells]
    · simp [SV.val, Builtin.append_, run_underlying hu, sizeOf, typeInfo, hi, Builtin.lenOf, Builtin.firstCells, hn, storeCells]
  | some p =>
    have hown : w.ownsRow 0 e sz v.val k (xs.map SV.val) := by
      obtain ⟨hxs, ⟨rfl, rfl, rfl⟩ | ⟨b, c', rest, rfl, hn, hc, hrest, rfl⟩⟩ := ho
      · exact ⟨by simpa using hxs, .inl ⟨rfl, rfl⟩⟩
      · refine ⟨by simpa using hxs, .inr ⟨b, c', _, rfl, Nat.zero_le _, hl.at (k := 0) rfl, hn, hc, by simp; omega, ?_⟩⟩
        simp [hxs]
    obtain ⟨v', w', hrun, hown', hgr, _, hwhere⟩ := run_append_own_at (P := P) w 0 t ty e i z sz i.bytes hu hi hz hiz rfl hzs hsz' v.val k (xs.map SV.val) hown p m c (vs.map SV.val) (by simpa using hm) hr.cells
      (fun u hu => by obtain ⟨y, hy, rfl⟩ := List.mem_map.1 hu; exact SV.isOne_val (h1 y hy)) (by unfold maxLen; omega)
      (Nat.le_trans (Nat.mul_le_mul hbig hb) (by decide)) (Nat.zero_le _)
    have hlen : (xs ++ vs).length = (k + m) * sz := by rw [List.length_append, ho.1, hm, Nat.add_mul]
    obtain ⟨hxs', hcase⟩ := hown'
    have hrow : ∀ j, v.val.ownBlock = some j → j ∈ B.map (·.1) := by
      obtain ⟨hxs, ⟨rfl, rfl, rfl⟩ | ⟨b, c', rest, rfl, hn, hc, hrest, rfl⟩⟩ := ho
      · intro j hj; cases hj
      · intro j hj; cases hj; simp
    rcases hcase with ⟨hv', h0⟩ | ⟨b', c', cur, hv', _, hb', hn', hc', hcur, htake⟩
    · have hk0 : k = 0 := by omega
      have hm0 : m = 0 := by omega
      subst hk0; subst hm0
      have hnil : xs ++ vs = [] := List.eq_nil_of_length_eq_zero (by simpa using hlen)
      subst hv'
      exact SemE.value (.sl none 0 0) hd (fun av hav => hop hav hrun) (h _ [] w' (by rw [hnil]; exact Own.nil e sz) (hl.grown hgr hrow) (by simp))
    · subst hv'
      have hwhere' : b' ∈ B.map (·.1) ∨ w.heap.size ≤ b' := by
        rcases hwhere with h1 | h1
        · exact .inl (hrow b' h1.symm)
        · cases h1; exact .inr (Nat.le_refl _)
      have hid : ((cur.toList.drop ((k + m) * sz)).map SV.raw).map SV.val = cur.toList.drop ((k + m) * sz) := by
        rw [List.map_map]; exact List.map_id'' (fun _ => rfl) _
      have hcureq : cur = ((xs ++ vs ++ (cur.toList.drop ((k + m) * sz)).map SV.raw).map SV.val).toArray := by
        apply Array.ext'
        rw [List.map_append, hid, List.map_append, ← htake, List.take_append_drop]
      have hge : (k + m) * sz ≤ c' * sz := Nat.mul_le_mul_right _ hn'
      have hrest : ((cur.toList.drop ((k + m) * sz)).map SV.raw).length + (k + m) * sz = c' * sz := by simp [hcur]; omega
      generalize (cur.toList.drop ((k + m) * sz)).map SV.raw = rest at hcureq hrest
      subst hcureq
      refine SemE.value (.sl (some ⟨b', 0, none⟩) (k + m) c') hd (fun av hav => hop hav hrun) (h _ [(b', e, xs ++ vs ++ rest)] w' (Own.made rest hlen hn' hc' hrest) (hl.grownCons hgr hrow hb' hwhere') ?_)
      intro y hy
      obtain rfl := List.mem_singleton.1 hy
      exact hwhere'
end
end Go.Proofs.YtggbaffkjfofhaaDoor
