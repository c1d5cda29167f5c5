/- Memory: blocks that are known whole, bytes that are read, and the operations that load, store, make a block, call. -/
import Derived.Test.YtggbaffkjfofhaaDoorWalk
import Derived.DataElems
set_option linter.unusedVariables false
set_option linter.unusedSimpArgs false
namespace Go.Proofs.YtggbaffkjfofhaaDoor
open Go

/-- A block that is known: its number, its type, its cells. -/
abbrev Blk := Nat × TypeId × List SV

/-- From w0 to w: what was there is as it was but for the blocks X; the blocks H are known. -/
structure HL (w0 w : World) (X : List Nat) (H : List Blk) : Prop where
  os : w.os = w0.os
  tape : w.tape = w0.tape
  output : w.output = w0.output
  size : w0.heap.size ≤ w.heap.size
  old : ∀ k, k < w0.heap.size → k ∉ X → w.heap[k]? = w0.heap[k]?
  blk : ∀ x ∈ H, w.heap[x.1]? = some (.cells (x.2.2.map SV.val).toArray x.2.1 (0, 0))
  nd : (H.map (·.1)).Nodup
  inx : ∀ x ∈ H, x.1 ∈ X ∨ w0.heap.size ≤ x.1

section
variable {w0 w w' : World} {X : List Nat} {H : List Blk}

theorem HL.start (w : World) : HL w w [] [] := ⟨rfl, rfl, rfl, Nat.le_refl _, fun _ _ _ => rfl, by simp, by simp, by simp⟩
theorem HL.startB {b : Nat} {t : TypeId} {cs : List SV} (h : w.heap[b]? = some (.cells (cs.map SV.val).toArray t (0, 0))) : HL w w [b] [(b, t, cs)] :=
  ⟨rfl, rfl, rfl, Nat.le_refl _, fun _ _ _ => rfl, by simp [h], by simp, by simp⟩

theorem HL.at (h : HL w0 w X H) {k b : Nat} {t : TypeId} {cs : List SV} (hk : H[k]? = some (b, t, cs)) : w.heap[b]? = some (.cells (cs.map SV.val).toArray t (0, 0)) :=
  h.blk _ (List.mem_of_getElem? hk)
theorem HL.lt (h : HL w0 w X H) {k b : Nat} {t : TypeId} {cs : List SV} (hk : H[k]? = some (b, t, cs)) : b < w.heap.size :=
  (Array.getElem?_eq_some_iff.1 (h.at hk)).1
theorem HL.cell (h : HL w0 w X H) {k b i : Nat} {t : TypeId} {cs : List SV} {v : SV} (hk : H[k]? = some (b, t, cs)) (hv : cs[i]? = some v) : w.cell? ⟨b, i, none⟩ = some v.val := by
  simp [World.cell?, h.at hk, hv]
theorem HL.frozen (h : HL w0 w X H) {k b i : Nat} {t : TypeId} {cs : List SV} (hk : H[k]? = some (b, t, cs)) : w.frozen? ⟨b, i, none⟩ = false := by
  simp [World.frozen?, h.at hk]

theorem nodup_ne {H : List Blk} (hn : (H.map (·.1)).Nodup) {k j : Nat} {x y : Blk} (hk : H[k]? = some x) (hj : H[j]? = some y) (hne : k ≠ j) : x.1 ≠ y.1 := by
  intro he
  have h1 : (H.map (·.1))[k]? = some x.1 := by simp [hk]
  have h2 : (H.map (·.1))[j]? = some y.1 := by simp [hj]
  have hlt : k < (H.map (·.1)).length := (List.getElem?_eq_some_iff.1 h1).1
  exact hne ((List.getElem?_inj hlt hn).1 (by rw [h1, h2, he]))

theorem map_set_fst {H : List Blk} {k b : Nat} {t t' : TypeId} {cs cs' : List SV} (hk : H[k]? = some (b, t, cs)) : (H.set k (b, t', cs')).map (·.1) = H.map (·.1) := by
  rw [List.map_set]
  have h1 : (H.map (·.1))[k]? = some b := by simp [hk]
  obtain ⟨hlt, he⟩ := List.getElem?_eq_some_iff.1 h1
  have : (H.map (·.1)).set k b = H.map (·.1) := by
    apply List.ext_getElem?
    intro j
    rw [List.getElem?_set]
    split
    · rename_i hkj; subst hkj; rw [h1]
    · rfl
  exact this

/-- The heap as it was but for block b, which holds cs' now. -/
theorem HL.put (h : HL w0 w X H) {k b : Nat} {t t' : TypeId} {cs cs' : List SV} (hk : H[k]? = some (b, t, cs)) (ho : w'.os = w.os) (ht : w'.tape = w.tape) (hu : w'.output = w.output)
    (hz : w.heap.size ≤ w'.heap.size) (hb : w'.heap[b]? = some (.cells (cs'.map SV.val).toArray t' (0, 0))) (hold : ∀ j, j < w.heap.size → j ≠ b → w'.heap[j]? = w.heap[j]?) :
    HL w0 w' X (H.set k (b, t', cs')) := by
  have hmem : ((b, t, cs) : Blk) ∈ H := List.mem_of_getElem? hk
  have hfst : (H.set k (b, t', cs')).map (·.1) = H.map (·.1) := map_set_fst hk
  refine ⟨ho.trans h.os, ht.trans h.tape, hu.trans h.output, Nat.le_trans h.size hz, ?_, ?_, by rw [hfst]; exact h.nd, ?_⟩
  · intro j hj hX
    have hne : j ≠ b := by
      rintro rfl
      rcases h.inx _ hmem with h1 | h1
      · exact hX h1
      · exact absurd hj (Nat.not_lt.2 h1)
    exact (hold j (Nat.lt_of_lt_of_le hj h.size) hne).trans (h.old j hj hX)
  · intro x hx
    obtain ⟨j, hj⟩ := List.mem_iff_getElem?.1 hx
    rw [List.getElem?_set] at hj
    split at hj
    · rename_i hkj
      subst hkj
      split at hj
      · obtain rfl := Option.some.inj hj; exact hb
      · cases hj
    · rename_i hkj
      have hne : x.1 ≠ b := (nodup_ne h.nd hj hk (Ne.symm hkj))
      have hlt : x.1 < w.heap.size := (Array.getElem?_eq_some_iff.1 (h.blk x (List.mem_of_getElem? hj))).1
      rw [hold x.1 hlt hne]
      exact h.blk x (List.mem_of_getElem? hj)
  · intro x hx
    have : x.1 ∈ H.map (·.1) := by rw [← hfst]; exact List.mem_map_of_mem hx
    obtain ⟨y, hy, he⟩ := List.mem_map.1 this
    have := h.inx y hy
    rwa [he] at this

theorem HL.setCell (h : HL w0 w X H) {k b i : Nat} {t : TypeId} {cs : List SV} (hk : H[k]? = some (b, t, cs)) (v : SV) : HL w0 (w.setCell ⟨b, i, none⟩ v.val) X (H.set k (b, t, cs.set i v)) := by
  refine h.put hk rfl rfl rfl (by simp) ?_ (fun j hj hne => heap_setCell_other w ⟨b, i, none⟩ j v.val hne)
  rw [heap_setCell_same w b i _ t v.val (h.at hk)]
  simp [List.map_set]

/-- New blocks, all old ones as they were. -/
theorem HL.more (h : HL w0 w X H) {N : List Blk} (h' : HL w w' [] N) : HL w0 w' X (H ++ N) := by
  have hN : ∀ x ∈ N, w.heap.size ≤ x.1 := fun x hx => (h'.inx x hx).resolve_left (by simp)
  have hH : ∀ x ∈ H, x.1 < w.heap.size := fun x hx => (Array.getElem?_eq_some_iff.1 (h.blk x hx)).1
  refine ⟨h'.os.trans h.os, h'.tape.trans h.tape, h'.output.trans h.output, Nat.le_trans h.size h'.size, ?_, ?_, ?_, ?_⟩
  · intro j hj hX
    exact (h'.old j (Nat.lt_of_lt_of_le hj h.size) (by simp)).trans (h.old j hj hX)
  · intro x hx
    rcases List.mem_append.1 hx with hx | hx
    · rw [h'.old x.1 (hH x hx) (by simp)]; exact h.blk x hx
    · exact h'.blk x hx
  · rw [List.map_append, List.nodup_append]
    refine ⟨h.nd, h'.nd, ?_⟩
    intro a ha c hc
    obtain ⟨x, hx, rfl⟩ := List.mem_map.1 ha
    obtain ⟨y, hy, rfl⟩ := List.mem_map.1 hc
    have := hH x hx
    have := hN y hy
    omega
  · intro x hx
    rcases List.mem_append.1 hx with hx | hx
    · exact h.inx x hx
    · exact .inr (Nat.le_trans h.size (hN x hx))

theorem HL.grow (h : HL w0 w X H) (hg : Grow w w') : HL w0 w' X H := by
  have : HL w w' [] [] := ⟨hg.os, hg.tape, hg.output, hg.size, fun k hk _ => hg.block k hk, by simp, by simp, by simp⟩
  simpa using h.more this

theorem HL.drew (h : HL w0 w X H) : HL w0 w.drew X H := h.grow ⟨rfl, rfl, rfl, Nat.le_refl _, fun _ _ => rfl⟩

theorem HL.alloc (h : HL w0 w X H) (t : TypeId) (cs : List SV) : HL w0 (w.alloc (.cells (cs.map SV.val).toArray t)) X (H ++ [(w.heap.size, t, cs)]) := by
  refine h.more ⟨rfl, rfl, rfl, by simp, fun k hk _ => heap_alloc_old w _ hk, ?_, by simp, by simp⟩
  intro x hx
  simp only [List.mem_singleton] at hx
  subst hx
  exact heap_alloc_new w _

/-- A callee that writes the known block at place k and makes new ones. -/
theorem HL.call (h : HL w0 w X H) {k b : Nat} {t t' : TypeId} {cs cs' : List SV} {N : List Blk} (hk : H[k]? = some (b, t, cs)) (h' : HL w w' [b] ((b, t', cs') :: N)) :
    HL w0 w' X (H.set k (b, t', cs') ++ N) := by
  have hb : b < w.heap.size := h.lt hk
  have hnd := h'.nd
  simp only [List.map_cons, List.nodup_cons] at hnd
  have hN : ∀ x ∈ N, w.heap.size ≤ x.1 := fun x hx => by
    rcases h'.inx x (List.mem_cons_of_mem _ hx) with h1 | h1
    · simp only [List.mem_singleton] at h1
      exact absurd (List.mem_map_of_mem (f := (·.1)) hx) (by rw [h1]; exact hnd.1)
    · exact h1
  have h1 : HL w0 w' X (H.set k (b, t', cs')) :=
    h.put hk h'.os h'.tape h'.output h'.size (h'.blk _ List.mem_cons_self) (fun j hj hne => h'.old j hj (by simpa using hne))
  have hH : ∀ x ∈ H.set k (b, t', cs'), x.1 < w.heap.size := fun x hx => by
    have : x.1 ∈ H.map (·.1) := by rw [← map_set_fst hk]; exact List.mem_map_of_mem hx
    obtain ⟨y, hy, he⟩ := List.mem_map.1 this
    rw [← he]
    exact (Array.getElem?_eq_some_iff.1 (h.blk y hy)).1
  refine ⟨h1.os, h1.tape, h1.output, h1.size, h1.old, ?_, ?_, ?_⟩
  · intro x hx
    rcases List.mem_append.1 hx with hx | hx
    · exact h1.blk x hx
    · exact h'.blk x (List.mem_cons_of_mem _ hx)
  · rw [List.map_append, List.nodup_append]
    refine ⟨h1.nd, hnd.2, ?_⟩
    intro a ha c hc
    obtain ⟨x, hx, rfl⟩ := List.mem_map.1 ha
    obtain ⟨y, hy, rfl⟩ := List.mem_map.1 hc
    have := hH x hx
    have := hN y hy
    omega
  · intro x hx
    rcases List.mem_append.1 hx with hx | hx
    · exact h1.inx x hx
    · exact .inr (Nat.le_trans h.size (hN x hx))

theorem HL.toGrow (h : HL w0 w [] H) : Grow w0 w := ⟨h.os, h.tape, h.output, h.size, fun k hk => h.old k hk (by simp)⟩

/-- A block of old memory that nothing has touched joins the known ones. -/
theorem HL.addX (h : HL w0 w [] H) {b : Nat} {t : TypeId} {cs : List SV} (hb : w0.heap[b]? = some (.cells (cs.map SV.val).toArray t (0, 0))) : HL w0 w [b] ((b, t, cs) :: H) := by
  have hlt : b < w0.heap.size := (Array.getElem?_eq_some_iff.1 hb).1
  refine ⟨h.os, h.tape, h.output, h.size, fun k hk _ => h.old k hk (by simp), ?_, ?_, ?_⟩
  · intro x hx
    rcases List.mem_cons.1 hx with rfl | hx
    · rw [h.old b hlt (by simp)]; exact hb
    · exact h.blk x hx
  · rw [List.map_cons, List.nodup_cons]
    refine ⟨fun hm => ?_, h.nd⟩
    obtain ⟨x, hx, he⟩ := List.mem_map.1 hm
    rcases h.inx x hx with h1 | h1
    · cases h1
    · simp only at he; omega
  · intro x hx
    rcases List.mem_cons.1 hx with rfl | hx
    · exact .inl (by simp)
    · exact .inr ((h.inx x hx).resolve_left (by simp))

theorem HL.sub (h : HL w0 w X H) {H' : List Blk} (hs : H'.Sublist H) : HL w0 w X H' :=
  ⟨h.os, h.tape, h.output, h.size, h.old, fun x hx => h.blk x (hs.subset hx), (hs.map _).nodup h.nd, fun x hx => h.inx x (hs.subset hx)⟩

/-! ### Memory that is read -/

/-- From a on the cells vs can be read. -/
def Rd (w : World) (a : Option Addr) (vs : List SV) : Prop := ∀ j v, vs[j]? = some v → ∃ p, a = some p ∧ p.block < w.heap.size ∧ w.cell? (p.add j) = some v.val

theorem cell_block {w : World} {a : Addr} {v : Value} (h : w.cell? a = some v) : a.block < w.heap.size := block_lt_of_cell h

theorem Addr.add_block (p : Addr) (j : Nat) : (p.add j).block = p.block := by unfold Addr.add; split <;> rfl

/-- a lies apart from the blocks X. -/
def Off (a : Option Addr) (X : List Nat) : Prop := ∀ p, a = some p → p.block ∉ X

theorem Rd.keep {a : Option Addr} {vs : List SV} (hr : Rd w0 a vs) (h : HL w0 w X H) (ho : Off a X) : Rd w a vs := fun j v hv => by
  obtain ⟨p, rfl, hp, hc⟩ := hr j v hv
  refine ⟨p, rfl, Nat.lt_of_lt_of_le hp h.size, ?_⟩
  rw [← hc]
  exact World.cell?_of_block (by rw [Addr.add_block]; exact h.old _ hp (ho p rfl))
theorem Rd.grow {a : Option Addr} {vs : List SV} (hr : Rd w a vs) (hg : Grow w w') : Rd w' a vs := fun j v hv => by
  obtain ⟨p, rfl, hp, hc⟩ := hr j v hv
  refine ⟨p, rfl, Nat.lt_of_lt_of_le hp hg.size, ?_⟩
  rw [← hc]
  exact World.cell?_of_block (by rw [Addr.add_block]; exact hg.block _ hp)
theorem Rd.take {a : Option Addr} {vs : List SV} (hr : Rd w a vs) (k : Nat) : Rd w a (vs.take k) := fun j v hv => by
  rw [List.getElem?_take] at hv
  split at hv
  · exact hr j v hv
  · cases hv
theorem Rd.drop {a : Option Addr} {vs : List SV} (hr : Rd w a vs) (k c : Nat) (hc : vs.length ≤ c) : Rd w (if c = k then a else a.map (·.add k)) (vs.drop k) := fun j v hv => by
  rw [List.getElem?_drop] at hv
  have hlt : k + j < vs.length := (List.getElem?_eq_some_iff.1 hv).1
  obtain ⟨p, rfl, hp, hcell⟩ := hr (k + j) v hv
  refine ⟨p.add k, ?_, by rw [Addr.add_block]; exact hp, by rw [Addr.add_add]; exact hcell⟩
  rw [if_neg (by omega)]
  rfl
theorem Rd.nil (a : Option Addr) : Rd w a [] := fun j v hv => by simp at hv
theorem Rd.blk (h : HL w0 w X H) {k b : Nat} {t : TypeId} {cs : List SV} (hk : H[k]? = some (b, t, cs)) (o n : Nat) : Rd w (some ⟨b, o, none⟩) ((cs.drop o).take n) := fun j v hv => by
  rw [List.getElem?_take] at hv
  split at hv
  · rw [List.getElem?_drop] at hv
    exact ⟨⟨b, o, none⟩, rfl, h.lt hk, by rw [Addr.add_lit]; exact h.cell hk hv⟩
  · cases hv
theorem Off.slice {a : Option Addr} (h : Off a X) (k c : Nat) : Off (if c = k then a else a.map (·.add k)) X := by
  intro p hp
  split at hp
  · exact h p hp
  · obtain ⟨q, rfl, rfl⟩ := Option.map_eq_some_iff.1 hp
    rw [Addr.add_block]
    exact h q rfl
end

/-! ### The operations -/
section
variable {P : Program} {n : Nat} {S : Env} {w : World} {K : Env → World → Prop}

def okB (n : Nat) : Option Nat → Bool
  | some d => Nat.blt d n
  | none => true
theorem okB_dst {n : Nat} {d : Option Nat} (h : okB n d = true) : okDst n d := by
  cases d with
  | none => trivial
  | some d => have h' : Nat.blt d n = true := h
              rw [Nat.blt_eq] at h'; exact h'

def SV.isOne : SV → Bool
  | .raw v => v.oneCell'
  | .tup2 .. => false
  | .tup3 .. => false
  | _ => true
theorem SV.isOne_val {v : SV} (h : v.isOne = true) : v.val.oneCell' = true := by cases v <;> first | exact h | rfl | cases h

theorem plain1_spec {t : TypeId} (h : plain1 P t = true) : (∀ w : World, (isAgg t).run P w = .ok false w) ∧ ∀ w : World, (sizeOf t).run P w = .ok 1 w := by
  unfold plain1 at h
  rw [Bool.and_eq_true] at h
  obtain ⟨h1, h2⟩ := h
  constructor
  · intro w
    cases hu : P.underlying t with
    | none => rw [hu] at h1; cases h1
    | some d =>
      rw [hu] at h1
      unfold isAgg
      rw [Sem.run_bind, run_underlying hu w]
      cases d <;> first | rfl | cases h1
  · intro w
    cases hi : P.info? t with
    | none => rw [hi] at h2; cases h2
    | some i =>
      rw [hi] at h2
      have : i.size = 1 := by simpa using h2
      simp [sizeOf, typeInfo, hi, this]

theorem run_loadAt_one {t : TypeId} (ht : plain1 P t = true) {p : Addr} {v : Value} (hc : w.cell? p = some v) : (Instr.loadAt t (.pointer (some p))).run P w = .ok v w := by
  obtain ⟨h1, _⟩ := plain1_spec ht
  simp [Instr.loadAt, Instr.sureAddr, loadVar, h1, load, Sem.run, hc]

theorem run_storeAt_one {t : TypeId} (ht : plain1 P t = true) {p : Addr} {u v : Value} (hv : v.oneCell' = true) (hc : w.cell? p = some u) (hf : w.frozen? p = false) :
    (Instr.storeAt t (.pointer (some p)) v).run P w = .ok () (w.setCell p v) := by
  obtain ⟨_, h2⟩ := plain1_spec ht
  have hcs : v.cells = #[v] := by cases v <;> first | rfl | cases hv
  simp [Instr.storeAt, Instr.sureAddr, storeVar, hcs, h2, storeCells, run_store P w _ v _ hv, Addr.add_zero', hc, hf]

theorem SemE.value {o : Oper} (v : SV) {w' : World} (hd : okB n o.dst = true) (hr : ∀ a, Holds n S a → (execOp a.eval o).run P w = .ok (.value v.val) w') (h : K (S.put o.dst v) w') : SemE P n S w o K :=
  fun a ha => by rw [hr a ha]; exact ⟨_, ha.put _ _ (okB_dst hd), h⟩

theorem SemE.load {dst : Option Tmp} {t : TypeId} {x : Operand} {ty : TypeId} {pos : String} {after : Array Edge} {g : Option (Nat × Bool)} {p : Addr} (v : SV)
    (hx : S.op x = some (.ptr p)) (ht : plain1 P t = true) (hd : okB n dst = true) (hc : w.cell? p = some v.val) (h : K (S.put dst v) w) : SemE P n S w ⟨dst, .load t x, ty, pos, after, g⟩ K :=
  SemE.value v hd (fun a ha => by simp [execOp, ha.eval hx, SV.val, run_loadAt_one ht hc]) h

theorem SemE.store {t : TypeId} {x y : Operand} {ty : TypeId} {pos : String} {after : Array Edge} {g : Option (Nat × Bool)} {p : Addr} {u : Value} (v : SV)
    (hx : S.op x = some (.ptr p)) (hy : S.op y = some v) (ht : plain1 P t = true) (h1 : v.isOne = true) (hc : w.cell? p = some u) (hf : w.frozen? p = false) (h : K S (w.setCell p v.val)) :
    SemE P n S w ⟨none, .store t x y, ty, pos, after, g⟩ K := fun a ha => by
  have hr : (execOp a.eval ⟨none, .store t x y, ty, pos, after, g⟩).run P w = .ok .skip (w.setCell p v.val) := by
    simp [execOp, ha.eval hx, ha.eval hy, show (SV.ptr p).val = Value.pointer (some p) from rfl, run_storeAt_one ht (SV.isOne_val h1) hc hf]
  rw [hr]
  exact ⟨S, ha, h⟩

theorem SemE.loadB {w0 : World} {X : List Nat} {H : List Blk} (hl : HL w0 w X H) (k : Nat) {dst : Option Tmp} {t : TypeId} {x : Operand} {ty : TypeId} {pos : String} {after : Array Edge} {g : Option (Nat × Bool)}
    {b i : Nat} {bt : TypeId} {cs : List SV} {v : SV} (hx : S.op x = some (.ptr ⟨b, i, none⟩)) (ht : plain1 P t = true) (hd : okB n dst = true) (hk : H[k]? = some (b, bt, cs)) (hv : cs[i]? = some v)
    (h : K (S.put dst v) w) : SemE P n S w ⟨dst, .load t x, ty, pos, after, g⟩ K :=
  SemE.load v hx ht hd (hl.cell hk hv) h

theorem SemE.storeB {w0 : World} {X : List Nat} {H : List Blk} (hl : HL w0 w X H) (k : Nat) {t : TypeId} {x y : Operand} {ty : TypeId} {pos : String} {after : Array Edge} {g : Option (Nat × Bool)}
    {b i : Nat} {bt : TypeId} {cs : List SV} {v : SV} (hx : S.op x = some (.ptr ⟨b, i, none⟩)) (hy : S.op y = some v) (ht : plain1 P t = true) (h1 : v.isOne = true) (hk : H[k]? = some (b, bt, cs)) (hi : i < cs.length)
    (h : ∀ w', HL w0 w' X (H.set k (b, bt, cs.set i v)) → K S w') : SemE P n S w ⟨none, .store t x y, ty, pos, after, g⟩ K :=
  SemE.store v hx hy ht h1 (hl.cell hk (List.getElem?_eq_getElem hi)) (hl.frozen hk) (h _ (hl.setCell hk v))

/-- What a new variable holds. -/
def zeroIs (P : Program) (t : TypeId) (cs : List SV) : Prop := ((P.info? t).bind (·.zero)).map (·.cells) = some (cs.map SV.val).toArray

theorem SemE.alloc {w0 : World} {X : List Nat} {H : List Blk} (hl : HL w0 w X H) {dst : Option Tmp} {t : TypeId} {ty : TypeId} {pos : String} {after : Array Edge} {g : Option (Nat × Bool)} {cs : List SV}
    (hz : zeroIs P t cs) (hd : okB n dst = true) (h : ∀ b w', w0.heap.size ≤ b → HL w0 w' X (H ++ [(b, t, cs)]) → K (S.put dst (.ptr ⟨b, 0, none⟩)) w') : SemE P n S w ⟨dst, .alloc t, ty, pos, after, g⟩ K := by
  unfold zeroIs at hz
  cases hi : P.info? t with
  | none => rw [hi] at hz; cases hz
  | some i =>
    rw [hi] at hz
    cases hzz : i.zero with
    | none => simp [hzz] at hz
    | some z =>
      have hcs : z.cells = (cs.map SV.val).toArray := by simpa [hzz] using hz
      refine SemE.value (.ptr ⟨w.heap.size, 0, none⟩) (w' := w.alloc (.cells (cs.map SV.val).toArray t)) hd (fun a ha => ?_) (h _ _ hl.size (hl.alloc t cs))
      simp [execOp, Instr.alloc, zeroValue, typeInfo, hi, hzz, newVar, newRow, newObj, Sem.run, hcs, SV.val]

def argsSV (S : Env) : List Operand → Option (List SV)
  | [] => some []
  | x :: xs => match S.op x, argsSV S xs with
    | some v, some vs => some (v :: vs)
    | _, _ => none

theorem argsSV_val {a : Act} (ha : Holds n S a) : ∀ {xs : List Operand} {vs : List SV}, argsSV S xs = some vs → xs.map a.eval = vs.map SV.val
  | [], vs, h => by simp only [argsSV, Option.some.injEq] at h; subst h; rfl
  | x :: xs, vs, h => by
    simp only [argsSV] at h
    split at h
    · rename_i v us hv hus
      obtain rfl := Option.some.inj h
      simp [ha.eval hv, argsSV_val ha hus]
    · cases h

theorem run_call {f : FuncId} (hp : plainFn P f = true) {xs : List Operand} {vs : List SV} {argTypes : Array TypeId} {dst : Option Tmp} {ty : TypeId} {pos : String} {after : Array Edge} {g : Option (Nat × Bool)}
    {a : Act} (ha : Holds n S a) (hargs : argsSV S xs = some vs) :
    (execOp a.eval ⟨dst, .call { callee := .value (.func f), args := xs.toArray, argTypes := argTypes }, ty, pos, after, g⟩).run P w = .ok (.enter f (vs.map SV.val).toArray) w := by
  unfold plainFn at hp
  cases hf : P.funcs[f]? with
  | none => rw [hf] at hp; cases hp
  | some fn =>
    rw [hf] at hp
    simp only [Bool.and_eq_true, Bool.not_eq_true'] at hp
    have hb : ¬ fn.body = none := by cases hfb : fn.body <;> simp_all
    have hn : ¬ fn.name = "runtime.NumGoroutine" := by have := hp.1; simpa using this
    have he : xs.toArray.map a.eval = (vs.map SV.val).toArray := by rw [List.map_toArray, argsSV_val ha hargs]
    simp [execOp, resolve, he, Deferred.ofValue, Act.eval, invoke, callFunc, hf, hn, hb]

theorem SemE.call {f : FuncId} (hp : plainFn P f = true) {xs : List Operand} {vs : List SV} {argTypes : Array TypeId} {dst : Option Tmp} {ty : TypeId} {pos : String} {after : Array Edge} {g : Option (Nat × Bool)}
    (hargs : argsSV S xs = some vs) (hd : okB n dst = true) {R : Ending → World → Prop} (hc : Calls P f (vs.map SV.val).toArray w R)
    (h : ∀ e w', R e w' → ∃ v : SV, e = .returned v.val ∧ K (S.put dst v) w') :
    SemE P n S w ⟨dst, .call { callee := .value (.func f), args := xs.toArray, argTypes := argTypes }, ty, pos, after, g⟩ K := fun a ha => by
  rw [run_call hp ha hargs]
  exact Calls.mono hc fun e w' hr => by
    obtain ⟨v, he, hk⟩ := h e w' hr
    exact ⟨v.val, he, _, ha.put _ _ (okB_dst hd), hk⟩

/-! ### Readings in a region that draws -/

theorem Quiet.load {dst : Option Tmp} {t : TypeId} {x : Operand} {ty : TypeId} {pos : String} {after : Array Edge} {g : Option (Nat × Bool)} {p : Addr} {v : SV}
    (hx : S.op x = some (.ptr p)) (ht : plain1 P t = true) (hc : w.cell? p = some v.val) : Quiet P n S w ⟨dst, .load t x, ty, pos, after, g⟩ v := fun a ha w' hg => by
  have hc' : w'.cell? p = some v.val := (World.cell?_of_block (hg.block _ (block_lt_of_cell hc))).trans hc
  exact .inl (by simp [execOp, ha.eval hx, show (SV.ptr p).val = Value.pointer (some p) from rfl, run_loadAt_one ht hc'])

theorem Quiet.call {f : FuncId} (hp : plainFn P f = true) {xs : List Operand} {vs : List SV} {argTypes : Array TypeId} {dst : Option Tmp} {ty : TypeId} {pos : String} {after : Array Edge} {g : Option (Nat × Bool)} {v : SV}
    (hargs : argsSV S xs = some vs) (hc : ∀ w', Grow w w' → Calls P f (vs.map SV.val).toArray w' (fun e w'' => e = .returned v.val ∧ w'' = w')) :
    Quiet P n S w ⟨dst, .call { callee := .value (.func f), args := xs.toArray, argTypes := argTypes }, ty, pos, after, g⟩ v := fun a ha w' hg =>
  .inr ⟨f, _, run_call hp ha hargs, hc w' hg⟩

theorem StopR.mk {ops : Array Oper} {wild : Nat → Bool} {o : Oper} {σ : List (Nat × Nat)} (v : SV) (hq : Quiet P n S w o v) (hd : okB n o.dst = true) (h : wpO P n ops wild σ (S.put o.dst v) w K) :
    StopR P n ops wild o σ S w K := ⟨v, hq, okB_dst hd, h⟩

theorem StopR.loadB {w0 : World} {X : List Nat} {H : List Blk} (hl : HL w0 w X H) (k : Nat) {ops : Array Oper} {wild : Nat → Bool} {σ : List (Nat × Nat)} {dst : Option Tmp} {t : TypeId} {x : Operand} {ty : TypeId} {pos : String} {after : Array Edge} {g : Option (Nat × Bool)}
    {b i : Nat} {bt : TypeId} {cs : List SV} {v : SV} (hx : S.op x = some (.ptr ⟨b, i, none⟩)) (ht : plain1 P t = true) (hd : okB n dst = true) (hk : H[k]? = some (b, bt, cs)) (hv : cs[i]? = some v)
    (h : wpO P n ops wild σ (S.put dst v) w K) : StopR P n ops wild ⟨dst, .load t x, ty, pos, after, g⟩ σ S w K :=
  StopR.mk v (Quiet.load hx ht (hl.cell hk hv)) hd h
theorem StopR.load {ops : Array Oper} {wild : Nat → Bool} {σ : List (Nat × Nat)} {dst : Option Tmp} {t : TypeId} {x : Operand} {ty : TypeId} {pos : String} {after : Array Edge} {g : Option (Nat × Bool)}
    {p : Addr} (v : SV) (hx : S.op x = some (.ptr p)) (ht : plain1 P t = true) (hd : okB n dst = true) (hc : w.cell? p = some v.val)
    (h : wpO P n ops wild σ (S.put dst v) w K) : StopR P n ops wild ⟨dst, .load t x, ty, pos, after, g⟩ σ S w K :=
  StopR.mk v (Quiet.load hx ht hc) hd h
end
end Go.Proofs.YtggbaffkjfofhaaDoor
