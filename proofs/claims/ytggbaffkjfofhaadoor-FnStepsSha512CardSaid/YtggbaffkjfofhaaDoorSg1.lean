/- Lists of structs and lists of texts: a slice of one struct; elements that stand in known blocks; what steps tell. -/
import Derived.Test.YtggbaffkjfofhaaDoorFacts
set_option linter.unusedVariables false
set_option linter.unusedSimpArgs false
namespace Go.Proofs.YtggbaffkjfofhaaDoor
open Go

section
variable {P : Program} {n : Nat} {S : Env} {w : World} {K : Env → World → Prop}

/-- A slice of one struct. -/
theorem SemE.buildOne {w0 : World} {X : List Nat} {H : List Blk} (hl : HL w0 w X H) (e : TypeId) {dst : Option Tmp} {t : TypeId} {x : Operand} {ty : TypeId} {pos : String} {after : Array Edge} {g : Option (Nat × Bool)}
    {vs : List SV} (ht : sliceOf P t e vs.length = true) (h0 : 0 < vs.length) (hs : vs.length ≤ 100) (hx : S.op x = some (SV.agg vs)) (hd : okB n dst = true)
    (h : ∀ b w', w0.heap.size ≤ b → HL w0 w' X (H ++ [(b, e, vs)]) → K (S.put dst (.sl (some ⟨b, 0, none⟩) 1 1)) w') : SemE P n S w ⟨dst, .buildSlice t 1 #[(0, x)], ty, pos, after, g⟩ K := by
  obtain ⟨hu, i, z, hi, hz, hsz, hzs, hb⟩ := sliceOf_spec ht
  refine SemE.value (.sl (some ⟨w.heap.size, 0, none⟩) 1 1) (w' := w.alloc (.cells (vs.map SV.val).toArray e)) hd (fun a ha => ?_) (h _ _ hl.size (hl.alloc e vs))
  have hcell : (SV.agg vs).val.cells = (vs.map SV.val).toArray := by rw [SV.agg_val]; rfl
  have hfill : Instr.fill (fun j => some (j * i.size, i.size)) ((Array.range (1 * i.size)).map (z.cells[· % z.cells.size]!)) [(0, (SV.agg vs).val)] = some (vs.map SV.val).toArray := by
    rw [hsz]
    obtain ⟨r, hr, hrs, hk⟩ := Go.Great.fill_dense (s := vs.length) h0 [(SV.agg vs).val] 0 ((Array.range (1 * vs.length)).map (z.cells[· % z.cells.size]!)) (fun v hv => by
      obtain rfl := List.mem_singleton.1 hv
      rw [hcell]; simp) (by simp)
    have e1 : ([(SV.agg vs).val].zipIdx 0).map (fun x => (x.2, x.1)) = [(0, (SV.agg vs).val)] := rfl
    rw [e1] at hr
    rw [hr]
    congr 1
    apply Array.ext_getElem?
    intro k
    rw [hk k]
    by_cases hlt : k < vs.length
    · rw [if_pos (by simp; omega), Nat.div_eq_of_lt hlt, Nat.mod_eq_of_lt hlt]
      simp [hcell]
    · rw [if_neg (by simp; omega), Array.getElem?_eq_none (by simp; omega), Array.getElem?_eq_none (by simp; omega)]
  have hrun := run_buildSlice (P := P) w t e 1 #[(0, (SV.agg vs).val)] (vs.map SV.val).toArray i z hu hi hz (by rw [hsz]; omega) (by rw [hsz]; omega) hfill
  simp [execOp, ha.eval hx, hrun, SV.val]

/-- A slice of nothing. -/
theorem SemE.buildNil {w0 : World} {X : List Nat} {H : List Blk} (hl : HL w0 w X H) (e : TypeId) {sz : Nat} {dst : Option Tmp} {t : TypeId} {ty : TypeId} {pos : String} {after : Array Edge} {g : Option (Nat × Bool)}
    (ht : sliceOf P t e sz = true) (hd : okB n dst = true) (h : ∀ b w', w0.heap.size ≤ b → HL w0 w' X (H ++ [(b, e, [])]) → K (S.put dst (.sl (some ⟨b, 0, none⟩) 0 0)) w') : SemE P n S w ⟨dst, .buildSlice t 0 #[], ty, pos, after, g⟩ K := by
  obtain ⟨hu, i, z, hi, hz, hsz, hzs, hb⟩ := sliceOf_spec ht
  refine SemE.value (.sl (some ⟨w.heap.size, 0, none⟩) 0 0) (w' := w.alloc (.cells (([] : List SV).map SV.val).toArray e)) hd (fun a ha => ?_) (h _ _ hl.size (hl.alloc e []))
  simp [execOp, Instr.buildSlice, run_underlying hu, sizeOf, typeInfo, hi, Instr.fill, newRow, newObj, Sem.run, SV.val]
  exact congrArg (fun cs => w.alloc (.cells cs e)) (Array.ext' (by simp))

/-- A text that is foreign, or stands in a known block. -/
def Elem (w : World) (H : List Blk) (v : SV) (t : List (BitVec 8)) : Prop := Txt w v t ∨ ∃ b c e cs, v = .sl (some ⟨b, 0, none⟩) t.length c ∧ t.length ≤ c ∧ (b, e, cs) ∈ H ∧ cs.take t.length = t.map SV.u8
theorem Elem.mono {H H' : List Blk} {v : SV} {t : List (BitVec 8)} (h : Elem w H v t) (hs : ∀ y ∈ H, y ∈ H') : Elem w H' v t := by
  rcases h with h | ⟨b, c, e, cs, h1, h2, h3, h4⟩
  · exact .inl h
  · exact .inr ⟨b, c, e, cs, h1, h2, hs _ h3, h4⟩
theorem Elem.txt {w0 : World} {H : List Blk} {v : SV} {t : List (BitVec 8)} (h : Elem w0 H v t) (hl : HL w0 w [] H) : Txt w v t := by
  rcases h with h | ⟨b, c, e, cs, rfl, h2, h3, h4⟩
  · exact h.grow hl.toGrow
  · obtain ⟨k, hk⟩ := List.mem_iff_getElem?.1 h3
    have := Rd.blk hl hk 0 t.length
    rw [List.drop_zero, h4] at this
    exact Txt.mk this rfl h2 (fun h => by cases h)
/-- What was owned stands in its block. -/
theorem Own.elem {w0 : World} {e : TypeId} {v : SV} {t : List (BitVec 8)} {B : List Blk} (ho : Own e 1 v t.length (t.map SV.u8) B) (hnil : Txt w0 (.sl none 0 0) []) : Elem w0 B v t := by
  obtain ⟨_, ⟨rfl, h0, _⟩ | ⟨b, c, rest, rfl, hc, _, _, rfl⟩⟩ := ho
  · have : t = [] := List.eq_nil_of_length_eq_zero h0
    subst this
    exact .inl hnil
  · exact .inr ⟨b, c, e, _, rfl, hc, List.mem_singleton.2 rfl, by rw [List.take_left' (by simp)]⟩
end

/-- What steps tell: after each sum, what it is put behind and the text it is of. -/
def runS (text : List (BitVec 8)) : List (Nat × List (BitVec 8)) → List (List (BitVec 8) × List (BitVec 8))
  | [] => []
  | (k, b) :: s => if k = 0 then runS (text ++ b) s else if k = 1 then (b, text) :: runS text s else if k = 2 then runS [] s else runS text s
def aftS (text : List (BitVec 8)) : List (Nat × List (BitVec 8)) → List (BitVec 8)
  | [] => text
  | (k, b) :: s => if k = 0 then aftS (text ++ b) s else if k = 1 then aftS text s else if k = 2 then aftS [] s else aftS text s
theorem runS_append : ∀ (s s' : List (Nat × List (BitVec 8))) (text : List (BitVec 8)), runS text (s ++ s') = runS text s ++ runS (aftS text s) s'
  | [], s', text => rfl
  | (k, b) :: s, s', text => by
    simp only [List.cons_append, runS, aftS]
    by_cases h0 : k = 0
    · simp only [h0, if_true]; exact runS_append s s' _
    · by_cases h1 : k = 1
      · subst h1
        simp only [show ¬ (1 : Nat) = 0 by omega, if_false, if_true, List.cons_append]
        rw [runS_append s s' text]
      · by_cases h2 : k = 2
        · subst h2
          simp only [show ¬ (2 : Nat) = 0 by omega, show ¬ (2 : Nat) = 1 by omega, if_false, if_true]
          exact runS_append s s' _
        · simp only [h0, h1, h2, if_false]; exact runS_append s s' _
theorem aftS_append : ∀ (s s' : List (Nat × List (BitVec 8))) (text : List (BitVec 8)), aftS text (s ++ s') = aftS (aftS text s) s'
  | [], s', text => rfl
  | (k, b) :: s, s', text => by
    simp only [List.cons_append, aftS]
    by_cases h0 : k = 0
    · simp only [h0, if_true]; exact aftS_append s s' _
    · by_cases h1 : k = 1
      · subst h1
        simp only [show ¬ (1 : Nat) = 0 by omega, if_false, if_true]
        exact aftS_append s s' _
      · by_cases h2 : k = 2
        · subst h2
          simp only [show ¬ (2 : Nat) = 0 by omega, show ¬ (2 : Nat) = 1 by omega, if_false, if_true]
          exact aftS_append s s' _
        · simp only [h0, h1, h2, if_false]; exact aftS_append s s' _

/-- The steps that the first operations name. -/
def stp (os : List (BitVec 8)) (dd : List (List (BitVec 8))) (j : Nat) : Nat × List (BitVec 8) := ((os.getD j 0).toNat % 4, dd.getD j [])
def stL (os : List (BitVec 8)) (dd : List (List (BitVec 8))) (i : Nat) : List (Nat × List (BitVec 8)) := (List.range i).map (stp os dd)
theorem stL_succ (os : List (BitVec 8)) (dd : List (List (BitVec 8))) (i : Nat) : stL os dd (i + 1) = stL os dd i ++ [stp os dd i] := by simp [stL, List.range_succ]
theorem eq4 (op : BitVec 8) (c : Nat) (hc : c < 4) : (op % 4#8 == BitVec.ofNat 8 c) = decide (op.toNat % 4 = c) := by
  rw [Bool.eq_iff_iff]
  simp only [beq_iff_eq, decide_eq_true_eq]
  have e2 : (BitVec.ofNat 8 c).toNat = c := by rw [BitVec.toNat_ofNat]; omega
  have e1 : (op % 4#8).toNat = op.toNat % 4 := by rw [BitVec.toNat_umod]; rfl
  constructor
  · intro h
    have := congrArg BitVec.toNat h
    rw [e1, e2] at this
    exact this
  · intro h
    apply BitVec.eq_of_toNat_eq
    rw [e1, e2]
    exact h
/-- The cells of a list of steps. -/
def stCells (os : List (BitVec 8)) (es : List SV) : List SV := (es.zipIdx).flatMap fun x => [.nat ((os.getD x.2 0).toNat % 4), x.1]
theorem stCells_succ (os : List (BitVec 8)) (es : List SV) (v : SV) : stCells os (es ++ [v]) = stCells os es ++ [.nat ((os.getD es.length 0).toNat % 4), v] := by
  simp [stCells, List.zipIdx_append]
end Go.Proofs.YtggbaffkjfofhaaDoor
