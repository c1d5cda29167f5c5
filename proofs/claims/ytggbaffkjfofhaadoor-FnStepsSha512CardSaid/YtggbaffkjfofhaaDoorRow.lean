/- The end of a row: all that stood stands as it was. The arguments opened. -/
import Derived.Test.YtggbaffkjfofhaaDoorMem5
import Derived.Deep.Matrix
import Derived.ProofKit
import Derived.Carry
set_option linter.unusedVariables false
set_option linter.unusedSimpArgs false
namespace Go.Proofs.YtggbaffkjfofhaaDoor
open Go Go.ChangeShapes Go.WideShapes Go.ChangeAt Go.RowKit

theorem Grow.kept {W W' : World} (h : Grow W W') (may : MemPlace → Prop) : W.keptBut W' may := by
  refine ⟨h.os, h.output, fun i hi => ?_⟩
  rw [h.block i hi]
  have hs : W.heap[i]? = some W.heap[i] := Array.getElem?_eq_getElem hi
  rw [hs]
  cases W.heap[i] <;> first | rfl | exact ⟨rfl, rfl, rfl, fun _ _ => rfl⟩ | exact .inr ⟨rfl, rfl⟩

theorem Grow.below {W W' : World} (h : Grow W W') : Below W.heap.size W W' := ⟨h.os, h.tape, h.output, h.size, h.block⟩

section
variable {P : Program} {H : Type} {enc : TypeId × Value → H}

theorem trodAll_grow (hl : laidOutB P = true) {W W' : World} (hg : Grow W W') : ∀ {ts : List TypeId} {vs : List Value} {ds : List (DataW H)} {ps : List MemPlace}, ts.all (fun t => P.readableRec t && decide (t < P.types.size)) = true →
    DataW.TrodAll enc P W 0 (fun _ => true) true ts vs ds ps → (∀ x ∈ ps, x.block < W.heap.size) → DataW.TrodAll enc P W' 0 (fun b => decide (b < W.heap.size)) true ts vs ds ps
  | [], [], [], ps, _, h, _ => h
  | t :: ts, v :: vs, d :: ds, ps, ht, h, hlt => by
    obtain ⟨p, q, h1, h2, rfl⟩ := h
    simp only [List.all_cons, Bool.and_eq_true, decide_eq_true_eq] at ht
    exact ⟨p, q, Below.trod hl ht.1.1 ht.1.2 h1 hg.below (fun x hx => hlt x (List.mem_append_left _ hx)), trodAll_grow hl hg ht.2 h2 (fun x hx => hlt x (List.mem_append_right _ hx)), rfl⟩
  | [], _ :: _, _, _, _, h, _ => h.elim
  | [], [], _ :: _, _, _, h, _ => h.elim
  | _ :: _, [], _, _, _, h, _ => h.elim
  | _ :: _, _ :: _, [], _, _, h, _ => h.elim

/-- A law that told true and only made new memory. -/
theorem lawPost {f : Func} {s : ChangeSpec} {tb : TypeId} {W W' : World} {args : Array Value} {ds gs : List (DataW H)} {before : List MemPlace} (hl : laidOutB P = true)
    (hts : f.params.toList.all (fun t => P.readableRec t && decide (t < P.types.size)) = true) (hrt : f.resultTypes = #[tb]) (htb : P.underlying tb = some .bool) (hvars : s.vars = [])
    (hfn : (s.fn H (ds ++ [])).results = [.lit (.bool true)] ∧ (s.fn H (ds ++ [])).args = ds ∧ (s.fn H (ds ++ [])).vars = [])
    (hW : DataW.Whole enc P f.params.toList s.vars false W args.toList ds gs before) (hg : Grow W W') : s.post enc P f false true false false W args (.bool true) W' := by
  have hlt := hW.lt
  have hW' := hW
  obtain ⟨p, q, hA, hV, rfl, _, _⟩ := hW
  rw [hvars] at hV
  obtain ⟨rfl, rfl⟩ := trodVars_none hV
  rw [List.append_nil] at hlt
  refine ⟨ds, [], _, [], p, [], hW', ?_, ?_, ?_, World.keptBut_mono (fun x hx => ⟨hx, ?_⟩) (hg.kept (· ∈ p ++ [])), fun h => by cases h⟩
  · rw [hfn.1, hrt]
    exact trodAll_mk1 (shut_bool htb _)
  · rw [hfn.2.1]
    exact trodAll_grow hl hg hts hA hlt
  · rw [hfn.2.2, hvars]
    rfl
  · exact .inr (.inl (by simpa using hx))

/-! ### Arguments -/

theorem openInts {W : World} {base t e : TypeId} {k : IntKind} {v : Value} {d : DataW H} {p : List MemPlace} (ht : P.underlying t = some (.slice e)) (he : P.underlying e = some (.int k)) (hc : P.cellsOf e = 1)
    (hv : Value.okWide P W .any base t v) (h : DataW.Trod enc P W 0 (fun _ => true) true t v d p) :
    ∃ (a : Option Addr) (n c : Nat) (zs : List Int), v = (SV.sl a n c).val ∧ n ≤ c ∧ c ≤ maxLen ∧ zs.length = n ∧ (a = none → n = 0) ∧ (∀ z ∈ zs, (Lit.int k z).wf = true) ∧
      ∀ j z, zs[j]? = some z → ∃ q, a = some q ∧ q.block < W.heap.size ∧ W.cell? (q.add j) = some (.int k z) := by
  obtain ⟨a0, len, cap, rfl⟩ := okWide_slice ht hv
  obtain ⟨fuel, hf⟩ := h
  rcases open_ints ht he hc hf with ⟨hcs, _⟩ | ⟨a, len', cap', zs, hcs, _, hl, hm, hz, _, hcell, hwz⟩
  · simp [Value.cells] at hcs
    obtain ⟨rfl, rfl, rfl⟩ := hcs
    exact ⟨none, 0, 0, [], rfl, Nat.le_refl _, Nat.zero_le _, rfl, fun _ => rfl, by simp, by simp⟩
  · simp [Value.cells] at hcs
    obtain ⟨rfl, rfl, rfl⟩ := hcs
    simp only [if_true] at hz
    refine ⟨some a, len, cap, zs.take len, rfl, hl, hm, (by simp; omega), (fun h => by cases h), fun z hz' => hwz z (List.mem_of_mem_take hz'), ?_⟩
    intro j z hj
    rw [List.getElem?_take] at hj
    split at hj
    · have hlt : j < zs.length := (List.getElem?_eq_some_iff.1 hj).1
      have h1 := hcell j hlt
      rw [List.getD_eq_getElem?_getD, hj] at h1
      refine ⟨a, rfl, ?_, h1⟩
      have := cell_block h1
      rwa [Addr.add_block] at this
    · cases hj

theorem wf_u8 {z : Int} (h : (Lit.int .u8 z).wf = true) : (Value.int .u8 z) = (SV.u8 (BitVec.ofInt 8 z)).val := by
  simp only [Lit.wf, Bool.and_eq_true, decide_eq_true_eq] at h
  obtain ⟨h0, h1⟩ := h
  have h2 : z < 256 := by simp [IntKind.max, IntKind.bits] at h1; omega
  show Value.int .u8 z = Value.int .u8 ((BitVec.ofInt 8 z).toNat : Int)
  congr 1
  rw [BitVec.toNat_ofInt]
  have h3 : (0 : Int) ≤ z := by simpa [IntKind.min, IntKind.signed] using h0
  omega
theorem wf_u32 {z : Int} (h : (Lit.int .u32 z).wf = true) : (Value.int .u32 z) = (SV.u32 (BitVec.ofInt 32 z)).val := by
  simp only [Lit.wf, Bool.and_eq_true, decide_eq_true_eq] at h
  obtain ⟨h0, h1⟩ := h
  have h2 : z < 4294967296 := by simp [IntKind.max, IntKind.bits] at h1; omega
  show Value.int .u32 z = Value.int .u32 ((BitVec.ofInt 32 z).toNat : Int)
  congr 1
  rw [BitVec.toNat_ofInt]
  have h3 : (0 : Int) ≤ z := by simpa [IntKind.min, IntKind.signed] using h0
  omega
theorem wf_u64 {z : Int} (h : (Lit.int .u64 z).wf = true) : (Value.int .u64 z) = (SV.u64 (BitVec.ofInt 64 z)).val := by
  simp only [Lit.wf, Bool.and_eq_true, decide_eq_true_eq] at h
  obtain ⟨h0, h1⟩ := h
  have h2 : z < 18446744073709551616 := by simp [IntKind.max, IntKind.bits] at h1; omega
  show Value.int .u64 z = Value.int .u64 ((BitVec.ofInt 64 z).toNat : Int)
  congr 1
  rw [BitVec.toNat_ofInt]
  have h3 : (0 : Int) ≤ z := by simpa [IntKind.min, IntKind.signed] using h0
  omega

/-- Bytes. -/
theorem openB {W : World} {base t e : TypeId} {v : Value} {d : DataW H} {p : List MemPlace} (ht : P.underlying t = some (.slice e)) (he : P.underlying e = some (.int .u8)) (hc : P.cellsOf e = 1)
    (hv : Value.okWide P W .any base t v) (h : DataW.Trod enc P W 0 (fun _ => true) true t v d p) :
    ∃ (a : Option Addr) (n c : Nat) (bs : List (BitVec 8)), v = (SV.sl a n c).val ∧ n ≤ c ∧ c ≤ maxLen ∧ bs.length = n ∧ (a = none → n = 0) ∧ Rd W a (bs.map SV.u8) := by
  obtain ⟨a, n, c, zs, rfl, h1, h2, h3, h4, h5, h6⟩ := openInts ht he hc hv h
  refine ⟨a, n, c, zs.map (BitVec.ofInt 8), rfl, h1, h2, by simpa using h3, h4, ?_⟩
  intro j u hj
  rw [List.map_map, List.getElem?_map] at hj
  obtain ⟨z, hz, rfl⟩ := Option.map_eq_some_iff.1 hj
  obtain ⟨q, hq, hb, hcell⟩ := h6 j z hz
  exact ⟨q, hq, hb, by rw [hcell, wf_u8 (h5 z (List.mem_of_getElem? hz))]; rfl⟩
/-- Words of 32 bits. -/
theorem openW {W : World} {base t e : TypeId} {v : Value} {d : DataW H} {p : List MemPlace} (ht : P.underlying t = some (.slice e)) (he : P.underlying e = some (.int .u32)) (hc : P.cellsOf e = 1)
    (hv : Value.okWide P W .any base t v) (h : DataW.Trod enc P W 0 (fun _ => true) true t v d p) :
    ∃ (a : Option Addr) (n c : Nat) (bs : List (BitVec 32)), v = (SV.sl a n c).val ∧ n ≤ c ∧ c ≤ maxLen ∧ bs.length = n ∧ (a = none → n = 0) ∧ Rd W a (bs.map SV.u32) := by
  obtain ⟨a, n, c, zs, rfl, h1, h2, h3, h4, h5, h6⟩ := openInts ht he hc hv h
  refine ⟨a, n, c, zs.map (BitVec.ofInt 32), rfl, h1, h2, by simpa using h3, h4, ?_⟩
  intro j u hj
  rw [List.map_map, List.getElem?_map] at hj
  obtain ⟨z, hz, rfl⟩ := Option.map_eq_some_iff.1 hj
  obtain ⟨q, hq, hb, hcell⟩ := h6 j z hz
  exact ⟨q, hq, hb, by rw [hcell, wf_u32 (h5 z (List.mem_of_getElem? hz))]; rfl⟩
/-- Words of 64 bits. -/
theorem openQ {W : World} {base t e : TypeId} {v : Value} {d : DataW H} {p : List MemPlace} (ht : P.underlying t = some (.slice e)) (he : P.underlying e = some (.int .u64)) (hc : P.cellsOf e = 1)
    (hv : Value.okWide P W .any base t v) (h : DataW.Trod enc P W 0 (fun _ => true) true t v d p) :
    ∃ (a : Option Addr) (n c : Nat) (bs : List (BitVec 64)), v = (SV.sl a n c).val ∧ n ≤ c ∧ c ≤ maxLen ∧ bs.length = n ∧ (a = none → n = 0) ∧ Rd W a (bs.map SV.u64) := by
  obtain ⟨a, n, c, zs, rfl, h1, h2, h3, h4, h5, h6⟩ := openInts ht he hc hv h
  refine ⟨a, n, c, zs.map (BitVec.ofInt 64), rfl, h1, h2, by simpa using h3, h4, ?_⟩
  intro j u hj
  rw [List.map_map, List.getElem?_map] at hj
  obtain ⟨z, hz, rfl⟩ := Option.map_eq_some_iff.1 hj
  obtain ⟨q, hq, hb, hcell⟩ := h6 j z hz
  exact ⟨q, hq, hb, by rw [hcell, wf_u64 (h5 z (List.mem_of_getElem? hz))]; rfl⟩
/-- Pieces of bytes. -/
theorem openD {W : World} {base t e q : TypeId} {v : Value} {d : DataW H} {p : List MemPlace} (ht : P.underlying t = some (.slice e)) (he : P.underlying e = some (.slice q)) (hq : P.underlying q = some (.int .u8))
    (ce : P.cellsOf e = 1) (cq : P.cellsOf q = 1) (hv : Value.okWide P W .any base t v) (h : DataW.Trod enc P W 0 (fun _ => true) true t v d p) :
    ∃ (a : Option Addr) (n c : Nat) (tt : List (List (BitVec 8))), v = (SV.sl a n c).val ∧ n ≤ c ∧ c ≤ maxLen ∧ tt.length = n ∧ (a = none → n = 0) ∧ RdD W a tt := by
  obtain ⟨a0, len, cap, rfl⟩ := okWide_slice ht hv
  obtain ⟨fuel, hf⟩ := h
  rcases Deep.open_int_rows ht he hq ce cq hf with ⟨hcs, _⟩ | ⟨a, len', cap', A, L, C, Z, hcs, _, hl, hm, _, hx⟩
  · simp [Value.cells] at hcs
    obtain ⟨rfl, rfl, rfl⟩ := hcs
    exact ⟨none, 0, 0, [], rfl, Nat.le_refl _, Nat.zero_le _, rfl, fun _ => rfl, RdD.nil _ _⟩
  · simp [Value.cells] at hcs
    obtain ⟨rfl, rfl, rfl⟩ := hcs
    refine ⟨some a, len, cap, (List.range len).map fun r => ((Z r).take (L r)).map (BitVec.ofInt 8), rfl, hl, hm, by simp, (fun h => by cases h), (List.range len).map fun r => SV.sl (A r) (L r) (C r), by simp, ?_, ?_⟩
    · intro j u hj
      rw [List.getElem?_map] at hj
      obtain ⟨r, hr, rfl⟩ := Option.map_eq_some_iff.1 hj
      have hlt : j < len := by have := (List.getElem?_eq_some_iff.1 hr).1; simpa using this
      have hrj : r = j := by rw [List.getElem?_range hlt] at hr; cases hr; rfl
      subst hrj
      have hcell := (hx r (by omega)).1
      refine ⟨a, rfl, ?_, hcell⟩
      have := cell_block hcell
      rwa [Addr.add_block] at this
    · intro i u s hu hs
      rw [List.getElem?_map] at hu hs
      obtain ⟨r, hr, rfl⟩ := Option.map_eq_some_iff.1 hu
      obtain ⟨r', hr', rfl⟩ := Option.map_eq_some_iff.1 hs
      have hrr : r = r' := by rw [hr] at hr'; cases hr'; rfl
      subst hrr
      have hlt : i < len := by have := (List.getElem?_eq_some_iff.1 hr).1; simpa using this
      have hri : r = i := by rw [List.getElem?_range hlt] at hr; cases hr; rfl
      subst hri
      obtain ⟨h1, h2, h3, h4, h5, h6, h7⟩ := hx r (by omega)
      have hlen : (((Z r).take (L r)).map (BitVec.ofInt 8)).length = L r := by simp; omega
      refine ⟨A r, C r, by rw [hlen], by rw [hlen]; exact h2, fun hn => by rw [hlen]; have := h6 hn; omega, ?_⟩
      intro j u hj
      rw [List.map_map, List.getElem?_map] at hj
      obtain ⟨z, hz, rfl⟩ := Option.map_eq_some_iff.1 hj
      have hjl : j < ((Z r).take (L r)).length := (List.getElem?_eq_some_iff.1 hz).1
      simp at hjl
      have hz' : (Z r)[j]? = some z := by rw [List.getElem?_take] at hz; split at hz; exact hz; cases hz
      cases hA : A r with
      | none => have := h6 hA; omega
      | some q =>
        have hc := (h7 q hA).2 j (by omega)
        rw [List.getD_eq_getElem?_getD, hz'] at hc
        refine ⟨q, rfl, ?_, ?_⟩
        · have := cell_block hc
          rwa [Addr.add_block] at this
        · rw [hc]
          exact congrArg some (wf_u8 (h5 z (List.mem_of_getElem? hz')))
end
end Go.Proofs.YtggbaffkjfofhaaDoor
