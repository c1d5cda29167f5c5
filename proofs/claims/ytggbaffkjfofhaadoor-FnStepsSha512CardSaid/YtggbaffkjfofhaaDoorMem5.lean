/- Texts of bytes: strings made of them, compared and put together; what is appended out of a string or as noughts; a slice that is made. -/
import Derived.Test.YtggbaffkjfofhaaDoorMem4
import Derived.Laws.Strings
import Derived.Laws.MakeOwn
import Derived.Laws.BytesString
import Derived.Lib.AppendStr
set_option linter.unusedVariables false
set_option linter.unusedSimpArgs false
namespace Go.Proofs.YtggbaffkjfofhaaDoor
open Go

def strB (bs : List (BitVec 8)) : ByteArray := ⟨(bs.map fun b => UInt8.ofNat b.toNat).toArray⟩
def SV.str (bs : List (BitVec 8)) : SV := .raw (.string (strB bs))
theorem SV.str_val (bs : List (BitVec 8)) : (SV.str bs).val = .string (strB bs) := rfl
theorem strB_data (bs : List (BitVec 8)) : (strB bs).data.toList = bs.map fun b => UInt8.ofNat b.toNat := by simp [strB]
theorem strB_size (bs : List (BitVec 8)) : (strB bs).size = bs.length := by
  have := congrArg List.length (strB_data bs)
  rw [Array.length_toList, List.length_map] at this
  exact this
theorem strB_append (xs ys : List (BitVec 8)) : strB xs ++ strB ys = strB (xs ++ ys) := by
  apply ByteArray.ext
  rw [ByteArray.data_append]
  apply Array.ext'
  simp [strB]
theorem byte_inj {x y : BitVec 8} (h : UInt8.ofNat x.toNat = UInt8.ofNat y.toNat) : x = y := by
  have h1 := congrArg UInt8.toNat h
  simp only [UInt8.toNat_ofNat'] at h1
  have hx := x.isLt
  have hy := y.isLt
  apply BitVec.eq_of_toNat_eq
  omega
theorem map_byte_inj : ∀ {xs ys : List (BitVec 8)}, (xs.map fun b => UInt8.ofNat b.toNat) = (ys.map fun b => UInt8.ofNat b.toNat) → xs = ys
  | [], [], _ => rfl
  | [], _ :: _, h => by cases h
  | _ :: _, [], h => by cases h
  | x :: xs, y :: ys, h => by
    simp only [List.map_cons, List.cons.injEq] at h
    rw [byte_inj h.1, map_byte_inj h.2]
theorem strB_eq (xs ys : List (BitVec 8)) : ((strB xs).toList == (strB ys).toList) = decide (xs = ys) := by
  rw [ByteArray.toList_eq, ByteArray.toList_eq, strB_data, strB_data, Bool.eq_iff_iff]
  simp only [beq_iff_eq, decide_eq_true_eq]
  exact ⟨map_byte_inj, fun h => by rw [h]⟩

section
variable {P : Program} {n : Nat} {S : Env} {w : World} {K : Env → World → Prop}

theorem fold_push : ∀ (bs : List (BitVec 8)) (s : ByteArray), (bs.map fun b => (b.toNat : Int)).foldl (fun r n => r.push (UInt8.ofNat n.toNat)) s = s ++ strB bs
  | [], s => by
    apply ByteArray.ext
    rw [ByteArray.data_append]
    apply Array.ext'
    simp [strB]
  | b :: bs, s => by
    rw [List.map_cons, List.foldl_cons, fold_push bs]
    apply ByteArray.ext
    rw [ByteArray.data_append, ByteArray.data_append]
    apply Array.ext'
    simp [strB, ByteArray.push]

/-- src is a slice of bytes, dst a string. -/
def toStrT (P : Program) (src dst : TypeId) : Bool := match P.underlying src, P.underlying dst with
  | some (.slice e), some .string => (match P.underlying e with | some (.int .u8) => true | _ => false)
  | _, _ => false
theorem toStrT_spec {src dst : TypeId} (h : toStrT P src dst = true) : ∃ e, P.underlying src = some (.slice e) ∧ P.underlying e = some (.int .u8) ∧ P.underlying dst = some .string := by
  unfold toStrT at h
  split at h
  · rename_i e hs hd
    split at h
    · rename_i he; exact ⟨e, hs, he, hd⟩
    · cases h
  · cases h

theorem run_toStr {src dst : TypeId} (ht : toStrT P src dst = true) {a : Option Addr} {m c : Nat} {bs : List (BitVec 8)} (hr : Rd w a (bs.map SV.u8)) (hm : bs.length = m) (ha : a = none → m = 0) :
    (convert src dst (SV.sl a m c).val).run P w = .ok (SV.str bs).val w := by
  obtain ⟨e, hs, he, hd⟩ := toStrT_spec ht
  rw [show (SV.sl a m c).val = Value.slice a m c from rfl, run_convert_bytes_string w src dst e a m c hs he hd]
  cases a with
  | none =>
    have hm0 := ha rfl
    rw [hm0] at hm
    obtain rfl := List.eq_nil_of_length_eq_zero hm
    simp only [Conv.bytesToString]
    rfl
  | some p =>
    have hm2 : ((bs.map SV.u8).map SV.val) = (bs.map fun b => (b.toNat : Int)).map (Value.int .u8) := by
      rw [List.map_map, List.map_map]; rfl
    have h3 := run_loadCells_list (P := P) w p ((bs.map SV.u8).map SV.val) hr.cells
    rw [List.length_map, List.length_map, hm, hm2] at h3
    rw [run_bytesToString w p m c _ h3, fold_push]
    have : ByteArray.empty ++ strB bs = strB bs := by
      apply ByteArray.ext
      rw [ByteArray.data_append]
      apply Array.ext'
      simp [strB]
    rw [this]
    rfl

theorem SemE.toStr {dst : Option Tmp} {s t : TypeId} {x : Operand} {ty : TypeId} {pos : String} {after : Array Edge} {g : Option (Nat × Bool)} {a : Option Addr} {m c : Nat} {bs : List (BitVec 8)}
    (ht : toStrT P s t = true) (hx : S.op x = some (.sl a m c)) (hr : Rd w a (bs.map SV.u8)) (hm : bs.length = m) (ha : a = none → m = 0) (hd : okB n dst = true) (h : K (S.put dst (SV.str bs)) w) :
    SemE P n S w ⟨dst, .convert s t x, ty, pos, after, g⟩ K :=
  SemE.value (SV.str bs) hd (fun av hav => by simp [execOp, hav.eval hx, run_toStr ht hr hm ha]) h

theorem Quiet.toStr {dst : Option Tmp} {s t : TypeId} {x : Operand} {ty : TypeId} {pos : String} {after : Array Edge} {g : Option (Nat × Bool)} {a : Option Addr} {m c : Nat} {bs : List (BitVec 8)}
    (ht : toStrT P s t = true) (hx : S.op x = some (.sl a m c)) (hr : Rd w a (bs.map SV.u8)) (hm : bs.length = m) (ha : a = none → m = 0) :
    Quiet P n S w ⟨dst, .convert s t x, ty, pos, after, g⟩ (SV.str bs) := fun av hav w' hg =>
  .inl (by simp [execOp, hav.eval hx, run_toStr ht (hr.grow hg) hm ha])

theorem Plain.eqlStr {dst : Option Tmp} {t t' : TypeId} {x y : Operand} {ty : TypeId} {pos : String} {after : Array Edge} {g : Option (Nat × Bool)} {xs ys : List (BitVec 8)} (hx : S.op x = some (.str xs)) (hy : S.op y = some (.str ys)) :
    Plain P n S ⟨dst, .binOp .eql t x y t', ty, pos, after, g⟩ (.bool (decide (xs = ys))) := fun a ha w => by
  simp [execOp, ha.eval hx, ha.eval hy, eqGuard, SV.str_val, binOp_string_eql, strB_eq, SV.val]
theorem Plain.neqStr {dst : Option Tmp} {t t' : TypeId} {x y : Operand} {ty : TypeId} {pos : String} {after : Array Edge} {g : Option (Nat × Bool)} {xs ys : List (BitVec 8)} (hx : S.op x = some (.str xs)) (hy : S.op y = some (.str ys)) :
    Plain P n S ⟨dst, .binOp .neq t x y t', ty, pos, after, g⟩ (.bool (!decide (xs = ys))) := fun a ha w => by
  simp [execOp, ha.eval hx, ha.eval hy, eqGuard, SV.str_val, binOp_string_neq, strB_eq, SV.val]
theorem Plain.addStr {dst : Option Tmp} {t t' : TypeId} {x y : Operand} {ty : TypeId} {pos : String} {after : Array Edge} {g : Option (Nat × Bool)} {xs ys : List (BitVec 8)} (hx : S.op x = some (.str xs)) (hy : S.op y = some (.str ys))
    (hbig : xs.length + ys.length ≤ 68719476736) : Plain P n S ⟨dst, .binOp .add t x y t', ty, pos, after, g⟩ (.str (xs ++ ys)) := fun a ha w => by
  have h1 : ¬ ((((strB xs).size + (strB ys).size : Nat) : Int) > IntKind.i64.max) := by
    rw [strB_size, strB_size, show IntKind.i64.max = 9223372036854775807 from rfl]; omega
  simp only [execOp, ha.eval hx, ha.eval hy, eqGuard, SV.str_val, binOp_string_add, Op.stringOp, h1, if_false, strB_append]
  rfl

/-! ### What is appended -/

/-- The three ways of an append of the cells news. -/
structure Arms (P : Program) (t u ty e : TypeId) (x : Value) (news : List Value) : Prop where
  nil : ∀ w : World, news ≠ [] → (Builtin.append_ #[t, u] ty #[.slice none 0 0, x]).run P w = .ok (.slice (some ⟨w.heap.size, 0, none⟩) news.length (grownCap w news.length 0 e))
    (w.drew.alloc (.cells (news.toArray ++ Builtin.zeroCells (Value.int .u8 0).cells (grownCap w news.length 0 e - news.length)) e))
  room : ∀ (w : World) (g sLen sCap : Nat) (cur : Array Value), w.heap[g]? = some (.cells cur e (0, 0)) → sLen + news.length ≤ sCap → sLen + news.length ≤ cur.size →
    (Builtin.append_ #[t, u] ty #[.slice (some ⟨g, 0, none⟩) sLen sCap, x]).run P w = .ok (.slice (some ⟨g, 0, none⟩) (sLen + news.length) sCap) (w.setRow g (cur.toList.take sLen ++ news ++ cur.toList.drop (sLen + news.length)).toArray)
  grow : ∀ (w : World) (b : Addr) (sLen sCap : Nat) (olds : List Value), olds.length = sLen → (∀ j v, olds[j]? = some v → w.cell? (b.add j) = some v) → sCap < sLen + news.length → sLen + news.length ≤ 68719476736 →
    (Builtin.append_ #[t, u] ty #[.slice (some b) sLen sCap, x]).run P w = .ok (.slice (some ⟨w.heap.size, 0, none⟩) (sLen + news.length) (grownCap w (sLen + news.length) sCap e))
      (w.drew.alloc (.cells (olds.toArray ++ news.toArray ++ Builtin.zeroCells (Value.int .u8 0).cells (grownCap w (sLen + news.length) sCap e - (sLen + news.length))) e))

theorem rawVal (l : List Value) : (l.map SV.raw).map SV.val = l := by rw [List.map_map]; exact List.map_id'' (fun _ => rfl) _

theorem SemE.appendArms {w0 : World} {X : List Nat} {B H : List Blk} (hl : HL w0 w X (B ++ H)) {e u : TypeId} {k : Nat} {v vx : SV} {xs vs : List SV} (ho : Own e 1 v k xs B)
    {dst : Option Tmp} {s x : Operand} {t : TypeId} {ty : TypeId} {pos : String} {after : Array Edge} {g : Option (Nat × Bool)} (harms : Arms P t u ty e vx.val (vs.map SV.val)) (hne : vs ≠ [])
    (hs : S.op s = some v) (hx : S.op x = some vx) (hbig : k + vs.length ≤ 68719476736) (hd : okB n dst = true)
    (h : ∀ v' B' w', Own e 1 v' (k + vs.length) (xs ++ vs) B' → HL w0 w' X (B' ++ H) → (∀ y ∈ B', y.1 ∈ B.map (·.1) ∨ w.heap.size ≤ y.1) → K (S.put dst v') w') :
    SemE P n S w ⟨dst, .call { callee := .builtin .append, args := #[s, x], argTypes := #[t, u] }, ty, pos, after, g⟩ K := by
  have hop : ∀ {av : Act} (hav : Holds n S av) {u' : Value} {w' : World}, (Builtin.append_ #[t, u] ty #[v.val, vx.val]).run P w = .ok u' w' →
      (execOp av.eval ⟨dst, .call { callee := .builtin .append, args := #[s, x], argTypes := #[t, u] }, ty, pos, after, g⟩).run P w = .ok (.value u') w' := fun hav u' w' hrun => by
    simp [execOp, resolve, hav.eval hs, hav.eval hx, invoke, builtin, hrun]
  have hne' : vs.map SV.val ≠ [] := by simpa using hne
  have hpos : 0 < vs.length := by cases vs with | nil => exact absurd rfl hne | cons _ _ => simp
  have h63 : k + vs.length ≤ maxLen := by unfold maxLen; omega
  obtain ⟨hxs, ⟨rfl, rfl, rfl⟩ | ⟨b, c', rest, rfl, hn, hc, hrest, rfl⟩⟩ := ho
  · obtain rfl : xs = [] := List.eq_nil_of_length_eq_zero (by simpa using hxs)
    have hrun := harms.nil w hne'
    rw [List.length_map] at hrun
    have hge := grownCap_ge w vs.length 0 e
    have hcm := grownCap_le_maxLen w vs.length 0 e (by simpa using h63)
    generalize grownCap w vs.length 0 e = cap at hrun hge hcm
    have hz := size_zeroCells (Value.int .u8 0).cells (cap - vs.length)
    have hz1 : (Value.int IntKind.u8 0).cells.size = 1 := rfl
    rw [hz1, Nat.mul_one] at hz
    generalize Builtin.zeroCells (Value.int .u8 0).cells (cap - vs.length) = zs at hrun hz
    have hcells : (vs.map SV.val).toArray ++ zs = ((vs ++ zs.toList.map SV.raw).map SV.val).toArray := by
      rw [List.map_append, rawVal]; apply Array.ext'; simp
    rw [hcells] at hrun
    refine SemE.value (.sl (some ⟨w.heap.size, 0, none⟩) vs.length cap) hd (fun av hav => hop hav hrun) ?_
    have hal := hl.drew.alloc e (vs ++ zs.toList.map SV.raw)
    have hsz : w.drew.heap.size = w.heap.size := rfl
    rw [hsz, List.nil_append] at hal
    have := h (.sl (some ⟨w.heap.size, 0, none⟩) vs.length cap) [(w.heap.size, e, vs ++ zs.toList.map SV.raw)] _ (by
      rw [Nat.zero_add, List.nil_append]
      exact Own.made (zs.toList.map SV.raw) (by simp) hge hcm (by simp; omega)) (hal.perm (List.perm_append_singleton _ _)) (by simp)
    exact this
  · have hb := hl.at (k := 0) rfl
    by_cases hroom : k + vs.length ≤ c'
    · have hrun := harms.room w b k c' _ hb (by simpa using hroom) (by simp; omega)
      rw [List.length_map] at hrun
      have hxl : xs.length = k := by simpa using hxs
      have hcur : (((xs ++ rest).map SV.val).toArray.toList.take k ++ vs.map SV.val ++ ((xs ++ rest).map SV.val).toArray.toList.drop (k + vs.length)) = (xs ++ vs ++ rest.drop vs.length).map SV.val := by
        simp only [List.map_append]
        rw [List.take_append_of_le_length (by simp [hxl]), List.take_of_length_le (by simp [hxl])]
        have : k + vs.length = (xs.map SV.val).length + vs.length := by simp [hxl]
        rw [this, ← List.drop_drop, List.drop_left, List.map_drop]
      rw [hcur] at hrun
      refine SemE.value (.sl (some ⟨b, 0, none⟩) (k + vs.length) c') hd (fun av hav => hop hav hrun) ?_
      refine h _ [(b, e, xs ++ vs ++ rest.drop vs.length)] _ (Own.made (rest.drop vs.length) (by simp [hxl]) hroom hc (by simp; omega)) ?_ (by simp)
      have := hl.setRow (k := 0) rfl (xs ++ vs ++ rest.drop vs.length)
      simpa using this
    · have hcells : ∀ j u, (xs.map SV.val)[j]? = some u → w.cell? ((⟨b, 0, none⟩ : Addr).add j) = some u := by
        have hrd : Rd w (some ⟨b, 0, none⟩) xs := by
          have := Rd.blk hl (k := 0) rfl 0 k
          have hxl : xs.length = k := by simpa using hxs
          rw [List.drop_zero, List.take_append_of_le_length (by omega), List.take_of_length_le (by omega)] at this
          exact this
        exact hrd.cells
      have hxl : xs.length = k := by simpa using hxs
      have hrun := harms.grow w ⟨b, 0, none⟩ k c' (xs.map SV.val) (by simp [hxl]) hcells (by simp; omega) (by simpa using hbig)
      rw [List.length_map] at hrun
      have hge := grownCap_ge w (k + vs.length) c' e
      have hcm := grownCap_le_maxLen w (k + vs.length) c' e h63
      generalize grownCap w (k + vs.length) c' e = cap at hrun hge hcm
      have hz := size_zeroCells (Value.int .u8 0).cells (cap - (k + vs.length))
      have hz1 : (Value.int IntKind.u8 0).cells.size = 1 := rfl
      rw [hz1, Nat.mul_one] at hz
      generalize Builtin.zeroCells (Value.int .u8 0).cells (cap - (k + vs.length)) = zs at hrun hz
      have hcs : (xs.map SV.val).toArray ++ (vs.map SV.val).toArray ++ zs = ((xs ++ vs ++ zs.toList.map SV.raw).map SV.val).toArray := by
        rw [List.map_append, List.map_append, rawVal]; apply Array.ext'; simp
      rw [hcs] at hrun
      refine SemE.value (.sl (some ⟨w.heap.size, 0, none⟩) (k + vs.length) cap) hd (fun av hav => hop hav hrun) ?_
      have hal := hl.tail.drew.alloc e (xs ++ vs ++ zs.toList.map SV.raw)
      have hsz : w.drew.heap.size = w.heap.size := rfl
      rw [hsz] at hal
      exact h (.sl (some ⟨w.heap.size, 0, none⟩) (k + vs.length) cap) [(w.heap.size, e, xs ++ vs ++ zs.toList.map SV.raw)] _ (Own.made (zs.toList.map SV.raw) (by simp [hxl]) hge hcm (by simp; omega)) (hal.perm (List.perm_append_singleton _ _)) (by simp)

/-- t is a slice of bytes. -/
def byteSl (P : Program) (t e : TypeId) : Bool := sliceOf P t e 1 && (match P.info? e with
  | some i => Nat.beq i.bytes 1 && (match i.zero with | some (.int .u8 0) => true | _ => false)
  | none => false)
theorem byteSl_spec {t e : TypeId} (h : byteSl P t e = true) : P.underlying t = some (.slice e) ∧ ∃ i, P.info? e = some i ∧ i.zero = some (.int .u8 0) ∧ i.size = 1 ∧ i.bytes = 1 := by
  unfold byteSl at h
  simp only [Bool.and_eq_true] at h
  obtain ⟨h1, h2⟩ := h
  obtain ⟨hu, i, z, hi, hz, hsz, _, _⟩ := sliceOf_spec h1
  refine ⟨hu, i, hi, ?_, hsz, ?_⟩
  · rw [hi] at h2
    simp only [Bool.and_eq_true] at h2
    have h3 := h2.2
    split at h3
    · assumption
    · cases h3
  · rw [hi] at h2
    simp only [Bool.and_eq_true] at h2
    exact Nat.eq_of_beq_eq_true h2.1
def strT (P : Program) (u : TypeId) : Bool := match P.underlying u with
  | some .string => true
  | _ => false
theorem strT_spec {u : TypeId} (h : strT P u = true) : P.underlying u = some .string := by
  unfold strT at h
  split at h
  · assumption
  · cases h
def intT (P : Program) (u : TypeId) : Bool := match P.underlying u with
  | some (.int .i64) => true
  | _ => false
theorem intT_spec {u : TypeId} (h : intT P u = true) : P.underlying u = some (.int .i64) := by
  unfold intT at h
  split at h
  · assumption
  · cases h

theorem cells_strB (bs : List (BitVec 8)) : Lib.strCells (strB bs) = (bs.map SV.u8).map SV.val := by
  rw [Lib.strCells, strB_data, List.map_map, List.map_map]
  apply List.map_congr_left
  intro b _
  have := b.isLt
  simp [SV.val]

theorem arms_str {t u ty e : TypeId} (ht : byteSl P t e = true) (hu : strT P u = true) (bs : List (BitVec 8)) (hb : bs.length ≤ 68719476736) : Arms P t u ty e (SV.str bs).val ((bs.map SV.u8).map SV.val) := by
  obtain ⟨ht, i, hi, hz, hs1, hb1⟩ := byteSl_spec ht
  have hu := strT_spec hu
  have hlen : ((bs.map SV.u8).map SV.val).length = (strB bs).size := by simp [strB_size]
  have hcells := cells_strB bs
  have hsz := strB_size bs
  refine ⟨?_, ?_, ?_⟩
  · intro w hne
    have hr := run_append_nil_string (P := P) w t u ty e i (.int .u8 0) ht hu hi hz (strB bs) (by
      rw [hsz]; cases bs with | nil => exact absurd rfl hne | cons _ _ => simp) (by rw [hsz]; omega) (by rw [hb1, hsz]; omega)
    have e1 : ((strB bs).data.map fun b => Value.int .u8 b.toNat) = (Lib.strCells (strB bs)).toArray := by
      apply Array.ext'
      simp [Lib.strCells]
    rw [e1, hcells] at hr
    rw [hlen]
    exact hr
  · intro w g sLen sCap cur hg h1 h2
    have hr := Lib.run_append_room_string (P := P) w t u ty e i ht hu hi hs1 g sLen sCap cur hg (strB bs) (by rw [← hlen]; exact h1) (by rw [← hlen]; exact h2)
    rw [hcells] at hr
    rw [hlen]
    exact hr
  · intro w b sLen sCap olds ho hold hcap hbig
    have hr := Lib.run_append_grow_string (P := P) w t u ty e i (.int .u8 0) ht hu hi hz b sLen sCap olds (by rw [hs1]; simpa using ho) hold (strB bs) (by rw [← hlen]; exact hcap) (by rw [← hlen]; omega)
      (by rw [hb1]; exact growslice_fits (by rw [← hlen]; exact hcap) (by rw [← hlen]; omega))
    rw [hcells] at hr
    rw [hlen]
    exact hr

theorem zeroCells_byte (m : Nat) : Builtin.zeroCells (Value.int .u8 0).cells m = ((List.replicate m (SV.u8 0)).map SV.val).toArray := by
  apply Array.ext'
  apply List.ext_getElem?
  intro j
  simp [Builtin.zeroCells, Value.cells]
  by_cases h : j < m <;> simp [h, SV.val, Nat.mod_one]

theorem arms_zero {t u ty e : TypeId} (ht : byteSl P t e = true) (hu : intT P u = true) (m : Nat) (hm0 : 0 < m) (hm : m ≤ 68719476736) : Arms P t u ty e (SV.nat m).val ((List.replicate m (SV.u8 0)).map SV.val) := by
  obtain ⟨ht, i, hi, hz, hs1, hb1⟩ := byteSl_spec ht
  have hu := intT_spec hu
  have hlen : ((List.replicate m (SV.u8 0)).map SV.val).length = m := by simp
  have hw : IntKind.i64.wrap (m : Int) = m := wrap_i64_in (by omega) (by omega)
  have hn1 : ¬ ((m : Int) < 0) := by omega
  have hn2 : ¬ (281474976710656 < (m : Int)) := by omega
  have hm1 : ¬ m = 0 := by omega
  have hzc := zeroCells_byte m
  refine ⟨?_, ?_, ?_⟩
  · intro w hne
    rw [hlen]
    have h63' : ¬ (9223372036854775807 < (m : Int)) := by omega
    have h48' : ¬ (281474976710656 < Builtin.nextslicecap m 0) := by rw [nextslicecap_zero hm0]; omega
    generalize (List.replicate m (SV.u8 0)).map SV.val = news at hzc ⊢
    simp [SV.val, Builtin.append_, run_underlying ht, run_underlying hu, sizeOf, typeInfo, zeroValue, hi, hs1, hz, hb1, asInt, asIntOf, hw, hn1, hn2, hm1, hzc, h63', h48', Question.forced, run_firstCells_none, newRow, grownCap]
  · intro w g sLen sCap cur hg h1 h2
    rw [hlen] at h1 h2 ⊢
    have hst := run_storeCells_at P g sLen e ((List.replicate m (SV.u8 0)).map SV.val) 0 cur w hg (by simpa using h2) (by
      intro v hv; obtain ⟨x, hx, rfl⟩ := List.mem_map.1 hv; rw [List.eq_of_mem_replicate hx]; rfl)
    simp only [Nat.add_zero, hlen] at hst
    generalize (List.replicate m (SV.u8 0)).map SV.val = news at hst hzc ⊢
    simp [SV.val, Builtin.append_, run_underlying ht, run_underlying hu, sizeOf, typeInfo, zeroValue, hi, hs1, hz, hb1, asInt, asIntOf, hw, hn1, hn2, hm1, h1, hzc, Addr.add_lit, hst]
  · intro w b sLen sCap olds ho hold hcap hbig
    rw [hlen] at hcap hbig ⊢
    have hn : ¬ (sLen + m ≤ sCap) := by omega
    have h63' : ¬ (9223372036854775807 < ((sLen : Int) + (m : Int))) := by omega
    have h48' : ¬ (281474976710656 < Builtin.nextslicecap (sLen + m) sCap) := by
      have := growslice_fits (need := sLen + m) (old := sCap) (bytes := 1) hcap (by omega)
      omega
    have hfo := run_firstCells_some (P := P) w.drew i.size sLen b sLen sCap olds (by rw [hs1]; simpa using ho) (by simpa using hold)
    rw [hs1] at hfo
    generalize (List.replicate m (SV.u8 0)).map SV.val = news at hzc ⊢
    simp [SV.val, Builtin.append_, run_underlying ht, run_underlying hu, sizeOf, typeInfo, zeroValue, hi, hs1, hz, hb1, asInt, asIntOf, hw, hn1, hn2, hm1, hn, hzc, h63', h48', Question.forced, hfo, newRow, grownCap]
    congr 2
    apply Array.ext'
    simp [List.append_assoc]
/-- make with room. -/
theorem SemE.makeSlice {w0 : World} {X : List Nat} {H : List Blk} (hl : HL w0 w X H) (e : TypeId) {dst : Option Tmp} {t : TypeId} {x y : Operand} {ty : TypeId} {pos : String} {after : Array Edge} {g : Option (Nat × Bool)} {c : Nat}
    (ht : byteSl P t e = true) (hx : S.op x = some (.nat 0)) (hy : S.op y = some (.nat c)) (hc : c ≤ 1000000) (hd : okB n dst = true)
    (h : ∀ v B w', Own e 1 v 0 [] B → HL w0 w' X (B ++ H) → K (S.put dst v) w') : SemE P n S w ⟨dst, .makeSlice t x y, ty, pos, after, g⟩ K := by
  obtain ⟨hu, i, hi, hz, hs1, hb1⟩ := byteSl_spec ht
  have hrun := run_make (P := P) w t e i (.int .u8 0) hu hi hz .i64 .i64 0 c (Int.le_refl _) (by omega) (by rw [hb1]; omega) (by omega)
  simp only [Int.toNat_zero, Int.toNat_natCast, hs1, Nat.mul_one] at hrun
  have hsz := size_madeCells (Value.int .u8 0).cells c
  generalize madeCells (Value.int .u8 0).cells c = cs at hrun hsz
  have hcs : cs = ((cs.toList.map SV.raw).map SV.val).toArray := by rw [rawVal]
  rw [hcs] at hrun
  have hlen : (cs.toList.map SV.raw).length = c := by simpa using hsz
  generalize cs.toList.map SV.raw = l at hrun hlen
  refine SemE.value (.sl (some ⟨w.heap.size, 0, none⟩) 0 c) (w' := w.alloc (.cells (l.map SV.val).toArray e)) hd (fun av hav => by
    have hx' : av.eval x = .int .i64 0 := hav.eval hx
    have hy' : av.eval y = .int .i64 c := hav.eval hy
    simp [execOp, hx', hy', hrun, SV.val]) ?_
  exact h _ [(w.heap.size, e, l)] _ (Own.made (xs := []) l rfl (Nat.zero_le _) (by unfold maxLen; omega) (by simp [hlen])) ((hl.alloc e l).perm (List.perm_append_singleton _ _))
end

/-- A callee that takes the owned blocks B and leaves B'. -/
theorem HL.callB {w0 w w' : World} {X : List Nat} {B B' H : List Blk} (h : HL w0 w X (B ++ H)) (h' : HL w w' (B.map (·.1)) B') : HL w0 w' X (B' ++ H) := by
  have hnd := h.nd
  rw [List.map_append, List.nodup_append] at hnd
  have hH : ∀ x ∈ H, x.1 < w.heap.size := fun x hx => (Array.getElem?_eq_some_iff.1 (h.blk x (List.mem_append_right _ hx))).1
  have hB' : ∀ y ∈ B', y.1 ∈ B.map (·.1) ∨ w.heap.size ≤ y.1 := h'.inx
  refine ⟨h'.os.trans h.os, h'.tape.trans h.tape, h'.output.trans h.output, Nat.le_trans h.size h'.size, ?_, ?_, ?_, ?_⟩
  · intro j hj hX
    refine (h'.old j (Nat.lt_of_lt_of_le hj h.size) (fun hm => ?_)).trans (h.old j hj hX)
    obtain ⟨y, hy, rfl⟩ := List.mem_map.1 hm
    rcases h.inx y (List.mem_append_left _ hy) with h1 | h1
    · exact hX h1
    · omega
  · intro x hx
    rcases List.mem_append.1 hx with hx | hx
    · exact h'.blk x hx
    · rw [h'.old x.1 (hH x hx) (fun hm => hnd.2.2 x.1 hm x.1 (List.mem_map_of_mem hx) rfl)]
      exact h.blk x (List.mem_append_right _ hx)
  · rw [List.map_append, List.nodup_append]
    refine ⟨h'.nd, hnd.2.1, ?_⟩
    intro a ha c hc
    obtain ⟨x, hx, rfl⟩ := List.mem_map.1 ha
    obtain ⟨y, hy, rfl⟩ := List.mem_map.1 hc
    rcases hB' x hx with h1 | h1
    · exact hnd.2.2 _ h1 _ hc
    · have := hH y hy; omega
  · intro x hx
    rcases List.mem_append.1 hx with hx | hx
    · rcases hB' x hx with h1 | h1
      · obtain ⟨y, hy, he⟩ := List.mem_map.1 h1
        have := h.inx y (List.mem_append_left _ hy)
        rwa [he] at this
      · exact .inr (Nat.le_trans h.size h1)
    · exact h.inx x (List.mem_append_right _ hx)

theorem HL.own {w0 w : World} {X : List Nat} {B H : List Blk} (h : HL w0 w X (B ++ H)) : HL w w (B.map (·.1)) B := by
  have hnd := h.nd
  rw [List.map_append, List.nodup_append] at hnd
  exact ⟨rfl, rfl, rfl, Nat.le_refl _, fun _ _ _ => rfl, fun x hx => h.blk x (List.mem_append_left _ hx), hnd.1, fun x hx => .inl (List.mem_map_of_mem hx)⟩


/-! ### Slices of bytes, and slices of them, that are read -/
/-- v is a slice that reads as t. -/
def Txt (w : World) (v : SV) (t : List (BitVec 8)) : Prop := ∃ a c, v = .sl a t.length c ∧ t.length ≤ c ∧ (a = none → t.length = 0) ∧ Rd w a (t.map SV.u8)
theorem Txt.grow {w w' : World} {v : SV} {t : List (BitVec 8)} (h : Txt w v t) (hg : Grow w w') : Txt w' v t := by
  obtain ⟨a, c, h1, h2, h3, h4⟩ := h
  exact ⟨a, c, h1, h2, h3, h4.grow hg⟩
theorem Txt.nil (w : World) (a : Option Addr) (c : Nat) : Txt w (.sl a 0 c) [] := ⟨a, c, rfl, Nat.zero_le _, fun _ => rfl, Rd.nil a⟩
theorem Txt.mk {w : World} {a : Option Addr} {n c : Nat} {t : List (BitVec 8)} (hr : Rd w a (t.map SV.u8)) (hn : t.length = n) (hc : n ≤ c) (ha : a = none → n = 0) : Txt w (.sl a n c) t := by
  subst hn; exact ⟨a, c, rfl, hc, ha, hr⟩
theorem Own.txt {e : TypeId} {n : Nat} {v : SV} {t : List (BitVec 8)} {B H : List Blk} {w0 w : World} {X : List Nat} (ho : Own e 1 v n (t.map SV.u8) B) (h : HL w0 w X (B ++ H)) : Txt w v t := by
  obtain ⟨a, c, hv, hc, ha⟩ := ho.shape
  have hn : t.length = n := by have := ho.1; simpa using this
  have hr := ho.rd h hv
  subst hv
  exact Txt.mk hr hn hc ha

theorem Quiet.toStrT {P : Program} {n : Nat} {S : Env} {w : World} {dst : Option Tmp} {s t : TypeId} {x : Operand} {ty : TypeId} {pos : String} {after : Array Edge} {g : Option (Nat × Bool)} {v : SV} {bs : List (BitVec 8)}
    (ht : toStrT P s t = true) (hx : S.op x = some v) (h : Txt w v bs) : Quiet P n S w ⟨dst, .convert s t x, ty, pos, after, g⟩ (SV.str bs) := by
  obtain ⟨a, c, rfl, hc, ha, hr⟩ := h
  exact Quiet.toStr ht hx hr rfl ha
theorem SemE.toStrT {P : Program} {n : Nat} {S : Env} {w : World} {K : Env → World → Prop} {dst : Option Tmp} {s t : TypeId} {x : Operand} {ty : TypeId} {pos : String} {after : Array Edge} {g : Option (Nat × Bool)} {v : SV} {bs : List (BitVec 8)}
    (ht : toStrT P s t = true) (hx : S.op x = some v) (h : Txt w v bs) (hd : okB n dst = true) (hK : K (S.put dst (SV.str bs)) w) : SemE P n S w ⟨dst, .convert s t x, ty, pos, after, g⟩ K := by
  obtain ⟨a, c, rfl, hc, ha, hr⟩ := h
  exact SemE.toStr ht hx hr rfl ha hd hK

/-- From a on stand slices that read as tt. -/
def RdD (w : World) (a : Option Addr) (tt : List (List (BitVec 8))) : Prop := ∃ vs : List SV, vs.length = tt.length ∧ Rd w a vs ∧ ∀ (i : Nat) (v : SV) (t : List (BitVec 8)), vs[i]? = some v → tt[i]? = some t → Txt w v t
theorem RdD.grow {w w' : World} {a : Option Addr} {tt : List (List (BitVec 8))} (h : RdD w a tt) (hg : Grow w w') : RdD w' a tt := by
  obtain ⟨vs, h1, h2, h3⟩ := h
  exact ⟨vs, h1, h2.grow hg, fun i v t hv ht => (h3 i v t hv ht).grow hg⟩
theorem RdD.nil (w : World) (a : Option Addr) : RdD w a [] := ⟨[], rfl, Rd.nil a, fun i v t hv _ => by simp at hv⟩
theorem RdD.at {w : World} {a : Option Addr} {tt : List (List (BitVec 8))} (h : RdD w a tt) {i : Nat} (hi : i < tt.length) :
    ∃ p v, a = some p ∧ w.cell? (p.add i) = some v.val ∧ Txt w v (tt.getD i []) := by
  obtain ⟨vs, h1, h2, h3⟩ := h
  have hv : vs[i]? = some vs[i] := List.getElem?_eq_getElem (by omega)
  obtain ⟨p, hp, _, hc⟩ := h2 i _ hv
  refine ⟨p, vs[i], hp, hc, h3 i _ _ hv ?_⟩
  simp [List.getD_eq_getElem?_getD, hi]
theorem RdD.one {w : World} {b : Nat} {v : SV} {t : List (BitVec 8)} (hr : Rd w (some ⟨b, 0, none⟩) [v]) (ht : Txt w v t) : RdD w (some ⟨b, 0, none⟩) [t] :=
  ⟨[v], rfl, hr, fun i v' t' hv ht' => by
    match i, hv, ht' with
    | 0, hv, ht' => simp at hv ht'; subst hv; subst ht'; exact ht
    | i + 1, hv, ht' => simp at hv⟩
theorem RdD.two {w : World} {b : Nat} {v v2 : SV} {t t2 : List (BitVec 8)} (hr : Rd w (some ⟨b, 0, none⟩) [v, v2]) (ht : Txt w v t) (ht2 : Txt w v2 t2) : RdD w (some ⟨b, 0, none⟩) [t, t2] :=
  ⟨[v, v2], rfl, hr, fun i v' t' hv ht' => by
    match i, hv, ht' with
    | 0, hv, ht' => simp at hv ht'; subst hv; subst ht'; exact ht
    | 1, hv, ht' => simp at hv ht'; subst hv; subst ht'; exact ht2
    | i + 2, hv, ht' => simp at hv⟩

/-- v is a slice of slices that read as tt. -/
def Txs (w : World) (v : SV) (tt : List (List (BitVec 8))) : Prop := ∃ a c, v = .sl a tt.length c ∧ tt.length ≤ c ∧ (a = none → tt.length = 0) ∧ RdD w a tt
theorem Txs.grow {w w' : World} {v : SV} {tt : List (List (BitVec 8))} (h : Txs w v tt) (hg : Grow w w') : Txs w' v tt := by
  obtain ⟨a, c, h1, h2, h3, h4⟩ := h
  exact ⟨a, c, h1, h2, h3, h4.grow hg⟩
theorem Txs.mk {w : World} {a : Option Addr} {n c : Nat} {tt : List (List (BitVec 8))} (hr : RdD w a tt) (hn : tt.length = n) (hc : n ≤ c) (ha : a = none → n = 0) : Txs w (.sl a n c) tt := by
  subst hn; exact ⟨a, c, rfl, hc, ha, hr⟩
theorem Txs.none (w : World) : Txs w (.sl none 0 0) [] := ⟨_, _, rfl, Nat.le_refl _, fun _ => rfl, RdD.nil _ _⟩

/-- Pieces, one behind the other. -/
def cat (tt : List (List (BitVec 8))) : List (BitVec 8) := tt.flatten
theorem cat_take_succ (tt : List (List (BitVec 8))) (i : Nat) (hi : i < tt.length) : cat (tt.take (i + 1)) = cat (tt.take i) ++ tt.getD i [] := by
  unfold cat
  rw [List.take_succ_eq_append_getElem hi, List.flatten_append]
  simp [List.getD_eq_getElem?_getD, hi]
end Go.Proofs.YtggbaffkjfofhaaDoor
