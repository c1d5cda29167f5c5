/- copy, and the whole part of a length. -/
import Derived.Test.YtggbaffkjfofhaaDoorTree
import Derived.Test.YtggbaffkjfofhaaDoorMem3
set_option linter.unusedVariables false
set_option linter.unusedSimpArgs false
namespace Go.Proofs.YtggbaffkjfofhaaDoor
open Go

theorem andNot_nat (n j : Nat) (hn : n < 9223372036854775808) (hj : j < 60) : (BitVec.ofInt 64 (n : Int) &&& ~~~ (BitVec.ofInt 64 ((2 ^ j - 1 : Nat) : Int))).toNat = n - n % 2 ^ j := by
  have h2 : 2 ^ j < 2 ^ 60 := Nat.pow_lt_pow_right (by omega) hj
  have hand : (BitVec.ofInt 64 (n : Int) &&& BitVec.ofInt 64 ((2 ^ j - 1 : Nat) : Int)).toNat = n % 2 ^ j := by
    rw [and_ofNat64 hn (by omega), Nat.and_two_pow_sub_one_eq_mod]
  have hx : (BitVec.ofInt 64 (n : Int)).toNat = n := by rw [BitVec.ofInt_natCast, BitVec.toNat_ofNat]; omega
  generalize BitVec.ofInt 64 (n : Int) = x at *
  generalize BitVec.ofInt 64 ((2 ^ j - 1 : Nat) : Int) = y at *
  have hz : (x &&& y) &&& (x &&& ~~~y) = 0#64 := by
    ext i hi
    simp only [BitVec.getElem_and, BitVec.getElem_not, BitVec.getElem_zero]
    cases x[i] <;> cases y[i] <;> rfl
  have hs : (x &&& y) + (x &&& ~~~y) = x := by
    rw [BitVec.add_eq_or_of_and_eq_zero _ _ hz]
    ext i hi
    simp only [BitVec.getElem_and, BitVec.getElem_not, BitVec.getElem_or]
    cases x[i] <;> cases y[i] <;> rfl
  have hm := congrArg BitVec.toNat hs
  rw [BitVec.toNat_add, hand, hx] at hm
  have hlt := (x &&& ~~~y).isLt
  have hle : n % 2 ^ j ≤ n := Nat.mod_le _ _
  omega

theorem sl0 (a : Option Addr) (c : Nat) : (if c = 0 then a else a.map fun x => x.add 0) = a := by
  split
  · rfl
  · cases a with
    | none => rfl
    | some p => simp [Addr.add_zero']
theorem isOneB (bs : List (BitVec 8)) : ∀ v ∈ bs.map SV.u8, v.isOne = true := by
  intro v hv
  obtain ⟨b, _, rfl⟩ := List.mem_map.1 hv
  rfl
theorem slNone {a : Option Addr} {c k n : Nat} (h : a = none → n = 0) (h' : (if c = k then a else a.map fun x => x.add k) = none) : n = 0 := by
  split at h'
  · exact h h'
  · cases a with
    | none => exact h rfl
    | some p => cases h'

section
variable {P : Program} {n : Nat} {S : Env} {w : World} {K : Env → World → Prop}

theorem Plain.andNot {dst : Option Tmp} {t t' : TypeId} {x y : Operand} {ty : TypeId} {pos : String} {after : Array Edge} {g : Option (Nat × Bool)} {m : Nat} (j : Nat) (hx : S.op x = some (.nat m)) (hm : m < 9223372036854775808) (hj : j < 60)
    (hy : S.op y = some (.nat (2 ^ j - 1))) : Plain P n S ⟨dst, .binOp .andNot t x y t', ty, pos, after, g⟩ (.nat (m - m % 2 ^ j)) := fun a ha w => by
  have h1 := andNot_nat m j hm hj
  have e : IntKind.i64.wrap ((m - m % 2 ^ j : Nat) : Int) = ((m - m % 2 ^ j : Nat) : Int) := wrap_i64_in (by omega) (by omega)
  have hrun : (binOp .andNot t (SV.nat m).val (SV.nat (2 ^ j - 1)).val).run P w = .ok (SV.nat (m - m % 2 ^ j)).val w := by
    show Result.ok (Value.int IntKind.i64 (IntKind.i64.wrap (((BitVec.ofInt 64 (m : Int)) &&& ~~~ (BitVec.ofInt 64 ((2 ^ j - 1 : Nat) : Int))).toNat : Int))) w = _
    rw [h1, e]
    rfl
  simp [execOp, ha.eval hx, ha.eval hy, eqGuard, hrun]

/-- copy into a known block. -/
theorem SemE.copy {w0 : World} {X : List Nat} {H : List Blk} (hl : HL w0 w X H) (k : Nat) {e : TypeId} {dst : Option Tmp} {s x : Operand} {t t' : TypeId} {ty : TypeId} {pos : String} {after : Array Edge} {g : Option (Nat × Bool)}
    {b o dl dc m c : Nat} {a : Option Addr} {bt : TypeId} {cs vs : List SV} (ht : sliceOf P t e 1 = true) (hs : S.op s = some (.sl (some ⟨b, o, none⟩) dl dc)) (hx : S.op x = some (.sl a m c)) (hr : Rd w a vs) (hm : vs.length = m) (ha0 : a = none → m = 0)
    (h1 : ∀ v ∈ vs, v.isOne = true) (hk : H[k]? = some (b, bt, cs)) (hfit : o + min m dl ≤ cs.length) (hd : okB n dst = true)
    (h : ∀ w', HL w0 w' X (H.set k (b, bt, cs.take o ++ vs.take (min m dl) ++ cs.drop (o + min m dl))) → K (S.put dst (.nat (min m dl))) w') :
    SemE P n S w ⟨dst, .call { callee := .builtin .copy, args := #[s, x], argTypes := #[t, t'] }, ty, pos, after, g⟩ K := by
  obtain ⟨hu, i, z, hi, hz, hiz, hzs, hb⟩ := sliceOf_spec ht
  have hsz : (P.info? e).map (·.size) = some 1 := by rw [hi]; simp [hiz]
  have hop : ∀ {av : Act} (hav : Holds n S av) {u : Value} {w' : World}, (Builtin.copy_ #[t, t'] ty #[(SV.sl (some ⟨b, o, none⟩) dl dc).val, (SV.sl a m c).val]).run P w = .ok u w' →
      (execOp av.eval ⟨dst, .call { callee := .builtin .copy, args := #[s, x], argTypes := #[t, t'] }, ty, pos, after, g⟩).run P w = .ok (.value u) w' := fun hav u w' hrun => by
    simp [execOp, resolve, hav.eval hs, hav.eval hx, invoke, builtin, hrun]
  by_cases h0 : min m dl = 0
  · have hset : H.set k (b, bt, cs.take o ++ vs.take (min m dl) ++ cs.drop (o + min m dl)) = H := by
      rw [h0, List.take_zero, List.append_nil, Nat.add_zero, List.take_append_drop]
      apply List.ext_getElem?
      intro j
      rw [List.getElem?_set]
      split
      · rename_i hkj
        subst hkj
        rw [hk]
        have := (List.getElem?_eq_some_iff.1 hk).1
        simp [this]
      · rfl
    have hl' := hl
    rw [← hset] at hl'
    have hrun := run_copy_none (P := P) w t t' ty e (some ⟨b, o, none⟩) a dl dc m c hu hsz h0
    refine SemE.value (.nat (min m dl)) hd (fun av hav => ?_) (h w hl')
    rw [hop hav hrun, h0]
    rfl
  · cases a with
    | none => exact absurd (ha0 rfl) (by omega)
    | some p =>
      have hlen : ((vs.take (min m dl)).map SV.val).length = min m dl := by simp; omega
      have hrun := run_copy_row P w t t' ty e b o dl dc p m c (cs.map SV.val).toArray bt ((vs.take (min m dl)).map SV.val) hu hsz (hl.at hk) hlen (hr.take (min m dl)).cells (by
        rw [hlen]; simpa using hfit) (fun v hv => by
        obtain ⟨u, hu, rfl⟩ := List.mem_map.1 hv
        exact SV.isOne_val (h1 u (List.mem_of_mem_take hu)))
      rw [map_splice, List.length_take, Nat.min_eq_left (show min m dl ≤ vs.length by omega)] at hrun
      refine SemE.value (.nat (min m dl)) hd (fun av hav => ?_) (h _ (hl.setRow hk _))
      rw [hop hav hrun, hlen]
      rfl
end
end Go.Proofs.YtggbaffkjfofhaaDoor
