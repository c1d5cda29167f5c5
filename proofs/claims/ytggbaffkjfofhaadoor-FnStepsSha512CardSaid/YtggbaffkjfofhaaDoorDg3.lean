/- A digest of SHA-512 that has taken up a text. -/
import Derived.Test.YtggbaffkjfofhaaDoorSum3
import Derived.Test.YtggbaffkjfofhaaDoorNew3
set_option linter.unusedVariables false
set_option linter.unusedSimpArgs false
namespace Go.Proofs.YtggbaffkjfofhaaDoor
open Go

/-- The cells of a digest that has taken up the text T. -/
def Dig (ki : Kd) (T : List B8) (cs : List SV) : Prop := ∃ x : List B8, x.length = 128 ∧ x.take (T.length % 128) = T.drop (128 * (T.length / 128)) ∧ cs = digC (blocks (initOf ki) T) x (T.length % 128) (BitVec.ofNat 64 T.length) ki

theorem Dig.new (ki : Kd) (x : List B8) (hx : x.length = 128) : Dig ki [] (digC (initOf ki) x 0 0 ki) := ⟨x, hx, rfl, by rw [blocks_lo (initOf ki) (by simp)]; rfl⟩

theorem text_split (T : List B8) : ∃ T0 tl, T = T0 ++ tl ∧ T0.length = 128 * (T.length / 128) ∧ tl = T.drop (128 * (T.length / 128)) ∧ tl.length = T.length % 128 :=
  ⟨T.take (128 * (T.length / 128)), T.drop (128 * (T.length / 128)), (List.take_append_drop _ _).symm, by simp; omega, rfl, by simp; omega⟩

theorem blocks_more (s0 : S8) (T q : List B8) : blocks (blocks s0 T) (T.drop (128 * (T.length / 128)) ++ q) = blocks s0 (T ++ q) := by
  obtain ⟨T0, tl, h, h0, htl, hl⟩ := text_split T
  have e1 : blocks s0 T = blocks s0 T0 := by
    conv => lhs; rw [h]
    rw [blocks_append tl _ s0 T0 rfl (by omega), blocks_lo _ (by omega)]
  have e2 : T ++ q = T0 ++ (tl ++ q) := by rw [← List.append_assoc, ← h]
  rw [e1, ← htl, e2, blocks_append _ _ s0 T0 rfl (by omega)]

theorem drop_more (T q : List B8) : (T.drop (128 * (T.length / 128)) ++ q).drop (128 * ((T.length % 128 + q.length) / 128)) = (T ++ q).drop (128 * ((T ++ q).length / 128)) := by
  obtain ⟨T0, tl, h, h0, htl, hl⟩ := text_split T
  have e2 : T ++ q = T0 ++ (tl ++ q) := by rw [← List.append_assoc, ← h]
  have e3 : 128 * ((T ++ q).length / 128) = T0.length + 128 * ((T.length % 128 + q.length) / 128) := by simp only [List.length_append]; omega
  rw [e3, e2, ← List.drop_drop, List.drop_left, ← htl]

theorem writeD (b : Nat) (T : List B8) (cs : List SV) (ki : Kd) (hd : Dig ki T cs) (a : Option Addr) (n c : Nat) (q : List B8) (w : World) (hb : w.heap[b]? = some (.cells (cs.map SV.val).toArray 76 (0, 0)))
    (hko : KO w) (hkb : 0 ≠ b) (hr : Rd w a (q.map SV.u8)) (hn : q.length = n) (hnc : n ≤ c) (ha : a = none → n = 0) (hoff : Off a [b]) (hbig : n ≤ 60000) :
    Calls Tryd.prog 41 #[(SV.ptr ⟨b, 0, none⟩).val, (SV.sl a n c).val] w fun e w' => e = .returned (SV.tup2 (.nat n) (.raw .nilIface)).val ∧
      ∃ cs', Dig ki (T ++ q) cs' ∧ HL w w' [b] [(b, 76, cs')] := by
  obtain ⟨x, hx, htk, rfl⟩ := hd
  refine (write1 b _ x _ _ ki a n c q w hb hx (by omega) hko hkb hr hn hnc ha hoff hbig).mono ?_
  rintro e w' ⟨he, x', hx', htk', hl⟩
  refine ⟨he, _, ⟨x', hx', ?_, rfl⟩, ?_⟩
  · subst hn
    have e1 : (T ++ q).length % 128 = (T.length % 128 + q.length) % 128 := by simp only [List.length_append]; omega
    rw [e1, htk', htk, drop_more]
  · subst hn
    have e1 : (T ++ q).length % 128 = (T.length % 128 + q.length) % 128 := by simp only [List.length_append]; omega
    have e2 : BitVec.ofNat 64 T.length + BitVec.ofNat 64 q.length = BitVec.ofNat 64 (T ++ q).length := by rw [List.length_append, BitVec.ofNat_add]
    rw [htk, blocks_more, ← e1, e2] at hl
    exact hl
end Go.Proofs.YtggbaffkjfofhaaDoor
