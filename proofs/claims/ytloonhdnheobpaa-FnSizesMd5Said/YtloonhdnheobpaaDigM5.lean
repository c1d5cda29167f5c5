/- What a digest of MD5 holds. -/
import Derived.Test.YtloonhdnheobpaaFacts
set_option linter.unusedVariables false
set_option linter.unusedSimpArgs false
namespace Go.Proofs.Ytloonhdnheobpaa
open Go

abbrev W32 := BitVec 32
abbrev B8 := BitVec 8
structure S4 where
  a : W32
  b : W32
  c : W32
  d : W32

def dig4 (s : S4) (rest : List SV) : List SV := .u32 s.a :: .u32 s.b :: .u32 s.c :: .u32 s.d :: rest
def digC5 (s : S4) (x : List B8) (nx : Nat) (ln : BitVec 64) : List SV := dig4 s (x.map SV.u8 ++ [.nat nx, .u64 ln])
def init5 : S4 := ⟨0x67452301#32, 0xefcdab89#32, 0x98badcfe#32, 0x10325476#32⟩

theorem digC5_nx (s : S4) (x : List B8) (nx k : Nat) (ln : BitVec 64) (hx : x.length = 64) : (digC5 s x nx ln).set 68 (.nat k) = digC5 s x k ln := by
  simp [digC5, dig4, List.set_append, hx]
theorem digC5_len (s : S4) (x : List B8) (nx : Nat) (ln k : BitVec 64) (hx : x.length = 64) : (digC5 s x nx ln).set 69 (.u64 k) = digC5 s x nx k := by
  simp [digC5, dig4, List.set_append, hx]
theorem digC5_length (s : S4) (x : List B8) (nx : Nat) (ln : BitVec 64) (hx : x.length = 64) : (digC5 s x nx ln).length = 70 := by simp [digC5, dig4, hx]
theorem digC5_nx_get (s : S4) (x : List B8) (nx : Nat) (ln : BitVec 64) (hx : x.length = 64) : (digC5 s x nx ln)[68]? = some (.nat nx) := by simp [digC5, dig4, List.getElem?_append, hx]
theorem digC5_len_get (s : S4) (x : List B8) (nx : Nat) (ln : BitVec 64) (hx : x.length = 64) : (digC5 s x nx ln)[69]? = some (.u64 ln) := by simp [digC5, dig4, List.getElem?_append, hx]
theorem digC5_zero : (List.replicate 4 (.u32 0) ++ (List.replicate 64 (.u8 0) ++ ([.nat 0] ++ ([.u64 0]))) : List SV) = digC5 ⟨0, 0, 0, 0⟩ (List.replicate 64 0) 0 0 := rfl
theorem dig4_set0 (s : S4) (rest : List SV) (v : W32) : (dig4 s rest).set 0 (.u32 v) = dig4 { s with a := v } rest := rfl
theorem dig4_set1 (s : S4) (rest : List SV) (v : W32) : (dig4 s rest).set 1 (.u32 v) = dig4 { s with b := v } rest := rfl
theorem dig4_set2 (s : S4) (rest : List SV) (v : W32) : (dig4 s rest).set 2 (.u32 v) = dig4 { s with c := v } rest := rfl
theorem dig4_set3 (s : S4) (rest : List SV) (v : W32) : (dig4 s rest).set 3 (.u32 v) = dig4 { s with d := v } rest := rfl
theorem dig4_length (s : S4) (rest : List SV) : (dig4 s rest).length = rest.length + 4 := rfl
end Go.Proofs.Ytloonhdnheobpaa
