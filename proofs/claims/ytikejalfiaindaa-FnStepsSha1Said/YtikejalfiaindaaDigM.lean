/- What a digest of SHA-1 holds. -/
import Derived.Test.YtikejalfiaindaaFacts
import Derived.Test.YtikejalfiaindaaSha1M
set_option linter.unusedVariables false
set_option linter.unusedSimpArgs false
namespace Go.Proofs.Ytikejalfiaindaa
open Go

def dig5 (s : S5) (rest : List SV) : List SV := .u32 s.a :: .u32 s.b :: .u32 s.c :: .u32 s.d :: .u32 s.e :: rest
def digC (s : S5) (x : List B8) (nx : Nat) (ln : BitVec 64) : List SV := dig5 s (x.map SV.u8 ++ [.nat nx, .u64 ln])
def init1 : S5 := ⟨0x67452301#32, 0xefcdab89#32, 0x98badcfe#32, 0x10325476#32, 0xc3d2e1f0#32⟩

theorem digC_nx (s : S5) (x : List B8) (nx k : Nat) (ln : BitVec 64) (hx : x.length = 64) : (digC s x nx ln).set 69 (.nat k) = digC s x k ln := by
  simp [digC, dig5, List.set_append, hx]
theorem digC_len (s : S5) (x : List B8) (nx : Nat) (ln k : BitVec 64) (hx : x.length = 64) : (digC s x nx ln).set 70 (.u64 k) = digC s x nx k := by
  simp [digC, dig5, List.set_append, hx]
theorem digC_length (s : S5) (x : List B8) (nx : Nat) (ln : BitVec 64) (hx : x.length = 64) : (digC s x nx ln).length = 71 := by simp [digC, dig5, hx]
theorem digC_nx_get (s : S5) (x : List B8) (nx : Nat) (ln : BitVec 64) (hx : x.length = 64) : (digC s x nx ln)[69]? = some (.nat nx) := by simp [digC, dig5, List.getElem?_append, hx]
theorem digC_len_get (s : S5) (x : List B8) (nx : Nat) (ln : BitVec 64) (hx : x.length = 64) : (digC s x nx ln)[70]? = some (.u64 ln) := by simp [digC, dig5, List.getElem?_append, hx]
theorem digC_zero : (List.replicate 5 (.u32 0) ++ (List.replicate 64 (.u8 0) ++ ([.nat 0] ++ ([.u64 0]))) : List SV) = digC ⟨0, 0, 0, 0, 0⟩ (List.replicate 64 0) 0 0 := rfl
theorem dig5_set0 (s : S5) (rest : List SV) (v : W32) : (dig5 s rest).set 0 (.u32 v) = dig5 { s with a := v } rest := rfl
theorem dig5_set1 (s : S5) (rest : List SV) (v : W32) : (dig5 s rest).set 1 (.u32 v) = dig5 { s with b := v } rest := rfl
theorem dig5_set2 (s : S5) (rest : List SV) (v : W32) : (dig5 s rest).set 2 (.u32 v) = dig5 { s with c := v } rest := rfl
theorem dig5_set3 (s : S5) (rest : List SV) (v : W32) : (dig5 s rest).set 3 (.u32 v) = dig5 { s with d := v } rest := rfl
theorem dig5_set4 (s : S5) (rest : List SV) (v : W32) : (dig5 s rest).set 4 (.u32 v) = dig5 { s with e := v } rest := rfl
theorem dig5_length (s : S5) (rest : List SV) : (dig5 s rest).length = rest.length + 5 := rfl
end Go.Proofs.Ytikejalfiaindaa
