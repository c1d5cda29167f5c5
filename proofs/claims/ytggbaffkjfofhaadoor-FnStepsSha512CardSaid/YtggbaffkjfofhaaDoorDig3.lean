/- What a digest of SHA-512 holds. -/
import Derived.Test.YtggbaffkjfofhaaDoorFacts
import Derived.Test.YtggbaffkjfofhaaDoorSha3M
set_option linter.unusedVariables false
set_option linter.unusedSimpArgs false
namespace Go.Proofs.YtggbaffkjfofhaaDoor
open Go

/-- The kinds. -/
inductive Kd where
  | k384 | k512 | k224 | k256
/-- The bytes of a hash. -/
def szOf : Kd → Nat
  | .k384 => 48 | .k512 => 64 | .k224 => 28 | .k256 => 32
/-- The number of a kind. -/
def kdOf : Kd → Nat
  | .k384 => 2 | .k512 => 3 | .k224 => 4 | .k256 => 5

def dig8 (s : S8) (rest : List SV) : List SV := .u64 s.a :: .u64 s.b :: .u64 s.c :: .u64 s.d :: .u64 s.e :: .u64 s.f :: .u64 s.g :: .u64 s.h :: rest
def digC (s : S8) (x : List B8) (nx : Nat) (ln : BitVec 64) (k : Kd) : List SV := dig8 s (x.map SV.u8 ++ [.nat nx, .u64 ln, .nat (szOf k)])
def i512 : S8 := ⟨0x6a09e667f3bcc908#64, 0xbb67ae8584caa73b#64, 0x3c6ef372fe94f82b#64, 0xa54ff53a5f1d36f1#64, 0x510e527fade682d1#64, 0x9b05688c2b3e6c1f#64, 0x1f83d9abfb41bd6b#64, 0x5be0cd19137e2179#64⟩
def i224 : S8 := ⟨0x8c3d37c819544da2#64, 0x73e1996689dcd4d6#64, 0x1dfab7ae32ff9c82#64, 0x679dd514582f9fcf#64, 0x0f6d2b697bd44da8#64, 0x77e36f7304c48942#64, 0x3f9d85a86a1d36c8#64, 0x1112e6ad91d692a1#64⟩
def i256 : S8 := ⟨0x22312194fc2bf72c#64, 0x9f555fa3c84c64c2#64, 0x2393b86b6f53b151#64, 0x963877195940eabd#64, 0x96283ee2a88effe3#64, 0xbe5e1e2553863992#64, 0x2b0199fc2c85b8aa#64, 0x0eb72ddc81c52ca2#64⟩
def i384 : S8 := ⟨0xcbbb9d5dc1059ed8#64, 0x629a292a367cd507#64, 0x9159015a3070dd17#64, 0x152fecd8f70e5939#64, 0x67332667ffc00b31#64, 0x8eb44a8768581511#64, 0xdb0c2e0d64f98fa7#64, 0x47b5481dbefa4fa4#64⟩
def initOf : Kd → S8
  | .k384 => i384 | .k512 => i512 | .k224 => i224 | .k256 => i256

set_option maxRecDepth 100000 in
theorem digC_nx (s : S8) (x : List B8) (nx m : Nat) (ln : BitVec 64) (k : Kd) (hx : x.length = 128) : (digC s x nx ln k).set 136 (.nat m) = digC s x m ln k := by
  simp [digC, dig8, List.set_append, hx]
set_option maxRecDepth 100000 in
theorem digC_len (s : S8) (x : List B8) (nx : Nat) (ln m : BitVec 64) (k : Kd) (hx : x.length = 128) : (digC s x nx ln k).set 137 (.u64 m) = digC s x nx m k := by
  simp [digC, dig8, List.set_append, hx]
set_option maxRecDepth 100000 in
theorem digC_length (s : S8) (x : List B8) (nx : Nat) (ln : BitVec 64) (k : Kd) (hx : x.length = 128) : (digC s x nx ln k).length = 139 := by simp [digC, dig8, hx]
set_option maxRecDepth 100000 in
theorem digC_nx_get (s : S8) (x : List B8) (nx : Nat) (ln : BitVec 64) (k : Kd) (hx : x.length = 128) : (digC s x nx ln k)[136]? = some (.nat nx) := by simp [digC, dig8, List.getElem?_append, hx]
set_option maxRecDepth 100000 in
theorem digC_len_get (s : S8) (x : List B8) (nx : Nat) (ln : BitVec 64) (k : Kd) (hx : x.length = 128) : (digC s x nx ln k)[137]? = some (.u64 ln) := by simp [digC, dig8, List.getElem?_append, hx]
set_option maxRecDepth 100000 in
theorem digC_sz_get (s : S8) (x : List B8) (nx : Nat) (ln : BitVec 64) (k : Kd) (hx : x.length = 128) : (digC s x nx ln k)[138]? = some (.nat (szOf k)) := by simp [digC, dig8, List.getElem?_append, hx]
theorem dig8_set0 (s : S8) (rest : List SV) (v : Wd) : (dig8 s rest).set 0 (.u64 v) = dig8 { s with a := v } rest := rfl
theorem dig8_set1 (s : S8) (rest : List SV) (v : Wd) : (dig8 s rest).set 1 (.u64 v) = dig8 { s with b := v } rest := rfl
theorem dig8_set2 (s : S8) (rest : List SV) (v : Wd) : (dig8 s rest).set 2 (.u64 v) = dig8 { s with c := v } rest := rfl
theorem dig8_set3 (s : S8) (rest : List SV) (v : Wd) : (dig8 s rest).set 3 (.u64 v) = dig8 { s with d := v } rest := rfl
theorem dig8_set4 (s : S8) (rest : List SV) (v : Wd) : (dig8 s rest).set 4 (.u64 v) = dig8 { s with e := v } rest := rfl
theorem dig8_set5 (s : S8) (rest : List SV) (v : Wd) : (dig8 s rest).set 5 (.u64 v) = dig8 { s with f := v } rest := rfl
theorem dig8_set6 (s : S8) (rest : List SV) (v : Wd) : (dig8 s rest).set 6 (.u64 v) = dig8 { s with g := v } rest := rfl
theorem dig8_set7 (s : S8) (rest : List SV) (v : Wd) : (dig8 s rest).set 7 (.u64 v) = dig8 { s with h := v } rest := rfl
theorem dig8_length (s : S8) (rest : List SV) : (dig8 s rest).length = rest.length + 8 := rfl
end Go.Proofs.YtggbaffkjfofhaaDoor
