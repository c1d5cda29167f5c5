/- What a digest of SHA-256 holds. -/
import Derived.Test.YtkfblgkicopjjaaDoorFacts
import Derived.Test.YtkfblgkicopjjaaDoorSha2M
set_option linter.unusedVariables false
set_option linter.unusedSimpArgs false
namespace Go.Proofs.YtkfblgkicopjjaaDoor
open Go

def dig8 (s : S8) (rest : List SV) : List SV := .u32 s.a :: .u32 s.b :: .u32 s.c :: .u32 s.d :: .u32 s.e :: .u32 s.f :: .u32 s.g :: .u32 s.h :: rest
def digC (s : S8) (x : List B8) (nx : Nat) (ln : BitVec 64) (sh : Bool) : List SV := dig8 s (x.map SV.u8 ++ [.nat nx, .u64 ln, .bool sh])
def init256 : S8 := ⟨0x6a09e667#32, 0xbb67ae85#32, 0x3c6ef372#32, 0xa54ff53a#32, 0x510e527f#32, 0x9b05688c#32, 0x1f83d9ab#32, 0x5be0cd19#32⟩
def init224 : S8 := ⟨0xc1059ed8#32, 0x367cd507#32, 0x3070dd17#32, 0xf70e5939#32, 0xffc00b31#32, 0x68581511#32, 0x64f98fa7#32, 0xbefa4fa4#32⟩
def initOf (sh : Bool) : S8 := bif sh then init224 else init256

theorem digC_nx (s : S8) (x : List B8) (nx k : Nat) (ln : BitVec 64) (sh : Bool) (hx : x.length = 64) : (digC s x nx ln sh).set 72 (.nat k) = digC s x k ln sh := by
  simp [digC, dig8, List.set_append, hx]
theorem digC_len (s : S8) (x : List B8) (nx : Nat) (ln k : BitVec 64) (sh : Bool) (hx : x.length = 64) : (digC s x nx ln sh).set 73 (.u64 k) = digC s x nx k sh := by
  simp [digC, dig8, List.set_append, hx]
theorem digC_sh (s : S8) (x : List B8) (nx : Nat) (ln : BitVec 64) (sh sh' : Bool) (hx : x.length = 64) : (digC s x nx ln sh).set 74 (.bool sh') = digC s x nx ln sh' := by
  simp [digC, dig8, List.set_append, hx]
theorem digC_length (s : S8) (x : List B8) (nx : Nat) (ln : BitVec 64) (sh : Bool) (hx : x.length = 64) : (digC s x nx ln sh).length = 75 := by simp [digC, dig8, hx]
theorem digC_nx_get (s : S8) (x : List B8) (nx : Nat) (ln : BitVec 64) (sh : Bool) (hx : x.length = 64) : (digC s x nx ln sh)[72]? = some (.nat nx) := by simp [digC, dig8, List.getElem?_append, hx]
theorem digC_len_get (s : S8) (x : List B8) (nx : Nat) (ln : BitVec 64) (sh : Bool) (hx : x.length = 64) : (digC s x nx ln sh)[73]? = some (.u64 ln) := by simp [digC, dig8, List.getElem?_append, hx]
theorem digC_sh_get (s : S8) (x : List B8) (nx : Nat) (ln : BitVec 64) (sh : Bool) (hx : x.length = 64) : (digC s x nx ln sh)[74]? = some (.bool sh) := by simp [digC, dig8, List.getElem?_append, hx]
theorem digC_zero : (List.replicate 8 (.u32 0) ++ (List.replicate 64 (.u8 0) ++ ([.nat 0] ++ ([.u64 0] ++ ([.bool false])))) : List SV) = digC ⟨0, 0, 0, 0, 0, 0, 0, 0⟩ (List.replicate 64 0) 0 0 false := rfl
theorem dig8_set0 (s : S8) (rest : List SV) (v : Wd) : (dig8 s rest).set 0 (.u32 v) = dig8 { s with a := v } rest := rfl
theorem dig8_set1 (s : S8) (rest : List SV) (v : Wd) : (dig8 s rest).set 1 (.u32 v) = dig8 { s with b := v } rest := rfl
theorem dig8_set2 (s : S8) (rest : List SV) (v : Wd) : (dig8 s rest).set 2 (.u32 v) = dig8 { s with c := v } rest := rfl
theorem dig8_set3 (s : S8) (rest : List SV) (v : Wd) : (dig8 s rest).set 3 (.u32 v) = dig8 { s with d := v } rest := rfl
theorem dig8_set4 (s : S8) (rest : List SV) (v : Wd) : (dig8 s rest).set 4 (.u32 v) = dig8 { s with e := v } rest := rfl
theorem dig8_set5 (s : S8) (rest : List SV) (v : Wd) : (dig8 s rest).set 5 (.u32 v) = dig8 { s with f := v } rest := rfl
theorem dig8_set6 (s : S8) (rest : List SV) (v : Wd) : (dig8 s rest).set 6 (.u32 v) = dig8 { s with g := v } rest := rfl
theorem dig8_set7 (s : S8) (rest : List SV) (v : Wd) : (dig8 s rest).set 7 (.u32 v) = dig8 { s with h := v } rest := rfl
theorem dig8_length (s : S8) (rest : List SV) : (dig8 s rest).length = rest.length + 8 := rfl
end Go.Proofs.YtkfblgkicopjjaaDoor
