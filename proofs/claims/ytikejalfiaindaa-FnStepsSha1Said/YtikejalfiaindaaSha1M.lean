/- SHA-1 as plain functions on words. -/
set_option linter.unusedVariables false
set_option linter.unusedSimpArgs false
namespace Go.Proofs.Ytikejalfiaindaa

abbrev W32 := BitVec 32
abbrev B8 := BitVec 8

def rotl (x : W32) (k : Nat) : W32 := x <<< k ||| x >>> (32 - k)
def be32 (a b c d : B8) : W32 := a.setWidth 32 <<< 24 ||| b.setWidth 32 <<< 16 ||| c.setWidth 32 <<< 8 ||| d.setWidth 32

structure S5 where
  a : W32
  b : W32
  c : W32
  d : W32
  e : W32

/-- The words of a block. -/
def wordAt (bs : List B8) (t : Nat) : W32 := be32 (bs.getD (4 * t) 0) (bs.getD (4 * t + 1) 0) (bs.getD (4 * t + 2) 0) (bs.getD (4 * t + 3) 0)

def sched (m : Nat → W32) (t : Nat) : W32 :=
  if h : t < 16 then m t else rotl (sched m (t - 3) ^^^ sched m (t - 8) ^^^ sched m (t - 14) ^^^ sched m (t - 16)) 1
termination_by t
decreasing_by all_goals omega

theorem sched_lo (m : Nat → W32) {t : Nat} (h : t < 16) : sched m t = m t := by rw [sched, dif_pos h]
theorem sched_hi (m : Nat → W32) {t : Nat} (h : 16 ≤ t) : sched m t = rotl (sched m (t - 3) ^^^ sched m (t - 8) ^^^ sched m (t - 14) ^^^ sched m (t - 16)) 1 := by
  rw [sched, dif_neg (by omega)]

def fOf (t : Nat) (b c d : W32) : W32 :=
  if t < 20 then b &&& c ||| ~~~b &&& d else if t < 40 then b ^^^ c ^^^ d else if t < 60 then b &&& c ||| b &&& d ||| c &&& d else b ^^^ c ^^^ d
def kOf (t : Nat) : W32 :=
  if t < 20 then 0x5a827999#32 else if t < 40 then 0x6ed9eba1#32 else if t < 60 then 0x8f1bbcdc#32 else 0xca62c1d6#32

def stepOf (wd : Nat → W32) (t : Nat) (s : S5) : S5 :=
  ⟨rotl s.a 5 + fOf t s.b s.c s.d + s.e + wd t + kOf t, s.a, rotl s.b 30, s.c, s.d⟩

def roundsOf (wd : Nat → W32) (s : S5) : Nat → S5
  | 0 => s
  | t + 1 => stepOf wd t (roundsOf wd s t)

def addS (s t : S5) : S5 := ⟨s.a + t.a, s.b + t.b, s.c + t.c, s.d + t.d, s.e + t.e⟩

def blk (s : S5) (bs : List B8) : S5 := addS s (roundsOf (sched (wordAt bs)) s 80)

def blocks (s : S5) (bs : List B8) : S5 :=
  if h : bs.length < 64 then s else blocks (blk s bs) (bs.drop 64)
termination_by bs.length
decreasing_by simp; omega

theorem blocks_lo (s : S5) {bs : List B8} (h : bs.length < 64) : blocks s bs = s := by rw [blocks, dif_pos h]
theorem blocks_hi (s : S5) {bs : List B8} (h : 64 ≤ bs.length) : blocks s bs = blocks (blk s bs) (bs.drop 64) := by
  rw [blocks, dif_neg (by omega)]

/-- The ring of sixteen words: place k mod 16 holds word k, for the sixteen words behind i. -/
def Ring (wd : Nat → W32) (i : Nat) (f : Nat → W32) : Prop := ∀ k, k < i → i ≤ k + 16 → f (k % 16) = wd k

theorem Ring.next {wd : Nat → W32} {i : Nat} {f : Nat → W32} (h : Ring wd i f) (v : W32) (hv : v = wd i) : Ring wd (i + 1) (fun j => if j = i % 16 then v else f j) := by
  intro k h1 h2
  by_cases he : k = i
  · subst he; simp [hv]
  · have : ¬ k % 16 = i % 16 := by omega
    simp only [this, if_false]
    exact h k (by omega) (by omega)

theorem and15 (i : Nat) : i &&& 15 = i % 16 := Nat.and_two_pow_sub_one_eq_mod i 4

theorem ring_word {m : Nat → W32} {i : Nat} {f : Nat → W32} (h : Ring (sched m) i f) (hi : 16 ≤ i) :
    rotl (f ((i - 3) % 16) ^^^ f ((i - 8) % 16) ^^^ f ((i - 14) % 16) ^^^ f (i % 16)) 1 = sched m i := by
  have e : i % 16 = (i - 16) % 16 := by omega
  rw [sched_hi m hi, h (i - 3) (by omega) (by omega), h (i - 8) (by omega) (by omega), h (i - 14) (by omega) (by omega), e, h (i - 16) (by omega) (by omega)]

theorem maj_eq (b c d : W32) : (b ||| c) &&& d ||| b &&& c = b &&& c ||| b &&& d ||| c &&& d := by
  ext i hi
  simp only [BitVec.getElem_or, BitVec.getElem_and]
  cases b[i] <;> cases c[i] <;> cases d[i] <;> rfl
end Go.Proofs.Ytikejalfiaindaa
