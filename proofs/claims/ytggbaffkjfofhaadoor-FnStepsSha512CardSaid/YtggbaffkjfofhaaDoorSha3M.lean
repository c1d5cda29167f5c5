/- SHA-512 as plain functions on words. -/
set_option linter.unusedVariables false
set_option linter.unusedSimpArgs false
namespace Go.Proofs.YtggbaffkjfofhaaDoor

abbrev Wd := BitVec 64
abbrev B8 := BitVec 8
structure S8 where
  a : Wd
  b : Wd
  c : Wd
  d : Wd
  e : Wd
  f : Wd
  g : Wd
  h : Wd

def rotr (x : Wd) (k : Nat) : Wd := x >>> k ||| x <<< (64 - k)
def ss0 (x : Wd) : Wd := rotr x 1 ^^^ rotr x 8 ^^^ x >>> 7
def ss1 (x : Wd) : Wd := rotr x 19 ^^^ rotr x 61 ^^^ x >>> 6
def bs0 (x : Wd) : Wd := rotr x 28 ^^^ rotr x 34 ^^^ rotr x 39
def bs1 (x : Wd) : Wd := rotr x 14 ^^^ rotr x 18 ^^^ rotr x 41
def choose (e f g : Wd) : Wd := e &&& f ^^^ ~~~e &&& g
def major (a b c : Wd) : Wd := a &&& b ^^^ a &&& c ^^^ b &&& c
def be64 (a b c d e f g h : B8) : Wd := a.setWidth 64 <<< 56 ||| b.setWidth 64 <<< 48 ||| c.setWidth 64 <<< 40 ||| d.setWidth 64 <<< 32 ||| e.setWidth 64 <<< 24 ||| f.setWidth 64 <<< 16 ||| g.setWidth 64 <<< 8 ||| h.setWidth 64

/-- The words of a block. -/
def wordAt (bs : List B8) (t : Nat) : Wd := be64 (bs.getD (8 * t) 0) (bs.getD (8 * t + 1) 0) (bs.getD (8 * t + 2) 0) (bs.getD (8 * t + 3) 0) (bs.getD (8 * t + 4) 0) (bs.getD (8 * t + 5) 0) (bs.getD (8 * t + 6) 0) (bs.getD (8 * t + 7) 0)

def sched (m : Nat → Wd) (t : Nat) : Wd :=
  if h : t < 16 then m t else ss1 (sched m (t - 2)) + sched m (t - 7) + ss0 (sched m (t - 15)) + sched m (t - 16)
termination_by t
decreasing_by all_goals omega

theorem sched_lo (m : Nat → Wd) {t : Nat} (h : t < 16) : sched m t = m t := by rw [sched, dif_pos h]
theorem sched_hi (m : Nat → Wd) {t : Nat} (h : 16 ≤ t) : sched m t = ss1 (sched m (t - 2)) + sched m (t - 7) + ss0 (sched m (t - 15)) + sched m (t - 16) := by
  rw [sched, dif_neg (by omega)]

def Kc64 : List (BitVec 64) := [
  0x428a2f98d728ae22#64, 0x7137449123ef65cd#64, 0xb5c0fbcfec4d3b2f#64, 0xe9b5dba58189dbbc#64,
  0x3956c25bf348b538#64, 0x59f111f1b605d019#64, 0x923f82a4af194f9b#64, 0xab1c5ed5da6d8118#64,
  0xd807aa98a3030242#64, 0x12835b0145706fbe#64, 0x243185be4ee4b28c#64, 0x550c7dc3d5ffb4e2#64,
  0x72be5d74f27b896f#64, 0x80deb1fe3b1696b1#64, 0x9bdc06a725c71235#64, 0xc19bf174cf692694#64,
  0xe49b69c19ef14ad2#64, 0xefbe4786384f25e3#64, 0x0fc19dc68b8cd5b5#64, 0x240ca1cc77ac9c65#64,
  0x2de92c6f592b0275#64, 0x4a7484aa6ea6e483#64, 0x5cb0a9dcbd41fbd4#64, 0x76f988da831153b5#64,
  0x983e5152ee66dfab#64, 0xa831c66d2db43210#64, 0xb00327c898fb213f#64, 0xbf597fc7beef0ee4#64,
  0xc6e00bf33da88fc2#64, 0xd5a79147930aa725#64, 0x06ca6351e003826f#64, 0x142929670a0e6e70#64,
  0x27b70a8546d22ffc#64, 0x2e1b21385c26c926#64, 0x4d2c6dfc5ac42aed#64, 0x53380d139d95b3df#64,
  0x650a73548baf63de#64, 0x766a0abb3c77b2a8#64, 0x81c2c92e47edaee6#64, 0x92722c851482353b#64,
  0xa2bfe8a14cf10364#64, 0xa81a664bbc423001#64, 0xc24b8b70d0f89791#64, 0xc76c51a30654be30#64,
  0xd192e819d6ef5218#64, 0xd69906245565a910#64, 0xf40e35855771202a#64, 0x106aa07032bbd1b8#64,
  0x19a4c116b8d2d0c8#64, 0x1e376c085141ab53#64, 0x2748774cdf8eeb99#64, 0x34b0bcb5e19b48a8#64,
  0x391c0cb3c5c95a63#64, 0x4ed8aa4ae3418acb#64, 0x5b9cca4f7763e373#64, 0x682e6ff3d6b2b8a3#64,
  0x748f82ee5defb2fc#64, 0x78a5636f43172f60#64, 0x84c87814a1f0ab72#64, 0x8cc702081a6439ec#64,
  0x90befffa23631e28#64, 0xa4506cebde82bde9#64, 0xbef9a3f7b2c67915#64, 0xc67178f2e372532b#64,
  0xca273eceea26619c#64, 0xd186b8c721c0c207#64, 0xeada7dd6cde0eb1e#64, 0xf57d4f7fee6ed178#64,
  0x06f067aa72176fba#64, 0x0a637dc5a2c898a6#64, 0x113f9804bef90dae#64, 0x1b710b35131c471b#64,
  0x28db77f523047d84#64, 0x32caab7b40c72493#64, 0x3c9ebe0a15c9bebc#64, 0x431d67c49c100d4c#64,
  0x4cc5d4becb3e42b6#64, 0x597f299cfc657e2a#64, 0x5fcb6fab3ad6faec#64, 0x6c44198c4a475817#64]
theorem Kc64_len : Kc64.length = 80 := rfl
def Kf (t : Nat) : Wd := Kc64.getD t 0

def stepOf (wd : Nat → Wd) (t : Nat) (s : S8) : S8 :=
  ⟨s.h + bs1 s.e + choose s.e s.f s.g + Kf t + wd t + (bs0 s.a + major s.a s.b s.c), s.a, s.b, s.c, s.d + (s.h + bs1 s.e + choose s.e s.f s.g + Kf t + wd t), s.e, s.f, s.g⟩

def roundsOf (wd : Nat → Wd) (s : S8) : Nat → S8
  | 0 => s
  | t + 1 => stepOf wd t (roundsOf wd s t)

def addS (s t : S8) : S8 := ⟨s.a + t.a, s.b + t.b, s.c + t.c, s.d + t.d, s.e + t.e, s.f + t.f, s.g + t.g, s.h + t.h⟩

def blk (s : S8) (bs : List B8) : S8 := addS s (roundsOf (sched (wordAt bs)) s 80)

def blocks (s : S8) (bs : List B8) : S8 :=
  if h : bs.length < 128 then s else blocks (blk s bs) (bs.drop 128)
termination_by bs.length
decreasing_by simp; omega

theorem blocks_lo (s : S8) {bs : List B8} (h : bs.length < 128) : blocks s bs = s := by rw [blocks, dif_pos h]
theorem blocks_hi (s : S8) {bs : List B8} (h : 128 ≤ bs.length) : blocks s bs = blocks (blk s bs) (bs.drop 128) := by
  rw [blocks, dif_neg (by omega)]
end Go.Proofs.YtggbaffkjfofhaaDoor
