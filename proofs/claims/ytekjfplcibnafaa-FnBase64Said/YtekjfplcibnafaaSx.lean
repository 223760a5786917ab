/-
  Plain facts: bytes as numbers of six bits, and back. No program in sight.
-/
import Derived.Test.YtekjfplcibnafaaWf
namespace Go.Proofs.Ytekjfplcibnafaa

/-- Byte i, 0 behind the end. -/
def by_ (l : List UInt8) (i : Nat) : Nat := (l.getD i 0).toNat
theorem by_lt (l : List UInt8) (i : Nat) : by_ l i < 256 := (l.getD i 0).toNat_lt
theorem by_end (l : List UInt8) (i : Nat) (h : l.length ≤ i) : by_ l i = 0 := by
  rw [by_, List.getD_eq_getElem?_getD, List.getElem?_eq_none h]; rfl

/-- The number of six bits at place i. -/
def sx (l : List UInt8) (i : Nat) : Nat :=
  if i % 4 = 0 then by_ l (3 * (i / 4)) / 4
  else if i % 4 = 1 then by_ l (3 * (i / 4)) % 4 * 16 + by_ l (3 * (i / 4) + 1) / 16
  else if i % 4 = 2 then by_ l (3 * (i / 4) + 1) % 16 * 4 + by_ l (3 * (i / 4) + 2) / 64
  else by_ l (3 * (i / 4) + 2) % 64

theorem sx_0 (l : List UInt8) (m : Nat) : sx l (4 * m) = by_ l (3 * m) / 4 := by
  rw [sx, show 4 * m / 4 = m by omega, if_pos (by omega)]
theorem sx_1 (l : List UInt8) (m : Nat) : sx l (4 * m + 1) = by_ l (3 * m) % 4 * 16 + by_ l (3 * m + 1) / 16 := by
  rw [sx, show (4 * m + 1) / 4 = m by omega, if_neg (by omega), if_pos (by omega)]
theorem sx_2 (l : List UInt8) (m : Nat) : sx l (4 * m + 2) = by_ l (3 * m + 1) % 16 * 4 + by_ l (3 * m + 2) / 64 := by
  rw [sx, show (4 * m + 2) / 4 = m by omega, if_neg (by omega), if_neg (by omega), if_pos (by omega)]
theorem sx_3 (l : List UInt8) (m : Nat) : sx l (4 * m + 3) = by_ l (3 * m + 2) % 64 := by
  rw [sx, show (4 * m + 3) / 4 = m by omega, if_neg (by omega), if_neg (by omega), if_neg (by omega)]
theorem sx_lt (l : List UInt8) (i : Nat) : sx l i < 64 := by
  have h0 := by_lt l (3 * (i / 4))
  have h1 := by_lt l (3 * (i / 4) + 1)
  have h2 := by_lt l (3 * (i / 4) + 2)
  rw [sx]
  split
  · omega
  · split
    · omega
    · split
      · omega
      · omega

/-- Bytes in signs. -/
def enc (l : List UInt8) : List UInt8 := (List.range (encLen l.length)).map fun i => sig (sx l i)
theorem enc_len (l : List UInt8) : (enc l).length = encLen l.length := by simp [enc]
theorem enc_get (l : List UInt8) (i : Nat) (h : i < encLen l.length) : (enc l).getD i 0 = sig (sx l i) := by
  rw [List.getD_eq_getElem?_getD, enc, List.getElem?_map, List.getElem?_range h]; rfl

theorem dec_encLen (n : Nat) : decLen (encLen n) = n := by unfold decLen encLen; omega

theorem bvs_at (l : List UInt8) (n : Nat) (h : n < l.length) : (bvs l).drop n = Value.int .u8 ((by_ l n : Nat) : Int) :: (bvs l).drop (n + 1) := by
  rw [List.drop_eq_getElem_cons (by rw [bvs_len]; exact h)]
  congr 1
  simp [bvs, bv, by_, h]

theorem take_splice {α : Type} (cur vs L : List α) (n k : Nat) (hc : cur.take n = L.take n) (hn : n ≤ cur.length) (hv : vs.take k = (L.drop n).take k) (hk : k ≤ vs.length) : (splice cur n vs).take (n + k) = L.take (n + k) := by
  unfold splice
  have h1 : (cur.take n).length = n := by rw [List.length_take]; omega
  rw [List.take_append, h1, List.take_of_length_le (by omega), Nat.add_sub_cancel_left, List.take_append_of_le_length hk, hv, hc, ← List.take_add]

/-- Six bytes out of eight numbers of six bits. -/
theorem be64_bytes (l : List UInt8) (m n : Nat) (hn : n = 3 * m) (h : n + 6 ≤ l.length) :
    (be64 (sx l (4 * m) * 288230376151711744 + sx l (4 * m + 1) * 4503599627370496 + sx l (4 * m + 2) * 70368744177664 + sx l (4 * m + 3) * 1099511627776 + sx l (4 * m + 4) * 17179869184 + sx l (4 * m + 5) * 268435456 + sx l (4 * m + 6) * 4194304 + sx l (4 * m + 7) * 65536)).take 6 = ((bvs l).drop n).take 6 := by
  subst hn
  have e4 : sx l (4 * m + 4) = by_ l (3 * m + 3) / 4 := sx_0 l (m + 1)
  have e5 : sx l (4 * m + 5) = by_ l (3 * m + 3) % 4 * 16 + by_ l (3 * m + 4) / 16 := sx_1 l (m + 1)
  have e6 : sx l (4 * m + 6) = by_ l (3 * m + 4) % 16 * 4 + by_ l (3 * m + 5) / 64 := sx_2 l (m + 1)
  have e7 : sx l (4 * m + 7) = by_ l (3 * m + 5) % 64 := sx_3 l (m + 1)
  rw [sx_0, sx_1, sx_2, sx_3, e4, e5, e6, e7]
  have b0 := by_lt l (3 * m)
  have b1 := by_lt l (3 * m + 1)
  have b2 := by_lt l (3 * m + 2)
  have b3 := by_lt l (3 * m + 3)
  have b4 := by_lt l (3 * m + 4)
  have b5 := by_lt l (3 * m + 5)
  rw [bvs_at l (3 * m) (by omega), bvs_at l (3 * m + 1) (by omega), bvs_at l (3 * m + 1 + 1) (by omega), bvs_at l (3 * m + 1 + 1 + 1) (by omega), bvs_at l (3 * m + 1 + 1 + 1 + 1) (by omega), bvs_at l (3 * m + 1 + 1 + 1 + 1 + 1) (by omega)]
  simp only [Nat.add_assoc, Nat.reduceAdd]
  generalize by_ l (3 * m) = a at *
  generalize by_ l (3 * m + 1) = b at *
  generalize by_ l (3 * m + 2) = c at *
  generalize by_ l (3 * m + 3) = d at *
  generalize by_ l (3 * m + 4) = e at *
  generalize by_ l (3 * m + 5) = f at *
  clear e4 e5 e6 e7 h
  have hV : a / 4 * 288230376151711744 + ((a % 4 * 16 + b / 16) * 4503599627370496 + ((b % 16 * 4 + c / 64) * 70368744177664 + (c % 64 * 1099511627776 + (d / 4 * 17179869184 + ((d % 4 * 16 + e / 16) * 268435456 + ((e % 16 * 4 + f / 64) * 4194304 + f % 64 * 65536)))))) = a * 72057594037927936 + b * 281474976710656 + c * 1099511627776 + d * 4294967296 + e * 16777216 + f * 65536 := by omega
  rw [hV]
  simp only [be64, List.take_succ_cons, List.take_zero]
  have g0 : (a * 72057594037927936 + b * 281474976710656 + c * 1099511627776 + d * 4294967296 + e * 16777216 + f * 65536) / 72057594037927936 = a := by omega
  have g1 : (a * 72057594037927936 + b * 281474976710656 + c * 1099511627776 + d * 4294967296 + e * 16777216 + f * 65536) / 281474976710656 % 256 = b := by omega
  have g2 : (a * 72057594037927936 + b * 281474976710656 + c * 1099511627776 + d * 4294967296 + e * 16777216 + f * 65536) / 1099511627776 % 256 = c := by omega
  have g3 : (a * 72057594037927936 + b * 281474976710656 + c * 1099511627776 + d * 4294967296 + e * 16777216 + f * 65536) / 4294967296 % 256 = d := by omega
  have g4 : (a * 72057594037927936 + b * 281474976710656 + c * 1099511627776 + d * 4294967296 + e * 16777216 + f * 65536) / 16777216 % 256 = e := by omega
  have g5 : (a * 72057594037927936 + b * 281474976710656 + c * 1099511627776 + d * 4294967296 + e * 16777216 + f * 65536) / 65536 % 256 = f := by omega
  rw [g0, g1, g2, g3, g4, g5]

/-- Three bytes out of four numbers of six bits. -/
theorem be32_bytes (l : List UInt8) (m n : Nat) (hn : n = 3 * m) (h : n + 3 ≤ l.length) :
    (be32 (sx l (4 * m) * 67108864 + sx l (4 * m + 1) * 1048576 + sx l (4 * m + 2) * 16384 + sx l (4 * m + 3) * 256)).take 3 = ((bvs l).drop n).take 3 := by
  subst hn
  rw [sx_0, sx_1, sx_2, sx_3]
  have b0 := by_lt l (3 * m)
  have b1 := by_lt l (3 * m + 1)
  have b2 := by_lt l (3 * m + 2)
  rw [bvs_at l (3 * m) (by omega), bvs_at l (3 * m + 1) (by omega), bvs_at l (3 * m + 1 + 1) (by omega)]
  simp only [Nat.add_assoc, Nat.reduceAdd]
  generalize by_ l (3 * m) = a at *
  generalize by_ l (3 * m + 1) = b at *
  generalize by_ l (3 * m + 2) = c at *
  clear h
  have hV : a / 4 * 67108864 + ((a % 4 * 16 + b / 16) * 1048576 + ((b % 16 * 4 + c / 64) * 16384 + c % 64 * 256)) = a * 16777216 + b * 65536 + c * 256 := by omega
  rw [hV]
  simp only [be32, List.take_succ_cons, List.take_zero]
  have g0 : (a * 16777216 + b * 65536 + c * 256) / 16777216 = a := by omega
  have g1 : (a * 16777216 + b * 65536 + c * 256) / 65536 % 256 = b := by omega
  have g2 : (a * 16777216 + b * 65536 + c * 256) / 256 % 256 = c := by omega
  rw [g0, g1, g2]

/-- What decodeQuantum writes, where four, three or two signs are left. -/
theorem dq_bytes4 (l : List UInt8) (m n : Nat) (hn : n = 3 * m) (h : n + 3 ≤ l.length) :
    (dq3 (sx l (4 * m) * 262144 + sx l (4 * m + 1) * 4096 + sx l (4 * m + 2) * 64 + sx l (4 * m + 3))).take 3 = ((bvs l).drop n).take 3 := by
  subst hn
  rw [sx_0, sx_1, sx_2, sx_3]
  have b0 := by_lt l (3 * m)
  have b1 := by_lt l (3 * m + 1)
  have b2 := by_lt l (3 * m + 2)
  rw [bvs_at l (3 * m) (by omega), bvs_at l (3 * m + 1) (by omega), bvs_at l (3 * m + 1 + 1) (by omega)]
  simp only [Nat.add_assoc, Nat.reduceAdd]
  generalize by_ l (3 * m) = a at *
  generalize by_ l (3 * m + 1) = b at *
  generalize by_ l (3 * m + 2) = c at *
  clear h
  have hV : a / 4 * 262144 + ((a % 4 * 16 + b / 16) * 4096 + ((b % 16 * 4 + c / 64) * 64 + c % 64)) = a * 65536 + b * 256 + c := by omega
  rw [hV]
  simp only [dq3, List.take_succ_cons, List.take_zero]
  have g0 : (a * 65536 + b * 256 + c) / 65536 = a := by omega
  have g1 : (a * 65536 + b * 256 + c) / 256 % 256 = b := by omega
  have g2 : (a * 65536 + b * 256 + c) % 256 = c := by omega
  rw [g0, g1, g2]
theorem dq_bytes3 (l : List UInt8) (m n : Nat) (hn : n = 3 * m) (h : n + 2 = l.length) :
    (dq3 (sx l (4 * m) * 262144 + sx l (4 * m + 1) * 4096 + sx l (4 * m + 2) * 64)).take 2 = ((bvs l).drop n).take 2 := by
  subst hn
  have hc := by_end l (3 * m + 2) (by omega)
  rw [sx_0, sx_1, sx_2, hc]
  have b0 := by_lt l (3 * m)
  have b1 := by_lt l (3 * m + 1)
  rw [bvs_at l (3 * m) (by omega), bvs_at l (3 * m + 1) (by omega)]
  generalize by_ l (3 * m) = a at *
  generalize by_ l (3 * m + 1) = b at *
  clear h hc
  have hV : a / 4 * 262144 + (a % 4 * 16 + b / 16) * 4096 + (b % 16 * 4 + 0 / 64) * 64 = a * 65536 + b * 256 := by omega
  rw [hV]
  simp only [dq3, List.take_succ_cons, List.take_zero]
  have g0 : (a * 65536 + b * 256) / 65536 = a := by omega
  have g1 : (a * 65536 + b * 256) / 256 % 256 = b := by omega
  rw [g0, g1]
theorem dq_bytes2 (l : List UInt8) (m n : Nat) (hn : n = 3 * m) (h : n + 1 = l.length) :
    (dq3 (sx l (4 * m) * 262144 + sx l (4 * m + 1) * 4096)).take 1 = ((bvs l).drop n).take 1 := by
  subst hn
  have hc := by_end l (3 * m + 1) (by omega)
  rw [sx_0, sx_1, hc]
  have b0 := by_lt l (3 * m)
  rw [bvs_at l (3 * m) (by omega)]
  generalize by_ l (3 * m) = a at *
  clear h hc
  have hV : a / 4 * 262144 + (a % 4 * 16 + 0 / 16) * 4096 = a * 65536 := by omega
  rw [hV]
  simp only [dq3, List.take_succ_cons, List.take_zero]
  have g0 : a * 65536 / 65536 = a := by omega
  rw [g0]

end Go.Proofs.Ytekjfplcibnafaa
