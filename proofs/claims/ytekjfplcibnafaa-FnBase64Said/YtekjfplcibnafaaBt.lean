/-
  Plain facts on the bits of unsigned numbers: 'or' of numbers that share no bit is their sum; what a mask leaves.
-/
import Derived.Test.YtekjfplcibnafaaMem
import Derived.Laws.BitsAllLaws
namespace Go.Proofs.Ytekjfplcibnafaa

theorem or32 (i : Nat) (a b : Int) (ha : 0 ≤ a) (ha2 : a < 4294967296) (hm : a.toNat % 2 ^ i = 0) (hb : 0 ≤ b) (hb2 : b.toNat < 2 ^ i) (hi : 2 ^ i ≤ 4294967296) : bits .or .u32 a b = a + b := by
  rw [u32_or a b ha ha2 hb (by omega), nat_join i _ _ hm hb2]
  omega
theorem or64 (i : Nat) (a b : Int) (ha : 0 ≤ a) (ha2 : a < 18446744073709551616) (hm : a.toNat % 2 ^ i = 0) (hb : 0 ≤ b) (hb2 : b.toNat < 2 ^ i) (hi : 2 ^ i ≤ 18446744073709551616) : bits .or .u64 a b = a + b := by
  rw [u64_or a b ha ha2 hb (by omega), nat_join i _ _ hm hb2]
  omega
theorem and63 (a : Int) (ha : 0 ≤ a) (ha2 : a < 18446744073709551616) : bits .and .u64 a 63 = a % 64 := by
  rw [u64_and a 63 ha ha2 (by omega) (by omega)]
  show (((a.toNat &&& 63 : Nat)) : Int) = _
  rw [nat_mask6]
  omega

/-- Numbers below 64: 'or' of them is below 64. -/
theorem or8_lt (a b : Nat) (ha : a < 64) (hb : b < 64) : ∃ c, bits .or .u8 (a : Int) (b : Int) = ((c : Nat) : Int) ∧ c < 64 :=
  ⟨a ||| b, u8_or_nat a b (by omega) (by omega), Nat.or_lt_two_pow (n := 6) ha hb⟩

theorem or8_four (n1 n2 n3 n4 : Nat) (h1 : n1 < 64) (h2 : n2 < 64) (h3 : n3 < 64) (h4 : n4 < 64) :
    (bits .or .u8 (bits .or .u8 (bits .or .u8 (n1 : Int) (n2 : Int)) (n3 : Int)) (n4 : Int) == 255) = false := by
  obtain ⟨a, ea, ha⟩ := or8_lt n1 n2 h1 h2
  obtain ⟨b, eb, hb⟩ := or8_lt a n3 ha h3
  obtain ⟨c, ec, hc⟩ := or8_lt b n4 hb h4
  rw [ea, eb, ec]
  exact beq_eq_false_iff_ne.2 (by omega)

theorem or8_eight (n1 n2 n3 n4 n5 n6 n7 n8 : Nat) (h1 : n1 < 64) (h2 : n2 < 64) (h3 : n3 < 64) (h4 : n4 < 64) (h5 : n5 < 64) (h6 : n6 < 64) (h7 : n7 < 64) (h8 : n8 < 64) :
    (bits .or .u8 (bits .or .u8 (bits .or .u8 (bits .or .u8 (bits .or .u8 (bits .or .u8 (bits .or .u8 (n1 : Int) (n2 : Int)) (n3 : Int)) (n4 : Int)) (n5 : Int)) (n6 : Int)) (n7 : Int)) (n8 : Int) == 255) = false := by
  obtain ⟨a, ea, ha⟩ := or8_lt n1 n2 h1 h2
  obtain ⟨b, eb, hb⟩ := or8_lt a n3 ha h3
  obtain ⟨c, ec, hc⟩ := or8_lt b n4 hb h4
  obtain ⟨d, ed, hd⟩ := or8_lt c n5 hc h5
  obtain ⟨e, ee, he⟩ := or8_lt d n6 hd h6
  obtain ⟨f, ef, hf⟩ := or8_lt e n7 he h7
  obtain ⟨g, eg, hg⟩ := or8_lt f n8 hf h8
  rw [ea, eb, ec, ed, ee, ef, eg]
  exact beq_eq_false_iff_ne.2 (by omega)

theorem asm64_1 (n1 n2 : Nat) (h1 : n1 < 64) (h2 : n2 < 64) : bits .or .u64 ((n1 : Int) * 288230376151711744) ((n2 : Int) * 4503599627370496) = (n1 : Int) * 288230376151711744 + (n2 : Int) * 4503599627370496 := or64 58 _ _ (by omega) (by omega) (by omega) (by omega) (by omega) (by decide)
theorem asm64_2 (n1 n2 n3 : Nat) (h1 : n1 < 64) (h2 : n2 < 64) (h3 : n3 < 64) : bits .or .u64 ((n1 : Int) * 288230376151711744 + (n2 : Int) * 4503599627370496) ((n3 : Int) * 70368744177664) = (n1 : Int) * 288230376151711744 + (n2 : Int) * 4503599627370496 + (n3 : Int) * 70368744177664 := or64 52 _ _ (by omega) (by omega) (by omega) (by omega) (by omega) (by decide)
theorem asm64_3 (n1 n2 n3 n4 : Nat) (h1 : n1 < 64) (h2 : n2 < 64) (h3 : n3 < 64) (h4 : n4 < 64) : bits .or .u64 ((n1 : Int) * 288230376151711744 + (n2 : Int) * 4503599627370496 + (n3 : Int) * 70368744177664) ((n4 : Int) * 1099511627776) = (n1 : Int) * 288230376151711744 + (n2 : Int) * 4503599627370496 + (n3 : Int) * 70368744177664 + (n4 : Int) * 1099511627776 := or64 46 _ _ (by omega) (by omega) (by omega) (by omega) (by omega) (by decide)
theorem asm64_4 (n1 n2 n3 n4 n5 : Nat) (h1 : n1 < 64) (h2 : n2 < 64) (h3 : n3 < 64) (h4 : n4 < 64) (h5 : n5 < 64) : bits .or .u64 ((n1 : Int) * 288230376151711744 + (n2 : Int) * 4503599627370496 + (n3 : Int) * 70368744177664 + (n4 : Int) * 1099511627776) ((n5 : Int) * 17179869184) = (n1 : Int) * 288230376151711744 + (n2 : Int) * 4503599627370496 + (n3 : Int) * 70368744177664 + (n4 : Int) * 1099511627776 + (n5 : Int) * 17179869184 := or64 40 _ _ (by omega) (by omega) (by omega) (by omega) (by omega) (by decide)
theorem asm64_5 (n1 n2 n3 n4 n5 n6 : Nat) (h1 : n1 < 64) (h2 : n2 < 64) (h3 : n3 < 64) (h4 : n4 < 64) (h5 : n5 < 64) (h6 : n6 < 64) : bits .or .u64 ((n1 : Int) * 288230376151711744 + (n2 : Int) * 4503599627370496 + (n3 : Int) * 70368744177664 + (n4 : Int) * 1099511627776 + (n5 : Int) * 17179869184) ((n6 : Int) * 268435456) = (n1 : Int) * 288230376151711744 + (n2 : Int) * 4503599627370496 + (n3 : Int) * 70368744177664 + (n4 : Int) * 1099511627776 + (n5 : Int) * 17179869184 + (n6 : Int) * 268435456 := or64 34 _ _ (by omega) (by omega) (by omega) (by omega) (by omega) (by decide)
theorem asm64_6 (n1 n2 n3 n4 n5 n6 n7 : Nat) (h1 : n1 < 64) (h2 : n2 < 64) (h3 : n3 < 64) (h4 : n4 < 64) (h5 : n5 < 64) (h6 : n6 < 64) (h7 : n7 < 64) : bits .or .u64 ((n1 : Int) * 288230376151711744 + (n2 : Int) * 4503599627370496 + (n3 : Int) * 70368744177664 + (n4 : Int) * 1099511627776 + (n5 : Int) * 17179869184 + (n6 : Int) * 268435456) ((n7 : Int) * 4194304) = (n1 : Int) * 288230376151711744 + (n2 : Int) * 4503599627370496 + (n3 : Int) * 70368744177664 + (n4 : Int) * 1099511627776 + (n5 : Int) * 17179869184 + (n6 : Int) * 268435456 + (n7 : Int) * 4194304 := or64 28 _ _ (by omega) (by omega) (by omega) (by omega) (by omega) (by decide)
theorem asm64_7 (n1 n2 n3 n4 n5 n6 n7 n8 : Nat) (h1 : n1 < 64) (h2 : n2 < 64) (h3 : n3 < 64) (h4 : n4 < 64) (h5 : n5 < 64) (h6 : n6 < 64) (h7 : n7 < 64) (h8 : n8 < 64) : bits .or .u64 ((n1 : Int) * 288230376151711744 + (n2 : Int) * 4503599627370496 + (n3 : Int) * 70368744177664 + (n4 : Int) * 1099511627776 + (n5 : Int) * 17179869184 + (n6 : Int) * 268435456 + (n7 : Int) * 4194304) ((n8 : Int) * 65536) = (n1 : Int) * 288230376151711744 + (n2 : Int) * 4503599627370496 + (n3 : Int) * 70368744177664 + (n4 : Int) * 1099511627776 + (n5 : Int) * 17179869184 + (n6 : Int) * 268435456 + (n7 : Int) * 4194304 + (n8 : Int) * 65536 := or64 22 _ _ (by omega) (by omega) (by omega) (by omega) (by omega) (by decide)

theorem dq_1 (x0 x1 : Nat) (h0 : x0 < 64) (h1 : x1 < 64) : bits .or .u64 ((x0 : Int) * 262144) ((x1 : Int) * 4096) = (x0 : Int) * 262144 + (x1 : Int) * 4096 := or64 18 _ _ (by omega) (by omega) (by omega) (by omega) (by omega) (by decide)
theorem dq_2 (x0 x1 x2 : Nat) (h0 : x0 < 64) (h1 : x1 < 64) (h2 : x2 < 64) : bits .or .u64 ((x0 : Int) * 262144 + (x1 : Int) * 4096) ((x2 : Int) * 64) = (x0 : Int) * 262144 + (x1 : Int) * 4096 + (x2 : Int) * 64 := or64 12 _ _ (by omega) (by omega) (by omega) (by omega) (by omega) (by decide)
theorem dq_3 (x0 x1 x2 x3 : Nat) (h0 : x0 < 64) (h1 : x1 < 64) (h2 : x2 < 64) (h3 : x3 < 64) : bits .or .u64 ((x0 : Int) * 262144 + (x1 : Int) * 4096 + (x2 : Int) * 64) (x3 : Int) = (x0 : Int) * 262144 + (x1 : Int) * 4096 + (x2 : Int) * 64 + (x3 : Int) := or64 6 _ _ (by omega) (by omega) (by omega) (by omega) (by omega) (by decide)
theorem dq_z (X : Int) (h : 0 ≤ X) (h2 : X < 16777216) : bits .or .u64 X 0 = X := by rw [or64 0 X 0 h (by omega) (by omega) (by omega) (by omega) (by decide)]; omega

theorem sum8 (x0 x1 x2 x3 x4 x5 x6 x7 : Nat) : (x0 : Int) * 288230376151711744 + (x1 : Int) * 4503599627370496 + (x2 : Int) * 70368744177664 + (x3 : Int) * 1099511627776 + (x4 : Int) * 17179869184 + (x5 : Int) * 268435456 + (x6 : Int) * 4194304 + (x7 : Int) * 65536 = ((x0 * 288230376151711744 + x1 * 4503599627370496 + x2 * 70368744177664 + x3 * 1099511627776 + x4 * 17179869184 + x5 * 268435456 + x6 * 4194304 + x7 * 65536 : Nat) : Int) := by omega
theorem sum8_lt (x0 x1 x2 x3 x4 x5 x6 x7 : Nat) (h0 : x0 < 64) (h1 : x1 < 64) (h2 : x2 < 64) (h3 : x3 < 64) (h4 : x4 < 64) (h5 : x5 < 64) (h6 : x6 < 64) (h7 : x7 < 64) : x0 * 288230376151711744 + x1 * 4503599627370496 + x2 * 70368744177664 + x3 * 1099511627776 + x4 * 17179869184 + x5 * 268435456 + x6 * 4194304 + x7 * 65536 < 18446744073709551616 := by omega
theorem sum4 (x0 x1 x2 x3 : Nat) : (x0 : Int) * 67108864 + (x1 : Int) * 1048576 + (x2 : Int) * 16384 + (x3 : Int) * 256 = ((x0 * 67108864 + x1 * 1048576 + x2 * 16384 + x3 * 256 : Nat) : Int) := by omega
theorem sum4_lt (x0 x1 x2 x3 : Nat) (h0 : x0 < 64) (h1 : x1 < 64) (h2 : x2 < 64) (h3 : x3 < 64) : x0 * 67108864 + x1 * 1048576 + x2 * 16384 + x3 * 256 < 4294967296 := by omega

theorem ev_1 (a b : Nat) (ha : a < 256) (hb : b < 256) : bits .or .u64 ((a : Int) * 65536) ((b : Int) * 256) = (a : Int) * 65536 + (b : Int) * 256 := or64 16 _ _ (by omega) (by omega) (by omega) (by omega) (by omega) (by decide)
theorem ev_2 (a b c : Nat) (ha : a < 256) (hb : b < 256) (hc : c < 256) : bits .or .u64 ((a : Int) * 65536 + (b : Int) * 256) (c : Int) = (a : Int) * 65536 + (b : Int) * 256 + (c : Int) := or64 8 _ _ (by omega) (by omega) (by omega) (by omega) (by omega) (by decide)
theorem ei_0 (V : Int) (n : Nat) (h : 0 ≤ V) (h2 : V < 16777216) (hn : (n : Int) = V / 262144 % 64) : bits .and .u64 (V / 262144) 63 = (n : Int) := by rw [and63 _ (by omega) (by omega), hn]
theorem ei_1 (V : Int) (n : Nat) (h : 0 ≤ V) (h2 : V < 16777216) (hn : (n : Int) = V / 4096 % 64) : bits .and .u64 (V / 4096) 63 = (n : Int) := by rw [and63 _ (by omega) (by omega), hn]
theorem ei_2 (V : Int) (n : Nat) (h : 0 ≤ V) (h2 : V < 16777216) (hn : (n : Int) = V / 64 % 64) : bits .and .u64 (V / 64) 63 = (n : Int) := by rw [and63 _ (by omega) (by omega), hn]
theorem ei_3 (V : Int) (n : Nat) (h : 0 ≤ V) (h2 : V < 16777216) (hn : (n : Int) = V % 64) : bits .and .u64 V 63 = (n : Int) := by rw [and63 _ (by omega) (by omega), hn]

end Go.Proofs.Ytekjfplcibnafaa
