/-
  The walks of assemble64 and assemble32.
-/
import Derived.Test.YtekjfplcibnafaaWc
import Derived.Test.YtekjfplcibnafaaBt
namespace Go.Proofs.Ytekjfplcibnafaa
open Go.RowKit

theorem assemble32_any (n1 n2 n3 n4 : Nat) (w : World) (h1 : n1 < 64) (h2 : n2 < 64) (h3 : n3 < 64) (h4 : n4 < 64) :
    Calls Try.prog 22 #[.int .u8 (n1 : Int), .int .u8 (n2 : Int), .int .u8 (n3 : Int), .int .u8 (n4 : Int)] w fun e w' => e = .returned (.tuple #[.int .u32 ((n1 * 67108864 + n2 * 1048576 + n3 * 16384 + n4 * 256 : Nat) : Int), .bool true]) ∧ w = w' := by
  have hno := or8_four n1 n2 n3 n4 h1 h2 h3 h4
  have e1 : bits .or .u32 ((n1 : Int) * 67108864) ((n2 : Int) * 1048576) = (n1 : Int) * 67108864 + (n2 : Int) * 1048576 := or32 26 _ _ (by omega) (by omega) (by omega) (by omega) (by omega) (by decide)
  have e2 : bits .or .u32 ((n1 : Int) * 67108864 + (n2 : Int) * 1048576) ((n3 : Int) * 16384) = (n1 : Int) * 67108864 + (n2 : Int) * 1048576 + (n3 : Int) * 16384 := or32 20 _ _ (by omega) (by omega) (by omega) (by omega) (by omega) (by decide)
  have e3 : bits .or .u32 ((n1 : Int) * 67108864 + (n2 : Int) * 1048576 + (n3 : Int) * 16384) ((n4 : Int) * 256) = (n1 : Int) * 67108864 + (n2 : Int) * 1048576 + (n3 : Int) * 16384 + (n4 : Int) * 256 := or32 14 _ _ (by omega) (by omega) (by omega) (by omega) (by omega) (by decide)
  have hs : ((n1 * 67108864 + n2 * 1048576 + n3 * 16384 + n4 * 256 : Nat) : Int) = (n1 : Int) * 67108864 + (n2 : Int) * 1048576 + (n3 : Int) * 16384 + (n4 : Int) * 256 := by omega
  have HS := Lib.hid hs
  clear hs
  go_enter Try.func22, Try.ntmps22
  go_wp2
  go_ret2
  exact ⟨by rw [HS.out]; rfl, rfl⟩

theorem assemble64_any (n1 n2 n3 n4 n5 n6 n7 n8 : Nat) (w : World) (h1 : n1 < 64) (h2 : n2 < 64) (h3 : n3 < 64) (h4 : n4 < 64) (h5 : n5 < 64) (h6 : n6 < 64) (h7 : n7 < 64) (h8 : n8 < 64) :
    Calls Try.prog 19 #[.int .u8 (n1 : Int), .int .u8 (n2 : Int), .int .u8 (n3 : Int), .int .u8 (n4 : Int), .int .u8 (n5 : Int), .int .u8 (n6 : Int), .int .u8 (n7 : Int), .int .u8 (n8 : Int)] w fun e w' => e = .returned (.tuple #[.int .u64 ((n1 * 288230376151711744 + n2 * 4503599627370496 + n3 * 70368744177664 + n4 * 1099511627776 + n5 * 17179869184 + n6 * 268435456 + n7 * 4194304 + n8 * 65536 : Nat) : Int), .bool true]) ∧ w = w' := by
  have hno := or8_eight n1 n2 n3 n4 n5 n6 n7 n8 h1 h2 h3 h4 h5 h6 h7 h8
  have e1 := asm64_1 n1 n2 h1 h2
  have e2 := asm64_2 n1 n2 n3 h1 h2 h3
  have e3 := asm64_3 n1 n2 n3 n4 h1 h2 h3 h4
  have e4 := asm64_4 n1 n2 n3 n4 n5 h1 h2 h3 h4 h5
  have e5 := asm64_5 n1 n2 n3 n4 n5 n6 h1 h2 h3 h4 h5 h6
  have e6 := asm64_6 n1 n2 n3 n4 n5 n6 n7 h1 h2 h3 h4 h5 h6 h7
  have e7 := asm64_7 n1 n2 n3 n4 n5 n6 n7 n8 h1 h2 h3 h4 h5 h6 h7 h8
  have hs : ((n1 * 288230376151711744 + n2 * 4503599627370496 + n3 * 70368744177664 + n4 * 1099511627776 + n5 * 17179869184 + n6 * 268435456 + n7 * 4194304 + n8 * 65536 : Nat) : Int) = (n1 : Int) * 288230376151711744 + (n2 : Int) * 4503599627370496 + (n3 : Int) * 70368744177664 + (n4 : Int) * 1099511627776 + (n5 : Int) * 17179869184 + (n6 : Int) * 268435456 + (n7 : Int) * 4194304 + (n8 : Int) * 65536 := by omega
  have HS := Lib.hid hs
  clear hs
  go_enter Try.func19, Try.ntmps19
  go_wp2
  go_ret2
  exact ⟨by rw [HS.out]; rfl, rfl⟩

end Go.Proofs.Ytekjfplcibnafaa
