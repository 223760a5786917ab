/-
  The walks of putBE64 and putBE32: the bytes of a number, the highest first.
-/
import Derived.Test.YtekjfplcibnafaaWd
namespace Go.Proofs.Ytekjfplcibnafaa
open Go.RowKit

/-- The 4 bytes. -/
def be32 (V : Nat) : List Value := [Value.int .u8 ((V / 16777216 : Nat) : Int), Value.int .u8 ((V / 65536 % 256 : Nat) : Int), Value.int .u8 ((V / 256 % 256 : Nat) : Int), Value.int .u8 ((V % 256 : Nat) : Int)]
theorem be32_len (V : Nat) : (be32 V).length = 4 := rfl
theorem putBE32_any (g o n c V : Nat) (W : Int) (cur : List Value) (w : World) (hB : Blk w g 5 cur.toArray) (ho : o + 4 ≤ cur.length) (hn : 4 ≤ n) (hW : W = (V : Int)) (hV : V < 4294967296) :
    Calls Try.prog 23 #[.slice (some ⟨g, o, none⟩) n c, .int .u32 W] w fun e w' => e = .returned (.tuple #[]) ∧ Blk w' g 5 (splice cur o (be32 V)).toArray ∧ w.grownBy w' (some g) := by
  subst hW
  have hc : ∀ j, o ≤ j → j < o + 4 → w.cell? ⟨g, j, none⟩ = some (cur.getD j undef) := fun j h1 h2 => by
    rw [hB.cell, List.getElem?_toArray, List.getD_eq_getElem?_getD, List.getElem?_eq_getElem (by omega)]; rfl
  have c0 := hc o (by omega) (by omega)
  have f0 := hB.frozen o
  have c1 := hc (o + 1) (by omega) (by omega)
  have f1 := hB.frozen (o + 1)
  have c2 := hc (o + 2) (by omega) (by omega)
  have f2 := hB.frozen (o + 2)
  have c3 := hc (o + 3) (by omega) (by omega)
  have f3 := hB.frozen (o + 3)
  have hS := Blk.setCells' (be32 V) o w cur hB (by rw [be32_len]; exact ho)
  have hG := grown_setCells' (g := g) (be32 V) o w
  have HS := Lib.hid hS
  have HG := Lib.hid hG
  clear hB hc hS hG
  go_enter Try.func23, Try.ntmps23
  go_wp2
  go_rounds 5
  go_end0
  exact ⟨rfl, HS.out, HG.out⟩

/-- The 8 bytes. -/
def be64 (V : Nat) : List Value := [Value.int .u8 ((V / 72057594037927936 : Nat) : Int), Value.int .u8 ((V / 281474976710656 % 256 : Nat) : Int), Value.int .u8 ((V / 1099511627776 % 256 : Nat) : Int), Value.int .u8 ((V / 4294967296 % 256 : Nat) : Int), Value.int .u8 ((V / 16777216 % 256 : Nat) : Int), Value.int .u8 ((V / 65536 % 256 : Nat) : Int), Value.int .u8 ((V / 256 % 256 : Nat) : Int), Value.int .u8 ((V % 256 : Nat) : Int)]
theorem be64_len (V : Nat) : (be64 V).length = 8 := rfl
set_option maxHeartbeats 400000 in
theorem putBE64_any (g o n c V : Nat) (W : Int) (cur : List Value) (w : World) (hB : Blk w g 5 cur.toArray) (ho : o + 8 ≤ cur.length) (hn : 8 ≤ n) (hW : W = (V : Int)) (hV : V < 18446744073709551616) :
    Calls Try.prog 20 #[.slice (some ⟨g, o, none⟩) n c, .int .u64 W] w fun e w' => e = .returned (.tuple #[]) ∧ Blk w' g 5 (splice cur o (be64 V)).toArray ∧ w.grownBy w' (some g) := by
  subst hW
  have hc : ∀ j, o ≤ j → j < o + 8 → w.cell? ⟨g, j, none⟩ = some (cur.getD j undef) := fun j h1 h2 => by
    rw [hB.cell, List.getElem?_toArray, List.getD_eq_getElem?_getD, List.getElem?_eq_getElem (by omega)]; rfl
  have c0 := hc o (by omega) (by omega)
  have f0 := hB.frozen o
  have c1 := hc (o + 1) (by omega) (by omega)
  have f1 := hB.frozen (o + 1)
  have c2 := hc (o + 2) (by omega) (by omega)
  have f2 := hB.frozen (o + 2)
  have c3 := hc (o + 3) (by omega) (by omega)
  have f3 := hB.frozen (o + 3)
  have c4 := hc (o + 4) (by omega) (by omega)
  have f4 := hB.frozen (o + 4)
  have c5 := hc (o + 5) (by omega) (by omega)
  have f5 := hB.frozen (o + 5)
  have c6 := hc (o + 6) (by omega) (by omega)
  have f6 := hB.frozen (o + 6)
  have c7 := hc (o + 7) (by omega) (by omega)
  have f7 := hB.frozen (o + 7)
  have hS := Blk.setCells' (be64 V) o w cur hB (by rw [be64_len]; exact ho)
  have hG := grown_setCells' (g := g) (be64 V) o w
  have HS := Lib.hid hS
  have HG := Lib.hid hG
  clear hB hc hS hG
  go_enter Try.func20, Try.ntmps20
  go_wp2
  go_rounds 9
  go_end0
  exact ⟨rfl, HS.out, HG.out⟩

end Go.Proofs.Ytekjfplcibnafaa
