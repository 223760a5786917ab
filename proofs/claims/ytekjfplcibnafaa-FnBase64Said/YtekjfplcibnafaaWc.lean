/-
  The walks of the functions on lengths, and of those that lay numbers as bytes.
-/
import Derived.Test.YtekjfplcibnafaaWb
namespace Go.Proofs.Ytekjfplcibnafaa
open Go.RowKit

/-- How many signs n bytes take. -/
def encLen (n : Nat) : Nat := n / 3 * 4 + (n % 3 * 8 + 5) / 6
/-- How many bytes n signs hold. -/
def decLen (n : Nat) : Nat := n / 4 * 3 + n % 4 * 6 / 8

/-- The encoding of base64url lies at block g. -/
def Enc (w : World) (g : Nat) : Prop := Blk w g 46 (encRow 64 (-1))

theorem Enc.blk {w : World} {g : Nat} (h : Enc w g) : Blk w g 46 (encRow 64 (-1)) := h
theorem Enc.pad {w : World} {g : Nat} (h : Enc w g) : w.cell? ⟨g, 320, none⟩ = some (.int .i32 (-1)) := (Blk.cell h 320).trans (encRow_pad _ _)
theorem Enc.strict {w : World} {g : Nat} (h : Enc w g) : w.cell? ⟨g, 321, none⟩ = some (.bool false) := (Blk.cell h 321).trans (encRow_strict _ _)
theorem Enc.enc {w : World} {g : Nat} (h : Enc w g) (i : Nat) (hi : i < 64) : w.cell? ⟨g, i, none⟩ = some (.int .u8 ((sig i).toNat : Int)) := (Blk.cell h i).trans (encRow_enc _ _ _ hi)
theorem Enc.dec {w : World} {g : Nat} (h : Enc w g) (i : Nat) (hi : i < 64) : w.cell? ⟨g, 64 + (sig i).toNat, none⟩ = some (.int .u8 (i : Int)) := by
  have hs := (sig_lt i hi).1
  rw [Blk.cell h, encRow_dec _ _ _ (by omega), decK_sig i hi]
theorem Enc.below {w w' : World} {g : Nat} (h : Enc w g) (hb : Below w.heap.size w w') : Enc w' g := Blk.below h hb (Blk.lt h)

theorem encodedLen_any (g n : Nat) (w : World) (h : Enc w g) (hn : n ≤ 65536) :
    Calls Try.prog 26 #[.pointer (some ⟨g, 0, none⟩), .int .i64 (n : Int)] w fun e w' => e = .returned (.int .i64 (encLen n : Nat)) ∧ w = w' := by
  have hp := h.pad
  clear h
  have he : ((encLen n : Nat) : Int) = (n : Int) / 3 * 4 + ((n : Int) % 3 * 8 + 5) / 6 := by unfold encLen; omega
  have HE := Lib.hid he
  clear he
  go_enter Try.func26, Try.ntmps26
  go_wp2
  go_ret
  exact ⟨by rw [HE.out]; rfl, rfl⟩

theorem encodeLen_any (A : Option Addr) (n c : Nat) (w : World) (hn : n ≤ 65536) :
    Calls Try.prog 24 #[.slice A n c] w fun e w' => e = .returned (.int .i64 (encLen n : Nat)) ∧ Below w.heap.size w w' := by
  go_enter Try.func24, Try.ntmps24
  go_wp2_with fail
  refine (raw_any w).mono ?_
  rintro e w1 ⟨g, rfl, hg, hblk, hbel⟩
  have H := Lib.hid hblk
  clear hblk
  go_wp2_with fail
  refine (encodedLen_any g n w1 H.out hn).mono ?_
  rintro e w2 ⟨rfl, rfl⟩
  go_wp2
  go_ret
  exact ⟨rfl, hbel⟩

theorem decodedLen_any (n : Nat) (w : World) (hn : n ≤ 65536) :
    Calls Try.prog 18 #[.int .i64 (n : Int), .int .i32 (-1)] w fun e w' => e = .returned (.int .i64 (decLen n : Nat)) ∧ w = w' := by
  have he : ((decLen n : Nat) : Int) = (n : Int) / 4 * 3 + (n : Int) % 4 * 6 / 8 := by unfold decLen; omega
  have HE := Lib.hid he
  clear he
  go_enter Try.func18, Try.ntmps18
  go_wp2
  go_ret
  exact ⟨by rw [HE.out]; rfl, rfl⟩

theorem decodedLenOf_any (g n : Nat) (w : World) (h : Enc w g) (hn : n ≤ 65536) :
    Calls Try.prog 15 #[.pointer (some ⟨g, 0, none⟩), .int .i64 (n : Int)] w fun e w' => e = .returned (.int .i64 (decLen n : Nat)) ∧ w = w' := by
  have hp := h.pad
  clear h
  go_enter Try.func15, Try.ntmps15
  go_wp2_with fail
  refine (decodedLen_any n w hn).mono ?_
  rintro e w1 ⟨rfl, rfl⟩
  go_wp2
  go_ret
  exact ⟨rfl, rfl⟩

end Go.Proofs.Ytekjfplcibnafaa
