/-
  Plain facts on base64url: its 64 signs, what each stands for, the table of an encoding as cells.
-/
import Derived.Test.YtekjfplcibnafaaMem
namespace Go.Proofs.Ytekjfplcibnafaa

/-- The 64 signs. -/
def sigs : List UInt8 := [65, 66, 67, 68, 69, 70, 71, 72, 73, 74, 75, 76, 77, 78, 79, 80, 81, 82, 83, 84, 85, 86, 87, 88, 89, 90, 97, 98, 99, 100, 101, 102, 103, 104, 105, 106, 107, 108, 109, 110, 111, 112, 113, 114, 115, 116, 117, 118, 119, 120, 121, 122, 48, 49, 50, 51, 52, 53, 54, 55, 56, 57, 45, 95]
theorem sigs_len : sigs.length = 64 := rfl
/-- The sign of a number below 64. -/
def sig (i : Nat) : UInt8 := sigs.getD i 0
/-- What a byte stands for, where the first k signs are laid. -/
def decK (k c : Nat) : UInt8 := if sigs.idxOf (UInt8.ofNat c) < k then UInt8.ofNat (sigs.idxOf (UInt8.ofNat c)) else 255

/-- An encoding's cells, where the first k signs are laid. -/
def encRow (k : Nat) (pad : Int) : Array Value := (bvs sigs ++ ((List.range 256).map (fun c => bv (decK k c)) ++ [Value.int .i32 pad, Value.bool false])).toArray

theorem encRow_size (k : Nat) (pad : Int) : (encRow k pad).size = 322 := by
  simp [encRow, bvs, sigs_len]
theorem encRow_enc (k : Nat) (pad : Int) (i : Nat) (h : i < 64) : (encRow k pad)[i]? = some (.int .u8 ((sig i).toNat : Int)) := by
  rw [encRow, List.getElem?_toArray, List.getElem?_append_left (by rw [bvs_len, sigs_len]; exact h), bvs_get _ _ (by rw [sigs_len]; exact h), sig, List.getD_eq_getElem?_getD, List.getElem?_eq_getElem (by rw [sigs_len]; exact h)]
  rfl
theorem encRow_dec (k : Nat) (pad : Int) (c : Nat) (h : c < 256) : (encRow k pad)[64 + c]? = some (.int .u8 ((decK k c).toNat : Int)) := by
  rw [encRow, List.getElem?_toArray, List.getElem?_append_right (by rw [bvs_len, sigs_len]; omega), bvs_len, sigs_len, Nat.add_sub_cancel_left, List.getElem?_append_left (by simpa using h), List.getElem?_map, List.getElem?_range h]
  rfl
theorem encRow_pad (k : Nat) (pad : Int) : (encRow k pad)[320]? = some (.int .i32 pad) := by
  rw [encRow, List.getElem?_toArray, List.getElem?_append_right (by rw [bvs_len, sigs_len]; omega), bvs_len, sigs_len, List.getElem?_append_right (by simp)]
  simp
theorem encRow_strict (k : Nat) (pad : Int) : (encRow k pad)[321]? = some (.bool false) := by
  rw [encRow, List.getElem?_toArray, List.getElem?_append_right (by rw [bvs_len, sigs_len]; omega), bvs_len, sigs_len, List.getElem?_append_right (by simp)]
  simp

theorem sigs_idx : ∀ i, i < 64 → sigs.idxOf (UInt8.ofNat (sig i).toNat) = i := by decide
theorem sig_lt : ∀ i, i < 64 → (sig i).toNat < 128 ∧ (sig i).toNat ≠ 10 ∧ (sig i).toNat ≠ 13 := by decide
theorem decK_sig (i : Nat) (h : i < 64) : (decK 64 (sig i).toNat).toNat = i := by
  rw [decK, sigs_idx i h, if_pos h]; simp; omega
theorem decK_free (i : Nat) (h : i < 64) : (decK i (sig i).toNat).toNat = 255 := by
  rw [decK, sigs_idx i h, if_neg (by omega)]; rfl

theorem decK_succ (k c : Nat) (hk : k < 64) (hc : c < 256) : decK (k + 1) c = if c = (sig k).toNat then UInt8.ofNat k else decK k c := by
  by_cases h : c = (sig k).toNat
  · rw [if_pos h, h, decK, sigs_idx k hk, if_pos (by omega)]
  · rw [if_neg h, decK, decK]
    have hne : sigs.idxOf (UInt8.ofNat c) ≠ k := by
      intro he
      apply h
      have hlt : sigs.idxOf (UInt8.ofNat c) < sigs.length := by rw [he, sigs_len]; exact hk
      have h1 := List.getElem_idxOf hlt
      have h2 : sig k = UInt8.ofNat c := by
        rw [← h1, sig, List.getD_eq_getElem?_getD, ← he, List.getElem?_eq_getElem hlt]; rfl
      rw [h2]; simp; omega
    by_cases h2 : sigs.idxOf (UInt8.ofNat c) < k
    · rw [if_pos h2, if_pos (by omega)]
    · rw [if_neg h2, if_neg (by omega)]

theorem encRow_set (k : Nat) (pad : Int) (hk : k < 64) : (encRow k pad).setIfInBounds (64 + (sig k).toNat) (.int .u8 (k : Int)) = encRow (k + 1) pad := by
  have hs := (sig_lt k hk).1
  apply Array.ext_getElem?
  intro i
  rw [Array.getElem?_setIfInBounds]
  by_cases h1 : 64 + (sig k).toNat = i
  · subst h1
    rw [if_pos rfl, if_pos (by rw [encRow_size]; omega), encRow_dec _ _ _ (by omega), decK_succ k _ hk (by omega), if_pos rfl]
    simp; omega
  · rw [if_neg h1]
    rcases Nat.lt_or_ge i 64 with h2 | h2
    · rw [encRow_enc _ _ _ h2, encRow_enc _ _ _ h2]
    · rcases Nat.lt_or_ge i 320 with h3 | h3
      · obtain ⟨c, rfl⟩ : ∃ c, i = 64 + c := ⟨i - 64, by omega⟩
        rw [encRow_dec _ _ _ (by omega), encRow_dec _ _ _ (by omega), decK_succ k c hk (by omega), if_neg (by omega)]
      · rcases Nat.lt_or_ge i 322 with h4 | h4
        · rcases (show i = 320 ∨ i = 321 by omega) with rfl | rfl
          · rw [encRow_pad, encRow_pad]
          · rw [encRow_strict, encRow_strict]
        · rw [Array.getElem?_eq_none (by rw [encRow_size]; exact h4), Array.getElem?_eq_none (by rw [encRow_size]; exact h4)]

theorem encRow_setpad (k : Nat) (p q : Int) : (encRow k p).setIfInBounds 320 (.int .i32 q) = encRow k q := by
  apply Array.ext_getElem?
  intro i
  rw [Array.getElem?_setIfInBounds]
  by_cases h1 : 320 = i
  · subst h1; rw [if_pos rfl, if_pos (by rw [encRow_size]; omega), encRow_pad]
  · rw [if_neg h1]
    rcases Nat.lt_or_ge i 64 with h2 | h2
    · rw [encRow_enc _ _ _ h2, encRow_enc _ _ _ h2]
    · rcases Nat.lt_or_ge i 320 with h3 | h3
      · obtain ⟨c, rfl⟩ : ∃ c, i = 64 + c := ⟨i - 64, by omega⟩
        rw [encRow_dec _ _ _ (by omega), encRow_dec _ _ _ (by omega)]
      · rcases Nat.lt_or_ge i 322 with h4 | h4
        · obtain rfl : i = 321 := by omega
          rw [encRow_strict, encRow_strict]
        · rw [Array.getElem?_eq_none (by rw [encRow_size]; exact h4), Array.getElem?_eq_none (by rw [encRow_size]; exact h4)]

end Go.Proofs.Ytekjfplcibnafaa
