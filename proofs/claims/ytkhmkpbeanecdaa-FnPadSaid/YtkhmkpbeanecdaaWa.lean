/-
  The walks of the small functions: same, Clone, few, filling, errors.New. Each says what the function returns and that what was in memory stays.
-/
import Derived.Test.YtkhmkpbeanecdaaRows
import Derived.Test.YtkhmkpbeanecdaaMem
import Derived.Outline
import Derived.Handy
namespace Go.Proofs.Ytkhmkpbeanecdaa
open Go.RowKit

theorem info5 : (Try.prog.info? 5).map (fun i => (i.zero, i.size, i.bytes)) = some (some (.int .u8 0), 1, 1) := by kernel_rfl
theorem info22 : (Try.prog.info? 22).map (fun i => (i.zero, i.size, i.bytes)) = some (some (.slice none 0 0), 1, 24) := by kernel_rfl

theorem same_any (A C : Option Addr) (n c m d : Nat) (l k : List UInt8) (w : World) (hn : n = l.length) (hm : m = k.length) (ha : Reads w A (bvs l)) (hc : Reads w C (bvs k)) :
    Calls Try.prog 8 #[.slice A n c, .slice C m d] w fun e w' => e = .returned (.bool (l == k)) ∧ w = w' := by
  subst hn hm
  have k1 := run_bytes_str (P := Try.prog) w 22 5 9 Try.underlying22 Try.underlying5 Try.underlying9 A l.length c l rfl ha
  have k2 := run_bytes_str (P := Try.prog) w 22 5 9 Try.underlying22 Try.underlying5 Try.underlying9 C k.length d k rfl hc
  clear ha hc
  go_enter Try.func8, Try.ntmps8
  go_wp2
  go_ret
  exact ⟨rfl, rfl⟩

theorem clone_any (A : Option Addr) (n c : Nat) (l : List UInt8) (w : World) (hn : n = l.length) (ha : Reads w A (bvs l)) (hb : n ≤ 1048576) :
    Calls Try.prog 12 #[.slice A n c] w fun e w' => ∃ v', e = .returned v' ∧ w'.ownsRow w.heap.size 5 1 v' n (bvs l) ∧ Below w.heap.size w w' := by
  obtain ⟨i0, hi0, hz0, hz1, hz2⟩ := info_parts info5
  subst hn
  rcases A with _ | ad
  · have hl : l = [] := by
      rcases l with _ | ⟨x, r⟩
      · rfl
      · obtain ⟨_, h, _⟩ := ha (by simp [bvs])
        cases h
    subst hl
    have hk : (binOp .eql 22 (.slice none 0 c) (.slice none 0 0)).run Try.prog w = .ok (.bool true) w := Lib.run_eql_slice_nil (P := Try.prog) w 22 5 none _ c _ _ Try.underlying22
    go_enter Try.func12, Try.ntmps12
    go_wp2
    go_ret
    exact ⟨_, rfl, World.ownsRow_nil _ _ _ _, Below.refl _ _⟩
  · have hk : (binOp .eql 22 (.slice (some ad) l.length c) (.slice none 0 0)).run Try.prog w = .ok (.bool false) w := Lib.run_eql_slice_nil (P := Try.prog) w 22 5 (some ad) _ c _ _ Try.underlying22
    have hown : (w.alloc (.cells #[] 5)).ownsRow w.heap.size 5 1 (.slice (some ⟨w.heap.size, 0, none⟩) 0 0) 0 [] := World.ownsRow_made w #[] 0 (Nat.le_refl _) (by decide) rfl
    have ha' := ha.alloc (.cells #[] 5)
    go_enter Try.func12, Try.ntmps12
    go_wp2_with (at_builtin; refine wpList_append_any _ rfl (.tmp 5) (.tmp 6) 22 rfl w.heap.size 5 i0 _ 1 Try.underlying22 hi0 hz0 hz1 hz2 rfl (.slice (some ⟨w.heap.size, 0, none⟩) 0 0) 0 [] rfl hown (some ad) l.length c (bvs l) rfl (bvs_len l).symm ha' (bvs_one l) (by simp only [maxLen]; omega) (by omega) (by simp) ?_; intro v1 w1 hown1 hg1 _)
    go_ret
    refine ⟨_, rfl, by simpa using hown1, ?_⟩
    exact ((Below.refl _ _).alloc (Nat.le_refl _) _).grown hg1 (by simp) (fun k hk => by simp [Value.ownBlock] at hk; omega)

theorem few_one (ad : Addr) (A : Option Addr) (n c : Nat) (w : World) (hc : w.cell? ad = some (.slice A n c)) (hn : n ≤ 2147483647) :
    Calls Try.prog 5 #[.slice (some ad) 1 1] w fun e w' => e = .returned (.bool (decide (n ≤ 2048))) ∧ w = w' := by
  by_cases h : n ≤ 2048
  · have h2 : decide (n ≤ 2048) = true := by simpa using h
    go_enter Try.func5, Try.ntmps5
    go_wp2
    go_rounds 2
    go_ret
    exact ⟨by simp [h], rfl⟩
  · have h2 : decide (n ≤ 2048) = false := by simpa using h
    go_enter Try.func5, Try.ntmps5
    go_wp2
    go_rounds 2
    go_ret
    exact ⟨by simp [h], rfl⟩

/-- The block of filling behind k rounds. -/
def fillRow (b : UInt8) (n k : Nat) : Array Value := (List.replicate k (bv b) ++ List.replicate (n - k) (Value.int .u8 0)).toArray
theorem fillRow_size (b : UInt8) (n k : Nat) (h : k ≤ n) : (fillRow b n k).size = n := by simp [fillRow]; omega
theorem fillRow_zero (b : UInt8) (n : Nat) : Array.replicate n (Value.int .u8 0) = fillRow b n 0 := by simp [fillRow]
theorem fillRow_succ (b : UInt8) (n k : Nat) (h : k < n) : (fillRow b n k).setIfInBounds k (.int .u8 (b.toNat : Int)) = fillRow b n (k + 1) := by
  apply Array.ext_getElem?
  intro i
  simp only [Array.getElem?_setIfInBounds, fillRow, List.getElem?_toArray, List.getElem?_append, List.length_replicate, List.getElem?_replicate, List.size_toArray, List.length_append]
  by_cases h1 : k = i
  · subst h1; simp [bv]; omega
  · by_cases h2 : i < k
    · rw [if_neg h1, if_pos h2, if_pos h2, if_pos (by omega), if_pos (by omega)]
    · simp [h1, h2]
      by_cases h3 : i - k < n - k
      · rw [if_pos h3, if_neg (by omega), if_pos (by omega)]
      · rw [if_neg h3]
        split
        · omega
        · rw [if_neg (by omega)]

theorem filling_any (b : UInt8) (n : Nat) (w : World) (hn : n ≤ 65536) :
    Calls Try.prog 17 #[.int .u8 (b.toNat : Int), .int .i64 (n : Int)] w fun e w' => ∃ g, e = .returned (.slice (some ⟨g, 0, none⟩) n n) ∧ w.heap.size ≤ g ∧ Blk w' g 5 (fillRow b n n) ∧ Below w.heap.size w w' := by
  obtain ⟨i0, hi0, hz0, hz1, hz2⟩ := info_parts info5
  go_enter Try.func17, Try.ntmps17
  go_wp2_with (with_reducible refine wpList_make_blk _ rfl (.tmp 7) (.tmp 7) 22 rfl 5 i0 _ Try.underlying22 hi0 hz0 hz1 rfl .i64 .i64 n n n rfl rfl rfl rfl (by rw [hz2]; omega) (by omega) ?_; intro w1 hblk hbel hlt)
  rw [fillRow_zero b] at hblk
  have HB := Lib.hid hblk
  clear hblk
  go_loopw [6, 11] (fun (_v6 : Value) (i : Value) (wr : World) => ∃ k : Nat, k ≤ n ∧ i = .int .i64 k ∧ Hid (Blk wr w.heap.size 5 (fillRow b n k)) ∧ Below w.heap.size w wr) (fun (_ : Value) (i : Value) (_ : World) => n - (intOf i).toNat)
  case atStart => exact ⟨0, Nat.zero_le _, rfl, HB, hbel⟩
  case round =>
    clear HB hbel hlt
    obtain ⟨k, hk, rfl, HB, hbel⟩ := hrel
    by_cases hlt : k < n
    · have hc : wr.cell? ⟨w.heap.size, k, none⟩ = some (fillRow b n k)[k]! := by
        rw [HB.out.cell, getElem!_pos _ _ (by rw [fillRow_size _ _ _ hk]; exact hlt)]
        exact Array.getElem?_eq_getElem _
      have hf := HB.out.frozen k
      have HB2 : Hid (Blk (wr.setCell ⟨w.heap.size, k, none⟩ (.int .u8 (b.toNat : Int))) w.heap.size 5 (fillRow b n (k + 1))) := by
        rw [← fillRow_succ b n k hlt]
        exact HB.out.set_ k _
      have hbel2 := hbel.setCell (p := ⟨w.heap.size, k, none⟩) (Nat.le_refl _) (.int .u8 (b.toNat : Int))
      clear HB
      go_wp2
      go_roundw
      case rel => exact ⟨k + 1, by omega, by go_num, HB2, hbel2⟩
      case measure => simp [intOf]; omega
    · obtain rfl : k = n := by omega
      go_wp2
      go_ret
      exact ⟨w.heap.size, rfl, Nat.le_refl _, HB.out, hbel⟩

/-- errors.New: a pointer to a new struct of one string, as an error. -/
theorem errnew_any (s : ByteArray) (w : World) :
    Calls Try.prog 16 #[.string s] w fun e w' => (∃ a, e = .returned (.iface 40 (.pointer (some a)))) ∧ Below w.heap.size w w' := by
  go_enter Try.func16, Try.ntmps16
  go_wp2
  go_ret
  exact ⟨⟨_, rfl⟩, (Below.refl _ _).alloc (Nat.le_refl _) _⟩

end Go.Proofs.Ytkhmkpbeanecdaa
