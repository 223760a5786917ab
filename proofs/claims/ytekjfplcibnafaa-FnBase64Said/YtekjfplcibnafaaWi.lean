/-
  The walk of the reference's Base64: the signs of the bytes.
-/
import Derived.Test.YtekjfplcibnafaaSx
namespace Go.Proofs.Ytekjfplcibnafaa
open Go.RowKit

/-- A slice that is not empty has an address without a spot, and its cells. -/
theorem Reads.open_ {w : World} {A : Option Addr} {l : List UInt8} (h : Reads w A (bvs l)) (h0 : 0 < l.length) :
    ∃ b off, A = some ⟨b, off, none⟩ ∧ b < w.heap.size ∧ ∀ j, j < l.length → w.cell? ⟨b, off + j, none⟩ = some (.int .u8 ((l.getD j 0).toNat : Int)) := by
  obtain ⟨⟨b, off, spot⟩, hA, hlt, hc⟩ := h (by rw [bvs_len]; exact h0)
  have h1 := hc 0 _ (bvs_get l 0 h0)
  have hs : spot = none := by simpa [Addr.add] using World.cell?_spot h1
  subst hs
  refine ⟨b, off, hA, hlt, fun j hj => ?_⟩
  have h2 := hc j _ (bvs_get l j hj)
  rw [add_lit'] at h2
  rw [h2, List.getD_eq_getElem?_getD, List.getElem?_eq_getElem hj]
  rfl

/-- Bit q of bytes, the highest of a byte first; 0 behind the end. -/
def bit (l : List UInt8) (q : Nat) : Nat := by_ l (q / 8) / 2 ^ (7 - q % 8) % 2
/-- The number of j bits from p on. -/
def acc (l : List UInt8) (p : Nat) : Nat → Nat
  | 0 => 0
  | j + 1 => 2 * acc l p j + bit l (p + j)

theorem bit_lt (l : List UInt8) (q : Nat) : bit l q < 2 := Nat.mod_lt _ (by omega)
theorem acc_lt (l : List UInt8) (p : Nat) : ∀ j, acc l p j < 2 ^ j
  | 0 => by simp [acc]
  | j + 1 => by
    have h1 := acc_lt l p j
    have h2 := bit_lt l (p + j)
    rw [acc, Nat.pow_succ]; omega

theorem acc_six (l : List UInt8) (t : Nat) : acc l (6 * t) 6 = sx l t := by
  obtain ⟨m, r, hr, rfl⟩ : ∃ m r, r < 4 ∧ t = 4 * m + r := ⟨t / 4, t % 4, by omega, by omega⟩
  have b0 := by_lt l (3 * m)
  have b1 := by_lt l (3 * m + 1)
  have b2 := by_lt l (3 * m + 2)
  have e : ∀ j d s : Nat, (24 * m + j) / 8 = 3 * m + d → 7 - (24 * m + j) % 8 = s → bit l (24 * m + j) = by_ l (3 * m + d) / 2 ^ s % 2 := by
    intro j d s h1 h2
    rw [bit, h1, h2]
  simp only [acc]
  rcases (show r = 0 ∨ r = 1 ∨ r = 2 ∨ r = 3 by omega) with rfl | rfl | rfl | rfl
  · simp only [Nat.add_zero]
    rw [sx_0, show 6 * (4 * m) = 24 * m + 0 by omega]
    simp only [Nat.add_assoc, Nat.reduceAdd]
    rw [e 0 0 7 (by omega) (by omega), e 1 0 6 (by omega) (by omega), e 2 0 5 (by omega) (by omega), e 3 0 4 (by omega) (by omega), e 4 0 3 (by omega) (by omega), e 5 0 2 (by omega) (by omega)]
    simp only [Nat.add_zero, Nat.reducePow]
    omega
  · rw [sx_1, show 6 * (4 * m + 1) = 24 * m + 6 by omega]
    simp only [Nat.add_assoc, Nat.reduceAdd]
    rw [e 6 0 1 (by omega) (by omega), e 7 0 0 (by omega) (by omega), e 8 1 7 (by omega) (by omega), e 9 1 6 (by omega) (by omega), e 10 1 5 (by omega) (by omega), e 11 1 4 (by omega) (by omega)]
    simp only [Nat.add_zero, Nat.reducePow]
    omega
  · rw [sx_2, show 6 * (4 * m + 2) = 24 * m + 12 by omega]
    simp only [Nat.add_assoc, Nat.reduceAdd]
    rw [e 12 1 3 (by omega) (by omega), e 13 1 2 (by omega) (by omega), e 14 1 1 (by omega) (by omega), e 15 1 0 (by omega) (by omega), e 16 2 7 (by omega) (by omega), e 17 2 6 (by omega) (by omega)]
    simp only [Nat.reducePow]
    omega
  · rw [sx_3, show 6 * (4 * m + 3) = 24 * m + 18 by omega]
    simp only [Nat.add_assoc, Nat.reduceAdd]
    rw [e 18 2 5 (by omega) (by omega), e 19 2 4 (by omega) (by omega), e 20 2 3 (by omega) (by omega), e 21 2 2 (by omega) (by omega), e 22 2 1 (by omega) (by omega), e 23 2 0 (by omega) (by omega)]
    simp only [Nat.reducePow]
    omega

theorem bit_out (l : List UInt8) (q : Nat) (h : 8 * l.length ≤ q) : bit l q = 0 := by
  rw [bit, by_end l _ (by omega)]; simp
theorem and_bit (l : List UInt8) (q : Nat) : bits .and .u8 (((by_ l (q / 8) : Nat) : Int) / 2 ^ (7 - q % 8)) 1 = ((bit l q : Nat) : Int) := by
  have h0 := by_lt l (q / 8)
  have h1 : (((by_ l (q / 8) : Nat) : Int) / 2 ^ (7 - q % 8)) = ((by_ l (q / 8) / 2 ^ (7 - q % 8) : Nat) : Int) := by
    rw [Int.natCast_ediv, Int.natCast_pow]; rfl
  have h2 : by_ l (q / 8) / 2 ^ (7 - q % 8) < 256 := Nat.lt_of_le_of_lt (Nat.div_le_self _ _) h0
  rw [h1, show (1 : Int) = ((1 : Nat) : Int) from rfl, u8_and_nat _ 1 h2 (by omega), nat_mask1]
  rfl

theorem sig_at (S : ByteArray) (hS : S.data.toList = sigs) (a : Nat) (h : a < S.size) : S[a] = sig a := by
  rw [sig, ← hS]
  simp [h]
  rfl

/-- An owned slice is a slice value. -/
theorem own_form {w : World} {base : Nat} {e : TypeId} {v : Value} {n : Nat} {xs : List Value} (h : w.ownsRow base e 1 v n xs) : ∃ A c, v = .slice A n c := by
  rcases own_blk h with ⟨rfl, rfl⟩ | ⟨g, cap, cur, rfl, _⟩
  · exact ⟨none, 0, rfl⟩
  · exact ⟨_, _, rfl⟩

theorem specBase64_any (A : Option Addr) (n c : Nat) (l : List UInt8) (w : World) (hn : n = l.length) (ha : Reads w A (bvs l)) (hb : n ≤ 4096) :
    Calls Try.prog 6 #[.slice A n c] w fun e w' => e = .returned (.string ⟨(enc l).toArray⟩) ∧ Below w.heap.size w w' := by
  subst hn
  obtain ⟨i0, hi0, hz0, hz1, hz2⟩ := info_parts info5
  have hown0 : (w.alloc (.cells #[] 5)).ownsRow w.heap.size 5 1 (.slice (some ⟨w.heap.size, 0, none⟩) 0 0) 0 [] := World.ownsRow_made w #[] 0 (Nat.le_refl _) (by decide) rfl
  have hbel0 : Below w.heap.size w (w.alloc (.cells #[] 5)) := (Below.refl _ _).alloc (Nat.le_refl _) _
  have HA : Hid (Reads w A (bvs l)) := ha
  clear ha
  go_enter Try.func6, Try.ntmps6
  go_wp2_with fail
  generalize w.alloc (.cells #[] 5) = w1 at *
  go_loopw [3, 4, 5, 6] (fun v i _ _ wr => ∃ t : Nat, t ≤ encLen l.length ∧ i = .int .i64 ((6 * t : Nat) : Int) ∧ wr.ownsRow w.heap.size 5 1 v t (bvs ((List.range t).map fun i => sig (sx l i))) ∧ Below w.heap.size w wr) (fun _ i _ _ _ => 8 * l.length + 6 - (intOf i).toNat)
  case atStart => exact ⟨0, Nat.zero_le _, rfl, hown0, hbel0⟩
  case round =>
    clear hown0 hbel0
    obtain ⟨t, ht, rfl, hown, hbel⟩ := hrel
    obtain ⟨p, hp⟩ : ∃ p, 6 * t = p := ⟨_, rfl⟩
    rw [hp]
    have HP := Lib.hid hp
    by_cases hlt : p < 8 * l.length
    · clear hp
      have hp8 : p ≤ 32768 := by omega
      have hl8 : 0 < l.length := by omega
      obtain ⟨b, off, rfl, _, hcell⟩ := HA.out.open_ hl8
      have hcw : ∀ q, q < 8 * l.length → wr.cell? ⟨b, off + q / 8, none⟩ = some (.int .u8 ((by_ l (q / 8) : Nat) : Int)) := fun q hq => by
        rw [hbel.cell (by assumption)]
        exact hcell (q / 8) (by omega)
      have HC := Lib.hid hcw
      clear hcell hcw
      go_wp2_with fail
      go_loop [5, 6] (fun a k => ∃ j : Nat, j ≤ 6 ∧ a = .int .i64 ((acc l p j : Nat) : Int) ∧ k = .int .i64 ((p + j : Nat) : Int)) (fun _ k => p + 6 - (intOf k).toNat)
      case atStart => exact ⟨0, by omega, rfl, rfl⟩
      case round =>
        obtain ⟨j, hj, rfl, rfl⟩ := hrel
        obtain ⟨q, hq⟩ : ∃ q, p + j = q := ⟨_, rfl⟩
        have ha64 : acc l p j < 64 := Nat.lt_of_lt_of_le (acc_lt l p j) (Nat.pow_le_pow_right (by omega) hj)
        obtain ⟨a, ha⟩ : ∃ a, acc l p j = a := ⟨_, rfl⟩
        rw [ha] at ha64
        rw [ha, hq]
        have HA2 := Lib.hid ha
        have HQ := Lib.hid hq
        have hqb : q ≤ 40000 := by omega
        have hqp : p ≤ q := by omega
        by_cases hj6 : j < 6
        · have hq6 : q < p + 6 := by omega
          clear ha hq
          by_cases hin : q < 8 * l.length
          · have hc := HC.out q hin
            have hbit := and_bit l q
            obtain ⟨d, hd⟩ : ∃ d, bit l q = d := ⟨_, rfl⟩
            have hd2 : d < 2 := by rw [← hd]; exact bit_lt l q
            rw [hd] at hbit
            have HD := Lib.hid hd
            clear hd
            go_wp2_with fail
            go_round
            case rel =>
              refine ⟨j + 1, by omega, ?_, ?_⟩
              · rw [acc, HA2.out, HQ.out, HD.out]; go_num
              · have := HQ.out; exact congrArg (Value.int .i64) (by omega)
            case measure => simp [intOf]; omega
          · have hd := bit_out l q (by omega)
            have HD := Lib.hid hd
            clear hd
            go_wp2_with fail
            go_round
            case rel =>
              refine ⟨j + 1, by omega, ?_, ?_⟩
              · rw [acc, HA2.out, HQ.out, HD.out]; go_num
              · have := HQ.out; exact congrArg (Value.int .i64) (by omega)
            case measure => simp [intOf]; omega
        · have hq6 : ¬ q < p + 6 := by omega
          obtain rfl : j = 6 := by omega
          have hsx : a = sx l t := by rw [← acc_six, HP.out]; exact ha.symm
          have HSX := Lib.hid hsx
          clear ha hq hsx
          have hsz := hbel.size
          have htl : t ≤ 6000 := by unfold encLen at ht; omega
          go_wp2_with (at_builtin; refine wpList_append_any _ rfl (.tmp 42) (.tmp 45) 22 rfl w.heap.size 5 i0 _ 1 Try.underlying22 hi0 hz0 hz1 hz2 rfl _ _ _ rfl (hown.alloc _) (some ⟨wr.heap.size, 0, none⟩) 1 1 [bv (sig a)] rfl rfl ((Blk.new wr 5 _).reads [bv (sig a)] 0 (by exact congrArg (fun x : UInt8 => [Value.int .u8 (x.toNat : Int)]) (sig_at _ (by kernel_rfl) _ _).symm)) (by intro u hu; rw [List.mem_singleton] at hu; rw [hu]; exact bv_one _) (by simp only [maxLen]; omega) (by omega) (by simp; omega) ?_; intro v2 w2 hown2 hg2 _)
          have hbel2 : Below w.heap.size w w2 := (hbel.alloc hsz _).grown hg2 (by simp; omega) (fun k hk => (hown.lt k hk).1)
          have hown3 : w2.ownsRow w.heap.size 5 1 v2 (t + 1) (bvs ((List.range (t + 1)).map fun i => sig (sx l i))) := by
            have e : bvs ((List.range (t + 1)).map fun i => sig (sx l i)) = bvs ((List.range t).map fun i => sig (sx l i)) ++ [bv (sig a)] := by
              rw [List.range_succ, List.map_append, bvs_append, HSX.out]; rfl
            rw [e]
            exact hown2
          clear hown2 hg2 hown hbel
          go_roundw
          case rel =>
            refine ⟨t + 1, ?_, ?_, hown3, hbel2⟩
            · have := HP.out; unfold encLen at ht ⊢; omega
            · have := HP.out; exact congrArg (Value.int .i64) (by omega)
          case measure => simp [intOf]; omega
    · have hte : t = encLen l.length := by
        unfold encLen at ht ⊢
        omega
      obtain ⟨A2, c2, rfl⟩ := own_form hown
      have hr := Reads.of_own hown
      have k1 := run_bytes_str (P := Try.prog) wr 22 5 9 Try.underlying22 Try.underlying5 Try.underlying9 A2 t c2 ((List.range t).map fun i => sig (sx l i)) (by simp) hr
      have HT := Lib.hid hte
      clear hp hte hr hown
      go_wp2
      go_ret
      refine ⟨?_, hbel⟩
      have h2 : ((List.range t).map fun i => sig (sx l i)) = enc l := by rw [enc, HT.out]
      rw [← h2]
      rfl

end Go.Proofs.Ytekjfplcibnafaa
