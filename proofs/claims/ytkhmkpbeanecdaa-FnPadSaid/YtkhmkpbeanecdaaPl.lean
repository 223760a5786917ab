/-
  Plain facts on fillings of lists of bytes: no program in sight.
-/
import Derived.Test.YtkhmkpbeanecdaaMem
namespace Go.Proofs.Ytkhmkpbeanecdaa

/-- How many bytes are missing to whole blocks. -/
def missing (n s : Nat) : Nat := s - n % s
/-- Bytes filled up. -/
def padded (l : List UInt8) (s : Nat) : List UInt8 := l ++ List.replicate (missing l.length s) (UInt8.ofNat (missing l.length s))

/-- The last byte. -/
def lastB (l : List UInt8) : UInt8 := l.getD (l.length - 1) 0
/-- Are bytes so filled up? -/
def isPad (l : List UInt8) (s : Nat) : Bool :=
  decide (l ≠ [] ∧ l.length % s = 0 ∧ 1 ≤ (lastB l).toNat ∧ (lastB l).toNat ≤ s ∧ ∀ k, k < (lastB l).toNat → l.getD (l.length - (lastB l).toNat + k) 0 = lastB l)
/-- What is left of filled up bytes. -/
def unpadded (l : List UInt8) : List UInt8 := l.take (l.length - (lastB l).toNat)

theorem isPad_nil (s : Nat) : isPad [] s = false := by simp [isPad]
theorem isPad_len {l : List UInt8} {s : Nat} (h : ¬ l.length % s = 0) : isPad l s = false := by simp [isPad, h]
theorem isPad_zero {l : List UInt8} {s : Nat} (h : (lastB l).toNat = 0) : isPad l s = false := by
  unfold isPad; rw [decide_eq_false_iff_not]; rintro ⟨_, _, h1, _⟩; omega
theorem isPad_big {l : List UInt8} {s : Nat} (h : s < (lastB l).toNat) : isPad l s = false := by
  unfold isPad; rw [decide_eq_false_iff_not]; rintro ⟨_, _, _, h1, _⟩; omega
theorem isPad_off {l : List UInt8} {s k : Nat} (hk : k < (lastB l).toNat) (h : l.getD (l.length - (lastB l).toNat + k) 0 ≠ lastB l) : isPad l s = false := by
  unfold isPad; rw [decide_eq_false_iff_not]; rintro ⟨_, _, _, _, h1⟩; exact h (h1 k hk)
theorem isPad_yes {l : List UInt8} {s : Nat} (h0 : l ≠ []) (h1 : l.length % s = 0) (h2 : 1 ≤ (lastB l).toNat) (h3 : (lastB l).toNat ≤ s) (h : ∀ k, k < (lastB l).toNat → l.getD (l.length - (lastB l).toNat + k) 0 = lastB l) : isPad l s = true := by
  unfold isPad; rw [decide_eq_true_eq]; exact ⟨h0, h1, h2, h3, h⟩

/-- The last bytes are the filling, just when each is. -/
theorem drop_eq_fill (l : List UInt8) (b : UInt8) (q : Nat) (hq : q ≤ l.length) : (l.drop (l.length - q) = List.replicate q b) ↔ ∀ k, k < q → l.getD (l.length - q + k) 0 = b := by
  constructor
  · intro h k hk
    have h1 : (l.drop (l.length - q))[k]? = some b := by rw [h]; simp [hk]
    rw [List.getElem?_drop] at h1
    simp [h1]
  · intro h
    apply List.ext_getElem
    · simp; omega
    · intro i h1 h2
      simp at h1 h2
      have h3 := h i (by omega)
      rw [List.getD_eq_getElem?_getD, List.getElem?_eq_getElem (by omega)] at h3
      simpa using h3

theorem isPad_drop {l : List UInt8} {s : Nat} (hs : (lastB l).toNat ≤ l.length) (h0 : l ≠ []) (h1 : l.length % s = 0) (h2 : 1 ≤ (lastB l).toNat) (h3 : (lastB l).toNat ≤ s) :
    isPad l s = (l.drop (l.length - (lastB l).toNat) == List.replicate (lastB l).toNat (lastB l)) := by
  by_cases h : ∀ k, k < (lastB l).toNat → l.getD (l.length - (lastB l).toNat + k) 0 = lastB l
  · rw [isPad_yes h0 h1 h2 h3 h, (drop_eq_fill l _ _ hs).2 h]; simp
  · have h4 : l.drop (l.length - (lastB l).toNat) ≠ List.replicate (lastB l).toNat (lastB l) := fun e => h ((drop_eq_fill l _ _ hs).1 e)
    obtain ⟨k, hk0⟩ := Classical.not_forall.1 h
    have hk : k < (lastB l).toNat := Decidable.byContradiction fun hn => hk0 fun hh => absurd hh hn
    have hne : l.getD (l.length - (lastB l).toNat + k) 0 ≠ lastB l := fun e => hk0 fun _ => e
    rw [isPad_off hk hne]
    symm
    simpa using h4

theorem len_of_mod {n s : Nat} (h : n % s = 0) (h0 : n ≠ 0) : s ≤ n := Nat.le_of_dvd (by omega) (Nat.dvd_of_mod_eq_zero h)

/-- What is taken off is what is filled up. -/
theorem padded_unpadded {l : List UInt8} {s : Nat} (h : isPad l s = true) : padded (unpadded l) s = l := by
  unfold isPad at h
  rw [decide_eq_true_eq] at h
  obtain ⟨h0, h1, h2, h3, h4⟩ := h
  have hl : s ≤ l.length := len_of_mod h1 (by simpa using h0)
  have hu : (unpadded l).length = l.length - (lastB l).toNat := by simp [unpadded]
  have hm : missing (unpadded l).length s = (lastB l).toNat := by
    rw [missing, hu]
    obtain ⟨k, hk⟩ := Nat.dvd_of_mod_eq_zero h1
    rcases k with _ | k
    · exact absurd hk (by simpa using h0)
    · rw [Nat.mul_succ] at hk
      by_cases hq : (lastB l).toNat = s
      · rw [hq, hk, Nat.add_sub_cancel, Nat.mul_mod_right]; omega
      · have e : l.length - (lastB l).toNat = s * k + (s - (lastB l).toNat) := by omega
        rw [e, Nat.mul_add_mod, Nat.mod_eq_of_lt (by omega)]; omega
  rw [padded, hm]
  have hb : UInt8.ofNat (lastB l).toNat = lastB l := by simp
  rw [hb, ← (drop_eq_fill l _ _ (by omega)).2 h4, unpadded, List.take_append_drop]

theorem padded_len (l : List UInt8) (s : Nat) : (padded l s).length = l.length + missing l.length s := by simp [padded]
theorem missing_pos {n s : Nat} (hs : 1 ≤ s) : 1 ≤ missing n s := by have := Nat.mod_lt n (show 0 < s by omega); unfold missing; omega
theorem missing_le {n s : Nat} : missing n s ≤ s := by unfold missing; omega

theorem lastB_padded (l : List UInt8) (s : Nat) (hs : 1 ≤ s) : lastB (padded l s) = UInt8.ofNat (missing l.length s) := by
  have h1 := missing_pos (n := l.length) hs
  rw [lastB, padded_len, List.getD_eq_getElem?_getD, padded, List.getElem?_append_right (by omega), List.getElem?_replicate, if_pos (by omega)]
  rfl

theorem toNat_missing (n s : Nat) (hs2 : s ≤ 255) : (UInt8.ofNat (missing n s)).toNat = missing n s := by
  have := missing_le (n := n) (s := s); simp; omega

theorem isPad_padded (l : List UInt8) (s : Nat) (hs : 1 ≤ s) (hs2 : s ≤ 255) : isPad (padded l s) s = true := by
  have h1 := missing_pos (n := l.length) hs
  have h2 := missing_le (n := l.length) (s := s)
  have hq : (lastB (padded l s)).toNat = missing l.length s := by rw [lastB_padded l s hs, toNat_missing _ _ hs2]
  refine isPad_yes ?_ ?_ (by omega) (by omega) ?_
  · intro h
    have := padded_len l s
    rw [h] at this
    simp at this
    omega
  · rw [padded_len, missing]
    have h3 := Nat.mod_lt l.length (show 0 < s by omega)
    have h4 := Nat.div_add_mod l.length s
    have e : l.length + (s - l.length % s) = s * (l.length / s + 1) := by rw [Nat.mul_add]; omega
    rw [e, Nat.mul_mod_right]
  · intro k hk
    rw [hq] at hk ⊢
    rw [lastB_padded l s hs, padded_len, Nat.add_sub_cancel, padded, List.getD_eq_getElem?_getD, List.getElem?_append_right (by omega), List.getElem?_replicate, if_pos (by omega)]
    rfl

theorem unpadded_padded (l : List UInt8) (s : Nat) (hs : 1 ≤ s) (hs2 : s ≤ 255) : unpadded (padded l s) = l := by
  rw [unpadded, lastB_padded l s hs, toNat_missing _ _ hs2, padded_len, Nat.add_sub_cancel, padded]
  simp

end Go.Proofs.Ytkhmkpbeanecdaa
