/-
  The walk of the reference's IsPadded: it says whether bytes are filled up.
-/
import Derived.Test.YtkhmkpbeanecdaaWc
namespace Go.Proofs.Ytkhmkpbeanecdaa
open Go.RowKit

/-- A slice that is not empty has an address without a spot, and its cells. -/
theorem Reads.open_ {w : World} {A : Option Addr} {l : List UInt8} (h : Reads w A (bvs l)) (h0 : 0 < l.length) :
    ∃ b off, A = some ⟨b, off, none⟩ ∧ b < w.heap.size ∧ ∀ j, j < l.length → w.cell? ⟨b, off + j, none⟩ = some (.int .u8 ((l.getD j 0).toNat : Int)) := by
  obtain ⟨⟨b, off, spot⟩, hA, hlt, hc⟩ := h (by rw [bvs_len]; exact h0)
  have h1 := hc 0 _ (bvs_get l 0 h0)
  have hs : spot = none := by simpa [Addr.add] using World.cell?_spot h1
  subst hs
  refine ⟨b, off, hA, hlt, fun j hj => ?_⟩
  have h2 := hc j _ (bvs_get l j hj)
  rw [add_lit'] at h2
  rw [h2, List.getD_eq_getElem?_getD, List.getElem?_eq_getElem hj]
  rfl

theorem isPadded_nil (A : Option Addr) (c s : Nat) (w : World) :
    Calls Try.prog 7 #[.slice A 0 c, .int .i64 (s : Int)] w fun e w' => e = .returned (.bool (isPad [] s)) ∧ w = w' := by
  rw [isPad_nil]
  go_enter Try.func7, Try.ntmps7
  go_wp2
  go_ret
  exact ⟨rfl, rfl⟩

theorem isPadded_mod (A : Option Addr) (c s : Nat) (l : List UInt8) (w : World) (h0 : 0 < l.length) (h : ¬ l.length % s = 0) (hs : 1 ≤ s) (hs2 : s ≤ 255) (hb : l.length ≤ 32768) :
    Calls Try.prog 7 #[.slice A l.length c, .int .i64 (s : Int)] w fun e w' => e = .returned (.bool (isPad l s)) ∧ w = w' := by
  rw [isPad_len h]
  obtain ⟨r, hr⟩ : ∃ r, l.length % s = r := ⟨_, rfl⟩
  have hrI : ((l.length : Nat) : Int) % ((s : Nat) : Int) = (r : Int) := by rw [← hr]; omega
  have hr0 : 0 < r := by omega
  have hz : (((l.length : Nat) : Int) == 0) = false := beq_eq_false_iff_ne.2 (by omega)
  have hz2 : ((r : Int) != 0) = true := by simp; omega
  clear h hr
  go_enter Try.func7, Try.ntmps7
  go_wp2
  go_ret
  exact ⟨rfl, rfl⟩

theorem isPadded_off (A : Option Addr) (c s q : Nat) (l : List UInt8) (w : World) (ha : Reads w A (bvs l)) (h0 : 0 < l.length) (h : l.length % s = 0) (hs : 1 ≤ s) (hs2 : s ≤ 255) (hb : l.length ≤ 32768)
    (hq : (lastB l).toNat = q) (hbad : q = 0 ∨ s < q) :
    Calls Try.prog 7 #[.slice A l.length c, .int .i64 (s : Int)] w fun e w' => e = .returned (.bool (isPad l s)) ∧ w = w' := by
  have hP : isPad l s = false := by
    rcases hbad with h1 | h1
    · exact isPad_zero (by omega)
    · exact isPad_big (by omega)
  rw [hP]
  clear hP
  have hrI : ((l.length : Nat) : Int) % ((s : Nat) : Int) = 0 := by omega
  obtain ⟨b, off, rfl, hlt, hcell⟩ := ha.open_ h0
  have hc := hcell (l.length - 1) (by omega)
  have hq2 : (l.getD (l.length - 1) 0).toNat = q := hq
  rw [hq2] at hc
  have hq256 : q < 256 := by rw [← hq]; exact (lastB l).toNat_lt
  have hz : (((l.length : Nat) : Int) == 0) = false := beq_eq_false_iff_ne.2 (by omega)
  clear hcell ha h hq hq2
  rcases hbad with rfl | hbad
  · go_enter Try.func7, Try.ntmps7
    go_wp2
    go_ret
    exact ⟨rfl, rfl⟩
  · have h1 : ¬ (q : Int) < 1 := by omega
    have h2 : (s : Int) < q := by omega
    go_enter Try.func7, Try.ntmps7
    go_wp2
    go_ret
    exact ⟨rfl, rfl⟩

theorem isPadded_loop (A : Option Addr) (c s q : Nat) (l : List UInt8) (w : World) (ha : Reads w A (bvs l)) (h0 : 0 < l.length) (hlc : l.length ≤ c) (h : l.length % s = 0) (hs : 1 ≤ s) (hs2 : s ≤ 255) (hb : l.length ≤ 32768)
    (hq : (lastB l).toNat = q) (hq1 : 1 ≤ q) (hqs : q ≤ s) :
    Calls Try.prog 7 #[.slice A l.length c, .int .i64 (s : Int)] w fun e w' => e = .returned (.bool (isPad l s)) ∧ w = w' := by
  have hsl : s ≤ l.length := len_of_mod h (by omega)
  have hno := fun k (hk : k < q) (hne : l.getD (l.length - q + k) 0 ≠ lastB l) => isPad_off (s := s) (hq.symm ▸ hk) (hq.symm ▸ hne)
  have hyes := isPad_yes (l := l) (s := s) (by intro e; rw [e] at h0; simp at h0) h (hq.symm ▸ hq1) (hq.symm ▸ hqs)
  rw [hq] at hyes
  have HN := Lib.hid hno
  have HY := Lib.hid hyes
  clear hno hyes
  have hrI : ((l.length : Nat) : Int) % ((s : Nat) : Int) = 0 := by omega
  obtain ⟨b, off, rfl, hlt, hcell⟩ := ha.open_ h0
  have hc := hcell (l.length - 1) (by omega)
  have hq2 : (l.getD (l.length - 1) 0).toNat = q := hq
  have HQ : Hid ((lastB l).toNat = q) := hq
  rw [hq2] at hc
  have hq256 : q < 256 := by rw [← hq]; exact (lastB l).toNat_lt
  have hz : (((l.length : Nat) : Int) == 0) = false := beq_eq_false_iff_ne.2 (by omega)
  have HC := Lib.hid hcell
  clear hcell ha h hq hq2
  have h1 : ¬ (q : Int) < 1 := by omega
  have h2 : ¬ (s : Int) < q := by omega
  have h3 : ¬ c = l.length - q := by omega
  have h4 : l.length - (l.length - q) = q := by omega
  go_enter Try.func7, Try.ntmps7
  go_wp2
  go_loop [39] (fun i => ∃ k : Nat, k ≤ q ∧ i = .int .i64 k ∧ Hid (∀ j, j < k → l.getD (l.length - q + j) 0 = lastB l)) (fun i => q - (intOf i).toNat)
  case atStart => exact ⟨0, Nat.zero_le _, rfl, fun j hj => absurd hj (by omega)⟩
  case round =>
    obtain ⟨k, hk, rfl, HA⟩ := hrel
    by_cases hlt2 : k < q
    · obtain ⟨x, hx⟩ : ∃ x, l.getD (l.length - q + k) 0 = x := ⟨_, rfl⟩
      have hcx := HC.out (l.length - q + k) (by omega)
      rw [hx, ← Nat.add_assoc] at hcx
      have hx256 : x.toNat < 256 := x.toNat_lt
      by_cases he : x = lastB l
      · have hne : ((x.toNat : Int) != (q : Int)) = false := by rw [he, HQ.out]; simp
        have HA2 : Hid (∀ j, j < k + 1 → l.getD (l.length - q + j) 0 = lastB l) := fun j hj => by
          by_cases hjk : j = k
          · subst hjk; rw [hx, he]
          · exact HA.out j (by omega)
        clear HA hx he
        go_wp2
        go_round
        case rel => exact ⟨k + 1, by omega, by go_num, HA2⟩
        case measure => simp [intOf]; omega
      · have hne : ((x.toNat : Int) != (q : Int)) = true := by
          rw [bne_iff_ne]
          intro hh
          apply he
          apply UInt8.toNat_inj.1
          rw [HQ.out]
          omega
        have HP := Lib.hid (HN.out k hlt2 (by rw [hx]; exact he))
        clear HA hx he
        go_wp2
        go_ret
        exact ⟨by rw [HP.out]; rfl, rfl⟩
    · obtain rfl : k = q := by omega
      have HP := Lib.hid (HY.out HA.out)
      clear HA
      go_wp2
      go_ret
      exact ⟨by rw [HP.out]; rfl, rfl⟩

theorem isPadded_any (A : Option Addr) (n c s : Nat) (l : List UInt8) (w : World) (hn : n = l.length) (ha : Reads w A (bvs l)) (hlc : n ≤ c) (hs : 1 ≤ s) (hs2 : s ≤ 255) (hb : n ≤ 32768) :
    Calls Try.prog 7 #[.slice A n c, .int .i64 (s : Int)] w fun e w' => e = .returned (.bool (isPad l s)) ∧ w = w' := by
  subst hn
  by_cases h0 : 0 < l.length
  · by_cases h : l.length % s = 0
    · by_cases hq : (lastB l).toNat = 0 ∨ s < (lastB l).toNat
      · exact isPadded_off A c s _ l w ha h0 h hs hs2 hb rfl hq
      · exact isPadded_loop A c s _ l w ha h0 hlc h hs hs2 hb rfl (by omega) (by omega)
    · exact isPadded_mod A c s l w h0 h hs hs2 hb
  · obtain rfl : l = [] := List.eq_nil_of_length_eq_zero (by omega)
    exact isPadded_nil A c s w

end Go.Proofs.Ytkhmkpbeanecdaa
