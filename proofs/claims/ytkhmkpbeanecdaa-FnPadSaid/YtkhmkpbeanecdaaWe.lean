/-
  The walk of unpadBuffer: what is filled up loses its filling, all else is an error.
-/
import Derived.Test.YtkhmkpbeanecdaaWd
import Derived.Deep.QuietTactic
import Derived.BigQuiet
namespace Go.Proofs.Ytkhmkpbeanecdaa
open Go.RowKit

/-- An error and no slice. -/
def NoSlice (w w' : World) (e : Ending) : Prop := ∃ a, e = .returned (.tuple #[.slice none 0 0, .iface 40 (.pointer (some a))]) ∧ Below w.heap.size w w'

/-- What unpadBuffer hands back: p tells whether the bytes are filled up. -/
def UnpadPost (p : Bool) (A : Option Addr) (n c : Nat) (w w' : World) (e : Ending) : Prop :=
  (p = true ∧ e = .returned (.tuple #[.slice A n c, .nilIface]) ∧ Below w.heap.size w w') ∨ (p = false ∧ NoSlice w w' e)

theorem unpadBuffer_nil (A : Option Addr) (c s : Nat) (w : World) :
    Calls Try.prog 14 #[.slice A 0 c, .int .i64 (s : Int)] w fun e w' => NoSlice w w' e := by
  go_enter Try.func14, Try.ntmps14
  go_wp2_with fail
  refine (errnew_any _ w).mono ?_
  rintro e w1 ⟨⟨a, rfl⟩, hbel⟩
  go_wp2
  go_ret2
  exact ⟨a, rfl, hbel⟩

theorem unpadBuffer_mod (A : Option Addr) (c s : Nat) (l : List UInt8) (w : World) (h0 : 0 < l.length) (h : ¬ l.length % s = 0) (hs : 1 ≤ s) (hs2 : s ≤ 255) (hb : l.length ≤ 32768) :
    Calls Try.prog 14 #[.slice A l.length c, .int .i64 (s : Int)] w fun e w' => NoSlice w w' e := by
  obtain ⟨r, hr⟩ : ∃ r, l.length % s = r := ⟨_, rfl⟩
  have hrI : ((l.length : Nat) : Int) % ((s : Nat) : Int) = (r : Int) := by rw [← hr]; omega
  have hr0 : 0 < r := by omega
  have hz : (((l.length : Nat) : Int) == 0) = false := beq_eq_false_iff_ne.2 (by omega)
  have hz2 : ((r : Int) != 0) = true := by simp; omega
  clear h hr
  go_enter Try.func14, Try.ntmps14
  go_wp2_with fail
  refine (errnew_any _ w).mono ?_
  rintro e w1 ⟨⟨a, rfl⟩, hbel⟩
  go_wp2
  go_ret2
  exact ⟨a, rfl, hbel⟩

theorem unpadBuffer_off (A : Option Addr) (c s q : Nat) (l : List UInt8) (w : World) (ha : Reads w A (bvs l)) (h0 : 0 < l.length) (h : l.length % s = 0) (hs : 1 ≤ s) (hs2 : s ≤ 255) (hb : l.length ≤ 32768)
    (hq : (lastB l).toNat = q) (hbad : q = 0 ∨ s < q) :
    Calls Try.prog 14 #[.slice A l.length c, .int .i64 (s : Int)] w fun e w' => NoSlice w w' e := by
  have hrI : ((l.length : Nat) : Int) % ((s : Nat) : Int) = 0 := by omega
  obtain ⟨b, off, rfl, hlt, hcell⟩ := ha.open_ h0
  have hc := hcell (l.length - 1) (by omega)
  have hq2 : (l.getD (l.length - 1) 0).toNat = q := hq
  rw [hq2] at hc
  have hq256 : q < 256 := by rw [← hq]; exact (lastB l).toNat_lt
  have hz : (((l.length : Nat) : Int) == 0) = false := beq_eq_false_iff_ne.2 (by omega)
  clear hcell ha h hq hq2
  rcases hbad with rfl | hbad
  · go_enter Try.func14, Try.ntmps14
    go_wp2_with fail
    refine (errnew_any _ w).mono ?_
    rintro e w1 ⟨⟨a, rfl⟩, hbel⟩
    go_wp2
    go_ret2
    exact ⟨a, rfl, hbel⟩
  · have h1 : ((q : Int) == 0) = false := beq_eq_false_iff_ne.2 (by omega)
    have h2 : (s : Int) < q := by omega
    go_enter Try.func14, Try.ntmps14
    go_wp2_with fail
    refine (errnew_any _ w).mono ?_
    rintro e w1 ⟨⟨a, rfl⟩, hbel⟩
    go_wp2
    go_ret2
    exact ⟨a, rfl, hbel⟩

theorem unpadBuffer_loop (A : Option Addr) (c s q : Nat) (l : List UInt8) (w : World) (ha : Reads w A (bvs l)) (h0 : 0 < l.length) (hlc : l.length ≤ c) (h : l.length % s = 0) (hs : 1 ≤ s) (hs2 : s ≤ 255) (hb : l.length ≤ 32768)
    (hq : (lastB l).toNat = q) (hq1 : 1 ≤ q) (hqs : q ≤ s) :
    Calls Try.prog 14 #[.slice A l.length c, .int .i64 (s : Int)] w fun e w' => UnpadPost (isPad l s) A (l.length - q) c w w' e := by
  have hsl : s ≤ l.length := len_of_mod h (by omega)
  have hP := isPad_drop (l := l) (s := s) (by omega) (by intro e; rw [e] at h0; simp at h0) h (by omega) (by omega)
  rw [hq] at hP
  have hrI : ((l.length : Nat) : Int) % ((s : Nat) : Int) = 0 := by omega
  obtain ⟨b, off, rfl, hlt, hcell⟩ := ha.open_ h0
  have hc := hcell (l.length - 1) (by omega)
  have hq2 : (l.getD (l.length - 1) 0).toNat = q := hq
  have HQ : Hid ((lastB l).toNat = q) := hq
  rw [hq2] at hc
  have hq256 : q < 256 := by rw [← hq]; exact (lastB l).toNat_lt
  have hz : (((l.length : Nat) : Int) == 0) = false := beq_eq_false_iff_ne.2 (by omega)
  have hz2 : ((q : Int) == 0) = false := beq_eq_false_iff_ne.2 (by omega)
  have h2 : ¬ (s : Int) < q := by omega
  have h4 : ¬ ((l.length : Nat) : Int) < (q : Int) := by omega
  have HP := Lib.hid hP
  have hd : Reads w (some ⟨b, off + (l.length - q), none⟩) (bvs (l.drop (l.length - q))) := by
    have := ha.drop (l.length - q)
    rw [add_lit'] at this
    simpa [bvs, List.map_drop] using this
  have HD := Lib.hid hd
  clear hcell ha h hq hq2 hP hd
  have hD2 := HD.out
  clear HD
  obtain ⟨t2, ht2⟩ : ∃ t2, List.replicate q (lastB l) = t2 := ⟨_, rfl⟩
  obtain ⟨t1, ht1⟩ : ∃ t1, l.drop (l.length - q) = t1 := ⟨_, rfl⟩
  have hl1 : t1.length = q := by rw [← ht1, List.length_drop]; omega
  have hl2 : t2.length = q := by rw [← ht2, List.length_replicate]
  have HP2 : Hid (isPad l s = (t1 == t2)) := by rw [← ht1, ← ht2]; exact HP.out
  clear HP
  rw [ht1] at hD2
  have HD := Lib.hid hD2
  have HT2 := Lib.hid ht2
  have HL1 := Lib.hid hl1
  have HL2 := Lib.hid hl2
  clear ht1 ht2 hD2 hl1 hl2
  have h3 : ¬ c = l.length - q := by omega
  have h5 : l.length - (l.length - q) = q := by omega
  have H3 := Lib.hid h3
  have H5 := Lib.hid h5
  clear h3 h5
  cases hbe : t1 == t2
  · go_enter Try.func14, Try.ntmps14
    go_wp2_with fail
    refine (filling_int _ _ (lastB l) q w (by rw [HQ.out]) rfl (by omega)).mono ?_
    rintro e w1 ⟨g, rfl, hg, hblk, hbel⟩
    have h3 := H3.out
    have h5 := H5.out
    have hF : fillRow (lastB l) q q = (bvs t2).toArray := by rw [← HT2.out]; simp [fillRow, bvs]
    have hR : Reads w1 (some ⟨g, 0, none⟩) (bvs t2) := hblk.reads _ 0 (by rw [hF]; simp)
    have K1 := fun nq => run_bytes_str (P := Try.prog) (w1.drewN nq) 22 5 9 Try.underlying22 Try.underlying5 Try.underlying9 (some ⟨b, off + (l.length - q), none⟩) q (c - (l.length - q)) t1 HL1.out.symm ((HD.out.below hbel).drewN nq)
    have K2 := fun nq => run_bytes_str (P := Try.prog) (w1.drewN nq) 22 5 9 Try.underlying22 Try.underlying5 Try.underlying9 (some ⟨g, 0, none⟩) q q t2 HL2.out.symm (hR.drewN nq)
    have HB := Lib.hid hbel
    clear hF hR hblk hbel
    go_wp2_with fail
    go_quiet (fail)
    go_wp2_with fail
    refine (errnew_any _ _).mono ?_
    rintro e w2 ⟨⟨a, rfl⟩, hbel2⟩
    have HB2 := Lib.hid hbel2
    clear hbel2 K1 K2
    go_wp2
    go_ret2
    have h6 := below_drewN HB.out nq
    exact .inr ⟨HP2.out.trans hbe, a, rfl, h6.trans (HB2.out.mono HB.out.size)⟩
  · go_enter Try.func14, Try.ntmps14
    go_wp2_with fail
    refine (filling_int _ _ (lastB l) q w (by rw [HQ.out]) rfl (by omega)).mono ?_
    rintro e w1 ⟨g, rfl, hg, hblk, hbel⟩
    have h3 := H3.out
    have h5 := H5.out
    have hF : fillRow (lastB l) q q = (bvs t2).toArray := by rw [← HT2.out]; simp [fillRow, bvs]
    have hR : Reads w1 (some ⟨g, 0, none⟩) (bvs t2) := hblk.reads _ 0 (by rw [hF]; simp)
    have K1 := fun nq => run_bytes_str (P := Try.prog) (w1.drewN nq) 22 5 9 Try.underlying22 Try.underlying5 Try.underlying9 (some ⟨b, off + (l.length - q), none⟩) q (c - (l.length - q)) t1 HL1.out.symm ((HD.out.below hbel).drewN nq)
    have K2 := fun nq => run_bytes_str (P := Try.prog) (w1.drewN nq) 22 5 9 Try.underlying22 Try.underlying5 Try.underlying9 (some ⟨g, 0, none⟩) q q t2 HL2.out.symm (hR.drewN nq)
    have HB := Lib.hid hbel
    clear hF hR hblk hbel
    go_wp2_with fail
    go_quiet (fail)
    clear K1 K2
    go_wp2
    go_ret2
    have h6 := below_drewN HB.out nq
    exact .inl ⟨HP2.out.trans hbe, rfl, h6⟩

theorem unpadBuffer_any (A : Option Addr) (n c s : Nat) (l : List UInt8) (w : World) (hn : n = l.length) (ha : Reads w A (bvs l)) (hlc : n ≤ c) (hs : 1 ≤ s) (hs2 : s ≤ 255) (hb : n ≤ 32768) :
    Calls Try.prog 14 #[.slice A n c, .int .i64 (s : Int)] w fun e w' => UnpadPost (isPad l s) A (unpadded l).length c w w' e := by
  subst hn
  have hu : (unpadded l).length = l.length - (lastB l).toNat := by simp [unpadded]
  rw [hu]
  by_cases h0 : 0 < l.length
  · by_cases h : l.length % s = 0
    · by_cases hq : (lastB l).toNat = 0 ∨ s < (lastB l).toNat
      · have hP : isPad l s = false := by
          rcases hq with h1 | h1
          · exact isPad_zero h1
          · exact isPad_big h1
        exact (unpadBuffer_off A c s _ l w ha h0 h hs hs2 hb rfl hq).mono fun e w' he => .inr ⟨hP, he⟩
      · exact unpadBuffer_loop A c s _ l w ha h0 hlc h hs hs2 hb rfl (by omega) (by omega)
    · exact (unpadBuffer_mod A c s l w h0 h hs hs2 hb).mono fun e w' he => .inr ⟨isPad_len h, he⟩
  · obtain rfl : l = [] := List.eq_nil_of_length_eq_zero (by omega)
    exact (unpadBuffer_nil A c s w).mono fun e w' he => .inr ⟨isPad_nil s, he⟩

end Go.Proofs.Ytkhmkpbeanecdaa
