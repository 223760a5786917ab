/-
  The walk of the law FnPad: it returns true, and nothing that was there is written.
-/
import Derived.Test.YtkhmkpbeanecdaaWg
namespace Go.Proofs.Ytkhmkpbeanecdaa
open Go.RowKit

theorem fnPad_big (A : Option Addr) (n c : Nat) (a1 : Int) (w : World) (h : 2147483647 < n) (hc : n ≤ 9223372036854775807) :
    Calls Try.prog 4 #[.slice A n c, .int .i64 a1] w fun e w' => LawTrue w w' e := by
  go_enter Try.func4, Try.ntmps4
  go_wp2
  go_ret
  exact ⟨rfl, Below.refl _ _⟩

theorem fnPad_out (A : Option Addr) (n c : Nat) (a1 : Int) (w : World) (h : n ≤ 2147483647) (ho : 2048 < n ∨ a1 < 1 ∨ 255 < a1) :
    Calls Try.prog 4 #[.slice A n c, .int .i64 a1] w fun e w' => LawTrue w w' e := by
  have hb1 : Below w.heap.size w (w.alloc (.cells #[.slice A n c] 22)) := (Below.refl _ _).alloc (Nat.le_refl _) _
  by_cases h2 : 2048 < n
  · have hd : decide (n ≤ 2048) = false := by simpa using h2
    go_enter Try.func4, Try.ntmps4
    go_wp2_with fail
    refine (few_one _ A n c _ (by simp) h).mono ?_
    rintro e w1 ⟨rfl, rfl⟩
    go_wp2
    go_ret
    exact ⟨rfl, hb1⟩
  · have hd : decide (n ≤ 2048) = true := by simp; omega
    by_cases h3 : a1 < 1
    · go_enter Try.func4, Try.ntmps4
      go_wp2_with fail
      refine (few_one _ A n c _ (by simp) h).mono ?_
      rintro e w1 ⟨rfl, rfl⟩
      go_wp2
      go_ret
      exact ⟨rfl, hb1⟩
    · have h4 : 255 < a1 := by omega
      go_enter Try.func4, Try.ntmps4
      go_wp2_with fail
      refine (few_one _ A n c _ (by simp) h).mono ?_
      rintro e w1 ⟨rfl, rfl⟩
      go_wp2
      go_ret
      exact ⟨rfl, hb1⟩

theorem fnPad_in (A : Option Addr) (c s : Nat) (l : List UInt8) (w : World) (ha : Reads w A (bvs l)) (hb : l.length ≤ 2048) (hs : 1 ≤ s) (hs2 : s ≤ 255) :
    Calls Try.prog 4 #[.slice A l.length c, .int .i64 (s : Int)] w fun e w' => LawTrue w w' e := by
  have hd : decide (l.length ≤ 2048) = true := by simpa using hb
  have hs3 : ¬ (s : Int) < 1 := by omega
  have hs4 : ¬ (255 : Int) < (s : Int) := by omega
  have ha1 := ha.alloc (.cells #[.slice A l.length c] 22)
  have hb1 : Below w.heap.size w (w.alloc (.cells #[.slice A l.length c] 22)) := (Below.refl _ _).alloc (Nat.le_refl _) _
  have hpl : (padded l s).length ≤ 4096 := by have := padded_len l s; have := missing_le (n := l.length) (s := s); omega
  have HE1 := Lib.hid (isPad_padded l s hs hs2)
  have HE2 := Lib.hid (unpadded_padded l s hs hs2)
  have hSP := fun (A : Option Addr) (c : Nat) (w : World) (ha : Reads w A (bvs l)) => specPad_any A _ c s l w rfl ha hs hs2 (by omega)
  have hIP := fun (A : Option Addr) (c : Nat) (w : World) (ha : Reads w A (bvs l)) => implPad_any A _ c s l w rfl ha hs hs2 (by omega)
  generalize padded l s = p at *
  have HSP := Lib.hid hSP
  have HIP := Lib.hid hIP
  clear hSP hIP
  go_enter Try.func4, Try.ntmps4
  go_wp2_with fail
  refine (few_one _ A l.length c _ (by simp) (by omega)).mono ?_
  rintro e w1 ⟨rfl, rfl⟩
  generalize w.alloc (.cells #[.slice A l.length c] 22) = w1 at *
  go_wp2_with fail
  refine (HSP.out A c w1 ha1).mono ?_
  rintro e w2 ⟨v, rfl, hown2, hbel2⟩
  obtain ⟨A2, c2, rfl⟩ := own_form hown2
  have ha2 := ha1.below hbel2
  have hr2 := Reads.of_own hown2
  have hb2 : Below w.heap.size w w2 := hb1.trans (hbel2.mono hb1.size)
  clear ha ha1 hown2 hbel2 hb1
  go_wp2_with fail
  have h3 := implUnpad_any A2 _ c2 s p w2 rfl hr2 hs hs2 (by omega)
  rw [HE1.out, HE2.out] at h3
  refine h3.mono ?_
  clear h3 hr2
  rintro e w3 (⟨_, v, rfl, hown3, hbel3⟩ | ⟨hp, _⟩)
  · obtain ⟨A3, c3, rfl⟩ := own_form hown3
    have ha3 := ha2.below hbel3
    have hr3 := Reads.of_own hown3
    have hb3 : Below w.heap.size w w3 := hb2.trans (hbel3.mono hb2.size)
    clear ha2 hown3 hbel3 hb2
    go_wp2_with fail
    refine (HIP.out A c w3 ha3).mono ?_
    rintro e w4 ⟨v4, rfl, hown4, hbel4⟩
    obtain ⟨A4, c4, rfl⟩ := own_form hown4
    have ha4 := ha3.below hbel4
    have hr4 := hr3.below hbel4
    have hp4 := Reads.of_own hown4
    have hb4 : Below w.heap.size w w4 := hb3.trans (hbel4.mono hb3.size)
    clear ha3 hr3 hown4 hbel4 hb3
    go_wp2_with fail
    refine (HSP.out A c w4 ha4).mono ?_
    rintro e w5 ⟨v5, rfl, hown5, hbel5⟩
    obtain ⟨A5, c5, rfl⟩ := own_form hown5
    have ha5 := ha4.below hbel5
    have hr5 := hr4.below hbel5
    have hp5 := hp4.below hbel5
    have hq5 := Reads.of_own hown5
    have hb5 : Below w.heap.size w w5 := hb4.trans (hbel5.mono hb4.size)
    clear ha4 hr4 hp4 hown5 hbel5 hb4
    go_wp2_with fail
    refine (same_any A4 A5 _ c4 _ c5 p p w5 rfl rfl hp5 hq5).mono ?_
    rintro e w6 ⟨rfl, rfl⟩
    have h6 : (p == p) = true := by simp
    rw [h6]
    go_wp2_with fail
    refine (same_any A3 A _ c3 _ c l l w5 rfl rfl hr5 ha5).mono ?_
    rintro e w6 ⟨rfl, rfl⟩
    have h7 : (l == l) = true := by simp
    rw [h7]
    go_wp2
    go_ret
    exact ⟨rfl, hb5⟩
  · exact absurd hp (by decide)

theorem fnPad_walk (A : Option Addr) (n c : Nat) (a1 : Int) (l : List UInt8) (w : World) (hn : n = l.length) (ha : Reads w A (bvs l)) (hlc : n ≤ c) (hc : c ≤ maxLen) :
    Calls Try.prog 4 #[.slice A n c, .int .i64 a1] w fun e w' => LawTrue w w' e := by
  unfold maxLen at hc
  by_cases h : 2147483647 < n
  · exact fnPad_big A n c a1 w h (by omega)
  · by_cases ho : 2048 < n ∨ a1 < 1 ∨ 255 < a1
    · exact fnPad_out A n c a1 w (by omega) ho
    · obtain ⟨s, rfl⟩ := Int.eq_ofNat_of_zero_le (show 0 ≤ a1 by omega)
      subst hn
      exact fnPad_in A c s l w ha (by omega) (by omega) (by omega)

end Go.Proofs.Ytkhmkpbeanecdaa
