/-
  The walk of the law FnUnpad: it returns true, and nothing that was there is written.
-/
import Derived.Test.YtkhmkpbeanecdaaWf
namespace Go.Proofs.Ytkhmkpbeanecdaa
open Go.RowKit

theorem implUnpad_int (A : Option Addr) (n c s : Nat) (S : Int) (l : List UInt8) (w : World) (hS : S = (s : Int)) (hn : n = l.length) (ha : Reads w A (bvs l)) (hs : 1 ≤ s) (hs2 : s ≤ 255) (hb : n ≤ 32768) :
    Calls Try.prog 6 #[.slice A n c, .int .i64 S] w fun e w' => ImplUnpad (isPad l s) (unpadded l) w w' e := by
  subst hS
  exact implUnpad_any A n c s l w hn ha hs hs2 hb

/-- What a law's walk shows. -/
def LawTrue (w w' : World) (e : Ending) : Prop := e = .returned (.bool true) ∧ Below w.heap.size w w'

theorem fnUnpad_big (A : Option Addr) (n c : Nat) (a1 : Int) (w : World) (h : 2147483647 < n) (hc : n ≤ 9223372036854775807) :
    Calls Try.prog 3 #[.slice A n c, .int .i64 a1] w fun e w' => LawTrue w w' e := by
  go_enter Try.func3, Try.ntmps3
  go_wp2
  go_ret
  exact ⟨rfl, Below.refl _ _⟩

theorem fnUnpad_out (A : Option Addr) (n c : Nat) (a1 : Int) (w : World) (h : n ≤ 2147483647) (ho : 2048 < n ∨ a1 < 1 ∨ 255 < a1) :
    Calls Try.prog 3 #[.slice A n c, .int .i64 a1] w fun e w' => LawTrue w w' e := by
  have hb1 : Below w.heap.size w (w.alloc (.cells #[.slice A n c] 22)) := (Below.refl _ _).alloc (Nat.le_refl _) _
  by_cases h2 : 2048 < n
  · have hd : decide (n ≤ 2048) = false := by simpa using h2
    go_enter Try.func3, Try.ntmps3
    go_wp2_with fail
    refine (few_one _ A n c _ (by simp) h).mono ?_
    rintro e w1 ⟨rfl, rfl⟩
    go_wp2
    go_ret
    exact ⟨rfl, hb1⟩
  · have hd : decide (n ≤ 2048) = true := by simp; omega
    by_cases h3 : a1 < 1
    · go_enter Try.func3, Try.ntmps3
      go_wp2_with fail
      refine (few_one _ A n c _ (by simp) h).mono ?_
      rintro e w1 ⟨rfl, rfl⟩
      go_wp2
      go_ret
      exact ⟨rfl, hb1⟩
    · have h4 : 255 < a1 := by omega
      go_enter Try.func3, Try.ntmps3
      go_wp2_with fail
      refine (few_one _ A n c _ (by simp) h).mono ?_
      rintro e w1 ⟨rfl, rfl⟩
      go_wp2
      go_ret
      exact ⟨rfl, hb1⟩

theorem fnUnpad_in (A : Option Addr) (c s : Nat) (l : List UInt8) (w : World) (ha : Reads w A (bvs l)) (hlc : l.length ≤ c) (hb : l.length ≤ 2048) (hs : 1 ≤ s) (hs2 : s ≤ 255) :
    Calls Try.prog 3 #[.slice A l.length c, .int .i64 (s : Int)] w fun e w' => LawTrue w w' e := by
  have hd : decide (l.length ≤ 2048) = true := by simpa using hb
  have hs3 : ¬ (s : Int) < 1 := by omega
  have hs4 : ¬ (255 : Int) < (s : Int) := by omega
  have ha1 := ha.alloc (.cells #[.slice A l.length c] 22)
  have hb1 : Below w.heap.size w (w.alloc (.cells #[.slice A l.length c] 22)) := (Below.refl _ _).alloc (Nat.le_refl _) _
  go_enter Try.func3, Try.ntmps3
  go_wp2_with fail
  refine (few_one _ A l.length c _ (by simp) (by omega)).mono ?_
  rintro e w1 ⟨rfl, rfl⟩
  generalize w.alloc (.cells #[.slice A l.length c] 22) = w1 at *
  go_wp2_with fail
  refine (implUnpad_any A _ c s l w1 rfl ha1 hs hs2 (by omega)).mono ?_
  rintro e w2 (⟨hp, v, rfl, hown2, hbel2⟩ | ⟨hp, rfl, hbel2⟩)
  · obtain ⟨A2, c2, rfl⟩ := own_form hown2
    have HP := Lib.hid hp
    have ha2 := ha1.below hbel2
    have hr2 := Reads.of_own hown2
    have hu : (unpadded l).length ≤ l.length := by simp [unpadded]
    have hb2 : Below w.heap.size w w2 := hb1.trans (hbel2.mono hb1.size)
    clear hp ha ha1 hown2 hbel2 hb1
    have ha3 := ha2.alloc (.cells #[.int .u8 1] 5)
    have hr3 := hr2.alloc (.cells #[.int .u8 1] 5)
    have hb3 := hb2.alloc hb2.size (.cells #[.int .u8 1] 5)
    have hone : Reads (w2.alloc (.cells #[.int .u8 1] 5)) (some ⟨w2.heap.size, 0, none⟩) (bvs [1]) := (Blk.new w2 5 #[.int .u8 1]).reads _ 0 rfl
    go_wp2_with fail
    generalize w2.alloc (.cells #[.int .u8 1] 5) = w3 at *
    refine (implUnpad_int _ 1 1 1 1 [1] w3 rfl rfl hone (by omega) (by omega) (by omega)).mono ?_
    clear ha2 hr2 hb2 hone
    rintro e w4 (⟨_, v4, rfl, _, hbel4⟩ | ⟨hp4, _⟩)
    · have ha4 := ha3.below hbel4
      have hr4 := hr3.below hbel4
      have hb4 := hb3.trans (hbel4.mono hb3.size)
      clear ha3 hr3 hb3 hbel4
      go_wp2_with fail
      have h5 := isPadded_any A _ c s l w4 rfl ha4 hlc hs hs2 (by omega)
      rw [HP.out] at h5
      refine h5.mono ?_
      clear h5
      rintro e w5 ⟨rfl, rfl⟩
      go_wp2_with fail
      refine (specPad_any A2 _ c2 s (unpadded l) w4 rfl hr4 hs hs2 (by omega)).mono ?_
      rintro e w5 ⟨v5, rfl, hown5, hbel5⟩
      obtain ⟨A5, c5, rfl⟩ := own_form hown5
      have hr5 := Reads.of_own hown5
      have ha5 := ha4.below hbel5
      have hb5 := hb4.trans (hbel5.mono hb4.size)
      clear ha4 hr4 hb4 hbel5 hown5
      have HE := Lib.hid (padded_unpadded HP.out)
      go_wp2_with fail
      have h6 := same_any A5 A _ c5 _ c (padded (unpadded l) s) l w5 rfl rfl hr5 ha5
      refine h6.mono ?_
      clear h6 hr5 ha5
      rintro e w6 ⟨rfl, rfl⟩
      have h7 : (padded (unpadded l) s == l) = true := by rw [HE.out]; simp
      rw [h7]
      go_wp2
      go_ret
      exact ⟨rfl, hb5⟩
    · exact absurd hp4 (by decide)
  · have HP := Lib.hid hp
    have ha2 := ha1.below hbel2
    have hb2 : Below w.heap.size w w2 := hb1.trans (hbel2.mono hb1.size)
    clear hp ha ha1 hbel2 hb1
    have ha3 := ha2.alloc (.cells #[.int .u8 1] 5)
    have hb3 := hb2.alloc hb2.size (.cells #[.int .u8 1] 5)
    have hone : Reads (w2.alloc (.cells #[.int .u8 1] 5)) (some ⟨w2.heap.size, 0, none⟩) (bvs [1]) := (Blk.new w2 5 #[.int .u8 1]).reads _ 0 rfl
    go_wp2_with fail
    generalize w2.alloc (.cells #[.int .u8 1] 5) = w3 at *
    refine (implUnpad_int _ 1 1 1 1 [1] w3 rfl rfl hone (by omega) (by omega) (by omega)).mono ?_
    clear ha2 hb2 hone
    rintro e w4 (⟨_, v4, rfl, _, hbel4⟩ | ⟨hp4, _⟩)
    · have ha4 := ha3.below hbel4
      have hb4 := hb3.trans (hbel4.mono hb3.size)
      clear ha3 hb3 hbel4
      go_wp2_with fail
      have h5 := isPadded_any A _ c s l w4 rfl ha4 hlc hs hs2 (by omega)
      rw [HP.out] at h5
      refine h5.mono ?_
      clear h5
      rintro e w5 ⟨rfl, rfl⟩
      go_wp2
      go_ret
      exact ⟨rfl, hb4⟩
    · exact absurd hp4 (by decide)

theorem fnUnpad_walk (A : Option Addr) (n c : Nat) (a1 : Int) (l : List UInt8) (w : World) (hn : n = l.length) (ha : Reads w A (bvs l)) (hlc : n ≤ c) (hc : c ≤ maxLen) :
    Calls Try.prog 3 #[.slice A n c, .int .i64 a1] w fun e w' => LawTrue w w' e := by
  unfold maxLen at hc
  by_cases h : 2147483647 < n
  · exact fnUnpad_big A n c a1 w h (by omega)
  · by_cases ho : 2048 < n ∨ a1 < 1 ∨ 255 < a1
    · exact fnUnpad_out A n c a1 w (by omega) ho
    · obtain ⟨s, rfl⟩ := Int.eq_ofNat_of_zero_le (show 0 ≤ a1 by omega)
      subst hn
      exact fnUnpad_in A c s l w ha hlc (by omega) (by omega) (by omega)

end Go.Proofs.Ytkhmkpbeanecdaa
