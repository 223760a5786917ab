/-
  The walks of ZZUnpad and of impl's Unpad.
-/
import Derived.Test.YtkhmkpbeanecdaaWe
namespace Go.Proofs.Ytkhmkpbeanecdaa
open Go.RowKit

theorem zzUnpad_any (A : Option Addr) (n c s : Nat) (l : List UInt8) (w : World) (hn : n = l.length) (ha : Reads w A (bvs l)) (hlc : n ≤ c) (hs : 1 ≤ s) (hs2 : s ≤ 255) (hb : n ≤ 32768) :
    Calls Try.prog 11 #[.slice A n c, .int .i64 (s : Int)] w fun e w' => UnpadPost (isPad l s) A (unpadded l).length c w w' e := by
  subst hn
  generalize hm : (unpadded l).length = m
  have HM := Lib.hid hm
  clear hm
  go_enter Try.func11, Try.ntmps11
  go_wp2_with fail
  have h := unpadBuffer_any A _ c s l w rfl ha hlc hs hs2 hb
  rw [HM.out] at h
  refine h.mono ?_
  clear h ha
  rintro e w1 (⟨hp, rfl, hbel⟩ | ⟨hp, a, rfl, hbel⟩)
  · have HP := Lib.hid hp
    clear hp
    go_wp2
    go_ret2
    exact .inl ⟨HP.out, rfl, hbel⟩
  · have HP := Lib.hid hp
    clear hp
    go_wp2
    go_ret2
    exact .inr ⟨HP.out, a, rfl, hbel⟩

/-- What impl's Unpad hands back. -/
def ImplUnpad (p : Bool) (m : List UInt8) (w w' : World) (e : Ending) : Prop :=
  (p = true ∧ ∃ v, e = .returned (.tuple #[v, .bool true]) ∧ w'.ownsRow w.heap.size 5 1 v m.length (bvs m) ∧ Below w.heap.size w w') ∨
  (p = false ∧ e = .returned (.tuple #[.slice none 0 0, .bool false]) ∧ Below w.heap.size w w')

theorem own_mono {w : World} {base base' : Nat} {e : TypeId} {v : Value} {n : Nat} {xs : List Value} (h : w.ownsRow base e 1 v n xs) (hb : base' ≤ base) : w.ownsRow base' e 1 v n xs := by
  refine ⟨h.1, ?_⟩
  rcases h.2 with h2 | ⟨g, cap, cur, hv, hg, r⟩
  · exact .inl h2
  · exact .inr ⟨g, cap, cur, hv, by omega, r⟩

theorem own_cap {w : World} {base : Nat} {e : TypeId} {A : Option Addr} {n c : Nat} {xs : List Value} (h : w.ownsRow base e 1 (.slice A n c) n xs) : n ≤ c := by
  rcases own_blk h with ⟨hv, rfl⟩ | ⟨g, cap, cur, hv, _, _, hnc, _⟩
  · omega
  · injection hv with h1 h2 h3
    omega

theorem implUnpad_any (A : Option Addr) (n c s : Nat) (l : List UInt8) (w : World) (hn : n = l.length) (ha : Reads w A (bvs l)) (hs : 1 ≤ s) (hs2 : s ≤ 255) (hb : n ≤ 32768) :
    Calls Try.prog 6 #[.slice A n c, .int .i64 (s : Int)] w fun e w' => ImplUnpad (isPad l s) (unpadded l) w w' e := by
  subst hn
  have hs3 : ¬ (s : Int) < 1 := by omega
  have hs4 : ¬ (255 : Int) < (s : Int) := by omega
  have hul : (unpadded l).length ≤ l.length := by simp [unpadded]
  generalize hm : unpadded l = m at hul
  have HM := Lib.hid hm
  clear hm
  go_enter Try.func6, Try.ntmps6
  go_wp2_with fail
  refine (clone_any A _ c l w rfl ha (by omega)).mono ?_
  rintro e w1 ⟨v, rfl, hown1, hbel1⟩
  obtain ⟨A1, c1, rfl⟩ := own_form hown1
  clear ha
  have hcap := own_cap hown1
  have hr1 := Reads.of_own hown1
  go_wp2_with fail
  have h := zzUnpad_any A1 _ c1 s l w1 rfl hr1 hcap hs hs2 hb
  rw [HM.out] at h
  refine h.mono ?_
  clear h hown1
  rintro e w2 (⟨hp, rfl, hbel2⟩ | ⟨hp, a, rfl, hbel2⟩)
  · have HP := Lib.hid hp
    have hr2 : Reads w2 A1 (bvs m) := by
      have h2 := (hr1.below hbel2).take m.length
      have e2 : (bvs l).take m.length = bvs m := by
        rw [← HM.out]
        simp [bvs, unpadded, List.map_take]
      rw [e2] at h2
      exact h2
    have HR := Lib.hid hr2
    clear hp hr1 hr2
    go_wp2_with fail
    refine (clone_any A1 _ c1 m w2 rfl HR.out (by omega)).mono ?_
    rintro e w3 ⟨v, rfl, hown3, hbel3⟩
    have HO := Lib.hid hown3
    clear hown3
    go_wp2
    go_ret2
    have hb2 := hbel1.trans (hbel2.mono hbel1.size)
    exact .inl ⟨HP.out, v, rfl, own_mono HO.out hb2.size, hb2.trans (hbel3.mono hb2.size)⟩
  · have HP := Lib.hid hp
    clear hp hr1
    go_wp2
    go_ret2
    exact .inr ⟨HP.out, rfl, hbel1.trans (hbel2.mono hbel1.size)⟩

end Go.Proofs.Ytkhmkpbeanecdaa
