/-
  The walk of the law FnBase64: it returns true, and nothing that was there is written.
-/
import Derived.Test.YtekjfplcibnafaaWh
import Derived.Test.YtekjfplcibnafaaWk
namespace Go.Proofs.Ytekjfplcibnafaa
open Go.RowKit

theorem zzjoin_any (gi n c : Nat) (A : Option Addr) (l : List UInt8) (w : World) (hn : n = l.length) (hA : Reads w A (bvs l)) (hi : w.cell? ⟨gi, 0, none⟩ = some (.slice A n c)) (hgi : gi < w.heap.size) (hb : n ≤ 4096) (hc : n ≤ c) :
    Calls Try.prog 11 #[.slice (some ⟨gi, 0, none⟩) 1 1] w fun e w' => e = .returned (.string ⟨(enc l).toArray⟩) ∧ Below w.heap.size w w' := by
  have H := Lib.hid (join_any gi n c A l w hn hA hi hgi hb hc)
  clear hA hi
  go_enter Try.func11, Try.ntmps11
  go_wp2_with fail
  refine H.out.mono ?_
  rintro e w1 ⟨rfl, hb1⟩
  go_wp2
  go_ret
  exact ⟨rfl, hb1⟩

/-- An owned slice is a slice value, with room for its elements. -/
theorem own_form2 {w : World} {base : Nat} {e : TypeId} {v : Value} {n : Nat} {xs : List Value} (h : w.ownsRow base e 1 v n xs) : ∃ A c, v = .slice A n c ∧ n ≤ c := by
  rcases own_blk h with ⟨rfl, rfl⟩ | ⟨g, cap, cur, rfl, _, _, hle, _⟩
  · exact ⟨none, 0, rfl, Nat.le_refl _⟩
  · exact ⟨_, _, rfl, hle⟩

theorem implBase64_any (A : Option Addr) (n c : Nat) (l : List UInt8) (w : World) (hn : n = l.length) (hA : Reads w A (bvs l)) (hb : n ≤ 4096) :
    Calls Try.prog 7 #[.slice A n c] w fun e w' => e = .returned (.string ⟨(enc l).toArray⟩) ∧ Below w.heap.size w w' := by
  have H := Lib.hid (clone_any A n c l w hn hA (by omega))
  have HN := Lib.hid hn
  clear hA hn
  go_enter Try.func7, Try.ntmps7
  go_wp2_with fail
  refine H.out.mono ?_
  rintro e w1 ⟨v, rfl, hown, hb1⟩
  obtain ⟨A1, c1, rfl, hle⟩ := own_form2 hown
  have hr := Reads.of_own hown
  have hcell : (w1.alloc (.cells #[.slice A1 n c1] 22)).cell? ⟨w1.heap.size, 0, none⟩ = some (.slice A1 n c1) := (Blk.new w1 22 #[.slice A1 n c1]).cell 0
  have hlt : w1.heap.size < (w1.alloc (.cells #[.slice A1 n c1] 22)).heap.size := by simp
  have hb2 : Below w.heap.size w (w1.alloc (.cells #[.slice A1 n c1] 22)) := hb1.alloc hb1.size _
  have H2 := Lib.hid (zzjoin_any w1.heap.size n c1 A1 l _ HN.out (hr.alloc _) hcell hlt hb hle)
  clear hown hr hcell
  go_wp2_with fail
  refine H2.out.mono ?_
  rintro e w2 ⟨rfl, hb3⟩
  go_wp2
  go_ret
  exact ⟨rfl, hb2.trans (hb3.mono hb2.size)⟩

/-- What a law's walk shows. -/
def LawTrue (w w' : World) (e : Ending) : Prop := e = .returned (.bool true) ∧ Below w.heap.size w w'

theorem fnBase64_big (A : Option Addr) (n c : Nat) (w : World) (h : 2147483647 < n) (hc : n ≤ 9223372036854775807) :
    Calls Try.prog 3 #[.slice A n c] w fun e w' => LawTrue w w' e := by
  go_enter Try.func3, Try.ntmps3
  go_wp2
  go_ret
  exact ⟨rfl, Below.refl _ _⟩

theorem fnBase64_out (A : Option Addr) (n c : Nat) (w : World) (h : n ≤ 2147483647) (ho : 2048 < n) :
    Calls Try.prog 3 #[.slice A n c] w fun e w' => LawTrue w w' e := by
  have hb1 : Below w.heap.size w (w.alloc (.cells #[.slice A n c] 22)) := (Below.refl _ _).alloc (Nat.le_refl _) _
  have hd : decide (n ≤ 2048) = false := by simpa using ho
  go_enter Try.func3, Try.ntmps3
  go_wp2_with fail
  refine (few_one _ A n c _ (by simp) h).mono ?_
  rintro e w1 ⟨rfl, rfl⟩
  go_wp2
  go_ret
  exact ⟨rfl, hb1⟩

theorem fnBase64_in (A : Option Addr) (c : Nat) (l : List UInt8) (w : World) (ha : Reads w A (bvs l)) (hb : l.length ≤ 2048) :
    Calls Try.prog 3 #[.slice A l.length c] w fun e w' => LawTrue w w' e := by
  have hd : decide (l.length ≤ 2048) = true := by simpa using hb
  have ha1 := ha.alloc (.cells #[.slice A l.length c] 22)
  have hb1 : Below w.heap.size w (w.alloc (.cells #[.slice A l.length c] 22)) := (Below.refl _ _).alloc (Nat.le_refl _) _
  have HSP := Lib.hid fun (A : Option Addr) (c : Nat) (w : World) (ha : Reads w A (bvs l)) => specBase64_any A _ c l w rfl ha (by omega)
  have HIP := Lib.hid fun (A : Option Addr) (c : Nat) (w : World) (ha : Reads w A (bvs l)) => implBase64_any A _ c l w rfl ha (by omega)
  have HOF := Lib.hid fun (w : World) => base64Of_any ⟨(enc l).toArray⟩ l w (by simp) (by omega)
  generalize (enc l).toArray = s at *
  go_enter Try.func3, Try.ntmps3
  go_wp2_with fail
  refine (few_one _ A l.length c _ (by simp) (by omega)).mono ?_
  rintro e w1 ⟨rfl, rfl⟩
  generalize w.alloc (.cells #[.slice A l.length c] 22) = w1 at *
  go_wp2_with fail
  refine (HSP.out A c w1 ha1).mono ?_
  rintro e w2 ⟨rfl, hbel2⟩
  have ha2 := ha1.below hbel2
  have hb2 : Below w.heap.size w w2 := hb1.trans (hbel2.mono hb1.size)
  clear ha ha1 hbel2 hb1
  go_wp2_with fail
  refine (HOF.out w2).mono ?_
  rintro e w3 ⟨A3, c3, rfl, hr3, hbel3⟩
  have ha3 := ha2.below hbel3
  have hb3 : Below w.heap.size w w3 := hb2.trans (hbel3.mono hb2.size)
  clear ha2 hbel3 hb2
  go_wp2_with fail
  refine (HIP.out A c w3 ha3).mono ?_
  rintro e w4 ⟨rfl, hbel4⟩
  have ha4 := ha3.below hbel4
  have hr4 := hr3.below hbel4
  have hb4 : Below w.heap.size w w4 := hb3.trans (hbel4.mono hb3.size)
  clear ha3 hr3 hbel4 hb3
  go_wp2_with fail
  refine (HSP.out A c w4 ha4).mono ?_
  rintro e w5 ⟨rfl, hbel5⟩
  have ha5 := ha4.below hbel5
  have hr5 := hr4.below hbel5
  have hb5 : Below w.heap.size w w5 := hb4.trans (hbel5.mono hb4.size)
  clear ha4 hr4 hbel5 hb4
  go_wp2_with fail
  refine (same_any A3 A _ c3 _ c l l w5 rfl rfl hr5 ha5).mono ?_
  rintro e w6 ⟨rfl, rfl⟩
  have h7 : (l == l) = true := by simp
  rw [h7]
  go_wp2
  go_ret
  exact ⟨rfl, hb5⟩

theorem fnBase64_walk (A : Option Addr) (n c : Nat) (l : List UInt8) (w : World) (hn : n = l.length) (ha : Reads w A (bvs l)) (hlc : n ≤ c) (hc : c ≤ maxLen) :
    Calls Try.prog 3 #[.slice A n c] w fun e w' => LawTrue w w' e := by
  unfold maxLen at hc
  by_cases h : 2147483647 < n
  · exact fnBase64_big A n c w h (by omega)
  · by_cases ho : 2048 < n
    · exact fnBase64_out A n c w (by omega) ho
    · subst hn
      exact fnBase64_in A c l w ha (by omega)

end Go.Proofs.Ytekjfplcibnafaa
