/-
  The walks of the small functions: same, Clone, few. Each says what the function returns and that what was in memory stays.
-/
import Derived.Test.YtekjfplcibnafaaRows
import Derived.Test.YtekjfplcibnafaaMem
import Derived.Outline
import Derived.Handy
namespace Go.Proofs.Ytekjfplcibnafaa
open Go.RowKit

theorem info5 : (Try.prog.info? 5).map (fun i => (i.zero, i.size, i.bytes)) = some (some (.int .u8 0), 1, 1) := by kernel_rfl
theorem info22 : (Try.prog.info? 22).map (fun i => (i.zero, i.size, i.bytes)) = some (some (.slice none 0 0), 1, 24) := by kernel_rfl

theorem same_any (A C : Option Addr) (n c m d : Nat) (l k : List UInt8) (w : World) (hn : n = l.length) (hm : m = k.length) (ha : Reads w A (bvs l)) (hc : Reads w C (bvs k)) :
    Calls Try.prog 8 #[.slice A n c, .slice C m d] w fun e w' => e = .returned (.bool (l == k)) ∧ w = w' := by
  subst hn hm
  have k1 := run_bytes_str (P := Try.prog) w 22 5 9 Try.underlying22 Try.underlying5 Try.underlying9 A l.length c l rfl ha
  have k2 := run_bytes_str (P := Try.prog) w 22 5 9 Try.underlying22 Try.underlying5 Try.underlying9 C k.length d k rfl hc
  clear ha hc
  go_enter Try.func8, Try.ntmps8
  go_wp2
  go_ret
  exact ⟨rfl, rfl⟩

theorem clone_any (A : Option Addr) (n c : Nat) (l : List UInt8) (w : World) (hn : n = l.length) (ha : Reads w A (bvs l)) (hb : n ≤ 1048576) :
    Calls Try.prog 12 #[.slice A n c] w fun e w' => ∃ v', e = .returned v' ∧ w'.ownsRow w.heap.size 5 1 v' n (bvs l) ∧ Below w.heap.size w w' := by
  obtain ⟨i0, hi0, hz0, hz1, hz2⟩ := info_parts info5
  subst hn
  rcases A with _ | ad
  · have hl : l = [] := by
      rcases l with _ | ⟨x, r⟩
      · rfl
      · obtain ⟨_, h, _⟩ := ha (by simp [bvs])
        cases h
    subst hl
    have hk : (binOp .eql 22 (.slice none 0 c) (.slice none 0 0)).run Try.prog w = .ok (.bool true) w := Lib.run_eql_slice_nil (P := Try.prog) w 22 5 none _ c _ _ Try.underlying22
    go_enter Try.func12, Try.ntmps12
    go_wp2
    go_ret
    exact ⟨_, rfl, World.ownsRow_nil _ _ _ _, Below.refl _ _⟩
  · have hk : (binOp .eql 22 (.slice (some ad) l.length c) (.slice none 0 0)).run Try.prog w = .ok (.bool false) w := Lib.run_eql_slice_nil (P := Try.prog) w 22 5 (some ad) _ c _ _ Try.underlying22
    have hown : (w.alloc (.cells #[] 5)).ownsRow w.heap.size 5 1 (.slice (some ⟨w.heap.size, 0, none⟩) 0 0) 0 [] := World.ownsRow_made w #[] 0 (Nat.le_refl _) (by decide) rfl
    have ha' := ha.alloc (.cells #[] 5)
    go_enter Try.func12, Try.ntmps12
    go_wp2_with (at_builtin; refine wpList_append_any _ rfl (.tmp 5) (.tmp 6) 22 rfl w.heap.size 5 i0 _ 1 Try.underlying22 hi0 hz0 hz1 hz2 rfl (.slice (some ⟨w.heap.size, 0, none⟩) 0 0) 0 [] rfl hown (some ad) l.length c (bvs l) rfl (bvs_len l).symm ha' (bvs_one l) (by simp only [maxLen]; omega) (by omega) (by simp) ?_; intro v1 w1 hown1 hg1 _)
    go_ret
    refine ⟨_, rfl, by simpa using hown1, ?_⟩
    exact ((Below.refl _ _).alloc (Nat.le_refl _) _).grown hg1 (by simp) (fun k hk => by simp [Value.ownBlock] at hk; omega)

theorem few_one (ad : Addr) (A : Option Addr) (n c : Nat) (w : World) (hc : w.cell? ad = some (.slice A n c)) (hn : n ≤ 2147483647) :
    Calls Try.prog 4 #[.slice (some ad) 1 1] w fun e w' => e = .returned (.bool (decide (n ≤ 2048))) ∧ w = w' := by
  by_cases h : n ≤ 2048
  · have h2 : decide (n ≤ 2048) = true := by simpa using h
    go_enter Try.func4, Try.ntmps4
    go_wp2
    go_rounds 2
    go_ret
    exact ⟨by simp [h], rfl⟩
  · have h2 : decide (n ≤ 2048) = false := by simpa using h
    go_enter Try.func4, Try.ntmps4
    go_wp2
    go_rounds 2
    go_ret
    exact ⟨by simp [h], rfl⟩

end Go.Proofs.Ytekjfplcibnafaa
