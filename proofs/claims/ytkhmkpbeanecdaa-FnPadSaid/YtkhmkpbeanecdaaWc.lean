/-
  The walks of the reference's Pad, and of impl's Pad down to padBuffer: both return the bytes filled up.
-/
import Derived.Test.YtkhmkpbeanecdaaWb
namespace Go.Proofs.Ytkhmkpbeanecdaa
open Go.RowKit

theorem specPad_any (A : Option Addr) (n c s : Nat) (l : List UInt8) (w : World) (hn : n = l.length) (ha : Reads w A (bvs l)) (hs : 1 ≤ s) (hs2 : s ≤ 255) (hb : n ≤ 32768) :
    Calls Try.prog 9 #[.slice A n c, .int .i64 (s : Int)] w fun e w' => ∃ v', e = .returned v' ∧ w'.ownsRow w.heap.size 5 1 v' (padded l s).length (bvs (padded l s)) ∧ Below w.heap.size w w' := by
  subst hn
  obtain ⟨i0, hi0, hz0, hz1, hz2⟩ := info_parts info5
  obtain ⟨r, hr⟩ : ∃ r, l.length % s = r := ⟨_, rfl⟩
  have hrI : ((l.length : Nat) : Int) % ((s : Nat) : Int) = (r : Int) := by rw [← hr]; omega
  have hrs : r < s := by rw [← hr]; exact Nat.mod_lt _ (by omega)
  have hp : padded l s = l ++ List.replicate (s - r) (UInt8.ofNat (s - r)) := by rw [padded, missing, hr]
  rw [hp]
  clear hp hr
  have hB : (UInt8.ofNat (s - r)).toNat = s - r := by simp; omega
  have HB := Lib.hid hB
  clear hB
  generalize hb0 : UInt8.ofNat (s - r) = b0 at HB
  clear hb0
  have hown : (w.alloc (.cells #[] 5)).ownsRow w.heap.size 5 1 (.slice (some ⟨w.heap.size, 0, none⟩) 0 0) 0 [] := World.ownsRow_made w #[] 0 (Nat.le_refl _) (by decide) rfl
  have ha' := ha.alloc (.cells #[] 5)
  go_enter Try.func9, Try.ntmps9
  go_wp2_with (at_builtin; refine wpList_append_any _ rfl (.tmp 14) (.tmp 15) 22 rfl w.heap.size 5 i0 _ 1 Try.underlying22 hi0 hz0 hz1 hz2 rfl (.slice (some ⟨w.heap.size, 0, none⟩) 0 0) 0 [] rfl hown A l.length c (bvs l) rfl (bvs_len l).symm ha' (bvs_one l) (by simp only [maxLen]; omega) (by omega) (by simp) ?_; intro v1 w1 hown1 hg1 _)
  rw [Nat.zero_add, List.nil_append] at hown1
  have hbel1 : Below w.heap.size w w1 := ((Below.refl _ _).alloc (Nat.le_refl _) _).grown hg1 (by simp) (fun k hk => by simp [Value.ownBlock] at hk; omega)
  clear hown ha' hg1
  go_loopw [6, 7] (fun v i wr => ∃ k : Nat, k ≤ s - r ∧ i = .int .i64 k ∧ wr.ownsRow w.heap.size 5 1 v (l.length + k) (bvs l ++ List.replicate k (bv b0)) ∧ Below w.heap.size w wr) (fun _ i _ => (s - r) - (intOf i).toNat)
  case atStart => exact ⟨0, Nat.zero_le _, rfl, by simpa using hown1, hbel1⟩
  case round =>
    clear hown1 hbel1
    obtain ⟨k, hk, rfl, hown, hbel⟩ := hrel
    by_cases hlt : k < s - r
    · have hR : Reads (wr.alloc (.cells #[.int .u8 ((s : Int) - (r : Int))] 5)) (some ⟨wr.heap.size, 0, none⟩) [bv b0] := by
        have h1 : ((s : Int) - (r : Int)) = (b0.toNat : Int) := by rw [HB.out]; omega
        rw [h1]
        exact (Blk.new wr 5 #[.int .u8 (b0.toNat : Int)]).reads _ 0 rfl
      have HR := Lib.hid hR
      have hsz := hbel.size
      clear hR
      go_wp2_with (at_builtin; refine wpList_append_any _ rfl (.tmp 22) (.tmp 25) 22 rfl w.heap.size 5 i0 _ 1 Try.underlying22 hi0 hz0 hz1 hz2 rfl _ _ _ rfl (hown.alloc _) (some ⟨wr.heap.size, 0, none⟩) 1 1 [bv b0] rfl rfl HR.out (by intro u hu; rw [List.mem_singleton] at hu; rw [hu]; exact bv_one _) (by simp only [maxLen]; omega) (by omega) (by simp; omega) ?_; intro v2 w2 hown2 hg2 _)
      have hbel2 : Below w.heap.size w w2 := (hbel.alloc hsz _).grown hg2 (by simp; omega) (fun k hk => (hown.lt k hk).1)
      have hown3 : w2.ownsRow w.heap.size 5 1 v2 (l.length + (k + 1)) (bvs l ++ List.replicate (k + 1) (bv b0)) := by
        have e : bvs l ++ List.replicate (k + 1) (bv b0) = (bvs l ++ List.replicate k (bv b0)) ++ [bv b0] := by rw [List.replicate_succ', List.append_assoc]
        rw [e, ← Nat.add_assoc]
        exact hown2
      clear hown2 hg2 hown hbel
      go_wp2
      go_roundw
      case rel => exact ⟨k + 1, by omega, by go_num, hown3, hbel2⟩
      case measure => simp [intOf]; omega
    · obtain rfl : k = s - r := by omega
      go_wp2
      go_ret
      refine ⟨_, rfl, ?_, hbel⟩
      rw [bvs_append]
      have h3 : bvs (List.replicate (s - r) b0) = List.replicate (s - r) (bv b0) := by simp [bvs]
      rw [h3, List.length_append, List.length_replicate]
      exact hown

theorem zzPad_any (A : Option Addr) (n c s base : Nat) (l : List UInt8) (w : World) (hn : n = l.length) (hown : w.ownsRow base 5 1 (.slice A n c) n (bvs l)) (hs : 1 ≤ s) (hs2 : s ≤ 255) (hb : n ≤ 32768) (hbase : base ≤ w.heap.size) :
    Calls Try.prog 13 #[.slice A n c, .int .i64 (s : Int)] w fun e w' => ∃ v', e = .returned v' ∧ w'.ownsRow base 5 1 v' (padded l s).length (bvs (padded l s)) ∧ Below base w w' := by
  subst hn
  go_enter Try.func13, Try.ntmps13
  go_wp2_with fail
  refine (padBuffer_any A _ c s base l w rfl hown hs hs2 hb hbase).mono ?_
  rintro e w1 ⟨v, rfl, hown1, hbel1⟩
  clear hown
  go_wp2
  go_ret
  exact ⟨_, rfl, hown1, hbel1⟩

/-- An owned slice is a slice value. -/
theorem own_form {w : World} {base : Nat} {e : TypeId} {v : Value} {n : Nat} {xs : List Value} (h : w.ownsRow base e 1 v n xs) : ∃ A c, v = .slice A n c := by
  rcases own_blk h with ⟨rfl, rfl⟩ | ⟨g, cap, cur, rfl, _⟩
  · exact ⟨none, 0, rfl⟩
  · exact ⟨_, _, rfl⟩

theorem implPad_any (A : Option Addr) (n c s : Nat) (l : List UInt8) (w : World) (hn : n = l.length) (ha : Reads w A (bvs l)) (hs : 1 ≤ s) (hs2 : s ≤ 255) (hb : n ≤ 32768) :
    Calls Try.prog 10 #[.slice A n c, .int .i64 (s : Int)] w fun e w' => ∃ v', e = .returned v' ∧ w'.ownsRow w.heap.size 5 1 v' (padded l s).length (bvs (padded l s)) ∧ Below w.heap.size w w' := by
  subst hn
  have hs3 : ¬ (s : Int) < 1 := by omega
  have hs4 : ¬ (255 : Int) < (s : Int) := by omega
  go_enter Try.func10, Try.ntmps10
  go_wp2_with fail
  refine (clone_any A _ c l w rfl ha (by omega)).mono ?_
  rintro e w1 ⟨v, rfl, hown1, hbel1⟩
  obtain ⟨A1, c1, rfl⟩ := own_form hown1
  clear ha
  go_wp2_with fail
  refine (zzPad_any A1 _ c1 s w.heap.size l w1 rfl hown1 hs hs2 hb hbel1.size).mono ?_
  rintro e w2 ⟨v2, rfl, hown2, hbel2⟩
  clear hown1
  go_wp2
  go_ret
  exact ⟨_, rfl, hown2, hbel1.trans hbel2⟩

end Go.Proofs.Ytkhmkpbeanecdaa
