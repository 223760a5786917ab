/-
  The walks of resize and padBuffer: an owned slice filled up.
-/
import Derived.Test.YtkhmkpbeanecdaaWa
import Derived.Test.YtkhmkpbeanecdaaPl
namespace Go.Proofs.Ytkhmkpbeanecdaa
open Go.RowKit

/-- What resize hands back: the head of n + m elements over block g, and its tail of m. -/
def Resized (w w' : World) (base n m : Nat) (l : List UInt8) (e : Ending) : Prop :=
  ∃ g cap cap2 cur, e = .returned (.tuple #[.slice (some ⟨g, 0, none⟩) (n + m) cap, .slice (some ⟨g, n, none⟩) m cap2]) ∧ base ≤ g ∧ Blk w' g 5 cur ∧ cur.size = cap ∧ n + m ≤ cap ∧ cap ≤ maxLen ∧ cur.toList.take n = bvs l ∧ Below w.heap.size w w'

theorem resize_room (g n c m : Nat) (w : World) (h : n + m ≤ c) (hm : 1 ≤ m) (hc : c ≤ maxLen) :
    Calls Try.prog 18 #[.slice (some ⟨g, 0, none⟩) n c, .int .u64 ((n + m : Nat) : Int)] w fun e w' => e = .returned (.tuple #[.slice (some ⟨g, 0, none⟩) (n + m) c, .slice (some ⟨g, n, none⟩) m (c - n)]) ∧ w = w' := by
  unfold maxLen at hc
  go_enter Try.func18, Try.ntmps18
  go_wp2
  go_ret2
  exact ⟨rfl, rfl⟩

theorem resize_grow (A : Option Addr) (n c m base : Nat) (l : List UInt8) (w : World) (hn : n = l.length) (ha : Reads w A (bvs l)) (h : c < n + m) (hm : 1 ≤ m) (hb : n + m ≤ 65536) (hbase : base ≤ w.heap.size) :
    Calls Try.prog 18 #[.slice A n c, .int .u64 ((n + m : Nat) : Int)] w fun e w' => Resized w w' base n m l e := by
  obtain ⟨i0, hi0, hz0, hz1, hz2⟩ := info_parts info5
  subst hn
  go_enter Try.func18, Try.ntmps18
  go_wp2_with (first
    | (with_reducible refine wpList_make_blk _ rfl (.tmp 14) (.tmp 14) 22 rfl 5 i0 _ Try.underlying22 hi0 hz0 hz1 rfl .u64 .u64 _ _ (l.length + m) rfl rfl rfl rfl (by rw [hz2]; omega) (by omega) ?_; intro w1 hblk hbel hlt; have HB := Lib.hid hblk; clear hblk)
    | (with_reducible refine wpList_copy_blk rfl (.tmp 16) (.tmp 17) 22 rfl 5 i0 Try.underlying22 hi0 hz1 (some ⟨w.heap.size, 0, none⟩) A (l.length + m) (l.length + m) l.length c rfl rfl w.heap.size 0 (List.replicate (l.length + m) (.int .u8 0)) 5 (by simpa using HB.out) (bvs l) (by rw [bvs_len]; exact (Nat.min_eq_left (by omega)).symm) (fun _ => rfl) (ha.below hbel) (by simp [bvs]) (bvs_one l) ?_; intro w2 HB2 hg2))
  go_ret2
  refine ⟨w.heap.size, l.length + m, _, _, rfl, hbase, HB2.out, ?_, by omega, by unfold maxLen; omega, ?_, ?_⟩
  · simp [splice, bvs]
  · simp [splice, bvs]
  · exact hbel.trans (Below.of_grown hg2 (by intro k hk; injection hk with hk; omega) (by omega))

theorem resize_any (A : Option Addr) (n c m base : Nat) (l : List UInt8) (w : World) (hn : n = l.length) (hown : w.ownsRow base 5 1 (.slice A n c) n (bvs l)) (hm : 1 ≤ m) (hb : n + m ≤ 65536) (hbase : base ≤ w.heap.size) :
    Calls Try.prog 18 #[.slice A n c, .int .u64 ((n + m : Nat) : Int)] w fun e w' => Resized w w' base n m l e := by
  by_cases hc : n + m ≤ c
  · rcases own_blk hown with ⟨hv, _⟩ | ⟨g, cap, cur, hv, hg, hblk, hnc, hcm, hcs, ht⟩
    · injection hv with h1 h2 h3
      omega
    · injection hv with h1 h2 h3
      subst h1 h3
      refine (resize_room g n c m w hc hm hcm).mono ?_
      rintro e w' ⟨rfl, rfl⟩
      exact ⟨g, c, _, cur, rfl, hg, hblk, hcs, hc, hcm, ht, Below.refl _ _⟩
  · exact resize_grow A n c m base l w hn (Reads.of_own hown) (by omega) hm hb hbase


theorem resize_int (A : Option Addr) (n c m base : Nat) (N : Int) (l : List UInt8) (w : World) (hN : N = ((n + m : Nat) : Int)) (hn : n = l.length) (hown : w.ownsRow base 5 1 (.slice A n c) n (bvs l)) (hm : 1 ≤ m) (hb : n + m ≤ 65536) (hbase : base ≤ w.heap.size) :
    Calls Try.prog 18 #[.slice A n c, .int .u64 N] w fun e w' => Resized w w' base n m l e := by
  subst hN
  exact resize_any A n c m base l w hn hown hm hb hbase

theorem filling_int (B N : Int) (b : UInt8) (n : Nat) (w : World) (hB : B = (b.toNat : Int)) (hN : N = (n : Int)) (hn : n ≤ 65536) :
    Calls Try.prog 17 #[.int .u8 B, .int .i64 N] w fun e w' => ∃ g, e = .returned (.slice (some ⟨g, 0, none⟩) n n) ∧ w.heap.size ≤ g ∧ Blk w' g 5 (fillRow b n n) ∧ Below w.heap.size w w' := by
  subst hB hN
  exact filling_any b n w hn

theorem take_exact {α : Type} (a b : List α) (n : Nat) (h : n = a.length) : (a ++ b).take n = a := by subst h; simp

theorem padBuffer_any (A : Option Addr) (n c s base : Nat) (l : List UInt8) (w : World) (hn : n = l.length) (hown : w.ownsRow base 5 1 (.slice A n c) n (bvs l)) (hs : 1 ≤ s) (hs2 : s ≤ 255) (hb : n ≤ 32768) (hbase : base ≤ w.heap.size) :
    Calls Try.prog 15 #[.slice A n c, .int .i64 (s : Int)] w fun e w' => ∃ v', e = .returned v' ∧ w'.ownsRow base 5 1 v' (padded l s).length (bvs (padded l s)) ∧ Below base w w' := by
  subst hn
  obtain ⟨i0, hi0, hz0, hz1, hz2⟩ := info_parts info5
  obtain ⟨r, hr⟩ : ∃ r, l.length % s = r := ⟨_, rfl⟩
  have hrI : ((l.length : Nat) : Int) % ((s : Nat) : Int) = (r : Int) := by rw [← hr]; omega
  have hrs : r < s := by rw [← hr]; exact Nat.mod_lt _ (by omega)
  have hp : padded l s = l ++ List.replicate (s - r) (UInt8.ofNat (s - r)) := by rw [padded, missing, hr]
  rw [hp]
  clear hp hr
  have hB : (UInt8.ofNat (s - r)).toNat = s - r := by simp; omega
  have HB := Lib.hid hB
  clear hB
  generalize hb0 : UInt8.ofNat (s - r) = b0 at HB
  clear hb0
  go_enter Try.func15, Try.ntmps15
  go_wp2_with fail
  refine (resize_int A l.length c (s - r) base _ l w (by omega) rfl hown (by omega) (by omega) hbase).mono ?_
  rintro e w1 ⟨g, cap, cap2, cur, rfl, hg, hblk, hcs, hnc, hcm, ht, hbel⟩
  have H := Lib.hid hblk
  have HS := Lib.hid hcs
  have HT := Lib.hid ht
  clear hblk hcs ht hown
  go_wp2_with fail
  refine (filling_int _ _ b0 (s - r) w1 (by rw [HB.out]; omega) (by omega) (by omega)).mono ?_
  rintro e w2 ⟨g2, rfl, hg2, hblk2, hbel2⟩
  have H2 := Lib.hid hblk2
  clear hblk2
  have hF : fillRow b0 (s - r) (s - r) = (List.replicate (s - r) (bv b0)).toArray := by simp [fillRow]
  have hR : Reads w2 (some ⟨g2, 0, none⟩) (List.replicate (s - r) (bv b0)) := H2.out.reads _ 0 (by rw [hF]; simp)
  have hC : Blk w2 g 5 cur.toList.toArray := by
    have := H.out.below hbel2 H.out.lt
    simpa using this
  have HC := Lib.hid hC
  have HR := Lib.hid hR
  have hgs : w.heap.size ≤ w1.heap.size := hbel.size
  have hg2s : g < w1.heap.size := H.out.lt
  have hg3s : w1.heap.size ≤ w2.heap.size := hbel2.size
  clear hF hR hC H H2
  have hlen : cur.toList.length = cap := by simpa using HS.out
  have HL := Lib.hid hlen
  clear hlen
  go_wp2_with (with_reducible refine wpList_copy_blk rfl (.tmp 30) (.tmp 31) 22 rfl 5 i0 Try.underlying22 hi0 hz1 (some ⟨g, l.length, none⟩) (some ⟨g2, 0, none⟩) (s - r) cap2 (s - r) (s - r) rfl rfl g l.length cur.toList 5 HC.out (List.replicate (s - r) (bv b0)) (by rw [List.length_replicate]; exact (Nat.min_self _).symm) (fun _ => rfl) HR.out (by rw [HL.out, List.length_replicate]; omega) (rep_one _ _) ?_; intro w3 H3 hg3)
  go_ret
  refine ⟨_, rfl, ⟨by simp [bvs], .inr ⟨g, cap, _, by simp, hg, H3.out, by simp; omega, hcm, ?_, ?_⟩⟩, ?_⟩
  · have := HL.out
    simp only [List.size_toArray, Nat.mul_one]
    rw [length_splice _ _ _ (by simp only [List.length_replicate]; omega)]
    exact this
  · have h1 := HT.out
    have h2 := HL.out
    simp only [splice, h1]
    rw [← List.append_assoc, bvs_append]
    have h3 : bvs (List.replicate (s - r) b0) = List.replicate (s - r) (bv b0) := by simp [bvs]
    rw [h3]
    exact take_exact _ _ _ (by simp [bvs])
  · exact ((hbel.mono hbase).trans (hbel2.mono (by omega))).trans (Below.of_grown hg3 (by intro k hk; injection hk with hk; omega) (by omega))

end Go.Proofs.Ytkhmkpbeanecdaa
