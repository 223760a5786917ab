/-
  The walks that make the encoding: NewEncoding, WithPadding, RawURLEncoding.
-/
import Derived.Test.YtekjfplcibnafaaWa
import Derived.Test.YtekjfplcibnafaaPl
import Derived.Deep.QuietTactic
import Derived.BigQuiet
namespace Go.Proofs.Ytekjfplcibnafaa
open Go.RowKit

/-- The zero encoding's cells. -/
def zrow : List Value := List.replicate 64 (Value.int .u8 0) ++ (List.replicate 256 (Value.int .u8 0) ++ [Value.int .i32 0, Value.bool false])
theorem zrow_len : zrow.length = 322 := by kernel_rfl
theorem zero46 (w : World) : (zeroValue 46).run Try.prog w = .ok (.agg zrow.toArray) w := by kernel_rfl
/-- The rows behind the two copies. -/
def row1 : List Value := splice (zrow.set 320 (Value.int .i32 61)) 0 (bvs sigs)
def row2 : List Value := splice row1 64 (bvs (List.replicate 256 255))
theorem row1_len : row1.length = 322 := by kernel_rfl
theorem row2_is : row2.toArray = encRow 0 61 := by kernel_rfl

theorem copied_below {w w1 : World} {o : Obj} (hg1 : (w.alloc o).grownBy w1 (some w.heap.size)) : Below w.heap.size w w1 :=
  ((Below.refl _ _).alloc (Nat.le_refl _) _).trans (Below.of_grown hg1 (by intro k hk; injection hk with hk; omega) (by simp))
theorem copied_blk {w1 : World} {g : Nat} (h : Hid (Blk w1 g 46 (splice (zrow.set 320 (Value.int .i32 61)) 0 (bvs sigs)).toArray)) : Blk w1 g 46 row1.toArray := h.out

set_option maxRecDepth 100000 in
theorem new_any (S : ByteArray) (w : World) (hS : S.data.toList = sigs) :
    Calls Try.prog 13 #[.string S] w fun e w' => ∃ g, e = .returned (.pointer (some ⟨g, 0, none⟩)) ∧ w.heap.size ≤ g ∧ Blk w' g 46 (encRow 64 61) ∧ Below w.heap.size w w' := by
  have hsz : S.size = 64 := by have h1 := congrArg List.length hS; rw [sigs_len, Array.length_toList] at h1; exact h1
  have hz : ((S.size : Int) != 64) = false := by rw [hsz]; rfl
  have HS := Lib.hid hS
  have HZ := Lib.hid hsz
  clear hS hsz
  have hz46 := zero46
  have hz320 : zrow[320]? = some (Value.int .i32 0) := by kernel_rfl
  obtain ⟨i0, hi0, hz0, hz1, hz2⟩ := info_parts info5
  go_enter Try.func13, Try.ntmps13
  go_wp2_with (first
    | (with_reducible refine wpList_copy_str rfl (.tmp 16) (.tmp 17) 22 9 rfl 5 i0 Try.underlying22 hi0 w.heap.size 0 64 64 S rfl rfl (zrow.set 320 (.int .i32 61)) 46 (Blk.new _ _ _) sigs HS.out (by rw [sigs_len]; exact Nat.le_refl _) (by rw [sigs_len, List.length_set, zrow_len]; omega) ?_; intro w1 H1 hg1; have hb1 := copied_below hg1; have H1' := copied_blk H1; clear H1 hg1)
    | (have _t1 := H1'; with_reducible refine wpList_copy_str rfl (.tmp 22) _ 22 9 (by exact rfl) 5 i0 Try.underlying22 hi0 w.heap.size 64 256 256 _ (by with_unfolding_all exact rfl) (by with_unfolding_all exact rfl) row1 46 H1' (List.replicate 256 255) (by kernel_rfl) (by rw [List.length_replicate]; omega) (by rw [List.length_replicate, row1_len]; omega) ?_; intro w2 H2 hg2))
  have hb2 : Below w.heap.size w w2 := hb1.trans (Below.of_grown hg2 (by intro k hk; injection hk with hk; omega) (by have := H1'.lt; omega))
  have H2' : Hid (Blk w2 w.heap.size 46 (encRow 0 61)) := by
    rw [← row2_is]
    exact H2.out
  clear H2 hg2 H1' hb1 hz46 hz320
  go_loopw [4] (fun i wr => ∃ k : Nat, k ≤ 64 ∧ i = .int .i64 k ∧ Hid (Blk wr w.heap.size 46 (encRow k 61)) ∧ Below w.heap.size w wr) (fun i _ => 64 - (intOf i).toNat)
  case atStart => exact ⟨0, Nat.zero_le _, rfl, H2', hb2⟩
  case round =>
    clear H2' hb2
    obtain ⟨k, hk, rfl, HB, hbel⟩ := hrel
    by_cases hlt : k < 64
    · have hks : k < S.size := by rw [HZ.out]; exact hlt
      obtain ⟨x, hx⟩ : ∃ x, sig k = x := ⟨_, rfl⟩
      have hxs : S[k] = x := by
        rw [← hx, sig, ← HS.out]
        simp [hks]
        rfl
      obtain ⟨hx128, hx10, hx13⟩ := sig_lt k hlt
      rw [hx] at hx128 hx10 hx13
      have h10 : ((x.toNat : Int) == 10) = false := beq_eq_false_iff_ne.2 (by omega)
      have h13 : ((x.toNat : Int) == 13) = false := beq_eq_false_iff_ne.2 (by omega)
      have hfree := decK_free k hlt
      rw [hx] at hfree
      have hc : wr.cell? ⟨w.heap.size, 64 + x.toNat, none⟩ = some (.int .u8 255) := by
        rw [HB.out.cell, encRow_dec _ _ _ (by omega), hfree]
        rfl
      have hf : wr.frozen? ⟨w.heap.size, 64 + x.toNat, none⟩ = false := HB.out.frozen _
      have HX := Lib.hid hx
      clear hfree hx
      go_wp2_with fail
      go_quiet (fail)
      go_wp2_with fail
      go_region
      all_goals go_wp2
      go_roundw
      case rel =>
        refine ⟨k + 1, by omega, by go_num, ?_, (below_drewN hbel _).setCell (Nat.le_refl _) _⟩
        show Blk _ _ _ _
        rw [← encRow_set k 61 hlt, HX.out]
        exact (HB.out.drewN _).set_ _ _
      case measure => simp [intOf]; omega
    · obtain rfl : k = 64 := by omega
      have hks : ¬ (64 : Int) < (S.size : Int) := by rw [HZ.out]; omega
      go_wp2
      go_ret
      exact ⟨_, rfl, Nat.le_refl _, HB.out, hbel⟩

set_option maxRecDepth 100000 in
theorem pad_any (cs : Array Value) (w : World) (hcs : cs = encRow 64 61) :
    Calls Try.prog 14 #[.agg cs, .int .i32 (-1)] w fun e w' => ∃ g, e = .returned (.pointer (some ⟨g, 0, none⟩)) ∧ w.heap.size ≤ g ∧ Blk w' g 46 (encRow 64 (-1)) ∧ Below w.heap.size w w' := by
  have hpad : cs[320]? = some (Value.int .i32 61) := by rw [hcs]; exact encRow_pad _ _
  have HC := Lib.hid hcs
  clear hcs
  go_enter Try.func14, Try.ntmps14
  go_wp2
  go_ret
  have hnew := Blk.new w 46 (cs.setIfInBounds 320 (Value.int .i32 (-1)))
  rw [HC.out, encRow_setpad] at hnew
  refine ⟨_, rfl, Nat.le_refl _, ?_, (Below.refl _ _).alloc (Nat.le_refl _) _⟩
  rw [HC.out, encRow_setpad]
  exact hnew

theorem size46 : (Try.prog.info? 46).map (·.size) = some 322 := by kernel_rfl

set_option maxRecDepth 100000 in
/-- The encoding of base64url lies in a new block. -/
theorem raw_any (w : World) :
    Calls Try.prog 9 #[] w fun e w' => ∃ g, e = .returned (.pointer (some ⟨g, 0, none⟩)) ∧ w.heap.size ≤ g ∧ Blk w' g 46 (encRow 64 (-1)) ∧ Below w.heap.size w w' := by
  have hsz : (Try.prog.info? 46).map (·.size) = some (encRow 64 61).size := by rw [encRow_size]; exact size46
  go_enter Try.func9, Try.ntmps9
  go_wp2_with fail
  refine (new_any _ w (by kernel_rfl)).mono ?_
  rintro e w1 ⟨g, rfl, hg, hblk, hbel⟩
  generalize hE : encRow 64 61 = cs at hblk hsz
  have HE := Lib.hid hE
  have HB := Lib.hid hblk
  clear hE hblk
  go_wp2_with (with_reducible refine wpList_load_row rfl 46 (.tmp 2) rfl g rfl 46 cs (0, 0) _ HB.out.heap Try.underlying46 rfl hsz ?_)
  refine (pad_any cs w1 HE.out.symm).mono ?_
  rintro e w2 ⟨g2, rfl, hg2, hblk2, hbel2⟩
  have H2 := Lib.hid hblk2
  clear hblk2
  go_wp2
  go_ret
  have := hbel.size
  exact ⟨g2, rfl, by omega, H2.out, hbel.trans (hbel2.mono this)⟩

end Go.Proofs.Ytekjfplcibnafaa
