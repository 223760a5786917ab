/-
  The walk of gojose's base64JoinWithDots over one part.
-/
import Derived.Test.YtekjfplcibnafaaWj
import Derived.Deep.RegionWith
import Derived.Deep.Cut
namespace Go.Proofs.Ytekjfplcibnafaa
open Go.RowKit

set_option maxRecDepth 100000 in
theorem encode_nil (ge : Nat) (D A : Option Addr) (o d c : Nat) (w : World) :
    Calls Try.prog 25 #[.pointer (some ⟨ge, 0, none⟩), .slice D o d, .slice A 0 c] w fun e w' => e = .returned (.tuple #[]) ∧ w = w' := by
  go_enter Try.func25, Try.ntmps25
  go_wp2
  refine bodyPost_ret (results_none rfl _ _ _) rfl ?_
  exact ⟨rfl, rfl⟩

/-- The signs of the bytes are laid into a new block. -/
theorem encode_all (ge gd N E c : Nat) (A : Option Addr) (l : List UInt8) (w0 w : World) (he : Enc w ge) (hD : Blk w gd 5 (Array.replicate E (.int .u8 0))) (hA : Reads w0 A (bvs l)) (hbel : Below w0.heap.size w0 w) (hgd : w0.heap.size ≤ gd)
    (hN : N = l.length) (hE : E = encLen N) (hb : N ≤ 4096) (hc : N ≤ c) :
    Calls Try.prog 25 #[.pointer (some ⟨ge, 0, none⟩), .slice (some ⟨gd, 0, none⟩) E E, .slice A N c] w fun e w' => e = .returned (.tuple #[]) ∧ Reads w' (some ⟨gd, 0, none⟩) (bvs (enc l)) ∧ Below w0.heap.size w0 w' := by
  rcases Nat.eq_zero_or_pos l.length with h0 | h0
  · obtain rfl := List.eq_nil_of_length_eq_zero h0
    subst hN
    refine (encode_nil ge _ _ _ _ _ w).mono ?_
    rintro e w' ⟨rfl, rfl⟩
    exact ⟨rfl, Reads.nil_, hbel⟩
  · obtain ⟨gs, os, rfl, hlt, hcell⟩ := hA.open_ h0
    have hF : Fill w w gd (bvs (enc l)) 0 := by
      refine ⟨List.replicate E (.int .u8 0), ?_, ?_, by simp, World.grownBy.refl _ _⟩
      · rw [List.length_replicate, bvs_len, enc_len, hE, hN]
      · simpa using hD
    have hsz := hbel.size
    have h := encode_any ge gd gs os c N E l w he hF (by omega) (by omega) hN hE (by omega) hb hc (fun i hi => by
      rw [hbel.cell (p := ⟨gs, os + i, none⟩) hlt]
      exact hcell i (by omega))
    refine h.mono ?_
    rintro e w' ⟨rfl, cur, hcl, hcb, hct, hcg⟩
    have hcur : cur = bvs (enc l) := by
      rw [bvs_len, enc_len, ← hN, ← hE] at hcl
      rw [List.take_of_length_le (by omega), List.take_of_length_le (by rw [bvs_len, enc_len, hE, hN]; omega)] at hct
      exact hct
    refine ⟨rfl, ?_, hbel.grown hcg hsz (by intro k hk; injection hk with hk; omega)⟩
    rw [hcur] at hcb
    exact hcb.reads _ 0 (by simp)

set_option maxHeartbeats 1000000 in
theorem join_any (gi n c : Nat) (A : Option Addr) (l : List UInt8) (w : World) (hn : n = l.length) (hA : Reads w A (bvs l)) (hi : w.cell? ⟨gi, 0, none⟩ = some (.slice A n c)) (hgi : gi < w.heap.size) (hb : n ≤ 4096) (hc : n ≤ c) :
    Calls Try.prog 17 #[.slice (some ⟨gi, 0, none⟩) 1 1] w fun e w' => e = .returned (.string ⟨(enc l).toArray⟩) ∧ Below w.heap.size w w' := by
  obtain ⟨i0, hi0, hz0, hz1, hz2⟩ := info_parts info5
  obtain ⟨E, hE⟩ : ∃ E, encLen n = E := ⟨_, rfl⟩
  have hEb : E ≤ 8192 := by rw [← hE]; unfold encLen; omega
  have HA : Hid (Reads w A (bvs l)) := hA
  have HN := Lib.hid hn
  have HE := Lib.hid hE
  have HI := Lib.hid hi
  clear hA hn hE
  go_enter Try.func17, Try.ntmps17
  go_wp2_with fail
  refine wp_loop_rounds 2 ?_
  rw [rounds_succ]
  go_wp2_with fail
  refine (encodeLen_any A n c w (by omega)).mono ?_
  rintro e w1 ⟨rfl, hbel1⟩
  rw [HE.out]
  have hi1 : w1.cell? ⟨gi, 0, none⟩ = some (.slice A n c) := (hbel1.cell (p := ⟨gi, 0, none⟩) hgi).trans HI.out
  clear hi
  have hsz1 := hbel1.size
  go_wp2_with fail
  rw [rounds_succ]
  go_wp2_with (with_reducible refine wpList_make_blk _ rfl (.tmp 27) (.tmp 27) 22 rfl 5 i0 _ Try.underlying22 hi0 hz0 hz1 rfl .i64 .i64 E E E rfl rfl rfl rfl (by rw [hz2]; omega) (by omega) ?_; intro w2 hblk2 hbel2 hlt2; have hi2 := (hbel2.cell (p := ⟨gi, 0, none⟩) (Nat.lt_of_lt_of_le hgi hsz1)).trans hi1; have HB2 := Lib.hid hblk2; clear hblk2 hi1)
  refine wp_loop_rounds 2 ?_
  rw [rounds_succ]
  have hb2 : Below w.heap.size w w2.drew := (hbel1.trans (hbel2.mono hsz1)).drew
  have hs2 := hb2.size
  go_upto_region 14 with fail
  go_region_with (first
    | (go_at_call 9; refine (raw_any _).mono ?_; rintro e w3 ⟨g, rfl, hg, hblk3, hbel3⟩; have HB3 := Lib.hid hblk3; have HD3 := Lib.hid (Blk.below (Blk.drew HB2.out) hbel3 hlt2); have hb3 := hb2.trans (hbel3.mono hs2); clear hblk3 hbel3)
    | (go_at_call 25; refine (encode_all _ _ n E c A l w _ HB3.out HD3.out HA.out hb3 hsz1 HN.out HE.out.symm hb hc).mono ?_; rintro e w4 ⟨rfl, hr4, hb4⟩; have HR4 := Lib.hid hr4; clear hr4))
  all_goals
    have k1 := run_bytes_str (P := Try.prog) w4 22 5 9 Try.underlying22 Try.underlying5 Try.underlying9 (some ⟨w1.heap.size, 0, none⟩) E E (enc l) (by rw [enc_len, ← HE.out, HN.out]) HR4.out
    go_wp2_with fail
    rw [rounds_succ]
    go_wp2_with fail
    go_ret
    exact ⟨rfl, hb4⟩

end Go.Proofs.Ytekjfplcibnafaa
