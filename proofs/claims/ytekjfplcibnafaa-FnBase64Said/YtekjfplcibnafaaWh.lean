/-
  The walks of DecodeString and of impl's Base64Of over well-formed signs.
-/
import Derived.Test.YtekjfplcibnafaaWg
import Derived.Laws.IdiomStrings
namespace Go.Proofs.Ytekjfplcibnafaa
open Go.RowKit

/-- A string to bytes. -/
theorem str_bytes (S : ByteArray) (w : World) : ∃ cap w3, (convert 9 22 (.string S)).run Try.prog w = .ok (.slice (some ⟨w.heap.size, 0, none⟩) S.size cap) w3 ∧ S.size ≤ cap ∧
    (∀ i, i < S.data.toList.length → w3.cell? ⟨w.heap.size, i, none⟩ = some (.int .u8 ((S.data.toList.getD i 0).toNat : Int))) ∧ Below w.heap.size w w3 ∧ w.heap.size < w3.heap.size := by
  refine ⟨_, _, run_bytes_of_string (P := Try.prog) w 9 22 5 S Try.underlying9 Try.underlying22 Try.underlying5, grownCap_ge w _ _ _, ?_, ?_, ?_⟩
  · intro i hi
    rw [Array.length_toList] at hi
    have h1 := World.cell?_alloc_mark w.drew (bytesRow S (grownCap w S.size 0 5)) 5 ((bytesRow S (grownCap w S.size 0 5)).size, (bytesRow S (grownCap w S.size 0 5)).size + 1) i
    rw [bytesRow_at S _ i hi] at h1
    refine h1.trans ?_
    rw [List.getD_eq_getElem?_getD, Array.getElem?_toList, Array.getElem?_eq_getElem hi]
    rfl
  · exact ((Below.refl _ _).drew).alloc (Nat.le_refl _) _
  · simp

set_option maxRecDepth 100000 in
theorem decode_nil (ge c1 c2 : Nat) (A B : Option Addr) (n : Nat) (w : World) :
    Calls Try.prog 16 #[.pointer (some ⟨ge, 0, none⟩), .slice A n c1, .slice B 0 c2] w fun e w' => e = .returned (.tuple #[.int .i64 0, .nilIface]) ∧ w = w' := by
  go_enter Try.func16, Try.ntmps16
  go_wp2
  go_ret2
  exact ⟨rfl, rfl⟩

/-- What DecodeString hands back: the bytes, no error. -/
def Decoded (w w' : World) (l : List UInt8) (e : Ending) : Prop :=
  ∃ A c, e = .returned (.tuple #[.slice A l.length c, .nilIface]) ∧ Reads w' A (bvs l) ∧ Below w.heap.size w w'

theorem decodeString_any (ge : Nat) (S : ByteArray) (l : List UInt8) (w : World) (he : Enc w ge) (hS : S.data.toList = enc l) (hl : 0 < l.length) (hb : l.length ≤ 4096) :
    Calls Try.prog 10 #[.pointer (some ⟨ge, 0, none⟩), .string S] w fun e w' => Decoded w w' l e := by
  obtain ⟨i0, hi0, hz0, hz1, hz2⟩ := info_parts info5
  obtain ⟨E, hE⟩ : ∃ E, encLen l.length = E := ⟨_, rfl⟩
  have hsz : S.size = E := by
    rw [← hE, ← enc_len, ← hS, Array.length_toList]; rfl
  have hEb : E ≤ 8192 := by rw [← hE]; unfold encLen; omega
  have hd := decodedLenOf_any ge E w he (by omega)
  rw [← hE, dec_encLen, hE] at hd
  obtain ⟨N, hN⟩ : ∃ N, l.length = N := ⟨_, rfl⟩
  rw [hN] at hd hl hb
  have HN := Lib.hid hN
  have HE := Lib.hid hE
  have HS := Lib.hid hS
  have HD := Lib.hid hd
  have HB := Lib.hid he
  clear hN hE hS hd he
  go_enter Try.func10, Try.ntmps10
  go_wp2_with fail
  refine HD.out.mono ?_
  rintro e w1 ⟨rfl, rfl⟩
  go_wp2_with (with_reducible refine wpList_make_blk _ rfl (.tmp 12) (.tmp 12) 22 rfl 5 i0 _ Try.underlying22 hi0 hz0 hz1 rfl .i64 .i64 N N N rfl rfl rfl rfl (by rw [hz2]; omega) (by omega) ?_; intro w1 hblk hbel hlt; obtain ⟨cap, w3, hcv, hcap, hcell, hbel3, hlt3⟩ := str_bytes S w1; have HK := Lib.hid hblk; have HC := Lib.hid hcell; clear hblk hcell)
  have he3 : Enc w3 ge := (HB.out.below hbel).below hbel3
  have hD3 : Dec w3 w3 w.heap.size l 0 := by
    refine ⟨List.replicate N (.int .u8 0), by rw [List.length_replicate, HN.out], ?_, by simp, World.grownBy.refl _ _⟩
    have := Blk.below HK.out hbel3 hlt
    simpa using this
  have hcs : ∀ i, i < E → w3.cell? ⟨w1.heap.size, 0 + i, none⟩ = some (.int .u8 ((sig (sx l i)).toNat : Int)) := fun i hi => by
    have h1 := HC.out i (by rw [HS.out, enc_len, HE.out]; exact hi)
    rw [Nat.zero_add, h1, HS.out, enc_get l i (by rw [HE.out]; exact hi)]
  have hb3 : Below w.heap.size w w3 := hbel.trans (hbel3.mono (by omega))
  have h := decode_any ge w.heap.size w1.heap.size 0 cap N E l w3 he3 hD3 hlt3 (by omega) HN.out.symm (by rw [← HN.out]; exact HE.out.symm) hl hb (by omega) hcs
  refine h.mono ?_
  clear h hcs hD3 he3 HC HK hcv
  rintro e w4 ⟨rfl, hD4⟩
  have H4 := Lib.hid hD4
  clear hD4
  go_wp2
  go_ret2
  obtain ⟨cur, hcl, hcb, hct, hcg⟩ := H4.out
  have hcur : cur = bvs l := by
    rw [← HN.out] at hct
    rw [List.take_of_length_le (by omega), List.take_of_length_le (by rw [bvs_len]; omega)] at hct
    exact hct
  refine ⟨some ⟨w.heap.size, 0, none⟩, N, ?_, ?_, hb3.trans (Below.of_grown hcg (by intro k hk; injection hk with hk; omega) (by omega))⟩
  · rw [HN.out]; rfl
  · rw [hcur] at hcb
    exact hcb.reads _ 0 (by simp)

theorem decodeString_nil (ge : Nat) (S : ByteArray) (w : World) (he : Enc w ge) (hS : S.data.toList = enc []) :
    Calls Try.prog 10 #[.pointer (some ⟨ge, 0, none⟩), .string S] w fun e w' => Decoded w w' [] e := by
  obtain ⟨i0, hi0, hz0, hz1, hz2⟩ := info_parts info5
  have hsz : S.size = 0 := by
    have h1 := congrArg List.length hS
    rw [Array.length_toList] at h1
    exact h1
  have hd := decodedLenOf_any ge 0 w he (by omega)
  have HD := Lib.hid hd
  clear hd he hS
  go_enter Try.func10, Try.ntmps10
  go_wp2_with fail
  refine HD.out.mono ?_
  rintro e w1 ⟨rfl, rfl⟩
  have hdl : decLen 0 = 0 := rfl
  rw [hdl]
  go_wp2_with (with_reducible refine wpList_make_blk _ rfl (.tmp 12) (.tmp 12) 22 rfl 5 i0 _ Try.underlying22 hi0 hz0 hz1 rfl .i64 .i64 _ _ 0 rfl rfl rfl rfl (by omega) (by omega) ?_; intro w1 hblk hbel hlt; obtain ⟨cap, w3, hcv, hcap, hcell, hbel3, hlt3⟩ := str_bytes S w1; clear hblk hcell)
  refine (decode_nil ge _ _ _ _ _ w3).mono ?_
  rintro e w4 ⟨rfl, rfl⟩
  go_wp2
  go_ret2
  exact ⟨_, _, rfl, Reads.nil_, hbel.trans (hbel3.mono (by omega))⟩

theorem decodeString_all (ge : Nat) (S : ByteArray) (l : List UInt8) (w : World) (he : Enc w ge) (hS : S.data.toList = enc l) (hb : l.length ≤ 4096) :
    Calls Try.prog 10 #[.pointer (some ⟨ge, 0, none⟩), .string S] w fun e w' => Decoded w w' l e := by
  rcases Nat.eq_zero_or_pos l.length with h0 | h0
  · obtain rfl := List.eq_nil_of_length_eq_zero h0
    exact decodeString_nil ge S w he hS
  · exact decodeString_any ge S l w he hS h0 hb

/-- What impl's Base64Of hands back. -/
def Read64 (w w' : World) (l : List UInt8) (e : Ending) : Prop :=
  ∃ A c, e = .returned (.tuple #[.slice A l.length c, .bool true]) ∧ Reads w' A (bvs l) ∧ Below w.heap.size w w'

theorem base64Of_any (S : ByteArray) (l : List UInt8) (w : World) (hS : S.data.toList = enc l) (hb : l.length ≤ 4096) :
    Calls Try.prog 5 #[.string S] w fun e w' => Read64 w w' l e := by
  have HS := Lib.hid hS
  clear hS
  go_enter Try.func5, Try.ntmps5
  go_wp2_with fail
  refine (raw_any w).mono ?_
  rintro e w1 ⟨g, rfl, hg, hblk, hbel⟩
  have H := Lib.hid hblk
  clear hblk
  go_wp2_with fail
  refine (decodeString_all g S l w1 H.out HS.out hb).mono ?_
  rintro e w2 ⟨A, c, rfl, hr, hbel2⟩
  have HR := Lib.hid hr
  clear hr
  go_wp2
  go_ret2
  exact ⟨A, c, rfl, HR.out, hbel.trans (hbel2.mono hbel.size)⟩

end Go.Proofs.Ytekjfplcibnafaa
