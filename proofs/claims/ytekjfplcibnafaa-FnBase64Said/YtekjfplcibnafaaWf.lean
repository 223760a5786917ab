/-
  The walks of decodeQuantum over what is left of well-formed signs: four, three or two.
-/
import Derived.Test.YtekjfplcibnafaaWe
namespace Go.Proofs.Ytekjfplcibnafaa
open Go.RowKit

theorem info44 : (Try.prog.info? 44).map (·.size) = some 256 := by kernel_rfl
theorem zero61 (w : World) : (zeroValue 61).run Try.prog w = .ok (.agg #[.int .u8 0, .int .u8 0, .int .u8 0, .int .u8 0]) w := by kernel_rfl

/-- The sign of x lies at ⟨gs, p⟩, and what it stands for in the encoding at ge. -/
def Sign (w : World) (ge gs p x : Nat) : Prop := x < 64 ∧ ∃ c : Nat, c < 128 ∧ w.cell? ⟨gs, p, none⟩ = some (.int .u8 (c : Int)) ∧ w.cell? ⟨ge, 64 + c, none⟩ = some (.int .u8 (x : Int))
theorem Sign.mk' {w : World} {ge gs p x : Nat} (he : Enc w ge) (hx : x < 64) (h : w.cell? ⟨gs, p, none⟩ = some (.int .u8 ((sig x).toNat : Int))) : Sign w ge gs p x := ⟨hx, _, (sig_lt x hx).1, h, he.dec x hx⟩

/-- The three bytes of a number below 2^24. -/
def dq3 (V : Nat) : List Value := [Value.int .u8 ((V / 65536 : Nat) : Int), Value.int .u8 ((V / 256 % 256 : Nat) : Int), Value.int .u8 ((V % 256 : Nat) : Int)]
/-- What decodeQuantum hands back where r signs are left: r read, r - 1 bytes written, no error. -/
def QPost (w w' : World) (gd : Nat) (cur : List Value) (od V r si : Nat) (e : Ending) : Prop :=
  e = .returned (.tuple #[.int .i64 ((si + r : Nat) : Int), .int .i64 ((r - 1 : Nat) : Int), .nilIface]) ∧ Blk w' gd 5 (splice cur od ((dq3 V).take (r - 1))).toArray ∧ w.grownBy w' (some gd)

theorem ret3 {a b c d : Int} {u v : Value} (h : a = b) (h2 : c = d) (h3 : u = v) : Ending.returned (.tuple #[.int .i64 a, .int .i64 c, u]) = Ending.returned (.tuple #[.int .i64 b, .int .i64 d, v]) := by subst h h2 h3; rfl
theorem grown_alloc' {a w : World} {row : Option Nat} {o : Obj} (h : a.grownBy w row) : a.grownBy (w.alloc o) row := h.trans (World.grownBy_alloc w o row)
theorem grown_set' {a w : World} {g o : Nat} {v : Value} (h : a.grownBy w (some g)) : a.grownBy (w.setCell ⟨g, o, none⟩ v) (some g) := h.trans (grown_set w g o v)

theorem set_three (l : List Value) (o : Nat) (a b c : Value) : ((l.set o a).set (o + 1) b).set (o + 1 + 1) c = ((l.set (o + 2) c).set (o + 1) b).set o a := by
  rw [List.set_comm b c (by omega), List.set_comm a c (by omega), List.set_comm a b (by omega)]
theorem set_splice1 {w : World} {g od V : Nat} {cur : List Value} (h : od + 1 ≤ cur.length) (hb : Blk w g 5 (cur.set od (.int .u8 ((V / 65536 : Nat) : Int))).toArray) : Blk w g 5 (splice cur od ((dq3 V).take 1)).toArray := by
  have e : (dq3 V).take 1 = [Value.int .u8 ((V / 65536 : Nat) : Int)] := rfl
  rw [e, splice_cons _ _ _ _ (by simpa using h), splice_nil]
  exact hb
theorem set_splice2 {w : World} {g od V : Nat} {cur : List Value} (h : od + 2 ≤ cur.length) (hb : Blk w g 5 ((cur.set (od + 1) (.int .u8 ((V / 256 % 256 : Nat) : Int))).set od (.int .u8 ((V / 65536 : Nat) : Int))).toArray) : Blk w g 5 (splice cur od ((dq3 V).take 2)).toArray := by
  have e : (dq3 V).take 2 = [Value.int .u8 ((V / 65536 : Nat) : Int), Value.int .u8 ((V / 256 % 256 : Nat) : Int)] := rfl
  rw [e, splice_cons _ _ _ _ (by simpa using h), splice_cons _ _ _ _ (by simp; omega), splice_nil, List.set_comm _ _ (by omega)]
  exact hb
theorem set_splice3 {w : World} {g od V : Nat} {cur : List Value} (h : od + 3 ≤ cur.length) (hb : Blk w g 5 (((cur.set (od + 2) (.int .u8 ((V % 256 : Nat) : Int))).set (od + 1) (.int .u8 ((V / 256 % 256 : Nat) : Int))).set od (.int .u8 ((V / 65536 : Nat) : Int))).toArray) : Blk w g 5 (splice cur od ((dq3 V).take 3)).toArray := by
  have e : (dq3 V).take 3 = [Value.int .u8 ((V / 65536 : Nat) : Int), Value.int .u8 ((V / 256 % 256 : Nat) : Int), Value.int .u8 ((V % 256 : Nat) : Int)] := rfl
  rw [e, splice_cons _ _ _ _ (by simpa using h), splice_cons _ _ _ _ (by simp; omega), splice_cons _ _ _ _ (by simp; omega), splice_nil, set_three]
  exact hb

set_option maxRecDepth 100000 in
set_option maxHeartbeats 1000000 in
theorem quantum4 (ge gd od nd cd gs os ns cs si x0 x1 x2 x3 : Nat) (cur : List Value) (w : World) (he : Enc w ge) (hB : Blk w gd 5 cur.toArray) (hod : od + 3 ≤ cur.length) (hnd : 3 ≤ nd)
    (hgs : gs < w.heap.size) (hns : ns = si + 4) (hb : ns ≤ 65536) (s0 : Sign w ge gs (os + si) x0) (s1 : Sign w ge gs (os + (si + 1)) x1) (s2 : Sign w ge gs (os + (si + 2)) x2) (s3 : Sign w ge gs (os + (si + 3)) x3) :
    Calls Try.prog 21 #[.pointer (some ⟨ge, 0, none⟩), .slice (some ⟨gd, od, none⟩) nd cd, .slice (some ⟨gs, os, none⟩) ns cs, .int .i64 (si : Int)] w fun e w' => QPost w w' gd cur od (x0 * 262144 + x1 * 4096 + x2 * 64 + x3) 4 si e := by
  subst hns
  obtain ⟨hx0, c0, hc0, ha0, hd0⟩ := s0
  obtain ⟨hx1, c1, hc1, ha1, hd1⟩ := s1
  obtain ⟨hx2, c2, hc2, ha2, hd2⟩ := s2
  obtain ⟨hx3, c3, hc3, ha3, hd3⟩ := s3
  have hp := he.pad
  have hst := he.strict
  have hge := Blk.lt he
  have hgd := hB.lt
  have hne : ge ≠ gd := Blk.ne_ he hB (by decide)
  have hne2 : gd ≠ ge := fun e => hne e.symm
  have hz61 := zero61
  have e1 := dq_1 x0 x1 hx0 hx1
  have e2 := dq_2 x0 x1 x2 hx0 hx1 hx2
  have e3 := dq_3 x0 x1 x2 x3 hx0 hx1 hx2 hx3
  have hv0 : ((x0 : Int) * 262144 + (x1 : Int) * 4096 + (x2 : Int) * 64 + (x3 : Int)) / 65536 = (((x0 * 262144 + x1 * 4096 + x2 * 64 + x3) / 65536 : Nat) : Int) := by omega
  have hv1 : ((x0 : Int) * 262144 + (x1 : Int) * 4096 + (x2 : Int) * 64 + (x3 : Int)) / 256 % 256 = (((x0 * 262144 + x1 * 4096 + x2 * 64 + x3) / 256 % 256 : Nat) : Int) := by omega
  have hv2 : ((x0 : Int) * 262144 + (x1 : Int) * 4096 + (x2 : Int) * 64 + (x3 : Int)) % 256 = (((x0 * 262144 + x1 * 4096 + x2 * 64 + x3) % 256 : Nat) : Int) := by omega
  have HV0 := Lib.hid hv0
  have HV1 := Lib.hid hv1
  have HV2 := Lib.hid hv2
  clear hv0 hv1 hv2
  have he2 : Blk (w.alloc (.cells #[.int .u8 0, .int .u8 0, .int .u8 0, .int .u8 0] 61)) ge 46 (encRow 64 (-1)) := Blk.alloc he _
  have HE := Lib.hid he2
  have hcd : ∀ j, od ≤ j → j < od + 3 → w.cell? ⟨gd, j, none⟩ = some (cur.getD j undef) := fun j h1 h2 => by
    rw [hB.cell, List.getElem?_toArray, List.getD_eq_getElem?_getD, List.getElem?_eq_getElem (by omega)]; rfl
  have b0 := hcd od (by omega) (by omega)
  have f0 := hB.frozen od
  have b1 := hcd (od + 1) (by omega) (by omega)
  have f1 := hB.frozen (od + 1)
  have b2 := hcd (od + 2) (by omega) (by omega)
  have f2 := hB.frozen (od + 2)
  have q0 : ((si : Int) + 4 == (si : Int)) = false := beq_eq_false_iff_ne.2 (by omega)
  have q1 : ((si : Int) + 4 == (si : Int) + 1) = false := beq_eq_false_iff_ne.2 (by omega)
  have q2 : ((si : Int) + 4 == (si : Int) + 1 + 1) = false := beq_eq_false_iff_ne.2 (by omega)
  have q3 : ((si : Int) + 4 == (si : Int) + 1 + 1 + 1) = false := beq_eq_false_iff_ne.2 (by omega)
  have z0 : ((x0 : Int) != 255) = true := by rw [bne_iff_ne]; omega
  have z1 : ((x1 : Int) != 255) = true := by rw [bne_iff_ne]; omega
  have z2 : ((x2 : Int) != 255) = true := by rw [bne_iff_ne]; omega
  have z3 : ((x3 : Int) != 255) = true := by rw [bne_iff_ne]; omega
  have HB := Lib.hid hB
  clear he he2 hB hcd
  go_enter Try.func21, Try.ntmps21
  go_wp2_with (with_reducible refine wpList_load_part rfl 44 (.tmp 19) rfl ge 64 256 rfl 46 (encRow 64 (-1)) _ HE.out Try.underlying44 rfl info44 (by rw [encRow_size]; omega) ?_; intro arr)
  clear HE
  go_rounds 5
  go_ret3
  refine ⟨?_, ?_, ?_⟩
  · exact ret3 (by omega) rfl rfl
  · rw [HV0.out, HV1.out, HV2.out]
    exact set_splice3 hod ((((HB.out.setL (od + 2) _).setL (od + 1) _).setL od _).alloc _)
  · exact grown_alloc' (grown_set'  (grown_set'  (grown_set'  (World.grownBy.refl _ _))))

set_option maxRecDepth 100000 in
set_option maxHeartbeats 1000000 in
theorem quantum3 (ge gd od nd cd gs os ns cs si x0 x1 x2 : Nat) (cur : List Value) (w : World) (he : Enc w ge) (hB : Blk w gd 5 cur.toArray) (hod : od + 2 ≤ cur.length) (hnd : 2 ≤ nd)
    (hgs : gs < w.heap.size) (hns : ns = si + 3) (hb : ns ≤ 65536) (s0 : Sign w ge gs (os + si) x0) (s1 : Sign w ge gs (os + (si + 1)) x1) (s2 : Sign w ge gs (os + (si + 2)) x2) :
    Calls Try.prog 21 #[.pointer (some ⟨ge, 0, none⟩), .slice (some ⟨gd, od, none⟩) nd cd, .slice (some ⟨gs, os, none⟩) ns cs, .int .i64 (si : Int)] w fun e w' => QPost w w' gd cur od (x0 * 262144 + x1 * 4096 + x2 * 64) 3 si e := by
  subst hns
  obtain ⟨hx0, c0, hc0, ha0, hd0⟩ := s0
  obtain ⟨hx1, c1, hc1, ha1, hd1⟩ := s1
  obtain ⟨hx2, c2, hc2, ha2, hd2⟩ := s2
  have hp := he.pad
  have hst := he.strict
  have hge := Blk.lt he
  have hgd := hB.lt
  have hne : ge ≠ gd := Blk.ne_ he hB (by decide)
  have hne2 : gd ≠ ge := fun e => hne e.symm
  have hz61 := zero61
  have e1 := dq_1 x0 x1 hx0 hx1
  have e2 := dq_2 x0 x1 x2 hx0 hx1 hx2
  have ez := dq_z ((x0 : Int) * 262144 + (x1 : Int) * 4096 + (x2 : Int) * 64) (by omega) (by omega)
  have hv0 : ((x0 : Int) * 262144 + (x1 : Int) * 4096 + (x2 : Int) * 64) / 65536 = (((x0 * 262144 + x1 * 4096 + x2 * 64) / 65536 : Nat) : Int) := by omega
  have hv1 : ((x0 : Int) * 262144 + (x1 : Int) * 4096 + (x2 : Int) * 64) / 256 % 256 = (((x0 * 262144 + x1 * 4096 + x2 * 64) / 256 % 256 : Nat) : Int) := by omega
  have HV0 := Lib.hid hv0
  have HV1 := Lib.hid hv1
  clear hv0 hv1
  have he2 : Blk (w.alloc (.cells #[.int .u8 0, .int .u8 0, .int .u8 0, .int .u8 0] 61)) ge 46 (encRow 64 (-1)) := Blk.alloc he _
  have HE := Lib.hid he2
  have hcd : ∀ j, od ≤ j → j < od + 2 → w.cell? ⟨gd, j, none⟩ = some (cur.getD j undef) := fun j h1 h2 => by
    rw [hB.cell, List.getElem?_toArray, List.getD_eq_getElem?_getD, List.getElem?_eq_getElem (by omega)]; rfl
  have b0 := hcd od (by omega) (by omega)
  have f0 := hB.frozen od
  have b1 := hcd (od + 1) (by omega) (by omega)
  have f1 := hB.frozen (od + 1)
  have q0 : ((si : Int) + 3 == (si : Int)) = false := beq_eq_false_iff_ne.2 (by omega)
  have q1 : ((si : Int) + 3 == (si : Int) + 1) = false := beq_eq_false_iff_ne.2 (by omega)
  have q2 : ((si : Int) + 3 == (si : Int) + 1 + 1) = false := beq_eq_false_iff_ne.2 (by omega)
  have q3 : ((si : Int) + 3 == (si : Int) + 1 + 1 + 1) = true := beq_iff_eq.2 (by omega)
  have z0 : ((x0 : Int) != 255) = true := by rw [bne_iff_ne]; omega
  have z1 : ((x1 : Int) != 255) = true := by rw [bne_iff_ne]; omega
  have z2 : ((x2 : Int) != 255) = true := by rw [bne_iff_ne]; omega
  have HB := Lib.hid hB
  clear he he2 hB hcd
  go_enter Try.func21, Try.ntmps21
  go_wp2_with (with_reducible refine wpList_load_part rfl 44 (.tmp 19) rfl ge 64 256 rfl 46 (encRow 64 (-1)) _ HE.out Try.underlying44 rfl info44 (by rw [encRow_size]; omega) ?_; intro arr)
  clear HE
  go_rounds 4
  go_ret3
  refine ⟨?_, ?_, ?_⟩
  · exact ret3 (by omega) rfl rfl
  · rw [HV0.out, HV1.out]
    exact set_splice2 hod (((HB.out.setL (od + 1) _).setL od _).alloc _)
  · exact grown_alloc' (grown_set'  (grown_set'  (World.grownBy.refl _ _)))

set_option maxRecDepth 100000 in
set_option maxHeartbeats 1000000 in
theorem quantum2 (ge gd od nd cd gs os ns cs si x0 x1 : Nat) (cur : List Value) (w : World) (he : Enc w ge) (hB : Blk w gd 5 cur.toArray) (hod : od + 1 ≤ cur.length) (hnd : 1 ≤ nd)
    (hgs : gs < w.heap.size) (hns : ns = si + 2) (hb : ns ≤ 65536) (s0 : Sign w ge gs (os + si) x0) (s1 : Sign w ge gs (os + (si + 1)) x1) :
    Calls Try.prog 21 #[.pointer (some ⟨ge, 0, none⟩), .slice (some ⟨gd, od, none⟩) nd cd, .slice (some ⟨gs, os, none⟩) ns cs, .int .i64 (si : Int)] w fun e w' => QPost w w' gd cur od (x0 * 262144 + x1 * 4096) 2 si e := by
  subst hns
  obtain ⟨hx0, c0, hc0, ha0, hd0⟩ := s0
  obtain ⟨hx1, c1, hc1, ha1, hd1⟩ := s1
  have hp := he.pad
  have hst := he.strict
  have hge := Blk.lt he
  have hgd := hB.lt
  have hne : ge ≠ gd := Blk.ne_ he hB (by decide)
  have hne2 : gd ≠ ge := fun e => hne e.symm
  have hz61 := zero61
  have e1 := dq_1 x0 x1 hx0 hx1
  have ez := dq_z ((x0 : Int) * 262144 + (x1 : Int) * 4096) (by omega) (by omega)
  have hv0 : ((x0 : Int) * 262144 + (x1 : Int) * 4096) / 65536 = (((x0 * 262144 + x1 * 4096) / 65536 : Nat) : Int) := by omega
  have HV0 := Lib.hid hv0
  clear hv0
  have he2 : Blk (w.alloc (.cells #[.int .u8 0, .int .u8 0, .int .u8 0, .int .u8 0] 61)) ge 46 (encRow 64 (-1)) := Blk.alloc he _
  have HE := Lib.hid he2
  have hcd : ∀ j, od ≤ j → j < od + 1 → w.cell? ⟨gd, j, none⟩ = some (cur.getD j undef) := fun j h1 h2 => by
    rw [hB.cell, List.getElem?_toArray, List.getD_eq_getElem?_getD, List.getElem?_eq_getElem (by omega)]; rfl
  have b0 := hcd od (by omega) (by omega)
  have f0 := hB.frozen od
  have q0 : ((si : Int) + 2 == (si : Int)) = false := beq_eq_false_iff_ne.2 (by omega)
  have q1 : ((si : Int) + 2 == (si : Int) + 1) = false := beq_eq_false_iff_ne.2 (by omega)
  have q2 : ((si : Int) + 2 == (si : Int) + 1 + 1) = true := beq_iff_eq.2 (by omega)
  have z0 : ((x0 : Int) != 255) = true := by rw [bne_iff_ne]; omega
  have z1 : ((x1 : Int) != 255) = true := by rw [bne_iff_ne]; omega
  have HB := Lib.hid hB
  clear he he2 hB hcd
  go_enter Try.func21, Try.ntmps21
  go_wp2_with (with_reducible refine wpList_load_part rfl 44 (.tmp 19) rfl ge 64 256 rfl 46 (encRow 64 (-1)) _ HE.out Try.underlying44 rfl info44 (by rw [encRow_size]; omega) ?_; intro arr)
  clear HE
  go_rounds 3
  go_ret3
  refine ⟨?_, ?_, ?_⟩
  · exact ret3 (by omega) rfl rfl
  · rw [HV0.out]
    exact set_splice1 hod ((HB.out.setL od _).alloc _)
  · exact grown_alloc' (grown_set'  (World.grownBy.refl _ _))

end Go.Proofs.Ytekjfplcibnafaa
