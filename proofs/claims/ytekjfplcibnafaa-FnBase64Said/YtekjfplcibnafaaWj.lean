/-
  The walk of Encode: the signs of the bytes are laid into the block.
-/
import Derived.Test.YtekjfplcibnafaaWi
namespace Go.Proofs.Ytekjfplcibnafaa
open Go.RowKit

/-- The first n cells of block g are those of L. -/
def Fill (w wr : World) (g : Nat) (L : List Value) (n : Nat) : Prop :=
  ∃ cur : List Value, cur.length = L.length ∧ Blk wr g 5 cur.toArray ∧ cur.take n = L.take n ∧ w.grownBy wr (some g)
theorem Fill.drewN {w wr : World} {g n : Nat} {L : List Value} (h : Fill w wr g L n) (k : Nat) : Fill w (wr.drewN k) g L n := by
  obtain ⟨cur, h1, h2, h3, h4⟩ := h
  exact ⟨cur, h1, h2.drewN k, h3, ⟨h4.os, h4.tape, h4.output, h4.size, h4.block⟩⟩
theorem Fill.cell_far {w wr : World} {g n b o : Nat} {L : List Value} (h : Fill w wr g L n) (hlt : b < w.heap.size) (hne : b ≠ g) : wr.cell? ⟨b, o, none⟩ = w.cell? ⟨b, o, none⟩ := by
  obtain ⟨_, _, _, _, hg⟩ := h
  exact hg.cell_far ⟨b, o, none⟩ hlt (by intro e; injection e with e; exact hne e)
theorem Fill.cell {w wr : World} {g n o : Nat} {L : List Value} (h : Fill w wr g L n) (ho : o < L.length) : ∃ v, wr.cell? ⟨g, o, none⟩ = some v := by
  obtain ⟨cur, h1, h2, _, _⟩ := h
  exact ⟨cur[o]'(by omega), by rw [h2.cell, List.getElem?_toArray, List.getElem?_eq_getElem (by omega)]⟩
theorem Fill.frozen {w wr : World} {g n : Nat} {L : List Value} (h : Fill w wr g L n) (o : Nat) : wr.frozen? ⟨g, o, none⟩ = false := by
  obtain ⟨cur, h1, h2, _, _⟩ := h
  exact h2.frozen o
theorem Fill.more {w wr : World} {g n k : Nat} {L vs : List Value} (h : Fill w wr g L n) (hn : n + vs.length ≤ L.length) (hv : vs = (L.drop n).take k) (hk : k = vs.length) : Fill w (setCells' wr g n vs) g L (n + k) := by
  obtain ⟨cur, h1, h2, h3, h4⟩ := h
  refine ⟨splice cur n vs, by rw [length_splice _ _ _ (by omega)]; exact h1, Blk.setCells' vs n wr cur h2 (by omega), ?_, h4.trans (grown_setCells' vs n wr)⟩
  exact take_splice cur vs L n k h3 (by omega) (by rw [hv, List.take_take, Nat.min_self]) (by omega)

theorem info43 : (Try.prog.info? 43).map (·.size) = some 64 := by kernel_rfl
/-- A slice's length. -/
def lenOf' : Value → Nat | .slice _ n _ => n | _ => 0

theorem enc_at (l : List UInt8) (i : Nat) (h : i < encLen l.length) : (bvs (enc l)).drop i = Value.int .u8 ((sig (sx l i)).toNat : Int) :: (bvs (enc l)).drop (i + 1) := by
  rw [bvs_at _ _ (by rw [enc_len]; exact h), by_, enc_get l i h]

set_option maxRecDepth 100000 in
set_option maxHeartbeats 4000000 in
theorem encode_any (ge gd gs os c N E : Nat) (l : List UInt8) (w : World) (he : Enc w ge) (hF : Fill w w gd (bvs (enc l)) 0) (hgs : gs < w.heap.size) (hne : gs ≠ gd) (hN : N = l.length) (hE : E = encLen N) (hN0 : 0 < N) (hb : N ≤ 4096) (hc : N ≤ c)
    (hS : ∀ i, i < N → w.cell? ⟨gs, os + i, none⟩ = some (.int .u8 ((by_ l i : Nat) : Int))) :
    Calls Try.prog 25 #[.pointer (some ⟨ge, 0, none⟩), .slice (some ⟨gd, 0, none⟩) E E, .slice (some ⟨gs, os, none⟩) N c] w fun e w' => e = .returned (.tuple #[]) ∧ Fill w w' gd (bvs (enc l)) E := by
  have hz : ((N : Int) == 0) = false := beq_eq_false_iff_ne.2 (by omega)
  have hEb : E ≤ 8192 := by rw [hE]; unfold encLen; omega
  have hgg : ge ≠ gd := by
    obtain ⟨cur, _, hB, _, _⟩ := hF
    exact Blk.ne_ he hB (by decide)
  have HEN := Lib.hid hE
  have HNL := Lib.hid hN
  have HS := Lib.hid hS
  have HB : Hid (Enc w ge) := he
  have HF := Lib.hid hF
  have hge : ge < w.heap.size := Blk.lt he
  clear hE hN hS he hF
  go_enter Try.func25, Try.ntmps25
  go_wp2_with (with_reducible refine wpList_load_part rfl 43 (.tmp 14) rfl ge 0 64 rfl 46 (encRow 64 (-1)) _ (Enc.blk HB.out) Try.underlying43 rfl info43 (by rw [encRow_size]; omega) ?_; intro arr)
  go_frame
  have HL : Hid ((bvs (enc l)).length = E) := by show _ = _; rw [bvs_len, enc_len, HEN.out, HNL.out]
  go_loopw [1, 2] (fun d s wr => ∃ (m p q : Nat) (D S : Option Addr) (o n cs : Nat), d = .slice D o o ∧ s = .slice S n cs ∧ Hid (p = 3 * m) ∧ Hid (q = 4 * m) ∧ n + p ≤ N ∧ N ≤ n + p ∧ o + q ≤ E ∧ E ≤ o + q ∧ n ≤ cs ∧ Hid (0 < n → S = some ⟨gs, os + p, none⟩) ∧ Hid (0 < o → D = some ⟨gd, q, none⟩) ∧ Hid (Fill w wr gd (bvs (enc l)) q)) (fun _ s _ => lenOf' s)
  case atStart => exact ⟨0, 0, 0, _, _, E, N, c, rfl, rfl, rfl, rfl, by omega, by omega, by omega, by omega, hc, fun _ => rfl, fun _ => rfl, HF⟩
  case round =>
    clear HF
    obtain ⟨m, p, q, D, S, o, n, cs, rfl, rfl, HP, HQ, hn1, hn2, ho1, ho2, hncs, HSA, HDA, HF⟩ := hrel
    by_cases h3 : 3 ≤ n
    · have ho4 : 4 ≤ o := by
        have h1 := HEN.out
        have h2 := HP.out
        have h3 := HQ.out
        unfold encLen at h1
        omega
      obtain rfl := HSA.out (by omega)
      obtain rfl := HDA.out (by omega)
      have a0 := by_lt l p
      have a1 := by_lt l (p + 1)
      have a2 := by_lt l (p + 2)
      have s0 := (HF.out.cell_far hgs hne).trans (HS.out p (by omega))
      have s1 := (HF.out.cell_far hgs hne).trans (HS.out (p + 1) (by omega))
      have s2 := (HF.out.cell_far hgs hne).trans (HS.out (p + 2) (by omega))
      rw [← Nat.add_assoc] at s1 s2
      have hL := HL.out
      obtain ⟨v0, d0⟩ := HF.out.cell (o := q) (by omega)
      obtain ⟨v1, d1⟩ := HF.out.cell (o := q + 1) (by omega)
      obtain ⟨v2, d2⟩ := HF.out.cell (o := q + 2) (by omega)
      obtain ⟨v3, d3⟩ := HF.out.cell (o := q + 3) (by omega)
      have f0 := HF.out.frozen q
      have f1 := HF.out.frozen (q + 1)
      have f2 := HF.out.frozen (q + 2)
      have f3 := HF.out.frozen (q + 3)
      have x0 : sx l q = by_ l p / 4 := by rw [HP.out, HQ.out]; exact sx_0 l m
      have x1 : sx l (q + 1) = by_ l p % 4 * 16 + by_ l (p + 1) / 16 := by rw [HP.out, HQ.out]; exact sx_1 l m
      have x2 : sx l (q + 2) = by_ l (p + 1) % 16 * 4 + by_ l (p + 2) / 64 := by rw [HP.out, HQ.out]; exact sx_2 l m
      have x3 : sx l (q + 3) = by_ l (p + 2) % 64 := by rw [HP.out, HQ.out]; exact sx_3 l m
      have y0 := sx_lt l q
      have y1 := sx_lt l (q + 1)
      have y2 := sx_lt l (q + 2)
      have y3 := sx_lt l (q + 3)
      have hen : Enc wr ge := by
        obtain ⟨_, _, _, _, hg⟩ := HF.out
        exact Blk.grown HB.out hg (by intro e; injection e with e; exact hgg e)
      have t0 := hen.enc _ y0
      have t1 := hen.enc _ y1
      have t2 := hen.enc _ y2
      have t3 := hen.enc _ y3
      have hvs : [Value.int .u8 ((sig (sx l q)).toNat : Int), Value.int .u8 ((sig (sx l (q + 1))).toNat : Int), Value.int .u8 ((sig (sx l (q + 2))).toNat : Int), Value.int .u8 ((sig (sx l (q + 3))).toNat : Int)] = ((bvs (enc l)).drop q).take 4 := by
        have e : encLen l.length = E := by rw [HEN.out, HNL.out]
        rw [enc_at l q (by omega), enc_at l (q + 1) (by omega), enc_at l (q + 1 + 1) (by omega), enc_at l (q + 1 + 1 + 1) (by omega)]
        rfl
      clear hL hen
      generalize sx l q = z0 at *
      generalize sx l (q + 1) = z1 at *
      generalize sx l (q + 2) = z2 at *
      generalize sx l (q + 3) = z3 at *
      generalize by_ l p = a at *
      generalize by_ l (p + 1) = b at *
      generalize by_ l (p + 2) = c' at *
      generalize (sig z0).toNat = g0 at *
      generalize (sig z1).toNat = g1 at *
      generalize (sig z2).toNat = g2 at *
      generalize (sig z3).toNat = g3 at *
      have e1 := ev_1 a b a0 a1
      have e2 := ev_2 a b c' a0 a1 a2
      have i0 := ei_0 ((a : Int) * 65536 + (b : Int) * 256 + (c' : Int)) z0 (by omega) (by omega) (by omega)
      have i1 := ei_1 ((a : Int) * 65536 + (b : Int) * 256 + (c' : Int)) z1 (by omega) (by omega) (by omega)
      have i2 := ei_2 ((a : Int) * 65536 + (b : Int) * 256 + (c' : Int)) z2 (by omega) (by omega) (by omega)
      have i3 := ei_3 ((a : Int) * 65536 + (b : Int) * 256 + (c' : Int)) z3 (by omega) (by omega) (by omega)
      have HV := Lib.hid hvs
      have hgl : gd < wr.heap.size := by obtain ⟨_, _, hB, _, _⟩ := HF.out; exact hB.lt
      clear x0 x1 x2 x3 hvs
      go_wp2_with fail
      go_quiet (fail)
      go_wp2_with fail
      go_roundw
      case rel =>
        have hF2 := fun k : Nat => (HF.out.drewN k).more (n := q) (k := 4) (vs := [Value.int .u8 (g0 : Int), Value.int .u8 (g1 : Int), Value.int .u8 (g2 : Int), Value.int .u8 (g3 : Int)]) (by have := HL.out; simp only [List.length_cons, List.length_nil]; omega) HV.out rfl
        refine ⟨m + 1, p + 3, q + 4, _, _, o - 4, n - 3, cs - 3, rfl, rfl, ?_, ?_, by omega, by omega, by omega, by omega, by omega, ?_, ?_, hF2 _⟩
        · show _ = _; have := HP.out; omega
        · show _ = _; have := HQ.out; omega
        · intro h; rw [if_neg (by omega), Nat.add_assoc]
        · intro h; rw [if_neg (by omega)]
      case measure =>
        simp only [lenOf']; omega
    · have hE1 := HEN.out
      have hN1 := HNL.out
      have hP1 := HP.out
      have hQ1 := HQ.out
      rcases (by omega : n = 0 ∨ n = 1 ∨ n = 2) with hn | hn | hn
      · subst hn
        have hqe : q = E := by unfold encLen at hE1; omega
        have HQE := Lib.hid hqe
        clear hE1 hN1 hP1 hQ1 hqe
        go_wp2_with fail
        refine bodyPost_ret (results_none rfl _ _ _) rfl ?_
        refine ⟨rfl, ?_⟩
        have := HF.out
        rw [HQE.out] at this
        exact this
      · subst hn
        have hqe : q + 2 = E := by unfold encLen at hE1; omega
        have ho2 : o = 2 := by omega
        subst ho2
        obtain rfl := HSA.out (by omega)
        obtain rfl := HDA.out (by omega)
        have a0 := by_lt l p
        have b0 := by_end l (p + 1) (by omega)
        have s0 := (HF.out.cell_far hgs hne).trans (HS.out p (by omega))
        have hL := HL.out
        obtain ⟨v0, d0⟩ := HF.out.cell (o := q) (by omega)
        obtain ⟨v1, d1⟩ := HF.out.cell (o := q + 1) (by omega)
        have f0 := HF.out.frozen q
        have f1 := HF.out.frozen (q + 1)
        have x0 : sx l q = by_ l p / 4 := by rw [hP1, hQ1]; exact sx_0 l m
        have x1 : sx l (q + 1) = by_ l p % 4 * 16 + by_ l (p + 1) / 16 := by rw [hP1, hQ1]; exact sx_1 l m
        rw [b0] at x1
        have y0 := sx_lt l q
        have y1 := sx_lt l (q + 1)
        have hen : Enc wr ge := by
          obtain ⟨_, _, _, _, hg⟩ := HF.out
          exact Blk.grown HB.out hg (by intro e; injection e with e; exact hgg e)
        have t0 := hen.enc _ y0
        have t1 := hen.enc _ y1
        have tp := hen.pad
        have hvs : [Value.int .u8 ((sig (sx l q)).toNat : Int), Value.int .u8 ((sig (sx l (q + 1))).toNat : Int)] = ((bvs (enc l)).drop q).take 2 := by
          have e : encLen l.length = E := by rw [hE1, hN1]
          rw [enc_at l q (by omega), enc_at l (q + 1) (by omega)]
          rfl
        have HQE := Lib.hid hqe
        clear hL hen hE1 hN1 hP1 hQ1 hqe b0
        generalize sx l q = z0 at *
        generalize sx l (q + 1) = z1 at *
        generalize by_ l p = a at *
        generalize (sig z0).toNat = g0 at *
        generalize (sig z1).toNat = g1 at *
        have i0 := ei_0 ((a : Int) * 65536) z0 (by omega) (by omega) (by omega)
        have i1 := ei_1 ((a : Int) * 65536) z1 (by omega) (by omega) (by omega)
        have HV := Lib.hid hvs
        have hgl : gd < wr.heap.size := by obtain ⟨_, _, hB, _, _⟩ := HF.out; exact hB.lt
        clear x0 x1 hvs
        go_wp2_with fail
        go_end0
        refine ⟨rfl, ?_⟩
        have hF2 := HF.out.more (n := q) (k := 2) (vs := [Value.int .u8 (g0 : Int), Value.int .u8 (g1 : Int)]) (by have := HL.out; have := HQE.out; simp only [List.length_cons, List.length_nil]; omega) HV.out rfl
        rw [HQE.out] at hF2
        exact hF2
      · subst hn
        have hqe : q + 3 = E := by unfold encLen at hE1; omega
        have ho2 : o = 3 := by omega
        subst ho2
        obtain rfl := HSA.out (by omega)
        obtain rfl := HDA.out (by omega)
        have a0 := by_lt l p
        have a1 := by_lt l (p + 1)
        have b0 := by_end l (p + 2) (by omega)
        have s0 := (HF.out.cell_far hgs hne).trans (HS.out p (by omega))
        have s1 := (HF.out.cell_far hgs hne).trans (HS.out (p + 1) (by omega))
        rw [← Nat.add_assoc] at s1
        have hL := HL.out
        obtain ⟨v0, d0⟩ := HF.out.cell (o := q) (by omega)
        obtain ⟨v1, d1⟩ := HF.out.cell (o := q + 1) (by omega)
        obtain ⟨v2, d2⟩ := HF.out.cell (o := q + 2) (by omega)
        have f0 := HF.out.frozen q
        have f1 := HF.out.frozen (q + 1)
        have f2 := HF.out.frozen (q + 2)
        have x0 : sx l q = by_ l p / 4 := by rw [hP1, hQ1]; exact sx_0 l m
        have x1 : sx l (q + 1) = by_ l p % 4 * 16 + by_ l (p + 1) / 16 := by rw [hP1, hQ1]; exact sx_1 l m
        have x2 : sx l (q + 2) = by_ l (p + 1) % 16 * 4 + by_ l (p + 2) / 64 := by rw [hP1, hQ1]; exact sx_2 l m
        rw [b0] at x2
        have y0 := sx_lt l q
        have y1 := sx_lt l (q + 1)
        have y2 := sx_lt l (q + 2)
        have hen : Enc wr ge := by
          obtain ⟨_, _, _, _, hg⟩ := HF.out
          exact Blk.grown HB.out hg (by intro e; injection e with e; exact hgg e)
        have t0 := hen.enc _ y0
        have t1 := hen.enc _ y1
        have t2 := hen.enc _ y2
        have tp := hen.pad
        have hvs : [Value.int .u8 ((sig (sx l q)).toNat : Int), Value.int .u8 ((sig (sx l (q + 1))).toNat : Int), Value.int .u8 ((sig (sx l (q + 2))).toNat : Int)] = ((bvs (enc l)).drop q).take 3 := by
          have e : encLen l.length = E := by rw [hE1, hN1]
          rw [enc_at l q (by omega), enc_at l (q + 1) (by omega), enc_at l (q + 1 + 1) (by omega)]
          rfl
        have HQE := Lib.hid hqe
        clear hL hen hE1 hN1 hP1 hQ1 hqe b0
        generalize sx l q = z0 at *
        generalize sx l (q + 1) = z1 at *
        generalize sx l (q + 2) = z2 at *
        generalize by_ l p = a at *
        generalize by_ l (p + 1) = b at *
        generalize (sig z0).toNat = g0 at *
        generalize (sig z1).toNat = g1 at *
        generalize (sig z2).toNat = g2 at *
        have e1 := ev_1 a b a0 a1
        have i0 := ei_0 ((a : Int) * 65536 + (b : Int) * 256) z0 (by omega) (by omega) (by omega)
        have i1 := ei_1 ((a : Int) * 65536 + (b : Int) * 256) z1 (by omega) (by omega) (by omega)
        have i2 := ei_2 ((a : Int) * 65536 + (b : Int) * 256) z2 (by omega) (by omega) (by omega)
        have HV := Lib.hid hvs
        have hgl : gd < wr.heap.size := by obtain ⟨_, _, hB, _, _⟩ := HF.out; exact hB.lt
        clear x0 x1 x2 hvs
        go_wp2_with fail
        go_quiet (fail)
        go_wp2_with fail
        go_end0
        refine ⟨rfl, ?_⟩
        have hF2 := fun k : Nat => (HF.out.drewN k).more (n := q) (k := 3) (vs := [Value.int .u8 (g0 : Int), Value.int .u8 (g1 : Int), Value.int .u8 (g2 : Int)]) (by have := HL.out; have := HQE.out; simp only [List.length_cons, List.length_nil]; omega) HV.out rfl
        rw [HQE.out] at hF2
        exact hF2 _

end Go.Proofs.Ytekjfplcibnafaa
