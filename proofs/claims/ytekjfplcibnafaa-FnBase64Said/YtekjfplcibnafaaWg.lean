/-
  The walk of Decode over well-formed signs: all bytes are written, no error.
-/
import Derived.Test.YtekjfplcibnafaaSx
import Derived.Deep.DeepCutAuto
import Derived.Deep.CutBlock
import Derived.Deep.CutRange
namespace Go.Proofs.Ytekjfplcibnafaa
open Go.RowKit

/-- What the loops keep: n bytes are written. -/
def Dec (w wr : World) (gd : Nat) (l : List UInt8) (n : Nat) : Prop :=
  ∃ cur : List Value, cur.length = l.length ∧ Blk wr gd 5 cur.toArray ∧ cur.take n = (bvs l).take n ∧ w.grownBy wr (some gd)

theorem Dec.enc {w wr : World} {ge gd n : Nat} {l : List UInt8} (he : Enc w ge) (h : Dec w wr gd l n) (hne : ge ≠ gd) : Enc wr ge := by
  obtain ⟨cur, _, _, _, hg⟩ := h
  exact Blk.grown he hg (by intro e; injection e with e; exact hne e)
theorem Dec.sign {w wr : World} {ge gd gs os E n i : Nat} {l : List UInt8} (he : Enc w ge) (h : Dec w wr gd l n) (hne : ge ≠ gd) (hgs : gs < w.heap.size) (hne2 : gs ≠ gd)
    (hS : ∀ i, i < E → w.cell? ⟨gs, os + i, none⟩ = some (.int .u8 ((sig (sx l i)).toNat : Int))) (hi : i < E) : Sign wr ge gs (os + i) (sx l i) := by
  refine Sign.mk' (h.enc he hne) (sx_lt l i) ?_
  obtain ⟨cur, _, _, _, hg⟩ := h
  rw [hg.cell_far ⟨gs, os + i, none⟩ hgs (by intro e; injection e with e; exact hne2 e)]
  exact hS i hi
theorem Dec.drewN {w wr : World} {gd n : Nat} {l : List UInt8} (h : Dec w wr gd l n) (k : Nat) : Dec w (wr.drewN k) gd l n := by
  obtain ⟨cur, h1, h2, h3, h4⟩ := h
  exact ⟨cur, h1, h2.drewN k, h3, ⟨h4.os, h4.tape, h4.output, h4.size, h4.block⟩⟩
/-- k bytes more. -/
theorem Dec.more {w wr w2 : World} {gd n k : Nat} {l : List UInt8} {vs cur : List Value} (hc : cur.length = l.length) (ht : cur.take n = (bvs l).take n) (hg : w.grownBy wr (some gd)) (hB : Blk w2 gd 5 (splice cur n vs).toArray) (hg2 : wr.grownBy w2 (some gd))
    (hn : n + vs.length ≤ l.length) (hv : vs.take k = ((bvs l).drop n).take k) (hk : k ≤ vs.length) : Dec w w2 gd l (n + k) :=
  ⟨_, by rw [length_splice _ _ _ (by omega)]; exact hc, hB, take_splice cur vs _ n k ht (by omega) hv hk, hg.trans hg2⟩

/-- A call that leaves the world as it was is quiet. -/
theorem quiet_left {P : Program} {f : FuncId} {args : Array Value} {w : World} {n : Nat} {v : Value}
    (h : Calls P f args (w.drewN n) fun e w' => e = .returned v ∧ w.drewN n = w') : Calls P f args (w.drewN n) fun e w' => e = .returned v ∧ ∃ m, w' = w.drewN m :=
  h.mono fun _ _ ⟨he, hm⟩ => ⟨he, n, hm.symm⟩

theorem ret2 {a b : Int} {u v : Value} (h : a = b) (h3 : u = v) : Ending.returned (.tuple #[.int .i64 a, u]) = Ending.returned (.tuple #[.int .i64 b, v]) := by subst h h3; rfl

/-- What the slots hold between the loops: n bytes written, si signs read, fewer than q bytes left. -/
def Stage (w wx : World) (gd N q : Nat) (l : List UInt8) (vn ve vs : Value) : Prop :=
  ∃ m n si : Nat, vn = .int .i64 (n : Int) ∧ ve = .nilIface ∧ vs = .int .i64 (si : Int) ∧ n ≤ N ∧ N < n + q ∧ Hid (n = 3 * m) ∧ Hid (si = 4 * m) ∧ Hid (Dec w wx gd l n)

set_option maxRecDepth 100000 in
set_option maxHeartbeats 4000000 in
theorem decode_any (ge gd gs os ce N E : Nat) (l : List UInt8) (w : World) (he : Enc w ge) (hD : Dec w w gd l 0) (hgs : gs < w.heap.size) (hne : gs ≠ gd) (hN : N = l.length) (hE : E = encLen N) (hN0 : 0 < N) (hb : N ≤ 4096) (hce : E ≤ ce)
    (hS : ∀ i, i < E → w.cell? ⟨gs, os + i, none⟩ = some (.int .u8 ((sig (sx l i)).toNat : Int))) :
    Calls Try.prog 16 #[.pointer (some ⟨ge, 0, none⟩), .slice (some ⟨gd, 0, none⟩) N N, .slice (some ⟨gs, os, none⟩) E ce] w fun e w' => e = .returned (.tuple #[.int .i64 (N : Int), .nilIface]) ∧ Dec w w' gd l N := by
  have hE0 : 0 < E := by rw [hE]; unfold encLen; omega
  have hEb : E ≤ 8192 := by rw [hE]; unfold encLen; omega
  have hz : ((E : Int) == 0) = false := beq_eq_false_iff_ne.2 (by omega)
  have hgg : ge ≠ gd := by
    obtain ⟨cur, _, hB, _, _⟩ := hD
    exact Blk.ne_ he hB (by decide)
  have HEN := Lib.hid hE
  have HNL := Lib.hid hN
  have HS := Lib.hid hS
  have HB : Hid (Enc w ge) := he
  have HD := Lib.hid hD
  have hge : ge < w.heap.size := Blk.lt he
  clear hE hN hS he hD
  go_enter Try.func16, Try.ntmps16
  go_upto_block 0 with (with_reducible refine wpList_load_part rfl 44 (.tmp 23) rfl ge 64 256 rfl 46 (encRow 64 (-1)) _ (Enc.blk HB.out) Try.underlying44 rfl info44 (by rw [encRow_size]; omega) ?_; intro arr)
  go_cut [6, 7, 8] (fun vn ve vs wx => Stage w wx gd N 8 l vn ve vs)
  case first =>
    go_wp2_with fail
    go_loopw [6, 7, 8] (fun vn ve vs wr => Stage w wr gd N (N + 1) l vn ve vs) (fun vn _ _ _ => N - (intOf vn).toNat)
    case atStart => exact ⟨0, 0, 0, rfl, rfl, rfl, Nat.zero_le _, by omega, rfl, rfl, HD⟩
    case round =>
      clear HD
      obtain ⟨m, n, si, rfl, rfl, rfl, hnN, _, HM, HSI, HD⟩ := hrel
      by_cases h8 : n + 8 ≤ N
      · have hE8 : si + 8 ≤ E := by
          have h1 := HEN.out
          have h2 := HM.out
          have h3 := HSI.out
          rw [h1, h3]; unfold encLen; omega
        obtain ⟨hx0, c0, hc0, ha0, hd0⟩ := HD.out.sign HB.out hgg hgs hne HS.out (show si < E by omega)
        obtain ⟨hx1, c1, hc1, ha1, hd1⟩ := HD.out.sign HB.out hgg hgs hne HS.out (show si + 1 < E by omega)
        obtain ⟨hx2, c2, hc2, ha2, hd2⟩ := HD.out.sign HB.out hgg hgs hne HS.out (show si + 2 < E by omega)
        obtain ⟨hx3, c3, hc3, ha3, hd3⟩ := HD.out.sign HB.out hgg hgs hne HS.out (show si + 3 < E by omega)
        obtain ⟨hx4, c4, hc4, ha4, hd4⟩ := HD.out.sign HB.out hgg hgs hne HS.out (show si + 4 < E by omega)
        obtain ⟨hx5, c5, hc5, ha5, hd5⟩ := HD.out.sign HB.out hgg hgs hne HS.out (show si + 5 < E by omega)
        obtain ⟨hx6, c6, hc6, ha6, hd6⟩ := HD.out.sign HB.out hgg hgs hne HS.out (show si + 6 < E by omega)
        obtain ⟨hx7, c7, hc7, ha7, hd7⟩ := HD.out.sign HB.out hgg hgs hne HS.out (show si + 7 < E by omega)
        have hbytes := fun h => be64_bytes l m n HM.out h
        rw [← HSI.out] at hbytes
        have HBY := Lib.hid hbytes
        clear hbytes
        generalize sx l si = x0 at *
        generalize sx l (si + 1) = x1 at *
        generalize sx l (si + 2) = x2 at *
        generalize sx l (si + 3) = x3 at *
        generalize sx l (si + 4) = x4 at *
        generalize sx l (si + 5) = x5 at *
        generalize sx l (si + 6) = x6 at *
        generalize sx l (si + 7) = x7 at *
        simp only [← Nat.add_assoc] at ha0 ha1 ha2 ha3 ha4 ha5 ha6 ha7
        have h88 : si + 8 - si = 8 := by omega
        go_wp2_with fail
        simp only [List.append]
        go_quiet ((go_at_call 19; exact quiet_left (assemble64_any x0 x1 x2 x3 x4 x5 x6 x7 _ hx0 hx1 hx2 hx3 hx4 hx5 hx6 hx7)))
        obtain ⟨cur, hcl, hcb, hct, hcg⟩ := HD.out.drewN nq
        have hlen : n + 8 ≤ cur.length := by rw [hcl, ← HNL.out]; exact h8
        have HC1 := Lib.hid hcl
        have HC2 := Lib.hid hct
        have HC3 := Lib.hid hcb
        have HC4 := Lib.hid hcg
        clear hcl hct hcb hcg HD ha0 ha1 ha2 ha3 ha4 ha5 ha6 ha7 hd0 hd1 hd2 hd3 hd4 hd5 hd6 hd7
        have hnN2 : ¬ N = n := by omega
        go_wp2_with fail
        refine (putBE64_any gd n (N - n) (N - n) _ _ cur _ HC3.out hlen (by omega) (sum8 x0 x1 x2 x3 x4 x5 x6 x7) (sum8_lt x0 x1 x2 x3 x4 x5 x6 x7 hx0 hx1 hx2 hx3 hx4 hx5 hx6 hx7)).mono ?_
        rintro e w2 ⟨rfl, hB2, hg2⟩
        have HD2 : Hid (Dec w w2 gd l (n + 6)) := Dec.more HC1.out HC2.out HC4.out hB2 hg2 (by rw [be64_len, ← HNL.out]; exact h8) (HBY.out (by rw [← HNL.out]; omega)) (by rw [be64_len]; omega)
        have HM2 : Hid (n + 6 = 3 * (m + 2)) := by have := HM.out; show _ = _; omega
        have HSI2 : Hid (si + 8 = 4 * (m + 2)) := by have := HSI.out; show _ = _; omega
        clear hB2 hg2 HBY HC1 HC2 HC3 HC4 HM HSI
        go_wp2_with fail
        go_roundw
        case rel => exact ⟨m + 2, n + 6, si + 8, by go_num, rfl, by go_num, by omega, by omega, HM2, HSI2, HD2⟩
        case measure => simp [intOf]; omega
      · have hsE : si ≤ E := by
          have h1 := HEN.out
          have h2 := HM.out
          have h3 := HSI.out
          rw [h1, h3]; unfold encLen; omega
        by_cases hE8 : si + 8 ≤ E
        · go_wp2_with fail
          go_meet
          case rel => exact ⟨m, n, si, rfl, rfl, rfl, hnN, by omega, HM, HSI, HD⟩
        · go_wp2_with fail
          go_meet
          case rel => exact ⟨m, n, si, rfl, rfl, rfl, hnN, by omega, HM, HSI, HD⟩
  case rest =>
    obtain ⟨m, n, si, rfl, rfl, rfl, hnN, hq, HM, HSI, HD⟩ := hcut
    go_upto_block 2 with fail
    clear hq
    go_cut [6, 7, 8] (fun vn ve vs wx => Stage w wx gd N 4 l vn ve vs)
    case first =>
      go_wp2_with fail
      go_loopw [6, 7, 8] (fun vn ve vs wr => Stage w wr gd N (N + 1) l vn ve vs) (fun vn _ _ _ => N - (intOf vn).toNat)
      case atStart => exact ⟨m, n, si, rfl, rfl, rfl, hnN, by omega, HM, HSI, HD⟩
      case round =>
        clear HD HM HSI hnN
        obtain ⟨m, n, si, rfl, rfl, rfl, hnN, _, HM, HSI, HD⟩ := hrel
        by_cases h8 : n + 4 ≤ N
        · have hE8 : si + 4 ≤ E := by
            have h1 := HEN.out
            have h2 := HM.out
            have h3 := HSI.out
            rw [h1, h3]; unfold encLen; omega
          obtain ⟨hx0, c0, hc0, ha0, hd0⟩ := HD.out.sign HB.out hgg hgs hne HS.out (show si < E by omega)
          obtain ⟨hx1, c1, hc1, ha1, hd1⟩ := HD.out.sign HB.out hgg hgs hne HS.out (show si + 1 < E by omega)
          obtain ⟨hx2, c2, hc2, ha2, hd2⟩ := HD.out.sign HB.out hgg hgs hne HS.out (show si + 2 < E by omega)
          obtain ⟨hx3, c3, hc3, ha3, hd3⟩ := HD.out.sign HB.out hgg hgs hne HS.out (show si + 3 < E by omega)
          have hbytes := fun h => be32_bytes l m n HM.out h
          rw [← HSI.out] at hbytes
          have HBY := Lib.hid hbytes
          clear hbytes
          generalize sx l si = x0 at *
          generalize sx l (si + 1) = x1 at *
          generalize sx l (si + 2) = x2 at *
          generalize sx l (si + 3) = x3 at *
          simp only [← Nat.add_assoc] at ha0 ha1 ha2 ha3
          have h88 : si + 4 - si = 4 := by omega
          go_wp2_with fail
          go_quiet ((go_at_call 22; exact quiet_left (assemble32_any x0 x1 x2 x3 _ hx0 hx1 hx2 hx3)))
          obtain ⟨cur, hcl, hcb, hct, hcg⟩ := HD.out.drewN nq
          have hlen : n + 4 ≤ cur.length := by rw [hcl, ← HNL.out]; exact h8
          have HC1 := Lib.hid hcl
          have HC2 := Lib.hid hct
          have HC3 := Lib.hid hcb
          have HC4 := Lib.hid hcg
          clear hcl hct hcb hcg HD ha0 ha1 ha2 ha3 hd0 hd1 hd2 hd3
          have hnN2 : ¬ N = n := by omega
          go_wp2_with fail
          refine (putBE32_any gd n (N - n) (N - n) _ _ cur _ HC3.out hlen (by omega) (sum4 x0 x1 x2 x3) (sum4_lt x0 x1 x2 x3 hx0 hx1 hx2 hx3)).mono ?_
          rintro e w2 ⟨rfl, hB2, hg2⟩
          have HD2 : Hid (Dec w w2 gd l (n + 3)) := Dec.more HC1.out HC2.out HC4.out hB2 hg2 (by rw [be32_len, ← HNL.out]; exact h8) (HBY.out (by rw [← HNL.out]; omega)) (by rw [be32_len]; omega)
          have HM2 : Hid (n + 3 = 3 * (m + 1)) := by have := HM.out; show _ = _; omega
          have HSI2 : Hid (si + 4 = 4 * (m + 1)) := by have := HSI.out; show _ = _; omega
          clear hB2 hg2 HBY HC1 HC2 HC3 HC4 HM HSI
          go_wp2_with fail
          go_roundw
          case rel => exact ⟨m + 1, n + 3, si + 4, by go_num, rfl, by go_num, by omega, by omega, HM2, HSI2, HD2⟩
          case measure => simp [intOf]; omega
        · have hsE : si ≤ E := by
            have h1 := HEN.out
            have h2 := HM.out
            have h3 := HSI.out
            rw [h1, h3]; unfold encLen; omega
          have hd1 : decide ((4 : Int) ≤ (N : Int) - (n : Int)) = false := decide_eq_false (by omega)
          have hd4 : ¬ (4 : Int) ≤ (N : Int) - (n : Int) := by omega
          by_cases hE8 : si + 4 ≤ E
          · have hd2 : decide ((4 : Int) ≤ (E : Int) - (si : Int)) = true := decide_eq_true (by omega)
            go_wp2_with fail
            go_meet
            case rel => exact ⟨m, n, si, rfl, rfl, rfl, hnN, by omega, HM, HSI, HD⟩
          · go_wp2_with fail
            go_meet
            case rel => exact ⟨m, n, si, rfl, rfl, rfl, hnN, by omega, HM, HSI, HD⟩
    case rest =>
      clear HD HM HSI hnN
      obtain ⟨m, n, si, rfl, rfl, rfl, hnN, hq, HM, HSI, HD⟩ := hcut
      go_wp2_with fail
      rcases (show N ≤ n ∨ N = n + 1 ∨ N = n + 2 ∨ N = n + 3 by omega) with h0 | hr | hr | hr
      · have hEk : E ≤ si := by
          have h1 := HEN.out
          have h2 := HM.out
          have h3 := HSI.out
          rw [h1, h3]; unfold encLen; omega
        have hNn : (n : Int) = (N : Int) := by omega
        have HNn := Lib.hid hNn
        have hnN3 : n = N := by omega
        have HN3 := Lib.hid hnN3
        clear hNn hnN3
        go_rounds 1
        go_ret2
        exact ⟨ret2 HNn.out rfl, by rw [← HN3.out]; exact HD.out⟩
      · have hN1 : n + 1 ≤ N := by omega
        have hN2 : N ≤ n + 1 := by omega
        clear hr
        have hEk : E = si + 2 := by
          have h1 := HEN.out
          have h2 := HM.out
          have h3 := HSI.out
          rw [h1, h3]; unfold encLen; omega
        have hE1 : si + 2 ≤ E := by omega
        have hE2 : E ≤ si + 2 := by omega
        have hns := Lib.hid hEk
        clear hEk
        have g0 := HD.out.sign HB.out hgg hgs hne HS.out (show si < E by omega)
        have g1 := HD.out.sign HB.out hgg hgs hne HS.out (show si + 1 < E by omega)
        have hbytes := fun h => dq_bytes2 l m n HM.out h
        rw [← HSI.out] at hbytes
        have HBY := Lib.hid hbytes
        clear hbytes
        generalize sx l si = x0 at *
        generalize sx l (si + 1) = x1 at *
        have G0 := Lib.hid g0
        have G1 := Lib.hid g1
        clear g0 g1
        have hen := HD.out.enc HB.out hgg
        obtain ⟨cur, hcl, hcb, hct, hcg⟩ := HD.out
        have hlen : n + 1 ≤ cur.length := by rw [hcl, ← HNL.out]; omega
        have hgs2 : gs < wc.heap.size := by have := hcg.size; omega
        have HC1 := Lib.hid hcl
        have HC2 := Lib.hid hct
        have HC3 := Lib.hid hcb
        have HC4 := Lib.hid hcg
        have HE2 := Lib.hid hen
        clear hcl hct hcb hcg hen HD
        have hnN2 : ¬ N = n := by omega
        refine wp_loop_rounds 2 ?_
        rw [rounds_succ]
        go_wp2_with fail
        refine (quantum2 ge gd n (N - n) (N - n) gs os E ce si x0 x1 cur wc HE2.out HC3.out hlen (by omega) hgs2 hns.out (by omega) G0.out G1.out).mono ?_
        rintro e w2 ⟨rfl, hB2, hg2⟩
        have HD2 : Hid (Dec w w2 gd l (n + 1)) := Dec.more HC1.out HC2.out HC4.out hB2 hg2 (by simp [dq3]; rw [← HNL.out]; omega) (by rw [List.take_take]; exact HBY.out (by rw [← HNL.out]; omega)) (by simp [dq3])
        clear hB2 hg2 HBY HC1 HC2 HC3 HC4 HE2
        go_wp2_with fail
        rw [rounds_succ]
        go_wp2
        go_ret2
        exact ⟨ret2 (by omega) rfl, by rw [show N = n + 1 by omega]; exact HD2.out⟩
      · have hN1 : n + 2 ≤ N := by omega
        have hN2 : N ≤ n + 2 := by omega
        clear hr
        have hEk : E = si + 3 := by
          have h1 := HEN.out
          have h2 := HM.out
          have h3 := HSI.out
          rw [h1, h3]; unfold encLen; omega
        have hE1 : si + 3 ≤ E := by omega
        have hE2 : E ≤ si + 3 := by omega
        have hns := Lib.hid hEk
        clear hEk
        have g0 := HD.out.sign HB.out hgg hgs hne HS.out (show si < E by omega)
        have g1 := HD.out.sign HB.out hgg hgs hne HS.out (show si + 1 < E by omega)
        have g2 := HD.out.sign HB.out hgg hgs hne HS.out (show si + 2 < E by omega)
        have hbytes := fun h => dq_bytes3 l m n HM.out h
        rw [← HSI.out] at hbytes
        have HBY := Lib.hid hbytes
        clear hbytes
        generalize sx l si = x0 at *
        generalize sx l (si + 1) = x1 at *
        generalize sx l (si + 2) = x2 at *
        have G0 := Lib.hid g0
        have G1 := Lib.hid g1
        have G2 := Lib.hid g2
        clear g0 g1 g2
        have hen := HD.out.enc HB.out hgg
        obtain ⟨cur, hcl, hcb, hct, hcg⟩ := HD.out
        have hlen : n + 2 ≤ cur.length := by rw [hcl, ← HNL.out]; omega
        have hgs2 : gs < wc.heap.size := by have := hcg.size; omega
        have HC1 := Lib.hid hcl
        have HC2 := Lib.hid hct
        have HC3 := Lib.hid hcb
        have HC4 := Lib.hid hcg
        have HE2 := Lib.hid hen
        clear hcl hct hcb hcg hen HD
        have hnN2 : ¬ N = n := by omega
        refine wp_loop_rounds 2 ?_
        rw [rounds_succ]
        go_wp2_with fail
        refine (quantum3 ge gd n (N - n) (N - n) gs os E ce si x0 x1 x2 cur wc HE2.out HC3.out hlen (by omega) hgs2 hns.out (by omega) G0.out G1.out G2.out).mono ?_
        rintro e w2 ⟨rfl, hB2, hg2⟩
        have HD2 : Hid (Dec w w2 gd l (n + 2)) := Dec.more HC1.out HC2.out HC4.out hB2 hg2 (by simp [dq3]; rw [← HNL.out]; omega) (by rw [List.take_take]; exact HBY.out (by rw [← HNL.out]; omega)) (by simp [dq3])
        clear hB2 hg2 HBY HC1 HC2 HC3 HC4 HE2
        go_wp2_with fail
        rw [rounds_succ]
        go_wp2
        go_ret2
        exact ⟨ret2 (by omega) rfl, by rw [show N = n + 2 by omega]; exact HD2.out⟩
      · have hN1 : n + 3 ≤ N := by omega
        have hN2 : N ≤ n + 3 := by omega
        clear hr
        have hEk : E = si + 4 := by
          have h1 := HEN.out
          have h2 := HM.out
          have h3 := HSI.out
          rw [h1, h3]; unfold encLen; omega
        have hE1 : si + 4 ≤ E := by omega
        have hE2 : E ≤ si + 4 := by omega
        have hns := Lib.hid hEk
        clear hEk
        have g0 := HD.out.sign HB.out hgg hgs hne HS.out (show si < E by omega)
        have g1 := HD.out.sign HB.out hgg hgs hne HS.out (show si + 1 < E by omega)
        have g2 := HD.out.sign HB.out hgg hgs hne HS.out (show si + 2 < E by omega)
        have g3 := HD.out.sign HB.out hgg hgs hne HS.out (show si + 3 < E by omega)
        have hbytes := fun h => dq_bytes4 l m n HM.out h
        rw [← HSI.out] at hbytes
        have HBY := Lib.hid hbytes
        clear hbytes
        generalize sx l si = x0 at *
        generalize sx l (si + 1) = x1 at *
        generalize sx l (si + 2) = x2 at *
        generalize sx l (si + 3) = x3 at *
        have G0 := Lib.hid g0
        have G1 := Lib.hid g1
        have G2 := Lib.hid g2
        have G3 := Lib.hid g3
        clear g0 g1 g2 g3
        have hen := HD.out.enc HB.out hgg
        obtain ⟨cur, hcl, hcb, hct, hcg⟩ := HD.out
        have hlen : n + 3 ≤ cur.length := by rw [hcl, ← HNL.out]; omega
        have hgs2 : gs < wc.heap.size := by have := hcg.size; omega
        have HC1 := Lib.hid hcl
        have HC2 := Lib.hid hct
        have HC3 := Lib.hid hcb
        have HC4 := Lib.hid hcg
        have HE2 := Lib.hid hen
        clear hcl hct hcb hcg hen HD
        have hnN2 : ¬ N = n := by omega
        refine wp_loop_rounds 2 ?_
        rw [rounds_succ]
        go_wp2_with fail
        refine (quantum4 ge gd n (N - n) (N - n) gs os E ce si x0 x1 x2 x3 cur wc HE2.out HC3.out hlen (by omega) hgs2 hns.out (by omega) G0.out G1.out G2.out G3.out).mono ?_
        rintro e w2 ⟨rfl, hB2, hg2⟩
        have HD2 : Hid (Dec w w2 gd l (n + 3)) := Dec.more HC1.out HC2.out HC4.out hB2 hg2 (by simp [dq3]; rw [← HNL.out]; omega) (by rw [List.take_take]; exact HBY.out (by rw [← HNL.out]; omega)) (by simp [dq3])
        clear hB2 hg2 HBY HC1 HC2 HC3 HC4 HE2
        go_wp2_with fail
        rw [rounds_succ]
        go_wp2
        go_ret2
        exact ⟨ret2 (by omega) rfl, by rw [show N = n + 3 by omega]; exact HD2.out⟩

end Go.Proofs.Ytekjfplcibnafaa
