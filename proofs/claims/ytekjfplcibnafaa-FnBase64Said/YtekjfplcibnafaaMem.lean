/-
  Facts on memory: slices that read as lists of cells or of bytes, blocks that are known whole, append onto a row of the call's own. No condition: plain lemmas about worlds.
-/
import Derived.WalkKit
import Derived.WalkSpells
import Derived.WalkLawsBesides
import Derived.ProofKit
import Derived.Below
import Derived.Lib.Hide
import Derived.Laws.OwnMore
import Derived.Laws.BytesString
import Derived.Laws.BytesArg
import Derived.Laws.CopyOwn
import Derived.Deep.AppendLies
import Derived.Deep.Draws
import Derived.Maps.AppendAt
import Derived.RegionTactic
import Derived.OwnWalk
namespace Go.Proofs.Ytekjfplcibnafaa
open Go.RowKit

theorem block_of_add (a : Addr) (n : Nat) : (a.add n).block = a.block := by unfold Addr.add; split <;> rfl
theorem add_of_add (a : Addr) (i j : Nat) : (a.add i).add j = a.add (i + j) := by
  unfold Addr.add
  by_cases hi : i = 0 <;> by_cases hj : j = 0 <;> simp [hi, hj, Nat.add_assoc]
theorem add_lit' (g o j : Nat) : (⟨g, o, none⟩ : Addr).add j = ⟨g, o + j, none⟩ := by unfold Addr.add; split <;> simp_all
theorem add_zero' (a : Addr) : a.add 0 = a := by simp [Addr.add]

/-- A byte as a cell holds it. -/
def bv (b : UInt8) : Value := .int .u8 (b.toNat : Int)
/-- Bytes as cells. -/
def bvs (l : List UInt8) : List Value := l.map bv
theorem bvs_len (l : List UInt8) : (bvs l).length = l.length := by simp [bvs]
theorem bvs_get (l : List UInt8) (i : Nat) (h : i < l.length) : (bvs l)[i]? = some (.int .u8 (l[i].toNat : Int)) := by simp [bvs, bv, h]
theorem bvs_append (l m : List UInt8) : bvs (l ++ m) = bvs l ++ bvs m := by simp [bvs]
theorem bvs_one (l : List UInt8) : ∀ u ∈ bvs l, u.oneCell' = true := by
  intro u hu; simp [bvs] at hu; obtain ⟨b, _, rfl⟩ := hu; rfl

theorem bv_one (b : UInt8) : (bv b).oneCell' = true := rfl
theorem rep_one (n : Nat) (b : UInt8) : ∀ u ∈ List.replicate n (bv b), u.oneCell' = true := by
  intro u hu; rw [List.mem_replicate] at hu; rw [hu.2]; rfl

/-- The slice value at address A (nil or not), of as many elements as l has, reads as the cells xs in world w. -/
def Reads (w : World) (A : Option Addr) (xs : List Value) : Prop :=
  0 < xs.length → ∃ ad, A = some ad ∧ ad.block < w.heap.size ∧ ∀ j u, xs[j]? = some u → w.cell? (ad.add j) = some u

section
variable {w w' : World} {A : Option Addr} {xs : List Value}
theorem Reads.nil_ : Reads w A [] := fun h => absurd h (by simp)
theorem Reads.keep (h : Reads w A xs) (hs : w.heap.size ≤ w'.heap.size) (hk : ∀ p : Addr, p.block < w.heap.size → w'.cell? p = w.cell? p) : Reads w' A xs := fun hn => by
    obtain ⟨ad, e, hb, hc⟩ := h hn
    exact ⟨ad, e, by omega, fun j u hu => (hk _ (by rw [block_of_add]; exact hb)).trans (hc j u hu)⟩
theorem Reads.below (h : Reads w A xs) (hb : Below w.heap.size w w') : Reads w' A xs := h.keep hb.size fun _ hp => hb.cell hp
theorem Reads.drew (h : Reads w A xs) : Reads w.drew A xs := h
theorem Reads.drewN (h : Reads w A xs) (k : Nat) : Reads (w.drewN k) A xs := h
theorem Reads.alloc (h : Reads w A xs) (o : Obj) : Reads (w.alloc o) A xs := h.keep (by simp) fun p hp => World.cell?_alloc_lt w o p hp
theorem Reads.cell (h : Reads w A xs) {k : Nat} (hk : k < xs.length) : ∃ ad, A = some ad ∧ ad.block < w.heap.size ∧ w.cell? (ad.add k) = some xs[k] := by
  obtain ⟨ad, e, hb, hc⟩ := h (by omega)
  exact ⟨ad, e, hb, hc k _ (List.getElem?_eq_getElem hk)⟩
theorem Reads.take (h : Reads w A xs) (k : Nat) : Reads w A (xs.take k) := fun hn => by
  obtain ⟨ad, e, hb, hc⟩ := h (by simp at hn; omega)
  exact ⟨ad, e, hb, fun j u hu => hc j u (by
    rw [List.getElem?_take] at hu
    split at hu
    · exact hu
    · cases hu)⟩
theorem Reads.drop {ad : Addr} (h : Reads w (some ad) xs) (k : Nat) : Reads w (some (ad.add k)) (xs.drop k) := fun hn => by
  obtain ⟨ad', e, hb, hc⟩ := h (by simp at hn; omega)
  injection e with e; subst e
  refine ⟨_, rfl, by rw [block_of_add]; exact hb, fun j u hu => ?_⟩
  rw [add_of_add]
  exact hc _ u (by rw [← hu, List.getElem?_drop])
theorem Reads.of_own {base : Nat} {e : TypeId} {n c : Nat} (h : w.ownsRow base e 1 (.slice A n c) n xs) : Reads w A xs := by
  intro hn
  obtain ⟨g, cap, hv, _, hlt⟩ := h.form (by have := h.1; omega)
  have hA : A = some ⟨g, 0, none⟩ := by injection hv
  subst hA
  exact ⟨_, rfl, hlt, h.cells (g := g) rfl⟩
end

/-- Block g is just the cells cs of element type t, none frozen. -/
def Blk (w : World) (g : Nat) (t : TypeId) (cs : Array Value) : Prop := w.heap[g]? = some (.cells cs t (0, 0))

section
variable {w w' : World} {g : Nat} {t : TypeId} {cs : Array Value}
theorem Blk.heap (h : Blk w g t cs) : w.heap[g]? = some (.cells cs t (0, 0)) := h
theorem Blk.lt (h : Blk w g t cs) : g < w.heap.size := by
  rcases Nat.lt_or_ge g w.heap.size with hlt | hge
  · exact hlt
  · unfold Blk at h; rw [Array.getElem?_eq_none hge] at h; cases h
theorem Blk.cell (h : Blk w g t cs) (i : Nat) : w.cell? ⟨g, i, none⟩ = cs[i]? := cell_of_row w g i cs t (0, 0) h
theorem Blk.frozen (h : Blk w g t cs) (i : Nat) : w.frozen? ⟨g, i, none⟩ = false := by
  unfold Blk at h
  simp [World.frozen?, h]
theorem Blk.new (w : World) (t : TypeId) (cs : Array Value) : Blk (w.alloc (.cells cs t)) w.heap.size t cs := heap_alloc_new w _
theorem Blk.drew (h : Blk w g t cs) : Blk w.drew g t cs := h
theorem Blk.drewN (h : Blk w g t cs) (k : Nat) : Blk (w.drewN k) g t cs := h
theorem Blk.alloc (h : Blk w g t cs) (o : Obj) : Blk (w.alloc o) g t cs := (Below.heap_alloc w o g h.lt).trans h
theorem Blk.set_ (h : Blk w g t cs) (i : Nat) (u : Value) : Blk (w.setCell ⟨g, i, none⟩ u) g t (cs.setIfInBounds i u) := by
  unfold Blk at h ⊢
  simp [World.setCell, Array.getElem?_modify, h]
theorem Blk.far (h : Blk w g t cs) {p : Addr} (hp : g ≠ p.block) (u : Value) : Blk (w.setCell p u) g t cs := (Below.heap_setCell w p u g hp).trans h
theorem Blk.below {B : Nat} (h : Blk w g t cs) (hb : Below B w w') (hg : g < B) : Blk w' g t cs := (hb.block g hg).trans h
theorem Blk.grown {row : Option Nat} (h : Blk w g t cs) (hb : w.grownBy w' row) (hg : some g ≠ row) : Blk w' g t cs := (hb.block g h.lt hg).trans h
theorem Blk.ne_ {g' : Nat} {t' : TypeId} {cs' : Array Value} (h : Blk w g t cs) (h' : Blk w g' t' cs') (hne : t ≠ t') : g ≠ g' := by
  rintro rfl
  unfold Blk at h h'
  rw [h] at h'
  injection h' with h'
  injection h' with _ ht
  exact hne ht
theorem Blk.reads (h : Blk w g t cs) (xs : List Value) (o : Nat) (hx : xs = (cs.toList.drop o).take xs.length) : Reads w (some ⟨g, o, none⟩) xs := fun _ => by
  refine ⟨_, rfl, h.lt, fun j u hu => ?_⟩
  rw [add_lit', h.cell]
  rw [hx, List.getElem?_take] at hu
  split at hu
  · simpa using hu
  · cases hu
end

/-- What the call owns: the block, known whole. -/
theorem own_blk {w : World} {base : Nat} {e : TypeId} {v : Value} {n : Nat} {xs : List Value} (h : w.ownsRow base e 1 v n xs) :
    (v = .slice none 0 0 ∧ n = 0) ∨ ∃ g cap cur, v = .slice (some ⟨g, 0, none⟩) n cap ∧ base ≤ g ∧ Blk w g e cur ∧ n ≤ cap ∧ cap ≤ maxLen ∧ cur.size = cap ∧ cur.toList.take n = xs := by
  rcases h.2 with h2 | ⟨g, cap, cur, hv, hg, hh, hn, hm, hs, ht⟩
  · exact .inl h2
  · exact .inr ⟨g, cap, cur, hv, hg, hh, hn, hm, by simpa using hs, by simpa using ht⟩

section
variable {P : Program} (w : World)

theorem run_append_of_nil (base : Nat) (t ty e : TypeId) (i : TypeInfo) (size : Nat) (ht : P.underlying t = some (.slice e)) (hi : P.info? e = some i)
    (v : Value) (n : Nat) (xs : List Value) (hown : w.ownsRow base e size v n xs) (c : Nat) : (Builtin.append_ #[t, t] ty #[v, .slice none 0 c]).run P w = .ok v w := by
  rcases hown.2 with ⟨rfl, rfl⟩ | ⟨g, cap, cur, rfl, _, _, hnc, _⟩
  · simp [Builtin.append_, run_underlying ht, sizeOf, typeInfo, hi, Builtin.lenOf, Builtin.firstCells]
  · simp [Builtin.append_, run_underlying ht, sizeOf, typeInfo, hi, Builtin.lenOf, Builtin.firstCells, hnc, storeCells]

theorem run_append_any (base : Nat) (t ty e : TypeId) (i : TypeInfo) (z : Value) (bytes : Nat) (ht : P.underlying t = some (.slice e)) (hi : P.info? e = some i) (hz : i.zero = some z)
    (hsize : i.size = 1) (hby : i.bytes = bytes) (hzs : z.cells.size = 1)
    (v : Value) (n : Nat) (xs : List Value) (hown : w.ownsRow base e 1 v n xs)
    (A : Option Addr) (m c : Nat) (news : List Value) (hm : m = news.length) (hr : Reads w A news) (h1 : ∀ u ∈ news, u.oneCell' = true)
    (h63 : n + m ≤ maxLen) (hbytes : (n + m) * bytes ≤ 140737488355328) (hbase : base ≤ w.heap.size) :
    ∃ v' w', (Builtin.append_ #[t, t] ty #[v, .slice A m c]).run P w = .ok v' w' ∧ w'.ownsRow base e 1 v' (n + m) (xs ++ news) ∧ w.grownBy w' v.ownBlock ∧
      (v'.ownBlock = v.ownBlock ∨ v'.ownBlock = some w.heap.size) := by
  subst hm
  rcases A with _ | ad
  · have hn : news = [] := by
      rcases news with _ | ⟨x, r⟩
      · rfl
      · obtain ⟨ad, h, _⟩ := hr (by simp)
        cases h
    subst hn
    exact ⟨v, w, run_append_of_nil w base t ty e i 1 ht hi v n xs hown c, by simpa using hown, World.grownBy.refl w _, .inl rfl⟩
  · have hcells : ∀ j u, news[j]? = some u → w.cell? (ad.add j) = some u := by
      intro j u hu
      have hj : j < news.length := (List.getElem?_eq_some_iff.1 hu).1
      obtain ⟨ad', h, _, hc⟩ := hr (by omega)
      injection h with h
      subst h
      exact hc j u hu
    obtain ⟨v', w', hrun, h2, h3, _, h5⟩ := run_append_own_at (P := P) w base t ty e i z 1 bytes ht hi hz hsize hby hzs (by decide) v n xs hown ad news.length c news (by simp) hcells h1 h63 hbytes hbase
    exact ⟨v', w', hrun, h2, h3, h5⟩

theorem wp_append_any {o : Oper} {a : Act} {K : Act → World → Prop} {Q : Exit → Act → World → Prop} (s x : Operand) (t : TypeId)
    (ho : o.op = .call { callee := .builtin .append, args := #[s, x], argTypes := #[t, t] })
    (base : Nat) (e : TypeId) (i : TypeInfo) (z : Value) (bytes : Nat) (ht : P.underlying t = some (.slice e)) (hi : P.info? e = some i) (hz : i.zero = some z)
    (hsize : i.size = 1) (hby : i.bytes = bytes) (hzs : z.cells.size = 1)
    (v : Value) (n : Nat) (xs : List Value) (hs : a.eval s = v) (hown : w.ownsRow base e 1 v n xs)
    (A : Option Addr) (m c : Nat) (news : List Value) (hx : a.eval x = .slice A m c) (hm : m = news.length) (hr : Reads w A news) (h1 : ∀ u ∈ news, u.oneCell' = true)
    (h63 : n + m ≤ maxLen) (hbytes : (n + m) * bytes ≤ 140737488355328) (hbase : base ≤ w.heap.size)
    (h : ∀ v' w', w'.ownsRow base e 1 v' (n + m) (xs ++ news) → w.grownBy w' v.ownBlock → (v'.ownBlock = v.ownBlock ∨ v'.ownBlock = some w.heap.size) → K (a.put o.dst v') w') : o.wp P a w K Q := by
  obtain ⟨v', w', hrun, h2, h3, h4⟩ := run_append_any (P := P) w base t o.type e i z bytes ht hi hz hsize hby hzs v n xs hown A m c news hm hr h1 h63 hbytes hbase
  unfold Oper.wp execOp
  simp only [ho, resolve, invoke, builtin, Sem.run_bind, Sem.run_pure, Result.andThen_ok, List.map_toArray, List.map_cons, List.map_nil, hs, hx, hrun]
  exact h v' w' h2 h3 h4

theorem wpList_append_any {ops : Array Oper} {rest : List Oper} {o : Oper} {a : Act} {Q : Exit → Act → World → Prop} (hgd : o.guard = none) (s x : Operand) (t : TypeId)
    (ho : o.op = .call { callee := .builtin .append, args := #[s, x], argTypes := #[t, t] })
    (base : Nat) (e : TypeId) (i : TypeInfo) (z : Value) (bytes : Nat) (ht : P.underlying t = some (.slice e)) (hi : P.info? e = some i) (hz : i.zero = some z)
    (hsize : i.size = 1) (hby : i.bytes = bytes) (hzs : z.cells.size = 1)
    (v : Value) (n : Nat) (xs : List Value) (hs : a.eval s = v) (hown : w.ownsRow base e 1 v n xs)
    (A : Option Addr) (m c : Nat) (news : List Value) (hx : a.eval x = .slice A m c) (hm : m = news.length) (hr : Reads w A news) (h1 : ∀ u ∈ news, u.oneCell' = true)
    (h63 : n + m ≤ maxLen) (hbytes : (n + m) * bytes ≤ 140737488355328) (hbase : base ≤ w.heap.size)
    (h : ∀ v' w', w'.ownsRow base e 1 v' (n + m) (xs ++ news) → w.grownBy w' v.ownBlock → (v'.ownBlock = v.ownBlock ∨ v'.ownBlock = some w.heap.size) → wpList P ops Q rest (a.put o.dst v') w') : wpList P ops Q (o :: rest) a w :=
  wpList_plain hgd fun _ hK => wp_append_any w s x t ho base e i z bytes ht hi hz hsize hby hzs v n xs hs hown A m c news hx hm hr h1 h63 hbytes hbase fun v' w' h2 h3 h4 => hK _ _ (h v' w' h2 h3 h4)

/-- Bytes to a string. -/
theorem run_bytes_str (src e dst : TypeId) (hs : P.underlying src = some (.slice e)) (he : P.underlying e = some (.int .u8)) (hd : P.underlying dst = some .string)
    (A : Option Addr) (n c : Nat) (l : List UInt8) (hn : n = l.length) (hr : Reads w A (bvs l)) : (convert src dst (.slice A n c)).run P w = .ok (.string ⟨l.toArray⟩) w := by
  subst hn
  rw [run_convert_bytes_string w src dst e A _ c hs he hd]
  rcases A with _ | ad
  · have hl : l = [] := by
      rcases l with _ | ⟨x, r⟩
      · rfl
      · obtain ⟨ad, h, _⟩ := hr (by simp [bvs])
        cases h
    subst hl
    rfl
  · have hcells : ∀ j u, (bvs l)[j]? = some u → w.cell? (ad.add j) = some u := by
      intro j u hu
      have hj : j < (bvs l).length := (List.getElem?_eq_some_iff.1 hu).1
      obtain ⟨ad', h, _, hc⟩ := hr (by omega)
      injection h with h
      subst h
      exact hc j u hu
    have hld := run_loadCells_list (P := P) w ad (bvs l) hcells
    rw [run_bytesToString w ad l.length c (l.map fun b => (b.toNat : Int)) (by
      rw [bvs_len] at hld
      rw [hld]
      simp [bvs, bv, Function.comp_def]), foldl_push_bytes]
    simp [Function.comp_def]
end


theorem madeCells_one (z : Value) (n : Nat) : madeCells #[z] n = Array.replicate n z := by
  apply Array.ext
  · simp [madeCells]
  · intro i h1 h2
    simp [madeCells, Nat.mod_one]

/-- make([]T, n), T of one cell. -/
theorem wpList_make_blk {P : Program} (w : World) {ops : Array Oper} {rest : List Oper} {o : Oper} {a : Act} {Q : Exit → Act → World → Prop}
    (hg : o.guard = none) (l c : Operand) (t : TypeId) (hop : o.op = Op.makeSlice t l c)
    (e : TypeId) (i : TypeInfo) (z : Value) (h1 : P.underlying t = some (.slice e)) (h2 : P.info? e = some i) (h3 : i.zero = some z) (h4 : i.size = 1) (h5 : z.cells = #[z])
    (kl kc : IntKind) (L C : Int) (n : Nat) (hl : a.eval l = .int kl L) (hc : a.eval c = .int kc C) (hL : L = (n : Int)) (hC : C = (n : Int)) (b2 : i.bytes * n ≤ 281474976710656) (b3 : n ≤ 1048576)
    (hK : ∀ w', Blk w' w.heap.size e (Array.replicate n z) → Below w.heap.size w w' → w.heap.size < w'.heap.size → wpList P ops Q rest (a.put o.dst (.slice (some ⟨w.heap.size, 0, none⟩) n n)) w') :
    wpList P ops Q (o :: rest) a w := by
  refine wpList_plain hg fun K hK' => ?_
  subst hL hC
  have hrun := run_make (P := P) w t e i z h1 h2 h3 kl kc n n (by omega) (by omega) (by omega) (by omega)
  simp only [Int.toNat_natCast, h4, Nat.mul_one, h5, madeCells_one] at hrun
  unfold Oper.wp execOp
  simp only [hop, hl, hc, Sem.run_bind, hrun, Result.andThen_ok]
  exact hK' _ _ (hK _ (Blk.new _ _ _) ((Below.refl _ _).alloc (Nat.le_refl _) _) (by simp))

theorem grownBy_setRow (w : World) (g : Nat) (cs : Array Value) : w.grownBy (w.setRow g cs) (some g) :=
  ⟨rfl, rfl, rfl, by simp [World.setRow], fun k _ hk => setRow_other w g k cs (fun e => hk (by rw [e]))⟩

/-- copy(dst, src), dst at a place of a block that is known whole. -/
theorem wpList_copy_blk {P : Program} {w : World} {ops : Array Oper} {rest : List Oper} {o : Oper} {a : Act} {Q : Exit → Act → World → Prop} (hgd : o.guard = none) (d s : Operand) (dT : TypeId)
    (ho : o.op = .call { callee := .builtin .copy, args := #[d, s], argTypes := #[dT, dT] }) (elem : TypeId) (i : TypeInfo) (hu : P.underlying dT = some (.slice elem)) (hi : P.info? elem = some i) (hsz : i.size = 1)
    (dp A : Option Addr) (dLen dCap sLen sCap : Nat) (hd : a.eval d = .slice dp dLen dCap) (hs : a.eval s = .slice A sLen sCap)
    (g off : Nat) (cur : List Value) (t : TypeId) (hg : Blk w g t cur.toArray) (cs : List Value) (hn : cs.length = Nat.min sLen dLen)
    (hdp : 0 < cs.length → dp = some ⟨g, off, none⟩) (hr : Reads w A cs) (hfit : off + cs.length ≤ cur.length) (h1 : ∀ v ∈ cs, v.oneCell' = true)
    (h : ∀ w', Hid (Blk w' g t (splice cur off cs).toArray) → w.grownBy w' (some g) → wpList P ops Q rest (a.put o.dst (.int .i64 (cs.length : Nat))) w') :
    wpList P ops Q (o :: rest) a w := by
  have hsz' : (P.info? elem).map (·.size) = some 1 := by rw [hi]; simp [hsz]
  by_cases h0 : cs.length = 0
  · obtain rfl : cs = [] := List.eq_nil_of_length_eq_zero h0
    refine wpList_copy_nothing hgd d s dT dT ho elem hu hsz' dp A dLen dCap sLen sCap hd hs (by simpa using hn.symm) ?_
    exact h w (show w.heap[g]? = _ by have hg2 : w.heap[g]? = _ := hg; simpa [splice] using hg2) (World.grownBy.refl w _)
  · obtain ⟨ad, rfl, _, hsrc⟩ := hr (by omega)
    obtain rfl := hdp (by omega)
    refine wpList_copy_own hgd d s dT dT ho elem hu hsz' g off dLen dCap ad sLen sCap hd hs cur.toArray t hg cs hn hsrc (by simpa using hfit) h1 ?_
    exact h _ (show _ = _ by simpa [splice] using setRow_heap w g _ _ t _ hg) (grownBy_setRow _ _ _)

theorem below_drewN {B : Nat} {a w : World} (h : Below B a w) (n : Nat) : Below B a (w.drewN n) := ⟨h.os, h.tape, h.output, h.size, h.block⟩
theorem Below.of_grown {w w' : World} {B : Nat} {row : Option Nat} (h : w.grownBy w' row) (hr : ∀ k, row = some k → B ≤ k) (hB : B ≤ w.heap.size) : Below B w w' :=
  (Below.refl B w).grown h hB hr

/-- A slice of bytes that came in reads as a list of bytes. -/
theorem reads_of_row {w : World} {a : Option Addr} {len cap : Nat} {zs : List Int}
    (h : (a = none ∧ len = 0 ∧ cap = 0 ∧ zs = []) ∨
      ∃ x, a = some x ∧ len ≤ cap ∧ cap ≤ maxLen ∧ zs.length = cap ∧ (∀ i, i < zs.length → w.cell? (x.add i) = some (.int .u8 (zs.getD i 0))) ∧ ∀ n ∈ zs, (Lit.int .u8 n).wf = true) :
    ∃ l : List UInt8, len = l.length ∧ Reads w a (bvs l) ∧ len ≤ cap ∧ cap ≤ maxLen := by
  rcases h with ⟨rfl, rfl, rfl, rfl⟩ | ⟨x, rfl, hl, hm, hz, hc, hwf⟩
  · exact ⟨[], rfl, Reads.nil_, Nat.le_refl _, Nat.zero_le _⟩
  · refine ⟨(zs.take len).map (fun z => UInt8.ofNat z.toNat), by simp; omega, ?_, hl, hm⟩
    intro hpos
    have hlen : 0 < len := by simp [bvs] at hpos; omega
    refine ⟨x, rfl, ?_, ?_⟩
    · have := hc 0 (by omega)
      have h2 := World.block_lt_of_cell? w _ this
      rwa [block_of_add] at h2
    · intro j u hu
      have hj : j < len := by
        have := (List.getElem?_eq_some_iff.1 hu).1
        simp [bvs] at this
        omega
      rw [hc j (by omega)]
      have hjz : j < zs.length := by omega
      have hwj := hwf zs[j] (List.getElem_mem hjz)
      have hb : 0 ≤ zs[j] ∧ zs[j] ≤ 255 := by
        have h3 : IntKind.has .u8 zs[j] := by simpa [Lit.wf, IntKind.has] using hwj
        simpa [IntKind.has, IntKind.min, IntKind.max, IntKind.signed, IntKind.bits] using h3
      simp only [bvs, bv, List.getElem?_map, List.getElem?_take, if_pos hj, List.getElem?_eq_getElem hjz, Option.map_some, Option.some.injEq] at hu
      rw [← hu]
      have h4 : (UInt8.ofNat zs[j].toNat).toNat = zs[j].toNat := by simp; omega
      rw [h4, List.getD_eq_getElem?_getD, List.getElem?_eq_getElem hjz, Option.getD_some, Int.toNat_of_nonneg hb.1]

/-- copy(dst, s), s a string no longer than dst, dst at a place of a block that is known whole. -/
theorem wpList_copy_str {P : Program} {w : World} {ops : Array Oper} {rest : List Oper} {o : Oper} {a : Act} {Q : Exit → Act → World → Prop} (hgd : o.guard = none) (d s : Operand) (dT sT : TypeId)
    (ho : o.op = .call { callee := .builtin .copy, args := #[d, s], argTypes := #[dT, sT] }) (elem : TypeId) (i : TypeInfo) (hu : P.underlying dT = some (.slice elem)) (hi : P.info? elem = some i)
    (g off dLen dCap : Nat) (S : ByteArray) (hd : a.eval d = .slice (some ⟨g, off, none⟩) dLen dCap) (hs : a.eval s = .string S)
    (cur : List Value) (t : TypeId) (hg : Blk w g t cur.toArray) (L : List UInt8) (hL : S.data.toList = L) (hle : L.length ≤ dLen) (hfit : off + L.length ≤ cur.length)
    (h : ∀ w', Hid (Blk w' g t (splice cur off (bvs L)).toArray) → w.grownBy w' (some g) → wpList P ops Q rest (a.put o.dst (.int .i64 (L.length : Nat))) w') :
    wpList P ops Q (o :: rest) a w := by
  subst hL
  have hsz' : (S.data.toList).length = S.size := by rw [Array.length_toList]; rfl
  refine wpList_plain hgd fun K hK => ?_
  have hmin : Nat.min S.size dLen = S.size := Nat.min_eq_left (by omega)
  have hst := run_storeCells_at P g off t (bvs S.data.toList) 0 cur.toArray w hg (by simpa [bvs] using hfit) (bvs_one _)
  have hrun : (Builtin.copy_ #[dT, sT] o.type #[.slice (some ⟨g, off, none⟩) dLen dCap, .string S]).run P w = .ok (goInt S.size) (w.setRow g (splice cur off (bvs S.data.toList)).toArray) := by
    simp [Builtin.copy_, run_underlying hu, Builtin.lenOf, Builtin.firstCells, sizeOf, typeInfo, hi, hmin]
    have e1 : List.take S.size (List.map (fun b : UInt8 => Value.int .u8 (b.toNat : Int)) S.data.toList) = bvs S.data.toList := List.take_of_length_le (by rw [List.length_map, hsz']; exact Nat.le_refl _)
    rw [e1, hst]
    simp [splice]
  unfold Oper.wp execOp
  simp only [ho, hd, hs, resolve, invoke, builtin, Sem.run_bind, Sem.run_pure, Result.andThen_ok, List.map_toArray, List.map_cons, List.map_nil, hrun]
  have hK2 := hK _ _ (h _ (show _ = _ by simpa [splice] using setRow_heap w g _ _ t _ hg) (grownBy_setRow _ _ _))
  rw [hsz'] at hK2
  exact hK2

/-- A part of a block read as an array or a struct that nobody looks into. -/
theorem wpList_load_part {P : Program} {w : World} {ops : Array Oper} {rest : List Oper} {o : Oper} {a : Act} {Q : Exit → Act → World → Prop} (hgd : o.guard = none) (ty : TypeId) (x : Operand) (ho : o.op = .load ty x)
    (g off n : Nat) (hx : a.eval x = .pointer (some ⟨g, off, none⟩)) (t : TypeId) (cs : Array Value) (d : TypeDesc) (hg : Blk w g t cs)
    (hu : P.underlying ty = some d) (hd : (match d with | .struct _ | .array _ _ => true | _ => false) = true) (hi : (P.info? ty).map (·.size) = some n) (hfit : off + n ≤ cs.size)
    (h : ∀ arr, wpList P ops Q rest (a.put o.dst (.agg arr)) w) : wpList P ops Q (o :: rest) a w := by
  refine wpList_plain hgd fun K hK => ?_
  have hl := run_loadCells_list (P := P) w ⟨g, off, none⟩ ((cs.toList.drop off).take n) (fun j v hv => by
    rw [add_lit', hg.cell]
    rw [List.getElem?_take] at hv
    split at hv
    · simpa using hv
    · cases hv)
  have hlen : ((cs.toList.drop off).take n).length = n := by simp; omega
  rw [hlen] at hl
  have hrun : (loadVar ty ⟨g, off, none⟩).run P w = .ok (.agg ((cs.toList.drop off).take n).toArray) w := by
    cases hq : P.info? ty with
    | none => simp [hq] at hi
    | some i =>
      have hs : i.size = n := by simpa [hq] using hi
      have hagg : (isAgg ty).run P w = .ok true w := by
        unfold isAgg
        rw [Sem.run_bind, run_underlying hu w]
        cases d <;> simp_all
      simp [loadVar, Sem.run_bind, hagg, sizeOf, typeInfo, hq, hs, hl]
  unfold Oper.wp execOp
  simp only [ho, hx, Instr.loadAt, Instr.sureAddr, Sem.run_bind, Sem.run_pure, Result.andThen_ok, hrun]
  exact hK _ _ (h _)

theorem splice_nil {α : Type} (L : List α) (o : Nat) : splice L o [] = L := by simp [splice]
theorem splice_cons (L : List Value) (o : Nat) (v : Value) (vs : List Value) (h : o + (vs.length + 1) ≤ L.length) : splice L o (v :: vs) = splice (L.set o v) (o + 1) vs := by
  have h2 := list_seg_step L o v vs h
  unfold splice
  rw [← List.append_assoc, ← List.append_assoc, h2]
  simp

/-- Cells stored one behind the other. -/
def setCells' (w : World) (g : Nat) : Nat → List Value → World
  | _, [] => w
  | o, v :: vs => setCells' (w.setCell ⟨g, o, none⟩ v) g (o + 1) vs
theorem Blk.setCells' {g : Nat} {t : TypeId} : ∀ (vs : List Value) (o : Nat) (w : World) (cur : List Value), Blk w g t cur.toArray → o + vs.length ≤ cur.length → Blk (setCells' w g o vs) g t (splice cur o vs).toArray
  | [], o, w, cur, h, _ => by rw [splice_nil]; exact h
  | v :: vs, o, w, cur, h, hl => by
    rw [splice_cons cur o v vs (by simpa using hl)]
    refine Blk.setCells' vs (o + 1) (w.setCell ⟨g, o, none⟩ v) (cur.set o v) ?_ (by simp at hl ⊢; omega)
    have := h.set_ o v
    simpa using this
theorem grown_setCells' {g : Nat} : ∀ (vs : List Value) (o : Nat) (w : World), w.grownBy (setCells' w g o vs) (some g)
  | [], _, w => World.grownBy.refl w _
  | v :: vs, o, w => by
    have h1 : w.grownBy (w.setCell ⟨g, o, none⟩ v) (some g) := ⟨rfl, rfl, rfl, by simp, fun k _ hk => Below.heap_setCell w _ _ k (fun e => hk (by rw [e]))⟩
    have h2 := grown_setCells' (g := g) vs (o + 1) (w.setCell ⟨g, o, none⟩ v)
    exact ⟨h2.os.trans h1.os, h2.tape.trans h1.tape, h2.output.trans h1.output, Nat.le_trans h1.size h2.size, fun k hk hne => (h2.block k (Nat.lt_of_lt_of_le hk h1.size) hne).trans (h1.block k hk hne)⟩

theorem grown_set (w : World) (g o : Nat) (v : Value) : w.grownBy (w.setCell ⟨g, o, none⟩ v) (some g) :=
  ⟨rfl, rfl, rfl, by simp, fun k _ hk => Below.heap_setCell w _ _ k (fun e => hk (by rw [e]))⟩
theorem Blk.setL {w : World} {g : Nat} {t : TypeId} {cur : List Value} (h : Blk w g t cur.toArray) (o : Nat) (v : Value) : Blk (w.setCell ⟨g, o, none⟩ v) g t (cur.set o v).toArray := by
  have := h.set_ o v
  simpa using this

end Go.Proofs.Ytekjfplcibnafaa
