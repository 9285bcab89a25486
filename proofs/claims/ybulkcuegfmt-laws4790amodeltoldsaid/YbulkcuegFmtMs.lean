import Derived.Test.YbulkcuegFmtFind
import Derived.Deep.DeepAppendRoom
import Derived.Deep.CutRange
namespace Go.Proofs.YbulkcuegFmt
open Go.RowKit Go.Maps

/-- the scan's cells, at block cb -/
structure Scan (w : World) (cb n : Nat) (qf : Nat → Fin 50) (lv cd : Nat → Int) (hg kn : Nat → Bool) : Prop where
  s0 : ∀ k, k < n → w.cell? ⟨cb, k * 6, none⟩ = some (.string (kd (qf k)))
  s1 : ∀ k, k < n → w.cell? ⟨cb, k * 6 + 1, none⟩ = some (.int .u16 (ka (qf k)))
  s2 : ∀ k, k < n → w.cell? ⟨cb, k * 6 + 2, none⟩ = some (.bool (hg k))
  s3 : ∀ k, k < n → w.cell? ⟨cb, k * 6 + 3, none⟩ = some (.int .i64 (lv k))
  s4 : ∀ k, k < n → w.cell? ⟨cb, k * 6 + 4, none⟩ = some (.int .u32 (cd k))
  s5 : ∀ k, k < n → w.cell? ⟨cb, k * 6 + 5, none⟩ = some (.bool (kn k))

theorem Scan.of_block {w w' : World} {cb n : Nat} {qf : Nat → Fin 50} {lv cd : Nat → Int} {hg kn : Nat → Bool} (h : Scan w cb n qf lv cd hg kn) (e : w'.heap[cb]? = w.heap[cb]?) : Scan w' cb n qf lv cd hg kn :=
  ⟨fun k hk => (World.cell?_of_block (w := w) (a := ⟨cb, k * 6, none⟩) e).trans (h.s0 k hk), fun k hk => (World.cell?_of_block (w := w) (a := ⟨cb, k * 6 + 1, none⟩) e).trans (h.s1 k hk),
    fun k hk => (World.cell?_of_block (w := w) (a := ⟨cb, k * 6 + 2, none⟩) e).trans (h.s2 k hk), fun k hk => (World.cell?_of_block (w := w) (a := ⟨cb, k * 6 + 3, none⟩) e).trans (h.s3 k hk),
    fun k hk => (World.cell?_of_block (w := w) (a := ⟨cb, k * 6 + 4, none⟩) e).trans (h.s4 k hk), fun k hk => (World.cell?_of_block (w := w) (a := ⟨cb, k * 6 + 5, none⟩) e).trans (h.s5 k hk)⟩

/-- the combinations of the first k cells, each once, in the order of their first cell -/
def firsts (qf : Nat → Fin 50) : Nat → List (Fin 50)
  | 0 => []
  | k + 1 => if qf k ∈ firsts qf k then firsts qf k else firsts qf k ++ [qf k]

theorem firsts_nodup (qf : Nat → Fin 50) (k : Nat) : (firsts qf k).Nodup := by
  induction k with
  | zero => exact List.nodup_nil
  | succ k ih =>
    unfold firsts
    split
    · exact ih
    · rename_i h
      refine List.nodup_append.2 ⟨ih, by simp, fun a ha b hb e => ?_⟩
      simp at hb
      subst hb
      subst e
      exact h ha
theorem firsts_len (qf : Nat → Fin 50) (k : Nat) : (firsts qf k).length ≤ k := by
  induction k with
  | zero => exact Nat.le_refl _
  | succ k ih =>
    unfold firsts
    split
    · omega
    · simp; omega
theorem firsts_mem (qf : Nat → Fin 50) (k j : Nat) (h : j < k) : qf j ∈ firsts qf k := by
  induction k with
  | zero => omega
  | succ k ih =>
    unfold firsts
    by_cases e : j = k
    · subst e
      split
      · assumption
      · simp
    · have := ih (by omega)
      split
      · exact this
      · simp [this]
theorem place_step (qf : Nat → Fin 50) (k j : Nat) (h : j < k) : place (firsts qf (k + 1)) (qf j) = place (firsts qf k) (qf j) := by
  have hm := firsts_mem qf k j h
  show place (if qf k ∈ firsts qf k then firsts qf k else firsts qf k ++ [qf k]) (qf j) = _
  split
  · rfl
  · unfold place
    rw [if_pos hm, if_pos (by simp [hm]), List.idxOf_append]
    simp [hm]

/-- a candidate, as merge leaves it -/
abbrev news (q : Fin 50) (h : Bool) (l : Int) : List Value := [.string (kd q), .int .u16 (ka q), .int .i64 l, .int .u8 0, .int .u8 0, .int .i64 0, .int .i64 0, .int .i64 0, .bool h, .bool false]
def Cand (cur : Array Value) (i : Nat) (q : Fin 50) (h : Bool) (l : Int) : Prop := ∀ j, j < 10 → cur[i * 10 + j]? = (news q h l)[j]?

/-- some report of the combination says high -/
def hiOf (qf : Nat → Fin 50) (hg : Nat → Bool) (q : Fin 50) : Nat → Bool
  | 0 => false
  | k + 1 => if qf k = q then hiOf qf hg q k || hg k else hiOf qf hg q k
/-- the combination's greatest level -/
def lvOf (qf : Nat → Fin 50) (lv : Nat → Int) (q : Fin 50) : Nat → Int
  | 0 => 0
  | k + 1 => if qf k = q then (if q ∈ firsts qf k then max (lvOf qf lv q k) (lv k) else lv k) else lvOf qf lv q k

/-- merge, mid-way: k observations are merged -/
structure MS (w wr : World) (fb tb n : Nat) (mp : Option Nat) (ks : List (Fin 50)) (of : Nat → Int) (k : Nat) (gH : Fin 50 → Bool) (gL : Fin 50 → Int) : Prop where
  g : w.grownBy wr (some fb)
  lt : w.heap.size + 2 ≤ tb
  t : wr.heap[tb]? = some (.cells #[.slice (some ⟨w.heap.size + 1, 0, none⟩) ks.length n, .map mp] 132 (0, 0))
  r : wr.heap[w.heap.size]? = some (.cells #[.slice none 0 0, .map none] 132 (0, 0))
  own : ∀ mb, mp = some mb → tb < mb ∧ wr.ownsMap (H := Unit) Ybaf.prog 60 (plainElem Ybaf.prog 3) mb ks.length (dat ks)
  row : ∃ cur, wr.heap[w.heap.size + 1]? = some (.cells cur 129 (0, 0)) ∧ cur.size = n * 10 ∧ ∀ i, i < ks.length → Cand cur i (ks.getD i 0) (gH (ks.getD i 0)) (gL (ks.getD i 0))
  of : ∃ cf, wr.heap[fb]? = some (.cells cf 3 (0, 0)) ∧ cf.size = n ∧ ∀ j, j < k → cf[j]? = some (.int .i64 (of j))
  nd : ks.Nodup

theorem MS.next {w wr wr' : World} {fb tb n : Nat} {mp : Option Nat} {ks : List (Fin 50)} {of : Nat → Int} {k : Nat} {gH : Fin 50 → Bool} {gL : Fin 50 → Int} (h : MS w wr fb tb n mp ks of k gH gL) (hb : Below wr.heap.size wr wr') : MS w wr' fb tb n mp ks of k gH gL := by
  refine ⟨⟨hb.os.trans h.g.os, hb.tape.trans h.g.tape, hb.output.trans h.g.output, Nat.le_trans h.g.size hb.size, fun k hk hne => (hb.block k (Nat.lt_of_lt_of_le hk h.g.size)).trans (h.g.block k hk hne)⟩, h.lt, ?_, ?_, ?_, ?_, ?_, h.nd⟩
  · rw [hb.block _ (lt_of_heap h.t)]; exact h.t
  · rw [hb.block _ (lt_of_heap h.r)]; exact h.r
  · intro mb e
    obtain ⟨e1, ho⟩ := h.own mb e
    exact ⟨e1, ho.kept (row := none) ⟨hb.os, hb.tape, hb.output, hb.size, fun k hk _ => hb.block k hk⟩ (by simp)⟩
  · obtain ⟨cur, h1, h2⟩ := h.row
    exact ⟨cur, by rw [hb.block _ (lt_of_heap h1)]; exact h1, h2⟩
  · obtain ⟨cf, h1, h2⟩ := h.of
    exact ⟨cf, by rw [hb.block _ (lt_of_heap h1)]; exact h1, h2⟩

theorem MS.merged {w wr : World} {fb tb n : Nat} {mp : Option Nat} {ks : List (Fin 50)} {of : Nat → Int} {k : Nat} {gH : Fin 50 → Bool} {gL : Fin 50 → Int} (h : MS w wr fb tb n mp ks of k gH gL) : Merged wr tb 0 (w.heap.size + 1) n mp ks := by
  obtain ⟨cur, h1, h2, h3⟩ := h.row
  exact ⟨cell_of h.t rfl, cell_of h.t rfl, fun mb e => (h.own mb e).2, fun i hi => cell_of h1 (h3 i hi 0 (by omega)), fun i hi => cell_of h1 (h3 i hi 1 (by omega)), h.nd⟩

theorem news_ne2 (q : Fin 50) (h : Bool) (l l' : Int) (j : Nat) (hj : j ≠ 2) : (news q h l)[j]? = (news q h l')[j]? := by
  rcases j with _ | _ | _ | j
  · rfl
  · rfl
  · omega
  · rfl
theorem news_ne8 (q : Fin 50) (h h' : Bool) (l : Int) (j : Nat) (hj : j ≠ 8) : (news q h l)[j]? = (news q h' l)[j]? := by
  rcases j with _ | _ | _ | _ | _ | _ | _ | _ | _ | j
  · rfl
  · rfl
  · rfl
  · rfl
  · rfl
  · rfl
  · rfl
  · rfl
  · omega
  · rfl
theorem getD_inj {ks : List (Fin 50)} (hn : ks.Nodup) {i j : Nat} (hi : i < ks.length) (hj : j < ks.length) (h : ks.getD i 0 = ks.getD j 0) : i = j := by
  have e1 : ks.getD i 0 = ks[i] := by simp [List.getD, hi]
  have e2 : ks.getD j 0 = ks[j] := by simp [List.getD, hj]
  rw [e1, e2] at h
  exact (List.getElem_inj hn).1 h

/-- a cell of a candidate is written: its level, or its mark -/
theorem MS.cand {w wr : World} {fb tb n : Nat} {mp : Option Nat} {ks : List (Fin 50)} {of : Nat → Int} {k : Nat} {gH gH' : Fin 50 → Bool} {gL gL' : Fin 50 → Int} (h : MS w wr fb tb n mp ks of k gH gL) (hf : fb < w.heap.size) (i : Nat) (hik : i < ks.length) (v : Value) (j : Nat)
    (hH : ∀ r, r ≠ ks.getD i 0 → gH' r = gH r) (hL : ∀ r, r ≠ ks.getD i 0 → gL' r = gL r)
    (hv : (j = 2 ∧ v = .int .i64 (gL' (ks.getD i 0)) ∧ gH' (ks.getD i 0) = gH (ks.getD i 0)) ∨ (j = 8 ∧ v = .bool (gH' (ks.getD i 0)) ∧ gL' (ks.getD i 0) = gL (ks.getD i 0))) : MS w (wr.setCell ⟨w.heap.size + 1, i * 10 + j, none⟩ v) fb tb n mp ks of k gH' gL' := by
  have hne : ∀ b, b ≠ w.heap.size + 1 → (wr.setCell ⟨w.heap.size + 1, i * 10 + j, none⟩ v).heap[b]? = wr.heap[b]? := fun b hb => Below.heap_setCell _ _ _ _ hb
  refine ⟨⟨h.g.os, h.g.tape, h.g.output, Nat.le_trans h.g.size (by simp [World.setCell]), fun k hk hn => (hne k (by omega)).trans (h.g.block k hk hn)⟩, h.lt, ?_, ?_, ?_, ?_, ?_, h.nd⟩
  · have := h.lt
    rw [hne _ (by omega)]; exact h.t
  · rw [hne _ (by omega)]; exact h.r
  · intro mb e
    have := h.lt
    obtain ⟨e1, es, cl, h1, h2⟩ := h.own mb e
    exact ⟨e1, es, cl, by rw [hne _ (by omega)]; exact h1, h2⟩
  · obtain ⟨cur, h1, h2, h3⟩ := h.row
    refine ⟨cur.setIfInBounds (i * 10 + j) v, heap_set v h1, by simpa using h2, fun i' hi' => ?_⟩
    have hj10 : j < 10 := by rcases hv with ⟨e, _⟩ | ⟨e, _⟩ <;> omega
    by_cases e : i' = i
    · subst e
      intro j' hj'
      by_cases ej : j' = j
      · subst ej
        have hlt : i' * 10 + j' < cur.size := by
          have := h3 i' hi' j' hj'
          refine Nat.lt_of_not_le fun hle => ?_
          rw [Array.getElem?_eq_none hle] at this
          have h9 : j' < (news (ks.getD i' 0) (gH (ks.getD i' 0)) (gL (ks.getD i' 0))).length := hj'
          rw [List.getElem?_eq_getElem h9] at this
          cases this
        have e1 : (cur.setIfInBounds (i' * 10 + j') v)[i' * 10 + j']? = some v := by simp [hlt]
        rw [e1]
        rcases hv with ⟨rfl, rfl, _⟩ | ⟨rfl, rfl, _⟩ <;> rfl
      · rw [Array.getElem?_setIfInBounds, if_neg (by omega), h3 i' hi' j' hj']
        rcases hv with ⟨rfl, _, e2⟩ | ⟨rfl, _, e2⟩
        · rw [e2]; exact news_ne2 _ _ _ _ _ ej
        · rw [e2]; exact news_ne8 _ _ _ _ _ ej
    · intro j' hj'
      have hq : ks.getD i' 0 ≠ ks.getD i 0 := fun he => e (getD_inj h.nd hi' hik he)
      rw [Array.getElem?_setIfInBounds, if_neg (by omega), h3 i' hi' j' hj', hH _ hq, hL _ hq]
  · obtain ⟨cf, h1, h2⟩ := h.of
    exact ⟨cf, by rw [hne _ (by omega)]; exact h1, h2⟩

/-- the place is noted -/
theorem MS.noted {w wr : World} {fb tb n : Nat} {mp : Option Nat} {ks : List (Fin 50)} {of : Nat → Int} {k : Nat} {gH : Fin 50 → Bool} {gL : Fin 50 → Int} (h : MS w wr fb tb n mp ks of k gH gL) (hf : fb < w.heap.size) (hk : k < n) :
    MS w (wr.setCell ⟨fb, k, none⟩ (.int .i64 (of k))) fb tb n mp ks of (k + 1) gH gL := by
  have hne : ∀ b, b ≠ fb → (wr.setCell ⟨fb, k, none⟩ (.int .i64 (of k))).heap[b]? = wr.heap[b]? := fun b hb => Below.heap_setCell _ _ _ _ hb
  refine ⟨⟨h.g.os, h.g.tape, h.g.output, Nat.le_trans h.g.size (by simp [World.setCell]), fun k hk hn => (hne k (by simpa using hn)).trans (h.g.block k hk hn)⟩, h.lt, ?_, ?_, ?_, ?_, ?_, h.nd⟩
  · have := h.lt
    rw [hne _ (by omega)]; exact h.t
  · rw [hne _ (by omega)]; exact h.r
  · intro mb e
    have := h.lt
    obtain ⟨e1, es, cl, h1, h2⟩ := h.own mb e
    exact ⟨e1, es, cl, by rw [hne _ (by omega)]; exact h1, h2⟩
  · obtain ⟨cur, h1, h2⟩ := h.row
    exact ⟨cur, by rw [hne _ (by omega)]; exact h1, h2⟩
  · obtain ⟨cf, h1, h2, h3⟩ := h.of
    refine ⟨cf.setIfInBounds k (.int .i64 (of k)), heap_set _ h1, by simpa using h2, fun j hj => ?_⟩
    by_cases e : j = k
    · subst e
      have : j < cf.size := by omega
      simp [this]
    · rw [Array.getElem?_setIfInBounds, if_neg (fun e' => e e'.symm)]
      exact h3 j (by omega)

theorem MS.owns {w W : World} {fb tb n : Nat} {mp : Option Nat} {ks : List (Fin 50)} {of : Nat → Int} {k : Nat} {gH : Fin 50 → Bool} {gL : Fin 50 → Int} (h : MS w W fb tb n mp ks of k gH gL) (hk : ks.length ≤ n) (hn : n ≤ 400) :
    ∃ xs : List Value, W.ownsRow (w.heap.size + 1) 129 10 (.slice (some ⟨w.heap.size + 1, 0, none⟩) ks.length n) ks.length xs ∧ xs.length = ks.length * 10 ∧ (∀ i, i < ks.length → Cand xs.toArray i (ks.getD i 0) (gH (ks.getD i 0)) (gL (ks.getD i 0))) := by
  obtain ⟨cur, h1, h2, h3⟩ := h.row
  have hl : (cur.toList.take (ks.length * 10)).length = ks.length * 10 := by
    have e : cur.toList.length = cur.size := by simp
    rw [List.length_take, e]
    omega
  refine ⟨cur.toList.take (ks.length * 10), ⟨hl, .inr ⟨w.heap.size + 1, n, cur, rfl, Nat.le_refl _, h1, hk, by unfold maxLen; omega, h2, rfl⟩⟩, hl, fun i hi => ?_⟩
  have tr : ∀ (m : Nat) (v : Value), cur[m]? = some v → m < ks.length * 10 → (cur.toList.take (ks.length * 10)).toArray[m]? = some v := fun m v hm hlt => by
    rw [List.getElem?_toArray, List.getElem?_take_of_lt hlt, Array.getElem?_toList]
    exact hm
  intro j hj
  have h9 : j < (news (ks.getD i 0) (gH (ks.getD i 0)) (gL (ks.getD i 0))).length := hj
  have e := h3 i hi j hj
  rw [List.getElem?_eq_getElem h9] at e ⊢
  exact tr _ _ e (by omega)

theorem MS.app {w W W' w2 w3 : World} {fb tb n : Nat} {mp : Option Nat} {ks : List (Fin 50)} {of : Nat → Int} {k : Nat} {gH : Fin 50 → Bool} {gL : Fin 50 → Int} {xs : List Value} {q : Fin 50} {gH' : Fin 50 → Bool} {gL' : Fin 50 → Int} (h : MS w W fb tb n mp ks of k gH gL) (hf : fb < w.heap.size)
    (hb : Below W.heap.size W W') (hg : W'.grownBy w2 (some (w.heap.size + 1)))
    (ho : w2.ownsRow (w.heap.size + 1) 129 10 (.slice (some ⟨w.heap.size + 1, 0, none⟩) (ks.length + 1) n) (ks.length + 1) (xs ++ news q (gH' q) (gL' q)))
    (hxl : xs.length = ks.length * 10) (hxs : ∀ i, i < ks.length → Cand xs.toArray i (ks.getD i 0) (gH (ks.getD i 0)) (gL (ks.getD i 0))) (hq : q ∉ ks) (hH : ∀ r, r ∈ ks → gH' r = gH r) (hL : ∀ r, r ∈ ks → gL' r = gL r)
    (hg3 : (w2.setCell ⟨tb, 0, none⟩ (.slice (some ⟨w.heap.size + 1, 0, none⟩) (ks.length + 1) n)).grownBy w3 mp)
    (hown : ∀ mb, mp = some mb → w3.ownsMap (H := Unit) Ybaf.prog 60 (plainElem Ybaf.prog 3) mb (ks.length + 1) (dat (ks ++ [q]))) : MS w w3 fb tb n mp (ks ++ [q]) of k gH' gL' := by
  have hlt := h.lt
  have hW := lt_of_heap h.t
  have hmp : ∀ b, b ≤ tb → some b ≠ mp := fun b hb e => by
    have := (h.own b e.symm).1
    omega
  have h2 : ∀ b, b < W.heap.size → b ≠ w.heap.size + 1 → w2.heap[b]? = W.heap[b]? := fun b hb1 hne => (hg.block b (Nat.lt_of_lt_of_le hb1 hb.size) (by simpa using hne)).trans (hb.block b hb1)
  have hs2 : W.heap.size ≤ w2.heap.size := Nat.le_trans hb.size hg.size
  have h3 : ∀ b, b < W.heap.size → b ≤ tb → b ≠ tb → w3.heap[b]? = w2.heap[b]? := fun b hb1 hb2 hne => (hg3.block b (by simp [World.setCell]; omega) (hmp b hb2)).trans (Below.heap_setCell _ _ _ _ hne)
  obtain ⟨cur, hc1, hc2, hc3⟩ : ∃ cur, w2.heap[w.heap.size + 1]? = some (.cells cur 129 (0, 0)) ∧ cur.size = n * 10 ∧ cur.toList.take ((ks.length + 1) * 10) = xs ++ news q (gH' q) (gL' q) := by
    rcases ho.2 with ⟨h, _⟩ | ⟨g, c, cu, h, _, hh, _, _, hc, ht⟩
    · cases h
    · simp only [Value.slice.injEq, Option.some.injEq, Addr.mk.injEq] at h
      obtain ⟨⟨rfl, _, _⟩, _, rfl⟩ := h
      exact ⟨cu, hh, hc, ht⟩
  refine ⟨⟨hg3.os.trans (hg.os.trans (hb.os.trans h.g.os)), hg3.tape.trans (hg.tape.trans (hb.tape.trans h.g.tape)), hg3.output.trans (hg.output.trans (hb.output.trans h.g.output)), ?_, fun b hb1 hne => ?_⟩, hlt, ?_, ?_, fun mb e => ⟨(h.own mb e).1, by simpa using hown mb e⟩, ⟨cur, ?_, hc2, fun i hi => ?_⟩, ?_, ?_⟩
  · have := hg3.size
    simp [World.setCell] at this
    have := h.g.size
    omega
  · have := h.g.size
    rw [h3 b (by omega) (by omega) (by omega), h2 b (by omega) (by omega)]
    exact h.g.block b hb1 hne
  · rw [hg3.block tb (by simp [World.setCell]; omega) (hmp tb (Nat.le_refl _)), heap_set _ (cs := #[.slice (some ⟨w.heap.size + 1, 0, none⟩) ks.length n, .map mp]) (t := 132) (by rw [h2 tb hW (by omega)]; exact h.t)]
    simp
  · rw [h3 _ (lt_of_heap h.r) (by omega) (by omega), h2 _ (lt_of_heap h.r) (by omega)]
    exact h.r
  · rw [h3 _ (by omega) (by omega) (by omega)]
    exact hc1
  · have tr : ∀ (m : Nat) (v : Value), (xs ++ news q (gH' q) (gL' q))[m]? = some v → cur[m]? = some v := fun m v hm => by
      have hlt : m < (ks.length + 1) * 10 := by
        have := (List.getElem?_eq_some_iff.1 hm).1
        simp [hxl] at this
        omega
      rw [← hc3, List.getElem?_take_of_lt hlt, Array.getElem?_toList] at hm
      exact hm
    by_cases e : i < ks.length
    · have hgd : (ks ++ [q]).getD i 0 = ks.getD i 0 := by simp [List.getD, List.getElem?_append_left e]
      rw [hgd]
      have tr2 : ∀ (m : Nat) (v : Value), xs.toArray[m]? = some v → cur[m]? = some v := fun m v hm => tr m v (by
        rw [List.getElem?_toArray] at hm
        rw [List.getElem?_append_left (List.getElem?_eq_some_iff.1 hm).1]
        exact hm)
      have hm : ks.getD i 0 ∈ ks := by
        have e1 : ks.getD i 0 = ks[i] := by simp [List.getD, e]
        rw [e1]; exact List.getElem_mem e
      intro j hj
      rw [hH _ hm, hL _ hm]
      have h9 : j < (news (ks.getD i 0) (gH (ks.getD i 0)) (gL (ks.getD i 0))).length := hj
      have e' := hxs i e j hj
      rw [List.getElem?_eq_getElem h9] at e' ⊢
      exact tr2 _ _ e'
    · have ei : i = ks.length := by simp at hi; omega
      subst ei
      have hgd : (ks ++ [q]).getD ks.length 0 = q := by simp [List.getD]
      rw [hgd]
      have tr3 : ∀ (m : Nat) (v : Value), (news q (gH' q) (gL' q))[m]? = some v → cur[ks.length * 10 + m]? = some v := fun m v hm => tr _ v (by
        rw [List.getElem?_append_right (by omega), hxl]
        simpa using hm)
      intro j hj
      have h9 : j < (news q (gH' q) (gL' q)).length := hj
      rw [List.getElem?_eq_getElem h9]
      exact tr3 _ _ (List.getElem?_eq_getElem h9)
  · obtain ⟨cf, h1, h5⟩ := h.of
    have := h.g.size
    exact ⟨cf, by rw [h3 _ (by omega) (by omega) (by omega), h2 _ (by omega) (by omega)]; exact h1, h5⟩
  · refine List.nodup_append.2 ⟨h.nd, by simp, fun a ha b hb e => ?_⟩
    simp at hb
    subst hb
    subst e
    exact hq ha

theorem place_stable (qf : Nat → Fin 50) (k n j : Nat) (h : j < k) (hn : k ≤ n) : place (firsts qf k) (qf j) = place (firsts qf n) (qf j) := by
  induction n with
  | zero => omega
  | succ n ih =>
    by_cases e : k = n + 1
    · subst e; rfl
    · rw [place_step qf n j (by omega)]
      exact ih (by omega)

end Go.Proofs.YbulkcuegFmt
