import Derived.Test.YbulkcuegFind
import Derived.Deep.DeepAppendRoom
import Derived.Deep.CutRange
namespace Go.Proofs.Ybulkcueg
open Go.RowKit Go.Maps

theorem Yba.info111 : (Yba.prog.info? 111).map (fun i => (i.zero, i.size, i.bytes)) = some (some (.agg #[.string ⟨#[]⟩, .int .u16 0, .int .i64 0, .int .u8 0, .int .u8 0, .int .i64 0, .int .i64 0, .int .i64 0, .bool false, .bool false]), 10, 72) := by kernel_rfl

/-- the scan's cells, at block cb -/
structure Scan (w : World) (cb n : Nat) (qf : Nat → Fin 9) (lv cd : Nat → Int) (kn : Nat → Bool) : Prop where
  s0 : ∀ k, k < n → w.cell? ⟨cb, k * 6, none⟩ = some (.string (kd (qf k)))
  s1 : ∀ k, k < n → w.cell? ⟨cb, k * 6 + 1, none⟩ = some (.int .u16 (ka (qf k)))
  s2 : ∀ k, k < n → w.cell? ⟨cb, k * 6 + 2, none⟩ = some (.bool false)
  s3 : ∀ k, k < n → w.cell? ⟨cb, k * 6 + 3, none⟩ = some (.int .i64 (lv k))
  s4 : ∀ k, k < n → w.cell? ⟨cb, k * 6 + 4, none⟩ = some (.int .u32 (cd k))
  s5 : ∀ k, k < n → w.cell? ⟨cb, k * 6 + 5, none⟩ = some (.bool (kn k))

theorem Scan.of_block {w w' : World} {cb n : Nat} {qf : Nat → Fin 9} {lv cd : Nat → Int} {kn : Nat → Bool} (h : Scan w cb n qf lv cd kn) (e : w'.heap[cb]? = w.heap[cb]?) : Scan w' cb n qf lv cd kn :=
  ⟨fun k hk => (World.cell?_of_block (w := w) (a := ⟨cb, k * 6, none⟩) e).trans (h.s0 k hk), fun k hk => (World.cell?_of_block (w := w) (a := ⟨cb, k * 6 + 1, none⟩) e).trans (h.s1 k hk),
    fun k hk => (World.cell?_of_block (w := w) (a := ⟨cb, k * 6 + 2, none⟩) e).trans (h.s2 k hk), fun k hk => (World.cell?_of_block (w := w) (a := ⟨cb, k * 6 + 3, none⟩) e).trans (h.s3 k hk),
    fun k hk => (World.cell?_of_block (w := w) (a := ⟨cb, k * 6 + 4, none⟩) e).trans (h.s4 k hk), fun k hk => (World.cell?_of_block (w := w) (a := ⟨cb, k * 6 + 5, none⟩) e).trans (h.s5 k hk)⟩

/-- the combinations of the first k cells, each once, in the order of their first cell -/
def firsts (qf : Nat → Fin 9) : Nat → List (Fin 9)
  | 0 => []
  | k + 1 => if qf k ∈ firsts qf k then firsts qf k else firsts qf k ++ [qf k]

theorem firsts_nodup (qf : Nat → Fin 9) (k : Nat) : (firsts qf k).Nodup := by
  induction k with
  | zero => exact List.nodup_nil
  | succ k ih =>
    unfold firsts
    split
    · exact ih
    · rename_i h
      refine List.nodup_append.2 ⟨ih, by simp, fun a ha b hb e => ?_⟩
      simp at hb
      subst hb
      subst e
      exact h ha
theorem firsts_len (qf : Nat → Fin 9) (k : Nat) : (firsts qf k).length ≤ k := by
  induction k with
  | zero => exact Nat.le_refl _
  | succ k ih =>
    unfold firsts
    split
    · omega
    · simp; omega
theorem firsts_mem (qf : Nat → Fin 9) (k j : Nat) (h : j < k) : qf j ∈ firsts qf k := by
  induction k with
  | zero => omega
  | succ k ih =>
    unfold firsts
    by_cases e : j = k
    · subst e
      split
      · assumption
      · simp
    · have := ih (by omega)
      split
      · exact this
      · simp [this]
theorem place_step (qf : Nat → Fin 9) (k j : Nat) (h : j < k) : place (firsts qf (k + 1)) (qf j) = place (firsts qf k) (qf j) := by
  have hm := firsts_mem qf k j h
  show place (if qf k ∈ firsts qf k then firsts qf k else firsts qf k ++ [qf k]) (qf j) = _
  split
  · rfl
  · unfold place
    rw [if_pos hm, if_pos (by simp [hm]), List.idxOf_append]
    simp [hm]

theorem cell_of {w : World} {b k : Nat} {cs : Array Value} {t : TypeId} {v : Value} (h : w.heap[b]? = some (.cells cs t (0, 0))) (hk : cs[k]? = some v) : w.cell? ⟨b, k, none⟩ = some v := by
  simp [World.cell?, h, hk]
theorem fz_of {w : World} {b k : Nat} {cs : Array Value} {t : TypeId} (h : w.heap[b]? = some (.cells cs t (0, 0))) : w.frozen? ⟨b, k, none⟩ = false := by
  simp [World.frozen?, h]
theorem heap_set {w : World} {b k : Nat} {cs : Array Value} {t : TypeId} (v : Value) (h : w.heap[b]? = some (.cells cs t (0, 0))) : (w.setCell ⟨b, k, none⟩ v).heap[b]? = some (.cells (cs.setIfInBounds k v) t (0, 0)) := by
  simp [World.setCell, Array.getElem?_modify, h]

def Cand (cur : Array Value) (i : Nat) (q : Fin 9) : Prop :=
  cur[i * 10]? = some (.string (kd q)) ∧ cur[i * 10 + 1]? = some (.int .u16 (ka q)) ∧ (∃ l, cur[i * 10 + 2]? = some (.int .i64 l)) ∧ ∃ b, cur[i * 10 + 8]? = some (.bool b)

/-- merge, mid-way: k observations are merged -/
structure MS (w wr : World) (fb tb n : Nat) (mp : Option Nat) (ks : List (Fin 9)) (of : Nat → Int) (k : Nat) : Prop where
  g : w.grownBy wr (some fb)
  lt : w.heap.size + 2 ≤ tb
  t : wr.heap[tb]? = some (.cells #[.slice (some ⟨w.heap.size + 1, 0, none⟩) ks.length n, .map mp] 97 (0, 0))
  r : wr.heap[w.heap.size]? = some (.cells #[.slice none 0 0, .map none] 97 (0, 0))
  own : ∀ mb, mp = some mb → tb < mb ∧ wr.ownsMap (H := Unit) Yba.prog 34 (plainElem Yba.prog 3) mb ks.length (dat ks)
  row : ∃ cur, wr.heap[w.heap.size + 1]? = some (.cells cur 111 (0, 0)) ∧ cur.size = n * 10 ∧ ∀ i, i < ks.length → Cand cur i (ks.getD i 0)
  of : ∃ cf, wr.heap[fb]? = some (.cells cf 3 (0, 0)) ∧ cf.size = n ∧ ∀ j, j < k → cf[j]? = some (.int .i64 (of j))
  nd : ks.Nodup

theorem lt_of_heap {w : World} {b : Nat} {o : Obj} (h : w.heap[b]? = some o) : b < w.heap.size := (Array.getElem?_eq_some_iff.1 h).1

theorem MS.next {w wr wr' : World} {fb tb n : Nat} {mp : Option Nat} {ks : List (Fin 9)} {of : Nat → Int} {k : Nat} (h : MS w wr fb tb n mp ks of k) (hb : Below wr.heap.size wr wr') : MS w wr' fb tb n mp ks of k := by
  refine ⟨⟨hb.os.trans h.g.os, hb.tape.trans h.g.tape, hb.output.trans h.g.output, Nat.le_trans h.g.size hb.size, fun k hk hne => (hb.block k (Nat.lt_of_lt_of_le hk h.g.size)).trans (h.g.block k hk hne)⟩, h.lt, ?_, ?_, ?_, ?_, ?_, h.nd⟩
  · rw [hb.block _ (lt_of_heap h.t)]; exact h.t
  · rw [hb.block _ (lt_of_heap h.r)]; exact h.r
  · intro mb e
    obtain ⟨e1, ho⟩ := h.own mb e
    exact ⟨e1, ho.kept (row := none) ⟨hb.os, hb.tape, hb.output, hb.size, fun k hk _ => hb.block k hk⟩ (by simp)⟩
  · obtain ⟨cur, h1, h2⟩ := h.row
    exact ⟨cur, by rw [hb.block _ (lt_of_heap h1)]; exact h1, h2⟩
  · obtain ⟨cf, h1, h2⟩ := h.of
    exact ⟨cf, by rw [hb.block _ (lt_of_heap h1)]; exact h1, h2⟩

theorem MS.merged {w wr : World} {fb tb n : Nat} {mp : Option Nat} {ks : List (Fin 9)} {of : Nat → Int} {k : Nat} (h : MS w wr fb tb n mp ks of k) : Merged wr tb 0 (w.heap.size + 1) n mp ks := by
  obtain ⟨cur, h1, h2, h3⟩ := h.row
  exact ⟨cell_of h.t rfl, cell_of h.t rfl, fun mb e => (h.own mb e).2, fun i hi => cell_of h1 (h3 i hi).1, fun i hi => cell_of h1 (h3 i hi).2.1, h.nd⟩

/-- a cell of a candidate is written: its level, or its mark -/
theorem MS.cand {w wr : World} {fb tb n : Nat} {mp : Option Nat} {ks : List (Fin 9)} {of : Nat → Int} {k : Nat} (h : MS w wr fb tb n mp ks of k) (hf : fb < w.heap.size) (i : Nat) (v : Value) (j : Nat)
    (hv : (j = i * 10 + 2 ∧ ∃ l, v = .int .i64 l) ∨ (j = i * 10 + 8 ∧ ∃ b, v = .bool b)) : MS w (wr.setCell ⟨w.heap.size + 1, j, none⟩ v) fb tb n mp ks of k := by
  have hne : ∀ b, b ≠ w.heap.size + 1 → (wr.setCell ⟨w.heap.size + 1, j, none⟩ v).heap[b]? = wr.heap[b]? := fun b hb => Below.heap_setCell _ _ _ _ hb
  refine ⟨⟨h.g.os, h.g.tape, h.g.output, Nat.le_trans h.g.size (by simp [World.setCell]), fun k hk hn => (hne k (by omega)).trans (h.g.block k hk hn)⟩, h.lt, ?_, ?_, ?_, ?_, ?_, h.nd⟩
  · have := h.lt
    rw [hne _ (by omega)]; exact h.t
  · rw [hne _ (by omega)]; exact h.r
  · intro mb e
    have := h.lt
    obtain ⟨e1, es, cl, h1, h2⟩ := h.own mb e
    exact ⟨e1, es, cl, by rw [hne _ (by omega)]; exact h1, h2⟩
  · obtain ⟨cur, h1, h2, h3⟩ := h.row
    refine ⟨cur.setIfInBounds j v, heap_set v h1, by simpa using h2, fun i' hi' => ?_⟩
    obtain ⟨a0, a1, ⟨l, a2⟩, b, a8⟩ := h3 i' hi'
    have keep : ∀ m u, cur[m]? = some u → m ≠ j → (cur.setIfInBounds j v)[m]? = some u := fun m u hm hne => by
      rw [Array.getElem?_setIfInBounds, if_neg (fun e => hne e.symm)]; exact hm
    have hit : ∀ u, cur[j]? = some u → (cur.setIfInBounds j v)[j]? = some v := fun u hu => by
      have := (Array.getElem?_eq_some_iff.1 hu).1
      simp [this]
    rcases hv with ⟨rfl, l', rfl⟩ | ⟨rfl, b', rfl⟩
    · refine ⟨keep _ _ a0 (by omega), keep _ _ a1 (by omega), ?_, ⟨b, keep _ _ a8 (by omega)⟩⟩
      by_cases e : i' = i
      · subst e; exact ⟨l', hit _ a2⟩
      · exact ⟨l, keep _ _ a2 (by omega)⟩
    · refine ⟨keep _ _ a0 (by omega), keep _ _ a1 (by omega), ⟨l, keep _ _ a2 (by omega)⟩, ?_⟩
      by_cases e : i' = i
      · subst e; exact ⟨b', hit _ a8⟩
      · exact ⟨b, keep _ _ a8 (by omega)⟩
  · obtain ⟨cf, h1, h2⟩ := h.of
    exact ⟨cf, by rw [hne _ (by omega)]; exact h1, h2⟩

/-- the place is noted -/
theorem MS.noted {w wr : World} {fb tb n : Nat} {mp : Option Nat} {ks : List (Fin 9)} {of : Nat → Int} {k : Nat} (h : MS w wr fb tb n mp ks of k) (hf : fb < w.heap.size) (hk : k < n) :
    MS w (wr.setCell ⟨fb, k, none⟩ (.int .i64 (of k))) fb tb n mp ks of (k + 1) := by
  have hne : ∀ b, b ≠ fb → (wr.setCell ⟨fb, k, none⟩ (.int .i64 (of k))).heap[b]? = wr.heap[b]? := fun b hb => Below.heap_setCell _ _ _ _ hb
  refine ⟨⟨h.g.os, h.g.tape, h.g.output, Nat.le_trans h.g.size (by simp [World.setCell]), fun k hk hn => (hne k (by simpa using hn)).trans (h.g.block k hk hn)⟩, h.lt, ?_, ?_, ?_, ?_, ?_, h.nd⟩
  · have := h.lt
    rw [hne _ (by omega)]; exact h.t
  · rw [hne _ (by omega)]; exact h.r
  · intro mb e
    have := h.lt
    obtain ⟨e1, es, cl, h1, h2⟩ := h.own mb e
    exact ⟨e1, es, cl, by rw [hne _ (by omega)]; exact h1, h2⟩
  · obtain ⟨cur, h1, h2⟩ := h.row
    exact ⟨cur, by rw [hne _ (by omega)]; exact h1, h2⟩
  · obtain ⟨cf, h1, h2, h3⟩ := h.of
    refine ⟨cf.setIfInBounds k (.int .i64 (of k)), heap_set _ h1, by simpa using h2, fun j hj => ?_⟩
    by_cases e : j = k
    · subst e
      have : j < cf.size := by omega
      simp [this]
    · rw [Array.getElem?_setIfInBounds, if_neg (fun e' => e e'.symm)]
      exact h3 j (by omega)

/-- what is appended: a candidate -/
abbrev news (q : Fin 9) (l : Int) : List Value := [.string (kd q), .int .u16 (ka q), .int .i64 l, .int .u8 0, .int .u8 0, .int .i64 0, .int .i64 0, .int .i64 0, .bool false, .bool false]

theorem MS.owns {w W : World} {fb tb n : Nat} {mp : Option Nat} {ks : List (Fin 9)} {of : Nat → Int} {k : Nat} (h : MS w W fb tb n mp ks of k) (hk : ks.length ≤ n) (hn : n ≤ 400) :
    ∃ xs : List Value, W.ownsRow (w.heap.size + 1) 111 10 (.slice (some ⟨w.heap.size + 1, 0, none⟩) ks.length n) ks.length xs ∧ xs.length = ks.length * 10 ∧ (∀ i, i < ks.length → Cand xs.toArray i (ks.getD i 0)) := by
  obtain ⟨cur, h1, h2, h3⟩ := h.row
  have hl : (cur.toList.take (ks.length * 10)).length = ks.length * 10 := by
    have e : cur.toList.length = cur.size := by simp
    rw [List.length_take, e]
    omega
  refine ⟨cur.toList.take (ks.length * 10), ⟨hl, .inr ⟨w.heap.size + 1, n, cur, rfl, Nat.le_refl _, h1, hk, by unfold maxLen; omega, h2, rfl⟩⟩, hl, fun i hi => ?_⟩
  have tr : ∀ (m : Nat) (v : Value), cur[m]? = some v → m < ks.length * 10 → (cur.toList.take (ks.length * 10)).toArray[m]? = some v := fun m v hm hlt => by
    rw [List.getElem?_toArray, List.getElem?_take_of_lt hlt, Array.getElem?_toList]
    exact hm
  obtain ⟨a0, a1, ⟨l, a2⟩, b, a8⟩ := h3 i hi
  exact ⟨tr _ _ a0 (by omega), tr _ _ a1 (by omega), ⟨l, tr _ _ a2 (by omega)⟩, b, tr _ _ a8 (by omega)⟩

theorem MS.app {w W W' w2 w3 : World} {fb tb n : Nat} {mp : Option Nat} {ks : List (Fin 9)} {of : Nat → Int} {k : Nat} {xs : List Value} {q : Fin 9} {l : Int} (h : MS w W fb tb n mp ks of k) (hf : fb < w.heap.size)
    (hb : Below W.heap.size W W') (hg : W'.grownBy w2 (some (w.heap.size + 1)))
    (ho : w2.ownsRow (w.heap.size + 1) 111 10 (.slice (some ⟨w.heap.size + 1, 0, none⟩) (ks.length + 1) n) (ks.length + 1) (xs ++ news q l))
    (hxl : xs.length = ks.length * 10) (hxs : ∀ i, i < ks.length → Cand xs.toArray i (ks.getD i 0)) (hq : q ∉ ks)
    (hg3 : (w2.setCell ⟨tb, 0, none⟩ (.slice (some ⟨w.heap.size + 1, 0, none⟩) (ks.length + 1) n)).grownBy w3 mp)
    (hown : ∀ mb, mp = some mb → w3.ownsMap (H := Unit) Yba.prog 34 (plainElem Yba.prog 3) mb (ks.length + 1) (dat (ks ++ [q]))) : MS w w3 fb tb n mp (ks ++ [q]) of k := by
  have hlt := h.lt
  have hW := lt_of_heap h.t
  have hmp : ∀ b, b ≤ tb → some b ≠ mp := fun b hb e => by
    have := (h.own b e.symm).1
    omega
  have h2 : ∀ b, b < W.heap.size → b ≠ w.heap.size + 1 → w2.heap[b]? = W.heap[b]? := fun b hb1 hne => (hg.block b (Nat.lt_of_lt_of_le hb1 hb.size) (by simpa using hne)).trans (hb.block b hb1)
  have hs2 : W.heap.size ≤ w2.heap.size := Nat.le_trans hb.size hg.size
  have h3 : ∀ b, b < W.heap.size → b ≤ tb → b ≠ tb → w3.heap[b]? = w2.heap[b]? := fun b hb1 hb2 hne => (hg3.block b (by simp [World.setCell]; omega) (hmp b hb2)).trans (Below.heap_setCell _ _ _ _ hne)
  obtain ⟨cur, hc1, hc2, hc3⟩ : ∃ cur, w2.heap[w.heap.size + 1]? = some (.cells cur 111 (0, 0)) ∧ cur.size = n * 10 ∧ cur.toList.take ((ks.length + 1) * 10) = xs ++ news q l := by
    rcases ho.2 with ⟨h, _⟩ | ⟨g, c, cu, h, _, hh, _, _, hc, ht⟩
    · cases h
    · simp only [Value.slice.injEq, Option.some.injEq, Addr.mk.injEq] at h
      obtain ⟨⟨rfl, _, _⟩, _, rfl⟩ := h
      exact ⟨cu, hh, hc, ht⟩
  refine ⟨⟨hg3.os.trans (hg.os.trans (hb.os.trans h.g.os)), hg3.tape.trans (hg.tape.trans (hb.tape.trans h.g.tape)), hg3.output.trans (hg.output.trans (hb.output.trans h.g.output)), ?_, fun b hb1 hne => ?_⟩, hlt, ?_, ?_, fun mb e => ⟨(h.own mb e).1, by simpa using hown mb e⟩, ⟨cur, ?_, hc2, fun i hi => ?_⟩, ?_, ?_⟩
  · have := hg3.size
    simp [World.setCell] at this
    have := h.g.size
    omega
  · have := h.g.size
    rw [h3 b (by omega) (by omega) (by omega), h2 b (by omega) (by omega)]
    exact h.g.block b hb1 hne
  · rw [hg3.block tb (by simp [World.setCell]; omega) (hmp tb (Nat.le_refl _)), heap_set _ (cs := #[.slice (some ⟨w.heap.size + 1, 0, none⟩) ks.length n, .map mp]) (t := 97) (by rw [h2 tb hW (by omega)]; exact h.t)]
    simp
  · rw [h3 _ (lt_of_heap h.r) (by omega) (by omega), h2 _ (lt_of_heap h.r) (by omega)]
    exact h.r
  · rw [h3 _ (by omega) (by omega) (by omega)]
    exact hc1
  · have tr : ∀ (m : Nat) (v : Value), (xs ++ news q l)[m]? = some v → cur[m]? = some v := fun m v hm => by
      have hlt : m < (ks.length + 1) * 10 := by
        have := (List.getElem?_eq_some_iff.1 hm).1
        simp [hxl] at this
        omega
      rw [← hc3, List.getElem?_take_of_lt hlt, Array.getElem?_toList] at hm
      exact hm
    by_cases e : i < ks.length
    · have hgd : (ks ++ [q]).getD i 0 = ks.getD i 0 := by simp [List.getD, List.getElem?_append_left e]
      rw [hgd]
      obtain ⟨a0, a1, ⟨l', a2⟩, b, a8⟩ := hxs i e
      have tr2 : ∀ (m : Nat) (v : Value), xs.toArray[m]? = some v → cur[m]? = some v := fun m v hm => tr m v (by
        rw [List.getElem?_toArray] at hm
        rw [List.getElem?_append_left (List.getElem?_eq_some_iff.1 hm).1]
        exact hm)
      exact ⟨tr2 _ _ a0, tr2 _ _ a1, ⟨l', tr2 _ _ a2⟩, b, tr2 _ _ a8⟩
    · have ei : i = ks.length := by simp at hi; omega
      subst ei
      have hgd : (ks ++ [q]).getD ks.length 0 = q := by simp [List.getD]
      rw [hgd]
      have tr3 : ∀ (m : Nat) (v : Value), (news q l)[m]? = some v → cur[ks.length * 10 + m]? = some v := fun m v hm => tr _ v (by
        rw [List.getElem?_append_right (by omega), hxl]
        simpa using hm)
      exact ⟨tr3 0 _ rfl, tr3 1 _ rfl, ⟨l, tr3 2 _ rfl⟩, false, tr3 8 _ rfl⟩
  · obtain ⟨cf, h1, h5⟩ := h.of
    have := h.g.size
    exact ⟨cf, by rw [h3 _ (by omega) (by omega) (by omega), h2 _ (by omega) (by omega)]; exact h1, h5⟩
  · refine List.nodup_append.2 ⟨h.nd, by simp, fun a ha b hb e => ?_⟩
    simp at hb
    subst hb
    subst e
    exact hq ha

theorem place_stable (qf : Nat → Fin 9) (k n j : Nat) (h : j < k) (hn : k ≤ n) : place (firsts qf k) (qf j) = place (firsts qf n) (qf j) := by
  induction n with
  | zero => omega
  | succ n ih =>
    by_cases e : k = n + 1
    · subst e; rfl
    · rw [place_step qf n j (by omega)]
      exact ih (by omega)

end Go.Proofs.Ybulkcueg
