import Derived.Test.YbulkcuegFmtLaw2
namespace Go.Proofs.YbulkcuegFmt
open Go.RowKit Go.Maps

theorem info60 : (Ybaf.prog.info? 60).map (fun i => (i.zero, i.size, i.bytes)) = some (some (.agg #[.string ⟨#[]⟩, .int .u16 0]), 2, 24) := by kernel_rfl
/-- the cells of combinations -/
def cbF (L : List (Fin 50)) : List Value := L.flatMap fun q => [.string (kd q), .int .u16 (ka q)]
theorem cbF_snoc (L : List (Fin 50)) (q : Fin 50) : cbF (L ++ [q]) = cbF L ++ [.string (kd q), .int .u16 (ka q)] := by simp [cbF]
theorem cbF_get (L : List (Fin 50)) (i c : Nat) (hi : i < L.length) (hc : c < 2) : (cbF L)[i * 2 + c]? = ([.string (kd (L.getD i 0)), .int .u16 (ka (L.getD i 0))] : List Value)[c]? := by
  induction L generalizing i with
  | nil => simp at hi
  | cons q L ih =>
    unfold cbF
    rw [List.flatMap_cons]
    cases i with
    | zero =>
      rw [List.getElem?_append_left (by simp; omega), Nat.zero_mul, Nat.zero_add]
      rfl
    | succ i =>
      rw [List.getElem?_append_right (by simp; omega)]
      have := ih i (by simp at hi; omega)
      rw [show (i + 1) * 2 + c - ([.string (kd q), .int .u16 (ka q)] : List Value).length = i * 2 + c by simp; omega]
      exact this
/-- a row of combinations, read -/
theorem cb_cells {W : World} {base : Nat} {v : Value} {L : List (Fin 50)} (h : W.ownsRow base 60 2 v L.length (cbF L)) : ∃ va b cap, v = .slice va L.length cap ∧ (0 < L.length → va = some ⟨b, 0, none⟩) ∧ ∀ j, j < L.length → W.cell? ⟨b, j * 2, none⟩ = some (.string (kd (L.getD j 0))) ∧ W.cell? ⟨b, j * 2 + 1, none⟩ = some (.int .u16 (ka (L.getD j 0))) := by
  rcases h.2 with ⟨h0, h1⟩ | ⟨g, c, cu, h0, _, hh, hnc, _, hcs, ht⟩
  · exact ⟨none, 0, 0, by rw [h0, h1], fun h => absurd h (by omega), fun j hj => absurd hj (by omega)⟩
  · have get : ∀ i c', i < L.length → c' < 2 → W.cell? ⟨g, i * 2 + c', none⟩ = ([.string (kd (L.getD i 0)), .int .u16 (ka (L.getD i 0))] : List Value)[c']? := fun i c' hi hc' => by
      have e1 : (cu.toList.take (L.length * 2))[i * 2 + c']? = (cbF L)[i * 2 + c']? := by rw [ht]
      rw [List.getElem?_take, if_pos (by omega), cbF_get L i c' hi hc'] at e1
      rw [← e1]
      simp [World.cell?, hh]
    exact ⟨_, g, c, h0, fun _ => rfl, fun j hj => ⟨get j 0 hj (by omega), get j 1 hj (by omega)⟩⟩
/-- the place of a combination, or -1 -/
def ixC (L : List (Fin 50)) (q : Fin 50) : Int := if q ∈ L then ((L.idxOf q : Nat) : Int) else -1
theorem combRow {W : World} {base : Nat} {v : Value} {L : List (Fin 50)} (h : W.ownsRow base 60 2 v L.length (cbF L)) (hn : L.Nodup) (hl : L.length ≤ 400) (q : Fin 50) : Calls Ybaf.prog 8 #[v, .agg #[.string (kd q), .int .u16 (ka q)]] W fun e W' => e = .returned (.int .i64 (ixC L q)) ∧ Below W.heap.size W W' := by
  obtain ⟨va, b, cap, rfl, hva, hc⟩ := cb_cells h
  have hix := indexComb_any va b 0 L.length cap (fun j => nt (L.getD j 0)) (fun j => ka (L.getD j 0)) (nt q) (ka q) W (by omega) hva (fun j hj => by rw [Nat.zero_add]; exact hc j hj)
  rw [kd_nt]
  refine hix.mono ?_
  rintro e W' ⟨r, rfl, hr, hb⟩
  refine ⟨?_, hb⟩
  unfold ixC
  by_cases hq : q ∈ L
  · obtain ⟨j, rfl, hj, hjq⟩ := fst_of hq hr
    rw [if_pos hq, ← hjq, idxOf_getD hn hj]
  · rw [if_neg hq]
    rcases hr with ⟨rfl, _⟩ | ⟨k, _, h2, h3, _⟩
    · rfl
    · simp at h3
      have := key_eq (q := q) (r := L.getD k 0) (by simpa using h3.1) (by simpa using h3.2)
      exact absurd (by rw [this]; exact getD_mem h2) hq
theorem own_ne {W : World} {base e sz n : Nat} {v : Value} {xs : List Value} (h : W.ownsRow base e sz v n xs) {b : Nat} {cs : Array Value} {t : TypeId} (hb : W.heap[b]? = some (.cells cs t (0, 0))) (ht : t ≠ e) : some b ≠ v.ownBlock := fun e' => by
  rcases h.2 with ⟨h0, _⟩ | ⟨g, c, cu, h0, _, hh, _⟩
  · rw [h0] at e'; simp [Value.ownBlock] at e'
  · rw [h0] at e'
    simp [Value.ownBlock] at e'
    exact cells_ne hb hh ht e'
/-- a row of one-cell elements, at one place -/
theorem own_at {W : World} {base e n : Nat} {v : Value} {xs : List Value} (h : W.ownsRow base e 1 v n xs) {j : Nat} (hj : j < n) : ∃ g c, v = .slice (some ⟨g, 0, none⟩) n c ∧ base ≤ g ∧ W.cell? ⟨g, j, none⟩ = xs[j]? ∧ W.frozen? ⟨g, j, none⟩ = false ∧ ∀ u, (W.setCell ⟨g, j, none⟩ u).ownsRow base e 1 v n (xs.set j u) := by
  rcases h.2 with ⟨_, h1⟩ | ⟨g, c, cu, h0, hg, hh, hnc, hcm, hcs, ht⟩
  · omega
  · refine ⟨g, c, h0, hg, ?_, fz_of hh, fun u => ⟨by rw [List.length_set]; exact h.1, .inr ⟨g, c, _, h0, hg, heap_set _ hh, hnc, hcm, by simpa using hcs, ?_⟩⟩⟩
    · have e1 : (cu.toList.take (n * 1))[j]? = xs[j]? := by rw [ht]
      rw [List.getElem?_take, if_pos (by omega)] at e1
      rw [← e1]
      simp [World.cell?, hh]
    · rw [← ht, Array.toList_setIfInBounds, List.take_set]

/-- what the law has when its model of the merge begins -/
structure L1 (W : World) (L : List (Fin 50)) (rr : Fin 50 → Int) (ca : Option Addr) (cb : Nat) (dl : List Int) (dv : Value) (hl : List Int) (hv : Value) (n6 : Nat) (fl : Nat → Fin 5) (fv : Value) (n15 : Nat) (ql : Nat → Fin 5) (qv : Value) (ob zb : Nat) (rule : Int) (sc n : Nat) (qf : Nat → Fin 50) (lv cd : Nat → Int) (hgh kn : Nat → Bool) : Prop where
  c : ∀ i, i < L.length → ∀ c, c < 6 → W.cell? ⟨cb, i * 6 + c, none⟩ = (rkd (rr (L.getD i 0)) (L.getD i 0))[c]?
  ca : 0 < L.length → ca = some ⟨cb, 0, none⟩
  d : RowV W dv dl.length (fun i => .int .u16 (dl.getD i 0))
  h : RowV W hv hl.length (fun i => .int .u16 (hl.getD i 0))
  f : RowV W fv n6 (fun i => .string (dig (fl i).val))
  q : RowV W qv n15 (fun i => .string (dig (ql i).val))
  o : W.cell? ⟨ob, 0, none⟩ = some (.string (dig 1))
  z : W.heap[zb]? = some (.cells #[.int .u8 rule, .int .u8 0, .int .i64 0] 64 (0, 0))
  s : Scan W sc n qf lv cd hgh kn
  sl : sc < W.heap.size
/-- the law's merge, mid-way -/
structure L4 (W0 W : World) (qf : Nat → Fin 50) (lv : Nat → Int) (hgh : Nat → Bool) (k : Nat) (v1 v2 v3 : Value) : Prop where
  b : Below W0.heap.size W0 W
  m : W.ownsRow W0.heap.size 60 2 v1 (firsts qf k).length (cbF (firsts qf k))
  h : W.ownsRow W0.heap.size 4 1 v2 (firsts qf k).length ((firsts qf k).map fun q => .bool (hiOf qf hgh q k))
  l : W.ownsRow W0.heap.size 3 1 v3 (firsts qf k).length ((firsts qf k).map fun q => .int .i64 (lvOf qf lv q k))
  a12 : Apart v1 v2
  a13 : Apart v1 v3
  a23 : Apart v2 v3
section
variable {W W' : World} {L : List (Fin 50)} {rr : Fin 50 → Int} {ca : Option Addr} {cb : Nat} {dl : List Int} {dv : Value} {hl : List Int} {hv : Value} {n6 : Nat} {fl : Nat → Fin 5} {fv : Value} {n15 : Nat} {ql : Nat → Fin 5} {qv : Value} {ob zb : Nat} {rule : Int} {sc n : Nat} {qf : Nat → Fin 50} {lv cd : Nat → Int} {hgh kn : Nat → Bool}
theorem L1.next (h : L1 W L rr ca cb dl dv hl hv n6 fl fv n15 ql qv ob zb rule sc n qf lv cd hgh kn) (g : Below W.heap.size W W') : L1 W' L rr ca cb dl dv hl hv n6 fl fv n15 ql qv ob zb rule sc n qf lv cd hgh kn := by
  have kc : ∀ b o v, W.cell? ⟨b, o, none⟩ = some v → W'.cell? ⟨b, o, none⟩ = some v := fun b o v hv => (World.cell?_of_block (w := W) (a := ⟨b, o, none⟩) (g.block b (lt_of_cell hv))).trans hv
  refine ⟨fun i hi c hc => ?_, h.ca, h.d.below g, h.h.below g, h.f.below g, h.q.below g, kc _ _ _ h.o, (g.block _ (lt_of_heap h.z)).trans h.z, h.s.of_block (g.block _ h.sl), Nat.lt_of_lt_of_le h.sl g.size⟩
  have hh := h.c i hi c hc
  have h9 : c < (rkd (rr (L.getD i 0)) (L.getD i 0)).length := hc
  rw [List.getElem?_eq_getElem h9] at hh ⊢
  exact kc _ _ _ hh
theorem one_cells {W : World} {base e : Nat} {v : Value} {ks : List (Fin 50)} {f : Fin 50 → Value} (h : W.ownsRow base e 1 v ks.length (ks.map f)) : ∃ va b cap, v = .slice va ks.length cap ∧ (0 < ks.length → va = some ⟨b, 0, none⟩) ∧ ∀ j, j < ks.length → W.cell? ⟨b, j, none⟩ = some (f (ks.getD j 0)) := by
  rcases h.2 with ⟨h0, h1⟩ | ⟨g, c, cu, h0, _, hh, hnc, _, hcs, ht⟩
  · exact ⟨none, 0, 0, by rw [h0, h1], fun h => absurd h (by omega), fun j hj => absurd hj (by omega)⟩
  · refine ⟨_, g, c, h0, fun _ => rfl, fun j hj => ?_⟩
    have e1 : (cu.toList.take (ks.length * 1))[j]? = (ks.map f)[j]? := by rw [ht]
    rw [List.getElem?_take, if_pos (by omega), List.getElem?_map] at e1
    have e2 : ks[j]? = some (ks.getD j 0) := by rw [List.getD_eq_getElem?_getD, List.getElem?_eq_getElem hj]; rfl
    rw [e2] at e1
    exact cell_of hh (by simpa using e1)
/-- behind the law's merge -/
theorem L4.done {W0 : World} (h : L1 W0 L rr ca cb dl dv hl hv n6 fl fv n15 ql qv ob zb rule sc n qf lv cd hgh kn) {k : Nat} {v1 v2 v3 : Value} (g : L4 W0 W qf lv hgh k v1 v2 v3) :
    ∃ mca mb mcc mla lb mlc xa xb xc, v1 = .slice mca (firsts qf k).length mcc ∧ v2 = .slice xa (firsts qf k).length xc ∧ v3 = .slice mla (firsts qf k).length mlc ∧ L0 W (firsts qf k) L rr (fun q => lvOf qf lv q k) (fun q => hiOf qf hgh q k) ca cb mca mb mla lb xa xb dl dv hl hv n6 fl fv n15 ql qv ob zb rule := by
  obtain ⟨mca, mb, mcc, e1, h1, c1⟩ := cb_cells g.m
  obtain ⟨xa, xb, xc, e2, h2, c2⟩ := one_cells g.h
  obtain ⟨mla, lb, mlc, e3, h3, c3⟩ := one_cells g.l
  have z := h.next g.b
  exact ⟨mca, mb, mcc, mla, lb, mlc, xa, xb, xc, e1, e2, e3, z.c, z.ca, c1, h1, c3, h3, c2, h2, z.d, z.h, z.f, z.q, z.o, z.z⟩
theorem L4.start (W0 : World) (qf : Nat → Fin 50) (lv : Nat → Int) (hgh : Nat → Bool) : L4 W0 W0 qf lv hgh 0 (.slice none 0 0) (.slice none 0 0) (.slice none 0 0) :=
  ⟨Below.refl _ _, ⟨rfl, .inl ⟨rfl, rfl⟩⟩, ⟨rfl, .inl ⟨rfl, rfl⟩⟩, ⟨rfl, .inl ⟨rfl, rfl⟩⟩, apart_nil _, apart_nil _, apart_nil _⟩
theorem own_bel {base e sz : Nat} {v : Value} {xs : List Value} {n : Nat} (h : W.ownsRow base e sz v n xs) (g : Below W.heap.size W W') : W'.ownsRow base e sz v n xs := by
  refine ⟨h.1, ?_⟩
  rcases h.2 with h0 | ⟨b, c, cu, h1, h2, hh, h3⟩
  · exact .inl h0
  · exact .inr ⟨b, c, cu, h1, h2, (g.block _ (lt_of_heap hh)).trans hh, h3⟩
theorem L4.next {W0 : World} {k : Nat} {v1 v2 v3 : Value} (h : L4 W0 W qf lv hgh k v1 v2 v3) (g : Below W.heap.size W W') : L4 W0 W' qf lv hgh k v1 v2 v3 :=
  ⟨h.b.trans (g.mono h.b.size), own_bel h.m g, own_bel h.h g, own_bel h.l g, h.a12, h.a13, h.a23⟩
theorem firsts_new {k : Nat} (h : qf k ∉ firsts qf k) : firsts qf (k + 1) = firsts qf k ++ [qf k] := if_neg h
theorem firsts_old {k : Nat} (h : qf k ∈ firsts qf k) : firsts qf (k + 1) = firsts qf k := if_pos h
theorem hi_other {k : Nat} {q : Fin 50} (h : qf k ≠ q) : hiOf qf hgh q (k + 1) = hiOf qf hgh q k := if_neg h
theorem hi_this (k : Nat) : hiOf qf hgh (qf k) (k + 1) = (hiOf qf hgh (qf k) k || hgh k) := if_pos rfl
theorem lv_other {k : Nat} {q : Fin 50} (h : qf k ≠ q) : lvOf qf lv q (k + 1) = lvOf qf lv q k := if_neg h
theorem lv_new {k : Nat} (h : qf k ∉ firsts qf k) : lvOf qf lv (qf k) (k + 1) = lv k := by
  show (if qf k = qf k then (if qf k ∈ firsts qf k then _ else _) else _) = _
  rw [if_pos rfl, if_neg h]
theorem lv_old {k : Nat} (h : qf k ∈ firsts qf k) : lvOf qf lv (qf k) (k + 1) = max (lvOf qf lv (qf k) k) (lv k) := by
  show (if qf k = qf k then (if qf k ∈ firsts qf k then _ else _) else _) = _
  rw [if_pos rfl, if_pos h]
theorem map_new {f g : Fin 50 → Value} {k : Nat} (h : qf k ∉ firsts qf k) (ho : ∀ q, qf k ≠ q → g q = f q) : (firsts qf (k + 1)).map g = (firsts qf k).map f ++ [g (qf k)] := by
  rw [firsts_new h, List.map_append]
  congr 1
  refine List.map_congr_left fun q hq => ho q (fun e => h (by rw [e]; exact hq))
theorem map_old {f g : Fin 50 → Value} {k : Nat} (h : qf k ∈ firsts qf k) (ho : ∀ q, qf k ≠ q → g q = f q) : (firsts qf (k + 1)).map g = ((firsts qf k).map f).set ((firsts qf k).idxOf (qf k)) (g (qf k)) := by
  rw [firsts_old h]
  refine List.ext_getElem (by simp) fun i h1 h2 => ?_
  rw [List.getElem_set]
  have h1' : i < (firsts qf k).length := by simpa using h1
  split
  · rename_i e
    subst e
    rw [List.getElem_map, List.getElem_idxOf]
  · rename_i e
    rw [List.getElem_map, List.getElem_map]
    refine ho _ (fun e' => e ?_)
    have := idxOf_getD (firsts_nodup qf k) h1'
    rw [getD_get h1', ← e'] at this
    exact this
/-- a new combination -/
theorem L4.new {W0 : World} {k : Nat} {v1 v2 v3 : Value} (hn : qf k ∉ firsts qf k) (b : Below W0.heap.size W0 W)
    (m : W.ownsRow W0.heap.size 60 2 v1 ((firsts qf k).length + 1) (cbF (firsts qf k) ++ [.string (kd (qf k)), .int .u16 (ka (qf k))]))
    (h : W.ownsRow W0.heap.size 4 1 v2 ((firsts qf k).length + 1) (((firsts qf k).map fun q => .bool (hiOf qf hgh q k)) ++ [.bool (hgh k)]))
    (l : W.ownsRow W0.heap.size 3 1 v3 ((firsts qf k).length + 1) (((firsts qf k).map fun q => .int .i64 (lvOf qf lv q k)) ++ [.int .i64 (lv k)]))
    (a12 : Apart v1 v2) (a13 : Apart v1 v3) (a23 : Apart v2 v3) : L4 W0 W qf lv hgh (k + 1) v1 v2 v3 := by
  have e : (firsts qf (k + 1)).length = (firsts qf k).length + 1 := by rw [firsts_new hn, List.length_append]; rfl
  refine ⟨b, ?_, ?_, ?_, a12, a13, a23⟩
  · rw [e, firsts_new hn, cbF_snoc]; exact m
  · rw [e, map_new (f := fun q => .bool (hiOf qf hgh q k)) hn (fun q hq => by rw [hi_other hq]), hi_this, hiOf_none _ _ _ _ hn, Bool.false_or]; exact h
  · rw [e, map_new (f := fun q => .int .i64 (lvOf qf lv q k)) hn (fun q hq => by rw [lv_other hq]), lv_new hn]; exact l
/-- a combination that is known -/
theorem L4.old {W0 : World} {k : Nat} {v1 v2 v3 : Value} (hn : qf k ∈ firsts qf k) (b : Below W0.heap.size W0 W)
    (m : W.ownsRow W0.heap.size 60 2 v1 (firsts qf k).length (cbF (firsts qf k)))
    (h : W.ownsRow W0.heap.size 4 1 v2 (firsts qf k).length (((firsts qf k).map fun q => .bool (hiOf qf hgh q k)).set ((firsts qf k).idxOf (qf k)) (.bool (hiOf qf hgh (qf k) k || hgh k))))
    (l : W.ownsRow W0.heap.size 3 1 v3 (firsts qf k).length (((firsts qf k).map fun q => .int .i64 (lvOf qf lv q k)).set ((firsts qf k).idxOf (qf k)) (.int .i64 (max (lvOf qf lv (qf k) k) (lv k)))))
    (a12 : Apart v1 v2) (a13 : Apart v1 v3) (a23 : Apart v2 v3) : L4 W0 W qf lv hgh (k + 1) v1 v2 v3 := by
  have e : (firsts qf (k + 1)).length = (firsts qf k).length := by rw [firsts_old hn]
  refine ⟨b, ?_, ?_, ?_, a12, a13, a23⟩
  · rw [e, firsts_old hn]; exact m
  · rw [e, map_old (f := fun q => .bool (hiOf qf hgh q k)) hn (fun q hq => by rw [hi_other hq]), hi_this]; exact h
  · rw [e, map_old (f := fun q => .int .i64 (lvOf qf lv q k)) hn (fun q hq => by rw [lv_other hq]), lv_old hn]; exact l
end
end Go.Proofs.YbulkcuegFmt
