import Derived.Test.YbulkcuegFmtK42
import Derived.Laws.AppendOwn
namespace Go.Proofs.YbulkcuegFmt
open Go.RowKit Go.Maps

section
variable {P : Program} {w : World} {ops : Array Oper} {Q : Exit → Act → World → Prop} {a : Go.Act} {rest : List Oper} {o : Oper}
/-- an append that has room, its world written out -/
theorem wpList_append_exact (hgd : o.guard = none) (s x : Operand) (t : TypeId) (ho : o.op = .call { callee := .builtin .append, args := #[s, x], argTypes := #[t, t] })
    (e : TypeId) (i : TypeInfo) (size : Nat) (ht : P.underlying t = some (.slice e)) (hi : P.info? e = some i) (hsize : i.size = size)
    (g n cap : Nat) (cur : Array Value) (hg : w.heap[g]? = some (.cells cur e (0, 0))) (hs : a.eval s = .slice (some ⟨g, 0, none⟩) n cap)
    (ad : Addr) (m c : Nat) (news : List Value) (hx : a.eval x = .slice (some ad) m c) (hl : news.length = m * size) (hnews : ∀ j u, news[j]? = some u → w.cell? (ad.add j) = some u) (h1 : ∀ u ∈ news, u.oneCell' = true)
    (hroom : n + m ≤ cap) (hfit : n * size + news.length ≤ cur.size)
    (h : ∀ w', Hid (w.setRow g (cur.toList.take (n * size) ++ news ++ cur.toList.drop (n * size + news.length)).toArray = w') → wpList P ops Q rest (a.put o.dst (.slice (some ⟨g, 0, none⟩) (n + m) cap)) w') : wpList P ops Q (o :: rest) a w := by
  subst hsize
  refine wpList_plain hgd fun _ hK => ?_
  have hr := run_append_room (P := P) w t o.type e i ht hi g n cap cur hg ad m c news hl hnews h1 hroom hfit
  unfold Oper.wp execOp
  simp only [ho, resolve, invoke, builtin, Sem.run_bind, Sem.run_pure, Result.andThen_ok, List.map_toArray, List.map_cons, List.map_nil, hs, hx, hr]
  exact hK _ _ (h _ rfl)
end
theorem splice_get {cur : Array Value} {news : List Value} {k : Nat} (h : k + news.length ≤ cur.size) (j : Nat) :
    (cur.toList.take k ++ news ++ cur.toList.drop (k + news.length)).toArray[j]? = if j < k then cur[j]? else if j < k + news.length then news[j - k]? else cur[j]? := by
  have hlt : (cur.toList.take k).length = k := by simp; omega
  rw [List.getElem?_toArray, List.append_assoc]
  by_cases h1 : j < k
  · rw [if_pos h1, List.getElem?_append_left (by omega), List.getElem?_take, if_pos h1]
    simp
  · rw [if_neg h1, List.getElem?_append_right (by omega), hlt]
    by_cases h2 : j < k + news.length
    · rw [if_pos h2, List.getElem?_append_left (by omega)]
    · rw [if_neg h2, List.getElem?_append_right (by omega), List.getElem?_drop, show k + news.length + (j - k - news.length) = j by omega]
      simp
theorem splice_size {cur : Array Value} {news : List Value} {k : Nat} (h : k + news.length ≤ cur.size) : (cur.toList.take k ++ news ++ cur.toList.drop (k + news.length)).toArray.size = cur.size := by
  simp
  omega

/-- the cells of what is set aside -/
def asC (dl : List Int) (sl : List (Fin 50)) : List Value := sl.flatMap fun q => [.string (kd q), .int .u16 (ka q), .int .u8 (whyOf dl q)]
theorem asC_snoc (dl : List Int) (sl : List (Fin 50)) (q : Fin 50) : asC dl (sl ++ [q]) = asC dl sl ++ [.string (kd q), .int .u16 (ka q), .int .u8 (whyOf dl q)] := by simp [asC]
theorem asC_get (dl : List Int) (sl : List (Fin 50)) (i c : Nat) (hi : i < sl.length) (hc : c < 3) : (asC dl sl)[i * 3 + c]? = [Value.string (kd (sl.getD i 0)), .int .u16 (ka (sl.getD i 0)), .int .u8 (whyOf dl (sl.getD i 0))][c]? := by
  induction sl generalizing i with
  | nil => simp at hi
  | cons q sl ih =>
    unfold asC
    rw [List.flatMap_cons]
    cases i with
    | zero =>
      rw [List.getElem?_append_left (by simp; omega), Nat.zero_mul, Nat.zero_add]
      rfl
    | succ i =>
      rw [List.getElem?_append_right (by simp; omega)]
      have := ih i (by simp at hi; omega)
      rw [show (i + 1) * 3 + c - [Value.string (kd q), .int .u16 (ka q), .int .u8 (whyOf dl q)].length = i * 3 + c by simp; omega]
      exact this

theorem owns_keep {W W' : World} {base e sz n : Nat} {v : Value} {xs : List Value} (h : W.ownsRow base e sz v n xs) (k : ∀ b, base ≤ b → b < W.heap.size → W'.heap[b]? = W.heap[b]?) : W'.ownsRow base e sz v n xs := by
  refine ⟨h.1, ?_⟩
  rcases h.2 with h0 | ⟨g, c, cu, h1, h2, hh, h3⟩
  · exact .inl h0
  · exact .inr ⟨g, c, cu, h1, h2, (k g h2 (lt_of_heap hh)).trans hh, h3⟩
theorem own_below {W W' : World} {base e sz n : Nat} {v : Value} {xs : List Value} (h : W.ownsRow base e sz v n xs) (hg : W.grownBy W' v.ownBlock) (b : Nat) (hb : b < W.heap.size) (hbase : b < base) : W'.heap[b]? = W.heap[b]? := by
  refine hg.block b hb ?_
  rcases h.2 with ⟨h0, _⟩ | ⟨g, c', cu, h0, h2, _⟩
  · rw [h0]; simp [Value.ownBlock]
  · rw [h0]; simp [Value.ownBlock]; omega
theorem own_shape {W : World} {base e sz n : Nat} {v : Value} {xs : List Value} (h : W.ownsRow base e sz v n xs) : ∃ va cap, v = .slice va n cap := by
  rcases h.2 with ⟨h0, h1⟩ | ⟨g, c', cu, h0, _⟩
  · exact ⟨none, 0, by rw [h0, h1]⟩
  · exact ⟨_, _, h0⟩

/-- the candidates, the first k taken up -/
def Cnd2 (W : World) (db cap k : Nat) (ks E : List (Fin 50)) (f h : Fin 50 → List Value) : Prop := ∃ cu, W.heap[db]? = some (.cells cu 129 (0, 0)) ∧ cu.size = cap * 10 ∧ ks.length ≤ cap ∧ E.length ≤ k ∧ (∀ i, i < E.length → Els cu 10 i (f (E.getD i 0))) ∧ ∀ i, k ≤ i → i < ks.length → Els cu 10 i (h (ks.getD i 0))
/-- rank, its candidates mid-way -/
structure R3 (w W : World) (db sb zb gb rv cap k : Nat) (ks E sl : List (Fin 50)) (vs : Value) (dl : List Int) (f h : Fin 50 → List Value) : Prop where
  g : w.grownBy W (some db)
  z : W.heap[zb]? = some (.cells #[.slice none 0 0, .slice none 0 0] 90 (0, 0))
  gk : W.heap[gb]? = some (.cells #[.slice none 0 0, vs] 90 (0, 0))
  v : W.heap[rv]? = some (.cells #[.slice (some ⟨db, 0, none⟩) E.length cap] 126 (0, 0))
  a : W.ownsRow (rv + 1) 97 3 vs sl.length (asC dl sl)
  c : Cnd2 W db cap k ks E f h
  lt : w.heap.size ≤ zb ∧ w.heap.size ≤ gb ∧ w.heap.size ≤ rv ∧ db < w.heap.size ∧ sb < w.heap.size ∧ gb ≠ zb ∧ gb ≠ rv ∧ zb < rv ∧ gb < rv
theorem R3.next {w W W' : World} {db sb zb gb rv cap k : Nat} {ks E sl : List (Fin 50)} {vs : Value} {dl : List Int} {f h : Fin 50 → List Value} (r : R3 w W db sb zb gb rv cap k ks E sl vs dl f h) (hb : Below W.heap.size W W') : R3 w W' db sb zb gb rv cap k ks E sl vs dl f h := by
  obtain ⟨cu, h1, h2⟩ := r.c
  exact ⟨grow_below r.g hb, (hb.block _ (lt_of_heap r.z)).trans r.z, (hb.block _ (lt_of_heap r.gk)).trans r.gk, (hb.block _ (lt_of_heap r.v)).trans r.v, owns_keep r.a (fun b _ h => hb.block b h), ⟨cu, (hb.block _ (lt_of_heap h1)).trans h1, h2⟩, r.lt⟩
theorem Cnd2.skip {W : World} {db cap k : Nat} {ks E : List (Fin 50)} {f h : Fin 50 → List Value} (c : Cnd2 W db cap k ks E f h) : Cnd2 W db cap (k + 1) ks E f h := by
  obtain ⟨cu, h1, h2, h3, h4, h5, h6⟩ := c
  exact ⟨cu, h1, h2, h3, by omega, h5, fun i hi => h6 i (by omega)⟩
theorem Cnd2.of_block {W W' : World} {db cap k : Nat} {ks E : List (Fin 50)} {f h : Fin 50 → List Value} (c : Cnd2 W db cap k ks E f h) (e : W'.heap[db]? = W.heap[db]?) : Cnd2 W' db cap k ks E f h := by
  obtain ⟨cu, h1, h2⟩ := c
  exact ⟨cu, e.trans h1, h2⟩
/-- one is set aside -/
theorem R3.asd {w W w' : World} {db sb zb gb rv cap k : Nat} {ks E sl : List (Fin 50)} {vs : Value} {dl : List Int} {f h : Fin 50 → List Value} (r : R3 w W db sb zb gb rv cap k ks E sl vs dl f h) {q : Fin 50} {va : Option Addr} {c' : Nat} (ho : w'.ownsRow (rv + 1) 97 3 (.slice va (sl.length + 1) c') (sl.length + 1) (asC dl sl ++ [.string (kd q), .int .u16 (ka q), .int .u8 (whyOf dl q)])) (hg : W.grownBy w' vs.ownBlock) :
    R3 w (w'.setCell ⟨gb, 1, none⟩ (.slice va (sl.length + 1) c')) db sb zb gb rv cap (k + 1) ks E (sl ++ [q]) (.slice va (sl.length + 1) c') dl f h := by
  have lt := r.lt
  have l1 := lt_of_heap r.z
  have l2 := lt_of_heap r.gk
  have l3 := lt_of_heap r.v
  have hw := r.g.size
  have kp : ∀ b, b < W.heap.size → b ≤ rv → b ≠ gb → (w'.setCell ⟨gb, 1, none⟩ (.slice va (sl.length + 1) c')).heap[b]? = W.heap[b]? := fun b h1 h2 h3 => (Below.heap_setCell _ _ _ _ h3).trans (own_below r.a hg b h1 (by omega))
  refine ⟨⟨hg.os.trans r.g.os, hg.tape.trans r.g.tape, hg.output.trans r.g.output, by have := hg.size; simp [World.setCell]; omega, fun b h1 h2 => (kp b (by omega) (by omega) (by omega)).trans (r.g.block b h1 h2)⟩, (kp _ l1 (by omega) (by omega)).trans r.z, ?_, (kp _ l3 (by omega) (by omega)).trans r.v, ?_, (r.c.skip).of_block (kp _ (by omega) (by omega) (by omega)), lt⟩
  · rw [heap_set _ ((own_below r.a hg _ l2 (by omega)).trans r.gk)]
    rfl
  · rw [asC_snoc, List.length_append, List.length_singleton]
    exact owns_keep ho (fun b h1 h2 => Below.heap_setCell _ _ _ _ (by show b ≠ gb; omega))
/-- one is ranked -/
theorem R3.take {w W : World} {db sb zb gb rv cap k : Nat} {ks E sl : List (Fin 50)} {vs : Value} {dl : List Int} {f h : Fin 50 → List Value} (r : R3 w W db sb zb gb rv cap k ks E sl vs dl f h) {q : Fin 50} (hk : k < ks.length) (news : List Value) (hl : news.length = 10) (hn : news = f q) {cu : Array Value} (hc : W.heap[db]? = some (.cells cu 129 (0, 0))) :
    R3 w ((W.setRow db (cu.toList.take (E.length * 10) ++ news ++ cu.toList.drop (E.length * 10 + news.length)).toArray).setCell ⟨rv, 0, none⟩ (.slice (some ⟨db, 0, none⟩) (E.length + 1) cap)) db sb zb gb rv cap (k + 1) ks (E ++ [q]) sl vs dl f h := by
  have lt := r.lt
  have l3 := lt_of_heap r.v
  obtain ⟨cu', h1, h2, h3, h4, h5, h6⟩ := r.c
  rw [hc] at h1
  injection h1 with h1
  injection h1 with h1 _ _
  subst h1
  have hfit : E.length * 10 + news.length ≤ cu.size := by omega
  have kp : ∀ b, b ≠ db → b ≠ rv → ((W.setRow db (cu.toList.take (E.length * 10) ++ news ++ cu.toList.drop (E.length * 10 + news.length)).toArray).setCell ⟨rv, 0, none⟩ (.slice (some ⟨db, 0, none⟩) (E.length + 1) cap)).heap[b]? = W.heap[b]? := fun b h1 h2 => (Below.heap_setCell _ _ _ _ h2).trans (heap_setRow_ne h1)
  refine ⟨⟨r.g.os, r.g.tape, r.g.output, Nat.le_trans r.g.size (by simp [World.setCell, World.setRow]), fun b h1 h2 => (kp b (by simpa using h2) (by omega)).trans (r.g.block b h1 h2)⟩, (kp _ (by omega) (by omega)).trans r.z, (kp _ (by omega) (by omega)).trans r.gk, ?_, owns_keep r.a (fun b h1 _ => kp b (by omega) (by omega)), ?_, lt⟩
  · rw [List.length_append, List.length_singleton, heap_set _ ((heap_setRow_ne (by omega)).trans r.v)]
    rfl
  · refine ⟨_, (Below.heap_setCell _ _ _ _ (by show db ≠ rv; omega)).trans (heap_setRow hc), by rw [splice_size hfit]; exact h2, h3, by simp; omega, fun i hi => ?_, fun i hi1 hi2 => ?_⟩
    · intro c hc'
      rw [splice_get hfit]
      by_cases e : i < E.length
      · rw [if_pos (by omega), getD_snoc e]
        exact h5 i e c hc'
      · have ei : i = E.length := by simp at hi; omega
        subst ei
        rw [if_neg (by omega), if_pos (by omega), getD_last, hn, Nat.add_sub_cancel_left]
    · intro c hc'
      rw [splice_get hfit, if_neg (by omega), if_neg (by omega)]
      exact h6 i (by omega) hi2 c hc'
theorem R3.look {w W : World} {db sb zb gb rv cap k : Nat} {ks E sl : List (Fin 50)} {vs : Value} {dl : List Int} {f h : Fin 50 → List Value} (r : R3 w W db sb zb gb rv cap k ks E sl vs dl f h) (hk : k < ks.length) {c : Nat} {v : Value} (hc : c < 10) (hv : (h (ks.getD k 0))[c]? = some v) : W.cell? ⟨db, k * 10 + c, none⟩ = some v := by
  obtain ⟨cu, h1, _, _, _, _, h6⟩ := r.c
  exact cell_of h1 ((h6 k (Nat.le_refl _) hk c hc).trans hv)

theorem why3 (dl : List Int) (nb : Fin 5 → Option Nat) (q : Fin 50) (h : elig dl nb q = false) : whyOf dl q = 3 ↔ aside dl nb q := by
  unfold whyOf aside
  by_cases h0 : nt q = 0
  · rw [if_pos h0]; simp [h0]
  · rw [if_neg h0]
    by_cases h1 : ka q < 9
    · rw [if_neg (by simpa using h1)]
      by_cases h2 : ka q ∈ dl
      · rw [if_neg (by simpa using h2)]
        have hs : sup dl q = true := by simp [sup, h1, h2]
        simp [elig, h0, hs] at h
        simp [h0, hs, h.1]
        cases hb : nb (nt q) with
        | none => rw [hb] at h; simp at h
        | some b => simp
      · rw [if_pos h2]
        have hs : sup dl q = false := by simp [sup, h2]
        simp [hs]
    · rw [if_pos h1]
      have hs : sup dl q = false := by simp [sup, h1]
      simp [hs]
theorem R3.done {w W : World} {db sb zb gb rv cap : Nat} {ks sl : List (Fin 50)} {vs : Value} {dl : List Int} {nb : Fin 5 → Option Nat} {f h : Fin 50 → List Value} (r : R3 w W db sb zb gb rv cap ks.length ks (ks.filter (elig dl nb)) sl vs dl f h) (hsl : sl = ks.filter (fun q => !elig dl nb q)) (hm : ks.length ≤ 50) : R4 w W db sb zb gb rv cap W.heap.size (ks.filter (elig dl nb)) vs (∃ q, q ∈ ks ∧ aside dl nb q) f := by
  have lt := r.lt
  obtain ⟨cu, h1, h2, h3, h4, h5, _⟩ := r.c
  refine ⟨⟨r.g.os, r.g.tape, r.g.output, r.g.size, fun b h1 h2 _ => r.g.block b h1 (by simpa using h2)⟩, r.z, r.gk, r.v, ?_, ⟨cu, h1, h2, by omega, h5⟩, by omega⟩
  have hlen : sl.length ≤ 50 := by rw [hsl]; exact Nat.le_trans (List.length_filter_le _ _) hm
  have hS : (∃ j, j < sl.length ∧ whyOf dl (sl.getD j 0) = 3) ↔ ∃ q, q ∈ ks ∧ aside dl nb q := by
    constructor
    · rintro ⟨j, hj, h⟩
      have hm : sl.getD j 0 ∈ sl := by simp [List.getD, hj]
      have hm' := hm
      rw [hsl, List.mem_filter] at hm'
      rw [← hsl] at hm'
      exact ⟨_, hm'.1, (why3 dl nb _ (by simpa using hm'.2)).1 h⟩
    · rintro ⟨q, hq, h⟩
      have he : elig dl nb q = false := by
        obtain ⟨a1, a2, a3, a4⟩ := h
        cases hb : nb (nt q) with
        | none => rw [hb] at a4; cases a4
        | some b => simp [elig, a1, a2, a3, hb]
      have hm : q ∈ sl := by rw [hsl, List.mem_filter]; exact ⟨hq, by simp [he]⟩
      obtain ⟨j, hj, e⟩ := List.mem_iff_getElem.1 hm
      refine ⟨j, hj, ?_⟩
      rw [show sl.getD j 0 = q by simp [List.getD, hj, e]]
      exact (why3 dl nb q he).2 h
  rcases r.a.2 with ⟨h0, h1⟩ | ⟨g, c', cu', h0, hg1, hh, hnc, _, hcs, ht⟩
  · exact ⟨none, 0, 0, 0, fun _ => ⟨#[]⟩, fun _ => 0, fun _ => 0, h0, by omega, fun h => by omega, fun i hi => by omega, by rw [← hS, h1]; exact ⟨fun ⟨_, h, _⟩ => by omega, fun ⟨_, h, _⟩ => by omega⟩⟩
  · have hgl := lt_of_heap hh
    have get : ∀ i c v, i < sl.length → c < 3 → [Value.string (kd (sl.getD i 0)), .int .u16 (ka (sl.getD i 0)), .int .u8 (whyOf dl (sl.getD i 0))][c]? = some v → W.cell? ⟨g, i * 3 + c, none⟩ = some v := fun i c v hi hc hv => by
      refine cell_of hh ?_
      have e1 : (cu'.toList.take (sl.length * 3))[i * 3 + c]? = (asC dl sl)[i * 3 + c]? := by rw [ht]
      rw [List.getElem?_take, if_pos (by omega), asC_get dl sl i c hi hc, hv] at e1
      simpa using e1
    exact ⟨some ⟨g, 0, none⟩, sl.length, c', g, fun i => kd (sl.getD i 0), fun i => ka (sl.getD i 0), fun i => whyOf dl (sl.getD i 0), h0, hlen, fun _ => ⟨rfl, by omega, hgl⟩, fun i hi => ⟨get i 0 _ hi (by omega) rfl, get i 1 _ hi (by omega) rfl, get i 2 _ hi (by omega) rfl⟩, hS⟩
theorem part_le {hi : Fin 50 → Bool} {E : List (Fin 50)} (hE : E.Nodup) (c : Int) (lo w : Nat) (h : ∀ q ∈ E, clsOf hi q = c → lo ≤ q.val ∧ q.val < lo + w) : (idxs hi E c E.length).length ≤ w := by
  have hn : ((idxs hi E c E.length).map fun i => (E.getD i 0).val - lo).Nodup := by
    have h0 : (idxs hi E c E.length).Nodup := List.Pairwise.filter _ List.nodup_range
    rw [List.nodup_iff_pairwise_ne, List.pairwise_map]
    have h1 : (idxs hi E c E.length).Pairwise (fun i j => i ≠ j) := h0
    refine h1.imp_of_mem fun {i j} hi' hj hij => ?_
    unfold idxs at hi' hj
    rw [List.mem_filter] at hi' hj
    have li : i < E.length := by simpa using hi'.1
    have lj : j < E.length := by simpa using hj.1
    have a1 := h _ (getD_mem li) (by simpa using hi'.2)
    have a2 := h _ (getD_mem lj) (by simpa using hj.2)
    intro e
    exact hij (getD_inj hE li lj (Fin.ext (by omega)))
  have := nodup_le w _ hn (fun x hx => by
    obtain ⟨i, hi', rfl⟩ := List.mem_map.1 hx
    unfold idxs at hi'
    rw [List.mem_filter] at hi'
    have li : i < E.length := by simpa using hi'.1
    have a1 := h _ (getD_mem li) (by simpa using hi'.2)
    omega)
  simpa using this
theorem part0 {hi : Fin 50 → Bool} {E : List (Fin 50)} (hE : E.Nodup) : (idxs hi E 0 E.length).length ≤ 39 := by
  refine Nat.le_trans (part_le hE 0 10 10 fun q _ hq => ?_) (by omega)
  have h1 : nt q = 1 := by
    unfold clsOf at hq
    split at hq
    · assumption
    · split at hq <;> cases hq
  have h2 : q.val / 10 = 1 := congrArg Fin.val h1
  omega
theorem part2 {hi : Fin 50 → Bool} {E : List (Fin 50)} (hE : E.Nodup) (h0 : ∀ q ∈ E, nt q ≠ 0) : (idxs hi E 2 E.length).length ≤ 39 := by
  refine Nat.le_trans (part_le hE 2 20 30 fun q hm hq => ?_) (by omega)
  have h1 : nt q ≠ 1 := by
    intro e
    unfold clsOf at hq
    rw [if_pos e] at hq
    cases hq
  have h2 := h0 q hm
  have h3 : q.val / 10 ≠ 1 := fun e => h1 (Fin.ext e)
  have h4 : q.val / 10 ≠ 0 := fun e => h2 (Fin.ext e)
  omega
theorem info97 : (Ybaf.prog.info? 97).map (fun i => (i.zero, i.size, i.bytes)) = some (some (.agg #[.string ⟨#[]⟩, .int .u16 0, .int .u8 0]), 3, 32) := by kernel_rfl
theorem eqz (q : Fin 50) (w : World) : (binOp .eql 29 (.agg #[.string (kd q)]) (.agg #[.string ⟨#[]⟩])).run Ybaf.prog w = .ok (.bool (decide (nt q = 0))) w := eq29 (nt q) 0 w
theorem take_filter_snoc (p : Fin 50 → Bool) {ks : List (Fin 50)} {k : Nat} (hk : k < ks.length) : (ks.take (k + 1)).filter p = (ks.take k).filter p ++ (if p (ks.getD k 0) then [ks.getD k 0] else []) := by
  rw [List.take_add_one, List.getElem?_eq_getElem hk, Option.toList_some, List.filter_append, show ks.getD k 0 = ks[k] by simp [List.getD, hk]]
  congr 1
  by_cases h : p ks[k] <;> simp [h]

end Go.Proofs.YbulkcuegFmt
