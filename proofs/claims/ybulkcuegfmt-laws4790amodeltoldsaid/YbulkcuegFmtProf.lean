import Derived.Test.YbulkcuegFmtRv
import Derived.Test.YbulkcuegFmtCm
import Derived.Laws.Rows
namespace Go.Proofs.YbulkcuegFmt
open Go.RowKit

/-- a slice of one-cell elements, nil or at a block from base on -/
def RowB (W : World) (base : Nat) (v : Value) (n : Nat) (f : Nat → Value) : Prop :=
  (v = .slice none 0 0 ∧ n = 0) ∨ ∃ b cap, v = .slice (some ⟨b, 0, none⟩) n cap ∧ base ≤ b ∧ b < W.heap.size ∧ ∀ i, i < n → W.cell? ⟨b, i, none⟩ = some (f i)

theorem RowV.shape {W : World} {v : Value} {n : Nat} {f : Nat → Value} (h : RowV W v n f) : ∃ va cap, v = .slice va n cap := by
  rcases h with ⟨rfl, rfl⟩ | ⟨b, o, cap, rfl, _⟩
  · exact ⟨_, _, rfl⟩
  · exact ⟨_, _, rfl⟩
theorem RowB.shape {W : World} {base : Nat} {v : Value} {n : Nat} {f : Nat → Value} (h : RowB W base v n f) : ∃ va cap, v = .slice va n cap := by
  rcases h with ⟨rfl, rfl⟩ | ⟨b, cap, rfl, _⟩
  · exact ⟨_, _, rfl⟩
  · exact ⟨_, _, rfl⟩
theorem RowB.mono {W : World} {base base' : Nat} {v : Value} {n : Nat} {f : Nat → Value} (h : RowB W base v n f) (hb : base' ≤ base) : RowB W base' v n f := by
  rcases h with h | ⟨b, cap, h1, h2, h3⟩
  · exact .inl h
  · exact .inr ⟨b, cap, h1, Nat.le_trans hb h2, h3⟩
theorem RowB.rowV {W : World} {base : Nat} {v : Value} {n : Nat} {f : Nat → Value} (h : RowB W base v n f) : RowV W v n f := by
  rcases h with h | ⟨b, cap, h1, h2, h3, h4⟩
  · exact .inl h
  · exact .inr ⟨b, 0, cap, h1, h3, fun i hi => by rw [Nat.zero_add]; exact h4 i hi⟩
theorem RowB.grown {W W' : World} {base c : Nat} {v : Value} {n : Nat} {f : Nat → Value} (h : RowB W base v n f) (hg : W.grownBy W' (some c)) (hc : c < base) : RowB W' base v n f := by
  rcases h with h | ⟨b, cap, h1, h2, h3, h4⟩
  · exact .inl h
  · exact .inr ⟨b, cap, h1, h2, Nat.lt_of_lt_of_le h3 hg.size, fun i hi => keepg hg (h4 i hi) h3 (by omega)⟩
theorem RowB.below {W W' : World} {base : Nat} {v : Value} {n : Nat} {f : Nat → Value} (h : RowB W base v n f) (hb : Below W.heap.size W W') : RowB W' base v n f := by
  rcases h with h | ⟨b, cap, h1, h2, h3, h4⟩
  · exact .inl h
  · exact .inr ⟨b, cap, h1, h2, Nat.lt_of_lt_of_le h3 hb.size, fun i hi => keepb hb (h4 i hi) h3⟩
theorem rowB_of_owns {W : World} {base e : Nat} {v : Value} {n : Nat} {f : Nat → Value} (h : W.ownsRow base e 1 v n ((List.range n).map f)) : RowB W base v n f := by
  rcases h.2 with ⟨rfl, rfl⟩ | ⟨g, c, cu, rfl, hg, hh, hnc, _, hcs, ht⟩
  · exact .inl ⟨rfl, rfl⟩
  · refine .inr ⟨g, c, rfl, hg, lt_of_heap hh, fun i hi => cell_of hh ?_⟩
    have e1 : (cu.toList.take (n * 1))[i]? = ((List.range n).map f)[i]? := by rw [ht]
    rw [List.getElem?_take, if_pos (by omega)] at e1
    simp [hi] at e1
    simpa using e1
theorem cloneAct_rowB (v : Value) (n : Nat) (f : Nat → Value) (W : World) (hn : n ≤ 10000) (h : RowV W v n f) (h1 : ∀ i, i < n → (f i).oneCell' = true) :
    Calls Ybaf.prog 20 #[v] W fun e W' => ∃ v', e = .returned v' ∧ RowB W' W.heap.size v' n f ∧ Below W.heap.size W W' := by
  rcases h with ⟨rfl, rfl⟩ | ⟨b, o, cap, rfl, h3, h4⟩
  · exact (cloneNil20 0 0 W).mono (fun e W' ⟨h1, h2⟩ => ⟨_, h1, .inl ⟨rfl, rfl⟩, by rw [h2]; exact Below.refl _ _⟩)
  · exact (cloneAct b o n cap ((List.range n).map f) W (by simp) hn (news_of h4) (fun u hu => by simp at hu; obtain ⟨i, hi, rfl⟩ := hu; exact h1 i hi)).mono (fun e W' ⟨v', h1, h2, _, h3⟩ => ⟨v', h1, rowB_of_owns h2, h3⟩)
theorem clonePlmn_rowB (v : Value) (n : Nat) (f : Nat → Value) (W : World) (hn : n ≤ 10000) (h : RowV W v n f) (h1 : ∀ i, i < n → (f i).oneCell' = true) :
    Calls Ybaf.prog 22 #[v] W fun e W' => ∃ v', e = .returned v' ∧ RowB W' W.heap.size v' n f ∧ Below W.heap.size W W' := by
  rcases h with ⟨rfl, rfl⟩ | ⟨b, o, cap, rfl, h3, h4⟩
  · exact (cloneNil22 0 0 W).mono (fun e W' ⟨h1, h2⟩ => ⟨_, h1, .inl ⟨rfl, rfl⟩, by rw [h2]; exact Below.refl _ _⟩)
  · exact (clonePlmn b o n cap ((List.range n).map f) W (by simp) hn (news_of h4) (fun u hu => by simp at hu; obtain ⟨i, hi, rfl⟩ := hu; exact h1 i hi)).mono (fun e W' ⟨v', h1, h2, _, h3⟩ => ⟨v', h1, rowB_of_owns h2, h3⟩)

/-- the profile's cells -/
abbrev profC (im : ByteArray) (mnc : Int) (v2 v3 v6 v7 : Value) (md : Int) (rp : ByteArray) (v15 : Value) : Array Value := #[.string im, .int .i64 mnc, v2, v3, .slice none 0 0, .slice none 0 0, v6, v7, .bool false, .int .u8 md, .bool false, .int .i64 0, .int .i64 0, .bool false, .string rp, v15, .slice none 0 0, .slice none 0 0]
theorem size38 : (Ybaf.prog.info? 38).map (·.size) = some 18 := by kernel_rfl

theorem heap_setRow {w : World} {g : Nat} {old cells : Array Value} {t : TypeId} (h : w.heap[g]? = some (.cells old t (0, 0))) : (w.setRow g cells).heap[g]? = some (.cells cells t (0, 0)) := by
  simp [World.setRow, Array.getElem?_modify, h]
theorem heap_setRow_ne {w : World} {g k : Nat} {cells : Array Value} (h : k ≠ g) : (w.setRow g cells).heap[k]? = w.heap[k]? := by
  have hne : ¬ g = k := fun e => h e.symm
  simp [World.setRow, Array.getElem?_modify, hne]
theorem grown_setRow {w w' : World} {g : Nat} (cells : Array Value) (h : w.grownBy w' (some g)) : w.grownBy (w'.setRow g cells) (some g) :=
  ⟨h.os, h.tape, h.output, Nat.le_trans h.size (by simp [World.setRow]), fun k hk hne => (heap_setRow_ne (by simpa using hne)).trans (h.block k hk hne)⟩

/-- the clone, as it is made -/
structure CS (W wr : World) (cb : Nat) (z cur : Array Value) : Prop where
  b : Below W.heap.size W wr
  z : wr.heap[W.heap.size]? = some (.cells z 38 (0, 0))
  c : wr.heap[cb]? = some (.cells cur 38 (0, 0))
  lt : W.heap.size < cb
theorem CS.next {W wr wr' : World} {cb : Nat} {z cur : Array Value} (h : CS W wr cb z cur) (hb : Below wr.heap.size wr wr') : CS W wr' cb z cur :=
  ⟨h.b.trans (hb.mono h.b.size), (hb.block _ (lt_of_heap h.z)).trans h.z, (hb.block _ (lt_of_heap h.c)).trans h.c, h.lt⟩
theorem CS.set {W wr : World} {cb : Nat} {z cur : Array Value} (h : CS W wr cb z cur) (k : Nat) (v : Value) : CS W (wr.setCell ⟨cb, k, none⟩ v) cb z (cur.setIfInBounds k v) :=
  ⟨h.b.setCell (p := ⟨cb, k, none⟩) (Nat.le_of_lt h.lt) v, (Below.heap_setCell _ _ _ _ (Nat.ne_of_lt h.lt)).trans h.z, heap_set v h.c, h.lt⟩
theorem RowB.set {W : World} {cb base k : Nat} {u v : Value} {n : Nat} {f : Nat → Value} (h : RowB W base v n f) (hc : cb < base) : RowB (W.setCell ⟨cb, k, none⟩ u) base v n f := h.grown (gr1 u (World.grownBy.refl _ _)) hc
end Go.Proofs.YbulkcuegFmt
