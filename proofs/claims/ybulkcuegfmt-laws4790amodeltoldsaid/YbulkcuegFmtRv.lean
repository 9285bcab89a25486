import Derived.Test.YbulkcuegFmtSel
namespace Go.Proofs.YbulkcuegFmt
open Go.RowKit

/-- a slice of one-cell elements, nil or not -/
def RowV (W : World) (v : Value) (n : Nat) (f : Nat → Value) : Prop :=
  (v = .slice none 0 0 ∧ n = 0) ∨ ∃ b o cap, v = .slice (some ⟨b, o, none⟩) n cap ∧ b < W.heap.size ∧ ∀ i, i < n → W.cell? ⟨b, o + i, none⟩ = some (f i)

theorem RowV.below {W W' : World} {v : Value} {n : Nat} {f : Nat → Value} (h : RowV W v n f) (hb : Below W.heap.size W W') : RowV W' v n f := by
  rcases h with h | ⟨b, o, cap, h2, h3, h4⟩
  · exact .inl h
  · exact .inr ⟨b, o, cap, h2, Nat.lt_of_lt_of_le h3 hb.size, fun i hi => (hb.cell (p := ⟨b, o + i, none⟩) h3).trans (h4 i hi)⟩

theorem rowV_of_owns {W : World} {base e : Nat} {v : Value} {n : Nat} {f : Nat → Value} (h : W.ownsRow base e 1 v n ((List.range n).map f)) : RowV W v n f := by
  rcases h.2 with ⟨rfl, rfl⟩ | ⟨g, c, cu, rfl, _, hh, hnc, _, hcs, ht⟩
  · exact .inl ⟨rfl, rfl⟩
  · refine .inr ⟨g, 0, c, rfl, lt_of_heap hh, fun i hi => cell_of hh ?_⟩
    have e1 : (cu.toList.take (n * 1))[i]? = ((List.range n).map f)[i]? := by rw [ht]
    rw [List.getElem?_take, if_pos (by omega)] at e1
    simp [hi] at e1
    rw [Nat.zero_add]
    simpa using e1

theorem news_of {W : World} {b o n : Nat} {f : Nat → Value} (h : ∀ i, i < n → W.cell? ⟨b, o + i, none⟩ = some (f i)) : ∀ j u, ((List.range n).map f)[j]? = some u → W.cell? ⟨b, o + j, none⟩ = some u := fun j u hu => by
  by_cases hj : j < n
  · simp [hj] at hu
    rw [← hu]; exact h j hj
  · simp [hj] at hu

theorem cloneAct_row (v : Value) (n : Nat) (f : Nat → Value) (W : World) (hn : n ≤ 10000) (h : RowV W v n f) (h1 : ∀ i, i < n → (f i).oneCell' = true) :
    Calls Ybaf.prog 20 #[v] W fun e W' => ∃ v', e = .returned v' ∧ RowV W' v' n f ∧ Below W.heap.size W W' := by
  rcases h with ⟨rfl, rfl⟩ | ⟨b, o, cap, rfl, h3, h4⟩
  · exact (cloneNil20 0 0 W).mono (fun e W' ⟨h1, h2⟩ => ⟨_, h1, .inl ⟨rfl, rfl⟩, by rw [h2]; exact Below.refl _ _⟩)
  · exact (cloneAct b o n cap ((List.range n).map f) W (by simp) hn (news_of h4) (fun u hu => by simp at hu; obtain ⟨i, hi, rfl⟩ := hu; exact h1 i hi)).mono (fun e W' ⟨v', h1, h2, _, h3⟩ => ⟨v', h1, rowV_of_owns h2, h3⟩)
theorem clonePlmn_row (v : Value) (n : Nat) (f : Nat → Value) (W : World) (hn : n ≤ 10000) (h : RowV W v n f) (h1 : ∀ i, i < n → (f i).oneCell' = true) :
    Calls Ybaf.prog 22 #[v] W fun e W' => ∃ v', e = .returned v' ∧ RowV W' v' n f ∧ Below W.heap.size W W' := by
  rcases h with ⟨rfl, rfl⟩ | ⟨b, o, cap, rfl, h3, h4⟩
  · exact (cloneNil22 0 0 W).mono (fun e W' ⟨h1, h2⟩ => ⟨_, h1, .inl ⟨rfl, rfl⟩, by rw [h2]; exact Below.refl _ _⟩)
  · exact (clonePlmn b o n cap ((List.range n).map f) W (by simp) hn (news_of h4) (fun u hu => by simp at hu; obtain ⟨i, hi, rfl⟩ := hu; exact h1 i hi)).mono (fun e W' ⟨v', h1, h2, _, h3⟩ => ⟨v', h1, rowV_of_owns h2, h3⟩)
end Go.Proofs.YbulkcuegFmt
