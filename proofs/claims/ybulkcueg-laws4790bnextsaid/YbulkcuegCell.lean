import Derived.Test.YbulkcuegBc
namespace Go.Proofs.Ybulkcueg
open Go.RowKit Go.Maps

set_option maxRecDepth 100000 in
set_option maxHeartbeats 1000000 in
theorem cell_any (N : Nat) (T : Nat → Prop) (dv cb n ccap : Nat) (qf : Nat → Fin 9) (lv cd : Nat → Int) (kn : Nat → Bool) (q : Fin 9) (any : Bool) (w : World) (hn : n ≤ 400) (X : DX N T w dv cb n ccap qf lv cd kn) (hTl : ∀ t, T t → t < w.heap.size) :
    Calls Yba.prog 8 #[.pointer (some ⟨dv, 0, none⟩), .agg #[.string (kd q), .int .u16 (ka q)], .bool any] w fun e w' => Looked N T w w' dv cb n ccap qf lv cd kn ∧
      ((∃ b : Nat, atOf qf lv q n = b ∧ e = .returned (.tuple #[.agg #[.int .u32 (cd b), .bool (kn b)], .bool true])) ∨ (atOf qf lv q n = -1 ∧ e = .returned (.tuple #[.agg #[.int .u32 0, .bool false], .bool false]))) := by
  obtain ⟨l1, l2, l3, l4⟩ := X.lt
  have hbA : Below w.heap.size w ((((w.alloc (.cells #[.string (kd q), .int .u16 (ka q)] 34)).alloc (.cells #[.int .u32 0, .bool false] 38)).alloc (.cells #[.string (kd q)] 31)).alloc (.cells #[.int .u16 (ka q)] 32)) := bal (bal (bal (bal (Below.refl _ _))))
  have XA : DX N (fun t => T t ∨ t = w.heap.size + 1) _ dv cb n ccap qf lv cd kn := X.fresh hbA (fun t ht => by rcases ht with h | h; exact .inl h; exact .inr (by omega))
  have hbc := fun pb ab hp ha h1 h2 => bestCell_any N _ dv cb n ccap qf lv cd kn q any pb ab _ hn XA (fun t ht => by simp; rcases ht with h | h; have := hTl t h; omega; omega) hp ha h1 h2
  have hR : ((((w.alloc (.cells #[.string (kd q), .int .u16 (ka q)] 34)).alloc (.cells #[.int .u32 0, .bool false] 38)).alloc (.cells #[.string (kd q)] 31)).alloc (.cells #[.int .u16 (ka q)] 32)).heap[w.heap.size + 1]? = some (.cells #[.int .u32 0, .bool false] 38 (0, 0)) := by
    rw [Below.heap_alloc _ _ _ (by simp), Below.heap_alloc _ _ _ (by simp)]
    have := (MapKept.heap_alloc (w.alloc (.cells #[.string (kd q), .int .u16 (ka q)] 34)) (.cells #[.int .u32 0, .bool false] 38)).1
    simpa using this
  go_enter Yba.func8, Yba.ntmps8
  go_wp2_with fail
  refine (hbc (w.heap.size + 1 + 1) (w.heap.size + 1 + 1 + 1) (by simp [go_sem]) (by simp [go_sem]) (by omega) (by omega)).mono ?_
  rintro e w1 ⟨LK, h⟩
  have hR1 := (LK.g.block (w.heap.size + 1) (lt_of_heap hR) (by simp; omega)).trans hR
  clear hbc XA hR X
  rcases h with ⟨b, hat, rfl⟩ | ⟨hat, rfl⟩
  · have HA : Hid _ := hat
    clear hat
    have LK2 := LK.below (bal (o := .cells (oba qf lv cd kn b) 40) (Below.refl _ w1))
    have hR2 : (w1.alloc (.cells (oba qf lv cd kn b) 40)).heap[w.heap.size + 1]? = some (.cells #[.int .u32 0, .bool false] 38 (0, 0)) := (Below.heap_alloc _ _ _ (lt_of_heap hR1)).trans hR1
    have n0 : (w1.alloc (.cells (oba qf lv cd kn b) 40)).heap[w1.heap.size]? = some (.cells (oba qf lv cd kn b) 40 (0, 0)) := (MapKept.heap_alloc w1 _).1
    go_upto_region 2 with fail
    generalize w1.alloc (.cells (oba qf lv cd kn b) 40) = W4 at *
    have m4 : W4.cell? ⟨w1.heap.size, 4, none⟩ = some (.int .u32 (cd b)) := cell_of n0 rfl
    have m5 : W4.cell? ⟨w1.heap.size, 5, none⟩ = some (.bool (kn b)) := cell_of n0 rfl
    have z0 : W4.cell? ⟨w.heap.size + 1, 0, none⟩ = some (.int .u32 0) := cell_of hR2 rfl
    have z1 : W4.cell? ⟨w.heap.size + 1, 1, none⟩ = some (.bool false) := cell_of hR2 rfl
    have f0 : W4.frozen? ⟨w.heap.size + 1, 0, none⟩ = false := fz_of hR2
    have f1 : W4.frozen? ⟨w.heap.size + 1, 1, none⟩ = false := fz_of hR2
    go_wp2_with fail
    have hst : ((W4.setCell ⟨w.heap.size + 1, 0, none⟩ (.int .u32 (cd b))).setCell ⟨w.heap.size + 1, 1, none⟩ (.bool (kn b))).heap[w.heap.size + 1]? = some (.cells #[(.int .u32 (cd b)), (.bool (kn b))] 38 (0, 0)) := heap_set _ (heap_set _ hR2)
    have hgF : W4.grownBy ((W4.setCell ⟨w.heap.size + 1, 0, none⟩ (.int .u32 (cd b))).setCell ⟨w.heap.size + 1, 1, none⟩ (.bool (kn b))) (some (w.heap.size + 1)) := gr1 _ (gr1 _ (World.grownBy.refl _ _))
    have LKF : Looked N T w _ dv cb n ccap qf lv cd kn := Looked.wrote hbA (by omega) l3 LK2 hgF (by omega) (.inr rfl) (fun s h => .inl h)
    generalize (W4.setCell ⟨w.heap.size + 1, 0, none⟩ (.int .u32 (cd b))).setCell ⟨w.heap.size + 1, 1, none⟩ (.bool (kn b)) = W9 at hst hgF LKF ⊢
    have y0 : W9.cell? ⟨w.heap.size + 1, 0, none⟩ = some (.int .u32 (cd b)) := cell_of hst rfl
    have y1 : W9.cell? ⟨w.heap.size + 1, 1, none⟩ = some (.bool (kn b)) := cell_of hst rfl
    exact bodyPost_ret (v := .tuple #[.agg #[.int .u32 (cd b), .bool (kn b)], .bool true]) (by simp [results, Yba.results8, go_sem, y0, y1]) rfl ⟨LKF, .inl ⟨b, HA.out, rfl⟩⟩
  · have HA : Hid _ := hat
    clear hat
    have LK2 := LK.below (bal (o := .cells zob 40) (Below.refl _ w1))
    have hR2 : (w1.alloc (.cells zob 40)).heap[w.heap.size + 1]? = some (.cells #[.int .u32 0, .bool false] 38 (0, 0)) := (Below.heap_alloc _ _ _ (lt_of_heap hR1)).trans hR1
    have n0 : (w1.alloc (.cells zob 40)).heap[w1.heap.size]? = some (.cells zob 40 (0, 0)) := (MapKept.heap_alloc w1 _).1
    go_upto_region 2 with fail
    generalize w1.alloc (.cells zob 40) = W4 at *
    have m4 : W4.cell? ⟨w1.heap.size, 4, none⟩ = some (.int .u32 0) := cell_of n0 rfl
    have m5 : W4.cell? ⟨w1.heap.size, 5, none⟩ = some (.bool false) := cell_of n0 rfl
    have z0 : W4.cell? ⟨w.heap.size + 1, 0, none⟩ = some (.int .u32 0) := cell_of hR2 rfl
    have z1 : W4.cell? ⟨w.heap.size + 1, 1, none⟩ = some (.bool false) := cell_of hR2 rfl
    have f0 : W4.frozen? ⟨w.heap.size + 1, 0, none⟩ = false := fz_of hR2
    have f1 : W4.frozen? ⟨w.heap.size + 1, 1, none⟩ = false := fz_of hR2
    go_wp2_with fail
    have hst : ((W4.setCell ⟨w.heap.size + 1, 0, none⟩ (.int .u32 0)).setCell ⟨w.heap.size + 1, 1, none⟩ (.bool false)).heap[w.heap.size + 1]? = some (.cells #[(.int .u32 0), (.bool false)] 38 (0, 0)) := heap_set _ (heap_set _ hR2)
    have hgF : W4.grownBy ((W4.setCell ⟨w.heap.size + 1, 0, none⟩ (.int .u32 0)).setCell ⟨w.heap.size + 1, 1, none⟩ (.bool false)) (some (w.heap.size + 1)) := gr1 _ (gr1 _ (World.grownBy.refl _ _))
    have LKF : Looked N T w _ dv cb n ccap qf lv cd kn := Looked.wrote hbA (by omega) l3 LK2 hgF (by omega) (.inr rfl) (fun s h => .inl h)
    generalize (W4.setCell ⟨w.heap.size + 1, 0, none⟩ (.int .u32 0)).setCell ⟨w.heap.size + 1, 1, none⟩ (.bool false) = W9 at hst hgF LKF ⊢
    have y0 : W9.cell? ⟨w.heap.size + 1, 0, none⟩ = some (.int .u32 0) := cell_of hst rfl
    have y1 : W9.cell? ⟨w.heap.size + 1, 1, none⟩ = some (.bool false) := cell_of hst rfl
    exact bodyPost_ret (v := .tuple #[.agg #[.int .u32 0, .bool false], .bool false]) (by simp [results, Yba.results8, go_sem, y0, y1]) rfl ⟨LKF, .inr ⟨HA.out, rfl⟩⟩
end Go.Proofs.Ybulkcueg
