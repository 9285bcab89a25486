import Derived.Test.YbulkcuegFmtIndex
namespace Go.Proofs.YbulkcuegFmt
open Go.RowKit Go.Maps

set_option maxRecDepth 100000 in
set_option maxHeartbeats 1000000 in
theorem indexed_any (dv cb n : Nat) (dc : Array Value) (qf : Nat → Fin 50) (lv cd : Nat → Int) (hgh kn : Nat → Bool) (w : World) (hn : n ≤ 400) (hc : cb < w.heap.size) (S : Scan w cb n qf lv cd hgh kn)
    (h : w.heap[dv]? = some (.cells dc 75 (0, 0))) (c20 : dc[20]? = some (.slice (some ⟨cb, 0, none⟩) n n)) (c21 : dc[21]? = some (.pointer none)) :
    Calls Ybaf.prog 29 #[.pointer (some ⟨dv, 0, none⟩)] w fun e w' => ∃ ib db, e = .returned (.pointer (some ⟨ib, 0, none⟩)) ∧ w.grownBy w' (some dv) ∧ w.heap.size ≤ ib ∧ w.heap.size ≤ db ∧ w'.heap[dv]? = some (.cells (dc.setIfInBounds 21 (.pointer (some ⟨ib, 0, none⟩))) 75 (0, 0)) ∧ w'.cell? ⟨ib, 1, none⟩ = some (.slice (some ⟨db, 0, none⟩) (firsts qf n).length n) ∧ ∀ x, x < (firsts qf n).length * 10 → w'.cell? ⟨db, x, none⟩ = some (candV (firsts qf n) (fun q => hiOf qf hgh q n) (fun q => lvOf qf lv q n) x) := by
  have hi := index_any cb n n qf lv cd hgh kn w hn hc S
  have k20 := cell_of h c20
  have k21 := cell_of h c21
  have HH : Hid _ := And.intro h (And.intro c20 c21)
  have hdl := lt_of_heap h
  clear S h c20 c21
  go_enter Ybaf.func29, Ybaf.ntmps29
  go_wp2_with fail
  refine hi.mono ?_
  rintro e w1 ⟨ib, db, rfl, hb1, l1, l2, h1, h2⟩
  have hh1 := (hb1.block _ hdl).trans HH.out.1
  have x0 : w1.cell? ⟨dv, 21, none⟩ = some (.pointer none) := cell_of hh1 HH.out.2.2
  have x1 : w1.frozen? ⟨dv, 21, none⟩ = false := fz_of hh1
  have hh2 := heap_set (k := 21) (.pointer (some ⟨ib, 0, none⟩)) hh1
  have x2 : (w1.setCell ⟨dv, 21, none⟩ (.pointer (some ⟨ib, 0, none⟩))).cell? ⟨dv, 21, none⟩ = some (.pointer (some ⟨ib, 0, none⟩)) := by
    refine cell_of hh2 ?_
    have := (Array.getElem?_eq_some_iff.1 HH.out.2.2).1
    simp [this]
  have HF : Hid (w.grownBy (w1.setCell ⟨dv, 21, none⟩ (.pointer (some ⟨ib, 0, none⟩))) (some dv) ∧ w.heap.size ≤ ib ∧ w.heap.size ≤ db ∧ (w1.setCell ⟨dv, 21, none⟩ (.pointer (some ⟨ib, 0, none⟩))).heap[dv]? = some (.cells (dc.setIfInBounds 21 (.pointer (some ⟨ib, 0, none⟩))) 75 (0, 0)) ∧ (w1.setCell ⟨dv, 21, none⟩ (.pointer (some ⟨ib, 0, none⟩))).cell? ⟨ib, 1, none⟩ = some (.slice (some ⟨db, 0, none⟩) (firsts qf n).length n) ∧ ∀ x, x < (firsts qf n).length * 10 → (w1.setCell ⟨dv, 21, none⟩ (.pointer (some ⟨ib, 0, none⟩))).cell? ⟨db, x, none⟩ = some (candV (firsts qf n) (fun q => hiOf qf hgh q n) (fun q => lvOf qf lv q n) x)) := by
    refine ⟨gr1 _ ⟨hb1.os, hb1.tape, hb1.output, hb1.size, fun k hk _ => hb1.block k hk⟩, l1, l2, hh2, cell_set h1 (by show ib ≠ dv; omega), fun x hx => cell_set (h2 x hx) (by show db ≠ dv; omega)⟩
  clear h1 h2 hb1 hh1 hh2 hi HH
  go_upto_region 3 with fail
  generalize w1.setCell ⟨dv, 21, none⟩ (.pointer (some ⟨ib, 0, none⟩)) = w2 at x2 HF ⊢
  go_wp2_with fail
  go_ret
  exact ⟨_, _, rfl, HF.out⟩
end Go.Proofs.YbulkcuegFmt
