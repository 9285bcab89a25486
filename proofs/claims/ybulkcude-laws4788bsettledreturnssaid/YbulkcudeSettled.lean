import Derived.Test.YbulkcudeWait
namespace Go.Proofs.Ybulkcude
open Go.RowKit
theorem cell_alloc_eq {w : World} {n : Nat} (h : w.heap.size = n) (c : Array Value) (t : TypeId) (o : Nat) : (w.alloc (.cells c t)).cell? ⟨n, o, none⟩ = c[o]? := by
  subst h; simp
set_option maxRecDepth 100000 in
set_option maxHeartbeats 400000 in
theorem law3 (a0 : Int) (h0 : 0 ≤ a0) (h1 : a0 ≤ 65535) (w : World) :
    Calls Yba.prog 3 #[.int .u16 a0] w fun e w' => e = .returned (.bool true) ∧ Below w.heap.size w w' := by
  obtain ⟨z, cs, hz1, hz2, z174, z175, z178, z182⟩ := zero70
  go_enter Yba.func3, Yba.ntmps3
  go_wp2_with (first | refine wpList_build0 rfl 70 rfl z hz1 ?_ | refine wpList_box0 rfl 70 (.tmp 11) rfl z rfl cs hz2 ?_)
  go_loopw [5] (fun i wr => ∃ k : Nat, (k : Int) ≤ a0 % 300 ∧ i = .int .i64 k ∧ Below w.heap.size w wr ∧ wr.heap.size = w.heap.size + 1 ∧ wr.cell? ⟨w.heap.size, 174, none⟩ = some (.int .u64 k) ∧ wr.cell? ⟨w.heap.size, 175, none⟩ = some (.int .u64 k) ∧ wr.cell? ⟨w.heap.size, 182, none⟩ = some .nilIface ∧ ∀ o, wr.frozen? ⟨w.heap.size, o, none⟩ = false) (fun i _ => (300 - intOf i).toNat)
  case atStart =>
    refine ⟨0, by omega, rfl, (Below.refl _ _).alloc (Nat.le_refl _) _, by simp, ?_, ?_, ?_, ?_⟩
    · simp [z174]
    · simp [z175]
    · simp [z182]
    · intro o; simp
  case round =>
    obtain ⟨k, hk, rfl, hb, hsz, c0, c1, c2, hfz⟩ := hrel
    by_cases hlt : (k : Int) < a0 % 300
    · go_wp2_with fail
      refine (add_any _ _ _ (by omega) (by omega) _ c0 (hfz _)).mono ?_
      rintro e w' ⟨rfl, rfl⟩
      go_wp2_with fail
      refine (add_any _ _ k (by omega) (by omega) _ ((World.cell?_setCell_other _ _ _ _ (by simp)).trans c1) ((World.frozen?_setCell _ _ _ _).trans (hfz _))).mono ?_
      rintro e w' ⟨rfl, rfl⟩
      go_wp2_with fail
      go_roundw
      case rel =>
        refine ⟨k + 1, by omega, by go_num, (hb.setCell (Nat.le_refl _) _).setCell (Nat.le_refl _) _, by simpa using hsz, ?_, ?_, ?_, ?_⟩
        · rw [World.cell?_setCell_other _ _ _ _ (by simp)]
          simpa using World.cell?_setCell_same _ _ _ c0
        · simpa using World.cell?_setCell_same _ _ _ ((World.cell?_setCell_other _ _ _ _ (by simp)).trans c1)
        · rw [World.cell?_setCell_other _ _ _ _ (by simp), World.cell?_setCell_other _ _ _ _ (by simp)]
          exact c2
        · intro o
          rw [World.frozen?_setCell, World.frozen?_setCell]
          exact hfz o
      case measure => simp [intOf]; omega
    · go_wp2_with fail
      have d0 : ((wr.setCell ⟨w.heap.size, 182, none⟩ (.iface 72 (.pointer (some ⟨w.heap.size + 1, 0, none⟩)))).alloc (.cells #[.slice none 0 0] 75)).cell? ⟨w.heap.size, 174, none⟩ = some (.int .u64 k) := by
        rw [World.cell?_alloc_past _ _ _ (by simp; omega), World.cell?_setCell_other _ _ _ _ (by simp)]; exact c0
      have d1 : ((wr.setCell ⟨w.heap.size, 182, none⟩ (.iface 72 (.pointer (some ⟨w.heap.size + 1, 0, none⟩)))).alloc (.cells #[.slice none 0 0] 75)).cell? ⟨w.heap.size, 175, none⟩ = some (.int .u64 k) := by
        rw [World.cell?_alloc_past _ _ _ (by simp; omega), World.cell?_setCell_other _ _ _ _ (by simp)]; exact c1
      have d2 : ((wr.setCell ⟨w.heap.size, 182, none⟩ (.iface 72 (.pointer (some ⟨w.heap.size + 1, 0, none⟩)))).alloc (.cells #[.slice none 0 0] 75)).cell? ⟨w.heap.size, 182, none⟩ = some (.iface 72 (.pointer (some ⟨w.heap.size + 1, 0, none⟩))) := by
        rw [World.cell?_alloc_past _ _ _ (by simp; omega)]; exact World.cell?_setCell_same _ _ _ c2
      have d3 : ((wr.setCell ⟨w.heap.size, 182, none⟩ (.iface 72 (.pointer (some ⟨w.heap.size + 1, 0, none⟩)))).alloc (.cells #[.slice none 0 0] 75)).cell? ⟨w.heap.size + 1, 0, none⟩ = some (.slice none 0 0) := by
        rw [cell_alloc_eq (by simp; omega)]; rfl
      have d4 : ((wr.setCell ⟨w.heap.size, 182, none⟩ (.iface 72 (.pointer (some ⟨w.heap.size + 1, 0, none⟩)))).alloc (.cells #[.slice none 0 0] 75)).frozen? ⟨w.heap.size + 1, 0, none⟩ = false := by
        have e : wr.heap[w.heap.size + 1]? = none := by simp; omega
        rw [frozen?_alloc_cells, World.frozen?_setCell]; simp [World.frozen?, e]
      have hbel : Below w.heap.size w ((wr.setCell ⟨w.heap.size, 182, none⟩ (.iface 72 (.pointer (some ⟨w.heap.size + 1, 0, none⟩)))).alloc (.cells #[.slice none 0 0] 75)) := (hb.setCell (Nat.le_refl _) _).alloc (by simp; omega) _
      have hsz2 : ((wr.setCell ⟨w.heap.size, 182, none⟩ (.iface 72 (.pointer (some ⟨w.heap.size + 1, 0, none⟩)))).alloc (.cells #[.slice none 0 0] 75)).heap.size = w.heap.size + 2 := by simp; omega
      generalize (wr.setCell ⟨w.heap.size, 182, none⟩ (.iface 72 (.pointer (some ⟨w.heap.size + 1, 0, none⟩)))).alloc (.cells #[.slice none 0 0] 75) = W2 at *
      refine (load_any _ _ _ _ d0).mono ?_
      rintro e w' ⟨rfl, rfl⟩
      go_wp2_with fail
      refine (wait_any w.heap.size (w.heap.size + 1) (w.heap.size + 2) k W2 (by omega) (by omega) (by omega) (by omega) d0 d1 d2 d3 d4).mono ?_
      rintro e w3 ⟨rfl, hs, g, cap, ho, hl⟩
      have e0 := (hs.cell 174 (by omega) (by omega)).trans d0
      have e1 := (hs.cell 175 (by omega) (by omega)).trans d1
      have g0 : w3.cell? ⟨g, 0, none⟩ = some (.int .i64 1) := by simpa [Addr.add] using ho.cells (g := g) rfl 0 (.int .i64 1) rfl
      have g1 : w3.cell? ⟨g, 1, none⟩ = some (.int .i64 2) := by simpa [Addr.add] using ho.cells (g := g) rfl 1 (.int .i64 2) rfl
      have hfin : Below w.heap.size w w3 := hbel.trans (hs.below (by omega) (by omega))
      clear hs ho hbel hsz2 d0 d1 d2 d3 d4 hfz c0 c1 c2 hb hsz
      go_wp2_with fail
      refine (load_any _ _ _ _ e0).mono ?_
      rintro e w' ⟨rfl, rfl⟩
      go_wp2_with fail
      refine (load_any _ _ _ _ e1).mono ?_
      rintro e w' ⟨rfl, rfl⟩
      go_wp2_with fail
      go_ret
      exact ⟨by simp, hfin⟩
end Go.Proofs.Ybulkcude
