import Derived.Test.YbulkcuegFmtClone
namespace Go.Proofs.YbulkcuegFmt
open Go.RowKit

set_option maxRecDepth 100000 in
set_option maxHeartbeats 1000000 in
theorem cloneSel_nil (W : World) : Calls Ybaf.prog 21 #[.slice none 0 0] W fun e W' => e = .returned (.slice none 0 0) ∧ W = W' := by
  have hc := fun w => cloneNil32 0 0 w
  go_enter Ybaf.func21, Ybaf.ntmps21
  go_wp2_with fail
  refine (hc _).mono ?_
  rintro e w1 ⟨rfl, rfl⟩
  go_wp2_with fail
  refine wp_loop_rounds 1 ?_
  rw [rounds_succ]
  go_wp2_with fail
  go_ret
  exact ⟨rfl, rfl⟩

set_option maxRecDepth 100000 in
set_option maxHeartbeats 1000000 in
theorem homes_any (pb po : Nat) (va : Option Addr) (n cap : Nat) (W : World) (hn : 0 < n) (h7 : W.cell? ⟨pb, po + 7, none⟩ = some (.slice va n cap)) (h8 : W.cell? ⟨pb, po + 8, none⟩ = some (.bool false)) :
    Calls Ybaf.prog 25 #[.pointer (some ⟨pb, po, none⟩)] W fun e W' => e = .returned (.agg #[.slice va n cap, .bool false]) ∧ Below W.heap.size W W' := by
  have hn' : ((n : Int) == 0) = false := by rw [beq_eq_false_iff_ne]; omega
  have k7 := cell_alloc (o := .cells #[.slice none 0 0, .bool false] 108) h7
  have k8 := cell_alloc (o := .cells #[.slice none 0 0, .bool false] 108) h8
  have hh := (MapKept.heap_alloc W (.cells #[.slice none 0 0, .bool false] 108)).1
  have hB : Hid _ := bal (o := .cells #[.slice none 0 0, .bool false] 108) (Below.refl _ W)
  clear h7 h8
  go_enter Ybaf.func25, Ybaf.ntmps25
  go_upto_region 1 with fail
  generalize W.alloc (.cells #[.slice none 0 0, .bool false] 108) = W1 at k7 k8 hh hB ⊢
  obtain ⟨B, hBe⟩ : ∃ B, B = W.heap.size := ⟨_, rfl⟩
  rw [← hBe] at hh ⊢
  have HBe : Hid _ := hBe
  clear hBe
  have t0 : W1.cell? ⟨B, 0, none⟩ = some (.slice none 0 0) := cell_of hh rfl
  have t1 : W1.cell? ⟨B, 1, none⟩ = some (.bool false) := cell_of hh rfl
  have z0 : W1.frozen? ⟨B, 0, none⟩ = false := fz_of hh
  have z1 : W1.frozen? ⟨B, 1, none⟩ = false := fz_of hh
  clear hh
  go_wp2_with fail
  exact bodyPost_ret (v := .agg #[.slice va n cap, .bool false]) (by simp [results, Ybaf.results25, go_sem, t0, t1]) rfl ⟨rfl, (hB.out.setCell (p := ⟨B, 0, none⟩) (by rw [HBe.out]; exact Nat.le_refl _) _).setCell (p := ⟨B, 1, none⟩) (by rw [HBe.out]; exact Nat.le_refl _) _⟩
end Go.Proofs.YbulkcuegFmt
