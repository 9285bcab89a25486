import Derived.Test.YbulkcuegFmtCm
import Derived.Shelf.SlSortCmp.NoneTotal
namespace Go.Proofs.YbulkcuegFmt
open Go.RowKit

/-- The comparison of two places of the scan: by group, then by decreasing level, then by place. -/
def cf {n : Nat} (of lv : Nat → Int) (i j : Fin n) : Int := orI (cmpI (of i) (of j)) (cmpI (lv j) (lv i)) (cmpI i j)

set_option maxRecDepth 100000 in
set_option maxHeartbeats 1000000 in
theorem closure_any (n : Nat) (of lv : Nat → Int) (i j : Fin n) (tb sb fb cb : Nat) (co : Nat) (fcap ccap : Nat) (W : World)
    (ht : W.cell? ⟨tb, 0, none⟩ = some (.slice (some ⟨fb, 0, none⟩) n fcap)) (hs : W.cell? ⟨sb, 0, none⟩ = some (.slice (some ⟨cb, co, none⟩) n ccap))
    (hf : ∀ k, k < n → W.cell? ⟨fb, k, none⟩ = some (.int .i64 (of k))) (hl : ∀ k, k < n → W.cell? ⟨cb, co + k * 6 + 3, none⟩ = some (.int .i64 (lv k))) :
    Calls Ybaf.prog 55 #[.int .i64 i, .int .i64 j, .pointer (some ⟨tb, 0, none⟩), .pointer (some ⟨sb, 0, none⟩)] W fun e w' => e = .returned (.int .i64 (cf of lv i j)) ∧ ∃ q os', w' = Go.Sort.grow (W.drewN q) os' := by
  obtain ⟨i, hi⟩ := i
  obtain ⟨j, hj⟩ := j
  have f1 := hf i hi
  have f2 := hf j hj
  have l1 := hl i hi
  have l2 := hl j hj
  have hi' : (i : Int) < (n : Int) := by omega
  have hj' : (j : Int) < (n : Int) := by omega
  unfold cf
  simp only
  have HF : Hid (∀ k, k < n → W.cell? ⟨fb, k, none⟩ = some (.int .i64 (of k))) := hf
  clear hf hl
  generalize of i = a1 at *
  generalize of j = a2 at *
  generalize lv i = b1 at *
  generalize lv j = b2 at *
  have k1 := fun w => compare_any a1 a2 w
  have k2 := fun w => compare_any b2 b1 w
  have k3 := fun w => compare_any i j w
  generalize cmpI a1 a2 = r1 at *
  generalize cmpI b2 b1 = r2 at *
  generalize cmpI (i : Int) j = r3 at *
  go_enter Ybaf.func55, Ybaf.ntmps55
  go_wp2_with fail
  have HO : Hid (∀ (b : Nat) (w : World), w.cell? ⟨b, 0, none⟩ = some (.int .i64 r1) → w.cell? ⟨b, 1, none⟩ = some (.int .i64 r2) → w.cell? ⟨b, 2, none⟩ = some (.int .i64 r3) →
    Calls Ybaf.prog 37 #[.slice (some ⟨b, 0, none⟩) 3 3] w fun e w' => e = .returned (.int .i64 (orI r1 r2 r3)) ∧ w = w') := fun b w => or_any b r1 r2 r3 w
  go_region_held3 (fun w' => w'.cell? ⟨tb, 0, none⟩ = some (.slice (some ⟨fb, 0, none⟩) n fcap) ∧ w'.cell? ⟨sb, 0, none⟩ = some (.slice (some ⟨cb, co, none⟩) n ccap) ∧ w'.cell? ⟨fb, i, none⟩ = some (.int .i64 a1) ∧ w'.cell? ⟨fb, j, none⟩ = some (.int .i64 a2) ∧ w'.cell? ⟨cb, co + i * 6 + 3, none⟩ = some (.int .i64 b1) ∧ w'.cell? ⟨cb, co + j * 6 + 3, none⟩ = some (.int .i64 b2)) ((repeat' apply And.intro) <;> (repeat (first | assumption | refine cell_drew ?_ | refine cell_alloc ?_)))
    (first
      | (go_at_call_of 40 a1; refine (k1 _).mono ?_; rintro e w1 ⟨rfl, rfl⟩)
      | (go_at_call_of 40 b1; refine (k2 _).mono ?_; rintro e w1 ⟨rfl, rfl⟩)
      | (go_at_call_of 40 (i : Int); refine (k3 _).mono ?_; rintro e w1 ⟨rfl, rfl⟩)
      | (go_at_call 37; refine (HO.out _ _ (by simp [go_sem]) (by simp [go_sem]) (by simp [go_sem])).mono ?_; rintro e w1 ⟨rfl, rfl⟩))
  go_wp2_with fail
  go_ret
  exact ⟨rfl, 1, #[.cells #[.int .i64 r1, .int .i64 r2, .int .i64 r3] 3], by rw [Go.Sort.alloc_eq_grow]; rfl⟩
end Go.Proofs.YbulkcuegFmt
