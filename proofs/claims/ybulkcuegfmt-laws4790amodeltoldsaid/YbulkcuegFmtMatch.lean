import Derived.Test.YbulkcuegFmtSmall
namespace Go.Proofs.YbulkcuegFmt
open Go.RowKit

set_option maxRecDepth 100000 in
set_option maxHeartbeats 1000000 in
theorem matches_0 (W : World) : Calls Ybaf.prog 48 #[.agg #[.string ⟨#[48, 48, 49, 48, 49]⟩], .agg #[.string ⟨#[]⟩], .bool false] W fun e W' => e = .returned (.bool false) ∧ Below W.heap.size W W' := by
  have hB : Hid _ := bal (o := .cells #[.string ⟨#[]⟩] 29) (bal (o := .cells #[.string ⟨#[48, 48, 49, 48, 49]⟩] 29) (Below.refl _ W))
  go_enter Ybaf.func48, Ybaf.ntmps48
  go_wp2_with fail
  go_ret
  exact ⟨rfl, hB.out⟩
set_option maxRecDepth 100000 in
set_option maxHeartbeats 1000000 in
theorem matches_1 (W : World) : Calls Ybaf.prog 48 #[.agg #[.string ⟨#[48, 48, 49, 48, 49]⟩], .agg #[.string ⟨#[48, 48, 49, 48, 49]⟩], .bool false] W fun e W' => e = .returned (.bool true) ∧ Below W.heap.size W W' := by
  have hB0 := bal (o := .cells #[.string ⟨#[48, 48, 49, 48, 49]⟩] 29) (bal (o := .cells #[.string ⟨#[48, 48, 49, 48, 49]⟩] 29) (Below.refl _ W))
  have a0 : ((W.alloc (.cells #[.string ⟨#[48, 48, 49, 48, 49]⟩] 29)).alloc (.cells #[.string ⟨#[48, 48, 49, 48, 49]⟩] 29)).cell? ⟨W.heap.size, 0, none⟩ = some (.string ⟨#[48, 48, 49, 48, 49]⟩) := by simp [go_sem]
  have b0 : ((W.alloc (.cells #[.string ⟨#[48, 48, 49, 48, 49]⟩] 29)).alloc (.cells #[.string ⟨#[48, 48, 49, 48, 49]⟩] 29)).cell? ⟨W.heap.size + 1, 0, none⟩ = some (.string ⟨#[48, 48, 49, 48, 49]⟩) := by simp [go_sem]
  have e0 : (⟨#[48, 48, 49, 48, 49]⟩ : ByteArray).extract 0 3 = ⟨#[48, 48, 49]⟩ := by kernel_rfl
  have e1 : (⟨#[48, 48, 49, 48, 49]⟩ : ByteArray).extract 3 5 = ⟨#[48, 49]⟩ := by kernel_rfl
  have e2 : (⟨#[48, 49]⟩ : ByteArray).extract 0 2 = ⟨#[48, 49]⟩ := by kernel_rfl
  have hB : Hid _ := hB0
  clear hB0
  go_enter Ybaf.func48, Ybaf.ntmps48
  go_upto_region 3 with fail
  generalize (W.alloc (.cells #[.string ⟨#[48, 48, 49, 48, 49]⟩] 29)).alloc (.cells #[.string ⟨#[48, 48, 49, 48, 49]⟩] 29) = W1 at a0 b0 hB ⊢
  go_quiet (fail)
  go_wp2_with fail
  go_ret
  exact ⟨rfl, hB.out.trans ((drewN_below _ _).mono hB.out.size)⟩
set_option maxRecDepth 100000 in
set_option maxHeartbeats 1000000 in
theorem matches_2 (W : World) : Calls Ybaf.prog 48 #[.agg #[.string ⟨#[48, 48, 49, 48, 49]⟩], .agg #[.string ⟨#[48, 48, 49, 48, 50]⟩], .bool false] W fun e W' => e = .returned (.bool false) ∧ Below W.heap.size W W' := by
  have hB0 := bal (o := .cells #[.string ⟨#[48, 48, 49, 48, 50]⟩] 29) (bal (o := .cells #[.string ⟨#[48, 48, 49, 48, 49]⟩] 29) (Below.refl _ W))
  have a0 : ((W.alloc (.cells #[.string ⟨#[48, 48, 49, 48, 49]⟩] 29)).alloc (.cells #[.string ⟨#[48, 48, 49, 48, 50]⟩] 29)).cell? ⟨W.heap.size, 0, none⟩ = some (.string ⟨#[48, 48, 49, 48, 49]⟩) := by simp [go_sem]
  have b0 : ((W.alloc (.cells #[.string ⟨#[48, 48, 49, 48, 49]⟩] 29)).alloc (.cells #[.string ⟨#[48, 48, 49, 48, 50]⟩] 29)).cell? ⟨W.heap.size + 1, 0, none⟩ = some (.string ⟨#[48, 48, 49, 48, 50]⟩) := by simp [go_sem]
  have e0 : (⟨#[48, 48, 49, 48, 49]⟩ : ByteArray).extract 0 3 = ⟨#[48, 48, 49]⟩ := by kernel_rfl
  have e1 : (⟨#[48, 48, 49, 48, 49]⟩ : ByteArray).extract 3 5 = ⟨#[48, 49]⟩ := by kernel_rfl
  have e2 : (⟨#[48, 48, 49, 48, 50]⟩ : ByteArray).extract 0 3 = ⟨#[48, 48, 49]⟩ := by kernel_rfl
  have e3 : (⟨#[48, 48, 49, 48, 50]⟩ : ByteArray).extract 3 5 = ⟨#[48, 50]⟩ := by kernel_rfl
  have e4 : (⟨#[48, 49]⟩ : ByteArray).extract 0 2 = ⟨#[48, 49]⟩ := by kernel_rfl
  have hB : Hid _ := hB0
  clear hB0
  go_enter Ybaf.func48, Ybaf.ntmps48
  go_upto_region 3 with fail
  generalize (W.alloc (.cells #[.string ⟨#[48, 48, 49, 48, 49]⟩] 29)).alloc (.cells #[.string ⟨#[48, 48, 49, 48, 50]⟩] 29) = W1 at a0 b0 hB ⊢
  go_quiet (fail)
  go_wp2_with fail
  go_ret
  exact ⟨rfl, hB.out.trans ((drewN_below _ _).mono hB.out.size)⟩
set_option maxRecDepth 100000 in
set_option maxHeartbeats 1000000 in
theorem matches_3 (W : World) : Calls Ybaf.prog 48 #[.agg #[.string ⟨#[48, 48, 49, 48, 49]⟩], .agg #[.string ⟨#[48, 48, 50, 48, 49]⟩], .bool false] W fun e W' => e = .returned (.bool false) ∧ Below W.heap.size W W' := by
  have hB0 := bal (o := .cells #[.string ⟨#[48, 48, 50, 48, 49]⟩] 29) (bal (o := .cells #[.string ⟨#[48, 48, 49, 48, 49]⟩] 29) (Below.refl _ W))
  have a0 : ((W.alloc (.cells #[.string ⟨#[48, 48, 49, 48, 49]⟩] 29)).alloc (.cells #[.string ⟨#[48, 48, 50, 48, 49]⟩] 29)).cell? ⟨W.heap.size, 0, none⟩ = some (.string ⟨#[48, 48, 49, 48, 49]⟩) := by simp [go_sem]
  have b0 : ((W.alloc (.cells #[.string ⟨#[48, 48, 49, 48, 49]⟩] 29)).alloc (.cells #[.string ⟨#[48, 48, 50, 48, 49]⟩] 29)).cell? ⟨W.heap.size + 1, 0, none⟩ = some (.string ⟨#[48, 48, 50, 48, 49]⟩) := by simp [go_sem]
  have e0 : (⟨#[48, 48, 49, 48, 49]⟩ : ByteArray).extract 0 3 = ⟨#[48, 48, 49]⟩ := by kernel_rfl
  have e1 : (⟨#[48, 48, 49, 48, 49]⟩ : ByteArray).extract 3 5 = ⟨#[48, 49]⟩ := by kernel_rfl
  have e2 : (⟨#[48, 48, 50, 48, 49]⟩ : ByteArray).extract 0 3 = ⟨#[48, 48, 50]⟩ := by kernel_rfl
  have e3 : (⟨#[48, 48, 50, 48, 49]⟩ : ByteArray).extract 3 5 = ⟨#[48, 49]⟩ := by kernel_rfl
  have e4 : (⟨#[48, 49]⟩ : ByteArray).extract 0 2 = ⟨#[48, 49]⟩ := by kernel_rfl
  have hB : Hid _ := hB0
  clear hB0
  go_enter Ybaf.func48, Ybaf.ntmps48
  go_upto_region 3 with fail
  generalize (W.alloc (.cells #[.string ⟨#[48, 48, 49, 48, 49]⟩] 29)).alloc (.cells #[.string ⟨#[48, 48, 50, 48, 49]⟩] 29) = W1 at a0 b0 hB ⊢
  go_quiet (fail)
  go_wp2_with fail
  go_ret
  exact ⟨rfl, hB.out.trans ((drewN_below _ _).mono hB.out.size)⟩
set_option maxRecDepth 100000 in
set_option maxHeartbeats 1000000 in
theorem matches_4 (W : World) : Calls Ybaf.prog 48 #[.agg #[.string ⟨#[48, 48, 49, 48, 49]⟩], .agg #[.string ⟨#[51, 49, 48, 50, 54, 48]⟩], .bool false] W fun e W' => e = .returned (.bool false) ∧ Below W.heap.size W W' := by
  have hB0 := bal (o := .cells #[.string ⟨#[51, 49, 48, 50, 54, 48]⟩] 29) (bal (o := .cells #[.string ⟨#[48, 48, 49, 48, 49]⟩] 29) (Below.refl _ W))
  have a0 : ((W.alloc (.cells #[.string ⟨#[48, 48, 49, 48, 49]⟩] 29)).alloc (.cells #[.string ⟨#[51, 49, 48, 50, 54, 48]⟩] 29)).cell? ⟨W.heap.size, 0, none⟩ = some (.string ⟨#[48, 48, 49, 48, 49]⟩) := by simp [go_sem]
  have b0 : ((W.alloc (.cells #[.string ⟨#[48, 48, 49, 48, 49]⟩] 29)).alloc (.cells #[.string ⟨#[51, 49, 48, 50, 54, 48]⟩] 29)).cell? ⟨W.heap.size + 1, 0, none⟩ = some (.string ⟨#[51, 49, 48, 50, 54, 48]⟩) := by simp [go_sem]
  have e0 : (⟨#[48, 48, 49, 48, 49]⟩ : ByteArray).extract 0 3 = ⟨#[48, 48, 49]⟩ := by kernel_rfl
  have e1 : (⟨#[48, 48, 49, 48, 49]⟩ : ByteArray).extract 3 5 = ⟨#[48, 49]⟩ := by kernel_rfl
  have e2 : (⟨#[51, 49, 48, 50, 54, 48]⟩ : ByteArray).extract 0 3 = ⟨#[51, 49, 48]⟩ := by kernel_rfl
  have e3 : (⟨#[51, 49, 48, 50, 54, 48]⟩ : ByteArray).extract 3 6 = ⟨#[50, 54, 48]⟩ := by kernel_rfl
  have e4 : (⟨#[48, 49]⟩ : ByteArray).extract 0 2 = ⟨#[48, 49]⟩ := by kernel_rfl
  have hB : Hid _ := hB0
  clear hB0
  go_enter Ybaf.func48, Ybaf.ntmps48
  go_upto_region 3 with fail
  generalize (W.alloc (.cells #[.string ⟨#[48, 48, 49, 48, 49]⟩] 29)).alloc (.cells #[.string ⟨#[51, 49, 48, 50, 54, 48]⟩] 29) = W1 at a0 b0 hB ⊢
  go_quiet (fail)
  go_wp2_with fail
  go_ret
  exact ⟨rfl, hB.out.trans ((drewN_below _ _).mono hB.out.size)⟩

/-- the home network matches itself alone -/
theorem matches_any (d : Fin 5) (W : World) : Calls Ybaf.prog 48 #[.agg #[.string (dig 1)], .agg #[.string (dig d.val)], .bool false] W fun e W' => e = .returned (.bool (decide (d = 1))) ∧ Below W.heap.size W W' := by
  rcases d with ⟨_ | _ | _ | _ | _ | d, h⟩
  · exact matches_0 W
  · exact matches_1 W
  · exact matches_2 W
  · exact matches_3 W
  · exact matches_4 W
  · omega
end Go.Proofs.YbulkcuegFmt
