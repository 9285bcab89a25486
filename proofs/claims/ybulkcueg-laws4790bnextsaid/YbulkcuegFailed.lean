import Derived.Test.YbulkcuegCell
namespace Go.Proofs.Ybulkcueg
open Go.RowKit Go.Maps

set_option maxRecDepth 100000 in
set_option maxHeartbeats 1000000 in
/-- Device.failed where a fallback is noted already -/
theorem failed_has (dv : Nat) (q : Fin 9) (w : World) (h42 : w.cell? ⟨dv, 42, none⟩ = some (.bool true)) :
    Calls Yba.prog 9 #[.pointer (some ⟨dv, 0, none⟩), .agg #[.string (kd q), .int .u16 (ka q)], .agg #[.int .u8 12, .int .u8 0, .int .i64 0]] w fun e w' => e = .returned (.tuple #[]) ∧ Below w.heap.size w w' := by
  have hb : Below w.heap.size w ((w.alloc (.cells #[.string (kd q), .int .u16 (ka q)] 34)).alloc (.cells #[.int .u8 12, .int .u8 0, .int .i64 0] 45)) := bal (bal (Below.refl _ _))
  have h := keepb hb h42
  go_enter Yba.func9, Yba.ntmps9
  go_wp2_with fail
  go_end0
  exact ⟨rfl, hb⟩

set_option maxRecDepth 100000 in
set_option maxHeartbeats 1000000 in
/-- Device.failed, the first time -/
theorem failed_new (dv : Nat) (q : Fin 9) (w : World) (dc : Array Value) (hd : w.heap[dv]? = some (.cells dc 71 (0, 0))) (hs : dc.size = 47) (h42 : dc[42]? = some (.bool false)) :
    Calls Yba.prog 9 #[.pointer (some ⟨dv, 0, none⟩), .agg #[.string (kd q), .int .u16 (ka q)], .agg #[.int .u8 12, .int .u8 0, .int .i64 0]] w fun e w' => e = .returned (.tuple #[]) ∧ ∃ w1, Below w.heap.size w w1 ∧
      (((((w1.setCell ⟨dv, 37, none⟩ (.string (kd q))).setCell ⟨dv, 38, none⟩ (.int .u16 (ka q))).setCell ⟨dv, 39, none⟩ (.int .u8 12)).setCell ⟨dv, 40, none⟩ (.int .u8 0)).setCell ⟨dv, 41, none⟩ (.int .i64 0)).setCell ⟨dv, 42, none⟩ (.bool true) = w' := by
  have hb : Below w.heap.size w ((w.alloc (.cells #[.string (kd q), .int .u16 (ka q)] 34)).alloc (.cells #[.int .u8 12, .int .u8 0, .int .i64 0] 45)) := bal (bal (Below.refl _ _))
  have hd1 := (hb.block dv (lt_of_heap hd)).trans hd
  have ex : ∀ k, k < 47 → ∃ v, dc[k]? = some v := fun k hk => ⟨dc[k]'(by omega), by simp [show k < dc.size by omega]⟩
  obtain ⟨v37, e37⟩ := ex 37 (by omega)
  obtain ⟨v38, e38⟩ := ex 38 (by omega)
  obtain ⟨v39, e39⟩ := ex 39 (by omega)
  obtain ⟨v40, e40⟩ := ex 40 (by omega)
  obtain ⟨v41, e41⟩ := ex 41 (by omega)
  have c0 : ((w.alloc (.cells #[.string (kd q), .int .u16 (ka q)] 34)).alloc (.cells #[.int .u8 12, .int .u8 0, .int .i64 0] 45)).cell? ⟨w.heap.size, 0, none⟩ = some (.string (kd q)) := by simp [go_sem]
  have c1 : ((w.alloc (.cells #[.string (kd q), .int .u16 (ka q)] 34)).alloc (.cells #[.int .u8 12, .int .u8 0, .int .i64 0] 45)).cell? ⟨w.heap.size, 1, none⟩ = some (.int .u16 (ka q)) := by simp [go_sem]
  have d0 : ((w.alloc (.cells #[.string (kd q), .int .u16 (ka q)] 34)).alloc (.cells #[.int .u8 12, .int .u8 0, .int .i64 0] 45)).cell? ⟨w.heap.size + 1, 0, none⟩ = some (.int .u8 12) := by simp [go_sem]
  have d1 : ((w.alloc (.cells #[.string (kd q), .int .u16 (ka q)] 34)).alloc (.cells #[.int .u8 12, .int .u8 0, .int .i64 0] 45)).cell? ⟨w.heap.size + 1, 1, none⟩ = some (.int .u8 0) := by simp [go_sem]
  have d2 : ((w.alloc (.cells #[.string (kd q), .int .u16 (ka q)] 34)).alloc (.cells #[.int .u8 12, .int .u8 0, .int .i64 0] 45)).cell? ⟨w.heap.size + 1, 2, none⟩ = some (.int .i64 0) := by simp [go_sem]
  go_enter Yba.func9, Yba.ntmps9
  go_upto_region 1 with fail
  generalize (w.alloc (.cells #[.string (kd q), .int .u16 (ka q)] 34)).alloc (.cells #[.int .u8 12, .int .u8 0, .int .i64 0] 45) = W at *
  have x37 : W.cell? ⟨dv, 37, none⟩ = some v37 := cell_of hd1 e37
  have x38 : W.cell? ⟨dv, 38, none⟩ = some v38 := cell_of hd1 e38
  have x39 : W.cell? ⟨dv, 39, none⟩ = some v39 := cell_of hd1 e39
  have x40 : W.cell? ⟨dv, 40, none⟩ = some v40 := cell_of hd1 e40
  have x41 : W.cell? ⟨dv, 41, none⟩ = some v41 := cell_of hd1 e41
  have x42 : W.cell? ⟨dv, 42, none⟩ = some (.bool false) := cell_of hd1 h42
  have y37 : W.frozen? ⟨dv, 37, none⟩ = false := fz_of hd1
  have y38 : W.frozen? ⟨dv, 38, none⟩ = false := fz_of hd1
  have y39 : W.frozen? ⟨dv, 39, none⟩ = false := fz_of hd1
  have y40 : W.frozen? ⟨dv, 40, none⟩ = false := fz_of hd1
  have y41 : W.frozen? ⟨dv, 41, none⟩ = false := fz_of hd1
  have y42 : W.frozen? ⟨dv, 42, none⟩ = false := fz_of hd1
  clear hd hd1 ex e37 e38 e39 e40 e41 h42
  go_wp2_with fail
  go_end0
  exact ⟨rfl, W, hb, rfl⟩
end Go.Proofs.Ybulkcueg
