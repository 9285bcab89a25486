import Derived.Test.YbulkcudeWait
import Derived.Laws.EntriesVeiled
namespace Go.Proofs.Ybulkcude
open Go.RowKit

theorem load64 (a : Nat) (off : Nat) (x : Int) (w : World) (hc : w.cell? ⟨a, off, none⟩ = some (.int .i64 x)) :
    Calls Yba.prog 11 #[.pointer (some ⟨a, off, none⟩)] w fun e w' => e = .returned (.int .i64 x) ∧ w = w' := by
  have hl := run_call_load (P := Yba.prog) Yba.func21 (by kernel_rfl) (by kernel_rfl) (by kernel_rfl) .i64 (by kernel_rfl) hc
  go_enter Yba.func11, Yba.ntmps11
  go_wp2
  go_ret
  exact ⟨rfl, rfl⟩

theorem load32 (a : Nat) (off : Nat) (x : Int) (w : World) (hc : w.cell? ⟨a, off, none⟩ = some (.int .i32 x)) :
    Calls Yba.prog 12 #[.pointer (some ⟨a, off, none⟩)] w fun e w' => e = .returned (.int .i32 x) ∧ w = w' := by
  have hl := run_call_load (P := Yba.prog) Yba.func22 (by kernel_rfl) (by kernel_rfl) (by kernel_rfl) .i32 (by kernel_rfl) hc
  go_enter Yba.func12, Yba.ntmps12
  go_wp2
  go_ret
  exact ⟨rfl, rfl⟩

theorem add64 (a : Nat) (off : Nat) (x : Int) (h0 : 0 ≤ x) (h1 : x < 1000) (w : World) (hc : w.cell? ⟨a, off, none⟩ = some (.int .i64 x)) (hz : w.frozen? ⟨a, off, none⟩ = false) :
    Calls Yba.prog 8 #[.pointer (some ⟨a, off, none⟩), .int .i64 1] w fun e w' => e = .returned (.int .i64 (x+1)) ∧ w.setCell ⟨a, off, none⟩ (.int .i64 (x+1)) = w' := by
  have hl := run_call_add (P := Yba.prog) Yba.func17 (by kernel_rfl) (by kernel_rfl) (by kernel_rfl) .i64 (by kernel_rfl) (y := 1) (s := x + 1) hc hz (by simp [go_sem, IntKind.wrap_i64]; omega)
  go_enter Yba.func8, Yba.ntmps8
  go_wp2
  go_ret
  exact ⟨rfl, rfl⟩

theorem store32 (a : Nat) (off : Nat) (u : Value) (y : Int) (w : World) (hc : w.cell? ⟨a, off, none⟩ = some u) (hz : w.frozen? ⟨a, off, none⟩ = false) :
    Calls Yba.prog 9 #[.pointer (some ⟨a, off, none⟩), .int .i32 y] w fun e w' => e = .returned (.tuple #[]) ∧ w.setCell ⟨a, off, none⟩ (.int .i32 y) = w' := by
  have hl := run_call_store (P := Yba.prog) Yba.func18 (by kernel_rfl) (by kernel_rfl) (by kernel_rfl) (by kernel_rfl) (k := .i32) (y := y) hc hz
  go_enter Yba.func9, Yba.ntmps9
  go_wp2
  go_end0
  exact ⟨rfl, rfl⟩

theorem cas_hit (a : Nat) (off : Nat) (x y : Int) (w : World) (hc : w.cell? ⟨a, off, none⟩ = some (.int .i32 x)) (hz : w.frozen? ⟨a, off, none⟩ = false) :
    Calls Yba.prog 19 #[.pointer (some ⟨a, off, none⟩), .int .i32 x, .int .i32 y] w fun e w' => e = .returned (.bool true) ∧ w.setCell ⟨a, off, none⟩ (.int .i32 y) = w' := by
  have hl := run_call_cas_hit (P := Yba.prog) Yba.func27 (by kernel_rfl) (by kernel_rfl) (by kernel_rfl) .i32 (by kernel_rfl) (y := y) hc hz
  go_enter Yba.func19, Yba.ntmps19
  go_wp2
  go_ret
  exact ⟨rfl, rfl⟩

theorem cas_miss (a : Nat) (off : Nat) (x o y : Int) (hne : ¬ x = o) (w : World) (hc : w.cell? ⟨a, off, none⟩ = some (.int .i32 x)) (hz : w.frozen? ⟨a, off, none⟩ = false) :
    Calls Yba.prog 19 #[.pointer (some ⟨a, off, none⟩), .int .i32 o, .int .i32 y] w fun e w' => e = .returned (.bool false) ∧ w = w' := by
  have hl := run_call_cas_miss (P := Yba.prog) Yba.func27 (by kernel_rfl) (by kernel_rfl) (by kernel_rfl) .i32 (by kernel_rfl) (y := y) hc hz hne
  go_enter Yba.func19, Yba.ntmps19
  go_wp2
  go_ret
  exact ⟨rfl, rfl⟩

theorem mk1 (w : World) : (Instr.makeChan 45 (.int .i64 1)).run Yba.prog w = .ok (.chan (some w.heap.size)) (w.alloc (.chan 1 #[] false 0 0 false)) := by kernel_rfl
theorem chan_nil (c : Nat) (w : World) : (binOp .eql 45 (.chan (some c)) (.chan none)).run Yba.prog w = .ok (.bool false) w := by kernel_rfl
theorem chan_nil_nil (w : World) : (binOp .eql 45 (.chan none) (.chan none)).run Yba.prog w = .ok (.bool true) w := by kernel_rfl

theorem resum_nil (tb : Nat) (w : World) (hc : w.cell? ⟨tb, 4, none⟩ = some (.chan none)) (hz : w.frozen? ⟨tb, 4, none⟩ = false) (hb : tb < w.heap.size) :
    Calls Yba.prog 20 #[.pointer (some ⟨tb, 0, none⟩)] w fun e w' => e = .returned (.tuple #[]) ∧ (w.setCell ⟨tb, 4, none⟩ (.chan (some w.heap.size))).alloc (.chan 1 #[] false 0 0 false) = w' := by
  have hm := mk1
  have hn := chan_nil_nil
  go_enter Yba.func20, Yba.ntmps20
  go_wp2
  go_end0
  exact ⟨rfl, rfl⟩

theorem resum_set (tb c : Nat) (w : World) (hc : w.cell? ⟨tb, 4, none⟩ = some (.chan (some c))) :
    Calls Yba.prog 20 #[.pointer (some ⟨tb, 0, none⟩)] w fun e w' => e = .returned (.tuple #[]) ∧ w = w' := by
  have hn := chan_nil
  go_enter Yba.func20, Yba.ntmps20
  go_wp2
  go_end0
  exact ⟨rfl, rfl⟩


set_option maxRecDepth 100000 in
theorem park_woken (tb sb : Nat) (w : World) (hc : w.cell? ⟨tb, 3, none⟩ = some (.int .i32 1)) (hz : w.frozen? ⟨tb, 3, none⟩ = false) :
    Calls Yba.prog 10 #[.pointer (some ⟨tb, 0, none⟩), .pointer (some ⟨sb, 0, none⟩)] w fun e w' => e = .returned (.bool false) ∧ w.setCell ⟨tb, 3, none⟩ (.int .i32 0) = w' := by
  go_enter Yba.func10, Yba.ntmps10
  go_wp2_with fail
  refine wp_loop_rounds 1 ?_
  rw [rounds_succ]
  go_wp2_with fail
  refine (cas_hit tb 3 1 0 _ hc hz).mono ?_
  rintro e w' ⟨rfl, rfl⟩
  go_wp2_with fail
  go_ret
  exact ⟨rfl, rfl⟩

set_option maxRecDepth 100000 in
set_option maxHeartbeats 400000 in
theorem park_nil (tb sb : Nat) (x : Int) (h0 : 0 ≤ x) (h1 : x < 1000) (w : World) (hb : tb < w.heap.size) (hsb : sb < w.heap.size) (hc : w.cell? ⟨tb, 3, none⟩ = some (.int .i32 0)) (hr : w.cell? ⟨tb, 4, none⟩ = some (.chan none)) (hx : w.cell? ⟨sb, 178, none⟩ = some (.int .i64 x))
    (hz : ∀ o, w.frozen? ⟨tb, o, none⟩ = false) (hzs : ∀ o, w.frozen? ⟨sb, o, none⟩ = false) :
    Calls Yba.prog 10 #[.pointer (some ⟨tb, 0, none⟩), .pointer (some ⟨sb, 0, none⟩)] w fun e w' => e = .returned (.bool true) ∧ (((w.setCell ⟨tb, 4, none⟩ (.chan (some w.heap.size))).setCell ⟨sb, 178, none⟩ (.int .i64 (x + 1))).setCell ⟨tb, 3, none⟩ (.int .i32 2)).alloc (.chan 1 #[] false 0 0 false) = w' := by
  go_enter Yba.func10, Yba.ntmps10
  go_wp2_with fail
  refine wp_loop_rounds 1 ?_
  rw [rounds_succ]
  go_wp2_with fail
  refine (cas_miss tb 3 0 1 0 (by omega) _ hc (hz _)).mono ?_
  rintro e w' ⟨rfl, rfl⟩
  go_wp2_with fail
  refine (resum_nil tb w hr (hz _) hb).mono ?_
  rintro e w' ⟨rfl, rfl⟩
  have c1 : ((w.setCell ⟨tb, 4, none⟩ (.chan (some w.heap.size))).alloc (.chan 1 #[] false 0 0 false)).cell? ⟨sb, 178, none⟩ = some (.int .i64 x) := by
    rw [World.cell?_alloc_past _ _ _ (by simpa using hsb), World.cell?_setCell_other _ _ _ _ (by simp)]; exact hx
  have c2 : ((w.setCell ⟨tb, 4, none⟩ (.chan (some w.heap.size))).alloc (.chan 1 #[] false 0 0 false)).frozen? ⟨sb, 178, none⟩ = false := by
    rw [World.frozen?_alloc_past _ _ _ (by simpa using hsb), World.frozen?_setCell]; exact hzs _
  go_wp2_with fail
  refine (add64 sb 178 x h0 h1 _ c1 c2).mono ?_
  rintro e w' ⟨rfl, rfl⟩
  go_wp2_with fail
  have c3 : (((w.setCell ⟨tb, 4, none⟩ (.chan (some w.heap.size))).setCell ⟨sb, 178, none⟩ (.int .i64 (x + 1))).alloc (.chan 1 #[] false 0 0 false)).cell? ⟨tb, 3, none⟩ = some (.int .i32 0) := by
    rw [World.cell?_alloc_past _ _ _ (by simpa using hb), World.cell?_setCell_other _ _ _ _ (by simp), World.cell?_setCell_other _ _ _ _ (by simp)]; exact hc
  have c4 : (((w.setCell ⟨tb, 4, none⟩ (.chan (some w.heap.size))).setCell ⟨sb, 178, none⟩ (.int .i64 (x + 1))).alloc (.chan 1 #[] false 0 0 false)).frozen? ⟨tb, 3, none⟩ = false := by
    rw [World.frozen?_alloc_past _ _ _ (by simpa using hb), World.frozen?_setCell, World.frozen?_setCell]; exact hz _
  refine (cas_hit tb 3 0 2 _ c3 c4).mono ?_
  rintro e w' ⟨rfl, rfl⟩
  go_wp2_with fail
  go_ret
  exact ⟨rfl, rfl⟩

set_option maxRecDepth 100000 in
set_option maxHeartbeats 400000 in
theorem park_set (tb sb c : Nat) (x : Int) (h0 : 0 ≤ x) (h1 : x < 1000) (w : World) (hc : w.cell? ⟨tb, 3, none⟩ = some (.int .i32 0)) (hr : w.cell? ⟨tb, 4, none⟩ = some (.chan (some c))) (hx : w.cell? ⟨sb, 178, none⟩ = some (.int .i64 x))
    (hz : ∀ o, w.frozen? ⟨tb, o, none⟩ = false) (hzs : ∀ o, w.frozen? ⟨sb, o, none⟩ = false) :
    Calls Yba.prog 10 #[.pointer (some ⟨tb, 0, none⟩), .pointer (some ⟨sb, 0, none⟩)] w fun e w' => e = .returned (.bool true) ∧ (w.setCell ⟨sb, 178, none⟩ (.int .i64 (x + 1))).setCell ⟨tb, 3, none⟩ (.int .i32 2) = w' := by
  go_enter Yba.func10, Yba.ntmps10
  go_wp2_with fail
  refine wp_loop_rounds 1 ?_
  rw [rounds_succ]
  go_wp2_with fail
  refine (cas_miss tb 3 0 1 0 (by omega) _ hc (hz _)).mono ?_
  rintro e w' ⟨rfl, rfl⟩
  go_wp2_with fail
  refine (resum_set tb c w hr).mono ?_
  rintro e w' ⟨rfl, rfl⟩
  go_wp2_with fail
  refine (add64 sb 178 x h0 h1 _ hx (hzs _)).mono ?_
  rintro e w' ⟨rfl, rfl⟩
  go_wp2_with fail
  have c3 : (w.setCell ⟨sb, 178, none⟩ (.int .i64 (x + 1))).cell? ⟨tb, 3, none⟩ = some (.int .i32 0) := by
    rw [World.cell?_setCell_other _ _ _ _ (by simp)]; exact hc
  refine (cas_hit tb 3 0 2 _ c3 ((World.frozen?_setCell _ _ _ _).trans (hz _))).mono ?_
  rintro e w' ⟨rfl, rfl⟩
  go_wp2_with fail
  go_ret
  exact ⟨rfl, rfl⟩
end Go.Proofs.Ybulkcude
