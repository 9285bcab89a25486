import Derived.Test.YbulkcuegIxs
import Derived.BigRegion
namespace Go.Proofs.Ybulkcueg
open Go.RowKit Go.Maps

theorem look69 (s : ByteArray) (c : Int) (g : Bool) (w : World) : (Instr.lookup 69 (.map none) (.agg #[.string s, .int .u32 c, .bool g]) true).run Yba.prog w = .ok (.tuple #[.agg #[.bool false, .bool false], .bool false]) w := by kernel_rfl

set_option maxRecDepth 100000 in
set_option maxHeartbeats 1000000 in
theorem forb_any (dv : Nat) (s : ByteArray) (c : Int) (g : Bool) (w : World) (h : w.cell? ⟨dv, 46, none⟩ = some (.map none)) :
    Calls Yba.prog 11 #[.pointer (some ⟨dv, 0, none⟩), .agg #[.string s, .int .u32 c, .bool g]] w fun e w' => e = .returned (.bool false) ∧ Below w.heap.size w w' := by
  have hl := look69 s c g
  have h' : (w.alloc (.cells #[.string s, .int .u32 c, .bool g] 90)).cell? ⟨dv, 46, none⟩ = some (.map none) := cell_alloc h
  have b := bal (o := .cells #[.string s, .int .u32 c, .bool g] 90) (Below.refl _ w)
  have c0 : (w.alloc (.cells #[.string s, .int .u32 c, .bool g] 90)).cell? ⟨w.heap.size, 0, none⟩ = some (.string s) := by simp [go_sem]
  have c1 : (w.alloc (.cells #[.string s, .int .u32 c, .bool g] 90)).cell? ⟨w.heap.size, 1, none⟩ = some (.int .u32 c) := by simp [go_sem]
  have c2 : (w.alloc (.cells #[.string s, .int .u32 c, .bool g] 90)).cell? ⟨w.heap.size, 2, none⟩ = some (.bool g) := by simp [go_sem]
  go_enter Yba.func11, Yba.ntmps11
  go_upto_region 1 with fail
  generalize w.alloc (.cells #[.string s, .int .u32 c, .bool g] 90) = W at *
  have n0 := World.new_ne W _ c0
  have n1 := World.new_ne W _ h'
  go_region_held3 (fun w' => w'.cell? ⟨dv, 46, none⟩ = some (.map none) ∧ w'.cell? ⟨w.heap.size, 0, none⟩ = some (.string s) ∧ w'.cell? ⟨w.heap.size, 1, none⟩ = some (.int .u32 c) ∧ w'.cell? ⟨w.heap.size, 2, none⟩ = some (.bool g)) ((repeat' apply And.intro) <;> (repeat (first | assumption | refine cell_drew ?_ | refine cell_alloc ?_)))
    (fail)
  all_goals go_wp2_with fail
  all_goals go_ret
  all_goals exact ⟨rfl, (b.alloc b.size _).drew⟩

theorem eq85f (dv : Nat) (w : World) : (binOp .eql 85 (.func (.func 11) #[.pointer (some ⟨dv, 0, none⟩)] #[]) .nilFunc).run Yba.prog w = .ok (.bool false) w := by kernel_rfl
theorem eq85n (w : World) : (binOp .eql 85 .nilFunc .nilFunc).run Yba.prog w = .ok (.bool true) w := by kernel_rfl

theorem keepb {W W' : World} {p : Addr} {v : Value} (hb : Below W.heap.size W W') (h : W.cell? p = some v) : W'.cell? p = some v := (hb.cell (World.block_lt_of_cell? W p h)).trans h
theorem below_grown {W W' : World} {r : Option Nat} (h : Below W.heap.size W W') : W.grownBy W' r := ⟨h.os, h.tape, h.output, h.size, fun k hk _ => h.block k hk⟩
theorem below_drewN {W W' : World} {m : Nat} (h : Below W.heap.size W W') : Below W.heap.size W (W'.drewN m) := h.trans ⟨rfl, rfl, rfl, Nat.le_refl _, fun _ _ => rfl⟩

set_option maxRecDepth 100000 in
set_option maxHeartbeats 1000000 in
/-- no cell of the combination -/
theorem best_no (N cb n ccap ib db gb ob : Nat) (mp : Option Nat) (ks : List (Fin 9)) (bst : Nat → Int) (q : Fin 9) (fv : Value) (w : World) (I : Ix N w cb n ccap ib db gb ob mp ks bst) (hN : 0 < N) (hq : q ∉ ks) :
    Calls Yba.prog 13 #[.pointer (some ⟨ib, 0, none⟩), .agg #[.string (kd q), .int .u16 (ka q)], fv] w fun e w' => e = .returned (.tuple #[.int .i64 0, .bool false]) ∧ Below w.heap.size w w' := by
  have I1 := I.next (W' := w.alloc (.cells #[.string (kd q), .int .u16 (ka q)] 34)) (d := 0) (below_grown (bal (Below.refl _ _))) hN
  have hfd := fun W => find_any ib 1 db n mp ks q W
  have hpl : place ks q = -1 := by unfold place; rw [if_neg hq]
  rw [hpl] at hfd
  have b := bal (o := .cells #[.string (kd q), .int .u16 (ka q)] 34) (Below.refl _ w)
  have c0 : (w.alloc (.cells #[.string (kd q), .int .u16 (ka q)] 34)).cell? ⟨w.heap.size, 0, none⟩ = some (.string (kd q)) := by simp [go_sem]
  have c1 : (w.alloc (.cells #[.string (kd q), .int .u16 (ka q)] 34)).cell? ⟨w.heap.size, 1, none⟩ = some (.int .u16 (ka q)) := by simp [go_sem]
  go_enter Yba.func13, Yba.ntmps13
  go_upto_region 1 with fail
  generalize w.alloc (.cells #[.string (kd q), .int .u16 (ka q)] 34) = W at *
  have hM : Merged W.drew ib 1 db n mp ks := (I1.next (W' := W.drew) (d := 0) (below_grown ⟨rfl, rfl, rfl, Nat.le_refl _, fun _ _ => rfl⟩) hN).M
  go_region_held3 (fun w' => w'.cell? ⟨w.heap.size, 0, none⟩ = some (.string (kd q)) ∧ w'.cell? ⟨w.heap.size, 1, none⟩ = some (.int .u16 (ka q))) ((repeat' apply And.intro) <;> (repeat (first | assumption | exact c0 | exact c1 | refine cell_drew ?_ | refine cell_alloc ?_ | (show World.cell? (World.alloc _ _) _ = _))))
    (first | (go_at_call 15; refine (hfd _ hM).mono ?_; rintro e w1 ⟨rfl, m1, rfl⟩))
  go_wp2_with fail
  exact bodyPost_ret (v := .tuple #[.int .i64 0, .bool false]) (by simp [results, Yba.results13, go_sem]) rfl ⟨rfl, (b.alloc b.size _).trans ⟨rfl, rfl, rfl, Nat.le_refl _, fun _ _ => rfl⟩⟩

set_option maxRecDepth 100000 in
set_option maxHeartbeats 1000000 in
/-- a combination that has a cell -/
theorem best_yes (N cb n ccap ib db gb ob : Nat) (mp : Option Nat) (ks : List (Fin 9)) (bst : Nat → Int) (qf : Nat → Fin 9) (lv cd : Nat → Int) (kn : Nat → Bool) (q : Fin 9) (dv : Nat) (any : Bool) (b0 : Nat) (w : World) (I : Ix N w cb n ccap ib db gb ob mp ks bst) (hN : 0 < N) (hq : q ∈ ks)
    (S : Scan w cb n qf lv cd kn) (hb0 : b0 < n) (hbst : bst (ks.idxOf q) = (b0 : Int)) (hdv : w.cell? ⟨dv, 46, none⟩ = some (.map none)) (hcb : cb < w.heap.size) :
    Calls Yba.prog 13 #[.pointer (some ⟨ib, 0, none⟩), .agg #[.string (kd q), .int .u16 (ka q)], if any then .nilFunc else .func (.func 11) #[.pointer (some ⟨dv, 0, none⟩)] #[]] w fun e w' => e = .returned (.tuple #[.int .i64 b0, .bool true]) ∧ Below w.heap.size w w' := by
  have I1 := I.next (W' := w.alloc (.cells #[.string (kd q), .int .u16 (ka q)] 34)) (d := 0) (below_grown (bal (Below.refl _ _))) hN
  have hfd := fun W => find_any ib 1 db n mp ks q W
  have hml := List.idxOf_lt_length_of_mem hq
  have hpl : place ks q = ((ks.idxOf q : Nat) : Int) := by unfold place; rw [if_pos hq]
  rw [hpl] at hfd
  generalize ks.idxOf q = m at *
  have b := bal (o := .cells #[.string (kd q), .int .u16 (ka q)] 34) (Below.refl _ w)
  have c0 : (w.alloc (.cells #[.string (kd q), .int .u16 (ka q)] 34)).cell? ⟨w.heap.size, 0, none⟩ = some (.string (kd q)) := by simp [go_sem]
  have c1 : (w.alloc (.cells #[.string (kd q), .int .u16 (ka q)] 34)).cell? ⟨w.heap.size, 1, none⟩ = some (.int .u16 (ka q)) := by simp [go_sem]
  generalize hfv : (if any then Value.nilFunc else .func (.func 11) #[.pointer (some ⟨dv, 0, none⟩)] #[]) = fv
  have HFV : Hid ((if any then Value.nilFunc else .func (.func 11) #[.pointer (some ⟨dv, 0, none⟩)] #[]) = fv) := hfv
  clear hfv
  go_enter Yba.func13, Yba.ntmps13
  go_upto_region 1 with fail
  generalize w.alloc (.cells #[.string (kd q), .int .u16 (ka q)] 34) = W at *
  have hM : Merged W.drew ib 1 db n mp ks := (I1.next (W' := W.drew) (d := 0) (below_grown ⟨rfl, rfl, rfl, Nat.le_refl _, fun _ _ => rfl⟩) hN).M
  go_region_held3 (fun w' => w'.cell? ⟨w.heap.size, 0, none⟩ = some (.string (kd q)) ∧ w'.cell? ⟨w.heap.size, 1, none⟩ = some (.int .u16 (ka q))) ((repeat' apply And.intro) <;> (repeat (first | assumption | exact c0 | exact c1 | refine cell_drew ?_ | refine cell_alloc ?_ | (show World.cell? (World.alloc _ _) _ = _))))
    (first | (go_at_call 15; refine (hfd _ hM).mono ?_; rintro e w1 ⟨rfl, m1, rfl⟩))
  rename_i hHeld
  have b2 : Below w.heap.size w ((W.alloc (.cells #[.string (kd q), .int .u16 (ka q)] 34)).drewN (1 + m1)) := (b.alloc b.size _).trans ⟨rfl, rfl, rfl, Nat.le_refl _, fun _ _ => rfl⟩
  have I2 := I.next (d := 0) (below_grown b2) hN
  have S2 : Scan ((W.alloc (.cells #[.string (kd q), .int .u16 (ka q)] 34)).drewN (1 + m1)) cb n qf lv cd kn := S.of_block (b2.block cb hcb)
  have d2 := (b2.cell (p := ⟨dv, 46, none⟩) (World.block_lt_of_cell? w _ hdv)).trans hdv
  generalize (W.alloc (.cells #[.string (kd q), .int .u16 (ka q)] 34)).drewN (1 + m1) = W2 at *
  obtain ⟨e0, e1⟩ := hHeld
  clear hfd hM c0 c1 I1 I S
  obtain ⟨so, len, cap, hlen, g0, o0⟩ := I2.cl m hml
  rw [hbst] at o0
  have g1 := I2.ps m hml
  have i3 := I2.i3
  have i0 := I2.i0
  have hml' : (m : Int) < (ks.length : Int) := by omega
  have hlen' : (0 : Int) < (len : Int) := by omega
  have h85 := eq85f dv
  have h85n := eq85n
  cases any
  · have hfv := HFV.out
    simp only [Bool.false_eq_true, if_false] at hfv
    subst hfv
    have s4 := S2.s4 b0 hb0
    have s5 := S2.s5 b0 hb0
    have hb0' : (b0 : Int) < (n : Int) := by omega
    have hfb := fun (W : World) (h : W.cell? ⟨dv, 46, none⟩ = some (.map none)) => forb_any dv (kd q) (cd b0) (kn b0) W h
    generalize cd b0 = cdb at *
    generalize kn b0 = knb at *
    have hdt : decide ((0 : Int) < (len : Int)) = true := by simp [hlen]
    clear S2
    go_wp2_with fail
    refine wp_loop_rounds 1 ?_
    rw [rounds_succ]
    go_wp2_with fail
    go_region_held3 (fun w' => w'.cell? ⟨gb, m * 2, none⟩ = some (.slice (some ⟨ob, so, none⟩) len cap) ∧ w'.cell? ⟨gb, m * 2 + 1, none⟩ = some (.int .i64 0) ∧ w'.cell? ⟨ob, so, none⟩ = some (.int .i64 b0) ∧ w'.cell? ⟨ib, 0, none⟩ = some (.slice (some ⟨cb, 0, none⟩) n ccap) ∧ w'.cell? ⟨cb, b0 * 6 + 4, none⟩ = some (.int .u32 cdb) ∧ w'.cell? ⟨cb, b0 * 6 + 5, none⟩ = some (.bool knb) ∧ w'.cell? ⟨w.heap.size, 0, none⟩ = some (.string (kd q)))
      ((repeat' apply And.intro) <;> (first | assumption | exact cell_drew (by assumption) | exact keepb hb3 (cell_drew (by assumption))))
      (first | (go_at_call 11; refine (hfb _ (cell_drew d2)).mono ?_; rintro e w3 ⟨rfl, hb3⟩))
    rename_i hHeld
    obtain ⟨y0, y1, y2, _, _, _, _⟩ := hHeld
    have b3 : Below w.heap.size w w3 := b2.trans ⟨hb3.os, hb3.tape, hb3.output, hb3.size, fun k hk => hb3.block k (Nat.lt_of_lt_of_le hk b2.size)⟩
    have hq0 : ((0 : Int) == (len : Int)) = false := by rw [beq_eq_false_iff_ne]; omega
    clear hfb hb3 g0 g1 o0
    go_wp2_with fail
    go_quiet (fail)
    go_wp2_with fail
    go_quiet (fail)
    go_wp2_with fail
    exact bodyPost_ret (v := .tuple #[.int .i64 b0, .bool true]) (by simp [results, Yba.results13, go_sem]) rfl ⟨rfl, b3.trans ⟨rfl, rfl, rfl, Nat.le_refl _, fun _ _ => rfl⟩⟩
  · have hfv := HFV.out
    simp only [if_true] at hfv
    subst hfv
    go_wp2_with fail
    exact bodyPost_ret (v := .tuple #[.int .i64 b0, .bool true]) (by simp [results, Yba.results13, go_sem]) rfl ⟨rfl, b2⟩
end Go.Proofs.Ybulkcueg
