import Derived.Test.YbulkcuegRows
import Derived.WalkKit
import Derived.WalkSpells
import Derived.WalkLawsBesides
import Derived.Laws.EntriesVeiled
import Derived.RegionTactic
import Derived.Deep.QuietTactic
import Derived.BigQuiet
import Derived.Deep.DeepCutAuto
import Derived.Deep.CutBlock
import Derived.LaidEql
import Derived.Deep.RegionHeld3
namespace Go.Proofs.Ybulkcueg
open Go.RowKit

theorem cell_alloc {w : World} {a : Addr} {o : Obj} {v : Value} (h : w.cell? a = some v) : (w.alloc o).cell? a = some v := by
  rw [World.cell?_alloc_some w a o (by rw [h]; rfl)]; exact h
theorem cell_drew {w : World} {a : Addr} {v : Value} (h : w.cell? a = some v) : w.drew.cell? a = some v := h
theorem cell_set {w : World} {a p : Addr} {u v : Value} (h : w.cell? a = some v) (hp : a.block ≠ p.block) : (w.setCell p u).cell? a = some v := by
  rw [World.cell?_of_block (w := w) (Below.heap_setCell w p u a.block hp)]; exact h

theorem bal {w W : World} {o : Obj} (h : Below w.heap.size w W) : Below w.heap.size w (W.alloc o) := h.alloc h.size o

/-- the digits of the three networks -/
def dig (p : Int) : ByteArray := if p % 3 = 0 then ⟨#[50, 48, 56, 48, 49]⟩ else if p % 3 = 1 then ⟨#[50, 48, 56, 49, 48]⟩ else ⟨#[51, 49, 48, 50, 54, 48]⟩


set_option maxRecDepth 100000 in
set_option maxHeartbeats 400000 in
theorem plmn_any (p : Int) (w : World) (h0 : 0 ≤ p) (h1 : p ≤ 255) :
    Calls Yba.prog 7 #[.int .u8 p] w fun e w' => e = .returned (.agg #[.string (dig p)]) ∧ w.alloc (.cells #[.string (dig p)] 31) = w' := by
  have hd0 : (p % 3 == 0) = true → (⟨#[50, 48, 56, 48, 49]⟩ : ByteArray) = dig p := fun h => by
    unfold dig; rw [if_pos (by simpa using h)]
  have hd1 : (p % 3 == 0) = false → (p % 3 == 1) = true → (⟨#[50, 48, 56, 49, 48]⟩ : ByteArray) = dig p := fun h h' => by
    unfold dig; rw [if_neg (by simpa using h), if_pos (by simpa using h')]
  have hd2 : (p % 3 == 0) = false → (p % 3 == 1) = false → (⟨#[51, 49, 48, 50, 54, 48]⟩ : ByteArray) = dig p := fun h h' => by
    unfold dig; rw [if_neg (by simpa using h), if_neg (by simpa using h')]
  have H0 : Hid _ := hd0
  have H1 : Hid _ := hd1
  have H2 : Hid _ := hd2
  clear hd0 hd1 hd2
  cases e0 : (p % 3 == 0)
  · cases e1 : (p % 3 == 1)
    · go_enter Yba.func7, Yba.ntmps7
      go_wp2_with fail
      rw [H2.out e0 e1]
      exact bodyPost_ret (v := .agg #[.string (dig p)]) (by simp [results, Yba.results7, go_sem]) rfl ⟨rfl, rfl⟩
    · go_enter Yba.func7, Yba.ntmps7
      go_wp2_with fail
      rw [H1.out e0 e1]
      exact bodyPost_ret (v := .agg #[.string (dig p)]) (by simp [results, Yba.results7, go_sem]) rfl ⟨rfl, rfl⟩
  · go_enter Yba.func7, Yba.ntmps7
    go_wp2_with fail
    rw [H0.out e0]
    exact bodyPost_ret (v := .agg #[.string (dig p)]) (by simp [results, Yba.results7, go_sem]) rfl ⟨rfl, rfl⟩

set_option maxRecDepth 100000 in
set_option maxHeartbeats 400000 in
theorem comb_any (p a : Int) (w : World) (h0 : 0 ≤ p) (h1 : p ≤ 255) (a0 : 0 ≤ a) (a1 : a ≤ 255) :
    Calls Yba.prog 4 #[.int .u8 p, .int .u8 a] w fun e w' => e = .returned (.agg #[.string (dig p), .int .u16 (a % 3)]) ∧ (w.alloc (.cells #[.string (dig p), .int .u16 (a % 3)] 34)).alloc (.cells #[.string (dig p)] 31) = w' := by
  have hp := fun w => plmn_any p w h0 h1
  go_enter Yba.func4, Yba.ntmps4
  go_wp2_with fail
  refine (hp _).mono ?_
  rintro e w1 ⟨rfl, rfl⟩
  go_wp2_with fail
  exact bodyPost_ret (v := .agg #[.string (dig p), .int .u16 (a % 3)]) (by simp [results, Yba.results4, go_sem]) rfl ⟨rfl, rfl⟩

/-- the reason of a candidate -/
def rule (us : Bool) : Int := if us then 8 else 2
def entry (us : Bool) (n : Int) : Int := if us then 0 else n

set_option maxRecDepth 100000 in
set_option maxHeartbeats 400000 in
theorem ranked_any (p a : Int) (us fo : Bool) (n : Int) (w : World) (h0 : 0 ≤ p) (h1 : p ≤ 255) (a0 : 0 ≤ a) (a1 : a ≤ 255) :
    Calls Yba.prog 5 #[.agg #[.int .u8 p, .int .u8 a, .bool us, .bool fo, .int .i64 n]] w fun e w' => e = .returned (.agg #[.string (dig p), .int .u16 (a % 3), .int .u8 (rule us), .int .u8 0, .int .i64 (entry us n), .bool fo]) ∧ Below w.heap.size w w' := by
  have hp := fun w => comb_any p a w h0 h1 a0 a1
  go_enter Yba.func5, Yba.ntmps5
  go_wp2_with fail
  generalize hW : (w.alloc (.cells #[.int .u8 p, .int .u8 a, .bool us, .bool fo, .int .i64 n] 25)).alloc (.cells #[.string ⟨#[]⟩, .int .u16 0, .int .u8 0, .int .u8 0, .int .i64 0, .bool false] 47) = W
  have c0 : W.cell? ⟨w.heap.size, 0, none⟩ = some (.int .u8 p) := by rw [← hW]; simp [go_sem]
  have c1 : W.cell? ⟨w.heap.size, 1, none⟩ = some (.int .u8 a) := by rw [← hW]; simp [go_sem]
  have c2 : W.cell? ⟨w.heap.size, 2, none⟩ = some (.bool us) := by rw [← hW]; simp [go_sem]
  have c3 : W.cell? ⟨w.heap.size, 3, none⟩ = some (.bool fo) := by rw [← hW]; simp [go_sem]
  have c4 : W.cell? ⟨w.heap.size, 4, none⟩ = some (.int .i64 n) := by rw [← hW]; simp [go_sem]
  have hB : Below w.heap.size w W := by rw [← hW]; exact ((Below.refl _ _).alloc (Nat.le_refl _) _).alloc (by simp) _
  have hz : w.heap.size + 2 = W.heap.size := by rw [← hW]; simp
  have HW : Hid ((w.alloc (.cells #[.int .u8 p, .int .u8 a, .bool us, .bool fo, .int .i64 n] 25)).alloc (.cells #[.string ⟨#[]⟩, .int .u16 0, .int .u8 0, .int .u8 0, .int .i64 0, .bool false] 47) = W) := hW
  clear hW
  go_region_held3 (fun w' => w'.cell? ⟨w.heap.size, 0, none⟩ = some (.int .u8 p) ∧ w'.cell? ⟨w.heap.size, 1, none⟩ = some (.int .u8 a) ∧ w'.cell? ⟨w.heap.size, 3, none⟩ = some (.bool fo)) ((repeat' apply And.intro) <;> (repeat (first | assumption | refine cell_drew ?_ | refine cell_alloc ?_ | (refine cell_set ?_ (by simp; omega)))))
    (first | (go_at_call 4; refine (hp _).mono ?_; rintro e w1 ⟨rfl, rfl⟩))
  all_goals clear c0 c1 c2 c3 c4 hp
  all_goals rename_i hHeld
  all_goals clear hHeld hB hz
  all_goals obtain rfl := HW.out
  all_goals cases us
  all_goals go_wp2_with fail
  · exact bodyPost_ret (v := .agg #[.string (dig p), .int .u16 (a % 3), .int .u8 2, .int .u8 0, .int .i64 n, .bool fo]) (by simp [results, Yba.results5, go_sem]) rfl ⟨rfl, Below.drew (bal (bal (bal (bal (bal (Below.refl _ _))))))⟩
  · exact bodyPost_ret (v := .agg #[.string (dig p), .int .u16 (a % 3), .int .u8 8, .int .u8 0, .int .i64 0, .bool fo]) (by simp [results, Yba.results5, go_sem]) rfl ⟨rfl, Below.drew (bal (bal (bal (bal (bal (Below.refl _ _))))))⟩
  · exact bodyPost_ret (v := .agg #[.string (dig p), .int .u16 (a % 3), .int .u8 2, .int .u8 0, .int .i64 n, .bool fo]) (by simp [results, Yba.results5, go_sem]) rfl ⟨rfl, Below.drew (bal (bal (bal (bal (bal (Below.refl _ _))))))⟩
  · exact bodyPost_ret (v := .agg #[.string (dig p), .int .u16 (a % 3), .int .u8 8, .int .u8 0, .int .i64 0, .bool fo]) (by simp [results, Yba.results5, go_sem]) rfl ⟨rfl, Below.drew (bal (bal (bal (bal (bal (Below.refl _ _))))))⟩

/-! ### the comparison that the sort is handed -/
def cmpI (x y : Int) : Int := if x < y then -1 else if y < x then 1 else 0

set_option maxRecDepth 100000 in
set_option maxHeartbeats 400000 in
theorem nan_any (x : Int) (w : World) : Calls Yba.prog 23 #[.int .i64 x] w fun e w' => e = .returned (.bool false) ∧ w = w' := by
  go_enter Yba.func23, Yba.ntmps23
  go_wp2_with fail
  go_ret
  exact ⟨by simp, rfl⟩

set_option maxRecDepth 100000 in
set_option maxHeartbeats 400000 in
theorem compare_any (x y : Int) (w : World) : Calls Yba.prog 20 #[.int .i64 x, .int .i64 y] w fun e w' => e = .returned (.int .i64 (cmpI x y)) ∧ w = w' := by
  have hn1 := fun w => nan_any x w
  have hn2 := fun w => nan_any y w
  generalize hc : cmpI x y = c
  have HC : Hid (cmpI x y = c) := hc
  clear hc
  by_cases h1 : x < y
  · go_enter Yba.func20, Yba.ntmps20
    go_wp2_with fail
    refine (hn1 _).mono ?_
    rintro e w1 ⟨rfl, rfl⟩
    go_wp2_with fail
    refine (hn2 _).mono ?_
    rintro e w1 ⟨rfl, rfl⟩
    go_wp2_with fail
    go_ret
    exact ⟨by rw [← HC.out]; simp [cmpI, h1], rfl⟩
  · by_cases h2 : y < x
    · go_enter Yba.func20, Yba.ntmps20
      go_wp2_with fail
      refine (hn1 _).mono ?_
      rintro e w1 ⟨rfl, rfl⟩
      go_wp2_with fail
      refine (hn2 _).mono ?_
      rintro e w1 ⟨rfl, rfl⟩
      go_wp2_with fail
      go_ret
      exact ⟨by rw [← HC.out]; simp [cmpI, h1, h2], rfl⟩
    · go_enter Yba.func20, Yba.ntmps20
      go_wp2_with fail
      refine (hn1 _).mono ?_
      rintro e w1 ⟨rfl, rfl⟩
      go_wp2_with fail
      refine (hn2 _).mono ?_
      rintro e w1 ⟨rfl, rfl⟩
      go_wp2_with fail
      go_ret
      exact ⟨by rw [← HC.out, cmpI, if_neg (by omega), if_neg (by omega)]; rfl, rfl⟩
end Go.Proofs.Ybulkcueg
