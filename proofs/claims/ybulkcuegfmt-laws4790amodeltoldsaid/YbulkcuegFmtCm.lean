import Derived.Test.YbulkcuegFmtStable
namespace Go.Proofs.YbulkcuegFmt
open Go.RowKit

theorem keepg {W w2 : World} {fb b o : Nat} {v : Value} (g : W.grownBy w2 (some fb)) (h : W.cell? ⟨b, o, none⟩ = some v) (hb : b < W.heap.size) (hne : b ≠ fb) : w2.cell? ⟨b, o, none⟩ = some v :=
  (World.cell?_of_block (w := W) (a := ⟨b, o, none⟩) (g.block b hb (by simpa using hne))).trans h

theorem lt_of_cell {w : World} {b o : Nat} {v : Value} (h : w.cell? ⟨b, o, none⟩ = some v) : b < w.heap.size := by
  refine Nat.lt_of_not_le fun hle => ?_
  unfold World.cell? at h
  rw [Array.getElem?_eq_none hle] at h
  cases h
theorem cmpI_neg (x y : Int) : cmpI x y < 0 ↔ x < y := by
  unfold cmpI
  by_cases h : x < y
  · simp [h]
  · rw [if_neg h]
    by_cases h2 : y < x
    · rw [if_pos h2]; omega
    · rw [if_neg h2]; omega

def orI (x y z : Int) : Int := if x ≠ 0 then x else if y ≠ 0 then y else z

set_option maxRecDepth 100000 in
set_option maxHeartbeats 400000 in
theorem or_any (b : Nat) (x y z : Int) (w : World) (h0 : w.cell? ⟨b, 0, none⟩ = some (.int .i64 x)) (h1 : w.cell? ⟨b, 1, none⟩ = some (.int .i64 y)) (h2 : w.cell? ⟨b, 2, none⟩ = some (.int .i64 z)) :
    Calls Ybaf.prog 37 #[.slice (some ⟨b, 0, none⟩) 3 3] w fun e w' => e = .returned (.int .i64 (orI x y z)) ∧ w = w' := by
  generalize hc : orI x y z = c
  have HC : Hid (orI x y z = c) := hc
  clear hc
  go_enter Ybaf.func37, Ybaf.ntmps37
  go_wp2_with fail
  go_loopw [8] (fun i wr => w = wr ∧ ∃ k : Nat, k ≤ 3 ∧ i = .int .i64 k ∧ (0 < k → x = 0) ∧ (1 < k → y = 0) ∧ (2 < k → z = 0)) (fun i _ => 3 - (intOf i).toNat)
  case atStart => exact ⟨rfl, 0, by omega, rfl, by omega, by omega, by omega⟩
  case round =>
    obtain ⟨rfl, k, hk, rfl, e0, e1, e2⟩ := hrel
    rcases k with _ | _ | _ | _ | k
    · by_cases hx : x = 0
      · have hxb : (x != 0) = false := by simp [hx]
        go_wp2_with fail
        go_roundw
        case rel => exact ⟨trivial, 1, by omega, by go_num, fun _ => hx, by omega, by omega⟩
        case measure => simp [intOf]
      · have hxb : (x != 0) = true := by simp [hx]
        go_wp2_with fail
        go_ret
        exact ⟨by rw [← HC.out, orI, if_pos hx]; rfl, rfl⟩
    · by_cases hx : y = 0
      · have hxb : (y != 0) = false := by simp [hx]
        go_wp2_with fail
        go_roundw
        case rel => exact ⟨trivial, 2, by omega, by go_num, fun _ => e0 (by omega), fun _ => hx, by omega⟩
        case measure => simp [intOf]
      · have hxb : (y != 0) = true := by simp [hx]
        go_wp2_with fail
        go_ret
        exact ⟨by rw [← HC.out, orI, if_neg (by simpa using e0 (by omega)), if_pos hx]; rfl, rfl⟩
    · by_cases hx : z = 0
      · have hxb : (z != 0) = false := by simp [hx]
        go_wp2_with fail
        go_roundw
        case rel => exact ⟨trivial, 3, by omega, by go_num, fun _ => e0 (by omega), fun _ => e1 (by omega), fun _ => hx⟩
        case measure => simp [intOf]
      · have hxb : (z != 0) = true := by simp [hx]
        go_wp2_with fail
        go_ret
        exact ⟨by rw [← HC.out, orI, if_neg (by simpa using e0 (by omega)), if_neg (by simpa using e1 (by omega))]; rfl, rfl⟩
    · go_wp2_with fail
      go_ret
      exact ⟨by rw [← HC.out, orI, if_neg (by simpa using e0 (by omega)), if_neg (by simpa using e1 (by omega)), e2 (by omega)]; rfl, rfl⟩
    · omega

set_option maxRecDepth 100000 in
set_option maxHeartbeats 400000 in
theorem or2_any (b : Nat) (y : Int) (w : World) (h0 : w.cell? ⟨b, 0, none⟩ = some (.int .i64 0)) (h1 : w.cell? ⟨b, 1, none⟩ = some (.int .i64 y)) :
    Calls Ybaf.prog 37 #[.slice (some ⟨b, 0, none⟩) 2 2] w fun e w' => e = .returned (.int .i64 y) ∧ w = w' := by
  go_enter Ybaf.func37, Ybaf.ntmps37
  go_wp2_with fail
  refine wp_loop_rounds 3 ?_
  rw [rounds_succ]
  have hx0 : ((0 : Int) != 0) = false := by simp
  go_wp2_with fail
  rw [rounds_succ]
  by_cases hy : y = 0
  · have hyb : (y != 0) = false := by simp [hy]
    go_wp2_with fail
    rw [rounds_succ]
    go_wp2_with fail
    go_ret
    exact ⟨by rw [hy]; rfl, rfl⟩
  · have hyb : (y != 0) = true := by simp [hy]
    go_wp2_with fail
    go_ret
    exact ⟨rfl, rfl⟩

set_option maxRecDepth 100000 in
set_option maxHeartbeats 1000000 in
theorem priority_any (b o : Nat) (r c e h : Int) (W : World) (c3 : W.cell? ⟨b, o + 3, none⟩ = some (.int .u8 r)) (c4 : W.cell? ⟨b, o + 4, none⟩ = some (.int .u8 c)) (c5 : W.cell? ⟨b, o + 5, none⟩ = some (.int .i64 e)) (c7 : W.cell? ⟨b, o + 7, none⟩ = some (.int .i64 h)) :
    Calls Ybaf.prog 38 #[.pointer (some ⟨b, o, none⟩)] W fun en W' => en = .returned (.agg #[.int .u8 r, .int .u8 c, .int .i64 e, .int .i64 h]) ∧ (((((W.alloc (.cells #[.int .u8 0, .int .u8 0, .int .i64 0, .int .i64 0] 146)).setCell ⟨W.heap.size, 0, none⟩ (.int .u8 r)).setCell ⟨W.heap.size, 1, none⟩ (.int .u8 c)).setCell ⟨W.heap.size, 2, none⟩ (.int .i64 e)).setCell ⟨W.heap.size, 3, none⟩ (.int .i64 h)).drew = W' := by
  have k3 := cell_alloc (o := .cells #[.int .u8 0, .int .u8 0, .int .i64 0, .int .i64 0] 146) c3
  have k4 := cell_alloc (o := .cells #[.int .u8 0, .int .u8 0, .int .i64 0, .int .i64 0] 146) c4
  have k5 := cell_alloc (o := .cells #[.int .u8 0, .int .u8 0, .int .i64 0, .int .i64 0] 146) c5
  have k7 := cell_alloc (o := .cells #[.int .u8 0, .int .u8 0, .int .i64 0, .int .i64 0] 146) c7
  have hh := (MapKept.heap_alloc W (.cells #[.int .u8 0, .int .u8 0, .int .i64 0, .int .i64 0] 146)).1
  go_enter Ybaf.func38, Ybaf.ntmps38
  go_wp2_with fail
  obtain ⟨W1, hW1⟩ : ∃ W1, W1 = W.alloc (.cells #[.int .u8 0, .int .u8 0, .int .i64 0, .int .i64 0] 146) := ⟨_, rfl⟩
  rw [← hW1] at k3 k4 k5 k7 hh ⊢
  have HW1 : Hid _ := hW1
  clear hW1
  clear c3 c4 c5 c7
  obtain ⟨B, hBe⟩ : ∃ B, B = W.heap.size := ⟨_, rfl⟩
  rw [← hBe] at hh ⊢
  have HBe : Hid _ := hBe
  clear hBe
  have t0 : W1.cell? ⟨B, 0, none⟩ = some (.int .u8 0) := cell_of hh rfl
  have t1 : W1.cell? ⟨B, 1, none⟩ = some (.int .u8 0) := cell_of hh rfl
  have t2 : W1.cell? ⟨B, 2, none⟩ = some (.int .i64 0) := cell_of hh rfl
  have t3 : W1.cell? ⟨B, 3, none⟩ = some (.int .i64 0) := cell_of hh rfl
  have z0 : W1.frozen? ⟨B, 0, none⟩ = false := fz_of hh
  have z1 : W1.frozen? ⟨B, 1, none⟩ = false := fz_of hh
  have z2 : W1.frozen? ⟨B, 2, none⟩ = false := fz_of hh
  have z3 : W1.frozen? ⟨B, 3, none⟩ = false := fz_of hh
  clear hh
  go_region
  all_goals go_wp2_with fail
  all_goals exact bodyPost_ret (v := .agg #[.int .u8 r, .int .u8 c, .int .i64 e, .int .i64 h]) (by simp [results, Ybaf.results38, go_sem, t0, t1, t2, t3]) rfl ⟨rfl, by rw [← HW1.out, ← HBe.out]⟩

set_option maxRecDepth 100000 in
set_option maxHeartbeats 1000000 in
theorem compare_same (r c e h : Int) (W : World) :
    Calls Ybaf.prog 39 #[.agg #[.int .u8 r, .int .u8 c, .int .i64 e, .int .i64 h], .agg #[.int .u8 r, .int .u8 c, .int .i64 e, .int .i64 h]] W fun en W' => en = .returned (.int .i64 0) ∧ (((W.alloc (.cells #[.int .u8 r, .int .u8 c, .int .i64 e, .int .i64 h] 146)).alloc (.cells #[.int .u8 r, .int .u8 c, .int .i64 e, .int .i64 h] 146)).alloc (.cells #[.int .i64 0, .int .i64 0, .int .i64 0] 3)).drew = W' := by
  have h1 := fun w => compare8_any r r w
  have h2 := fun w => compare_any e e w
  have h3 := fun w => compare_any h h w
  have hz : ∀ x, cmpI x x = 0 := fun x => by unfold cmpI; rw [if_neg (by omega), if_neg (by omega)]
  rw [hz] at h1 h2 h3
  clear hz
  go_enter Ybaf.func39, Ybaf.ntmps39
  go_wp2_with fail
  generalize hW : (W.alloc (.cells #[.int .u8 r, .int .u8 c, .int .i64 e, .int .i64 h] 146)).alloc (.cells #[.int .u8 r, .int .u8 c, .int .i64 e, .int .i64 h] 146) = W1
  have a0 : W1.cell? ⟨W.heap.size, 0, none⟩ = some (.int .u8 r) := by rw [← hW]; simp [go_sem]
  have a2 : W1.cell? ⟨W.heap.size, 2, none⟩ = some (.int .i64 e) := by rw [← hW]; simp [go_sem]
  have a3 : W1.cell? ⟨W.heap.size, 3, none⟩ = some (.int .i64 h) := by rw [← hW]; simp [go_sem]
  have b0 : W1.cell? ⟨W.heap.size + 1, 0, none⟩ = some (.int .u8 r) := by rw [← hW]; simp [go_sem]
  have b2 : W1.cell? ⟨W.heap.size + 1, 2, none⟩ = some (.int .i64 e) := by rw [← hW]; simp [go_sem]
  have b3 : W1.cell? ⟨W.heap.size + 1, 3, none⟩ = some (.int .i64 h) := by rw [← hW]; simp [go_sem]
  have HW : Hid _ := hW
  clear hW
  generalize W.heap.size + 1 = B2 at b0 b2 b3 ⊢
  obtain ⟨B1, hB1⟩ : ∃ B1, B1 = W.heap.size := ⟨_, rfl⟩
  rw [← hB1] at a0 a2 a3 ⊢
  clear hB1
  have HO : Hid (∀ (b : Nat) (w : World), w.cell? ⟨b, 0, none⟩ = some (.int .i64 0) → w.cell? ⟨b, 1, none⟩ = some (.int .i64 0) → w.cell? ⟨b, 2, none⟩ = some (.int .i64 0) →
    Calls Ybaf.prog 37 #[.slice (some ⟨b, 0, none⟩) 3 3] w fun e w' => e = .returned (.int .i64 0) ∧ w = w') := fun b w => or_any b 0 0 0 w
  go_region_held3 (fun w' => w'.cell? ⟨B1, 0, none⟩ = some (.int .u8 r) ∧ w'.cell? ⟨B1, 2, none⟩ = some (.int .i64 e) ∧ w'.cell? ⟨B1, 3, none⟩ = some (.int .i64 h) ∧ w'.cell? ⟨B2, 0, none⟩ = some (.int .u8 r) ∧ w'.cell? ⟨B2, 2, none⟩ = some (.int .i64 e) ∧ w'.cell? ⟨B2, 3, none⟩ = some (.int .i64 h))
    ((repeat' apply And.intro) <;> (repeat (first | assumption | refine cell_drew ?_ | refine cell_alloc ?_)))
    (first
      | (go_at_call 50; refine (h1 _).mono ?_; rintro en w1 ⟨rfl, rfl⟩)
      | (go_at_call_of 40 e; refine (h2 _).mono ?_; rintro en w1 ⟨rfl, rfl⟩)
      | (go_at_call_of 40 h; refine (h3 _).mono ?_; rintro en w1 ⟨rfl, rfl⟩)
      | (go_at_call 37; refine (HO.out _ _ (by simp [go_sem]) (by simp [go_sem]) (by simp [go_sem])).mono ?_; rintro en w1 ⟨rfl, rfl⟩))
  go_wp2_with fail
  go_ret
  exact ⟨rfl, by rw [HW.out]⟩

set_option maxRecDepth 100000 in
set_option maxHeartbeats 1000000 in
theorem rank2_any (rv rb n cap : Nat) (i j : Nat) (li lj : Int) (W : World) (hi : i < n) (hj : j < n)
    (c0 : W.cell? ⟨rv, 0, none⟩ = some (.slice (some ⟨rb, 0, none⟩) n cap)) (ci : W.cell? ⟨rb, i * 10 + 2, none⟩ = some (.int .i64 li)) (cj : W.cell? ⟨rb, j * 10 + 2, none⟩ = some (.int .i64 lj)) :
    Calls Ybaf.prog 42 #[.int .i64 i, .int .i64 j, .pointer (some ⟨rv, 0, none⟩)] W fun e W' => e = .returned (.int .i64 (cmpI lj li)) ∧ Below W.heap.size W W' := by
  have hc := fun w => compare_any lj li w
  have hi' : (i : Int) < (n : Int) := by omega
  have hj' : (j : Int) < (n : Int) := by omega
  go_enter Ybaf.func42, Ybaf.ntmps42
  go_wp2_with fail
  go_region_held3 (fun w' => w'.cell? ⟨rv, 0, none⟩ = some (.slice (some ⟨rb, 0, none⟩) n cap) ∧ w'.cell? ⟨rb, i * 10 + 2, none⟩ = some (.int .i64 li) ∧ w'.cell? ⟨rb, j * 10 + 2, none⟩ = some (.int .i64 lj))
    ((repeat' apply And.intro) <;> (first | assumption | exact cell_drew (by assumption)))
    (first | (go_at_call 40; refine (hc _).mono ?_; rintro e w3 ⟨rfl, rfl⟩))
  rename_i hHeld
  clear hHeld
  go_wp2_with fail
  go_ret
  exact ⟨rfl, Below.drew (Below.refl _ _)⟩

def S1 (W : World) (rb i j : Nat) (r c e h wi wj : Int) (w : World) : Prop := (w.cell? ⟨rb, i + 3, none⟩ = some (.int .u8 r) ∧ w.cell? ⟨rb, i + 4, none⟩ = some (.int .u8 c) ∧ w.cell? ⟨rb, i + 5, none⟩ = some (.int .i64 e) ∧ w.cell? ⟨rb, i + 6, none⟩ = some (.int .i64 wi) ∧ w.cell? ⟨rb, i + 7, none⟩ = some (.int .i64 h) ∧ w.cell? ⟨rb, j + 3, none⟩ = some (.int .u8 r) ∧ w.cell? ⟨rb, j + 4, none⟩ = some (.int .u8 c) ∧ w.cell? ⟨rb, j + 5, none⟩ = some (.int .i64 e) ∧ w.cell? ⟨rb, j + 6, none⟩ = some (.int .i64 wj) ∧ w.cell? ⟨rb, j + 7, none⟩ = some (.int .i64 h)) ∧ Below W.heap.size W w
theorem S1.below {W : World} {rb i j : Nat} {r c e h wi wj : Int} {w w' : World} (s : S1 W rb i j r c e h wi wj w) (hb : Below w.heap.size w w') : S1 W rb i j r c e h wi wj w' := by
  obtain ⟨⟨a3, a4, a5, a6, a7, b3, b4, b5, b6, b7⟩, hB⟩ := s
  have hl := lt_of_cell a3
  exact ⟨⟨keepb hb a3 hl, keepb hb a4 hl, keepb hb a5 hl, keepb hb a6 hl, keepb hb a7 hl, keepb hb b3 hl, keepb hb b4 hl, keepb hb b5 hl, keepb hb b6 hl, keepb hb b7 hl⟩, hB.trans (hb.mono hB.size)⟩

set_option maxRecDepth 100000 in
set_option maxHeartbeats 2000000 in
theorem rank1_any (rv rb n cap : Nat) (i j : Nat) (r c e h wi wj : Int) (W : World) (hi : i < n) (hj : j < n)
    (c0 : W.cell? ⟨rv, 0, none⟩ = some (.slice (some ⟨rb, 0, none⟩) n cap))
    (i3 : W.cell? ⟨rb, i * 10 + 3, none⟩ = some (.int .u8 r)) (i4 : W.cell? ⟨rb, i * 10 + 4, none⟩ = some (.int .u8 c)) (i5 : W.cell? ⟨rb, i * 10 + 5, none⟩ = some (.int .i64 e)) (i6 : W.cell? ⟨rb, i * 10 + 6, none⟩ = some (.int .i64 wi)) (i7 : W.cell? ⟨rb, i * 10 + 7, none⟩ = some (.int .i64 h))
    (j3 : W.cell? ⟨rb, j * 10 + 3, none⟩ = some (.int .u8 r)) (j4 : W.cell? ⟨rb, j * 10 + 4, none⟩ = some (.int .u8 c)) (j5 : W.cell? ⟨rb, j * 10 + 5, none⟩ = some (.int .i64 e)) (j6 : W.cell? ⟨rb, j * 10 + 6, none⟩ = some (.int .i64 wj)) (j7 : W.cell? ⟨rb, j * 10 + 7, none⟩ = some (.int .i64 h)) :
    Calls Ybaf.prog 36 #[.int .i64 i, .int .i64 j, .pointer (some ⟨rv, 0, none⟩)] W fun en W' => en = .returned (.int .i64 (cmpI wi wj)) ∧ Below W.heap.size W W' := by
  have hbl : rb < W.heap.size := lt_of_cell i3
  have hw := fun w => compare_any wi wj w
  generalize cmpI wi wj = z at hw ⊢
  have hi' : (i : Int) < (n : Int) := by omega
  have hj' : (j : Int) < (n : Int) := by omega
  clear hbl
  go_enter Ybaf.func36, Ybaf.ntmps36
  go_wp2_with fail
  go_quiet (fail)
  go_wp2_with fail
  have hS : S1 W rb (i * 10) (j * 10) r c e h wi wj (W.drewN nq) := ⟨⟨i3, i4, i5, i6, i7, j3, j4, j5, j6, j7⟩, drewN_below _ _⟩
  clear c0 i3 i4 i5 i6 i7 j3 j4 j5 j6 j7
  generalize W.drewN nq = W1 at hS ⊢
  clear hi' hj' hi hj
  generalize i * 10 = oi at hS ⊢
  generalize j * 10 = oj at hS ⊢
  have hpi : ∀ w, S1 W rb oi oj r c e h wi wj w → Calls Ybaf.prog 38 #[.pointer (some ⟨rb, oi, none⟩)] w fun en w' => en = .returned (.agg #[.int .u8 r, .int .u8 c, .int .i64 e, .int .i64 h]) ∧ S1 W rb oi oj r c e h wi wj w' := fun w s =>
    (priority_any rb (oi) r c e h w s.1.1 s.1.2.1 s.1.2.2.1 s.1.2.2.2.2.1).mono (fun en w' ⟨h1, h2⟩ => ⟨h1, s.below (by rw [← h2]; exact (Below.drew ((((Below.setCell (p := ⟨w.heap.size, 0, none⟩) (bal (Below.refl _ w)) (Nat.le_refl _) _).setCell (p := ⟨w.heap.size, 1, none⟩) (Nat.le_refl _) _).setCell (p := ⟨w.heap.size, 2, none⟩) (Nat.le_refl _) _).setCell (p := ⟨w.heap.size, 3, none⟩) (Nat.le_refl _) _)))⟩)
  have hpj : ∀ w, S1 W rb oi oj r c e h wi wj w → Calls Ybaf.prog 38 #[.pointer (some ⟨rb, oj, none⟩)] w fun en w' => en = .returned (.agg #[.int .u8 r, .int .u8 c, .int .i64 e, .int .i64 h]) ∧ S1 W rb oi oj r c e h wi wj w' := fun w s =>
    (priority_any rb (oj) r c e h w s.1.2.2.2.2.2.1 s.1.2.2.2.2.2.2.1 s.1.2.2.2.2.2.2.2.1 s.1.2.2.2.2.2.2.2.2.2).mono (fun en w' ⟨h1, h2⟩ => ⟨h1, s.below (by rw [← h2]; exact (Below.drew ((((Below.setCell (p := ⟨w.heap.size, 0, none⟩) (bal (Below.refl _ w)) (Nat.le_refl _) _).setCell (p := ⟨w.heap.size, 1, none⟩) (Nat.le_refl _) _).setCell (p := ⟨w.heap.size, 2, none⟩) (Nat.le_refl _) _).setCell (p := ⟨w.heap.size, 3, none⟩) (Nat.le_refl _) _)))⟩)
  have hcs : ∀ w, S1 W rb oi oj r c e h wi wj w → Calls Ybaf.prog 39 #[.agg #[.int .u8 r, .int .u8 c, .int .i64 e, .int .i64 h], .agg #[.int .u8 r, .int .u8 c, .int .i64 e, .int .i64 h]] w fun en w' => en = .returned (.int .i64 0) ∧ S1 W rb oi oj r c e h wi wj w' := fun w s =>
    (compare_same r c e h w).mono (fun en w' ⟨h1, h2⟩ => ⟨h1, s.below (by rw [← h2]; exact Below.drew (bal (bal (bal (Below.refl _ w)))))⟩)
  have HI : Hid _ := hpi
  have HJ : Hid _ := hpj
  have HC : Hid _ := hcs
  clear hpi hpj hcs
  obtain ⟨⟨i3, i4, i5, i6, i7, j3, j4, j5, j6, j7⟩, hB⟩ := hS
  have HO : Hid (∀ (b : Nat) (w : World), w.cell? ⟨b, 0, none⟩ = some (.int .i64 0) → w.cell? ⟨b, 1, none⟩ = some (.int .i64 z) →
    Calls Ybaf.prog 37 #[.slice (some ⟨b, 0, none⟩) 2 2] w fun e w' => e = .returned (.int .i64 z) ∧ w = w') := fun b w => or2_any b z w
  go_region_held3 (fun w' => w'.cell? ⟨rb, oi + 3, none⟩ = some (.int .u8 r) ∧ w'.cell? ⟨rb, oi + 4, none⟩ = some (.int .u8 c) ∧ w'.cell? ⟨rb, oi + 5, none⟩ = some (.int .i64 e) ∧ w'.cell? ⟨rb, oi + 6, none⟩ = some (.int .i64 wi) ∧ w'.cell? ⟨rb, oi + 7, none⟩ = some (.int .i64 h) ∧ w'.cell? ⟨rb, oj + 3, none⟩ = some (.int .u8 r) ∧ w'.cell? ⟨rb, oj + 4, none⟩ = some (.int .u8 c) ∧ w'.cell? ⟨rb, oj + 5, none⟩ = some (.int .i64 e) ∧ w'.cell? ⟨rb, oj + 6, none⟩ = some (.int .i64 wj) ∧ w'.cell? ⟨rb, oj + 7, none⟩ = some (.int .i64 h))
    ((repeat' apply And.intro) <;> (first | assumption | exact cell_drew (by assumption) | exact cell_alloc (by assumption)))
    (first
      | (go_at_call_of 38 oi; refine (HI.out W1.drew (by refine ⟨⟨?_, ?_, ?_, ?_, ?_, ?_, ?_, ?_, ?_, ?_⟩, ?_⟩ <;> first | assumption | exact cell_drew (by assumption) | exact Below.drew (by assumption))).mono ?_; rintro en w1 ⟨rfl, ⟨⟨i3, i4, i5, i6, i7, j3, j4, j5, j6, j7⟩, hB⟩⟩)
      | (go_at_call_of 38 oj; refine (HJ.out w1 (by refine ⟨⟨?_, ?_, ?_, ?_, ?_, ?_, ?_, ?_, ?_, ?_⟩, ?_⟩ <;> first | assumption | exact cell_drew (by assumption) | exact Below.drew (by assumption))).mono ?_; rintro en w1 ⟨rfl, ⟨⟨i3, i4, i5, i6, i7, j3, j4, j5, j6, j7⟩, hB⟩⟩)
      | (go_at_call 39; refine (HC.out w1 (by refine ⟨⟨?_, ?_, ?_, ?_, ?_, ?_, ?_, ?_, ?_, ?_⟩, ?_⟩ <;> first | assumption | exact cell_drew (by assumption) | exact Below.drew (by assumption))).mono ?_; rintro en w1 ⟨rfl, ⟨⟨i3, i4, i5, i6, i7, j3, j4, j5, j6, j7⟩, hB⟩⟩)
      | (go_at_call 40; refine (hw _).mono ?_; rintro en w2 ⟨rfl, rfl⟩)
      | (go_at_call 37; refine (HO.out _ _ (by simp [go_sem]) (by simp [go_sem])).mono ?_; rintro en w2 ⟨rfl, rfl⟩))
  rename_i hHeld
  clear hHeld
  go_wp2_with fail
  go_ret
  exact ⟨rfl, hB.alloc hB.size _⟩

/-- the order by decreasing level -/
theorem cm2 (W0 : World) (bl rv rb n cap : Nat) (lv : Nat → Int) (h0 : W0.cell? ⟨rv, 0, none⟩ = some (.slice (some ⟨rb, 0, none⟩) n cap)) (h1 : ∀ i, i < n → W0.cell? ⟨rb, i * 10 + 2, none⟩ = some (.int .i64 (lv i)))
    (l0 : rv < W0.heap.size) (l1 : rb < W0.heap.size) (n0 : rv ≠ bl) (n1 : rb ≠ bl) :
    Cm W0 bl 42 #[.pointer (some ⟨rv, 0, none⟩)] (fun x => - lv x.toNat) (fun x => ∃ i : Nat, x = i ∧ i < n) := by
  rintro W x y hg ⟨i, rfl, hi⟩ ⟨j, rfl, hj⟩
  refine (rank2_any rv rb n cap i j (lv i) (lv j) W hi hj (keepg hg h0 l0 n0) (keepg hg (h1 i hi) l1 n1) (keepg hg (h1 j hj) l1 n1)).mono ?_
  rintro e W' ⟨rfl, hb⟩
  exact ⟨_, rfl, by rw [cmpI_neg]; show _ ↔ - lv (i : Int).toNat < - lv (j : Int).toNat; simp, hb⟩

/-- the order by place within the home network -/
theorem cm1 (W0 : World) (bl rv rb n cap : Nat) (T : Nat → Prop) (r c e h : Int) (wt : Nat → Int) (h0 : W0.cell? ⟨rv, 0, none⟩ = some (.slice (some ⟨rb, 0, none⟩) n cap))
    (h3 : ∀ i, i < n → T i → W0.cell? ⟨rb, i * 10 + 3, none⟩ = some (.int .u8 r) ∧ W0.cell? ⟨rb, i * 10 + 4, none⟩ = some (.int .u8 c) ∧ W0.cell? ⟨rb, i * 10 + 5, none⟩ = some (.int .i64 e) ∧ W0.cell? ⟨rb, i * 10 + 6, none⟩ = some (.int .i64 (wt i)) ∧ W0.cell? ⟨rb, i * 10 + 7, none⟩ = some (.int .i64 h))
    (l0 : rv < W0.heap.size) (l1 : rb < W0.heap.size) (n0 : rv ≠ bl) (n1 : rb ≠ bl) :
    Cm W0 bl 36 #[.pointer (some ⟨rv, 0, none⟩)] (fun x => wt x.toNat) (fun x => ∃ i : Nat, x = i ∧ i < n ∧ T i) := by
  rintro W x y hg ⟨i, rfl, hi, ti⟩ ⟨j, rfl, hj, tj⟩
  obtain ⟨a3, a4, a5, a6, a7⟩ := h3 i hi ti
  obtain ⟨b3, b4, b5, b6, b7⟩ := h3 j hj tj
  refine (rank1_any rv rb n cap i j r c e h (wt i) (wt j) W hi hj (keepg hg h0 l0 n0) (keepg hg a3 l1 n1) (keepg hg a4 l1 n1) (keepg hg a5 l1 n1) (keepg hg a6 l1 n1) (keepg hg a7 l1 n1) (keepg hg b3 l1 n1) (keepg hg b4 l1 n1) (keepg hg b5 l1 n1) (keepg hg b6 l1 n1) (keepg hg b7 l1 n1)).mono ?_
  rintro en W' ⟨rfl, hb⟩
  exact ⟨_, rfl, by rw [cmpI_neg]; show _ ↔ wt (i : Int).toNat < wt (j : Int).toNat; simp, hb⟩
end Go.Proofs.YbulkcuegFmt
