import Derived.Test.YbulkcuegFmtMatch
namespace Go.Proofs.YbulkcuegFmt
open Go.RowKit

set_option maxRecDepth 100000 in
set_option maxHeartbeats 1000000 in
theorem pos1_any (d : Fin 5) (bb hb : Nat) (W : World) (h0 : W.cell? ⟨bb, 0, none⟩ = some (.string (dig d.val))) (h1 : W.cell? ⟨hb, 1, none⟩ = some (.bool false)) :
    Calls Ybaf.prog 47 #[.agg #[.string (dig 1)], .pointer (some ⟨bb, 0, none⟩), .pointer (some ⟨hb, 0, none⟩)] W fun e W' => e = .returned (.bool (decide (d = 1))) ∧ Below W.heap.size W W' := by
  have hm := fun w => matches_any d w
  have k0 := cell_alloc (o := .cells #[.string (dig 1)] 29) h0
  have k1 := cell_alloc (o := .cells #[.string (dig 1)] 29) h1
  have hh := (MapKept.heap_alloc W (.cells #[.string (dig 1)] 29)).1
  have hB : Hid _ := bal (o := .cells #[.string (dig 1)] 29) (Below.refl _ W)
  clear h0 h1
  go_enter Ybaf.func47, Ybaf.ntmps47
  go_upto_region 1 with fail
  generalize W.alloc (.cells #[.string (dig 1)] 29) = W1 at k0 k1 hh hB ⊢
  obtain ⟨B, hBe⟩ : ∃ B, B = W.heap.size := ⟨_, rfl⟩
  rw [← hBe] at hh ⊢
  clear hBe
  have t0 : W1.cell? ⟨B, 0, none⟩ = some (.string (dig 1)) := cell_of hh rfl
  clear hh
  go_wp2_with fail
  refine (hm _).mono ?_
  rintro e w1 ⟨rfl, hb1⟩
  go_wp2_with fail
  go_ret
  exact ⟨rfl, hB.out.trans (hb1.mono hB.out.size)⟩

set_option maxRecDepth 100000 in
set_option maxHeartbeats 1000000 in
theorem indexFunc_any (d : Fin 5) (b cap bb hb : Nat) (W : World) (hc : W.cell? ⟨b, 0, none⟩ = some (.string (dig 1))) (h0 : W.cell? ⟨bb, 0, none⟩ = some (.string (dig d.val))) (h1 : W.cell? ⟨hb, 1, none⟩ = some (.bool false)) :
    Calls Ybaf.prog 46 #[.slice (some ⟨b, 0, none⟩) 1 cap, .func (.func 47) #[] #[.pointer (some ⟨bb, 0, none⟩), .pointer (some ⟨hb, 0, none⟩)]] W fun e W' => e = .returned (.int .i64 (if d = 1 then 0 else -1)) ∧ Below W.heap.size W W' := by
  have hp := pos1_any d bb hb W h0 h1
  by_cases hd : d = 1
  · have hdt : decide (d = 1) = true := by simp [hd]
    rw [hdt] at hp
    rw [if_pos hd]
    clear hd hdt h0 h1
    go_enter Ybaf.func46, Ybaf.ntmps46
    go_wp2_with fail
    refine wp_loop_rounds 2 ?_
    rw [rounds_succ]
    go_wp2_with fail
    refine hp.mono ?_
    rintro e w1 ⟨rfl, hb1⟩
    have HB : Hid _ := hb1
    clear hb1 hp hc
    go_wp2_with fail
    go_ret
    exact ⟨rfl, HB.out⟩
  · have hdt : decide (d = 1) = false := by simp [hd]
    rw [hdt] at hp
    rw [if_neg hd]
    clear hd hdt h0 h1
    go_enter Ybaf.func46, Ybaf.ntmps46
    go_wp2_with fail
    refine wp_loop_rounds 2 ?_
    rw [rounds_succ]
    go_wp2_with fail
    refine hp.mono ?_
    rintro e w1 ⟨rfl, hb1⟩
    have HB : Hid _ := hb1
    clear hb1 hp hc
    go_wp2_with fail
    rw [rounds_succ]
    go_wp2_with fail
    go_ret
    exact ⟨rfl, HB.out⟩

set_option maxRecDepth 100000 in
set_option maxHeartbeats 1000000 in
theorem position_any (d : Fin 5) (b cap : Nat) (W : World) (hc : W.cell? ⟨b, 0, none⟩ = some (.string (dig 1))) :
    Calls Ybaf.prog 34 #[.agg #[.slice (some ⟨b, 0, none⟩) 1 cap, .bool false], .agg #[.string (dig d.val)]] W fun e W' => e = .returned (.int .i64 (if d = 1 then 1 else 0)) ∧ Below W.heap.size W W' := by
  have hB0 := bal (o := .cells #[.string (dig d.val)] 29) (bal (o := .cells #[.slice (some ⟨b, 0, none⟩) 1 cap, .bool false] 108) (Below.refl _ W))
  have kc := (hB0.cell (p := ⟨b, 0, none⟩) (lt_of_cell hc)).trans hc
  have k0 : ((W.alloc (.cells #[.slice (some ⟨b, 0, none⟩) 1 cap, .bool false] 108)).alloc (.cells #[.string (dig d.val)] 29)).cell? ⟨W.heap.size, 0, none⟩ = some (.slice (some ⟨b, 0, none⟩) 1 cap) := by simp [go_sem]
  have k1 : ((W.alloc (.cells #[.slice (some ⟨b, 0, none⟩) 1 cap, .bool false] 108)).alloc (.cells #[.string (dig d.val)] 29)).cell? ⟨W.heap.size, 1, none⟩ = some (.bool false) := by simp [go_sem]
  have k2 : ((W.alloc (.cells #[.slice (some ⟨b, 0, none⟩) 1 cap, .bool false] 108)).alloc (.cells #[.string (dig d.val)] 29)).cell? ⟨W.heap.size + 1, 0, none⟩ = some (.string (dig d.val)) := by simp [go_sem]
  have hi := indexFunc_any d b cap (W.heap.size + 1) W.heap.size _ kc k2 k1
  have HB : Hid _ := hB0
  clear hB0 hc
  by_cases hd : d = 1
  · rw [if_pos hd] at hi ⊢
    clear hd
    go_enter Ybaf.func34, Ybaf.ntmps34
    go_upto_region 1 with fail
    generalize (W.alloc (.cells #[.slice (some ⟨b, 0, none⟩) 1 cap, .bool false] 108)).alloc (.cells #[.string (dig d.val)] 29) = W1 at kc k0 k1 k2 hi HB ⊢
    go_wp2_with fail
    refine hi.mono ?_
    rintro e w1 ⟨rfl, hb1⟩
    have HF : Hid _ := HB.out.trans (hb1.mono HB.out.size)
    clear hb1 hi kc k0 k1 k2
    go_wp2_with fail
    go_ret
    exact ⟨rfl, HF.out⟩
  · rw [if_neg hd] at hi ⊢
    clear hd
    go_enter Ybaf.func34, Ybaf.ntmps34
    go_upto_region 1 with fail
    generalize (W.alloc (.cells #[.slice (some ⟨b, 0, none⟩) 1 cap, .bool false] 108)).alloc (.cells #[.string (dig d.val)] 29) = W1 at kc k0 k1 k2 hi HB ⊢
    go_wp2_with fail
    refine hi.mono ?_
    rintro e w1 ⟨rfl, hb1⟩
    have HF : Hid _ := HB.out.trans (hb1.mono HB.out.size)
    clear hb1 hi kc k0 k1 k2
    go_wp2_with fail
    go_ret
    exact ⟨rfl, HF.out⟩
end Go.Proofs.YbulkcuegFmt
