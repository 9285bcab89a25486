import Derived.Test.YbulkcuegFmtNmap
import Derived.BigRegion
namespace Go.Proofs.YbulkcuegFmt
open Go.RowKit Go.Maps

theorem NMap.put {W : World} {mb n : Nat} {nb : Fin 5 → Option Nat} (h : NMap W mb nb n) (hn : n < 10000) (d : Fin 5) (b : Nat) :
    ∃ W', (Instr.mapUpdate 110 (.map (some mb)) (.agg #[.string (dig d.val)]) (.pointer (some ⟨b, 0, none⟩))).run Ybaf.prog W = .ok () W' ∧ NMap W' mb (fun x => if x = d then some b else nb x) (n + 1) ∧ W.grownBy W' (some mb) := by
  obtain ⟨D, h1, h2⟩ := h
  obtain ⟨W', hr, ho, hg⟩ := h1.update law29 Ybaf.underlying110 (by unfold maxLen; omega) (key29 d) (Rp_some b)
  refine ⟨W', hr, ⟨_, ho, fun x => ?_⟩, hg⟩
  by_cases e : x = d
  · subst e
    rw [atKey_put_same h1.isMap (kl5_key x)]
    simp only [if_true]
    rfl
  · rw [atKey_put_other (fun e' => e (kl5_inj e'))]
    simp only [e, if_false]
    exact h2 x

/-- a named network's cells: no place -/
abbrev nameC (t : Bool) : Array Value := #[.bool t, .int .u8 0, .int .u8 0, .int .i64 0, .int .i64 0, .int .u8 0, .int .u8 0, .int .i64 0, .int .i64 0, .int .u8 0, .int .u8 0, .int .i64 0, .int .i64 0, .int .u8 0, .int .u8 0, .int .i64 0, .int .i64 0, .int .u8 0, .int .u8 0, .int .i64 0, .int .i64 0, .int .u8 0, .int .u8 0, .int .i64 0, .int .i64 0, .int .u8 0, .int .u8 0, .int .i64 0, .int .i64 0, .int .u8 0, .int .u8 0, .int .i64 0, .int .i64 0, .int .u8 0, .int .u8 0, .int .i64 0, .int .i64 0]

set_option maxRecDepth 100000 in
set_option maxHeartbeats 1000000 in
theorem named_has (rb mb n b : Nat) (nb : Fin 5 → Option Nat) (d : Fin 5) (W : World) (hm : W.cell? ⟨rb, 21, none⟩ = some (.map (some mb))) (M : NMap W mb nb n) (hd : nb d = some b) :
    Calls Ybaf.prog 26 #[.pointer (some ⟨rb, 0, none⟩), .agg #[.string (dig d.val)]] W fun e W' => e = .returned (.pointer (some ⟨b, 0, none⟩)) ∧ Below W.heap.size W W' := by
  have hb0 := bal (o := .cells #[.string (dig d.val)] 29) (Below.refl _ W)
  have hh := (MapKept.heap_alloc W (.cells #[.string (dig d.val)] 29)).1
  have hm1 := cell_alloc (o := .cells #[.string (dig d.val)] 29) hm
  have M1 := M.below hb0
  clear hm M
  go_enter Ybaf.func26, Ybaf.ntmps26
  go_upto_region 1 with fail
  generalize W.alloc (.cells #[.string (dig d.val)] 29) = W1 at hb0 hh hm1 M1 ⊢
  have hbs := hb0.size
  obtain ⟨B, hB⟩ : ∃ B, B = W.heap.size := ⟨_, rfl⟩
  rw [← hB] at hh ⊢
  clear hB
  have k0 : W1.cell? ⟨B, 0, none⟩ = some (.string (dig d.val)) := cell_of hh rfl
  have hlk : ∀ m, (Instr.lookup 110 (.map (some mb)) (.agg #[.string (dig d.val)]) false).run Ybaf.prog (W1.drewN m) = .ok (.pointer (some ⟨b, 0, none⟩)) (W1.drewN m) := fun m => by
    have h := (NMap.of_block (W' := W1.drewN m) M1 rfl).look d
    rw [hd] at h
    exact h
  have HB : Hid _ := hb0
  clear hh M1 hb0
  go_wp2_with fail
  go_quiet (fail)
  go_wp2_with fail
  go_ret
  exact ⟨rfl, HB.out.trans ((drewN_below _ _).mono hbs)⟩

set_option maxRecDepth 100000 in
set_option maxHeartbeats 1000000 in
theorem named_none (rb mb n : Nat) (nb : Fin 5 → Option Nat) (d : Fin 5) (W : World) (hn : n < 10000) (hm : W.cell? ⟨rb, 21, none⟩ = some (.map (some mb))) (M : NMap W mb nb n) (hd : nb d = none) :
    Calls Ybaf.prog 26 #[.pointer (some ⟨rb, 0, none⟩), .agg #[.string (dig d.val)]] W fun e W' => ∃ b, W.heap.size ≤ b ∧ e = .returned (.pointer (some ⟨b, 0, none⟩)) ∧ W.grownBy W' (some mb) ∧ NMap W' mb (fun x => if x = d then some b else nb x) (n + 1) ∧ W'.heap[b]? = some (.cells (nameC false) 124 (0, 0)) := by
  have hb0 := bal (o := .cells #[.string (dig d.val)] 29) (Below.refl _ W)
  have hh := (MapKept.heap_alloc W (.cells #[.string (dig d.val)] 29)).1
  have hm1 := cell_alloc (o := .cells #[.string (dig d.val)] 29) hm
  have M1 := M.below hb0
  have hml := M.lt
  clear hm M
  go_enter Ybaf.func26, Ybaf.ntmps26
  go_upto_region 1 with fail
  generalize W.alloc (.cells #[.string (dig d.val)] 29) = W1 at hb0 hh hm1 M1 ⊢
  obtain ⟨B, hB⟩ : ∃ B, B = W.heap.size := ⟨_, rfl⟩
  rw [← hB] at hh ⊢
  have HBB : Hid _ := hB
  have hBl := lt_of_heap hh
  clear hB
  have k0 : W1.cell? ⟨B, 0, none⟩ = some (.string (dig d.val)) := cell_of hh rfl
  have hlk : ∀ m, (Instr.lookup 110 (.map (some mb)) (.agg #[.string (dig d.val)]) false).run Ybaf.prog (W1.drewN m) = .ok (.pointer none) (W1.drewN m) := fun m => by
    have h := (NMap.of_block (W' := W1.drewN m) M1 rfl).look d
    rw [hd] at h
    exact h
  have HB : Hid _ := hb0
  clear hh hb0
  have hbig : Below W1.heap.size W1 W1 := Below.refl _ _
  go_wp2_with fail
  go_quiet (fail)
  have MX := fun m => NMap.of_block (W' := W1.drewN m) M1 rfl
  have kX : (W1.drewN nq).cell? ⟨B, 0, none⟩ = some (.string (dig d.val)) := k0
  have mX : (W1.drewN nq).cell? ⟨rb, 21, none⟩ = some (.map (some mb)) := hm1
  have hX : W1.heap.size = (W1.drewN nq).heap.size := rfl
  have HX : Hid (Below W.heap.size W (W1.drewN nq)) := HB.out.trans ((drewN_below _ _).mono HB.out.size)
  have MX := MX nq
  clear hlk k0 hm1 M1 HB hbig
  go_upto_region 4 with fail
  generalize W1.drewN nq = W2 at kX mX hX HX MX ⊢
  have hb2 := bal (o := .cells (nameC false) 124) (Below.refl _ W2)
  have kY := cell_alloc (o := .cells (nameC false) 124) kX
  have mY := cell_alloc (o := .cells (nameC false) 124) mX
  have hh2 := (MapKept.heap_alloc W2 (.cells (nameC false) 124)).1
  obtain ⟨W4, hrun, M4, hg4⟩ := NMap.put (W := (W2.alloc (.cells (nameC false) 124)).drew) (NMap.of_block (MX.below hb2) rfl) hn d W2.heap.size
  generalize W2.alloc (.cells (nameC false) 124) = W3 at hb2 kY mY hh2 hrun hg4 ⊢
  have HF : Hid (W.grownBy W4 (some mb) ∧ W4.heap[W2.heap.size]? = some (.cells (nameC false) 124 (0, 0)) ∧ W.heap.size ≤ W2.heap.size) := by
    have hW2 := HX.out.size
    have hW3 := hb2.size
    have hW3' : W3.drew.heap.size = W3.heap.size := rfl
    refine ⟨⟨hg4.os.trans (hb2.os.trans HX.out.os), hg4.tape.trans (hb2.tape.trans HX.out.tape), hg4.output.trans (hb2.output.trans HX.out.output), by have := hg4.size; omega, fun k hk hne => ?_⟩, ?_, hW2⟩
    · rw [hg4.block k (by omega) hne]
      exact (hb2.block k (by omega)).trans (HX.out.block k hk)
    · rw [hg4.block _ (by have := lt_of_heap hh2; omega) (by simp; omega)]
      exact hh2
  have HM : Hid _ := M4
  clear hb2 hh2 M4 hg4 MX kX mX HX
  generalize W2.heap.size = N2 at *
  go_region
  go_wp2_with fail
  go_ret
  exact ⟨_, HF.out.2.2, rfl, HF.out.1, HM.out, HF.out.2.1⟩
end Go.Proofs.YbulkcuegFmt
