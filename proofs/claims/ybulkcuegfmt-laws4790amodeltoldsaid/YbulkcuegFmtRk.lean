import Derived.Test.YbulkcuegFmtRk2
import Derived.BigRegion
namespace Go.Proofs.YbulkcuegFmt
open Go.RowKit Go.Maps

theorem keepc {W W' : World} {b o : Nat} {v : Value} (hb : Below W.heap.size W W') (h : W.cell? ⟨b, o, none⟩ = some v) : W'.cell? ⟨b, o, none⟩ = some v := keepb hb h (lt_of_cell h)
theorem mk110 (w : World) : (Instr.makeMap 110 none).run Ybaf.prog w = .ok (.map (some w.heap.size)) (w.alloc (.map #[] 0)) := by
  simp [Instr.makeMap, go_sem]

set_option maxRecDepth 1000000 in
set_option maxHeartbeats 2000000 in
theorem ranker_any (pb : Nat) (a2 : Option Addr) (dl : List Int) (k2 : Nat) (a3 : Option Addr) (hl : List Int) (k3 : Nat) (a6 : Option Addr) (n6 k6 : Nat) (fl : Nat → Fin 5) (w : World) (a7 : Option Addr) (k7 : Nat)
    (P : PF w pb a2 dl k2 a3 hl k3 a6 n6 k6 fl) (c7 : w.cell? ⟨pb, 7, none⟩ = some (.slice a7 1 k7)) (r7 : RowV w (.slice a7 1 k7) 1 (fun _ => .string (dig 1))) :
    Calls Ybaf.prog 14 #[.pointer (some ⟨pb, 0, none⟩)] w fun e w' => ∃ rb, e = .returned (.pointer (some ⟨rb, 0, none⟩)) ∧ RkP w w' dl hl n6 fl rb := by
  have hom : ∀ W : World, W.cell? ⟨pb, 7, none⟩ = some (.slice a7 1 k7) → W.cell? ⟨pb, 8, none⟩ = some (.bool false) → Calls Ybaf.prog 25 #[.pointer (some ⟨pb, 0, none⟩)] W fun e W' => e = .returned (.agg #[.slice a7 1 k7, .bool false]) ∧ Below W.heap.size W W' := fun W h7 h8 => homes_any pb 0 a7 1 k7 W (by omega) (by rw [Nat.zero_add]; exact h7) (by rw [Nat.zero_add]; exact h8)
  have hmm := mk110
  have c8 := P.c8
  have c10 := P.c10
  have hpl := P.lt
  have m7 := cell_alloc (o := .map #[] 0) c7
  have m8 := cell_alloc (o := .map #[] 0) c8
  have m10 := cell_alloc (o := .map #[] 0) c10
  have HP : Hid _ := And.intro P r7
  clear P r7
  go_enter Ybaf.func14, Ybaf.ntmps14
  go_upto_region 1 with fail
  go_region_held3 (fun w' => w'.cell? ⟨pb, 7, none⟩ = some (.slice a7 1 k7) ∧ w'.cell? ⟨pb, 8, none⟩ = some (.bool false) ∧ w'.cell? ⟨pb, 10, none⟩ = some (.bool false))
    ((repeat' apply And.intro) <;> (repeat (first | assumption | refine cell_drew ?_ | refine cell_alloc ?_)))
    (first | (go_at_call 25; refine (hom _ (by assumption) (by assumption)).mono ?_; rintro e w1 ⟨rfl, hb1⟩; have g7 : w1.cell? ⟨pb, 7, none⟩ = some (.slice a7 1 k7) := keepc hb1 (by assumption); have g8 : w1.cell? ⟨pb, 8, none⟩ = some (.bool false) := keepc hb1 (by assumption); have g10 : w1.cell? ⟨pb, 10, none⟩ = some (.bool false) := keepc hb1 (by assumption)))
  · have hs : w.heap.size ≤ w1.heap.size := hb1.size
    have B1 : Below w.heap.size w w1 := ⟨hb1.os, hb1.tape, hb1.output, hb1.size, fun k hk => hb1.block k hk⟩
    have HF : Hid ((((w1.alloc (.map #[] 0)).alloc (.cells (rkC (fun _ => 0) (fun _ => 0) (.slice a7 1 k7) w1.heap.size) 113)).heap[w1.heap.size + 1]? = some (.cells (rkC (fun _ => 0) (fun _ => 0) (.slice a7 1 k7) w1.heap.size) 113 (0, 0))) ∧ NMap ((w1.alloc (.map #[] 0)).alloc (.cells (rkC (fun _ => 0) (fun _ => 0) (.slice a7 1 k7) w1.heap.size) 113)) w1.heap.size (fun _ => none) 0 ∧ Below w.heap.size w ((w1.alloc (.map #[] 0)).alloc (.cells (rkC (fun _ => 0) (fun _ => 0) (.slice a7 1 k7) w1.heap.size) 113)) ∧ (w.heap.size ≤ w1.heap.size + 1 ∧ w.heap.size ≤ w1.heap.size ∧ w1.heap.size + 1 ≠ w1.heap.size)) := by
      refine ⟨?_, (NMap.made w1).below (bal (Below.refl _ _)), bal (bal B1), by omega, hs, by omega⟩
      have := (MapKept.heap_alloc (w1.alloc (.map #[] 0)) (.cells (rkC (fun _ => 0) (fun _ => 0) (.slice a7 1 k7) w1.heap.size) 113)).1
      rw [show (w1.alloc (.map #[] 0)).heap.size = w1.heap.size + 1 by simp] at this
      exact this
    clear B1 hb1 g7 g8 g10 hs m7 m8 m10 c7 c8 c10
    rename_i hHeld
    clear hHeld
    go_upto_region 2 with fail
    refine RK2 pb a2 dl k2 a3 hl k3 a6 n6 k6 fl w _ _ _ _ _ _ _ _ _ _ _ _ _ _ _ _ _ _ _ _ _ _ _ _ _ _ _ _ _ _ _ _ _ _ _ _ _ _ _ _ _ _ _ _ _ _ _ _ _ _ _ _ _ _ _ _ _ _ _ _ _ _ _ _ _ _ _ _ _ _ _ _ _ _ _ _ _ _ _ _ _ _ _ _ _ _ _ _ _ _ _ _ _ _ _ _ _ _ _ _ _ _ _ _ _ _ _ _ _ _ _ _ _ _ _ _ _ _ _ _ _ _ _ _ _ _ _ _ _ _ _ _ _ _ _ _ _ _ _ _ _ _ _ _ _ _ _ _ _ _ _ _ _ _ _ _ _ _ _ _ _ _ _ _ _ _ _ _ _ _ _ _ _ (w1.heap.size + 1) w1.heap.size a7 k7 _ ?_ HP.out.1 HF.out.1 HF.out.2.1 HF.out.2.2.1 HF.out.2.2.2 HP.out.2
    assumption
  · have hs : w.heap.size < w1.heap.size := by
      have := hb1.size
      have e : (w.alloc (.map #[] 0)).drew.heap.size = w.heap.size + 1 := by simp [World.drew]
      omega
    have B1 : Below w.heap.size w w1 := (Below.drew (bal (o := .map #[] 0) (Below.refl _ w))).trans (hb1.mono (by simp [World.drew]))
    have HF : Hid (((w1.alloc (.cells (rkC (fun _ => 0) (fun _ => 0) (.slice a7 1 k7) w.heap.size) 113)).heap[w1.heap.size]? = some (.cells (rkC (fun _ => 0) (fun _ => 0) (.slice a7 1 k7) w.heap.size) 113 (0, 0))) ∧ NMap (w1.alloc (.cells (rkC (fun _ => 0) (fun _ => 0) (.slice a7 1 k7) w.heap.size) 113)) w.heap.size (fun _ => none) 0 ∧ Below w.heap.size w (w1.alloc (.cells (rkC (fun _ => 0) (fun _ => 0) (.slice a7 1 k7) w.heap.size) 113)) ∧ (w.heap.size ≤ w1.heap.size ∧ w.heap.size ≤ w.heap.size ∧ w1.heap.size ≠ w.heap.size)) := by
      refine ⟨(MapKept.heap_alloc w1 _).1, (((NMap.made w).of_block (W' := (w.alloc (.map #[] 0)).drew) rfl).below hb1).below (bal (Below.refl _ _)), bal B1, by omega, by omega, by omega⟩
    clear B1 hb1 g7 g8 g10 hs m7 m8 m10 c7 c8 c10
    rename_i hHeld
    clear hHeld
    go_upto_region 2 with fail
    refine RK2 pb a2 dl k2 a3 hl k3 a6 n6 k6 fl w _ _ _ _ _ _ _ _ _ _ _ _ _ _ _ _ _ _ _ _ _ _ _ _ _ _ _ _ _ _ _ _ _ _ _ _ _ _ _ _ _ _ _ _ _ _ _ _ _ _ _ _ _ _ _ _ _ _ _ _ _ _ _ _ _ _ _ _ _ _ _ _ _ _ _ _ _ _ _ _ _ _ _ _ _ _ _ _ _ _ _ _ _ _ _ _ _ _ _ _ _ _ _ _ _ _ _ _ _ _ _ _ _ _ _ _ _ _ _ _ _ _ _ _ _ _ _ _ _ _ _ _ _ _ _ _ _ _ _ _ _ _ _ _ _ _ _ _ _ _ _ _ _ _ _ _ _ _ _ _ _ _ _ _ _ _ _ _ _ _ _ _ _ w1.heap.size w.heap.size a7 k7 _ ?_ HP.out.1 HF.out.1 HF.out.2.1 HF.out.2.2.1 HF.out.2.2.2 HP.out.2
    assumption
end Go.Proofs.YbulkcuegFmt
