import Derived.Test.YbulkcuegFmtProf
import Derived.Deep.WholeRow
namespace Go.Proofs.YbulkcuegFmt
open Go.RowKit

abbrev prof0 : Array Value := profC ⟨#[]⟩ 0 (.slice none 0 0) (.slice none 0 0) (.slice none 0 0) (.slice none 0 0) 0 ⟨#[]⟩ (.slice none 0 0)

set_option maxRecDepth 100000 in
set_option maxHeartbeats 1000000 in
theorem prof_one (im : ByteArray) (mnc : Int) (a2 : Option Addr) (n2 k2 : Nat) (a3 : Option Addr) (n3 k3 : Nat) (a6 : Option Addr) (n6 k6 : Nat) (a7 : Option Addr) (n7 k7 : Nat) (md : Int) (rp : ByteArray) (a15 : Option Addr) (n15 k15 : Nat) : (profC im mnc (.slice a2 n2 k2) (.slice a3 n3 k3) (.slice a6 n6 k6) (.slice a7 n7 k7) md rp (.slice a15 n15 k15)).all (·.oneCell') = true := by kernel_rfl
set_option maxRecDepth 100000 in
set_option maxHeartbeats 1000000 in
theorem clone_any (pb : Nat) (im : ByteArray) (mnc : Int) (v2 v3 v6 v7 : Value) (md : Int) (rp : ByteArray) (v15 : Value) (W : World) (h : W.heap[pb]? = some (.cells (profC im mnc v2 v3 v6 v7 md rp v15) 38 (0, 0)))
    (n2 n3 n6 n7 n15 : Nat) (f2 f3 f6 f7 f15 : Nat → Value) (r2 : RowV W v2 n2 f2) (r3 : RowV W v3 n3 f3) (r6 : RowV W v6 n6 f6) (r7 : RowV W v7 n7 f7) (r15 : RowV W v15 n15 f15)
    (m2 : n2 ≤ 10000) (m3 : n3 ≤ 10000) (m6 : n6 ≤ 10000) (m7 : n7 ≤ 10000) (m15 : n15 ≤ 10000) (o2 : ∀ i, i < n2 → (f2 i).oneCell' = true) (o3 : ∀ i, i < n3 → (f3 i).oneCell' = true) (o6 : ∀ i, i < n6 → (f6 i).oneCell' = true) (o7 : ∀ i, i < n7 → (f7 i).oneCell' = true) (o15 : ∀ i, i < n15 → (f15 i).oneCell' = true) :
    Calls Ybaf.prog 13 #[.pointer (some ⟨pb, 0, none⟩)] W fun e W' => ∃ v2' v3' v6' v7' v15', e = .returned (.agg (profC im mnc v2' v3' v6' v7' md rp v15')) ∧ RowB W' W.heap.size v2' n2 f2 ∧ RowB W' W.heap.size v3' n3 f3 ∧ RowB W' W.heap.size v6' n6 f6 ∧ RowB W' W.heap.size v7' n7 f7 ∧ RowB W' W.heap.size v15' n15 f15 ∧ Below W.heap.size W W' := by
  obtain ⟨a2, k2, rfl⟩ := r2.shape
  obtain ⟨a3, k3, rfl⟩ := r3.shape
  obtain ⟨a6, k6, rfl⟩ := r6.shape
  obtain ⟨a7, k7, rfl⟩ := r7.shape
  obtain ⟨a15, k15, rfl⟩ := r15.shape
  have hpl := lt_of_heap h
  have hz1 : ((W.alloc (.cells prof0 38)).heap[pb]?) = some (.cells (profC im mnc (.slice a2 n2 k2) (.slice a3 n3 k3) (.slice a6 n6 k6) (.slice a7 n7 k7) md rp (.slice a15 n15 k15)) 38 (0, 0)) := (Below.heap_alloc _ _ _ hpl).trans h
  have C1 : CS W ((W.alloc (.cells prof0 38)).alloc (.cells (profC im mnc (.slice a2 n2 k2) (.slice a3 n3 k3) (.slice a6 n6 k6) (.slice a7 n7 k7) md rp (.slice a15 n15 k15)) 38)) (W.heap.size + 1) prof0 (profC im mnc (.slice a2 n2 k2) (.slice a3 n3 k3) (.slice a6 n6 k6) (.slice a7 n7 k7) md rp (.slice a15 n15 k15)) := by
    refine ⟨bal (bal (Below.refl _ _)), ?_, ?_, by omega⟩
    · rw [Below.heap_alloc _ _ _ (by simp)]
      exact (MapKept.heap_alloc W _).1
    · have := (MapKept.heap_alloc (W.alloc (.cells prof0 38)) (.cells (profC im mnc (.slice a2 n2 k2) (.slice a3 n3 k3) (.slice a6 n6 k6) (.slice a7 n7 k7) md rp (.slice a15 n15 k15)) 38)).1
      rw [show (W.alloc (.cells prof0 38)).heap.size = W.heap.size + 1 by simp] at this
      exact this
  have hst : (((W.alloc (.cells prof0 38)).alloc (.cells prof0 38)).setRow (W.heap.size + 1) (profC im mnc (.slice a2 n2 k2) (.slice a3 n3 k3) (.slice a6 n6 k6) (.slice a7 n7 k7) md rp (.slice a15 n15 k15))) = (W.alloc (.cells prof0 38)).alloc (.cells (profC im mnc (.slice a2 n2 k2) (.slice a3 n3 k3) (.slice a6 n6 k6) (.slice a7 n7 k7) md rp (.slice a15 n15 k15)) 38) := by
    have := World.setRow_alloc_new (W.alloc (.cells prof0 38)) prof0 (profC im mnc (.slice a2 n2 k2) (.slice a3 n3 k3) (.slice a6 n6 k6) (.slice a7 n7 k7) md rp (.slice a15 n15 k15)) 38
    rw [show (W.alloc (.cells prof0 38)).heap.size = W.heap.size + 1 by simp] at this
    exact this
  have hz2 : ((W.alloc (.cells prof0 38)).alloc (.cells prof0 38)).heap[W.heap.size + 1]? = some (.cells prof0 38 (0, 0)) := by
    have := (MapKept.heap_alloc (W.alloc (.cells prof0 38)) (.cells prof0 38)).1
    rw [show (W.alloc (.cells prof0 38)).heap.size = W.heap.size + 1 by simp] at this
    exact this
  have HST : Hid _ := hst
  clear hst
  go_enter Ybaf.func13, Ybaf.ntmps13
  go_upto_region 2 with (first | refine wpList_load_row rfl 38 (.tmp 5) rfl pb rfl 38 _ (0, 0) _ hz1 Ybaf.underlying38 rfl size38 ?_ | refine wpList_store_row rfl 38 (.tmp 3) (.tmp 6) rfl (W.heap.size + 1) _ rfl rfl 38 prof0 hz2 size38 rfl (prof_one _ _ _ _ _ _ _ _ _ _ _ _ _ _ _ _ _ _ _) ?_)
  rw [HST.out]
  generalize (W.alloc (.cells prof0 38)).alloc (.cells (profC im mnc (.slice a2 n2 k2) (.slice a3 n3 k3) (.slice a6 n6 k6) (.slice a7 n7 k7) md rp (.slice a15 n15 k15)) 38) = W1 at C1 ⊢
  obtain ⟨zb, hzb⟩ : ∃ zb, zb = W.heap.size := ⟨_, rfl⟩
  have HZ : Hid _ := hzb
  have hzc : W.heap.size < W.heap.size + 1 := by omega
  generalize W.heap.size + 1 = cb at C1 hzc ⊢
  rw [← hzb]
  clear hzb
  have HP : Hid (∀ wr, Below W.heap.size W wr → wr.heap[pb]? = some (.cells (profC im mnc (.slice a2 n2 k2) (.slice a3 n3 k3) (.slice a6 n6 k6) (.slice a7 n7 k7) md rp (.slice a15 n15 k15)) 38 (0, 0))) := fun wr hb => (hb.block _ hpl).trans h
  have HR : Hid _ := And.intro r2 (And.intro r3 (And.intro r6 (And.intro r7 r15)))
  clear h hpl hz1 hz2 HST r2 r3 r6 r7 r15
  have q2 : W1.cell? ⟨pb, 2, none⟩ = some (.slice a2 n2 k2) := cell_of (HP.out _ C1.b) rfl
  have hc2 := cloneAct_rowB (.slice a2 n2 k2) n2 f2 W1 m2 (HR.out.1.below C1.b) o2
  have hl2 := lt_of_heap C1.c
  have HC1 : Hid _ := C1
  clear C1
  go_wp2_with fail
  refine hc2.mono ?_
  rintro e X2 ⟨v2', rfl, R2, hb2⟩
  obtain ⟨b2, l2, rfl⟩ := R2.shape
  have R2 := R2.mono (base' := cb + 1) (by omega)
  have D2 := HC1.out.next hb2
  have e2 : X2.cell? ⟨cb, 2, none⟩ = some (.slice a2 n2 k2) := cell_of D2.c rfl
  have z2 : X2.frozen? ⟨cb, 2, none⟩ = false := fz_of D2.c
  have R2 := R2.set (k := 2) (u := (.slice b2 n2 l2)) (show cb < cb + 1 by omega)
  have C2 : CS W (X2.setCell ⟨cb, 2, none⟩ (.slice b2 n2 l2)) cb prof0 (profC im mnc (.slice b2 n2 l2) (.slice a3 n3 k3) (.slice a6 n6 k6) (.slice a7 n7 k7) md rp (.slice a15 n15 k15)) := D2.set 2 (.slice b2 n2 l2)
  have HRR : Hid _ := And.intro R2 trivial
  clear R2 D2 q2 hc2 hb2 HC1 hl2
  go_upto_region 3 with fail
  generalize X2.setCell ⟨cb, 2, none⟩ (.slice b2 n2 l2) = W2 at C2 HRR ⊢
  have q3 : W2.cell? ⟨pb, 3, none⟩ = some (.slice a3 n3 k3) := cell_of (HP.out _ C2.b) rfl
  have hc3 := cloneAct_rowB (.slice a3 n3 k3) n3 f3 W2 m3 (HR.out.2.1.below C2.b) o3
  have hl3 := lt_of_heap C2.c
  have HC2 : Hid _ := C2
  clear C2
  go_wp2_with fail
  refine hc3.mono ?_
  rintro e X3 ⟨v3', rfl, R3, hb3⟩
  obtain ⟨R2, _⟩ := HRR.out
  clear HRR
  obtain ⟨b3, l3, rfl⟩ := R3.shape
  have R3 := R3.mono (base' := cb + 1) (by omega)
  have D3 := HC2.out.next hb3
  have e3 : X3.cell? ⟨cb, 3, none⟩ = some (.slice a3 n3 k3) := cell_of D3.c rfl
  have z3 : X3.frozen? ⟨cb, 3, none⟩ = false := fz_of D3.c
  have R2 := (R2.below hb3).set (k := 3) (u := (.slice b3 n3 l3)) (show cb < cb + 1 by omega)
  have R3 := R3.set (k := 3) (u := (.slice b3 n3 l3)) (show cb < cb + 1 by omega)
  have C3 : CS W (X3.setCell ⟨cb, 3, none⟩ (.slice b3 n3 l3)) cb prof0 (profC im mnc (.slice b2 n2 l2) (.slice b3 n3 l3) (.slice a6 n6 k6) (.slice a7 n7 k7) md rp (.slice a15 n15 k15)) := D3.set 3 (.slice b3 n3 l3)
  have HRR : Hid _ := And.intro R2 (R3)
  clear R2 R3 D3 q3 hc3 hb3 HC2 hl3
  go_upto_region 4 with fail
  generalize X3.setCell ⟨cb, 3, none⟩ (.slice b3 n3 l3) = W3 at C3 HRR ⊢
  have q4 : W3.cell? ⟨pb, 4, none⟩ = some (.slice none 0 0) := cell_of (HP.out _ C3.b) rfl
  have hc4 := cloneSel_nil W3
  have D4 := C3
  have e4 : W3.cell? ⟨cb, 4, none⟩ = some (.slice none 0 0) := cell_of D4.c rfl
  have z4 : W3.frozen? ⟨cb, 4, none⟩ = false := fz_of D4.c
  clear C3
  go_wp2_with fail
  refine hc4.mono ?_
  rintro e X4 ⟨rfl, rfl⟩
  obtain ⟨R2, R3⟩ := HRR.out
  clear HRR
  have R2 := R2.set (k := 4) (u := (.slice none 0 0)) (show cb < cb + 1 by omega)
  have R3 := R3.set (k := 4) (u := (.slice none 0 0)) (show cb < cb + 1 by omega)
  have C4 : CS W (W3.setCell ⟨cb, 4, none⟩ (.slice none 0 0)) cb prof0 (profC im mnc (.slice b2 n2 l2) (.slice b3 n3 l3) (.slice a6 n6 k6) (.slice a7 n7 k7) md rp (.slice a15 n15 k15)) := D4.set 4 (.slice none 0 0)
  have HRR : Hid _ := And.intro R2 (R3)
  clear R2 R3 D4 q4 hc4
  go_upto_region 5 with fail
  generalize W3.setCell ⟨cb, 4, none⟩ (.slice none 0 0) = W4 at C4 HRR ⊢
  have q5 : W4.cell? ⟨pb, 5, none⟩ = some (.slice none 0 0) := cell_of (HP.out _ C4.b) rfl
  have hc5 := cloneSel_nil W4
  have D5 := C4
  have e5 : W4.cell? ⟨cb, 5, none⟩ = some (.slice none 0 0) := cell_of D5.c rfl
  have z5 : W4.frozen? ⟨cb, 5, none⟩ = false := fz_of D5.c
  clear C4
  go_wp2_with fail
  refine hc5.mono ?_
  rintro e X5 ⟨rfl, rfl⟩
  obtain ⟨R2, R3⟩ := HRR.out
  clear HRR
  have R2 := R2.set (k := 5) (u := (.slice none 0 0)) (show cb < cb + 1 by omega)
  have R3 := R3.set (k := 5) (u := (.slice none 0 0)) (show cb < cb + 1 by omega)
  have C5 : CS W (W4.setCell ⟨cb, 5, none⟩ (.slice none 0 0)) cb prof0 (profC im mnc (.slice b2 n2 l2) (.slice b3 n3 l3) (.slice a6 n6 k6) (.slice a7 n7 k7) md rp (.slice a15 n15 k15)) := D5.set 5 (.slice none 0 0)
  have HRR : Hid _ := And.intro R2 (R3)
  clear R2 R3 D5 q5 hc5
  go_upto_region 6 with fail
  generalize W4.setCell ⟨cb, 5, none⟩ (.slice none 0 0) = W5 at C5 HRR ⊢
  have q6 : W5.cell? ⟨pb, 6, none⟩ = some (.slice a6 n6 k6) := cell_of (HP.out _ C5.b) rfl
  have hc6 := clonePlmn_rowB (.slice a6 n6 k6) n6 f6 W5 m6 (HR.out.2.2.1.below C5.b) o6
  have hl6 := lt_of_heap C5.c
  have HC5 : Hid _ := C5
  clear C5
  go_wp2_with fail
  refine hc6.mono ?_
  rintro e X6 ⟨v6', rfl, R6, hb6⟩
  obtain ⟨R2, R3⟩ := HRR.out
  clear HRR
  obtain ⟨b6, l6, rfl⟩ := R6.shape
  have R6 := R6.mono (base' := cb + 1) (by omega)
  have D6 := HC5.out.next hb6
  have e6 : X6.cell? ⟨cb, 6, none⟩ = some (.slice a6 n6 k6) := cell_of D6.c rfl
  have z6 : X6.frozen? ⟨cb, 6, none⟩ = false := fz_of D6.c
  have R2 := (R2.below hb6).set (k := 6) (u := (.slice b6 n6 l6)) (show cb < cb + 1 by omega)
  have R3 := (R3.below hb6).set (k := 6) (u := (.slice b6 n6 l6)) (show cb < cb + 1 by omega)
  have R6 := R6.set (k := 6) (u := (.slice b6 n6 l6)) (show cb < cb + 1 by omega)
  have C6 : CS W (X6.setCell ⟨cb, 6, none⟩ (.slice b6 n6 l6)) cb prof0 (profC im mnc (.slice b2 n2 l2) (.slice b3 n3 l3) (.slice b6 n6 l6) (.slice a7 n7 k7) md rp (.slice a15 n15 k15)) := D6.set 6 (.slice b6 n6 l6)
  have HRR : Hid _ := And.intro R2 (And.intro R3 (R6))
  clear R2 R3 R6 D6 q6 hc6 hb6 HC5 hl6
  go_upto_region 7 with fail
  generalize X6.setCell ⟨cb, 6, none⟩ (.slice b6 n6 l6) = W6 at C6 HRR ⊢
  have q7 : W6.cell? ⟨pb, 7, none⟩ = some (.slice a7 n7 k7) := cell_of (HP.out _ C6.b) rfl
  have hc7 := clonePlmn_rowB (.slice a7 n7 k7) n7 f7 W6 m7 (HR.out.2.2.2.1.below C6.b) o7
  have hl7 := lt_of_heap C6.c
  have HC6 : Hid _ := C6
  clear C6
  go_wp2_with fail
  refine hc7.mono ?_
  rintro e X7 ⟨v7', rfl, R7, hb7⟩
  obtain ⟨R2, R3, R6⟩ := HRR.out
  clear HRR
  obtain ⟨b7, l7, rfl⟩ := R7.shape
  have R7 := R7.mono (base' := cb + 1) (by omega)
  have D7 := HC6.out.next hb7
  have e7 : X7.cell? ⟨cb, 7, none⟩ = some (.slice a7 n7 k7) := cell_of D7.c rfl
  have z7 : X7.frozen? ⟨cb, 7, none⟩ = false := fz_of D7.c
  have R2 := (R2.below hb7).set (k := 7) (u := (.slice b7 n7 l7)) (show cb < cb + 1 by omega)
  have R3 := (R3.below hb7).set (k := 7) (u := (.slice b7 n7 l7)) (show cb < cb + 1 by omega)
  have R6 := (R6.below hb7).set (k := 7) (u := (.slice b7 n7 l7)) (show cb < cb + 1 by omega)
  have R7 := R7.set (k := 7) (u := (.slice b7 n7 l7)) (show cb < cb + 1 by omega)
  have C7 : CS W (X7.setCell ⟨cb, 7, none⟩ (.slice b7 n7 l7)) cb prof0 (profC im mnc (.slice b2 n2 l2) (.slice b3 n3 l3) (.slice b6 n6 l6) (.slice b7 n7 l7) md rp (.slice a15 n15 k15)) := D7.set 7 (.slice b7 n7 l7)
  have HRR : Hid _ := And.intro R2 (And.intro R3 (And.intro R6 (R7)))
  clear R2 R3 R6 R7 D7 q7 hc7 hb7 HC6 hl7
  go_upto_region 8 with fail
  generalize X7.setCell ⟨cb, 7, none⟩ (.slice b7 n7 l7) = W7 at C7 HRR ⊢
  have q15 : W7.cell? ⟨pb, 15, none⟩ = some (.slice a15 n15 k15) := cell_of (HP.out _ C7.b) rfl
  have hc15 := clonePlmn_rowB (.slice a15 n15 k15) n15 f15 W7 m15 (HR.out.2.2.2.2.below C7.b) o15
  have hl15 := lt_of_heap C7.c
  have HC7 : Hid _ := C7
  clear C7
  go_wp2_with fail
  refine hc15.mono ?_
  rintro e X15 ⟨v15', rfl, R15, hb15⟩
  obtain ⟨R2, R3, R6, R7⟩ := HRR.out
  clear HRR
  obtain ⟨b15, l15, rfl⟩ := R15.shape
  have R15 := R15.mono (base' := cb + 1) (by omega)
  have D15 := HC7.out.next hb15
  have e15 : X15.cell? ⟨cb, 15, none⟩ = some (.slice a15 n15 k15) := cell_of D15.c rfl
  have z15 : X15.frozen? ⟨cb, 15, none⟩ = false := fz_of D15.c
  have R2 := (R2.below hb15).set (k := 15) (u := (.slice b15 n15 l15)) (show cb < cb + 1 by omega)
  have R3 := (R3.below hb15).set (k := 15) (u := (.slice b15 n15 l15)) (show cb < cb + 1 by omega)
  have R6 := (R6.below hb15).set (k := 15) (u := (.slice b15 n15 l15)) (show cb < cb + 1 by omega)
  have R7 := (R7.below hb15).set (k := 15) (u := (.slice b15 n15 l15)) (show cb < cb + 1 by omega)
  have R15 := R15.set (k := 15) (u := (.slice b15 n15 l15)) (show cb < cb + 1 by omega)
  have C8 : CS W (X15.setCell ⟨cb, 15, none⟩ (.slice b15 n15 l15)) cb prof0 (profC im mnc (.slice b2 n2 l2) (.slice b3 n3 l3) (.slice b6 n6 l6) (.slice b7 n7 l7) md rp (.slice b15 n15 l15)) := D15.set 15 (.slice b15 n15 l15)
  have HRR : Hid _ := And.intro R2 (And.intro R3 (And.intro R6 (And.intro R7 (R15))))
  clear R2 R3 R6 R7 R15 D15 q15 hc15 hb15 HC7 hl15
  go_upto_region 9 with fail
  generalize X15.setCell ⟨cb, 15, none⟩ (.slice b15 n15 l15) = W8 at C8 HRR ⊢
  have q16 : W8.cell? ⟨pb, 16, none⟩ = some (.slice none 0 0) := cell_of (HP.out _ C8.b) rfl
  have hc16 := cloneNil23 0 0 W8
  have D16 := C8
  have e16 : W8.cell? ⟨cb, 16, none⟩ = some (.slice none 0 0) := cell_of D16.c rfl
  have z16 : W8.frozen? ⟨cb, 16, none⟩ = false := fz_of D16.c
  clear C8
  go_wp2_with fail
  refine hc16.mono ?_
  rintro e X16 ⟨rfl, e0⟩
  obtain ⟨R2, R3, R6, R7, R15⟩ := HRR.out
  clear HRR
  subst e0
  have R2 := R2.set (k := 16) (u := (.slice none 0 0)) (show cb < cb + 1 by omega)
  have R3 := R3.set (k := 16) (u := (.slice none 0 0)) (show cb < cb + 1 by omega)
  have R6 := R6.set (k := 16) (u := (.slice none 0 0)) (show cb < cb + 1 by omega)
  have R7 := R7.set (k := 16) (u := (.slice none 0 0)) (show cb < cb + 1 by omega)
  have R15 := R15.set (k := 16) (u := (.slice none 0 0)) (show cb < cb + 1 by omega)
  have C9 : CS W (X16.setCell ⟨cb, 16, none⟩ (.slice none 0 0)) cb prof0 (profC im mnc (.slice b2 n2 l2) (.slice b3 n3 l3) (.slice b6 n6 l6) (.slice b7 n7 l7) md rp (.slice b15 n15 l15)) := D16.set 16 (.slice none 0 0)
  have HRR : Hid _ := And.intro R2 (And.intro R3 (And.intro R6 (And.intro R7 (R15))))
  clear R2 R3 R6 R7 R15 D16 q16 hc16
  go_upto_region 10 with fail
  generalize X16.setCell ⟨cb, 16, none⟩ (.slice none 0 0) = W9 at C9 HRR ⊢
  have q17 : W9.cell? ⟨pb, 17, none⟩ = some (.slice none 0 0) := cell_of (HP.out _ C9.b) rfl
  have hc17 := cloneNil24 0 0 W9
  have D17 := C9
  have e17 : W9.cell? ⟨cb, 17, none⟩ = some (.slice none 0 0) := cell_of D17.c rfl
  have z17 : W9.frozen? ⟨cb, 17, none⟩ = false := fz_of D17.c
  clear C9
  go_wp2_with fail
  refine hc17.mono ?_
  rintro e X17 ⟨rfl, e0⟩
  obtain ⟨R2, R3, R6, R7, R15⟩ := HRR.out
  clear HRR
  subst e0
  have R2 := R2.set (k := 17) (u := (.slice none 0 0)) (show cb < cb + 1 by omega)
  have R3 := R3.set (k := 17) (u := (.slice none 0 0)) (show cb < cb + 1 by omega)
  have R6 := R6.set (k := 17) (u := (.slice none 0 0)) (show cb < cb + 1 by omega)
  have R7 := R7.set (k := 17) (u := (.slice none 0 0)) (show cb < cb + 1 by omega)
  have R15 := R15.set (k := 17) (u := (.slice none 0 0)) (show cb < cb + 1 by omega)
  have C10 : CS W (X17.setCell ⟨cb, 17, none⟩ (.slice none 0 0)) cb prof0 (profC im mnc (.slice b2 n2 l2) (.slice b3 n3 l3) (.slice b6 n6 l6) (.slice b7 n7 l7) md rp (.slice b15 n15 l15)) := D17.set 17 (.slice none 0 0)
  have HRR : Hid _ := And.intro R2 (And.intro R3 (And.intro R6 (And.intro R7 (R15))))
  clear R2 R3 R6 R7 R15 D17 q17 hc17
  go_upto_region 11 with fail
  generalize X17.setCell ⟨cb, 17, none⟩ (.slice none 0 0) = W10 at C10 HRR ⊢
  have hc1 := C10.c
  have hc2 := C10.z
  rw [← HZ.out] at hc2
  go_wp2_with (first | refine wpList_load_row rfl 38 (.tmp 3) rfl cb rfl 38 _ (0, 0) _ hc1 Ybaf.underlying38 rfl size38 ?_ | refine wpList_store_row rfl 38 (.tmp 2) (.tmp 61) rfl zb _ rfl rfl 38 prof0 hc2 size38 rfl (prof_one _ _ _ _ _ _ _ _ _ _ _ _ _ _ _ _ _ _ _) ?_)
  have hfin := heap_setRow (cells := profC im mnc (.slice b2 n2 l2) (.slice b3 n3 l3) (.slice b6 n6 l6) (.slice b7 n7 l7) md rp (.slice b15 n15 l15)) hc2
  have HG : Hid (W10.grownBy (W10.setRow zb (profC im mnc (.slice b2 n2 l2) (.slice b3 n3 l3) (.slice b6 n6 l6) (.slice b7 n7 l7) md rp (.slice b15 n15 l15))) (some zb)) := grown_setRow _ (World.grownBy.refl _ _)
  refine bodyPost_ret (v := .agg (profC im mnc (.slice b2 n2 l2) (.slice b3 n3 l3) (.slice b6 n6 l6) (.slice b7 n7 l7) md rp (.slice b15 n15 l15))) ?res ?dd ?_
  case dd => rfl
  case res => exact results_cell_row (P := Ybaf.prog) (p := 2) (ty := 38) Ybaf.results13 _ _ zb 38 _ (0, 0) _ rfl hfin Ybaf.underlying38 rfl size38
  obtain ⟨R2, R3, R6, R7, R15⟩ := HRR.out
  have hz := HZ.out
  have k : ∀ {v n f}, RowB W10 (cb + 1) v n f → RowB (W10.setRow zb (profC im mnc (.slice b2 n2 l2) (.slice b3 n3 l3) (.slice b6 n6 l6) (.slice b7 n7 l7) md rp (.slice b15 n15 l15))) W.heap.size v n f := fun r => (r.grown HG.out (by omega)).mono (by omega)
  refine ⟨_, _, _, _, _, rfl, k R2, k R3, k R6, k R7, k R15, ?_⟩
  have hb := C10.b
  exact ⟨HG.out.os.trans hb.os, HG.out.tape.trans hb.tape, HG.out.output.trans hb.output, Nat.le_trans hb.size HG.out.size, fun j hj => (HG.out.block j (Nat.lt_of_lt_of_le hj hb.size) (by simp; omega)).trans (hb.block j hj)⟩
end Go.Proofs.YbulkcuegFmt
