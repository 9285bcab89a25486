import Derived.Test.YbulkcuegDx
import Derived.BigRegion
namespace Go.Proofs.Ybulkcueg
open Go.RowKit Go.Maps

abbrev zob : Array Value := #[.string ⟨#[]⟩, .int .u16 0, .bool false, .int .i64 0, .int .u32 0, .bool false]
abbrev oba (qf : Nat → Fin 9) (lv cd : Nat → Int) (kn : Nat → Bool) (b : Nat) : Array Value := #[.string (kd (qf b)), .int .u16 (ka (qf b)), .bool false, .int .i64 (lv b), .int .u32 (cd b), .bool (kn b)]

/-- new foreign blocks -/
theorem DX.fresh {N : Nat} {T0 T : Nat → Prop} {w w' : World} {dv cb n ccap : Nat} {qf : Nat → Fin 9} {lv cd : Nat → Int} {kn : Nat → Bool} (h : DX N T0 w dv cb n ccap qf lv cd kn) (hb : Below w.heap.size w w') (hT : ∀ t, T t → T0 t ∨ w.heap.size ≤ t) : DX N T w' dv cb n ccap qf lv cd kn := by
  have X := h.below hb
  obtain ⟨l1, l2, l3, l4⟩ := h.lt
  refine ⟨X.h20, X.h46, X.fz, X.S, ?_, X.lt⟩
  rcases h.ix with e | ⟨ib, db, gb, ob, mp, e, I, O⟩
  · exact .inl (keepb hb e)
  · refine .inr ⟨ib, db, gb, ob, mp, keepb hb e, I.next (below_grown hb) l1, fun t ht => ?_⟩
    rcases hT t ht with h1 | h1
    · exact O t h1
    · exact I.offhi h1
/-- a foreign block is written -/
theorem DX.wrote {N : Nat} {T T' : Nat → Prop} {t : Nat} {w w' : World} {dv cb n ccap : Nat} {qf : Nat → Fin 9} {lv cd : Nat → Int} {kn : Nat → Bool} (h : DX N T w dv cb n ccap qf lv cd kn) (hg : w.grownBy w' (some t)) (ht : T t) (hN : N ≤ t) (hs : ∀ s, T' s → T s) : DX N T' w' dv cb n ccap qf lv cd kn := by
  obtain ⟨l1, l2, l3, l4⟩ := h.lt
  have kp : ∀ (k : Nat) (v : Value), w.cell? ⟨dv, k, none⟩ = some v → w'.cell? ⟨dv, k, none⟩ = some v := fun k v hv => keepg hg hv (by omega) (by omega)
  refine ⟨kp _ _ h.h20, kp _ _ h.h46, fun k => ?_, h.S.of_block (hg.block cb (by omega) (by simp; omega)), ?_, l1, l2, Nat.le_trans l3 hg.size, l4⟩
  · exact (World.frozen?_of_block (w := w) (a := ⟨dv, k, none⟩) (hg.block dv (by omega) (by simp; omega))).trans (h.fz k)
  · rcases h.ix with e | ⟨ib, db, gb, ob, mp, e, I, O⟩
    · exact .inl (kp _ _ e)
    · exact .inr ⟨ib, db, gb, ob, mp, kp _ _ e, I.set hg (O t ht), fun s h' => O s (hs s h')⟩

theorem st6 {w : World} {T : Nat} {t : TypeId} {u0 u1 u2 u3 u4 u5 : Value} (v0 v1 v2 v3 v4 v5 : Value) (h : w.heap[T]? = some (.cells #[u0, u1, u2, u3, u4, u5] t (0, 0))) :
    ((((((w.setCell ⟨T, 0, none⟩ v0).setCell ⟨T, 1, none⟩ v1).setCell ⟨T, 2, none⟩ v2).setCell ⟨T, 3, none⟩ v3).setCell ⟨T, 4, none⟩ v4).setCell ⟨T, 5, none⟩ v5).heap[T]? = some (.cells #[v0, v1, v2, v3, v4, v5] t (0, 0)) :=
  heap_set v5 (heap_set v4 (heap_set v3 (heap_set v2 (heap_set v1 (heap_set v0 h)))))
theorem gr1 {w w' : World} {T k : Nat} (v : Value) (h : w.grownBy w' (some T)) : w.grownBy (w'.setCell ⟨T, k, none⟩ v) (some T) := ⟨h.os, h.tape, h.output, Nat.le_trans h.size (by simp [World.setCell]), fun b hb hne => (Below.heap_setCell _ _ _ _ (by simpa using hne)).trans (h.block b hb hne)⟩
theorem gr6 (w : World) (T : Nat) (v0 v1 v2 v3 v4 v5 : Value) : w.grownBy ((((((w.setCell ⟨T, 0, none⟩ v0).setCell ⟨T, 1, none⟩ v1).setCell ⟨T, 2, none⟩ v2).setCell ⟨T, 3, none⟩ v3).setCell ⟨T, 4, none⟩ v4).setCell ⟨T, 5, none⟩ v5) (some T) :=
  gr1 _ (gr1 _ (gr1 _ (gr1 _ (gr1 _ (gr1 _ (World.grownBy.refl _ _))))))

theorem Looked.wrote {N t : Nat} {T T' : Nat → Prop} {w w0 w1 w' : World} {dv cb n ccap : Nat} {qf : Nat → Fin 9} {lv cd : Nat → Int} {kn : Nat → Bool} (hb : Below w.heap.size w w0) (hd : dv < w.heap.size) (hN : N ≤ w.heap.size) (h : Looked N T w0 w1 dv cb n ccap qf lv cd kn) (hg : w1.grownBy w' (some t)) (hT : w.heap.size ≤ t) (ht : T t) (hs : ∀ s, T' s → T s) : Looked N T' w w' dv cb n ccap qf lv cd kn := by
  have l := h.X.lt
  have hz := h.g.size
  have hy := hb.size
  refine ⟨⟨hg.os.trans (h.g.os.trans hb.os), hg.tape.trans (h.g.tape.trans hb.tape), hg.output.trans (h.g.output.trans hb.output), by have := hg.size; omega, fun k hk hne => (hg.block k (by omega) (by simp; omega)).trans ((h.g.block k (by omega) hne).trans (hb.block k hk))⟩, fun k hk => ?_, h.X.wrote hg ht (Nat.le_trans hN hT) hs, fun dc h0 => by obtain ⟨dc', h1, h2⟩ := h.dev dc ((hb.block dv hd).trans h0); exact ⟨dc', (hg.block dv (lt_of_heap h1) (by simp; omega)).trans h1, h2⟩⟩
  exact (World.cell?_of_block (w := w1) (a := ⟨dv, k, none⟩) (hg.block dv (by omega) (by simp; omega))).trans ((h.same k hk).trans (hb.cell (p := ⟨dv, k, none⟩) hd))

set_option maxRecDepth 100000 in
set_option maxHeartbeats 1000000 in
theorem bestCell_any (N : Nat) (T : Nat → Prop) (dv cb n ccap : Nat) (qf : Nat → Fin 9) (lv cd : Nat → Int) (kn : Nat → Bool) (q : Fin 9) (any : Bool) (pb ab : Nat) (w : World) (hn : n ≤ 400) (X : DX N T w dv cb n ccap qf lv cd kn) (hTl : ∀ t, T t → t < w.heap.size)
    (hp : w.cell? ⟨pb, 0, none⟩ = some (.string (kd q))) (ha : w.cell? ⟨ab, 0, none⟩ = some (.int .u16 (ka q))) (hpd : pb ≠ dv) (had : ab ≠ dv) :
    Calls Yba.prog 10 #[.pointer (some ⟨dv, 0, none⟩), .bool any, .slice (some ⟨pb, 0, none⟩) 1 1, .slice (some ⟨ab, 0, none⟩) 1 1] w fun e w' => Looked N T w w' dv cb n ccap qf lv cd kn ∧
      ((∃ b : Nat, atOf qf lv q n = b ∧ e = .returned (.tuple #[.agg (oba qf lv cd kn b), .bool true])) ∨ (atOf qf lv q n = -1 ∧ e = .returned (.tuple #[.agg zob, .bool false]))) := by
  have X1 : DX N (fun t => T t ∨ t = w.heap.size) (w.alloc (.cells zob 40)) dv cb n ccap qf lv cd kn := X.fresh (bal (Below.refl _ _)) (fun t ht => by rcases ht with h | h; exact .inl h; exact .inr (by omega))
  have hid := indexed_any N _ dv cb n ccap qf lv cd kn (w.alloc (.cells zob 40)) hn (fun t ht => by simp; rcases ht with h | h; exact Nat.lt_succ_of_lt (hTl t h); omega) X1
  have hbA := bal (o := .cells zob 40) (Below.refl _ w)
  have hT := (MapKept.heap_alloc w (.cells zob 40)).1
  have p1 := keepb hbA hp
  have a1 := keepb hbA ha
  obtain ⟨l1, l2, l3, l4⟩ := X.lt
  generalize hfv : (if any then Value.nilFunc else .func (.func 11) #[.pointer (some ⟨dv, 0, none⟩)] #[]) = fv
  have HFV : Hid ((if any then Value.nilFunc else .func (.func 11) #[.pointer (some ⟨dv, 0, none⟩)] #[]) = fv) := hfv
  clear hfv X1
  go_enter Yba.func10, Yba.ntmps10
  go_upto_if 22 with fail
  go_cut [10] (fun v wx => v = fv ∧ (w.alloc (.cells zob 40)) = wx)
  case first =>
    cases any
    · go_wp2_with fail
      go_meet
      exact ⟨HFV.out, rfl⟩
    · go_wp2_with fail
      go_meet
      exact ⟨HFV.out, rfl⟩
  case rest =>
    obtain ⟨hv10, rfl⟩ := hcut
    cases hv10
    go_wp2_with fail
    refine hid.mono ?_
    rintro e w1 ⟨ib, db, gb, ob, mp, rfl, LK, I, O⟩
    have hT1 := (LK.g.block w.heap.size (by simp) (by simp; omega)).trans hT
    have p2 := keepg LK.g p1 (World.block_lt_of_cell? _ _ p1) hpd
    have a2 := keepg LK.g a1 (World.block_lt_of_cell? _ _ a1) had
    clear hid hT p1 a1 hp ha
    have hbB := bal (o := .cells #[.string (kd q)] 31) (Below.refl _ w1)
    have a3 : (w1.alloc (.cells #[.string (kd q)] 31)).cell? ⟨ab, 0, none⟩ = some (.int .u16 (ka q)) := cell_alloc a2
    have I2 := I.next (below_grown hbB) l1
    have X2 := LK.X.below hbB
    have LK2 := LK.below hbB
    have hT2 := (hbB.block w.heap.size (lt_of_heap hT1)).trans hT1
    by_cases hq : q ∈ firsts qf n
    · obtain ⟨b, hat, hbn, hqb⟩ : ∃ b : Nat, atOf qf lv q n = b ∧ b < n ∧ qf b = q := by
        rcases atOf_spec qf lv q n with ⟨_, h⟩ | ⟨b, h1, h2, h3, _⟩
        · obtain ⟨k, h1, h2⟩ := firsts_from qf n q hq
          exact absurd h2 (h k h1)
        · exact ⟨b, h1, h2, h3⟩
      have hbst : (fun m => atOf qf lv ((firsts qf n).getD m 0) n) ((firsts qf n).idxOf q) = (b : Int) := by
        have hl := List.idxOf_lt_length_of_mem hq
        have e : (firsts qf n).getD ((firsts qf n).idxOf q) 0 = q := by simp [List.getD, hl]
        show atOf qf lv ((firsts qf n).getD ((firsts qf n).idxOf q) 0) n = b
        rw [e]
        exact hat
      have hbest := best_yes N cb n ccap ib db gb ob mp (firsts qf n) _ qf lv cd kn q dv any b _ I2 (by omega) hq X2.S hbn hbst X2.h46 (by have := X2.lt; omega)
      rw [HFV.out] at hbest
      have HA : Hid (atOf qf lv q n = b) := hat
      have hbn' : (b : Int) < (n : Int) := by omega
      clear hat hbst hqb
      go_wp2_with fail
      refine wp_loop_rounds 2 ?_
      rw [rounds_succ]
      go_wp2_with fail
      refine wp_loop_rounds 2 ?_
      rw [rounds_succ]
      go_wp2_with fail
      refine hbest.mono ?_
      rintro e w3 ⟨rfl, hb3⟩
      have hT3 := (hb3.block w.heap.size (lt_of_heap hT2)).trans hT2
      have LK3 := LK2.below hb3
      clear hbest hb3 hT2 LK2 X2 I2 LK I hT1
      have X3 := LK3.X
      have x20 := X3.h20
      have s0 := X3.S.s0 b hbn
      have s1 := X3.S.s1 b hbn
      have s2 := X3.S.s2 b hbn
      have s3 := X3.S.s3 b hbn
      have s4 := X3.S.s4 b hbn
      have s5 := X3.S.s5 b hbn
      have hlt3 := lt_of_heap hT3
      have LK4 := LK3.below (bal (o := .cells (oba qf lv cd kn b) 40) (Below.refl _ w3))
      have hT4 : (w3.alloc (.cells (oba qf lv cd kn b) 40)).heap[w.heap.size]? = some (.cells zob 40 (0, 0)) := (Below.heap_alloc _ _ _ hlt3).trans hT3
      have n0 : (w3.alloc (.cells (oba qf lv cd kn b) 40)).heap[w3.heap.size]? = some (.cells (oba qf lv cd kn b) 40 (0, 0)) := (MapKept.heap_alloc w3 _).1
      go_upto_region 16 with fail
      clear s0 s1 s2 s3 s4 s5 x20 X3
      generalize w3.alloc (.cells (oba qf lv cd kn b) 40) = W4 at *
      have m0 : W4.cell? ⟨w3.heap.size, 0, none⟩ = some (.string (kd (qf b))) := cell_of n0 rfl
      have m1 : W4.cell? ⟨w3.heap.size, 1, none⟩ = some (.int .u16 (ka (qf b))) := cell_of n0 rfl
      have m2 : W4.cell? ⟨w3.heap.size, 2, none⟩ = some (.bool false) := cell_of n0 rfl
      have m3 : W4.cell? ⟨w3.heap.size, 3, none⟩ = some (.int .i64 (lv b)) := cell_of n0 rfl
      have m4 : W4.cell? ⟨w3.heap.size, 4, none⟩ = some (.int .u32 (cd b)) := cell_of n0 rfl
      have m5 : W4.cell? ⟨w3.heap.size, 5, none⟩ = some (.bool (kn b)) := cell_of n0 rfl
      have z0 : W4.cell? ⟨w.heap.size, 0, none⟩ = some (.string ⟨#[]⟩) := cell_of hT4 rfl
      have z1 : W4.cell? ⟨w.heap.size, 1, none⟩ = some (.int .u16 0) := cell_of hT4 rfl
      have z2 : W4.cell? ⟨w.heap.size, 2, none⟩ = some (.bool false) := cell_of hT4 rfl
      have z3 : W4.cell? ⟨w.heap.size, 3, none⟩ = some (.int .i64 0) := cell_of hT4 rfl
      have z4 : W4.cell? ⟨w.heap.size, 4, none⟩ = some (.int .u32 0) := cell_of hT4 rfl
      have z5 : W4.cell? ⟨w.heap.size, 5, none⟩ = some (.bool false) := cell_of hT4 rfl
      have f0 : W4.frozen? ⟨w.heap.size, 0, none⟩ = false := fz_of hT4
      have f1 : W4.frozen? ⟨w.heap.size, 1, none⟩ = false := fz_of hT4
      have f2 : W4.frozen? ⟨w.heap.size, 2, none⟩ = false := fz_of hT4
      have f3 : W4.frozen? ⟨w.heap.size, 3, none⟩ = false := fz_of hT4
      have f4 : W4.frozen? ⟨w.heap.size, 4, none⟩ = false := fz_of hT4
      have f5 : W4.frozen? ⟨w.heap.size, 5, none⟩ = false := fz_of hT4
      have hN3 : w3.heap.size ≠ w.heap.size := by omega
      generalize w3.heap.size = N3 at *
      go_upto_region 17 with fail
      have hst := st6 (.string (kd (qf b))) (.int .u16 (ka (qf b))) (.bool false) (.int .i64 (lv b)) (.int .u32 (cd b)) (.bool (kn b)) hT4
      have hgr := gr6 W4 w.heap.size (.string (kd (qf b))) (.int .u16 (ka (qf b))) (.bool false) (.int .i64 (lv b)) (.int .u32 (cd b)) (.bool (kn b))
      generalize (((((W4.setCell ⟨w.heap.size, 0, none⟩ (.string (kd (qf b)))).setCell ⟨w.heap.size, 1, none⟩ (.int .u16 (ka (qf b)))).setCell ⟨w.heap.size, 2, none⟩ (.bool false)).setCell ⟨w.heap.size, 3, none⟩ (.int .i64 (lv b))).setCell ⟨w.heap.size, 4, none⟩ (.int .u32 (cd b))).setCell ⟨w.heap.size, 5, none⟩ (.bool (kn b)) = W5 at hst hgr ⊢
      clear m0 z0 f0
      clear m1 z1 f1
      clear m2 z2 f2
      clear m3 z3 f3
      clear m4 z4 f4
      clear m5 z5 f5
      have z0 : W5.cell? ⟨w.heap.size, 0, none⟩ = some (.string (kd (qf b))) := cell_of hst rfl
      have z1 : W5.cell? ⟨w.heap.size, 1, none⟩ = some (.int .u16 (ka (qf b))) := cell_of hst rfl
      have z2 : W5.cell? ⟨w.heap.size, 2, none⟩ = some (.bool false) := cell_of hst rfl
      have z3 : W5.cell? ⟨w.heap.size, 3, none⟩ = some (.int .i64 (lv b)) := cell_of hst rfl
      have z4 : W5.cell? ⟨w.heap.size, 4, none⟩ = some (.int .u32 (cd b)) := cell_of hst rfl
      have z5 : W5.cell? ⟨w.heap.size, 5, none⟩ = some (.bool (kn b)) := cell_of hst rfl
      have f0 : W5.frozen? ⟨w.heap.size, 0, none⟩ = false := fz_of hst
      have f1 : W5.frozen? ⟨w.heap.size, 1, none⟩ = false := fz_of hst
      have f2 : W5.frozen? ⟨w.heap.size, 2, none⟩ = false := fz_of hst
      have f3 : W5.frozen? ⟨w.heap.size, 3, none⟩ = false := fz_of hst
      have f4 : W5.frozen? ⟨w.heap.size, 4, none⟩ = false := fz_of hst
      have f5 : W5.frozen? ⟨w.heap.size, 5, none⟩ = false := fz_of hst
      have HST : Hid _ := hst
      have HGR : Hid _ := hgr
      clear hst hgr
      go_wp2_with fail
      rw [rounds_succ]
      go_wp2_with fail
      rw [rounds_succ]
      go_wp2_with fail
      have hst2 := st6 (.string (kd (qf b))) (.int .u16 (ka (qf b))) (.bool false) (.int .i64 (lv b)) (.int .u32 (cd b)) (.bool (kn b)) HST.out
      have hgr2 := gr6 W5 w.heap.size (.string (kd (qf b))) (.int .u16 (ka (qf b))) (.bool false) (.int .i64 (lv b)) (.int .u32 (cd b)) (.bool (kn b))
      have hgF : W4.grownBy ((((((W5.setCell ⟨w.heap.size, 0, none⟩ (.string (kd (qf b)))).setCell ⟨w.heap.size, 1, none⟩ (.int .u16 (ka (qf b)))).setCell ⟨w.heap.size, 2, none⟩ (.bool false)).setCell ⟨w.heap.size, 3, none⟩ (.int .i64 (lv b))).setCell ⟨w.heap.size, 4, none⟩ (.int .u32 (cd b))).setCell ⟨w.heap.size, 5, none⟩ (.bool (kn b))) (some w.heap.size) := ⟨hgr2.os.trans HGR.out.os, hgr2.tape.trans HGR.out.tape, hgr2.output.trans HGR.out.output, Nat.le_trans HGR.out.size hgr2.size, fun k hk hne => (hgr2.block k (Nat.lt_of_lt_of_le hk HGR.out.size) hne).trans (HGR.out.block k hk hne)⟩
      have LKF := Looked.wrote hbA (by omega) l3 LK4 hgF (Nat.le_refl _) (.inr rfl) (fun s h => .inl h)
      generalize (((((W5.setCell ⟨w.heap.size, 0, none⟩ (.string (kd (qf b)))).setCell ⟨w.heap.size, 1, none⟩ (.int .u16 (ka (qf b)))).setCell ⟨w.heap.size, 2, none⟩ (.bool false)).setCell ⟨w.heap.size, 3, none⟩ (.int .i64 (lv b))).setCell ⟨w.heap.size, 4, none⟩ (.int .u32 (cd b))).setCell ⟨w.heap.size, 5, none⟩ (.bool (kn b)) = W9 at hst2 LKF ⊢
      have y0 : W9.cell? ⟨w.heap.size, 0, none⟩ = some (.string (kd (qf b))) := cell_of hst2 rfl
      have y1 : W9.cell? ⟨w.heap.size, 1, none⟩ = some (.int .u16 (ka (qf b))) := cell_of hst2 rfl
      have y2 : W9.cell? ⟨w.heap.size, 2, none⟩ = some (.bool false) := cell_of hst2 rfl
      have y3 : W9.cell? ⟨w.heap.size, 3, none⟩ = some (.int .i64 (lv b)) := cell_of hst2 rfl
      have y4 : W9.cell? ⟨w.heap.size, 4, none⟩ = some (.int .u32 (cd b)) := cell_of hst2 rfl
      have y5 : W9.cell? ⟨w.heap.size, 5, none⟩ = some (.bool (kn b)) := cell_of hst2 rfl
      exact bodyPost_ret (v := .tuple #[.agg (oba qf lv cd kn b), .bool true]) (by simp [results, Yba.results10, go_sem, y0, y1, y2, y3, y4, y5]) rfl ⟨LKF, .inl ⟨b, HA.out, rfl⟩⟩
    · have hat : atOf qf lv q n = -1 := by
        rcases atOf_spec qf lv q n with ⟨h, _⟩ | ⟨b, _, hb, hqb, _⟩
        · exact h
        · exact absurd (hqb ▸ firsts_mem qf n b hb) hq
      have hbest := best_no N cb n ccap ib db gb ob mp (firsts qf n) _ q fv _ I2 (by omega) hq
      have HA : Hid (atOf qf lv q n = -1) := hat
      clear hat
      go_wp2_with fail
      refine wp_loop_rounds 2 ?_
      rw [rounds_succ]
      go_wp2_with fail
      refine wp_loop_rounds 2 ?_
      rw [rounds_succ]
      go_wp2_with fail
      refine hbest.mono ?_
      rintro e w3 ⟨rfl, hb3⟩
      have hT3 := (hb3.block w.heap.size (lt_of_heap hT2)).trans hT2
      have LK3 := LK2.below hb3
      clear hbest hb3 hT2 LK2 X2 I2 LK I hT1
      have z0 : w3.cell? ⟨w.heap.size, 0, none⟩ = some (.string ⟨#[]⟩) := cell_of hT3 rfl
      have z1 : w3.cell? ⟨w.heap.size, 1, none⟩ = some (.int .u16 0) := cell_of hT3 rfl
      have z2 : w3.cell? ⟨w.heap.size, 2, none⟩ = some (.bool false) := cell_of hT3 rfl
      have z3 : w3.cell? ⟨w.heap.size, 3, none⟩ = some (.int .i64 0) := cell_of hT3 rfl
      have z4 : w3.cell? ⟨w.heap.size, 4, none⟩ = some (.int .u32 0) := cell_of hT3 rfl
      have z5 : w3.cell? ⟨w.heap.size, 5, none⟩ = some (.bool false) := cell_of hT3 rfl
      have f0 : w3.frozen? ⟨w.heap.size, 0, none⟩ = false := fz_of hT3
      have f1 : w3.frozen? ⟨w.heap.size, 1, none⟩ = false := fz_of hT3
      have f2 : w3.frozen? ⟨w.heap.size, 2, none⟩ = false := fz_of hT3
      have f3 : w3.frozen? ⟨w.heap.size, 3, none⟩ = false := fz_of hT3
      have f4 : w3.frozen? ⟨w.heap.size, 4, none⟩ = false := fz_of hT3
      have f5 : w3.frozen? ⟨w.heap.size, 5, none⟩ = false := fz_of hT3
      go_wp2_with fail
      rw [rounds_succ]
      go_wp2_with fail
      rw [rounds_succ]
      go_wp2_with fail
      have hst := st6 (.string ⟨#[]⟩) (.int .u16 0) (.bool false) (.int .i64 0) (.int .u32 0) (.bool false) hT3
      have hgr := gr6 w3 w.heap.size (.string ⟨#[]⟩) (.int .u16 0) (.bool false) (.int .i64 0) (.int .u32 0) (.bool false)
      have LKF := Looked.wrote hbA (by omega) l3 LK3 hgr (Nat.le_refl _) (.inr rfl) (fun s h => .inl h)
      generalize (((((w3.setCell ⟨w.heap.size, 0, none⟩ (.string ⟨#[]⟩)).setCell ⟨w.heap.size, 1, none⟩ (.int .u16 0)).setCell ⟨w.heap.size, 2, none⟩ (.bool false)).setCell ⟨w.heap.size, 3, none⟩ (.int .i64 0)).setCell ⟨w.heap.size, 4, none⟩ (.int .u32 0)).setCell ⟨w.heap.size, 5, none⟩ (.bool false) = W9 at hst hgr LKF ⊢
      have y0 : W9.cell? ⟨w.heap.size, 0, none⟩ = some (.string ⟨#[]⟩) := cell_of hst rfl
      have y1 : W9.cell? ⟨w.heap.size, 1, none⟩ = some (.int .u16 0) := cell_of hst rfl
      have y2 : W9.cell? ⟨w.heap.size, 2, none⟩ = some (.bool false) := cell_of hst rfl
      have y3 : W9.cell? ⟨w.heap.size, 3, none⟩ = some (.int .i64 0) := cell_of hst rfl
      have y4 : W9.cell? ⟨w.heap.size, 4, none⟩ = some (.int .u32 0) := cell_of hst rfl
      have y5 : W9.cell? ⟨w.heap.size, 5, none⟩ = some (.bool false) := cell_of hst rfl
      exact bodyPost_ret (v := .tuple #[.agg zob, .bool false]) (by simp [results, Yba.results10, go_sem, y0, y1, y2, y3, y4, y5]) rfl ⟨LKF, .inr ⟨HA.out, rfl⟩⟩
end Go.Proofs.Ybulkcueg
