import Derived.Test.YbulkcuegDv
import Derived.Deep.LoopGhost
import Derived.BigRegion
namespace Go.Proofs.Ybulkcueg
open Go.RowKit Go.Maps

/-- the candidates' row -/
structure Cs (w : World) (rb nc : Nat) (cq : Nat → Fin 9) (cr ce : Nat → Int) (co : Nat → Bool) : Prop where
  c0 : ∀ i, i < nc → w.cell? ⟨rb, i * 6, none⟩ = some (.string (kd (cq i)))
  c1 : ∀ i, i < nc → w.cell? ⟨rb, i * 6 + 1, none⟩ = some (.int .u16 (ka (cq i)))
  c2 : ∀ i, i < nc → w.cell? ⟨rb, i * 6 + 2, none⟩ = some (.int .u8 (cr i))
  c3 : ∀ i, i < nc → w.cell? ⟨rb, i * 6 + 3, none⟩ = some (.int .u8 0)
  c4 : ∀ i, i < nc → w.cell? ⟨rb, i * 6 + 4, none⟩ = some (.int .i64 (ce i))
  c5 : ∀ i, i < nc → w.cell? ⟨rb, i * 6 + 5, none⟩ = some (.bool (co i))

/-- another cell of the device is written -/
theorem DX.put {N : Nat} {T : Nat → Prop} {w : World} {dv cb n ccap : Nat} {qf : Nat → Fin 9} {lv cd : Nat → Int} {kn : Nat → Bool} (h : DX N T w dv cb n ccap qf lv cd kn) (k : Nat) (v : Value) (h1 : k ≠ 20) (h2 : k ≠ 21) (h3 : k ≠ 46) : DX N T (w.setCell ⟨dv, k, none⟩ v) dv cb n ccap qf lv cd kn := by
  obtain ⟨l1, l2, l3, l4⟩ := h.lt
  have oth : ∀ j, j ≠ k → (w.setCell ⟨dv, k, none⟩ v).cell? ⟨dv, j, none⟩ = w.cell? ⟨dv, j, none⟩ := fun j hj => World.cell?_setCell_other _ _ _ _ (fun e => hj (by simpa using (congrArg Addr.off e).symm))
  have hg : w.grownBy (w.setCell ⟨dv, k, none⟩ v) (some dv) := gr1 _ (World.grownBy.refl _ _)
  refine ⟨(oth 20 (by omega)).trans h.h20, (oth 46 (by omega)).trans h.h46, fun j => by rw [World.frozen?_setCell]; exact h.fz j, h.S.of_block (Below.heap_setCell _ _ _ _ l4), ?_, l1, l2, Nat.le_trans l3 hg.size, l4⟩
  rcases h.ix with e | ⟨ib, db, gb, ob, mp, e, I, O⟩
  · exact .inl ((oth 21 (by omega)).trans e)
  · exact .inr ⟨ib, db, gb, ob, mp, (oth 21 (by omega)).trans e, I.next hg l1, O⟩

/-- the state and the try are written -/
theorem put9 {W : World} {dv : Nat} {dc : Array Value} (h : W.heap[dv]? = some (.cells dc 71 (0, 0))) (hs : dc.size = 47) (v s0 s1 s2 s3 s4 s5 s6 s7 : Value) :
    ∃ dc', (((((((((W.setCell ⟨dv, 22, none⟩ v).setCell ⟨dv, 27, none⟩ s0).setCell ⟨dv, 28, none⟩ s1).setCell ⟨dv, 29, none⟩ s2).setCell ⟨dv, 30, none⟩ s3).setCell ⟨dv, 31, none⟩ s4).setCell ⟨dv, 32, none⟩ s5).setCell ⟨dv, 33, none⟩ s6).setCell ⟨dv, 34, none⟩ s7).heap[dv]? = some (.cells dc' 71 (0, 0)) ∧ dc'.size = 47 ∧ dc'[22]? = some v ∧ (dc'[27]? = some s0 ∧ dc'[28]? = some s1 ∧ dc'[29]? = some s2 ∧ dc'[30]? = some s3 ∧ dc'[31]? = some s4 ∧ dc'[32]? = some s5 ∧ dc'[33]? = some s6 ∧ dc'[34]? = some s7) ∧ ∀ k, k ≠ 22 → (k < 27 ∨ 34 < k) → dc'[k]? = dc[k]? := by
  refine ⟨_, heap_set s7 (heap_set s6 (heap_set s5 (heap_set s4 (heap_set s3 (heap_set s2 (heap_set s1 (heap_set s0 (heap_set v h)))))))), by simpa using hs, by simp [hs], ⟨by simp [hs], by simp [hs], by simp [hs], by simp [hs], by simp [hs], by simp [hs], by simp [hs], by simp [hs]⟩, fun k k1 k2 => ?_⟩
  rw [Array.getElem?_setIfInBounds, if_neg (by omega), Array.getElem?_setIfInBounds, if_neg (by omega), Array.getElem?_setIfInBounds, if_neg (by omega), Array.getElem?_setIfInBounds, if_neg (by omega), Array.getElem?_setIfInBounds, if_neg (by omega), Array.getElem?_setIfInBounds, if_neg (by omega), Array.getElem?_setIfInBounds, if_neg (by omega), Array.getElem?_setIfInBounds, if_neg (by omega), Array.getElem?_setIfInBounds, if_neg (by omega)]

/-- what next leaves, whichever way it ends -/
structure Nx (w w' : World) (dv nc left : Nat) (dc0 : Array Value) (hf : Bool) (q0 : Fin 9) (i st : Nat) (dc : Array Value) : Prop where
  g : w.grownBy w' (some dv)
  hp : w'.heap[dv]? = some (.cells dc 71 (0, 0))
  sz : dc.size = 47
  c35 : ∃ ad c, dc[35]? = some (.slice ad left c)
  fb : FB dc dc0 hf q0 i
  st : dc[22]? = some (.int .u8 (st : Nat))
abbrev try8 (q : Fin 9) (r e : Int) (o : Bool) (c : Int) (k : Bool) : Array Value := #[.string (kd q), .int .u16 (ka q), .int .u8 r, .int .u8 0, .int .i64 e, .bool o, .int .u32 c, .bool k]

/-- the fallback's cells -/
def Fs (dc : Array Value) (F0 : ByteArray) (F1 F2 F3 F4 : Int) (hs : Bool) : Prop := dc[37]? = some (.string F0) ∧ dc[38]? = some (.int .u16 F1) ∧ dc[39]? = some (.int .u8 F2) ∧ dc[40]? = some (.int .u8 F3) ∧ dc[41]? = some (.int .i64 F4) ∧ dc[42]? = some (.bool hs)

/-- the four ends behind the candidates -/
def Ends (bk : Option Nat) (mn hs : Bool) (back : Array Value) (E0 E1 E2 : Int) (F0 : ByteArray) (F1 F2 F3 F4 : Int) (st : Nat) (dc : Array Value) (e : Ending) : Prop :=
  ((∃ b, bk = some b) ∧ st = 1 ∧ e = .returned (.iface 67 (.agg back)) ∧ (∀ k, k < 8 → dc[27 + k]? = back[k]?) ∧ dc[36]? = some (.pointer none)) ∨
  (bk = none ∧ mn = true ∧ st = 5 ∧ e = .returned (.iface 76 (.agg #[.int .u8 (if hs then F2 else E0), .int .u8 (if hs then F3 else E1), .int .i64 (if hs then F4 else E2)]))) ∨
  (bk = none ∧ mn = false ∧ hs = true ∧ st = 3 ∧ e = .returned (.iface 51 (.agg #[.string F0, .int .u16 F1, .int .u8 F2, .int .u8 F3, .int .i64 F4])) ∧ dc[23]? = some (.string F0) ∧ dc[24]? = some (.int .u16 F1)) ∨
  (bk = none ∧ mn = false ∧ hs = false ∧ st = 4 ∧ e = .returned (.iface 77 (.agg #[.int .u8 E0, .int .u8 E1, .int .i64 E2])))

theorem grow_below {w wr W : World} {T : Option Nat} (a : w.grownBy wr T) (b : Below wr.heap.size wr W) : w.grownBy W T :=
  ⟨b.os.trans a.os, b.tape.trans a.tape, b.output.trans a.output, Nat.le_trans a.size b.size, fun k hk hne => (b.block k (Nat.lt_of_lt_of_le hk a.size)).trans (a.block k hk hne)⟩

theorem put1 {w W : World} {dv : Nat} {dc : Array Value} (g : w.grownBy W (some dv)) (h : W.heap[dv]? = some (.cells dc 71 (0, 0))) (hs : dc.size = 47) (v : Value) :
    w.grownBy (W.setCell ⟨dv, 22, none⟩ v) (some dv) ∧ (W.setCell ⟨dv, 22, none⟩ v).heap[dv]? = some (.cells (dc.setIfInBounds 22 v) 71 (0, 0)) ∧ (dc.setIfInBounds 22 v).size = 47 ∧ (dc.setIfInBounds 22 v)[22]? = some v ∧ ∀ k, 25 ≤ k → (dc.setIfInBounds 22 v)[k]? = dc[k]? :=
  ⟨gr1 _ g, heap_set v h, by simpa using hs, by simp [hs], fun k hk => by rw [Array.getElem?_setIfInBounds, if_neg (by omega)]⟩

theorem put3 {w W : World} {dv : Nat} {dc : Array Value} (g : w.grownBy W (some dv)) (h : W.heap[dv]? = some (.cells dc 71 (0, 0))) (hs : dc.size = 47) (v a b : Value) :
    w.grownBy (((W.setCell ⟨dv, 22, none⟩ v).setCell ⟨dv, 23, none⟩ a).setCell ⟨dv, 24, none⟩ b) (some dv) ∧ (((W.setCell ⟨dv, 22, none⟩ v).setCell ⟨dv, 23, none⟩ a).setCell ⟨dv, 24, none⟩ b).heap[dv]? = some (.cells (((dc.setIfInBounds 22 v).setIfInBounds 23 a).setIfInBounds 24 b) 71 (0, 0)) ∧ (((dc.setIfInBounds 22 v).setIfInBounds 23 a).setIfInBounds 24 b).size = 47 ∧ (((dc.setIfInBounds 22 v).setIfInBounds 23 a).setIfInBounds 24 b)[22]? = some v ∧ ((((dc.setIfInBounds 22 v).setIfInBounds 23 a).setIfInBounds 24 b)[23]? = some a ∧ (((dc.setIfInBounds 22 v).setIfInBounds 23 a).setIfInBounds 24 b)[24]? = some b) ∧ ∀ k, 25 ≤ k → (((dc.setIfInBounds 22 v).setIfInBounds 23 a).setIfInBounds 24 b)[k]? = dc[k]? :=
  ⟨gr1 _ (gr1 _ (gr1 _ g)), heap_set b (heap_set a (heap_set v h)), by simpa using hs, by simp [hs], ⟨by simp [hs], by simp [hs]⟩, fun k hk => by rw [Array.getElem?_setIfInBounds, if_neg (by omega), Array.getElem?_setIfInBounds, if_neg (by omega), Array.getElem?_setIfInBounds, if_neg (by omega)]⟩

theorem DV.nx {w wr W : World} {dv rb nc rcap st : Nat} {dc0 dc dc9 : Array Value} {hf : Bool} {q0 : Fin 9} (h : DV wr dv rb nc rcap dc0 hf q0 nc dc) (g : w.grownBy W (some dv)) (p1 : W.heap[dv]? = some (.cells dc9 71 (0, 0))) (p2 : dc9.size = 47) (p3 : dc9[22]? = some (.int .u8 (st : Nat))) (p5 : ∀ k, 25 ≤ k → dc9[k]? = dc[k]?) : Nx w W dv nc 0 dc0 hf q0 nc st dc9 := by
  obtain ⟨ad, h1, _⟩ := h.c35
  rw [Nat.sub_self] at h1
  refine ⟨g, p1, p2, ⟨ad, _, (p5 35 (by omega)).trans h1⟩, ⟨fun h' k k1 k2 => (p5 k (by omega)).trans (h.fb.old h' k k1 k2), fun h' h'' => ?_⟩, p3⟩
  obtain ⟨f1, f2, f3, f4, f5, f6⟩ := h.fb.new h' h''
  exact ⟨(p5 _ (by omega)).trans f1, (p5 _ (by omega)).trans f2, (p5 _ (by omega)).trans f3, (p5 _ (by omega)).trans f4, (p5 _ (by omega)).trans f5, (p5 _ (by omega)).trans f6⟩

theorem neq68s (a : Addr) (w : World) : (binOp .neq 68 (.pointer (some a)) (.pointer none)).run Yba.prog w = .ok (.bool true) w := by kernel_rfl
theorem neq68n (w : World) : (binOp .neq 68 (.pointer none) (.pointer none)).run Yba.prog w = .ok (.bool false) w := by kernel_rfl

set_option maxRecDepth 100000 in
set_option maxHeartbeats 1000000 in
theorem next_any (N dv cb n ccap rb nc rcap : Nat) (qf : Nat → Fin 9) (lv cd : Nat → Int) (kn : Nat → Bool) (cq : Nat → Fin 9) (cr ce : Nat → Int) (co : Nat → Bool) (hf : Bool) (dc0 : Array Value)
    (mn : Bool) (bk : Option Nat) (bq : Fin 9) (br be : Int) (bo : Bool) (bc : Int) (bn : Bool) (E0 E1 E2 : Int) (F0 : ByteArray) (F1 F2 F3 F4 : Int) (hs : Bool) (w : World)
    (hn : n ≤ 400) (hnc : nc ≤ 400) (hrc : nc ≤ rcap) (X : DX N (fun _ => False) w dv cb n ccap qf lv cd kn) (C : Cs w rb nc cq cr ce co) (hrd : rb ≠ dv) (hrN : rb < N)
    (D : DV w dv rb nc rcap dc0 hf (cq 0) 0 dc0) (h42 : dc0[42]? = some (.bool hf))
    (h9 : dc0[9]? = some (.int .u8 (if mn then 1 else 0))) (h36 : dc0[36]? = some (.pointer (bk.map fun b => ⟨b, 0, none⟩))) (hbk : ∀ b, bk = some b → b ≠ dv ∧ w.heap[b]? = some (.cells (try8 bq br be bo bc bn) 67 (0, 0)))
    (h43 : dc0[43]? = some (.int .u8 E0)) (h44 : dc0[44]? = some (.int .u8 E1)) (h45 : dc0[45]? = some (.int .i64 E2))
    (hF : ∀ dc, FB dc dc0 hf (cq 0) nc → Fs dc F0 F1 F2 F3 F4 hs) :
    Calls Yba.prog 6 #[.pointer (some ⟨dv, 0, none⟩)] w fun e w' =>
      (∃ i b : Nat, i < nc ∧ (∀ j, j < i → atOf qf lv (cq j) n = -1) ∧ atOf qf lv (cq i) n = b ∧ e = .returned (.iface 67 (.agg (try8 (cq i) (cr i) (ce i) (co i) (cd b) (kn b)))) ∧ ∃ dc, Nx w w' dv nc (nc - (i + 1)) dc0 hf (cq 0) i 1 dc ∧ (∀ k, k < 8 → dc[27 + k]? = (try8 (cq i) (cr i) (ce i) (co i) (cd b) (kn b))[k]?) ∧ dc[36]? = dc0[36]?) ∨
      ((∀ j, j < nc → atOf qf lv (cq j) n = -1) ∧ ∃ st dc, Nx w w' dv nc 0 dc0 hf (cq 0) nc st dc ∧ Ends bk mn hs (try8 bq br be bo bc bn) E0 E1 E2 F0 F1 F2 F3 F4 st dc e) := by
  go_enter Yba.func6, Yba.ntmps6
  go_wp2_with fail
  go_loopg [3] nc (fun k _ wr => ∃ i dc, i + k = nc ∧ w.grownBy wr (some dv) ∧ DX N (fun _ => False) wr dv cb n ccap qf lv cd kn ∧ DV wr dv rb nc rcap dc0 hf (cq 0) i dc ∧ ∀ j, j < i → atOf qf lv (cq j) n = -1)
  case atStart => exact ⟨0, dc0, by omega, World.grownBy.refl _ _, X, D, fun j hj => by omega⟩
  case round =>
    obtain ⟨i, dc, hik, hg, Xr, Dr, hno⟩ := hrel
    obtain ⟨ad, h35, had⟩ := Dr.c35
    have x35 : wr.cell? ⟨dv, 35, none⟩ = some (.slice ad (nc - i) (rcap - i)) := cell_of Dr.hp h35
    have y35 : wr.frozen? ⟨dv, 35, none⟩ = false := fz_of Dr.hp
    by_cases hin : i < nc
    · obtain rfl := had hin
      have hpos : (0 : Int) < ((nc - i : Nat) : Int) := by omega
      have k0 := keepg hg (C.c0 i hin) (by have := X.lt; omega) hrd
      have k1 := keepg hg (C.c1 i hin) (by have := X.lt; omega) hrd
      have k2 := keepg hg (C.c2 i hin) (by have := X.lt; omega) hrd
      have k3 := keepg hg (C.c3 i hin) (by have := X.lt; omega) hrd
      have k4 := keepg hg (C.c4 i hin) (by have := X.lt; omega) hrd
      have k5 := keepg hg (C.c5 i hin) (by have := X.lt; omega) hrd
      have Hno : Hid _ := hno
      clear hno
      have hbc := bal (o := .cells #[.string (kd (cq i)), .int .u16 (ka (cq i)), .int .u8 (cr i), .int .u8 0, .int .i64 (ce i), .bool (co i)] 47) (Below.refl _ wr)
      have D1 := Dr.below hbc
      have X1 := Xr.below hbc
      have c3 := (MapKept.heap_alloc wr (.cells #[.string (kd (cq i)), .int .u16 (ka (cq i)), .int .u8 (cr i), .int .u8 0, .int .i64 (ce i), .bool (co i)] 47)).1
      have hdN := lt_of_heap Dr.hp
      have HG : Hid (w.grownBy (wr.alloc (.cells #[.string (kd (cq i)), .int .u16 (ka (cq i)), .int .u8 (cr i), .int .u8 0, .int .i64 (ce i), .bool (co i)] 47)) (some dv)) := ⟨hg.os, hg.tape, hg.output, Nat.le_trans hg.size hbc.size, fun b hb hne => (hbc.block b (Nat.lt_of_lt_of_le hb hg.size)).trans (hg.block b hb hne)⟩
      go_upto_region 3 with fail
      generalize wr.alloc (.cells #[.string (kd (cq i)), .int .u16 (ka (cq i)), .int .u8 (cr i), .int .u8 0, .int .i64 (ce i), .bool (co i)] 47) = W1 at *
      clear x35 y35 k0 k1 k2 k3 k4 k5 hbc Xr Dr hg
      have x35 : W1.cell? ⟨dv, 35, none⟩ = some (.slice (some ⟨rb, i * 6, none⟩) (nc - i) (rcap - i)) := cell_of D1.hp h35
      have y35 : W1.frozen? ⟨dv, 35, none⟩ = false := fz_of D1.hp
      have hle : (1 : Int) ≤ ((nc - i : Nat) : Int) := by omega
      have hle2 : ((nc - i : Nat) : Int) ≤ ((rcap - i : Nat) : Int) := by omega
      go_upto_region 4 with fail
      obtain ⟨ad1, had0⟩ : ∃ ad1, ad1 = (if rcap - i = 1 then some (⟨rb, i * 6, none⟩ : Addr) else some ⟨rb, i * 6 + 6, none⟩) := ⟨_, rfl⟩
      have had1 : i + 1 < nc → ad1 = some ⟨rb, (i + 1) * 6, none⟩ := fun h => by rw [had0, if_neg (by omega), Nat.succ_mul]
      rw [← had0, Nat.sub_sub, Nat.sub_sub]
      clear had0 x35 y35
      have H2 := Half.of D1 ad1 had1
      have X2 := X1.put 35 (.slice ad1 (nc - (i + 1)) (rcap - (i + 1))) (by omega) (by omega) (by omega)
      have hBd : wr.heap.size ≠ dv := by omega
      have c3' := (Below.heap_setCell W1 ⟨dv, 35, none⟩ (.slice ad1 (nc - (i + 1)) (rcap - (i + 1))) _ hBd).trans c3
      have HG2 : Hid _ := gr1 (k := 35) (.slice ad1 (nc - (i + 1)) (rcap - (i + 1))) HG.out
      generalize W1.setCell ⟨dv, 35, none⟩ (.slice ad1 (nc - (i + 1)) (rcap - (i + 1))) = W2 at *
      clear D1 X1 c3 HG h35
      generalize wr.heap.size = B3 at *
      have t0 : W2.cell? ⟨B3, 0, none⟩ = some (.string (kd (cq i))) := cell_of c3' rfl
      have t1 : W2.cell? ⟨B3, 1, none⟩ = some (.int .u16 (ka (cq i))) := cell_of c3' rfl
      have t2 : W2.cell? ⟨B3, 2, none⟩ = some (.int .u8 (cr i)) := cell_of c3' rfl
      have hcl := cell_any N _ dv cb n ccap qf lv cd kn (cq i) (cr i == 8) W2 hn X2 (fun t ht => ht.elim)
      go_wp2_with fail
      refine hcl.mono ?_
      rintro e W3 ⟨LK, hres⟩
      obtain ⟨dc3, H3⟩ := H2.looked LK
      have c4 := (LK.g.block B3 (lt_of_heap c3') (by simp; omega)).trans c3'
      have HG3 : Hid (w.grownBy W3 (some dv)) := by
        have a := HG2.out
        have b := LK.g
        exact ⟨b.os.trans a.os, b.tape.trans a.tape, b.output.trans a.output, Nat.le_trans a.size b.size, fun k hk hne => (b.block k (Nat.lt_of_lt_of_le hk a.size) hne).trans (a.block k hk hne)⟩
      have X3 := LK.X
      clear hcl LK H2 c3' X2 HG2 t0 t1 t2
      rcases hres with ⟨b, hat, rfl⟩ | ⟨hat, rfl⟩
      · have hbt := bal (o := .cells #[.int .u32 (cd b), .bool (kn b)] 38) (Below.refl _ W3)
        have H4 := H3.below hbt
        have c5 := (hbt.block B3 (lt_of_heap c4)).trans c4
        have c6 := (MapKept.heap_alloc W3 (.cells #[.int .u32 (cd b), .bool (kn b)] 38)).1
        have HG4 : Hid (w.grownBy (W3.alloc (.cells #[.int .u32 (cd b), .bool (kn b)] 38)) (some dv)) := ⟨hbt.os.trans HG3.out.os, hbt.tape.trans HG3.out.tape, hbt.output.trans HG3.out.output, Nat.le_trans HG3.out.size hbt.size, fun k hk hne => (hbt.block k (Nat.lt_of_lt_of_le hk HG3.out.size)).trans (HG3.out.block k hk hne)⟩
        have HA : Hid (atOf qf lv (cq i) n = (b : Int)) := hat
        have hd3 : dv < W3.heap.size := lt_of_heap H3.hp
        have hB3 : B3 < W3.heap.size := lt_of_heap c4
        clear hat H3 X3 c4 HG3 hbt
        go_upto_region 5 with fail
        generalize W3.alloc (.cells #[.int .u32 (cd b), .bool (kn b)] 38) = W4 at *
        generalize W3.heap.size = B4 at *
        have t0 : W4.cell? ⟨B3, 0, none⟩ = some (.string (kd (cq i))) := cell_of c5 rfl
        have t1 : W4.cell? ⟨B3, 1, none⟩ = some (.int .u16 (ka (cq i))) := cell_of c5 rfl
        have t2 : W4.cell? ⟨B3, 2, none⟩ = some (.int .u8 (cr i)) := cell_of c5 rfl
        have t3 : W4.cell? ⟨B3, 3, none⟩ = some (.int .u8 0) := cell_of c5 rfl
        have t4 : W4.cell? ⟨B3, 4, none⟩ = some (.int .i64 (ce i)) := cell_of c5 rfl
        have t5 : W4.cell? ⟨B3, 5, none⟩ = some (.bool (co i)) := cell_of c5 rfl
        have s0 : W4.cell? ⟨B4, 0, none⟩ = some (.int .u32 (cd b)) := cell_of c6 rfl
        have s1 : W4.cell? ⟨B4, 1, none⟩ = some (.bool (kn b)) := cell_of c6 rfl
        have ex : ∀ k, k < 47 → ∃ v, dc3[k]? = some v := fun k hk => ⟨dc3[k]'(by have := H4.sz; omega), by simp [show k < dc3.size by have := H4.sz; omega]⟩
        obtain ⟨v22, e22⟩ := ex 22 (by omega)
        have x22 : W4.cell? ⟨dv, 22, none⟩ = some v22 := cell_of H4.hp e22
        have y22 : W4.frozen? ⟨dv, 22, none⟩ = false := fz_of H4.hp
        clear e22
        obtain ⟨v27, e27⟩ := ex 27 (by omega)
        have x27 : W4.cell? ⟨dv, 27, none⟩ = some v27 := cell_of H4.hp e27
        have y27 : W4.frozen? ⟨dv, 27, none⟩ = false := fz_of H4.hp
        clear e27
        obtain ⟨v28, e28⟩ := ex 28 (by omega)
        have x28 : W4.cell? ⟨dv, 28, none⟩ = some v28 := cell_of H4.hp e28
        have y28 : W4.frozen? ⟨dv, 28, none⟩ = false := fz_of H4.hp
        clear e28
        obtain ⟨v29, e29⟩ := ex 29 (by omega)
        have x29 : W4.cell? ⟨dv, 29, none⟩ = some v29 := cell_of H4.hp e29
        have y29 : W4.frozen? ⟨dv, 29, none⟩ = false := fz_of H4.hp
        clear e29
        obtain ⟨v30, e30⟩ := ex 30 (by omega)
        have x30 : W4.cell? ⟨dv, 30, none⟩ = some v30 := cell_of H4.hp e30
        have y30 : W4.frozen? ⟨dv, 30, none⟩ = false := fz_of H4.hp
        clear e30
        obtain ⟨v31, e31⟩ := ex 31 (by omega)
        have x31 : W4.cell? ⟨dv, 31, none⟩ = some v31 := cell_of H4.hp e31
        have y31 : W4.frozen? ⟨dv, 31, none⟩ = false := fz_of H4.hp
        clear e31
        obtain ⟨v32, e32⟩ := ex 32 (by omega)
        have x32 : W4.cell? ⟨dv, 32, none⟩ = some v32 := cell_of H4.hp e32
        have y32 : W4.frozen? ⟨dv, 32, none⟩ = false := fz_of H4.hp
        clear e32
        obtain ⟨v33, e33⟩ := ex 33 (by omega)
        have x33 : W4.cell? ⟨dv, 33, none⟩ = some v33 := cell_of H4.hp e33
        have y33 : W4.frozen? ⟨dv, 33, none⟩ = false := fz_of H4.hp
        clear e33
        obtain ⟨v34, e34⟩ := ex 34 (by omega)
        have x34 : W4.cell? ⟨dv, 34, none⟩ = some v34 := cell_of H4.hp e34
        have y34 : W4.frozen? ⟨dv, 34, none⟩ = false := fz_of H4.hp
        clear e34
        clear ex c5 c6
        have HH4 : Hid _ := H4
        clear H4
        go_wp2_with fail
        go_region
        go_wp2_with fail
        obtain ⟨dc9, p1, p2, p3, ⟨q0, q1, q2, q3, q4, q5, q6, q7⟩, p5⟩ := put9 HH4.out.hp HH4.out.sz (.int .u8 1) (.string (kd (cq i))) (.int .u16 (ka (cq i))) (.int .u8 (cr i)) (.int .u8 0) (.int .i64 (ce i)) (.bool (co i)) (.int .u32 (cd b)) (.bool (kn b))
        have gF := gr1 (k := 34) (.bool (kn b)) (gr1 (k := 33) (.int .u32 (cd b)) (gr1 (k := 32) (.bool (co i)) (gr1 (k := 31) (.int .i64 (ce i)) (gr1 (k := 30) (.int .u8 0) (gr1 (k := 29) (.int .u8 (cr i)) (gr1 (k := 28) (.int .u16 (ka (cq i))) (gr1 (k := 27) (.string (kd (cq i))) (gr1 (k := 22) (.int .u8 1) HG4.out))))))))
        generalize ((((((((W4.setCell ⟨dv, 22, none⟩ (.int .u8 1)).setCell ⟨dv, 27, none⟩ (.string (kd (cq i)))).setCell ⟨dv, 28, none⟩ (.int .u16 (ka (cq i)))).setCell ⟨dv, 29, none⟩ (.int .u8 (cr i))).setCell ⟨dv, 30, none⟩ (.int .u8 0)).setCell ⟨dv, 31, none⟩ (.int .i64 (ce i))).setCell ⟨dv, 32, none⟩ (.bool (co i))).setCell ⟨dv, 33, none⟩ (.int .u32 (cd b))).setCell ⟨dv, 34, none⟩ (.bool (kn b)) = W9 at p1 gF ⊢
        go_ret
        refine .inl ⟨i, b, hin, Hno.out, HA.out, rfl, dc9, ⟨⟨gF.os, gF.tape, gF.output, gF.size, gF.block⟩, p1, p2, ?_, ⟨fun h' k k1 k2 => (p5 k (by omega) (by omega)).trans (HH4.out.fb.old h' k k1 k2), fun h' h'' => ?_⟩, p3⟩, fun k hk => ?_, (p5 36 (by omega) (by omega)).trans (HH4.out.oth 36 (by omega) (by omega) (by omega))⟩
        · obtain ⟨ad', z1, _⟩ := HH4.out.c35
          exact ⟨ad', _, (p5 35 (by omega) (by omega)).trans z1⟩
        · obtain ⟨f1, f2, f3, f4, f5, f6⟩ := HH4.out.fb.new h' h''
          exact ⟨(p5 _ (by omega) (by omega)).trans f1, (p5 _ (by omega) (by omega)).trans f2, (p5 _ (by omega) (by omega)).trans f3, (p5 _ (by omega) (by omega)).trans f4, (p5 _ (by omega) (by omega)).trans f5, (p5 _ (by omega) (by omega)).trans f6⟩
        · rcases k with _ | _ | _ | _ | _ | _ | _ | _ | k
          · exact q0
          · exact q1
          · exact q2
          · exact q3
          · exact q4
          · exact q5
          · exact q6
          · exact q7
          · omega
      · have hbt := bal (o := .cells #[.int .u32 0, .bool false] 38) (Below.refl _ W3)
        have H4 := H3.below hbt
        have X4 := X3.below hbt
        have c5 := (hbt.block B3 (lt_of_heap c4)).trans c4
        have HG4 : Hid (w.grownBy (W3.alloc (.cells #[.int .u32 0, .bool false] 38)) (some dv)) := ⟨hbt.os.trans HG3.out.os, hbt.tape.trans HG3.out.tape, hbt.output.trans HG3.out.output, Nat.le_trans HG3.out.size hbt.size, fun k hk hne => (hbt.block k (Nat.lt_of_lt_of_le hk HG3.out.size)).trans (HG3.out.block k hk hne)⟩
        have Hno' : Hid (∀ j, j < i + 1 → atOf qf lv (cq j) n = -1) := fun j hj => by
          by_cases e : j = i
          · rw [e]; exact hat
          · exact Hno.out j (by omega)
        clear hat H3 X3 c4 HG3 hbt
        go_upto_region 5 with fail
        generalize W3.alloc (.cells #[.int .u32 0, .bool false] 38) = W4 at *
        have t0 : W4.cell? ⟨B3, 0, none⟩ = some (.string (kd (cq i))) := cell_of c5 rfl
        have t1 : W4.cell? ⟨B3, 1, none⟩ = some (.int .u16 (ka (cq i))) := cell_of c5 rfl
        by_cases hh : hf = true ∨ 0 < i
        · have x42 : W4.cell? ⟨dv, 42, none⟩ = some (.bool true) := by
            cases hf
            · have hi0 : 0 < i := by simpa using hh
              exact cell_of H4.hp (H4.fb.new rfl hi0).2.2.2.2.2
            · exact cell_of H4.hp ((H4.fb.old (.inl rfl) 42 (by omega) (by omega)).trans h42)
          have hfl := failed_has dv (cq i) W4 x42
          go_wp2_with fail
          refine hfl.mono ?_
          rintro e W5 ⟨rfl, hb5⟩
          have H5 := (H4.below hb5).passed hh
          have X5 := X4.below hb5
          have HG5 : w.grownBy W5 (some dv) := ⟨hb5.os.trans HG4.out.os, hb5.tape.trans HG4.out.tape, hb5.output.trans HG4.out.output, Nat.le_trans HG4.out.size hb5.size, fun k hk hne => (hb5.block k (Nat.lt_of_lt_of_le hk HG4.out.size)).trans (HG4.out.block k hk hne)⟩
          have HH : Hid _ := And.intro HG5 (And.intro X5 H5)
          clear hfl hb5 H4 X4 HG5 X5 H5
          go_wp2_with fail
          go_roundg (gk - 1)
          case measure => omega
          case rel => exact ⟨i + 1, dc3, by omega, HH.out.1, HH.out.2.1, HH.out.2.2, Hno'.out⟩
        · obtain rfl : i = 0 := by omega
          cases hf with
          | true => exact absurd (.inl rfl) hh
          | false =>
            have e42 : dc3[42]? = some (.bool false) := (H4.fb.old (.inr rfl) 42 (by omega) (by omega)).trans h42
            have hfl := failed_new dv (cq 0) W4 dc3 H4.hp H4.sz e42
            go_wp2_with fail
            refine hfl.mono ?_
            rintro e W5 ⟨rfl, W6, hb6, rfl⟩
            obtain ⟨dc6, H6⟩ := (H4.below hb6).noted
            have X6 := ((((((X4.below hb6).put 37 (.string (kd (cq 0))) (by omega) (by omega) (by omega)).put 38 (.int .u16 (ka (cq 0))) (by omega) (by omega) (by omega)).put 39 (.int .u8 12) (by omega) (by omega) (by omega)).put 40 (.int .u8 0) (by omega) (by omega) (by omega)).put 41 (.int .i64 0) (by omega) (by omega) (by omega)).put 42 (.bool true) (by omega) (by omega) (by omega)
            have HG6 : w.grownBy W6 (some dv) := ⟨hb6.os.trans HG4.out.os, hb6.tape.trans HG4.out.tape, hb6.output.trans HG4.out.output, Nat.le_trans HG4.out.size hb6.size, fun k hk hne => (hb6.block k (Nat.lt_of_lt_of_le hk HG4.out.size)).trans (HG4.out.block k hk hne)⟩
            have HG7 := gr1 (k := 42) (.bool true) (gr1 (k := 41) (.int .i64 0) (gr1 (k := 40) (.int .u8 0) (gr1 (k := 39) (.int .u8 12) (gr1 (k := 38) (.int .u16 (ka (cq 0))) (gr1 (k := 37) (.string (kd (cq 0))) HG6)))))
            have HH : Hid _ := And.intro HG7 (And.intro X6 H6)
            generalize (((((W6.setCell ⟨dv, 37, none⟩ (.string (kd (cq 0)))).setCell ⟨dv, 38, none⟩ (.int .u16 (ka (cq 0)))).setCell ⟨dv, 39, none⟩ (.int .u8 12)).setCell ⟨dv, 40, none⟩ (.int .u8 0)).setCell ⟨dv, 41, none⟩ (.int .i64 0)).setCell ⟨dv, 42, none⟩ (.bool true) = W7 at HH ⊢
            clear hfl hb6 H4 X4 HG6 HG7 X6 H6
            go_wp2_with fail
            go_roundg (gk - 1)
            case measure => omega
            case rel => exact ⟨1, dc6, by omega, HH.out.1, HH.out.2.1, HH.out.2.2, Hno'.out⟩
    · have hi0 : nc = i := by omega
      have hlen : nc - i = 0 := by omega
      rw [hlen] at x35
      subst hi0
      have HNo : Hid _ := hno
      have HX : Hid _ := And.intro hg Dr
      obtain ⟨f37, f38, f39, f40, f41, f42⟩ := hF dc Dr.fb
      have n68 := neq68s
      have n68n := neq68n
      have ex : ∀ k, k < 47 → ∃ v, dc[k]? = some v := fun k hk => ⟨dc[k]'(by have := Dr.sz; omega), by simp [show k < dc.size by have := Dr.sz; omega]⟩
      have g36 := (Dr.oth 36 (by omega) (by omega) (by omega)).trans h36
      have g9 := (Dr.oth 9 (by omega) (by omega) (by omega)).trans h9
      have g43 := (Dr.oth 43 (by omega) (by omega) (by omega)).trans h43
      have g44 := (Dr.oth 44 (by omega) (by omega) (by omega)).trans h44
      have g45 := (Dr.oth 45 (by omega) (by omega) (by omega)).trans h45
      clear h36 h9 h43 h44 h45 h42 hno hF h35 had D X C Xr
      cases bk with
      | some bb =>
        obtain ⟨hb1, hb2⟩ := hbk bb rfl
        have hb3 := (hg.block bb (lt_of_heap hb2) (by simp; omega)).trans hb2
        clear hbk hb2
        have x36 : wr.cell? ⟨dv, 36, none⟩ = some (.pointer (some ⟨bb, 0, none⟩)) := cell_of Dr.hp g36
        have y36 : wr.frozen? ⟨dv, 36, none⟩ = false := fz_of Dr.hp
        have b0 : wr.cell? ⟨bb, 0, none⟩ = some (.string (kd bq)) := cell_of hb3 rfl
        have b1 : wr.cell? ⟨bb, 1, none⟩ = some (.int .u16 (ka bq)) := cell_of hb3 rfl
        have b2 : wr.cell? ⟨bb, 2, none⟩ = some (.int .u8 br) := cell_of hb3 rfl
        have b3 : wr.cell? ⟨bb, 3, none⟩ = some (.int .u8 0) := cell_of hb3 rfl
        have b4 : wr.cell? ⟨bb, 4, none⟩ = some (.int .i64 be) := cell_of hb3 rfl
        have b5 : wr.cell? ⟨bb, 5, none⟩ = some (.bool bo) := cell_of hb3 rfl
        have b6 : wr.cell? ⟨bb, 6, none⟩ = some (.int .u32 bc) := cell_of hb3 rfl
        have b7 : wr.cell? ⟨bb, 7, none⟩ = some (.bool bn) := cell_of hb3 rfl
        obtain ⟨v22, e22⟩ := ex 22 (by omega)
        have x22 : wr.cell? ⟨dv, 22, none⟩ = some v22 := cell_of Dr.hp e22
        have y22 : wr.frozen? ⟨dv, 22, none⟩ = false := fz_of Dr.hp
        clear e22
        obtain ⟨v27, e27⟩ := ex 27 (by omega)
        have x27 : wr.cell? ⟨dv, 27, none⟩ = some v27 := cell_of Dr.hp e27
        have y27 : wr.frozen? ⟨dv, 27, none⟩ = false := fz_of Dr.hp
        clear e27
        obtain ⟨v28, e28⟩ := ex 28 (by omega)
        have x28 : wr.cell? ⟨dv, 28, none⟩ = some v28 := cell_of Dr.hp e28
        have y28 : wr.frozen? ⟨dv, 28, none⟩ = false := fz_of Dr.hp
        clear e28
        obtain ⟨v29, e29⟩ := ex 29 (by omega)
        have x29 : wr.cell? ⟨dv, 29, none⟩ = some v29 := cell_of Dr.hp e29
        have y29 : wr.frozen? ⟨dv, 29, none⟩ = false := fz_of Dr.hp
        clear e29
        obtain ⟨v30, e30⟩ := ex 30 (by omega)
        have x30 : wr.cell? ⟨dv, 30, none⟩ = some v30 := cell_of Dr.hp e30
        have y30 : wr.frozen? ⟨dv, 30, none⟩ = false := fz_of Dr.hp
        clear e30
        obtain ⟨v31, e31⟩ := ex 31 (by omega)
        have x31 : wr.cell? ⟨dv, 31, none⟩ = some v31 := cell_of Dr.hp e31
        have y31 : wr.frozen? ⟨dv, 31, none⟩ = false := fz_of Dr.hp
        clear e31
        obtain ⟨v32, e32⟩ := ex 32 (by omega)
        have x32 : wr.cell? ⟨dv, 32, none⟩ = some v32 := cell_of Dr.hp e32
        have y32 : wr.frozen? ⟨dv, 32, none⟩ = false := fz_of Dr.hp
        clear e32
        obtain ⟨v33, e33⟩ := ex 33 (by omega)
        have x33 : wr.cell? ⟨dv, 33, none⟩ = some v33 := cell_of Dr.hp e33
        have y33 : wr.frozen? ⟨dv, 33, none⟩ = false := fz_of Dr.hp
        clear e33
        obtain ⟨v34, e34⟩ := ex 34 (by omega)
        have x34 : wr.cell? ⟨dv, 34, none⟩ = some v34 := cell_of Dr.hp e34
        have y34 : wr.frozen? ⟨dv, 34, none⟩ = false := fz_of Dr.hp
        clear e34
        clear ex hb3 Dr hg g36 g9 g43 g44 g45 f37 f38 f39 f40 f41 f42
        go_wp2_with fail
        obtain ⟨dc9, p1, p2, p3, ⟨q0, q1, q2, q3, q4, q5, q6, q7⟩, p5⟩ := put9 HX.out.2.hp HX.out.2.sz (.int .u8 1) (.string (kd bq)) (.int .u16 (ka bq)) (.int .u8 br) (.int .u8 0) (.int .i64 be) (.bool bo) (.int .u32 bc) (.bool bn)
        have gF := gr1 (k := 36) (.pointer none) (gr1 (k := 34) (.bool bn) (gr1 (k := 33) (.int .u32 bc) (gr1 (k := 32) (.bool bo) (gr1 (k := 31) (.int .i64 be) (gr1 (k := 30) (.int .u8 0) (gr1 (k := 29) (.int .u8 br) (gr1 (k := 28) (.int .u16 (ka bq)) (gr1 (k := 27) (.string (kd bq)) (gr1 (k := 22) (.int .u8 1) HX.out.1)))))))))
        have p6 := heap_set (k := 36) (.pointer none) p1
        have r5 : ∀ k, k ≠ 36 → (dc9.setIfInBounds 36 (.pointer none))[k]? = dc9[k]? := fun k hk => by
          rw [Array.getElem?_setIfInBounds, if_neg (fun e => hk e.symm)]
        clear p1
        generalize (((((((((wr.setCell ⟨dv, 22, none⟩ (.int .u8 1)).setCell ⟨dv, 27, none⟩ (.string (kd bq))).setCell ⟨dv, 28, none⟩ (.int .u16 (ka bq))).setCell ⟨dv, 29, none⟩ (.int .u8 br)).setCell ⟨dv, 30, none⟩ (.int .u8 0)).setCell ⟨dv, 31, none⟩ (.int .i64 be)).setCell ⟨dv, 32, none⟩ (.bool bo)).setCell ⟨dv, 33, none⟩ (.int .u32 bc)).setCell ⟨dv, 34, none⟩ (.bool bn)).setCell ⟨dv, 36, none⟩ (.pointer none) = W9 at p6 gF ⊢
        go_ret
        refine .inr ⟨HNo.out, 1, dc9.setIfInBounds 36 (.pointer none), ⟨⟨gF.os, gF.tape, gF.output, gF.size, gF.block⟩, p6, by simpa using p2, ?_, ⟨fun h' k k1 k2 => ((r5 k (by omega)).trans (p5 k (by omega) (by omega))).trans (HX.out.2.fb.old h' k k1 k2), fun h' h'' => ?_⟩, (r5 _ (by omega)).trans p3⟩, .inl ⟨⟨bb, rfl⟩, rfl, rfl, fun k hk => ?_, by simp [p2]⟩⟩
        · obtain ⟨ad', z1, _⟩ := HX.out.2.c35
          rw [hlen] at z1
          exact ⟨ad', _, ((r5 _ (by omega)).trans (p5 35 (by omega) (by omega))).trans z1⟩
        · obtain ⟨f1, f2, f3, f4, f5, f6⟩ := HX.out.2.fb.new h' h''
          exact ⟨((r5 _ (by omega)).trans (p5 _ (by omega) (by omega))).trans f1, ((r5 _ (by omega)).trans (p5 _ (by omega) (by omega))).trans f2, ((r5 _ (by omega)).trans (p5 _ (by omega) (by omega))).trans f3, ((r5 _ (by omega)).trans (p5 _ (by omega) (by omega))).trans f4, ((r5 _ (by omega)).trans (p5 _ (by omega) (by omega))).trans f5, ((r5 _ (by omega)).trans (p5 _ (by omega) (by omega))).trans f6⟩
        · refine (r5 _ (by omega)).trans ?_
          rcases k with _ | _ | _ | _ | _ | _ | _ | _ | k
          · exact q0
          · exact q1
          · exact q2
          · exact q3
          · exact q4
          · exact q5
          · exact q6
          · exact q7
          · omega
      | none =>
        have x36 : wr.cell? ⟨dv, 36, none⟩ = some (.pointer none) := cell_of Dr.hp g36
        have x43 : wr.cell? ⟨dv, 43, none⟩ = some (.int .u8 E0) := cell_of Dr.hp g43
        have x44 : wr.cell? ⟨dv, 44, none⟩ = some (.int .u8 E1) := cell_of Dr.hp g44
        have x45 : wr.cell? ⟨dv, 45, none⟩ = some (.int .i64 E2) := cell_of Dr.hp g45
        have hbt := bal (o := .cells #[.int .u8 E0, .int .u8 E1, .int .i64 E2] 45) (Below.refl _ wr)
        have c5 := (MapKept.heap_alloc wr (.cells #[.int .u8 E0, .int .u8 E1, .int .i64 E2] 45)).1
        have hd3 : dv < wr.heap.size := lt_of_heap Dr.hp
        clear Dr hg hbk
        go_upto_region 13 with fail
        generalize wr.alloc (.cells #[.int .u8 E0, .int .u8 E1, .int .i64 E2] 45) = W1 at *
        generalize hB : wr.heap.size = B at *
        clear x35 y35 x36 x43 x44 x45
        have HB : Hid (wr.heap.size = B) := hB
        clear hB
        have hp1 := (hbt.block dv hd3).trans HX.out.2.hp
        have x42 : W1.cell? ⟨dv, 42, none⟩ = some (.bool hs) := cell_of hp1 f42
        cases hs
        · have hb2 : Below wr.heap.size wr W1 := by rw [HB.out]; exact hbt
          have HC : Hid _ := And.intro hb2 (And.intro hp1 c5)
          clear hp1 c5 hb2
          go_upto_region 15 with fail
          generalize hW12 : W1 = W2 at HC ⊢
          clear hW12 x42
          have x9 := cell_of HC.out.2.1 g9
          have t0 : W2.cell? ⟨B, 0, none⟩ = some (.int .u8 E0) := cell_of HC.out.2.2 rfl
          have t1 : W2.cell? ⟨B, 1, none⟩ = some (.int .u8 E1) := cell_of HC.out.2.2 rfl
          have t2 : W2.cell? ⟨B, 2, none⟩ = some (.int .i64 E2) := cell_of HC.out.2.2 rfl
          have x42 := cell_of HC.out.2.1 f42
          have hp2 := HC.out.2.1
          obtain ⟨v22, e22⟩ := ex 22 (by omega)
          have x22 : W2.cell? ⟨dv, 22, none⟩ = some v22 := cell_of hp2 e22
          have y22 : W2.frozen? ⟨dv, 22, none⟩ = false := fz_of hp2
          clear e22
          obtain ⟨v23, e23⟩ := ex 23 (by omega)
          have x23 : W2.cell? ⟨dv, 23, none⟩ = some v23 := cell_of hp2 e23
          have y23 : W2.frozen? ⟨dv, 23, none⟩ = false := fz_of hp2
          clear e23
          obtain ⟨v24, e24⟩ := ex 24 (by omega)
          have x24 : W2.cell? ⟨dv, 24, none⟩ = some v24 := cell_of hp2 e24
          have y24 : W2.frozen? ⟨dv, 24, none⟩ = false := fz_of hp2
          clear e24
          have x37 : W2.cell? ⟨dv, 37, none⟩ = some (.string F0) := cell_of hp2 f37
          have x38 : W2.cell? ⟨dv, 38, none⟩ = some (.int .u16 F1) := cell_of hp2 f38
          have x39 : W2.cell? ⟨dv, 39, none⟩ = some (.int .u8 F2) := cell_of hp2 f39
          have x40 : W2.cell? ⟨dv, 40, none⟩ = some (.int .u8 F3) := cell_of hp2 f40
          have x41 : W2.cell? ⟨dv, 41, none⟩ = some (.int .i64 F4) := cell_of hp2 f41
          have gW : Hid _ := grow_below HX.out.1 HC.out.1
          clear ex hp2 hbt
          cases mn
          · replace x9 : W2.cell? ⟨dv, 9, none⟩ = some (.int .u8 0) := x9
            have HG9 : Hid _ := And.intro g9 (And.intro f37 (And.intro f38 (And.intro f39 (And.intro f40 (And.intro f41 f42)))))
            clear g9 g36 g43 g44 g45 f37 f38 f39 f40 f41 f42
            go_wp2_with fail
            obtain ⟨gF, p1, p2, p3, p5⟩ := put1 gW.out HC.out.2.1 HX.out.2.sz (.int .u8 4)
            generalize W2.setCell ⟨dv, 22, none⟩ (.int .u8 4) = W9 at gF p1 ⊢
            generalize dc.setIfInBounds 22 (.int .u8 4) = dc9 at p1 p2 p3 p5
            go_ret
            refine .inr ⟨HNo.out, 4, dc9, HX.out.2.nx gF p1 p2 p3 p5, .inr (.inr (.inr ⟨rfl, rfl, rfl, rfl, rfl⟩))⟩
          · replace x9 : W2.cell? ⟨dv, 9, none⟩ = some (.int .u8 1) := x9
            have HG9 : Hid _ := And.intro g9 (And.intro f37 (And.intro f38 (And.intro f39 (And.intro f40 (And.intro f41 f42)))))
            clear g9 g36 g43 g44 g45 f37 f38 f39 f40 f41 f42
            go_wp2_with fail
            obtain ⟨gF, p1, p2, p3, p5⟩ := put1 gW.out HC.out.2.1 HX.out.2.sz (.int .u8 5)
            generalize W2.setCell ⟨dv, 22, none⟩ (.int .u8 5) = W9 at gF p1 ⊢
            generalize dc.setIfInBounds 22 (.int .u8 5) = dc9 at p1 p2 p3 p5
            go_ret
            refine .inr ⟨HNo.out, 5, dc9, HX.out.2.nx gF p1 p2 p3 p5, .inr (.inl ⟨rfl, rfl, rfl, rfl⟩)⟩
        · have t0 : W1.cell? ⟨B, 0, none⟩ = some (.int .u8 E0) := cell_of c5 rfl
          have t1 : W1.cell? ⟨B, 1, none⟩ = some (.int .u8 E1) := cell_of c5 rfl
          have t2 : W1.cell? ⟨B, 2, none⟩ = some (.int .i64 E2) := cell_of c5 rfl
          have u0 : W1.frozen? ⟨B, 0, none⟩ = false := fz_of c5
          have u1 : W1.frozen? ⟨B, 1, none⟩ = false := fz_of c5
          have u2 : W1.frozen? ⟨B, 2, none⟩ = false := fz_of c5
          have x39 : W1.cell? ⟨dv, 39, none⟩ = some (.int .u8 F2) := cell_of hp1 f39
          have x40 : W1.cell? ⟨dv, 40, none⟩ = some (.int .u8 F3) := cell_of hp1 f40
          have x41 : W1.cell? ⟨dv, 41, none⟩ = some (.int .i64 F4) := cell_of hp1 f41
          have c6 := heap_set (k := 2) (.int .i64 F4) (heap_set (k := 1) (.int .u8 F3) (heap_set (k := 0) (.int .u8 F2) c5))
          have hp2 := ((Below.heap_setCell ((W1.setCell ⟨B, 0, none⟩ (.int .u8 F2)).setCell ⟨B, 1, none⟩ (.int .u8 F3)) ⟨B, 2, none⟩ (.int .i64 F4) dv (by show dv ≠ B; omega)).trans ((Below.heap_setCell (W1.setCell ⟨B, 0, none⟩ (.int .u8 F2)) ⟨B, 1, none⟩ (.int .u8 F3) dv (by show dv ≠ B; omega)).trans (Below.heap_setCell W1 ⟨B, 0, none⟩ (.int .u8 F2) dv (by show dv ≠ B; omega)))).trans hp1
          have hb2 : Below wr.heap.size wr (((W1.setCell ⟨B, 0, none⟩ (.int .u8 F2)).setCell ⟨B, 1, none⟩ (.int .u8 F3)).setCell ⟨B, 2, none⟩ (.int .i64 F4)) := by rw [HB.out]; exact ((hbt.setCell (by simp) _).setCell (by simp) _).setCell (by simp) _
          have HC : Hid _ := And.intro hb2 (And.intro hp2 c6)
          clear hp1 hp2 c5 c6 hb2
          go_upto_region 15 with fail
          generalize ((W1.setCell ⟨B, 0, none⟩ (.int .u8 F2)).setCell ⟨B, 1, none⟩ (.int .u8 F3)).setCell ⟨B, 2, none⟩ (.int .i64 F4) = W2 at HC ⊢
          clear t0 t1 t2 u0 u1 u2 x39 x40 x41 x42
          have x9 := cell_of HC.out.2.1 g9
          have t0 : W2.cell? ⟨B, 0, none⟩ = some (.int .u8 F2) := cell_of HC.out.2.2 rfl
          have t1 : W2.cell? ⟨B, 1, none⟩ = some (.int .u8 F3) := cell_of HC.out.2.2 rfl
          have t2 : W2.cell? ⟨B, 2, none⟩ = some (.int .i64 F4) := cell_of HC.out.2.2 rfl
          have x42 := cell_of HC.out.2.1 f42
          have hp2 := HC.out.2.1
          obtain ⟨v22, e22⟩ := ex 22 (by omega)
          have x22 : W2.cell? ⟨dv, 22, none⟩ = some v22 := cell_of hp2 e22
          have y22 : W2.frozen? ⟨dv, 22, none⟩ = false := fz_of hp2
          clear e22
          obtain ⟨v23, e23⟩ := ex 23 (by omega)
          have x23 : W2.cell? ⟨dv, 23, none⟩ = some v23 := cell_of hp2 e23
          have y23 : W2.frozen? ⟨dv, 23, none⟩ = false := fz_of hp2
          clear e23
          obtain ⟨v24, e24⟩ := ex 24 (by omega)
          have x24 : W2.cell? ⟨dv, 24, none⟩ = some v24 := cell_of hp2 e24
          have y24 : W2.frozen? ⟨dv, 24, none⟩ = false := fz_of hp2
          clear e24
          have x37 : W2.cell? ⟨dv, 37, none⟩ = some (.string F0) := cell_of hp2 f37
          have x38 : W2.cell? ⟨dv, 38, none⟩ = some (.int .u16 F1) := cell_of hp2 f38
          have x39 : W2.cell? ⟨dv, 39, none⟩ = some (.int .u8 F2) := cell_of hp2 f39
          have x40 : W2.cell? ⟨dv, 40, none⟩ = some (.int .u8 F3) := cell_of hp2 f40
          have x41 : W2.cell? ⟨dv, 41, none⟩ = some (.int .i64 F4) := cell_of hp2 f41
          have gW : Hid _ := grow_below HX.out.1 HC.out.1
          clear ex hp2 hbt
          cases mn
          · replace x9 : W2.cell? ⟨dv, 9, none⟩ = some (.int .u8 0) := x9
            have HG9 : Hid _ := And.intro g9 (And.intro f37 (And.intro f38 (And.intro f39 (And.intro f40 (And.intro f41 f42)))))
            clear g9 g36 g43 g44 g45 f37 f38 f39 f40 f41 f42
            go_wp2_with fail
            obtain ⟨gF, p1, p2, p3, p4, p5⟩ := put3 gW.out HC.out.2.1 HX.out.2.sz (.int .u8 3) (.string F0) (.int .u16 F1)
            generalize ((W2.setCell ⟨dv, 22, none⟩ (.int .u8 3)).setCell ⟨dv, 23, none⟩ (.string F0)).setCell ⟨dv, 24, none⟩ (.int .u16 F1) = W9 at gF p1 ⊢
            generalize ((dc.setIfInBounds 22 (.int .u8 3)).setIfInBounds 23 (.string F0)).setIfInBounds 24 (.int .u16 F1) = dc9 at p1 p2 p3 p4 p5
            go_ret
            refine .inr ⟨HNo.out, 3, dc9, HX.out.2.nx gF p1 p2 p3 p5, .inr (.inr (.inl ⟨rfl, rfl, rfl, rfl, rfl, p4⟩))⟩
          · replace x9 : W2.cell? ⟨dv, 9, none⟩ = some (.int .u8 1) := x9
            have HG9 : Hid _ := And.intro g9 (And.intro f37 (And.intro f38 (And.intro f39 (And.intro f40 (And.intro f41 f42)))))
            clear g9 g36 g43 g44 g45 f37 f38 f39 f40 f41 f42
            go_wp2_with fail
            obtain ⟨gF, p1, p2, p3, p5⟩ := put1 gW.out HC.out.2.1 HX.out.2.sz (.int .u8 5)
            generalize W2.setCell ⟨dv, 22, none⟩ (.int .u8 5) = W9 at gF p1 ⊢
            generalize dc.setIfInBounds 22 (.int .u8 5) = dc9 at p1 p2 p3 p5
            go_ret
            refine .inr ⟨HNo.out, 5, dc9, HX.out.2.nx gF p1 p2 p3 p5, .inr (.inl ⟨rfl, rfl, rfl, rfl⟩)⟩
end Go.Proofs.Ybulkcueg
