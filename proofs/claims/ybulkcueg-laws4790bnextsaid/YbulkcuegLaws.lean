import Derived.Test.YbulkcuegFill
import Derived.Test.YbulkcuegNext
import Derived.Test.YbulkcuegEqs
namespace Go.Proofs.Ybulkcueg
open Go.RowKit Go.Maps

/-- the laying of the coverage: the boxes of the two structs that came by value, the row -/
structure L1 (w wr : World) (bb fb cb : Nat) (b5 f5 : Array Value) (n k : Nat) (f : Nat → Nat → Value) : Prop where
  b : Below w.heap.size w wr
  hb : wr.heap[bb]? = some (.cells b5 25 (0, 0))
  hf : wr.heap[fb]? = some (.cells f5 25 (0, 0))
  F : Fill wr cb n k 40 f
  lt : w.heap.size ≤ bb ∧ w.heap.size ≤ fb ∧ w.heap.size ≤ cb ∧ bb ≠ cb ∧ fb ≠ cb

theorem L1.below {w wr W : World} {bb fb cb n k : Nat} {b5 f5 : Array Value} {f : Nat → Nat → Value} (h : L1 w wr bb fb cb b5 f5 n k f) (hb : Below wr.heap.size wr W) : L1 w W bb fb cb b5 f5 n k f :=
  ⟨h.b.trans (hb.mono h.b.size), (hb.block _ (lt_of_heap h.hb)).trans h.hb, (hb.block _ (lt_of_heap h.hf)).trans h.hf, h.F.of_block (hb.block _ h.F.lt), h.lt⟩

theorem L1.put {w W : World} {bb fb cb n k : Nat} {b5 f5 : Array Value} {f : Nat → Nat → Value} (h : L1 w W bb fb cb b5 f5 n k f) (hk : k < n) (v0 v1 v2 v3 v4 v5 : Value) (f0 : f k 0 = v0) (f1 : f k 1 = v1) (f2 : f k 2 = v2) (f3 : f k 3 = v3) (f4 : f k 4 = v4) (f5' : f k 5 = v5) :
    L1 w (put6 W cb (k * 6) v0 v1 v2 v3 v4 v5) bb fb cb b5 f5 n (k + 1) f := by
  obtain ⟨l1, l2, l3, l4, l5⟩ := h.lt
  exact ⟨put6_below h.b l3, (put6_block _ _ _ _ _ _ _ _ _ _ l4).trans h.hb, (put6_block _ _ _ _ _ _ _ _ _ _ l5).trans h.hf, h.F.put hk _ _ _ _ _ _ f0 f1 f2 f3 f4 f5', h.lt⟩

/-- the laying of the candidates -/
structure L2 (w wr : World) (bb fb cb rb : Nat) (b5 f5 : Array Value) (n nc k : Nat) (f g : Nat → Nat → Value) : Prop where
  L : L1 w wr bb fb cb b5 f5 n n f
  R : Fill wr rb nc k 47 g
  lt : w.heap.size ≤ rb ∧ bb ≠ rb ∧ fb ≠ rb ∧ cb ≠ rb

theorem L2.start {w wr W : World} {bb fb cb n nc : Nat} {b5 f5 : Array Value} {f g : Nat → Nat → Value} (h : L1 w wr bb fb cb b5 f5 n n f) (hgr : wr.grownBy W none) (R : Fill W wr.heap.size nc 0 47 g) : L2 w W bb fb cb wr.heap.size b5 f5 n nc 0 f g := by
  have l1 := lt_of_heap h.hb
  have l2 := lt_of_heap h.hf
  have l3 := h.F.lt
  exact ⟨h.below ⟨hgr.os, hgr.tape, hgr.output, hgr.size, fun k hk => hgr.block k hk (by simp)⟩, R, h.b.size, by omega, by omega, by omega⟩

theorem L2.below {w wr W : World} {bb fb cb rb n nc k : Nat} {b5 f5 : Array Value} {f g : Nat → Nat → Value} (h : L2 w wr bb fb cb rb b5 f5 n nc k f g) (hb : Below wr.heap.size wr W) : L2 w W bb fb cb rb b5 f5 n nc k f g :=
  ⟨h.L.below hb, h.R.of_block (hb.block _ h.R.lt), h.lt⟩

theorem L2.put {w W : World} {bb fb cb rb n nc k : Nat} {b5 f5 : Array Value} {f g : Nat → Nat → Value} (h : L2 w W bb fb cb rb b5 f5 n nc k f g) (hk : k < nc) (v0 v1 v2 v3 v4 v5 : Value) (f0 : g k 0 = v0) (f1 : g k 1 = v1) (f2 : g k 2 = v2) (f3 : g k 3 = v3) (f4 : g k 4 = v4) (f5' : g k 5 = v5) :
    L2 w (put6 W rb (k * 6) v0 v1 v2 v3 v4 v5) bb fb cb rb b5 f5 n nc (k + 1) f g := by
  obtain ⟨l1, l2, l3, l4⟩ := h.lt
  exact ⟨⟨put6_below h.L.b l1, (put6_block _ _ _ _ _ _ _ _ _ _ l2).trans h.L.hb, (put6_block _ _ _ _ _ _ _ _ _ _ l3).trans h.L.hf, h.L.F.of_block (put6_block _ _ _ _ _ _ _ _ _ _ l4), h.L.lt⟩, h.R.put hk _ _ _ _ _ _ f0 f1 f2 f3 f4 f5', h.lt⟩

/-- the exhausted reason and the fallback that came -/
structure L3 (w wr : World) (bb fb cb rb xb gb : Nat) (b5 f5 : Array Value) (n nc : Nat) (f g : Nat → Nat → Value) (x3 g5 : Array Value) : Prop where
  L : L2 w wr bb fb cb rb b5 f5 n nc nc f g
  x : wr.heap[xb]? = some (.cells x3 45 (0, 0))
  g : wr.heap[gb]? = some (.cells g5 51 (0, 0))
  lt : w.heap.size ≤ xb ∧ w.heap.size ≤ gb

theorem L3.below {w wr W : World} {bb fb cb rb xb gb n nc : Nat} {b5 f5 x3 g5 : Array Value} {f g : Nat → Nat → Value} (h : L3 w wr bb fb cb rb xb gb b5 f5 n nc f g x3 g5) (hb : Below wr.heap.size wr W) : L3 w W bb fb cb rb xb gb b5 f5 n nc f g x3 g5 :=
  ⟨h.L.below hb, (hb.block _ (lt_of_heap h.x)).trans h.x, (hb.block _ (lt_of_heap h.g)).trans h.g, h.lt⟩

/-- the device that the law lays -/
def dev (md : Int) (cb n rb nc : Nat) (bk : Value) (G0 : ByteArray) (G1 G2 G3 G4 : Int) (hf : Bool) (er ee : Int) : Array Value :=
  #[.string ⟨#[]⟩, .int .i64 0, .slice none 0 0, .slice none 0 0, .slice none 0 0, .slice none 0 0, .slice none 0 0, .slice none 0 0, .bool false, .int .u8 md, .bool false, .int .i64 0, .int .i64 0, .bool false, .string ⟨#[]⟩, .slice none 0 0, .slice none 0 0, .slice none 0 0, .pointer none, .nilIface,
    .slice (some ⟨cb, 0, none⟩) n n, .pointer none, .int .u8 0, .string ⟨#[]⟩, .int .u16 0, .int .u32 0, .bool false, .string ⟨#[]⟩, .int .u16 0, .int .u8 0, .int .u8 0, .int .i64 0, .bool false, .int .u32 0, .bool false, .slice (some ⟨rb, 0, none⟩) nc nc, bk, .string G0, .int .u16 G1, .int .u8 G2, .int .u8 G3, .int .i64 G4, .bool hf, .int .u8 er, .int .u8 0, .int .i64 ee, .map none]

theorem dev_fb (md : Int) (cb n rb nc : Nat) (bk : Value) (G0 H0 : ByteArray) (G1 G2 G3 G4 H1 H2 H3 H4 : Int) (hf : Bool) (er ee : Int) :
    (((((dev md cb n rb nc bk G0 G1 G2 G3 G4 hf er ee).setIfInBounds 37 (.string H0)).setIfInBounds 38 (.int .u16 H1)).setIfInBounds 39 (.int .u8 H2)).setIfInBounds 40 (.int .u8 H3)).setIfInBounds 41 (.int .i64 H4) = dev md cb n rb nc bk H0 H1 H2 H3 H4 hf er ee := rfl
theorem dev_bk (md : Int) (cb n rb nc : Nat) (bk b' : Value) (G0 : ByteArray) (G1 G2 G3 G4 : Int) (hf : Bool) (er ee : Int) :
    (dev md cb n rb nc bk G0 G1 G2 G3 G4 hf er ee).setIfInBounds 36 b' = dev md cb n rb nc b' G0 G1 G2 G3 G4 hf er ee := rfl

/-- the device is laid -/
structure L4 (w wr : World) (bb fb cb rb xb gb dv : Nat) (b5 f5 : Array Value) (n nc : Nat) (f g : Nat → Nat → Value) (x3 g5 dc : Array Value) : Prop where
  L : L3 w wr bb fb cb rb xb gb b5 f5 n nc f g x3 g5
  d : wr.heap[dv]? = some (.cells dc 71 (0, 0))
  lt : w.heap.size ≤ dv ∧ bb < dv ∧ fb < dv ∧ cb < dv ∧ rb < dv ∧ xb < dv ∧ gb < dv

theorem L4.below {w wr W : World} {bb fb cb rb xb gb dv n nc : Nat} {b5 f5 x3 g5 dc : Array Value} {f g : Nat → Nat → Value} (h : L4 w wr bb fb cb rb xb gb dv b5 f5 n nc f g x3 g5 dc) (hb : Below wr.heap.size wr W) : L4 w W bb fb cb rb xb gb dv b5 f5 n nc f g x3 g5 dc :=
  ⟨h.L.below hb, (hb.block _ (lt_of_heap h.d)).trans h.d, h.lt⟩

theorem L4.start {w wr : World} {bb fb cb rb xb gb n nc : Nat} {b5 f5 x3 g5 : Array Value} {f g : Nat → Nat → Value} (h : L3 w wr bb fb cb rb xb gb b5 f5 n nc f g x3 g5) (dc : Array Value) : L4 w (wr.alloc (.cells dc 71)) bb fb cb rb xb gb wr.heap.size b5 f5 n nc f g x3 g5 dc :=
  ⟨h.below (bal (Below.refl _ _)), (MapKept.heap_alloc wr _).1, h.L.L.b.size, lt_of_heap h.L.L.hb, lt_of_heap h.L.L.hf, h.L.L.F.lt, h.L.R.lt, lt_of_heap h.x, lt_of_heap h.g⟩

theorem L4.set {w wr : World} {bb fb cb rb xb gb dv n nc : Nat} {b5 f5 x3 g5 dc : Array Value} {f g : Nat → Nat → Value} (h : L4 w wr bb fb cb rb xb gb dv b5 f5 n nc f g x3 g5 dc) (k : Nat) (v : Value) : L4 w (wr.setCell ⟨dv, k, none⟩ v) bb fb cb rb xb gb dv b5 f5 n nc f g x3 g5 (dc.setIfInBounds k v) := by
  obtain ⟨l0, l1, l2, l3, l4, l5, l6⟩ := h.lt
  have e : ∀ b, b < dv → (wr.setCell ⟨dv, k, none⟩ v).heap[b]? = wr.heap[b]? := fun b hb => Below.heap_setCell _ _ _ _ (by show b ≠ dv; omega)
  exact ⟨⟨⟨⟨h.L.L.L.b.setCell (p := ⟨dv, k, none⟩) l0 v, (e _ l1).trans h.L.L.L.hb, (e _ l2).trans h.L.L.L.hf, h.L.L.L.F.of_block (e _ l3), h.L.L.L.lt⟩, h.L.L.R.of_block (e _ l4), h.L.L.lt⟩, (e _ l5).trans h.L.x, (e _ l6).trans h.L.g, h.L.lt⟩, heap_set v h.d, h.lt⟩

theorem info40 : (Yba.prog.info? 40).map (fun i => (i.zero, i.size, i.bytes)) = some (some (.agg #[.string ⟨#[]⟩, .int .u16 0, .bool false, .int .i64 0, .int .u32 0, .bool false]), 6, 40) := by kernel_rfl
theorem info47 : (Yba.prog.info? 47).map (fun i => (i.zero, i.size, i.bytes)) = some (some (.agg #[.string ⟨#[]⟩, .int .u16 0, .int .u8 0, .int .u8 0, .int .i64 0, .bool false]), 6, 48) := by kernel_rfl

theorem boxes {w w1 : World} {A B : Obj} (hgr : ((w.alloc A).alloc B).grownBy w1 none) : Below w.heap.size w w1 ∧ w1.heap[w.heap.size]? = some A ∧ w1.heap[w.heap.size + 1]? = some B := by
  refine ⟨⟨hgr.os, hgr.tape, hgr.output, Nat.le_trans (by simp; omega) hgr.size, fun k hk => ?_⟩, ?_, ?_⟩
  · exact (hgr.block k (by simp; omega) (by simp)).trans ((Below.heap_alloc _ _ _ (by simp; omega)).trans (Below.heap_alloc _ _ _ hk))
  · exact (hgr.block _ (by simp; omega) (by simp)).trans ((Below.heap_alloc _ _ _ (by simp)).trans (MapKept.heap_alloc w A).1)
  · have := (MapKept.heap_alloc (w.alloc A) B).1
    rw [show (w.alloc A).heap.size = w.heap.size + 1 by simp] at this
    exact (hgr.block _ (by simp) (by simp)).trans this

/-- the back try is laid -/
structure L5 (w wr : World) (bb fb cb rb xb gb dv tb : Nat) (bk : Option Nat) (b5 f5 : Array Value) (n nc : Nat) (f g : Nat → Nat → Value) (x3 g5 t8 dc : Array Value) : Prop where
  L : L4 w wr bb fb cb rb xb gb dv b5 f5 n nc f g x3 g5 dc
  t : wr.heap[tb]? = some (.cells t8 67 (0, 0))
  q : ∀ b, bk = some b → b ≠ dv ∧ wr.heap[b]? = some (.cells t8 67 (0, 0))
  lt : dv < tb

theorem L5.start {w wr W : World} {bb fb cb rb xb gb dv n nc : Nat} {b5 f5 x3 g5 dc : Array Value} {f g : Nat → Nat → Value} (h : L4 w wr bb fb cb rb xb gb dv b5 f5 n nc f g x3 g5 dc) (hb : Below wr.heap.size wr W) (t8 : Array Value) : L5 w (W.alloc (.cells t8 67)) bb fb cb rb xb gb dv W.heap.size none b5 f5 n nc f g x3 g5 t8 dc :=
  ⟨h.below (bal hb), (MapKept.heap_alloc W _).1, (fun _ e => by cases e), Nat.lt_of_lt_of_le (lt_of_heap h.d) hb.size⟩

theorem L5.back {w wr : World} {bb fb cb rb xb gb dv tb n nc : Nat} {b5 f5 x3 g5 t8 dc : Array Value} {f g : Nat → Nat → Value} (h : L5 w wr bb fb cb rb xb gb dv tb none b5 f5 n nc f g x3 g5 t8 dc) (v : Value) :
    L5 w ((wr.alloc (.cells t8 67)).setCell ⟨dv, 36, none⟩ v) bb fb cb rb xb gb dv tb (some wr.heap.size) b5 f5 n nc f g x3 g5 t8 (dc.setIfInBounds 36 v) := by
  have hd := lt_of_heap h.L.d
  have ht := lt_of_heap h.t
  have hl := h.lt
  have e : ∀ b, b ≠ dv → ((wr.alloc (.cells t8 67)).setCell ⟨dv, 36, none⟩ v).heap[b]? = (wr.alloc (.cells t8 67)).heap[b]? := fun b hb => Below.heap_setCell _ _ _ _ hb
  refine ⟨(h.L.below (bal (Below.refl _ _))).set 36 v, (e tb (by omega)).trans ((Below.heap_alloc _ _ _ ht).trans h.t), fun b eb => ?_, hl⟩
  cases eb
  exact ⟨by omega, (e _ (by omega)).trans (MapKept.heap_alloc wr _).1⟩

/-- the code's right spine -/
def spine : Nat → Code → Code
  | 0, c => c
  | n + 1, .seq _ b => spine n b
  | _ + 1, c => c
def headAt (n : Nat) (c : Code) : Code := match spine n c with
  | .seq a _ => a
  | c => c
end Go.Proofs.Ybulkcueg
