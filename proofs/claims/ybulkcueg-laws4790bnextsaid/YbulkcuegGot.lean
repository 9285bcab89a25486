import Derived.Test.YbulkcuegLaws
namespace Go.Proofs.Ybulkcueg
open Go.RowKit Go.Maps

/-! ### the model's fallback when i candidates have been passed over -/
def mb (hf : Bool) (fq q0 : Fin 9) (i : Nat) : ByteArray := if hf then kd fq else if 0 < i then kd q0 else ⟨#[]⟩
def ma (hf : Bool) (fq q0 : Fin 9) (i : Nat) : Int := if hf then ka fq else if 0 < i then ka q0 else 0
def mr (hf : Bool) (i : Nat) : Int := if hf then 12 else if 0 < i then 12 else 0
def me (hf : Bool) (fe : Int) : Int := if hf then fe else 0
def mh (hf : Bool) (i : Nat) : Bool := hf || decide (0 < i)
abbrev m5 (hf : Bool) (fq q0 : Fin 9) (fe : Int) (i : Nat) : Array Value := #[.string (mb hf fq q0 i), .int .u16 (ma hf fq q0 i), .int .u8 (mr hf i), .int .u8 0, .int .i64 (me hf fe)]

theorem fs_of {md : Int} {cb n rb nc : Nat} {bk : Value} {G0 : ByteArray} {G1 G2 G4 : Int} {hf : Bool} {er ee fe : Int} {fq q0 : Fin 9}
    (hG : G0 = (if hf then kd fq else ⟨#[]⟩) ∧ G1 = (if hf then ka fq else 0) ∧ G2 = (if hf then 12 else 0) ∧ G4 = (if hf then fe else 0)) (i : Nat) (dc : Array Value)
    (h : FB dc (dev md cb n rb nc bk G0 G1 G2 0 G4 hf er ee) hf q0 i) : Fs dc (mb hf fq q0 i) (ma hf fq q0 i) (mr hf i) 0 (me hf fe) (mh hf i) := by
  obtain ⟨rfl, rfl, rfl, rfl⟩ := hG
  cases hf with
  | true => exact ⟨h.old (.inl rfl) 37 (by omega) (by omega), h.old (.inl rfl) 38 (by omega) (by omega), h.old (.inl rfl) 39 (by omega) (by omega), h.old (.inl rfl) 40 (by omega) (by omega), h.old (.inl rfl) 41 (by omega) (by omega), h.old (.inl rfl) 42 (by omega) (by omega)⟩
  | false =>
    rcases i with _ | i
    · exact ⟨h.old (.inr rfl) 37 (by omega) (by omega), h.old (.inr rfl) 38 (by omega) (by omega), h.old (.inr rfl) 39 (by omega) (by omega), h.old (.inr rfl) 40 (by omega) (by omega), h.old (.inr rfl) 41 (by omega) (by omega), h.old (.inr rfl) 42 (by omega) (by omega)⟩
    · obtain ⟨f1, f2, f3, f4, f5, f6⟩ := h.new rfl (by omega)
      refine ⟨?_, ?_, ?_, ?_, ?_, ?_⟩
      · rw [f1]; simp [mb]
      · rw [f2]; simp [ma]
      · rw [f3]; simp [mr]
      · rw [f4]
      · rw [f5]; simp [me]
      · rw [f6]; simp [mh]

/-- what next said and left -/
def Got (n nc : Nat) (qf : Nat → Fin 9) (lv cd : Nat → Int) (kn : Nat → Bool) (cq : Nat → Fin 9) (cr ce : Nat → Int) (co : Nat → Bool) (hf mn : Bool) (fq : Fin 9) (fe : Int) (bk : Option Nat) (t8 : Array Value) (er ee : Int) (got : Value) (dc : Array Value) : Prop :=
  (∃ i b : Nat, i < nc ∧ (∀ j, j < i → atOf qf lv (cq j) n = -1) ∧ atOf qf lv (cq i) n = b ∧ got = .iface 67 (.agg (try8 (cq i) (cr i) (ce i) (co i) (cd b) (kn b))) ∧ dc[22]? = some (.int .u8 1) ∧ (∀ k, k < 8 → dc[27 + k]? = (try8 (cq i) (cr i) (ce i) (co i) (cd b) (kn b))[k]?) ∧
    (∃ ad c, dc[35]? = some (.slice ad (nc - (i + 1)) c)) ∧ Fs dc (mb hf fq (cq 0) i) (ma hf fq (cq 0) i) (mr hf i) 0 (me hf fe) (mh hf i) ∧ dc[36]? = some (.pointer (bk.map fun b => ⟨b, 0, none⟩))) ∨
  ((∀ j, j < nc → atOf qf lv (cq j) n = -1) ∧ (∃ ad c, dc[35]? = some (.slice ad 0 c)) ∧ Fs dc (mb hf fq (cq 0) nc) (ma hf fq (cq 0) nc) (mr hf nc) 0 (me hf fe) (mh hf nc) ∧
    ∃ st : Nat, dc[22]? = some (.int .u8 st) ∧ Ends bk mn (mh hf nc) t8 er 0 ee (mb hf fq (cq 0) nc) (ma hf fq (cq 0) nc) (mr hf nc) 0 (me hf fe) st dc (.returned got))

theorem got_of {w w' : World} {dv n nc : Nat} {qf : Nat → Fin 9} {lv cd : Nat → Int} {kn : Nat → Bool} {cq : Nat → Fin 9} {cr ce : Nat → Int} {co : Nat → Bool} {hf mn : Bool} {fq : Fin 9} {fe : Int} {bk : Option Nat} {t8 : Array Value} {er ee : Int} {dc0 : Array Value} {e : Ending}
    (hFs : ∀ i dc, FB dc dc0 hf (cq 0) i → Fs dc (mb hf fq (cq 0) i) (ma hf fq (cq 0) i) (mr hf i) 0 (me hf fe) (mh hf i)) (h36 : dc0[36]? = some (.pointer (bk.map fun b => ⟨b, 0, none⟩)))
    (h : (∃ i b : Nat, i < nc ∧ (∀ j, j < i → atOf qf lv (cq j) n = -1) ∧ atOf qf lv (cq i) n = b ∧ e = .returned (.iface 67 (.agg (try8 (cq i) (cr i) (ce i) (co i) (cd b) (kn b)))) ∧ ∃ dc, Nx w w' dv nc (nc - (i + 1)) dc0 hf (cq 0) i 1 dc ∧ (∀ k, k < 8 → dc[27 + k]? = (try8 (cq i) (cr i) (ce i) (co i) (cd b) (kn b))[k]?) ∧ dc[36]? = dc0[36]?) ∨
      ((∀ j, j < nc → atOf qf lv (cq j) n = -1) ∧ ∃ st dc, Nx w w' dv nc 0 dc0 hf (cq 0) nc st dc ∧ Ends bk mn (mh hf nc) t8 er 0 ee (mb hf fq (cq 0) nc) (ma hf fq (cq 0) nc) (mr hf nc) 0 (me hf fe) st dc e)) :
    ∃ got dc, e = .returned got ∧ w.grownBy w' (some dv) ∧ w'.heap[dv]? = some (.cells dc 71 (0, 0)) ∧ dc.size = 47 ∧ Got n nc qf lv cd kn cq cr ce co hf mn fq fe bk t8 er ee got dc := by
  rcases h with ⟨i, b, h1, h2, h3, rfl, dc, X, h5, h6⟩ | ⟨h1, st, dc, X, E⟩
  · exact ⟨_, dc, rfl, X.g, X.hp, X.sz, .inl ⟨i, b, h1, h2, h3, rfl, X.st, h5, X.c35, hFs i dc X.fb, h6.trans h36⟩⟩
  · have ⟨got, hgot⟩ : ∃ got, e = .returned got := by
      rcases E with ⟨_, _, h, _⟩ | ⟨_, _, _, h⟩ | ⟨_, _, _, _, h, _⟩ | ⟨_, _, _, _, h⟩
      · exact ⟨_, h⟩
      · exact ⟨_, h⟩
      · exact ⟨_, h⟩
      · exact ⟨_, h⟩
    subst hgot
    exact ⟨got, dc, rfl, X.g, X.hp, X.sz, .inr ⟨h1, X.c35, hFs nc dc X.fb, st, X.st, E⟩⟩

/-- behind next, when the model has passed over i candidates -/
structure L6 (w wr : World) (cb rb xb dv tb mk : Nat) (n nc : Nat) (f g : Nat → Nat → Value) (x3 t8 dc m5 : Array Value) : Prop where
  b : Below w.heap.size w wr
  F : Fill wr cb n n 40 f
  R : Fill wr rb nc nc 47 g
  x : wr.heap[xb]? = some (.cells x3 45 (0, 0))
  t : wr.heap[tb]? = some (.cells t8 67 (0, 0))
  d : wr.heap[dv]? = some (.cells dc 71 (0, 0))
  m : wr.heap[mk]? = some (.cells m5 51 (0, 0))
  lt : w.heap.size ≤ mk ∧ cb < mk ∧ rb < mk ∧ xb < mk ∧ tb < mk ∧ dv < mk

theorem L6.below {w wr W : World} {cb rb xb dv tb mk n nc : Nat} {f g : Nat → Nat → Value} {x3 t8 dc m5 : Array Value} (h : L6 w wr cb rb xb dv tb mk n nc f g x3 t8 dc m5) (hb : Below wr.heap.size wr W) : L6 w W cb rb xb dv tb mk n nc f g x3 t8 dc m5 :=
  ⟨h.b.trans (hb.mono h.b.size), h.F.of_block (hb.block _ h.F.lt), h.R.of_block (hb.block _ h.R.lt), (hb.block _ (lt_of_heap h.x)).trans h.x, (hb.block _ (lt_of_heap h.t)).trans h.t, (hb.block _ (lt_of_heap h.d)).trans h.d, (hb.block _ (lt_of_heap h.m)).trans h.m, h.lt⟩

theorem L6.start {w wr W : World} {bb fb cb rb xb gb dv tb n nc : Nat} {bk : Option Nat} {b5 f5 x3 g5 t8 dc0 dc : Array Value} {f g : Nat → Nat → Value} (h : L5 w wr bb fb cb rb xb gb dv tb bk b5 f5 n nc f g x3 g5 t8 dc0) (hg : wr.grownBy W (some dv)) (hd : W.heap[dv]? = some (.cells dc 71 (0, 0))) (z5 : Array Value) :
    L6 w (W.alloc (.cells z5 51)) cb rb xb dv tb W.heap.size n nc f g x3 t8 dc z5 ∧ (W.alloc (.cells z5 51)).heap[gb]? = some (.cells g5 51 (0, 0)) := by
  obtain ⟨l0, l1, l2, l3, l4, l5, l6⟩ := h.L.lt
  have hl := h.lt
  have hs := hg.size
  have k1 := lt_of_heap h.L.d
  have k2 := lt_of_heap h.t
  have e : ∀ b, b < wr.heap.size → b ≠ dv → (W.alloc (.cells z5 51)).heap[b]? = wr.heap[b]? := fun b hb hne => (Below.heap_alloc _ _ _ (by omega)).trans (hg.block b hb (by simpa using hne))
  have hb : Below w.heap.size w W := ⟨hg.os.trans h.L.L.L.L.b.os, hg.tape.trans h.L.L.L.L.b.tape, hg.output.trans h.L.L.L.L.b.output, Nat.le_trans h.L.L.L.L.b.size hs, fun k hk => (hg.block k (Nat.lt_of_lt_of_le hk h.L.L.L.L.b.size) (by simp; omega)).trans (h.L.L.L.L.b.block k hk)⟩
  refine ⟨⟨bal hb, h.L.L.L.L.F.of_block (e _ (by omega) (by omega)), h.L.L.L.R.of_block (e _ (by omega) (by omega)), (e _ (by omega) (by omega)).trans h.L.L.x, (e _ (by omega) (by omega)).trans h.t, (Below.heap_alloc _ _ _ (by omega)).trans hd, (MapKept.heap_alloc W _).1, ?_⟩, (e _ (by omega) (by omega)).trans h.L.L.g⟩
  exact ⟨by omega, by omega, by omega, by omega, by omega, by omega⟩

/-- the model's fallback is written -/
theorem L6.put {w wr : World} {cb rb xb dv tb mk n nc : Nat} {f g : Nat → Nat → Value} {x3 t8 dc : Array Value} {a0 a1 a2 a3 a4 : Value} (h : L6 w wr cb rb xb dv tb mk n nc f g x3 t8 dc #[a0, a1, a2, a3, a4]) (v0 v1 v2 v3 v4 : Value) :
    L6 w (((((wr.setCell ⟨mk, 0, none⟩ v0).setCell ⟨mk, 1, none⟩ v1).setCell ⟨mk, 2, none⟩ v2).setCell ⟨mk, 3, none⟩ v3).setCell ⟨mk, 4, none⟩ v4) cb rb xb dv tb mk n nc f g x3 t8 dc #[v0, v1, v2, v3, v4] := by
  obtain ⟨l0, l1, l2, l3, l4, l5⟩ := h.lt
  have e : ∀ b, b ≠ mk → (((((wr.setCell ⟨mk, 0, none⟩ v0).setCell ⟨mk, 1, none⟩ v1).setCell ⟨mk, 2, none⟩ v2).setCell ⟨mk, 3, none⟩ v3).setCell ⟨mk, 4, none⟩ v4).heap[b]? = wr.heap[b]? := fun b hb =>
    (Below.heap_setCell _ _ _ _ hb).trans ((Below.heap_setCell _ _ _ _ hb).trans ((Below.heap_setCell _ _ _ _ hb).trans ((Below.heap_setCell _ _ _ _ hb).trans (Below.heap_setCell _ _ _ _ hb))))
  exact ⟨((((h.b.setCell (p := ⟨mk, 0, none⟩) l0 v0).setCell (p := ⟨mk, 1, none⟩) l0 v1).setCell (p := ⟨mk, 2, none⟩) l0 v2).setCell (p := ⟨mk, 3, none⟩) l0 v3).setCell (p := ⟨mk, 4, none⟩) l0 v4, h.F.of_block (e _ (by omega)), h.R.of_block (e _ (by omega)), (e _ (by omega)).trans h.x, (e _ (by omega)).trans h.t, (e _ (by omega)).trans h.d,
    heap_set v4 (heap_set v3 (heap_set v2 (heap_set v1 (heap_set v0 h.m)))), h.lt⟩

/-- a younger block is written -/
theorem L6.young {w wr : World} {cb rb xb dv tb mk n nc : Nat} {f g : Nat → Nat → Value} {x3 t8 dc m5 : Array Value} (h : L6 w wr cb rb xb dv tb mk n nc f g x3 t8 dc m5) (yb k : Nat) (v : Value) (hy : mk < yb) : L6 w (wr.setCell ⟨yb, k, none⟩ v) cb rb xb dv tb mk n nc f g x3 t8 dc m5 := by
  obtain ⟨l0, l1, l2, l3, l4, l5⟩ := h.lt
  have e : ∀ b, b ≠ yb → (wr.setCell ⟨yb, k, none⟩ v).heap[b]? = wr.heap[b]? := fun b hb => Below.heap_setCell _ _ _ _ hb
  exact ⟨h.b.setCell (p := ⟨yb, k, none⟩) (by show w.heap.size ≤ yb; omega) v, h.F.of_block (e _ (by omega)), h.R.of_block (e _ (by omega)), (e _ (by omega)).trans h.x, (e _ (by omega)).trans h.t, (e _ (by omega)).trans h.d, (e _ (by omega)).trans h.m, h.lt⟩

theorem Fill.cs {W : World} {rb nc : Nat} {cq : Nat → Fin 9} {cr ce : Nat → Int} {co : Nat → Bool} (h : Fill W rb nc nc 47 (ca6 cq cr ce co)) : Cs W rb nc cq cr ce co :=
  ⟨fun _ hk => h.get hk (m := 0) (by omega), fun _ hk => h.get hk (m := 1) (by omega), fun _ hk => h.get hk (m := 2) (by omega), fun _ hk => h.get hk (m := 3) (by omega), fun _ hk => h.get hk (m := 4) (by omega), fun _ hk => h.get hk (m := 5) (by omega)⟩

/-- next, called on the device that the law laid -/
theorem next_law {w W : World} {bb fb cb rb xb gb dv tb n nc : Nat} {bk : Option Nat} {b5 f5 x3 g5 : Array Value} {qf : Nat → Fin 9} {lv cd : Nat → Int} {kn : Nat → Bool} {cq : Nat → Fin 9} {cr ce : Nat → Int} {co : Nat → Bool} {bq : Fin 9} {br be bt : Int} {bo : Bool} {hf mn : Bool} {md : Int} {G0 : ByteArray} {G1 G2 G4 er ee fe : Int} {fq : Fin 9}
    (hn : n ≤ 400) (hnc : nc ≤ 400) (hmd : md = if mn then 1 else 0)
    (hG : G0 = (if hf then kd fq else ⟨#[]⟩) ∧ G1 = (if hf then ka fq else 0) ∧ G2 = (if hf then 12 else 0) ∧ G4 = (if hf then fe else 0))
    (L : L5 w W bb fb cb rb xb gb dv tb bk b5 f5 n nc (ob6 qf lv cd kn) (ca6 cq cr ce co) x3 g5 (try8 bq br be bo bt true) (dev md cb n rb nc (.pointer (bk.map fun b => ⟨b, 0, none⟩)) G0 G1 G2 0 G4 hf er ee)) :
    Calls Yba.prog 6 #[.pointer (some ⟨dv, 0, none⟩)] W fun e W' => ∃ got dc, e = .returned got ∧ W.grownBy W' (some dv) ∧ W'.heap[dv]? = some (.cells dc 71 (0, 0)) ∧ dc.size = 47 ∧ Got n nc qf lv cd kn cq cr ce co hf mn fq fe bk (try8 bq br be bo bt true) er ee got dc := by
  obtain ⟨l0, l1, l2, l3, l4, l5, l6⟩ := L.L.lt
  have hd := lt_of_heap L.L.d
  subst hmd
  have D : DV W dv rb nc nc (dev (if mn then 1 else 0) cb n rb nc (.pointer (bk.map fun b => ⟨b, 0, none⟩)) G0 G1 G2 0 G4 hf er ee) hf (cq 0) 0 (dev (if mn then 1 else 0) cb n rb nc (.pointer (bk.map fun b => ⟨b, 0, none⟩)) G0 G1 G2 0 G4 hf er ee) :=
    ⟨L.L.d, rfl, ⟨some ⟨rb, 0, none⟩, rfl, fun _ => by simp⟩, ⟨fun _ _ _ _ => rfl, fun _ h => by omega⟩, fun _ _ _ _ => rfl⟩
  have X : DX W.heap.size (fun _ => False) W dv cb n n qf lv cd kn :=
    ⟨cell_of L.L.d rfl, cell_of L.L.d rfl, fun _ => fz_of L.L.d, L.L.L.L.L.F.scan, .inl (cell_of L.L.d rfl), hd, by omega, Nat.le_refl _, by omega⟩
  refine (next_any W.heap.size dv cb n n rb nc nc qf lv cd kn cq cr ce co hf _ mn bk bq br be bo bt true er 0 ee (mb hf fq (cq 0) nc) (ma hf fq (cq 0) nc) (mr hf nc) 0 (me hf fe) (mh hf nc) W hn hnc (Nat.le_refl _) X L.L.L.L.R.cs (by omega) (by omega) D rfl rfl rfl L.q rfl rfl rfl (fs_of hG nc)).mono ?_
  intro e W' h
  exact got_of (fun i dc => fs_of hG i dc) rfl h

theorem drewN_below (w : World) (n : Nat) : Below w.heap.size w (w.drewN n) := ⟨rfl, rfl, rfl, Nat.le_refl _, fun _ _ => rfl⟩
theorem eq68m (p : Option Addr) (w : World) : (binOp .eql 68 (.pointer p) (.pointer p)).run Yba.prog w = .ok (.bool true) w := by
  cases p with
  | none => exact eq68n w
  | some a => exact eq68s a w
end Go.Proofs.Ybulkcueg
