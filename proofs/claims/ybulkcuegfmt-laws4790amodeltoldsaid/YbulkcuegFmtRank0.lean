import Derived.Test.YbulkcuegFmtPlain
import Derived.Test.YbulkcuegFmtAside
namespace Go.Proofs.YbulkcuegFmt
open Go.RowKit Go.Maps

/-- a row of six-cell elements, its first k filled -/
def Fill (W : World) (cb n k : Nat) (t : TypeId) (f : Nat → Nat → Value) : Prop :=
  ∃ cs, W.heap[cb]? = some (.cells cs t (0, 0)) ∧ cs.size = n * 6 ∧ ∀ j, j < k → ∀ m, m < 6 → cs[j * 6 + m]? = some (f j m)

theorem Fill.of_block {W W' : World} {cb n k : Nat} {t : TypeId} {f : Nat → Nat → Value} (h : Fill W cb n k t f) (e : W'.heap[cb]? = W.heap[cb]?) : Fill W' cb n k t f := by
  obtain ⟨cs, h1, h2, h3⟩ := h
  exact ⟨cs, e.trans h1, h2, h3⟩

theorem Fill.lt {W : World} {cb n k : Nat} {t : TypeId} {f : Nat → Nat → Value} (h : Fill W cb n k t f) : cb < W.heap.size := by
  obtain ⟨cs, h1, _, _⟩ := h
  exact lt_of_heap h1

theorem Fill.there {W : World} {cb n k : Nat} {t : TypeId} {f : Nat → Nat → Value} (h : Fill W cb n k t f) {o : Nat} (ho : o < n * 6) : (∃ v, W.cell? ⟨cb, o, none⟩ = some v) ∧ W.frozen? ⟨cb, o, none⟩ = false := by
  obtain ⟨cs, h1, h2, _⟩ := h
  exact ⟨⟨cs[o]'(by omega), cell_of h1 (by simp [show o < cs.size by omega])⟩, fz_of h1⟩

theorem Fill.get {W : World} {cb n k : Nat} {t : TypeId} {f : Nat → Nat → Value} (h : Fill W cb n k t f) {j m : Nat} (hj : j < k) (hm : m < 6) : W.cell? ⟨cb, j * 6 + m, none⟩ = some (f j m) := by
  obtain ⟨cs, h1, _, h3⟩ := h
  exact cell_of h1 (h3 j hj m hm)

abbrev put6 (W : World) (cb o : Nat) (v0 v1 v2 v3 v4 v5 : Value) : World := (((((W.setCell ⟨cb, o, none⟩ v0).setCell ⟨cb, o + 1, none⟩ v1).setCell ⟨cb, o + 2, none⟩ v2).setCell ⟨cb, o + 3, none⟩ v3).setCell ⟨cb, o + 4, none⟩ v4).setCell ⟨cb, o + 5, none⟩ v5

theorem Fill.put {W : World} {cb n k : Nat} {t : TypeId} {f : Nat → Nat → Value} (h : Fill W cb n k t f) (hk : k < n) (v0 v1 v2 v3 v4 v5 : Value) (f0 : f k 0 = v0) (f1 : f k 1 = v1) (f2 : f k 2 = v2) (f3 : f k 3 = v3) (f4 : f k 4 = v4) (f5 : f k 5 = v5) :
    Fill (put6 W cb (k * 6) v0 v1 v2 v3 v4 v5) cb n (k + 1) t f := by
  obtain ⟨cs, h1, h2, h3⟩ := h
  refine ⟨_, heap_set v5 (heap_set v4 (heap_set v3 (heap_set v2 (heap_set v1 (heap_set v0 h1))))), by simpa using h2, fun j hj m hm => ?_⟩
  by_cases e : j = k
  · subst e
    have hs : j * 6 + 5 < cs.size := by omega
    subst f0 f1 f2 f3 f4 f5
    rcases m with _ | _ | _ | _ | _ | _ | m
    · simp [show j * 6 < cs.size by omega]
    · simp [show j * 6 + 1 < cs.size by omega]
    · simp [show j * 6 + 2 < cs.size by omega]
    · simp [show j * 6 + 3 < cs.size by omega]
    · simp [show j * 6 + 4 < cs.size by omega]
    · simp [show j * 6 + 5 < cs.size by omega]
    · omega
  · rw [Array.getElem?_setIfInBounds, if_neg (by omega), Array.getElem?_setIfInBounds, if_neg (by omega), Array.getElem?_setIfInBounds, if_neg (by omega), Array.getElem?_setIfInBounds, if_neg (by omega), Array.getElem?_setIfInBounds, if_neg (by omega), Array.getElem?_setIfInBounds, if_neg (by omega)]
    exact h3 j (by omega) m hm

theorem put6_block (W : World) (cb o : Nat) (v0 v1 v2 v3 v4 v5 : Value) (b : Nat) (hb : b ≠ cb) : (put6 W cb o v0 v1 v2 v3 v4 v5).heap[b]? = W.heap[b]? :=
  (Below.heap_setCell _ _ _ _ hb).trans ((Below.heap_setCell _ _ _ _ hb).trans ((Below.heap_setCell _ _ _ _ hb).trans ((Below.heap_setCell _ _ _ _ hb).trans ((Below.heap_setCell _ _ _ _ hb).trans (Below.heap_setCell _ _ _ _ hb)))))

theorem put6_below {w W : World} {B cb o : Nat} {v0 v1 v2 v3 v4 v5 : Value} (h : Below B w W) (hB : B ≤ cb) : Below B w (put6 W cb o v0 v1 v2 v3 v4 v5) :=
  ((((((h.setCell (p := ⟨cb, o, none⟩) hB v0).setCell (p := ⟨cb, o + 1, none⟩) hB v1).setCell (p := ⟨cb, o + 2, none⟩) hB v2).setCell (p := ⟨cb, o + 3, none⟩) hB v3).setCell (p := ⟨cb, o + 4, none⟩) hB v4).setCell (p := ⟨cb, o + 5, none⟩) hB v5)

theorem row_made6 {w1 : World} {g n : Nat} {xs : List Value} {base e : Nat} (ho : w1.ownsRow base e 6 (.slice (some ⟨g, 0, none⟩) n n) n xs) (f : Nat → Nat → Value) : Fill w1 g n 0 e f := by
  rcases ho.2 with ⟨h, _⟩ | ⟨g, c, cu, h, _, hh, _, _, hc, _⟩
  · cases h
  · simp only [Value.slice.injEq, Option.some.injEq, Addr.mk.injEq] at h
    obtain ⟨⟨rfl, _, _⟩, _, rfl⟩ := h
    exact ⟨cu, hh, hc, fun j hj => by omega⟩

theorem Gr2.trans {W W' W2 : World} {b1 b2 : Nat} (h : Gr2 W W' b1 b2) (g : Gr2 W' W2 b1 b2) : Gr2 W W2 b1 b2 :=
  ⟨g.os.trans h.os, g.tape.trans h.tape, g.output.trans h.output, Nat.le_trans h.size g.size, fun k hk h1 h2 => (g.block k (Nat.lt_of_lt_of_le hk h.size) h1 h2).trans (h.block k hk h1 h2)⟩
theorem Gr2.below {W W' W2 : World} {b1 b2 : Nat} (h : Gr2 W W' b1 b2) (g : Below W'.heap.size W' W2) : Gr2 W W2 b1 b2 :=
  ⟨g.os.trans h.os, g.tape.trans h.tape, g.output.trans h.output, Nat.le_trans h.size g.size, fun k hk h1 h2 => (g.block k (Nat.lt_of_lt_of_le hk h.size)).trans (h.block k hk h1 h2)⟩
/-- grown, and a block that is new has turned -/
theorem Gr2.new {W W' W2 : World} {b1 b2 c : Nat} (h : Gr2 W W' b1 b2) (g : W'.grownBy W2 (some c)) (hc : W.heap.size ≤ c) : Gr2 W W2 b1 b2 :=
  ⟨g.os.trans h.os, g.tape.trans h.tape, g.output.trans h.output, Nat.le_trans h.size g.size, fun k hk h1 h2 => (g.block k (Nat.lt_of_lt_of_le hk h.size) (by simp; omega)).trans (h.block k hk h1 h2)⟩

/-- a ranked combination's cells -/
abbrev rkd (rl : Int) (q : Fin 50) : List Value := [.string (kd q), .int .u16 (ka q), .int .u8 rl, .int .u8 0, .int .i64 0, .bool false]
def rk6 (rl : Nat → Int) (qs : Nat → Fin 50) (j : Nat) : Nat → Value
  | 0 => .string (kd (qs j))
  | 1 => .int .u16 (ka (qs j))
  | 2 => .int .u8 (rl j)
  | 3 => .int .u8 0
  | 4 => .int .i64 0
  | _ => .bool false
/-- a slice of ranked combinations, not nil -/
def RkRow (W : World) (base : Nat) (v : Value) (n : Nat) (rl : Nat → Int) (qs : Nat → Fin 50) : Prop :=
  ∃ b cap, v = .slice (some ⟨b, 0, none⟩) n cap ∧ base ≤ b ∧ b < W.heap.size ∧ ∀ i, i < n → ∀ c, c < 6 → W.cell? ⟨b, i * 6 + c, none⟩ = some (rk6 rl qs i c)
/-- the combinations set aside -/
def AsRow (W : World) (base top : Nat) (v : Value) (S : Prop) : Prop :=
  ∃ (va : Option Addr) (n cap b : Nat) (ds : Nat → ByteArray) (ac ys : Nat → Int), v = .slice va n cap ∧ n ≤ 50 ∧ (0 < n → va = some ⟨b, 0, none⟩ ∧ base ≤ b ∧ b < top) ∧ (∀ i, i < n → W.cell? ⟨b, i * 3, none⟩ = some (.string (ds i)) ∧ W.cell? ⟨b, i * 3 + 1, none⟩ = some (.int .u16 (ac i)) ∧ W.cell? ⟨b, i * 3 + 2, none⟩ = some (.int .u8 (ys i))) ∧ ((∃ j, j < n ∧ ys j = 3) ↔ S)
theorem AsRow.shape {W : World} {base top : Nat} {v : Value} {S : Prop} (h : AsRow W base top v S) : ∃ va n cap, v = .slice va n cap := by
  obtain ⟨va, n, cap, _, _, _, _, h, _⟩ := h
  exact ⟨_, _, _, h⟩
theorem AsRow.keep {W W' : World} {base top : Nat} {v : Value} {S : Prop} (h : AsRow W base top v S) (k : ∀ b, base ≤ b → b < top → (∃ u, W.cell? ⟨b, 2, none⟩ = some (.int .u8 u)) → W'.heap[b]? = W.heap[b]?) : AsRow W' base top v S := by
  obtain ⟨va, n, cap, b, ds, ac, ys, h1, h2, h3, h4, h5⟩ := h
  refine ⟨va, n, cap, b, ds, ac, ys, h1, h2, h3, fun i hi => ?_, h5⟩
  obtain ⟨g1, g2, g3⟩ := h3 (by omega)
  have e := k b g2 g3 ⟨ys 0, by have := (h4 0 (by omega)).2.2; simpa using this⟩
  obtain ⟨c1, c2, c3⟩ := h4 i hi
  exact ⟨(World.cell?_of_block (w := W) (a := ⟨b, i * 3, none⟩) e).trans c1, (World.cell?_of_block (w := W) (a := ⟨b, i * 3 + 1, none⟩) e).trans c2, (World.cell?_of_block (w := W) (a := ⟨b, i * 3 + 2, none⟩) e).trans c3⟩

/-- the order's parts, in order -/
structure OrdOk (hi : Fin 50 → Bool) (E : List (Fin 50)) (dl hl : List Int) (lo : Fin 50 → Int) (D : Nat → Int) : Prop where
  q0 : (seg D 0 (idxs hi E 0 E.length).length).Perm ((idxs hi E 0 E.length).map (fun i : Nat => (i : Int)))
  w0 : ∀ x y, x ≤ y → y < (idxs hi E 0 E.length).length → witOf dl hl (E.getD (D x).toNat 0) ≤ witOf dl hl (E.getD (D y).toNat 0)
  q1 : (seg D (idxs hi E 0 E.length).length ((idxs hi E 0 E.length).length + (idxs hi E 1 E.length).length)).Perm ((idxs hi E 1 E.length).map (fun i : Nat => (i : Int)))
  q2 : (seg D ((idxs hi E 0 E.length).length + (idxs hi E 1 E.length).length) E.length).Perm ((idxs hi E 2 E.length).map (fun i : Nat => (i : Int)))
  w2 : ∀ x y, (idxs hi E 0 E.length).length + (idxs hi E 1 E.length).length ≤ x → x ≤ y → y < E.length → lo (E.getD (D y).toNat 0) ≤ lo (E.getD (D x).toNat 0)
def aside (dl : List Int) (nb : Fin 5 → Option Nat) (q : Fin 50) : Prop := nt q ≠ 0 ∧ sup dl q = true ∧ nt q ≠ 1 ∧ (nb (nt q)).isSome = true
/-- rank's outcome -/
def RankP (w w' : World) (db sb : Nat) (E : List (Fin 50)) (S : Prop) (hi : Fin 50 → Bool) (dl hl : List Int) (lo : Fin 50 → Int) (vr vs : Value) : Prop :=
  Gr2 w w' db sb ∧ (∃ top, AsRow w' w.heap.size top vs S) ∧ ∃ D, OrdOk hi E dl hl lo D ∧ RkRow w' w.heap.size vr E.length (fun k => ruleOf (clsOf hi (E.getD (D k).toNat 0))) (fun k => E.getD (D k).toNat 0)

theorem mem_part {hi : Fin 50 → Bool} {E : List (Fin 50)} {c : Int} {k : Nat} {z : Int} (h : z ∈ (idxs hi E c k).map (fun i : Nat => (i : Int))) : ∃ i : Nat, z = i ∧ i < k ∧ clsOf hi (E.getD i 0) = c := by
  obtain ⟨i, h1, rfl⟩ := List.mem_map.1 h
  unfold idxs at h1
  rw [List.mem_filter] at h1
  exact ⟨i, rfl, by simpa using h1.1, by simpa using h1.2⟩
theorem OrdOk.lt {hi : Fin 50 → Bool} {E : List (Fin 50)} {dl hl : List Int} {lo : Fin 50 → Int} {D : Nat → Int} (h : OrdOk hi E dl hl lo D) {k : Nat} (hk : k < E.length) : ∃ i : Nat, D k = i ∧ i < E.length := by
  have hs := idxs_sum hi E E.length
  by_cases h0 : k < (idxs hi E 0 E.length).length
  · obtain ⟨i, h1, h2, _⟩ := mem_part (h.q0.mem_iff.1 (seg_mem.2 ⟨k, by omega, h0, rfl⟩))
    exact ⟨i, h1, h2⟩
  · by_cases h1 : k < (idxs hi E 0 E.length).length + (idxs hi E 1 E.length).length
    · obtain ⟨i, h1, h2, _⟩ := mem_part (h.q1.mem_iff.1 (seg_mem.2 ⟨k, by omega, h1, rfl⟩))
      exact ⟨i, h1, h2⟩
    · obtain ⟨i, h1, h2, _⟩ := mem_part (h.q2.mem_iff.1 (seg_mem.2 ⟨k, by omega, hk, rfl⟩))
      exact ⟨i, h1, h2⟩

/-- the ranked candidates -/
def Cnd (W : World) (db cap : Nat) (E : List (Fin 50)) (f : Fin 50 → List Value) : Prop := ∃ cu, W.heap[db]? = some (.cells cu 129 (0, 0)) ∧ cu.size = cap * 10 ∧ E.length ≤ cap ∧ ∀ i, i < E.length → Els cu 10 i (f (E.getD i 0))
theorem Cnd.of_block {W W' : World} {db cap : Nat} {E : List (Fin 50)} {f : Fin 50 → List Value} (h : Cnd W db cap E f) (e : W'.heap[db]? = W.heap[db]?) : Cnd W' db cap E f := by
  obtain ⟨cu, h1, h2⟩ := h
  exact ⟨cu, e.trans h1, h2⟩
theorem Cnd.get {W : World} {db cap : Nat} {E : List (Fin 50)} {f : Fin 50 → List Value} (h : Cnd W db cap E f) {i c : Nat} {v : Value} (hi : i < E.length) (hc : c < 10) (hv : (f (E.getD i 0))[c]? = some v) : W.cell? ⟨db, i * 10 + c, none⟩ = some v := by
  obtain ⟨cu, h1, _, _, h2⟩ := h
  exact cell_of h1 ((h2 i hi c hc).trans hv)
theorem Cnd.lt {W : World} {db cap : Nat} {E : List (Fin 50)} {f : Fin 50 → List Value} (h : Cnd W db cap E f) : db < W.heap.size := by
  obtain ⟨cu, h1, _⟩ := h
  exact lt_of_heap h1

/-- rank, behind its loops -/
structure R5 (w W : World) (db sb zb gb rv bl cap top : Nat) (E : List (Fin 50)) (vs : Value) (S : Prop) (D : Nat → Int) (f : Fin 50 → List Value) : Prop where
  g : Gr2 w W db sb
  z : W.heap[zb]? = some (.cells #[.slice none 0 0, .slice none 0 0] 90 (0, 0))
  k : W.heap[gb]? = some (.cells #[.slice none 0 0, vs] 90 (0, 0))
  v : W.heap[rv]? = some (.cells #[.slice (some ⟨db, 0, none⟩) E.length cap] 126 (0, 0))
  a : AsRow W w.heap.size top vs S
  o : Rw W bl E.length D
  c : Cnd W db cap E f
  lt : w.heap.size ≤ zb ∧ w.heap.size ≤ gb ∧ w.heap.size ≤ rv ∧ w.heap.size ≤ bl ∧ db < w.heap.size ∧ sb < w.heap.size ∧ bl ≠ rv ∧ bl ≠ gb ∧ bl ≠ zb ∧ gb ≠ zb ∧ gb ≠ rv ∧ top ≤ bl ∧ top ≤ W.heap.size

theorem R5.below {w W W' : World} {db sb zb gb rv bl cap top : Nat} {E : List (Fin 50)} {vs : Value} {S : Prop} {D : Nat → Int} {f : Fin 50 → List Value} (h : R5 w W db sb zb gb rv bl cap top E vs S D f) (hb : Below W.heap.size W W') : R5 w W' db sb zb gb rv bl cap top E vs S D f :=
  ⟨h.g.below hb, (hb.block _ (lt_of_heap h.z)).trans h.z, (hb.block _ (lt_of_heap h.k)).trans h.k, (hb.block _ (lt_of_heap h.v)).trans h.v, h.a.keep (fun b _ h2 _ => hb.block b (Nat.lt_of_lt_of_le h2 (by have := h.lt; omega))), h.o.below hb, h.c.of_block (hb.block _ h.c.lt), by have := h.lt; have := hb.size; omega⟩
/-- rank, its last loop -/
structure R6 (w W : World) (db sb zb gb rv bl ob cap top : Nat) (E : List (Fin 50)) (vs : Value) (S : Prop) (D : Nat → Int) (f : Fin 50 → List Value) (g6 : Nat → Nat → Value) (n : Nat) : Prop where
  g : Gr2 w W db sb
  z : W.heap[zb]? = some (.cells #[.slice none 0 0, .slice none 0 0] 90 (0, 0))
  k : W.heap[gb]? = some (.cells #[.slice (some ⟨ob, 0, none⟩) E.length E.length, vs] 90 (0, 0))
  v : W.heap[rv]? = some (.cells #[.slice (some ⟨db, 0, none⟩) E.length cap] 126 (0, 0))
  a : AsRow W w.heap.size top vs S
  o : Rw W bl E.length D
  c : Cnd W db cap E f
  r : Fill W ob E.length n 66 g6
  lt : w.heap.size ≤ zb ∧ w.heap.size ≤ gb ∧ w.heap.size ≤ rv ∧ w.heap.size ≤ bl ∧ w.heap.size ≤ ob ∧ db < w.heap.size ∧ sb < w.heap.size ∧ gb ≠ zb ∧ ob ≠ zb ∧ ob ≠ gb ∧ ob ≠ rv ∧ ob ≠ bl ∧ top ≤ ob
theorem R6.start {w W w1 : World} {db sb zb gb rv bl cap top : Nat} {E : List (Fin 50)} {vs : Value} {S : Prop} {D : Nat → Int} {f : Fin 50 → List Value} {g6 : Nat → Nat → Value} (h : R5 w W db sb zb gb rv bl cap top E vs S D f) (hb : Below W.heap.size W w1) (F : Fill w1 W.heap.size E.length 0 66 g6) :
    R6 w (w1.setCell ⟨gb, 0, none⟩ (.slice (some ⟨W.heap.size, 0, none⟩) E.length E.length)) db sb zb gb rv bl W.heap.size cap top E vs S D f g6 0 := by
  have l1 := lt_of_heap h.z
  have l2 := lt_of_heap h.k
  have l3 := lt_of_heap h.v
  have l4 := h.o.lt
  have h5 := h.below hb
  have lt := h.lt
  have hw := h.g.size
  have ne : ∀ b, b ≠ gb → (w1.setCell ⟨gb, 0, none⟩ (.slice (some ⟨W.heap.size, 0, none⟩) E.length E.length)).heap[b]? = w1.heap[b]? := fun b hb => Below.heap_setCell _ _ _ _ hb
  refine ⟨h5.g.new (gr1 _ (World.grownBy.refl _ _)) (by omega), (ne _ (by omega)).trans h5.z, ?_, (ne _ (by omega)).trans h5.v, h5.a.keep (fun b h1 h2 ⟨u, hu⟩ => ne b (fun e => ?_)), h5.o.of_block (ne _ (by omega)), h5.c.of_block (ne _ (by omega)), F.of_block (ne _ (by omega)), by omega⟩
  · rw [heap_set _ h5.k]
    rfl
  · subst e
    simp [World.cell?, h5.k] at hu
theorem R6.below {w W W' : World} {db sb zb gb rv bl ob cap top n : Nat} {E : List (Fin 50)} {vs : Value} {S : Prop} {D : Nat → Int} {f : Fin 50 → List Value} {g6 : Nat → Nat → Value} (h : R6 w W db sb zb gb rv bl ob cap top E vs S D f g6 n) (hb : Below W.heap.size W W') : R6 w W' db sb zb gb rv bl ob cap top E vs S D f g6 n := by
  have lt := h.lt
  have := h.r.lt
  exact ⟨h.g.below hb, (hb.block _ (lt_of_heap h.z)).trans h.z, (hb.block _ (lt_of_heap h.k)).trans h.k, (hb.block _ (lt_of_heap h.v)).trans h.v, h.a.keep (fun b _ h2 _ => hb.block b (by omega)), h.o.below hb, h.c.of_block (hb.block _ h.c.lt), h.r.of_block (hb.block _ h.r.lt), h.lt⟩
theorem R6.put {w W : World} {db sb zb gb rv bl ob cap top n : Nat} {E : List (Fin 50)} {vs : Value} {S : Prop} {D : Nat → Int} {f : Fin 50 → List Value} {g6 : Nat → Nat → Value} (h : R6 w W db sb zb gb rv bl ob cap top E vs S D f g6 n) (hn : n < E.length) (v0 v1 v2 v3 v4 v5 : Value) (f0 : g6 n 0 = v0) (f1 : g6 n 1 = v1) (f2 : g6 n 2 = v2) (f3 : g6 n 3 = v3) (f4 : g6 n 4 = v4) (f5 : g6 n 5 = v5) :
    R6 w (put6 W ob (n * 6) v0 v1 v2 v3 v4 v5) db sb zb gb rv bl ob cap top E vs S D f g6 (n + 1) := by
  have lt := h.lt
  have ne : ∀ b, b ≠ ob → (put6 W ob (n * 6) v0 v1 v2 v3 v4 v5).heap[b]? = W.heap[b]? := fun b hb => put6_block _ _ _ _ _ _ _ _ _ _ hb
  have hr := h.r.put hn _ _ _ _ _ _ f0 f1 f2 f3 f4 f5
  have hg : Gr2 w (put6 W ob (n * 6) v0 v1 v2 v3 v4 v5) db sb := h.g.new (c := ob) (gr1 _ (gr1 _ (gr1 _ (gr1 _ (gr1 _ (gr1 _ (World.grownBy.refl _ _))))))) (by omega)
  generalize put6 W ob (n * 6) v0 v1 v2 v3 v4 v5 = W' at ne hr hg ⊢
  exact ⟨hg, (ne _ (by omega)).trans h.z, (ne _ (by omega)).trans h.k, (ne _ (by omega)).trans h.v, h.a.keep (fun b _ h2 _ => ne b (by omega)), h.o.of_block (ne _ (by omega)), h.c.of_block (ne _ (by omega)), hr, h.lt⟩
theorem info66 : (Ybaf.prog.info? 66).map (fun i => (i.zero, i.size, i.bytes)) = some (some (.agg #[.string ⟨#[]⟩, .int .u16 0, .int .u8 0, .int .u8 0, .int .i64 0, .bool false]), 6, 48) := by kernel_rfl

end Go.Proofs.YbulkcuegFmt
