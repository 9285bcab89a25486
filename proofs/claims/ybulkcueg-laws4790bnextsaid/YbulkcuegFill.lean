import Derived.Test.YbulkcuegDv
import Derived.Test.YbulkcuegOpen
namespace Go.Proofs.Ybulkcueg
open Go.RowKit Go.Maps

/-- a row of six-cell elements, its first k filled -/
def Fill (W : World) (cb n k : Nat) (t : TypeId) (f : Nat → Nat → Value) : Prop :=
  ∃ cs, W.heap[cb]? = some (.cells cs t (0, 0)) ∧ cs.size = n * 6 ∧ ∀ j, j < k → ∀ m, m < 6 → cs[j * 6 + m]? = some (f j m)

theorem Fill.of_block {W W' : World} {cb n k : Nat} {t : TypeId} {f : Nat → Nat → Value} (h : Fill W cb n k t f) (e : W'.heap[cb]? = W.heap[cb]?) : Fill W' cb n k t f := by
  obtain ⟨cs, h1, h2, h3⟩ := h
  exact ⟨cs, e.trans h1, h2, h3⟩

theorem Fill.lt {W : World} {cb n k : Nat} {t : TypeId} {f : Nat → Nat → Value} (h : Fill W cb n k t f) : cb < W.heap.size := by
  obtain ⟨cs, h1, _, _⟩ := h
  exact lt_of_heap h1

theorem Fill.there {W : World} {cb n k : Nat} {t : TypeId} {f : Nat → Nat → Value} (h : Fill W cb n k t f) {o : Nat} (ho : o < n * 6) : (∃ v, W.cell? ⟨cb, o, none⟩ = some v) ∧ W.frozen? ⟨cb, o, none⟩ = false := by
  obtain ⟨cs, h1, h2, _⟩ := h
  exact ⟨⟨cs[o]'(by omega), cell_of h1 (by simp [show o < cs.size by omega])⟩, fz_of h1⟩

theorem Fill.get {W : World} {cb n k : Nat} {t : TypeId} {f : Nat → Nat → Value} (h : Fill W cb n k t f) {j m : Nat} (hj : j < k) (hm : m < 6) : W.cell? ⟨cb, j * 6 + m, none⟩ = some (f j m) := by
  obtain ⟨cs, h1, _, h3⟩ := h
  exact cell_of h1 (h3 j hj m hm)

abbrev put6 (W : World) (cb o : Nat) (v0 v1 v2 v3 v4 v5 : Value) : World := (((((W.setCell ⟨cb, o, none⟩ v0).setCell ⟨cb, o + 1, none⟩ v1).setCell ⟨cb, o + 2, none⟩ v2).setCell ⟨cb, o + 3, none⟩ v3).setCell ⟨cb, o + 4, none⟩ v4).setCell ⟨cb, o + 5, none⟩ v5

theorem Fill.put {W : World} {cb n k : Nat} {t : TypeId} {f : Nat → Nat → Value} (h : Fill W cb n k t f) (hk : k < n) (v0 v1 v2 v3 v4 v5 : Value) (f0 : f k 0 = v0) (f1 : f k 1 = v1) (f2 : f k 2 = v2) (f3 : f k 3 = v3) (f4 : f k 4 = v4) (f5 : f k 5 = v5) :
    Fill (put6 W cb (k * 6) v0 v1 v2 v3 v4 v5) cb n (k + 1) t f := by
  obtain ⟨cs, h1, h2, h3⟩ := h
  refine ⟨_, heap_set v5 (heap_set v4 (heap_set v3 (heap_set v2 (heap_set v1 (heap_set v0 h1))))), by simpa using h2, fun j hj m hm => ?_⟩
  by_cases e : j = k
  · subst e
    have hs : j * 6 + 5 < cs.size := by omega
    subst f0 f1 f2 f3 f4 f5
    rcases m with _ | _ | _ | _ | _ | _ | m
    · simp [show j * 6 < cs.size by omega]
    · simp [show j * 6 + 1 < cs.size by omega]
    · simp [show j * 6 + 2 < cs.size by omega]
    · simp [show j * 6 + 3 < cs.size by omega]
    · simp [show j * 6 + 4 < cs.size by omega]
    · simp [show j * 6 + 5 < cs.size by omega]
    · omega
  · rw [Array.getElem?_setIfInBounds, if_neg (by omega), Array.getElem?_setIfInBounds, if_neg (by omega), Array.getElem?_setIfInBounds, if_neg (by omega), Array.getElem?_setIfInBounds, if_neg (by omega), Array.getElem?_setIfInBounds, if_neg (by omega), Array.getElem?_setIfInBounds, if_neg (by omega)]
    exact h3 j (by omega) m hm

theorem put6_block (W : World) (cb o : Nat) (v0 v1 v2 v3 v4 v5 : Value) (b : Nat) (hb : b ≠ cb) : (put6 W cb o v0 v1 v2 v3 v4 v5).heap[b]? = W.heap[b]? :=
  (Below.heap_setCell _ _ _ _ hb).trans ((Below.heap_setCell _ _ _ _ hb).trans ((Below.heap_setCell _ _ _ _ hb).trans ((Below.heap_setCell _ _ _ _ hb).trans ((Below.heap_setCell _ _ _ _ hb).trans (Below.heap_setCell _ _ _ _ hb)))))

theorem put6_below {w W : World} {B cb o : Nat} {v0 v1 v2 v3 v4 v5 : Value} (h : Below B w W) (hB : B ≤ cb) : Below B w (put6 W cb o v0 v1 v2 v3 v4 v5) :=
  ((((((h.setCell (p := ⟨cb, o, none⟩) hB v0).setCell (p := ⟨cb, o + 1, none⟩) hB v1).setCell (p := ⟨cb, o + 2, none⟩) hB v2).setCell (p := ⟨cb, o + 3, none⟩) hB v3).setCell (p := ⟨cb, o + 4, none⟩) hB v4).setCell (p := ⟨cb, o + 5, none⟩) hB v5)

theorem row_made6 {w1 : World} {g n : Nat} {xs : List Value} {base e : Nat} (ho : w1.ownsRow base e 6 (.slice (some ⟨g, 0, none⟩) n n) n xs) (f : Nat → Nat → Value) : Fill w1 g n 0 e f := by
  rcases ho.2 with ⟨h, _⟩ | ⟨g, c, cu, h, _, hh, _, _, hc, _⟩
  · cases h
  · simp only [Value.slice.injEq, Option.some.injEq, Addr.mk.injEq] at h
    obtain ⟨⟨rfl, _, _⟩, _, rfl⟩ := h
    exact ⟨cu, hh, hc, fun j hj => by omega⟩

/-- an observation's cells -/
def ob6 (qf : Nat → Fin 9) (lv cd : Nat → Int) (kn : Nat → Bool) (j : Nat) : Nat → Value
  | 0 => .string (kd (qf j))
  | 1 => .int .u16 (ka (qf j))
  | 2 => .bool false
  | 3 => .int .i64 (lv j)
  | 4 => .int .u32 (cd j)
  | _ => .bool (kn j)

theorem Fill.scan {W : World} {cb n : Nat} {qf : Nat → Fin 9} {lv cd : Nat → Int} {kn : Nat → Bool} (h : Fill W cb n n 40 (ob6 qf lv cd kn)) : Scan W cb n qf lv cd kn :=
  ⟨fun _ hk => h.get hk (m := 0) (by omega), fun _ hk => h.get hk (m := 1) (by omega), fun _ hk => h.get hk (m := 2) (by omega), fun _ hk => h.get hk (m := 3) (by omega), fun _ hk => h.get hk (m := 4) (by omega), fun _ hk => h.get hk (m := 5) (by omega)⟩

/-- a candidate's cells -/
def ca6 (cq : Nat → Fin 9) (cr ce : Nat → Int) (co : Nat → Bool) (j : Nat) : Nat → Value
  | 0 => .string (kd (cq j))
  | 1 => .int .u16 (ka (cq j))
  | 2 => .int .u8 (cr j)
  | 3 => .int .u8 0
  | 4 => .int .i64 (ce j)
  | _ => .bool (co j)
end Go.Proofs.Ybulkcueg
