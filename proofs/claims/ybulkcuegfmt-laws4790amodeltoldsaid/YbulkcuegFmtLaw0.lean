import Derived.Test.YbulkcuegFmtChk2
import Derived.Test.YbulkcuegFmtSmall
namespace Go.Proofs.YbulkcuegFmt
open Go.RowKit Go.Maps

theorem neq29 (q : Fin 50) (p : Fin 5) (w : World) : (binOp .neq 29 (.agg #[.string (kd q)]) (.agg #[.string (dig p.val)])).run Ybaf.prog w = .ok (.bool (!decide (nt q = p))) w := by
  have h : ∀ a b : ByteArray, ∀ w, (binOp .neq 29 (.agg #[.string a]) (.agg #[.string b])).run Ybaf.prog w = .ok (.bool (!decide (a.data.toList = b.data.toList))) w := fun a b w => by
    rw [← ByteArray.toList_eq, ← ByteArray.toList_eq]
    by_cases e : a.toList = b.toList <;> simp [go_sem, e]
  rw [kd_nt, h, dig_eq]
theorem neq64 (a b : Int) (w : World) : (binOp .neq 64 (.agg #[.int .u8 a, .int .u8 0, .int .i64 0]) (.agg #[.int .u8 b, .int .u8 0, .int .i64 0])).run Ybaf.prog w = .ok (.bool (!decide (a = b))) w := by
  by_cases e : a = b <;> simp [go_sem, e]

/-- what the law's last loop reads -/
structure LS (W : World) (ks L : List (Fin 50)) (rr : Fin 50 → Int) (el : Fin 50 → Bool) (cl ho lo : Fin 50 → Int) (ca : Option Addr) (cb : Nat) (mca : Option Addr) (mb : Nat) (mla : Option Addr) (lb eb sb hb : Nat) : Prop where
  c : ∀ i, i < L.length → ∀ c, c < 6 → W.cell? ⟨cb, i * 6 + c, none⟩ = (rkd (rr (L.getD i 0)) (L.getD i 0))[c]?
  ca : 0 < L.length → ca = some ⟨cb, 0, none⟩
  m : ∀ j, j < ks.length → W.cell? ⟨mb, j * 2, none⟩ = some (.string (kd (ks.getD j 0))) ∧ W.cell? ⟨mb, j * 2 + 1, none⟩ = some (.int .u16 (ka (ks.getD j 0)))
  mca : 0 < ks.length → mca = some ⟨mb, 0, none⟩
  l : ∀ j, j < ks.length → W.cell? ⟨lb, j, none⟩ = some (.int .i64 (lo (ks.getD j 0)))
  mla : 0 < ks.length → mla = some ⟨lb, 0, none⟩
  e : ∀ j, j < ks.length → W.cell? ⟨eb, j, none⟩ = some (.bool (el (ks.getD j 0)))
  s : ∀ j, j < ks.length → el (ks.getD j 0) = true → W.cell? ⟨sb, j, none⟩ = some (.int .i64 (cl (ks.getD j 0)))
  h : ∀ j, j < ks.length → el (ks.getD j 0) = true → W.cell? ⟨hb, j, none⟩ = some (.int .i64 (ho (ks.getD j 0)))
theorem LS.keep {W W' : World} {ks L : List (Fin 50)} {rr : Fin 50 → Int} {el : Fin 50 → Bool} {cl ho lo : Fin 50 → Int} {ca : Option Addr} {cb : Nat} {mca : Option Addr} {mb : Nat} {mla : Option Addr} {lb eb sb hb : Nat} (h : LS W ks L rr el cl ho lo ca cb mca mb mla lb eb sb hb) (k : ∀ b, b < W.heap.size → W'.heap[b]? = W.heap[b]?) : LS W' ks L rr el cl ho lo ca cb mca mb mla lb eb sb hb := by
  have kc : ∀ b o v, W.cell? ⟨b, o, none⟩ = some v → W'.cell? ⟨b, o, none⟩ = some v := fun b o v hv => (World.cell?_of_block (w := W) (a := ⟨b, o, none⟩) (k b (lt_of_cell hv))).trans hv
  refine ⟨fun i hi c hc => ?_, h.ca, fun j hj => ⟨kc _ _ _ (h.m j hj).1, kc _ _ _ (h.m j hj).2⟩, h.mca, fun j hj => kc _ _ _ (h.l j hj), h.mla, fun j hj => kc _ _ _ (h.e j hj), fun j hj he => kc _ _ _ (h.s j hj he), fun j hj he => kc _ _ _ (h.h j hj he)⟩
  have hh := h.c i hi c hc
  have h9 : c < (rkd (rr (L.getD i 0)) (L.getD i 0)).length := hc
  rw [List.getElem?_eq_getElem h9] at hh ⊢
  exact kc _ _ _ hh
/-- a row of truth values -/
def Bw (W : World) (bl N : Nat) (D : Nat → Bool) : Prop := ∃ cs, W.heap[bl]? = some (.cells cs 4 (0, 0)) ∧ cs.size = N ∧ ∀ i, i < N → cs[i]? = some (.bool (D i))
theorem Bw.get {W : World} {bl N : Nat} {D : Nat → Bool} (h : Bw W bl N D) {i : Nat} (hi : i < N) : W.cell? ⟨bl, i, none⟩ = some (.bool (D i)) := by
  obtain ⟨cs, h1, _, h3⟩ := h
  exact cell_of h1 (h3 i hi)
theorem Bw.fz {W : World} {bl N : Nat} {D : Nat → Bool} (h : Bw W bl N D) (i : Nat) : W.frozen? ⟨bl, i, none⟩ = false := by
  obtain ⟨cs, h1, _, _⟩ := h
  exact fz_of h1
theorem Bw.of_block {W W' : World} {bl N : Nat} {D : Nat → Bool} (h : Bw W bl N D) (e : W'.heap[bl]? = W.heap[bl]?) : Bw W' bl N D := by
  obtain ⟨cs, h1, h2, h3⟩ := h
  exact ⟨cs, e.trans h1, h2, h3⟩
theorem Bw.lt {W : World} {bl N : Nat} {D : Nat → Bool} (h : Bw W bl N D) : bl < W.heap.size := by
  obtain ⟨cs, h1, _, _⟩ := h
  exact lt_of_heap h1
theorem Bw.set {W : World} {bl N : Nat} {D : Nat → Bool} (h : Bw W bl N D) (p : Nat) (x : Bool) : Bw (W.setCell ⟨bl, p, none⟩ (.bool x)) bl N (fun y => if y = p then x else D y) := by
  obtain ⟨cs, h1, h2, h3⟩ := h
  refine ⟨_, heap_set _ h1, by simpa using h2, fun i hi => ?_⟩
  by_cases e : i = p
  · subst e
    simp [show i < cs.size by omega]
  · rw [Array.getElem?_setIfInBounds, if_neg (fun e' => e e'.symm)]
    simp only [e, if_false]
    exact h3 i hi
theorem row_bool {w1 : World} {g n : Nat} {base : Nat} {xs : List Value} (ho : w1.ownsRow base 4 1 (.slice (some ⟨g, 0, none⟩) n n) n xs) (hx : ∀ i, i < n → xs[i]? = some (.bool false)) : Bw w1 g n (fun _ => false) := by
  rcases ho.2 with ⟨h, _⟩ | ⟨g, c, cu, h, _, hh, _, _, hc, ht⟩
  · cases h
  · simp only [Value.slice.injEq, Option.some.injEq, Addr.mk.injEq] at h
    obtain ⟨⟨rfl, _, _⟩, _, rfl⟩ := h
    refine ⟨cu, hh, by simpa using hc, fun i hi => ?_⟩
    have := hx i hi
    rw [← ht, List.getElem?_take, if_pos (by omega)] at this
    simpa using this
theorem info4 : (Ybaf.prog.info? 4).map (fun i => (i.zero, i.size, i.bytes)) = some (some (.bool false), 1, 1) := by kernel_rfl
theorem fst_of {ks : List (Fin 50)} {q : Fin 50} {r : Int} (hq : q ∈ ks) (h : IsFst (fun j => decide (nt q = nt (ks.getD j 0)) && decide (ka q = ka (ks.getD j 0))) ks.length r) : ∃ j : Nat, r = j ∧ j < ks.length ∧ ks.getD j 0 = q := by
  rcases h with ⟨_, h⟩ | ⟨k, h1, h2, h3, _⟩
  · obtain ⟨j, hj, e⟩ := List.mem_iff_getElem.1 hq
    have := h j hj
    simp only [show ks.getD j 0 = q by simp [List.getD, hj, e]] at this
    simp at this
  · simp at h3
    exact ⟨k, h1, h2, (key_eq (by simpa using h3.1) (by simpa using h3.2)).symm⟩
end Go.Proofs.YbulkcuegFmt
