import Derived.Test.YbulkcuegFmtLaw
import Derived.Deep.Slices
import Derived.ChangeSame
import Derived.RowKit
import Derived.WideShapes
namespace Go.Proofs.YbulkcuegFmt
open Go.ChangeShapes Go.WideShapes Go.RowKit Go.Deep

section
variable {H : Type} {enc : TypeId × Value → H} {P : Program} {w : World} {base : Nat} {spare : Nat → Bool} {held : Bool}
theorem trod_struct4 {t : TypeId} {f0 f1 f2 f3 : Field} {fuel : Nat} {cs : List Value} {x : DataW H × List MemPlace} (ht : P.underlying t = some (.struct #[f0, f1, f2, f3])) (hC : P.cellsOf t = 4) (o0 : f0.offset = 0) (o1 : f1.offset = 1) (o2 : f2.offset = 2) (o3 : f3.offset = 3)
    (c0 : P.cellsOf f0.type = 1) (c1 : P.cellsOf f1.type = 1) (c2 : P.cellsOf f2.type = 1) (c3 : P.cellsOf f3.type = 1)
    (h : DataW.trod enc P w base spare held fuel t cs = some x) :
    ∃ (v0 v1 v2 v3 : Value) (y0 y1 y2 y3 : DataW H × List MemPlace) (n : Nat), cs = [v0, v1, v2, v3] ∧ DataW.trod enc P w base spare held n f0.type [v0] = some y0 ∧ DataW.trod enc P w base spare held n f1.type [v1] = some y1 ∧ DataW.trod enc P w base spare held n f2.type [v2] = some y2 ∧ DataW.trod enc P w base spare held n f3.type [v3] = some y3 := by
  obtain ⟨xs, n, _, _, hlen, hxl, hf⟩ := DataW.trod_struct ht h
  rw [hC] at hlen
  match xs, hxl, cs, hlen with
  | [y0, y1, y2, y3], _, [v0, v1, v2, v3], _ =>
    have g0 := hf 0 f0 rfl
    have g1 := hf 1 f1 rfl
    have g2 := hf 2 f2 rfl
    have g3 := hf 3 f3 rfl
    simp only [o0, o1, o2, o3, c0, c1, c2, c3] at g0 g1 g2 g3
    exact ⟨v0, v1, v2, v3, y0, y1, y2, y3, n, rfl, g0, g1, g2, g3⟩
end

section
variable {H : Type} {enc : TypeId × Value → H} {w : World} {base : Nat} {spare : Nat → Bool} {held : Bool}
theorem u8_wf {n : Int} (h : (Lit.int .u8 n).wf = true) : 0 ≤ n ∧ n ≤ 255 := by
  simp [Lit.wf, IntKind.min, IntKind.max, IntKind.signed, IntKind.bits] at h
  omega
theorem u64_wf {n : Int} (h : (Lit.int .u64 n).wf = true) : 0 ≤ n ∧ n ≤ 18446744073709551615 := by
  simp [Lit.wf, IntKind.min, IntKind.max, IntKind.signed, IntKind.bits] at h
  omega
theorem open_ob {fuel : Nat} {cs : List Value} {x : DataW H × List MemPlace} (h : DataW.trod enc Ybaf.prog w base spare held fuel 41 cs = some x) :
    ∃ q : Int × Int × Bool × Int, cs = [.int .u8 q.1, .int .u8 q.2.1, .bool q.2.2.1, .int .i64 q.2.2.2] ∧ (0 ≤ q.1 ∧ q.1 ≤ 255) ∧ (0 ≤ q.2.1 ∧ q.2.1 ≤ 255) := by
  obtain ⟨v0, v1, v2, v3, y0, y1, y2, y3, n, rfl, h0, h1, h2, h3⟩ := trod_struct4 Ybaf.underlying41 (by kernel_rfl) rfl rfl rfl rfl (by kernel_rfl) (by kernel_rfl) (by kernel_rfl) (by kernel_rfl) h
  obtain ⟨a, e0, _, w0⟩ := DataW.trod_int Ybaf.underlying5 h0
  obtain ⟨b, e1, _, w1⟩ := DataW.trod_int Ybaf.underlying5 h1
  obtain ⟨c, e2, _⟩ := DataW.trod_bool Ybaf.underlying4 h2
  obtain ⟨d, e3, _, _⟩ := DataW.trod_int Ybaf.underlying3 h3
  simp only [List.cons.injEq, and_true] at e0 e1 e2 e3
  subst e0 e1 e2 e3
  exact ⟨(a, b, c, d), rfl, u8_wf w0, u8_wf w1⟩
theorem open_obs {da : Option Addr} {len cap fuel : Nat} {x : DataW H × List MemPlace} (h : DataW.trod enc Ybaf.prog w base spare held fuel 22 [.slice da len cap] = some x) :
    len ≤ maxLen ∧ ∃ op oA oh ol, ObsR w da len op oA oh ol := by
  rcases open_slice Ybaf.underlying22 h with ⟨e, _⟩ | ⟨a, l, c, m, n, D, Pl, e, hb, hl, hm, hmm, _, hx⟩
  · simp only [List.cons.injEq, Value.slice.injEq, and_true] at e
    obtain ⟨rfl, rfl, rfl⟩ := e
    exact ⟨Nat.zero_le _, fun _ => 0, fun _ => 0, fun _ => false, fun _ => 0, fun i hi => by omega, fun h0 => by omega⟩
  · simp only [List.cons.injEq, Value.slice.injEq, and_true] at e
    obtain ⟨rfl, rfl, rfl⟩ := e
    have hlm : len ≤ m := by rw [hmm]; split <;> omega
    have ce : Ybaf.prog.cellsOf 41 = 4 := by kernel_rfl
    have each : ∀ i, i < len → ∃ q : Int × Int × Bool × Int, ((0 ≤ q.1 ∧ q.1 ≤ 255) ∧ (0 ≤ q.2.1 ∧ q.2.1 ≤ 255)) ∧ w.cell? (a.add (i * 4)) = some (.int .u8 q.1) ∧ w.cell? (a.add (i * 4 + 1)) = some (.int .u8 q.2.1) ∧ w.cell? (a.add (i * 4 + 2)) = some (.bool q.2.2.1) ∧ w.cell? (a.add (i * 4 + 3)) = some (.int .i64 q.2.2.2) := by
      intro i hi
      obtain ⟨cs', h1, h2⟩ := hx i (by omega)
      rw [ce] at h1
      obtain ⟨_, hlen, hcell⟩ := World.cells?_some h1
      obtain ⟨q, rfl, r0, r1⟩ := open_ob h2
      have e0 := hcell 0 (by omega)
      have e1 := hcell 1 (by omega)
      have e2 := hcell 2 (by omega)
      have e3 := hcell 3 (by omega)
      rw [add_add] at e0 e1 e2 e3
      exact ⟨q, ⟨r0, r1⟩, by simpa using e0, by simpa using e1, by simpa using e2, by simpa using e3⟩
    obtain ⟨q, hq⟩ := choose_lt each
    refine ⟨by omega, fun i => (q i).1, fun i => (q i).2.1, fun i => (q i).2.2.1, fun i => (q i).2.2.2, fun i hi => (hq i hi).1, fun h0 => ?_⟩
    obtain ⟨b, o, sp⟩ := a
    have hsp : sp = none := by simpa [Addr.add] using World.cell?_spot (hq 0 h0).2.1
    subst hsp
    have hc := hq
    simp only [add_plain] at hc
    exact ⟨b, o, rfl, lt_of_cell (hc 0 h0).2.1, fun i hi => (hc i hi).2⟩
theorem open_u8s {da : Option Addr} {len cap fuel : Nat} {x : DataW H × List MemPlace} (h : DataW.trod enc Ybaf.prog w base spare held fuel 23 [.slice da len cap] = some x) :
    len ≤ maxLen ∧ ∃ xs, U8R w da len xs := by
  rcases open_slice Ybaf.underlying23 h with ⟨e, _⟩ | ⟨a, l, c, m, n, D, Pl, e, hb, hl, hm, hmm, _, hx⟩
  · simp only [List.cons.injEq, Value.slice.injEq, and_true] at e
    obtain ⟨rfl, rfl, rfl⟩ := e
    exact ⟨Nat.zero_le _, fun _ => 0, fun i hi => by omega, fun h0 => by omega⟩
  · simp only [List.cons.injEq, Value.slice.injEq, and_true] at e
    obtain ⟨rfl, rfl, rfl⟩ := e
    have hlm : len ≤ m := by rw [hmm]; split <;> omega
    have ce : Ybaf.prog.cellsOf 5 = 1 := by kernel_rfl
    have each : ∀ i, i < len → ∃ q : Int, (0 ≤ q ∧ q ≤ 255) ∧ w.cell? (a.add i) = some (.int .u8 q) := by
      intro i hi
      obtain ⟨cs', h1, h2⟩ := hx i (by omega)
      rw [ce] at h1
      obtain ⟨_, hlen, hcell⟩ := World.cells?_some h1
      obtain ⟨q, rfl, _, r0⟩ := DataW.trod_int Ybaf.underlying5 h2
      have e0 := hcell 0 (by omega)
      rw [add_add] at e0
      exact ⟨q, u8_wf r0, by simpa using e0⟩
    obtain ⟨q, hq⟩ := choose_lt each
    refine ⟨by omega, q, fun i hi => (hq i hi).1, fun h0 => ?_⟩
    obtain ⟨b, o, sp⟩ := a
    have hsp : sp = none := by simpa [Addr.add] using World.cell?_spot (hq 0 h0).2
    subst hsp
    have hc := hq
    simp only [add_plain] at hc
    exact ⟨b, o, rfl, lt_of_cell (by simpa using (hc 0 h0).2), fun i hi => (hc i hi).2⟩
set_option maxRecDepth 100000 in
theorem open_u64s {da : Option Addr} {len cap fuel b0 : Nat} {r : Reach} {x : DataW H × List MemPlace} (h : DataW.trod enc Ybaf.prog w base spare held fuel 24 [.slice da len cap] = some x) (hv : Value.okWide Ybaf.prog w r b0 24 (.slice da len cap)) :
    len ≤ maxLen ∧ ∃ vals : Nat → Int, RowV w (.slice da len cap) len (fun i => .int .u64 (vals i)) ∧ ∀ i, i < len → 0 ≤ vals i ∧ vals i ≤ 18446744073709551615 := by
  rcases open_slice Ybaf.underlying24 h with ⟨e, _⟩ | ⟨a, l, c, m, n, D, Pl, e, hb, hl, hm, hmm, _, hx⟩
  · simp only [List.cons.injEq, Value.slice.injEq, and_true] at e
    obtain ⟨rfl, rfl, rfl⟩ := e
    exact ⟨Nat.zero_le _, fun _ => 0, .inl ⟨rfl, rfl⟩, fun i hi => by omega⟩
  · simp only [List.cons.injEq, Value.slice.injEq, and_true] at e
    obtain ⟨rfl, rfl, rfl⟩ := e
    have hlm : len ≤ m := by rw [hmm]; split <;> omega
    have ce : Ybaf.prog.cellsOf 162 = 1 := by kernel_rfl
    have each : ∀ i, i < len → ∃ q : Int, (0 ≤ q ∧ q ≤ 18446744073709551615) ∧ w.cell? (a.add i) = some (.int .u64 q) := by
      intro i hi
      obtain ⟨cs', h1, h2⟩ := hx i (by omega)
      rw [ce] at h1
      obtain ⟨_, hlen, hcell⟩ := World.cells?_some h1
      obtain ⟨q, rfl, _, r0⟩ := DataW.trod_int Ybaf.underlying162 h2
      have e0 := hcell 0 (by omega)
      rw [add_add] at e0
      exact ⟨q, u64_wf r0, by simpa using e0⟩
    obtain ⟨q, hq⟩ := choose_lt each
    simp only [Value.okWide, Ybaf.underlying24, Cell.okWide] at hv
    have hv' : a.spot = none ∧ ∃ row cells, w.shape? a.block = some (row, cells) := by
      simp [Cell.ok, World.has, Ybaf.underlying24] at hv
      obtain ⟨_, _, _, h2, row, cells, h3, _⟩ := hv
      exact ⟨h2, row, cells, h3⟩
    obtain ⟨hsp, row, cells, hsh⟩ := hv'
    obtain ⟨b, o, sp⟩ := a
    simp only at hsp
    subst hsp
    have hlt : b < w.heap.size := by
      refine Nat.lt_of_not_le fun hle => ?_
      unfold World.shape? at hsh
      simp [Array.getElem?_eq_none hle] at hsh
    simp only [add_plain] at hq
    exact ⟨by omega, q, .inr ⟨b, o, cap, rfl, hlt, fun i hi => (hq i hi).2⟩, fun i hi => (hq i hi).1⟩
end
end Go.Proofs.YbulkcuegFmt
