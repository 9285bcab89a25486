import Derived.Test.YbulkcuegRows
import Derived.Deep.Slices
import Derived.ChangeSame
import Derived.RowKit
namespace Go.Proofs.Ybulkcueg
open Go.ChangeShapes Go.WideShapes Go.RowKit Go.Deep

/-- the observations, where they lie -/
def ObsIn (w : World) (sa : Option Addr) (n : Nat) (op oa ol ot : Nat → Int) (ok : Nat → Bool) : Prop :=
  (∀ i, i < n → (0 ≤ op i ∧ op i ≤ 255) ∧ (0 ≤ oa i ∧ oa i ≤ 255) ∧ (0 ≤ ot i ∧ ot i ≤ 65535)) ∧
  (0 < n → ∃ b o, sa = some ⟨b, o, none⟩ ∧ b < w.heap.size ∧ ∀ i, i < n → w.cell? ⟨b, o + i * 5, none⟩ = some (.int .u8 (op i)) ∧ w.cell? ⟨b, o + i * 5 + 1, none⟩ = some (.int .u8 (oa i)) ∧ w.cell? ⟨b, o + i * 5 + 2, none⟩ = some (.int .i64 (ol i)) ∧ w.cell? ⟨b, o + i * 5 + 3, none⟩ = some (.int .u16 (ot i)) ∧ w.cell? ⟨b, o + i * 5 + 4, none⟩ = some (.bool (ok i)))

/-- the candidates, where they lie -/
def CandIn (w : World) (sa : Option Addr) (n : Nat) (cp ca : Nat → Int) (cu co : Nat → Bool) (ce : Nat → Int) : Prop :=
  (∀ i, i < n → (0 ≤ cp i ∧ cp i ≤ 255) ∧ (0 ≤ ca i ∧ ca i ≤ 255)) ∧
  (0 < n → ∃ b o, sa = some ⟨b, o, none⟩ ∧ b < w.heap.size ∧ ∀ i, i < n → w.cell? ⟨b, o + i * 5, none⟩ = some (.int .u8 (cp i)) ∧ w.cell? ⟨b, o + i * 5 + 1, none⟩ = some (.int .u8 (ca i)) ∧ w.cell? ⟨b, o + i * 5 + 2, none⟩ = some (.bool (cu i)) ∧ w.cell? ⟨b, o + i * 5 + 3, none⟩ = some (.bool (co i)) ∧ w.cell? ⟨b, o + i * 5 + 4, none⟩ = some (.int .i64 (ce i)))

theorem lt_of_cell {w : World} {b o : Nat} {v : Value} (h : w.cell? ⟨b, o, none⟩ = some v) : b < w.heap.size := by
  refine Nat.lt_of_not_le fun hle => ?_
  unfold World.cell? at h
  rw [Array.getElem?_eq_none hle] at h
  cases h

section
variable {H : Type} {enc : TypeId × Value → H} {P : Program} {w : World} {base : Nat} {spare : Nat → Bool} {held : Bool}

theorem trod_struct5 {t : TypeId} {f0 f1 f2 f3 f4 : Field} {fuel : Nat} {cs : List Value} {x : DataW H × List MemPlace} (ht : P.underlying t = some (.struct #[f0, f1, f2, f3, f4])) (hC : P.cellsOf t = 5) (o0 : f0.offset = 0) (o1 : f1.offset = 1) (o2 : f2.offset = 2) (o3 : f3.offset = 3) (o4 : f4.offset = 4)
    (c0 : P.cellsOf f0.type = 1) (c1 : P.cellsOf f1.type = 1) (c2 : P.cellsOf f2.type = 1) (c3 : P.cellsOf f3.type = 1) (c4 : P.cellsOf f4.type = 1)
    (h : DataW.trod enc P w base spare held fuel t cs = some x) :
    ∃ (v0 v1 v2 v3 v4 : Value) (y0 y1 y2 y3 y4 : DataW H × List MemPlace) (n : Nat), cs = [v0, v1, v2, v3, v4] ∧ DataW.trod enc P w base spare held n f0.type [v0] = some y0 ∧ DataW.trod enc P w base spare held n f1.type [v1] = some y1 ∧ DataW.trod enc P w base spare held n f2.type [v2] = some y2 ∧ DataW.trod enc P w base spare held n f3.type [v3] = some y3 ∧ DataW.trod enc P w base spare held n f4.type [v4] = some y4 := by
  obtain ⟨xs, n, _, _, hlen, hxl, hf⟩ := DataW.trod_struct ht h
  rw [hC] at hlen
  match xs, hxl, cs, hlen with
  | [y0, y1, y2, y3, y4], _, [v0, v1, v2, v3, v4], _ =>
    have g0 := hf 0 f0 rfl
    have g1 := hf 1 f1 rfl
    have g2 := hf 2 f2 rfl
    have g3 := hf 3 f3 rfl
    have g4 := hf 4 f4 rfl
    simp only [o0, o1, o2, o3, o4, c0, c1, c2, c3, c4] at g0 g1 g2 g3 g4
    exact ⟨v0, v1, v2, v3, v4, y0, y1, y2, y3, y4, n, rfl, g0, g1, g2, g3, g4⟩
end

section
variable {H : Type} {enc : TypeId × Value → H} {w : World} {base : Nat} {spare : Nat → Bool} {held : Bool}

theorem u8_wf {n : Int} (h : (Lit.int .u8 n).wf = true) : 0 ≤ n ∧ n ≤ 255 := by
  simp [Lit.wf, IntKind.min, IntKind.max, IntKind.signed, IntKind.bits] at h
  omega
theorem u16_wf {n : Int} (h : (Lit.int .u16 n).wf = true) : 0 ≤ n ∧ n ≤ 65535 := by
  simp [Lit.wf, IntKind.min, IntKind.max, IntKind.signed, IntKind.bits] at h
  omega

theorem open_cand {fuel : Nat} {cs : List Value} {x : DataW H × List MemPlace} (h : DataW.trod enc Yba.prog w base spare held fuel 25 cs = some x) :
    ∃ q : Int × Int × Bool × Bool × Int, cs = [.int .u8 q.1, .int .u8 q.2.1, .bool q.2.2.1, .bool q.2.2.2.1, .int .i64 q.2.2.2.2] ∧ (0 ≤ q.1 ∧ q.1 ≤ 255) ∧ (0 ≤ q.2.1 ∧ q.2.1 ≤ 255) := by
  obtain ⟨v0, v1, v2, v3, v4, y0, y1, y2, y3, y4, n, rfl, h0, h1, h2, h3, h4⟩ := trod_struct5 Yba.underlying25 (by kernel_rfl) rfl rfl rfl rfl rfl (by kernel_rfl) (by kernel_rfl) (by kernel_rfl) (by kernel_rfl) (by kernel_rfl) h
  obtain ⟨a, e0, _, w0⟩ := DataW.trod_int Yba.underlying5 h0
  obtain ⟨b, e1, _, w1⟩ := DataW.trod_int Yba.underlying5 h1
  obtain ⟨c, e2, _⟩ := DataW.trod_bool Yba.underlying4 h2
  obtain ⟨d, e3, _⟩ := DataW.trod_bool Yba.underlying4 h3
  obtain ⟨e, e4, _, _⟩ := DataW.trod_int Yba.underlying3 h4
  simp only [List.cons.injEq, and_true] at e0 e1 e2 e3 e4
  subst e0 e1 e2 e3 e4
  exact ⟨(a, b, c, d, e), rfl, u8_wf w0, u8_wf w1⟩

theorem open_ob {fuel : Nat} {cs : List Value} {x : DataW H × List MemPlace} (h : DataW.trod enc Yba.prog w base spare held fuel 29 cs = some x) :
    ∃ q : Int × Int × Int × Int × Bool, cs = [.int .u8 q.1, .int .u8 q.2.1, .int .i64 q.2.2.1, .int .u16 q.2.2.2.1, .bool q.2.2.2.2] ∧ (0 ≤ q.1 ∧ q.1 ≤ 255) ∧ (0 ≤ q.2.1 ∧ q.2.1 ≤ 255) ∧ (0 ≤ q.2.2.2.1 ∧ q.2.2.2.1 ≤ 65535) := by
  obtain ⟨v0, v1, v2, v3, v4, y0, y1, y2, y3, y4, n, rfl, h0, h1, h2, h3, h4⟩ := trod_struct5 Yba.underlying29 (by kernel_rfl) rfl rfl rfl rfl rfl (by kernel_rfl) (by kernel_rfl) (by kernel_rfl) (by kernel_rfl) (by kernel_rfl) h
  obtain ⟨a, e0, _, w0⟩ := DataW.trod_int Yba.underlying5 h0
  obtain ⟨b, e1, _, w1⟩ := DataW.trod_int Yba.underlying5 h1
  obtain ⟨c, e2, _, _⟩ := DataW.trod_int Yba.underlying3 h2
  obtain ⟨d, e3, _, w3⟩ := DataW.trod_int Yba.underlying26 h3
  obtain ⟨e, e4, _⟩ := DataW.trod_bool Yba.underlying4 h4
  simp only [List.cons.injEq, and_true] at e0 e1 e2 e3 e4
  subst e0 e1 e2 e3 e4
  exact ⟨(a, b, c, d, e), rfl, u8_wf w0, u8_wf w1, u16_wf w3⟩

theorem open_scan {da : Option Addr} {len cap fuel : Nat} {x : DataW H × List MemPlace} (h : DataW.trod enc Yba.prog w base spare held fuel 22 [.slice da len cap] = some x) :
    len ≤ maxLen ∧ ∃ op oa ol ot ok, ObsIn w da len op oa ol ot ok := by
  rcases open_slice Yba.underlying22 h with ⟨e, _⟩ | ⟨a, l, c, m, n, D, Pl, e, hb, hl, hm, hmm, _, hx⟩
  · simp only [List.cons.injEq, Value.slice.injEq, and_true] at e
    obtain ⟨rfl, rfl, rfl⟩ := e
    exact ⟨Nat.zero_le _, fun _ => 0, fun _ => 0, fun _ => 0, fun _ => 0, fun _ => false, fun i hi => by omega, fun h0 => by omega⟩
  · simp only [List.cons.injEq, Value.slice.injEq, and_true] at e
    obtain ⟨rfl, rfl, rfl⟩ := e
    have hlm : len ≤ m := by rw [hmm]; split <;> omega
    have ce : Yba.prog.cellsOf 29 = 5 := by kernel_rfl
    have each : ∀ i, i < len → ∃ q : Int × Int × Int × Int × Bool, ((0 ≤ q.1 ∧ q.1 ≤ 255) ∧ (0 ≤ q.2.1 ∧ q.2.1 ≤ 255) ∧ (0 ≤ q.2.2.2.1 ∧ q.2.2.2.1 ≤ 65535)) ∧ w.cell? (a.add (i * 5)) = some (.int .u8 q.1) ∧ w.cell? (a.add (i * 5 + 1)) = some (.int .u8 q.2.1) ∧ w.cell? (a.add (i * 5 + 2)) = some (.int .i64 q.2.2.1) ∧ w.cell? (a.add (i * 5 + 3)) = some (.int .u16 q.2.2.2.1) ∧ w.cell? (a.add (i * 5 + 4)) = some (.bool q.2.2.2.2) := by
      intro i hi
      obtain ⟨cs', h1, h2⟩ := hx i (by omega)
      rw [ce] at h1
      obtain ⟨_, hlen, hcell⟩ := World.cells?_some h1
      obtain ⟨q, rfl, r0, r1, r3⟩ := open_ob h2
      have e0 := hcell 0 (by omega)
      have e1 := hcell 1 (by omega)
      have e2 := hcell 2 (by omega)
      have e3 := hcell 3 (by omega)
      have e4 := hcell 4 (by omega)
      rw [add_add] at e0 e1 e2 e3 e4
      exact ⟨q, ⟨r0, r1, r3⟩, by simpa using e0, by simpa using e1, by simpa using e2, by simpa using e3, by simpa using e4⟩
    obtain ⟨q, hq⟩ := choose_lt each
    refine ⟨by omega, fun i => (q i).1, fun i => (q i).2.1, fun i => (q i).2.2.1, fun i => (q i).2.2.2.1, fun i => (q i).2.2.2.2, fun i hi => (hq i hi).1, fun h0 => ?_⟩
    obtain ⟨b, o, sp⟩ := a
    have hsp : sp = none := by simpa [Addr.add] using World.cell?_spot (hq 0 h0).2.1
    subst hsp
    have hc := hq
    simp only [add_plain] at hc
    exact ⟨b, o, rfl, lt_of_cell (hc 0 h0).2.1, fun i hi => (hc i hi).2⟩

theorem open_cands {da : Option Addr} {len cap fuel : Nat} {x : DataW H × List MemPlace} (h : DataW.trod enc Yba.prog w base spare held fuel 23 [.slice da len cap] = some x) :
    len ≤ maxLen ∧ ∃ cp ca cu co ce, CandIn w da len cp ca cu co ce := by
  rcases open_slice Yba.underlying23 h with ⟨e, _⟩ | ⟨a, l, c, m, n, D, Pl, e, hb, hl, hm, hmm, _, hx⟩
  · simp only [List.cons.injEq, Value.slice.injEq, and_true] at e
    obtain ⟨rfl, rfl, rfl⟩ := e
    exact ⟨Nat.zero_le _, fun _ => 0, fun _ => 0, fun _ => false, fun _ => false, fun _ => 0, fun i hi => by omega, fun h0 => by omega⟩
  · simp only [List.cons.injEq, Value.slice.injEq, and_true] at e
    obtain ⟨rfl, rfl, rfl⟩ := e
    have hlm : len ≤ m := by rw [hmm]; split <;> omega
    have ce : Yba.prog.cellsOf 25 = 5 := by kernel_rfl
    have each : ∀ i, i < len → ∃ q : Int × Int × Bool × Bool × Int, ((0 ≤ q.1 ∧ q.1 ≤ 255) ∧ (0 ≤ q.2.1 ∧ q.2.1 ≤ 255)) ∧ w.cell? (a.add (i * 5)) = some (.int .u8 q.1) ∧ w.cell? (a.add (i * 5 + 1)) = some (.int .u8 q.2.1) ∧ w.cell? (a.add (i * 5 + 2)) = some (.bool q.2.2.1) ∧ w.cell? (a.add (i * 5 + 3)) = some (.bool q.2.2.2.1) ∧ w.cell? (a.add (i * 5 + 4)) = some (.int .i64 q.2.2.2.2) := by
      intro i hi
      obtain ⟨cs', h1, h2⟩ := hx i (by omega)
      rw [ce] at h1
      obtain ⟨_, hlen, hcell⟩ := World.cells?_some h1
      obtain ⟨q, rfl, r0, r1⟩ := open_cand h2
      have e0 := hcell 0 (by omega)
      have e1 := hcell 1 (by omega)
      have e2 := hcell 2 (by omega)
      have e3 := hcell 3 (by omega)
      have e4 := hcell 4 (by omega)
      rw [add_add] at e0 e1 e2 e3 e4
      exact ⟨q, ⟨r0, r1⟩, by simpa using e0, by simpa using e1, by simpa using e2, by simpa using e3, by simpa using e4⟩
    obtain ⟨q, hq⟩ := choose_lt each
    refine ⟨by omega, fun i => (q i).1, fun i => (q i).2.1, fun i => (q i).2.2.1, fun i => (q i).2.2.2.1, fun i => (q i).2.2.2.2, fun i hi => (hq i hi).1, fun h0 => ?_⟩
    obtain ⟨b, o, sp⟩ := a
    have hsp : sp = none := by simpa [Addr.add] using World.cell?_spot (hq 0 h0).2.1
    subst hsp
    have hc := hq
    simp only [add_plain] at hc
    exact ⟨b, o, rfl, lt_of_cell (hc 0 h0).2.1, fun i hi => (hc i hi).2⟩
end
end Go.Proofs.Ybulkcueg
