import Derived.Test.YbulkcuegFmtRk
namespace Go.Proofs.YbulkcuegFmt
open Go.RowKit Go.Maps

/-- the ranker, its blocks from base to top -/
structure Rk (W : World) (base top rb mb hb hcap : Nat) (nb : Fin 5 → Option Nat) (n : Nat) (dl hl : List Int) : Prop where
  r : W.heap[rb]? = some (.cells (rkC (ordK dl dl.length) (hoK dl hl hl.length) (.slice (some ⟨hb, 0, none⟩) 1 hcap) mb) 113 (0, 0))
  h : W.cell? ⟨hb, 0, none⟩ = some (.string (dig 1))
  m : NMap W mb nb n
  f : ∀ d b, nb d = some b → base ≤ b ∧ b < top ∧ W.cell? ⟨b, 0, none⟩ = some (.bool true)
  lt : base ≤ rb ∧ base ≤ mb ∧ base ≤ hb ∧ rb < top ∧ mb < top ∧ hb < top

theorem Rk.keep {W W' : World} {base top rb mb hb hcap : Nat} {nb : Fin 5 → Option Nat} {n : Nat} {dl hl : List Int} (h : Rk W base top rb mb hb hcap nb n dl hl) (k : ∀ b, base ≤ b → b < top → W'.heap[b]? = W.heap[b]?) : Rk W' base top rb mb hb hcap nb n dl hl := by
  obtain ⟨l1, l2, l3, l4, l5, l6⟩ := h.lt
  exact ⟨(k _ l1 l4).trans h.r, (World.cell?_of_block (w := W) (a := ⟨hb, 0, none⟩) (k _ l3 l6)).trans h.h, h.m.of_block (k _ l2 l5), fun d b e => by
    obtain ⟨g1, g2, g3⟩ := h.f d b e
    exact ⟨g1, g2, (World.cell?_of_block (w := W) (a := ⟨b, 0, none⟩) (k _ g1 g2)).trans g3⟩, h.lt⟩

theorem RS.rk {w W : World} {rb mb hb hcap : Nat} {nb : Fin 5 → Option Nat} {n : Nat} {dl hl : List Int} (h : RS w W rb mb hb hcap nb n (ordK dl dl.length) (hoK dl hl hl.length)) : Rk W w.heap.size W.heap.size rb mb hb hcap nb n dl hl := by
  obtain ⟨l1, l2, l3, _, _, _⟩ := h.lt
  exact ⟨h.r, h.h, h.m, fun d b e => ⟨(h.f d b e).1, lt_of_heap (h.f d b e).2.2, cell_of (h.f d b e).2.2 rfl⟩, l1, l2, l3, lt_of_heap h.r, h.m.lt, lt_of_cell h.h⟩

/-- the device's cells -/
abbrev devC (im : ByteArray) (mnc : Int) (v2 v3 v6 v7 : Value) (md : Int) (rp : ByteArray) (v15 rk : Value) (sb : Nat) (cov ix : Value) : Array Value :=
  #[.string im, .int .i64 mnc, v2, v3, .slice none 0 0, .slice none 0 0, v6, v7, .bool false, .int .u8 md, .bool false, .int .i64 0, .int .i64 0, .bool false, .string rp, v15, .slice none 0 0, .slice none 0 0, rk, .iface 49 (.pointer (some ⟨sb, 0, none⟩)), cov, ix, .int .u8 0, .string ⟨#[]⟩, .int .u16 0, .int .u32 0, .bool false, .string ⟨#[]⟩, .int .u16 0, .int .u8 0, .int .u8 0, .int .i64 0, .bool false, .int .u32 0, .bool false, .slice none 0 0, .pointer none, .string ⟨#[]⟩, .int .u16 0, .int .u8 0, .int .u8 0, .int .i64 0, .bool false, .int .u8 0, .int .u8 0, .int .i64 0, .map none]

/-- the device -/
structure Dev (W : World) (dv sb : Nat) (md : Int) (rp : ByteArray) (n15 : Nat) (el : Nat → Fin 5) (dl hl : List Int) (n6 : Nat) (fl : Nat → Fin 5) (cov ix : Value) : Prop where
  d : ∃ im mnc v2 v3 v6 v7 a15 k15 rb mb hb hcap nb n top, W.heap[dv]? = some (.cells (devC im mnc v2 v3 v6 v7 md rp (.slice a15 n15 k15) (.pointer (some ⟨rb, 0, none⟩)) sb cov ix) 75 (0, 0)) ∧ Rk W (dv + 1) top rb mb hb hcap nb n dl hl ∧ (∀ d, nb d ≠ none ↔ ∃ i, i < n6 ∧ fl i = d) ∧ RowB W 0 (.slice a15 n15 k15) n15 (fun i => .string (dig (el i).val)) ∧ (∀ b o, a15 = some ⟨b, o, none⟩ → b < dv ∧ b ≠ sb) ∧ top ≤ W.heap.size

set_option maxRecDepth 100000 in
set_option maxHeartbeats 1000000 in
theorem newDev_any (pb sb : Nat) (im : ByteArray) (mnc : Int) (v2 v3 v6 v7 : Value) (md : Int) (rp : ByteArray) (v15 : Value) (W : World) (h : W.heap[pb]? = some (.cells (profC im mnc v2 v3 v6 v7 md rp v15) 38 (0, 0)))
    (dl hl : List Int) (n6 n15 : Nat) (fl el : Nat → Fin 5) (r2 : RowV W v2 dl.length (fun i => .int .u16 (dl.getD i 0))) (r3 : RowV W v3 hl.length (fun i => .int .u16 (hl.getD i 0))) (r6 : RowV W v6 n6 (fun i => .string (dig (fl i).val))) (r7 : RowV W v7 1 (fun _ => .string (dig 1))) (r15 : RowV W v15 n15 (fun i => .string (dig (el i).val)))
    (m2 : dl.length ≤ 300) (m3 : hl.length ≤ 300) (m6 : n6 ≤ 300) (m15 : n15 ≤ 300) (d2 : dl.Nodup ∧ ∀ x ∈ dl, 0 ≤ x ∧ x < 9) (d3 : hl.Nodup ∧ ∀ x ∈ hl, 0 ≤ x ∧ x < 9) (hsb : sb < W.heap.size) :
    Calls Ybaf.prog 6 #[.pointer (some ⟨pb, 0, none⟩), .iface 49 (.pointer (some ⟨sb, 0, none⟩))] W fun e W' => ∃ dv, e = .returned (.pointer (some ⟨dv, 0, none⟩)) ∧ Below W.heap.size W W' ∧ W.heap.size ≤ dv ∧ dv < W'.heap.size ∧ Dev W' dv sb md rp n15 el dl hl n6 fl (.slice none 0 0) (.pointer none) := by
  have hcl := clone_any pb im mnc v2 v3 v6 v7 md rp v15 W h _ _ _ _ _ _ _ _ _ _ r2 r3 r6 r7 r15 (by omega) (by omega) (by omega) (by omega) (by omega) (fun _ _ => rfl) (fun _ _ => rfl) (fun _ _ => rfl) (fun _ _ => rfl) (fun _ _ => rfl)
  have HD : Hid _ := And.intro d2 d3
  clear h r2 r3 r6 r7 r15 d2 d3
  go_enter Ybaf.func6, Ybaf.ntmps6
  go_wp2_with fail
  refine hcl.mono ?_
  rintro e W1 ⟨v2', v3', v6', v7', v15', rfl, R2, R3, R6, R7, R15, hb1⟩
  obtain ⟨a2, k2, rfl⟩ := R2.shape
  obtain ⟨a3, k3, rfl⟩ := R3.shape
  obtain ⟨a6, k6, rfl⟩ := R6.shape
  obtain ⟨a7, k7, rfl⟩ := R7.shape
  obtain ⟨a15, k15, rfl⟩ := R15.shape
  have HR : Hid _ := And.intro R2 (And.intro R3 (And.intro R6 (And.intro R7 (And.intro R15 hb1))))
  clear R2 R3 R6 R7 R15 hb1 hcl
  go_upto_region 2 with fail
  obtain ⟨R2, R3, R6, R7, R15, hb1⟩ := HR.out
  clear HR
  have hbx := bal (o := .cells (devC im mnc (.slice a2 dl.length k2) (.slice a3 hl.length k3) (.slice a6 n6 k6) (.slice a7 1 k7) md rp (.slice a15 n15 k15) (.pointer none) sb (.slice none 0 0) (.pointer none)) 75) (Below.refl _ W1)
  have hh := (MapKept.heap_alloc W1 (.cells (devC im mnc (.slice a2 dl.length k2) (.slice a3 hl.length k3) (.slice a6 n6 k6) (.slice a7 1 k7) md rp (.slice a15 n15 k15) (.pointer none) sb (.slice none 0 0) (.pointer none)) 75)).1
  have hsz : (W1.alloc (.cells (devC im mnc (.slice a2 dl.length k2) (.slice a3 hl.length k3) (.slice a6 n6 k6) (.slice a7 1 k7) md rp (.slice a15 n15 k15) (.pointer none) sb (.slice none 0 0) (.pointer none)) 75)).heap.size = W1.heap.size + 1 := by simp
  generalize W1.alloc (.cells (devC im mnc (.slice a2 dl.length k2) (.slice a3 hl.length k3) (.slice a6 n6 k6) (.slice a7 1 k7) md rp (.slice a15 n15 k15) (.pointer none) sb (.slice none 0 0) (.pointer none)) 75) = W2 at hbx hh hsz ⊢
  have hs1 := hb1.size
  have P2 : PF W2 W1.heap.size a2 dl k2 a3 hl k3 a6 n6 k6 fl := ⟨by omega, cell_of hh rfl, cell_of hh rfl, cell_of hh rfl, cell_of hh rfl, cell_of hh rfl, cell_of hh rfl, cell_of hh rfl, (R2.below hbx).rowV, (R3.below hbx).rowV, (R6.below hbx).rowV, HD.out.1, HD.out.2, m6, m2, m3⟩
  have hrk := ranker_any W1.heap.size a2 dl k2 a3 hl k3 a6 n6 k6 fl W2 a7 k7 P2 (cell_of hh rfl) (R7.below hbx).rowV
  have E15 := R15.below hbx
  have h15 : ∀ b o, a15 = some ⟨b, o, none⟩ → b < W1.heap.size ∧ b ≠ sb := fun b o e => by
    subst e
    rcases R15 with ⟨h, _⟩ | ⟨b', cap, h1, h2, h3, _⟩
    · cases h
    · injection h1 with h1 _ _
      injection h1 with h1
      injection h1 with h1 _ _
      subst h1
      exact ⟨h3, by omega⟩
  have HF : Hid _ := And.intro (hb1.trans (hbx.mono hs1)) (And.intro hh (And.intro E15 h15))
  clear P2 hh hbx R2 R3 R6 R7 R15 hb1 E15 h15 HD
  obtain ⟨dv, hdv⟩ : ∃ dv, dv = W1.heap.size := ⟨_, rfl⟩
  rw [← hdv] at hrk hsz hs1 HF ⊢
  clear hdv
  go_wp2_with fail
  refine hrk.mono ?_
  rintro e W3 ⟨rb, rfl, mb, hb, hcap, nb, n, hrs, hnb⟩
  obtain ⟨b2, hh, E15, h15⟩ := HF.out
  have hh3 := (hrs.b.block _ (lt_of_heap hh)).trans hh
  have x0 : W3.cell? ⟨dv, 18, none⟩ = some (.pointer none) := cell_of hh3 rfl
  have x1 : W3.frozen? ⟨dv, 18, none⟩ = false := fz_of hh3
  have HG : Hid (Below W.heap.size W (W3.setCell ⟨dv, 18, none⟩ (.pointer (some ⟨rb, 0, none⟩))) ∧ W.heap.size ≤ dv ∧ dv < (W3.setCell ⟨dv, 18, none⟩ (.pointer (some ⟨rb, 0, none⟩))).heap.size ∧ Dev (W3.setCell ⟨dv, 18, none⟩ (.pointer (some ⟨rb, 0, none⟩))) dv sb md rp n15 el dl hl n6 fl (.slice none 0 0) (.pointer none)) := by
    have hs3 := hrs.b.size
    refine ⟨(b2.trans (hrs.b.mono (by omega))).setCell (p := ⟨dv, 18, none⟩) (by show _ ≤ dv; omega) _, by omega, by simp [World.setCell]; omega, ?_⟩
    have rk := hrs.rk
    rw [hsz] at rk
    refine ⟨_, _, _, _, _, _, _, _, _, _, _, _, _, _, _, heap_set _ hh3, rk.keep (fun b h1 h2 => Below.heap_setCell _ _ _ _ (by show b ≠ dv; omega)), hnb, ?_, h15, by simp [World.setCell]⟩
    have E3 := E15.below hrs.b
    rcases E3 with h | ⟨b, cap, h1, h2, h3, h4⟩
    · exact .inl h
    · have hne : b ≠ dv := by
        injection h1 with h1 _ _
        have := (h15 b 0 h1).1
        omega
      exact .inr ⟨b, cap, h1, Nat.zero_le _, by simpa [World.setCell] using h3, fun i hi => cell_set (h4 i hi) hne⟩
  clear hrs hnb hh hh3 b2 E15 h15 HF hrk
  go_wp2_with fail
  go_ret
  exact ⟨_, rfl, HG.out⟩
end Go.Proofs.YbulkcuegFmt
