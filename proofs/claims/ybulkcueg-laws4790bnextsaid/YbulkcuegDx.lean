import Derived.Test.YbulkcuegIndex
import Derived.Test.YbulkcuegBest
namespace Go.Proofs.Ybulkcueg
open Go.RowKit Go.Maps

theorem Ix.mono {N N' : Nat} {W : World} {cb n ccap ib db gb ob : Nat} {mp : Option Nat} {ks : List (Fin 9)} {bst : Nat → Int} (h : Ix N W cb n ccap ib db gb ob mp ks bst) (hN : N' ≤ N) : Ix N' W cb n ccap ib db gb ob mp ks bst := by
  obtain ⟨l1, l2, l3, l4, l5, l6⟩ := h.lt
  exact ⟨h.i0, h.M, h.i3, h.ps, h.cl, by omega, by omega, by omega, by omega, fun mb e => Nat.le_trans hN (l5 mb e), l6⟩

/-- block T is none of the index's -/
def Off (T ib db gb ob : Nat) (mp : Option Nat) : Prop := T ≠ ib ∧ T ≠ db ∧ T ≠ gb ∧ T ≠ ob ∧ ∀ mb, mp = some mb → T ≠ mb

theorem Ix.set {N : Nat} {W W' : World} {cb n ccap ib db gb ob : Nat} {mp : Option Nat} {ks : List (Fin 9)} {bst : Nat → Int} (h : Ix N W cb n ccap ib db gb ob mp ks bst) {d : Nat} (hg : W.grownBy W' (some d)) (hd : Off d ib db gb ob mp) : Ix N W' cb n ccap ib db gb ob mp ks bst := by
  obtain ⟨l1, l2, l3, l4, l5, l6, l7, l8, l9⟩ := h.lt
  obtain ⟨d1, d2, d3, d4, d5⟩ := hd
  have k : ∀ (b o : Nat) (v : Value), b < W.heap.size → d ≠ b → W.cell? ⟨b, o, none⟩ = some v → W'.cell? ⟨b, o, none⟩ = some v := fun b o v hlt hv hc => keepg hg hc hlt (by omega)
  have hs := hg.size
  refine ⟨k _ _ _ l6 d1 h.i0, ⟨k _ _ _ l6 d1 h.M.c, k _ _ _ l6 d1 h.M.m, fun mb e => (h.M.own mb e).kept hg (by have := d5 mb e; simp; omega), fun i hi => k _ _ _ l7 d2 (h.M.p0 i hi), fun i hi => k _ _ _ l7 d2 (h.M.p1 i hi), h.M.nd⟩, k _ _ _ l6 d1 h.i3, fun m hm => k _ _ _ l8 d3 (h.ps m hm), fun m hm => ?_, ⟨l1, l2, l3, l4, l5, by omega, by omega, by omega, by omega⟩⟩
  obtain ⟨so, len, cap, h0, h1, h2⟩ := h.cl m hm
  exact ⟨so, len, cap, h0, k _ _ _ l8 d3 h1, k _ _ _ l9 d4 h2⟩
theorem Ix.off {N : Nat} {W : World} {cb n ccap ib db gb ob : Nat} {mp : Option Nat} {ks : List (Fin 9)} {bst : Nat → Int} (h : Ix N W cb n ccap ib db gb ob mp ks bst) {T : Nat} (hT : T < N) : Off T ib db gb ob mp := by
  obtain ⟨l1, l2, l3, l4, l5, l6, l7, l8, l9⟩ := h.lt
  exact ⟨by omega, by omega, by omega, by omega, fun mb e => by have := l5 mb e; omega⟩
theorem Ix.offhi {N : Nat} {W : World} {cb n ccap ib db gb ob : Nat} {mp : Option Nat} {ks : List (Fin 9)} {bst : Nat → Int} (h : Ix N W cb n ccap ib db gb ob mp ks bst) {T : Nat} (hT : W.heap.size ≤ T) : Off T ib db gb ob mp := by
  obtain ⟨l1, l2, l3, l4, l5, l6, l7, l8, l9⟩ := h.lt
  exact ⟨by omega, by omega, by omega, by omega, fun mb e => by have := (h.M.own mb e).lt; omega⟩

/-- the device, as far as its coverage goes -/
structure DX (N : Nat) (T : Nat → Prop) (w : World) (dv cb n ccap : Nat) (qf : Nat → Fin 9) (lv cd : Nat → Int) (kn : Nat → Bool) : Prop where
  h20 : w.cell? ⟨dv, 20, none⟩ = some (.slice (some ⟨cb, 0, none⟩) n ccap)
  h46 : w.cell? ⟨dv, 46, none⟩ = some (.map none)
  fz : ∀ k, w.frozen? ⟨dv, k, none⟩ = false
  S : Scan w cb n qf lv cd kn
  ix : w.cell? ⟨dv, 21, none⟩ = some (.pointer none) ∨ ∃ ib db gb ob mp, w.cell? ⟨dv, 21, none⟩ = some (.pointer (some ⟨ib, 0, none⟩)) ∧ Ix N w cb n ccap ib db gb ob mp (firsts qf n) (fun m => atOf qf lv ((firsts qf n).getD m 0) n) ∧ ∀ t, T t → Off t ib db gb ob mp
  lt : dv < N ∧ cb < N ∧ N ≤ w.heap.size ∧ cb ≠ dv

theorem DX.below {N : Nat} {T : Nat → Prop} {w w' : World} {dv cb n ccap : Nat} {qf : Nat → Fin 9} {lv cd : Nat → Int} {kn : Nat → Bool} (h : DX N T w dv cb n ccap qf lv cd kn) (hb : Below w.heap.size w w') : DX N T w' dv cb n ccap qf lv cd kn := by
  obtain ⟨l1, l2, l3, l4⟩ := h.lt
  refine ⟨keepb hb h.h20, keepb hb h.h46, fun k => (hb.frozen (p := ⟨dv, k, none⟩) (by show dv < _; omega)).trans (h.fz k), h.S.of_block (hb.block cb (by omega)), ?_, l1, l2, Nat.le_trans l3 hb.size, l4⟩
  rcases h.ix with e | ⟨ib, db, gb, ob, mp, e, I, O⟩
  · exact .inl (keepb hb e)
  · exact .inr ⟨ib, db, gb, ob, mp, keepb hb e, I.next (below_grown hb) l1, O⟩

/-- what a look at the coverage leaves -/
structure Looked (N : Nat) (T : Nat → Prop) (w w' : World) (dv cb n ccap : Nat) (qf : Nat → Fin 9) (lv cd : Nat → Int) (kn : Nat → Bool) : Prop where
  g : w.grownBy w' (some dv)
  same : ∀ k, k ≠ 21 → w'.cell? ⟨dv, k, none⟩ = w.cell? ⟨dv, k, none⟩
  X : DX N T w' dv cb n ccap qf lv cd kn
  dev : ∀ dc, w.heap[dv]? = some (.cells dc 71 (0, 0)) → ∃ dc', w'.heap[dv]? = some (.cells dc' 71 (0, 0)) ∧ dc'.size = dc.size

theorem Looked.below {N : Nat} {T : Nat → Prop} {w w1 w' : World} {dv cb n ccap : Nat} {qf : Nat → Fin 9} {lv cd : Nat → Int} {kn : Nat → Bool} (h : Looked N T w w1 dv cb n ccap qf lv cd kn) (hb : Below w1.heap.size w1 w') : Looked N T w w' dv cb n ccap qf lv cd kn := by
  have hl := h.X.lt
  exact ⟨⟨hb.os.trans h.g.os, hb.tape.trans h.g.tape, hb.output.trans h.g.output, Nat.le_trans h.g.size hb.size, fun k hk hne => (hb.block k (Nat.lt_of_lt_of_le hk h.g.size)).trans (h.g.block k hk hne)⟩,
    fun k hk => (hb.cell (p := ⟨dv, k, none⟩) (by show dv < _; omega)).trans (h.same k hk), h.X.below hb, fun dc h0 => by obtain ⟨dc', h1, h2⟩ := h.dev dc h0; exact ⟨dc', (hb.block dv (lt_of_heap h1)).trans h1, h2⟩⟩
theorem Looked.after {N : Nat} {T : Nat → Prop} {w w1 w' : World} {dv cb n ccap : Nat} {qf : Nat → Fin 9} {lv cd : Nat → Int} {kn : Nat → Bool} (hb : Below w.heap.size w w1) (hl : dv < w.heap.size) (h : Looked N T w1 w' dv cb n ccap qf lv cd kn) : Looked N T w w' dv cb n ccap qf lv cd kn :=
  ⟨⟨h.g.os.trans hb.os, h.g.tape.trans hb.tape, h.g.output.trans hb.output, Nat.le_trans hb.size h.g.size, fun k hk hne => (h.g.block k (Nat.lt_of_lt_of_le hk hb.size) hne).trans (hb.block k hk)⟩,
    fun k hk => (h.same k hk).trans (hb.cell (p := ⟨dv, k, none⟩) hl), h.X, fun dc h0 => h.dev dc ((hb.block dv hl).trans h0)⟩

theorem eq64n (w : World) : (binOp .eql 64 (.pointer none) (.pointer none)).run Yba.prog w = .ok (.bool true) w := by kernel_rfl
theorem eq64s (a : Addr) (w : World) : (binOp .eql 64 (.pointer (some a)) (.pointer none)).run Yba.prog w = .ok (.bool false) w := by kernel_rfl

set_option maxRecDepth 100000 in
set_option maxHeartbeats 1000000 in
theorem indexed_any (N : Nat) (T : Nat → Prop) (dv cb n ccap : Nat) (qf : Nat → Fin 9) (lv cd : Nat → Int) (kn : Nat → Bool) (w : World) (hn : n ≤ 400) (hT : ∀ t, T t → t < w.heap.size) (X : DX N T w dv cb n ccap qf lv cd kn) :
    Calls Yba.prog 12 #[.pointer (some ⟨dv, 0, none⟩)] w fun e w' => ∃ ib db gb ob mp, e = .returned (.pointer (some ⟨ib, 0, none⟩)) ∧ Looked N T w w' dv cb n ccap qf lv cd kn ∧ Ix N w' cb n ccap ib db gb ob mp (firsts qf n) (fun m => atOf qf lv ((firsts qf n).getD m 0) n) ∧ ∀ t, T t → Off t ib db gb ob mp := by
  obtain ⟨l1, l2, l3, l4⟩ := X.lt
  rcases X.ix with e | ⟨ib, db, gb, ob, mp, e, I, O⟩
  · have h20 := X.h20
    have hq := eq64n
    have hix := index_any cb n ccap qf lv cd kn w hn (by omega) X.S
    go_enter Yba.func12, Yba.ntmps12
    go_wp2_with fail
    refine hix.mono ?_
    rintro e1 w1 ⟨ib, db, gb, ob, mp, rfl, hb, I⟩
    have X1 := X.below hb
    have h21 : w1.cell? ⟨dv, 21, none⟩ = some (.pointer none) := keepb hb e
    have hfz := X1.fz 21
    have hsame := World.cell?_setCell_same w1 ⟨dv, 21, none⟩ (.pointer (some ⟨ib, 0, none⟩)) h21
    have hgs : w1.grownBy (w1.setCell ⟨dv, 21, none⟩ (.pointer (some ⟨ib, 0, none⟩))) (some dv) := ⟨rfl, rfl, rfl, by simp [World.setCell], fun k hk hne => Below.heap_setCell _ _ _ _ (by simpa using hne)⟩
    have I2 := (I.mono l3).next hgs l1
    have oth : ∀ k, k ≠ 21 → (w1.setCell ⟨dv, 21, none⟩ (.pointer (some ⟨ib, 0, none⟩))).cell? ⟨dv, k, none⟩ = w1.cell? ⟨dv, k, none⟩ := fun k hk => World.cell?_setCell_other _ _ _ _ (fun e => hk (by simpa using (congrArg Addr.off e).symm))
    have LK : Looked N T w (w1.setCell ⟨dv, 21, none⟩ (.pointer (some ⟨ib, 0, none⟩))) dv cb n ccap qf lv cd kn := by
      refine Looked.after hb (by omega) ⟨hgs, oth, ⟨(oth 20 (by omega)).trans X1.h20, (oth 46 (by omega)).trans X1.h46, fun k => ?_, X1.S.of_block (Below.heap_setCell _ _ _ _ l4), .inr ⟨ib, db, gb, ob, mp, hsame, I2, fun t ht => I.off (hT t ht)⟩, l1, l2, ?_, l4⟩, fun dc h0 => ⟨_, heap_set _ h0, by simp⟩⟩
      · rw [World.frozen?_setCell]; exact X1.fz k
      · have := X1.lt
        simp [World.setCell]
        omega
    have O := fun t (ht : T t) => I.off (hT t ht)
    clear X1 I hb X hix
    go_wp2_with fail
    go_ret
    exact ⟨ib, db, gb, ob, mp, rfl, LK, I2, O⟩
  · have hq := eq64s ⟨ib, 0, none⟩
    have hf : Looked N T w w dv cb n ccap qf lv cd kn := ⟨World.grownBy.refl _ _, fun _ _ => rfl, X, fun dc h0 => ⟨dc, h0, rfl⟩⟩
    clear X
    go_enter Yba.func12, Yba.ntmps12
    go_wp2_with fail
    go_ret
    exact ⟨ib, db, gb, ob, mp, rfl, hf, I, O⟩
end Go.Proofs.Ybulkcueg
