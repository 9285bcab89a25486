import Derived.Test.YbulkcuegFailed
namespace Go.Proofs.Ybulkcueg
open Go.RowKit Go.Maps

/-- the fallback, when i candidates have been passed over -/
structure FB (dc dc0 : Array Value) (hf : Bool) (q0 : Fin 9) (i : Nat) : Prop where
  old : hf = true ∨ i = 0 → ∀ k, 37 ≤ k → k ≤ 42 → dc[k]? = dc0[k]?
  new : hf = false → 0 < i → dc[37]? = some (.string (kd q0)) ∧ dc[38]? = some (.int .u16 (ka q0)) ∧ dc[39]? = some (.int .u8 12) ∧ dc[40]? = some (.int .u8 0) ∧ dc[41]? = some (.int .i64 0) ∧ dc[42]? = some (.bool true)

/-- the device in next, when i candidates have been passed over -/
structure DV (W : World) (dv rb nc rcap : Nat) (dc0 : Array Value) (hf : Bool) (q0 : Fin 9) (i : Nat) (dc : Array Value) : Prop where
  hp : W.heap[dv]? = some (.cells dc 71 (0, 0))
  sz : dc.size = 47
  c35 : ∃ ad, dc[35]? = some (.slice ad (nc - i) (rcap - i)) ∧ (i < nc → ad = some ⟨rb, i * 6, none⟩)
  fb : FB dc dc0 hf q0 i
  oth : ∀ k, k ≠ 21 → k ≠ 35 → (k < 37 ∨ 42 < k) → dc[k]? = dc0[k]?

theorem cells_eq {w : World} {b : Nat} {cs : Array Value} {t : TypeId} (h : w.heap[b]? = some (.cells cs t (0, 0))) (k : Nat) : w.cell? ⟨b, k, none⟩ = cs[k]? := by
  simp [World.cell?, h]

/-- the coverage is looked at: the candidates, the fallback and the rest stay -/
theorem DV.looked {W W' : World} {dv rb nc rcap i N : Nat} {dc0 dc : Array Value} {hf : Bool} {q0 : Fin 9} {T : Nat → Prop} {cb n ccap : Nat} {qf : Nat → Fin 9} {lv cd : Nat → Int} {kn : Nat → Bool} (h : DV W dv rb nc rcap dc0 hf q0 i dc) (hL : Looked N T W W' dv cb n ccap qf lv cd kn)
    (dc' : Array Value) (hd : W'.heap[dv]? = some (.cells dc' 71 (0, 0))) (hs : dc'.size = 47) : DV W' dv rb nc rcap dc0 hf q0 i dc' := by
  have e : ∀ k, k ≠ 21 → dc'[k]? = dc[k]? := fun k hk => by
    have := hL.same k hk
    rw [cells_eq hd, cells_eq h.hp] at this
    exact this
  obtain ⟨ad, h1, h2⟩ := h.c35
  refine ⟨hd, hs, ⟨ad, (e 35 (by omega)).trans h1, h2⟩, ⟨fun h' k k1 k2 => (e k (by omega)).trans (h.fb.old h' k k1 k2), fun h' h'' => ?_⟩, fun k k1 k2 k3 => (e k k1).trans (h.oth k k1 k2 k3)⟩
  obtain ⟨f1, f2, f3, f4, f5, f6⟩ := h.fb.new h' h''
  exact ⟨(e _ (by omega)).trans f1, (e _ (by omega)).trans f2, (e _ (by omega)).trans f3, (e _ (by omega)).trans f4, (e _ (by omega)).trans f5, (e _ (by omega)).trans f6⟩

theorem DV.below {W W' : World} {dv rb nc rcap i : Nat} {dc0 dc : Array Value} {hf : Bool} {q0 : Fin 9} (h : DV W dv rb nc rcap dc0 hf q0 i dc) (hb : Below W.heap.size W W') : DV W' dv rb nc rcap dc0 hf q0 i dc :=
  ⟨(hb.block dv (lt_of_heap h.hp)).trans h.hp, h.sz, h.c35, h.fb, h.oth⟩

/-- a candidate is taken off; its fallback is still to be noted: 'Half' -/
structure Half (W : World) (dv rb nc rcap : Nat) (dc0 : Array Value) (hf : Bool) (q0 : Fin 9) (i : Nat) (dc : Array Value) : Prop where
  hp : W.heap[dv]? = some (.cells dc 71 (0, 0))
  sz : dc.size = 47
  c35 : ∃ ad, dc[35]? = some (.slice ad (nc - (i + 1)) (rcap - (i + 1))) ∧ (i + 1 < nc → ad = some ⟨rb, (i + 1) * 6, none⟩)
  fb : FB dc dc0 hf q0 i
  oth : ∀ k, k ≠ 21 → k ≠ 35 → (k < 37 ∨ 42 < k) → dc[k]? = dc0[k]?

theorem Half.of {W : World} {dv rb nc rcap i : Nat} {dc0 dc : Array Value} {hf : Bool} {q0 : Fin 9} (h : DV W dv rb nc rcap dc0 hf q0 i dc) (ad : Option Addr) (had : i + 1 < nc → ad = some ⟨rb, (i + 1) * 6, none⟩) :
    Half (W.setCell ⟨dv, 35, none⟩ (.slice ad (nc - (i + 1)) (rcap - (i + 1)))) dv rb nc rcap dc0 hf q0 i (dc.setIfInBounds 35 (.slice ad (nc - (i + 1)) (rcap - (i + 1)))) := by
  have hs := h.sz
  have e : ∀ k, k ≠ 35 → (dc.setIfInBounds 35 (Value.slice ad (nc - (i + 1)) (rcap - (i + 1))))[k]? = dc[k]? := fun k hk => by
    rw [Array.getElem?_setIfInBounds, if_neg (fun e => hk e.symm)]
  refine ⟨heap_set _ h.hp, by simpa using hs, ⟨ad, by simp [hs], had⟩, ⟨fun h' k k1 k2 => (e k (by omega)).trans (h.fb.old h' k k1 k2), fun h' h'' => ?_⟩, fun k k1 k2 k3 => (e k k2).trans (h.oth k k1 k2 k3)⟩
  obtain ⟨f1, f2, f3, f4, f5, f6⟩ := h.fb.new h' h''
  exact ⟨(e _ (by omega)).trans f1, (e _ (by omega)).trans f2, (e _ (by omega)).trans f3, (e _ (by omega)).trans f4, (e _ (by omega)).trans f5, (e _ (by omega)).trans f6⟩
theorem Half.below {W W' : World} {dv rb nc rcap i : Nat} {dc0 dc : Array Value} {hf : Bool} {q0 : Fin 9} (h : Half W dv rb nc rcap dc0 hf q0 i dc) (hb : Below W.heap.size W W') : Half W' dv rb nc rcap dc0 hf q0 i dc :=
  ⟨(hb.block dv (lt_of_heap h.hp)).trans h.hp, h.sz, h.c35, h.fb, h.oth⟩
theorem Half.looked {W W' : World} {dv rb nc rcap i N : Nat} {dc0 dc : Array Value} {hf : Bool} {q0 : Fin 9} {T : Nat → Prop} {cb n ccap : Nat} {qf : Nat → Fin 9} {lv cd : Nat → Int} {kn : Nat → Bool} (h : Half W dv rb nc rcap dc0 hf q0 i dc) (hL : Looked N T W W' dv cb n ccap qf lv cd kn) :
    ∃ dc', Half W' dv rb nc rcap dc0 hf q0 i dc' := by
  obtain ⟨dc', hd, hs⟩ := hL.dev dc h.hp
  have e : ∀ k, k ≠ 21 → dc'[k]? = dc[k]? := fun k hk => by
    have := hL.same k hk
    rw [cells_eq hd, cells_eq h.hp] at this
    exact this
  obtain ⟨ad, h1, h2⟩ := h.c35
  refine ⟨dc', hd, hs.trans h.sz, ⟨ad, (e 35 (by omega)).trans h1, h2⟩, ⟨fun h' k k1 k2 => (e k (by omega)).trans (h.fb.old h' k k1 k2), fun h' h'' => ?_⟩, fun k k1 k2 k3 => (e k k1).trans (h.oth k k1 k2 k3)⟩
  obtain ⟨f1, f2, f3, f4, f5, f6⟩ := h.fb.new h' h''
  exact ⟨(e _ (by omega)).trans f1, (e _ (by omega)).trans f2, (e _ (by omega)).trans f3, (e _ (by omega)).trans f4, (e _ (by omega)).trans f5, (e _ (by omega)).trans f6⟩

/-- passed over where a fallback stands -/
theorem Half.passed {W : World} {dv rb nc rcap i : Nat} {dc0 dc : Array Value} {hf : Bool} {q0 : Fin 9} (h : Half W dv rb nc rcap dc0 hf q0 i dc) (hh : hf = true ∨ 0 < i) : DV W dv rb nc rcap dc0 hf q0 (i + 1) dc := by
  refine ⟨h.hp, h.sz, h.c35, ⟨fun h' k k1 k2 => h.fb.old (by rcases h' with h' | h'; exact .inl h'; omega) k k1 k2, fun h' _ => h.fb.new h' (by rcases hh with hh | hh; rw [h'] at hh; cases hh; exact hh)⟩, h.oth⟩
/-- passed over, the first one -/
theorem Half.noted {W : World} {dv rb nc rcap : Nat} {dc0 dc : Array Value} {q0 : Fin 9} (h : Half W dv rb nc rcap dc0 false q0 0 dc) :
    ∃ dc', DV ((((((W.setCell ⟨dv, 37, none⟩ (.string (kd q0))).setCell ⟨dv, 38, none⟩ (.int .u16 (ka q0))).setCell ⟨dv, 39, none⟩ (.int .u8 12)).setCell ⟨dv, 40, none⟩ (.int .u8 0)).setCell ⟨dv, 41, none⟩ (.int .i64 0)).setCell ⟨dv, 42, none⟩ (.bool true)) dv rb nc rcap dc0 false q0 1 dc' := by
  have hs := h.sz
  obtain ⟨ad, h1, h2⟩ := h.c35
  refine ⟨_, heap_set _ (heap_set _ (heap_set _ (heap_set _ (heap_set _ (heap_set _ h.hp))))), by simpa using hs, ⟨ad, ?_, h2⟩, ⟨fun h' => by simp at h', fun _ _ => ?_⟩, fun k k1 k2 k3 => ?_⟩
  · simp
    exact h1
  · simp [hs]
  · rw [Array.getElem?_setIfInBounds, if_neg (by omega), Array.getElem?_setIfInBounds, if_neg (by omega), Array.getElem?_setIfInBounds, if_neg (by omega), Array.getElem?_setIfInBounds, if_neg (by omega), Array.getElem?_setIfInBounds, if_neg (by omega), Array.getElem?_setIfInBounds, if_neg (by omega)]
    exact h.oth k k1 k2 k3
end Go.Proofs.Ybulkcueg
