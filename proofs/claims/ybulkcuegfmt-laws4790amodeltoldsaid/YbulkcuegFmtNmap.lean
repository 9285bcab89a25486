import Derived.Test.YbulkcuegFmtKeys
namespace Go.Proofs.YbulkcuegFmt
open Go.RowKit Go.Maps

/-- a pointer, read: the number of its block -/
def Rp (v : Value) : Option (DataW Unit × List MemPlace) :=
  match v with
  | .pointer none => some (.lit (.int .i64 (-1)), [])
  | .pointer (some ⟨b, 0, none⟩) => some (.lit (.int .i64 (b : Nat)), [])
  | _ => none
theorem Rp_none : Rp (.pointer none) = some (.lit (.int .i64 (-1)), []) := rfl
theorem Rp_some (b : Nat) : Rp (.pointer (some ⟨b, 0, none⟩)) = some (.lit (.int .i64 (b : Nat)), []) := rfl
def ptr (o : Option Nat) : Value := .pointer (o.map fun b => ⟨b, 0, none⟩)
def num (o : Option Nat) : Int := match o with | none => -1 | some b => (b : Nat)
theorem Rp_inv {v : Value} {o : Option Nat} {ps : List MemPlace} (h : Rp v = some (.lit (.int .i64 (num o)), ps)) : v = ptr o := by
  unfold Rp at h
  split at h
  · simp only [Option.some.injEq, Prod.mk.injEq, DataW.lit.injEq, Lit.int.injEq, true_and] at h
    cases o with
    | none => rfl
    | some b => have := h.1; simp only [num] at this; omega
  · simp only [Option.some.injEq, Prod.mk.injEq, DataW.lit.injEq, Lit.int.injEq, true_and] at h
    cases o with
    | none => have := h.1; simp only [num] at this; omega
    | some b => have := h.1; simp only [num] at this; have e := Int.ofNat_inj.1 this; subst e; rfl
  · cases h

theorem law29 : Keyed Ybaf.prog 29 := Keyed.of_law (deep_law_laid (m := 100) (by kernel_rfl) (by omega) (of_decide_eq_true (by kernel_rfl)) (by kernel_rfl) (by kernel_rfl))
theorem zero118 (w : World) : (zeroValue 118).run Ybaf.prog w = .ok (.pointer none) w := by kernel_rfl
def kl5 (d : Fin 5) : Lit := .string (keyBytes [.string (dig d.val).data.toList])
theorem key29 : ∀ d : Fin 5, keyOf Ybaf.prog 29 (.agg #[.string (dig d.val)]) = some (kl5 d)
  | ⟨0, _⟩ => by kernel_rfl
  | ⟨1, _⟩ => by kernel_rfl
  | ⟨2, _⟩ => by kernel_rfl
  | ⟨3, _⟩ => by kernel_rfl
  | ⟨4, _⟩ => by kernel_rfl
  | ⟨n + 5, h⟩ => absurd h (by omega)
theorem kl5_inj {q r : Fin 5} (h : kl5 q = kl5 r) : q = r := by
  have e := law29.inj (key29 q) ((key29 r).trans (by rw [h]))
  simp only [Value.agg.injEq] at e
  have e0 : [Value.string (dig q.val)] = [Value.string (dig r.val)] := congrArg Array.toList e
  simp only [List.cons.injEq, Value.string.injEq, and_true] at e0
  have h := dig_eq q r
  rw [e0] at h
  simpa using h
theorem kl5_key (q : Fin 5) : WideAt.IsKeyLit (kl5 q) := trivial

/-- the map of the named networks -/
def NMap (W : World) (mb : Nat) (nb : Fin 5 → Option Nat) (n : Nat) : Prop :=
  ∃ D, W.ownsMap (H := Unit) Ybaf.prog 29 Rp mb n D ∧ ∀ d, D.atKey (kl5 d) (.lit (.int .i64 (-1))) = .lit (.int .i64 (num (nb d)))

theorem NMap.lt {W : World} {mb n : Nat} {nb : Fin 5 → Option Nat} (h : NMap W mb nb n) : mb < W.heap.size := by
  obtain ⟨D, h1, _⟩ := h
  exact h1.lt
theorem NMap.kept {W W' : World} {mb n : Nat} {nb : Fin 5 → Option Nat} {row : Option Nat} (h : NMap W mb nb n) (hg : W.grownBy W' row) (hne : some mb ≠ row) : NMap W' mb nb n := by
  obtain ⟨D, h1, h2⟩ := h
  exact ⟨D, h1.kept hg hne, h2⟩
theorem NMap.below {W W' : World} {mb n : Nat} {nb : Fin 5 → Option Nat} (h : NMap W mb nb n) (hb : Below W.heap.size W W') : NMap W' mb nb n :=
  h.kept (row := none) ⟨hb.os, hb.tape, hb.output, hb.size, fun k hk _ => hb.block k hk⟩ (by simp)
theorem NMap.of_block {W W' : World} {mb n : Nat} {nb : Fin 5 → Option Nat} (h : NMap W mb nb n) (hb : W'.heap[mb]? = W.heap[mb]?) : NMap W' mb nb n := by
  obtain ⟨D, ⟨es, cl, h1, h2⟩, h3⟩ := h
  exact ⟨D, ⟨es, cl, hb.trans h1, h2⟩, h3⟩
theorem NMap.look {W : World} {mb n : Nat} {nb : Fin 5 → Option Nat} (h : NMap W mb nb n) (d : Fin 5) :
    (Instr.lookup 110 (.map (some mb)) (.agg #[.string (dig d.val)]) false).run Ybaf.prog W = .ok (ptr (nb d)) W := by
  obtain ⟨D, h1, h2⟩ := h
  obtain ⟨v, ps, hr, hv⟩ := h1.lookup law29 Ybaf.underlying110 (zero118 W) Rp_none (key29 d)
  rw [hr]
  rw [h2 d] at hv
  rw [Rp_inv hv]
theorem NMap.made (W : World) : NMap (W.alloc (.map #[] 0)) W.heap.size (fun _ => none) 0 :=
  ⟨_, World.ownsMap_made W Ybaf.prog 29 Rp, fun _ => rfl⟩
end Go.Proofs.YbulkcuegFmt
