import Derived.Test.YbulkcuegFmtNewDev
import Derived.Test.YbulkcuegFmtIndexed
import Derived.Test.YbulkcuegFmtShuf
import Derived.Test.YbulkcuegFmtPos
namespace Go.Proofs.YbulkcuegFmt
open Go.RowKit Go.Maps

/-! ### the plain picture of rank -/
def sup (dl : List Int) (q : Fin 50) : Bool := decide (ka q < 9) && decide (ka q ∈ dl)
def elig (dl : List Int) (nb : Fin 5 → Option Nat) (q : Fin 50) : Bool := decide (nt q ≠ 0) && sup dl q && (decide (nt q = 1) || (nb (nt q)).isNone)
def whyOf (dl : List Int) (q : Fin 50) : Int := if nt q = 0 then 4 else if ¬ ka q < 9 then 2 else if ka q ∉ dl then 1 else 3
def clsOf (hi : Fin 50 → Bool) (q : Fin 50) : Int := if nt q = 1 then 0 else if hi q then 1 else 2
def witOf (dl hl : List Int) (q : Fin 50) : Int := if nt q = 1 then hoK dl hl hl.length (ka q).toNat else 0
def homOf (dl : List Int) (q : Fin 50) : Int := if sup dl q = true ∧ nt q = 1 then 1 else 0
/-- a candidate, its home place known -/
abbrev candH (dl : List Int) (hi : Fin 50 → Bool) (lo : Fin 50 → Int) (q : Fin 50) : List Value := [.string (kd q), .int .u16 (ka q), .int .i64 (lo q), .int .u8 0, .int .u8 0, .int .i64 0, .int .i64 0, .int .i64 (homOf dl q), .bool (hi q), .bool false]
/-- a candidate, ranked -/
abbrev candE (dl hl : List Int) (hi : Fin 50 → Bool) (lo : Fin 50 → Int) (q : Fin 50) : List Value := [.string (kd q), .int .u16 (ka q), .int .i64 (lo q), .int .u8 (ruleOf (clsOf hi q)), .int .u8 0, .int .i64 0, .int .i64 (witOf dl hl q), .int .i64 (homOf dl q), .bool (hi q), .bool false]
/-- a row's cells, an element of sz cells each -/
def Els (cu : Array Value) (sz i : Nat) (l : List Value) : Prop := ∀ c, c < sz → cu[i * sz + c]? = l[c]?

theorem ka_nat (q : Fin 50) : ∃ a : Nat, ka q = (a : Int) ∧ a < 10 := ⟨q.val % 10, rfl, by omega⟩
theorem ordK_ne (dl : List Int) (a : Nat) : ordK dl dl.length a ≠ 0 ↔ (a : Int) ∈ dl := by
  unfold ordK
  rw [List.take_length]
  split
  · rename_i h
    exact ⟨fun _ => h, fun _ => by omega⟩
  · rename_i h
    exact ⟨fun h' => absurd rfl h', fun h' => absurd h' h⟩

/-! ### the parts of the order -/
def idxs (hi : Fin 50 → Bool) (E : List (Fin 50)) (c : Int) (k : Nat) : List Nat := (List.range k).filter fun i => clsOf hi (E.getD i 0) == c
theorem idxs_succ (hi : Fin 50 → Bool) (E : List (Fin 50)) (c : Int) (k : Nat) : idxs hi E c (k + 1) = idxs hi E c k ++ (if clsOf hi (E.getD k 0) = c then [k] else []) := by
  unfold idxs
  rw [List.range_succ, List.filter_append]
  congr 1
  by_cases h : clsOf hi (E.getD k 0) = c
  · rw [if_pos h]
    simp [-List.getD_eq_getElem?_getD, h]
  · rw [if_neg h]
    simp [-List.getD_eq_getElem?_getD, h]
theorem getD_snoc {E : List (Fin 50)} {q : Fin 50} {i : Nat} (hi : i < E.length) : (E ++ [q]).getD i 0 = E.getD i 0 := by
  simp [List.getD, List.getElem?_append_left hi]
theorem getD_last (E : List (Fin 50)) (q : Fin 50) : (E ++ [q]).getD E.length 0 = q := by simp [List.getD]
theorem idxs_snoc (hi : Fin 50 → Bool) (E : List (Fin 50)) (q : Fin 50) (c : Int) : idxs hi (E ++ [q]) c (E ++ [q]).length = idxs hi E c E.length ++ (if clsOf hi q = c then [E.length] else []) := by
  rw [List.length_append, List.length_singleton, idxs_succ, getD_last]
  congr 1
  unfold idxs
  refine List.filter_congr fun i hi' => ?_
  rw [getD_snoc (by simpa using hi')]
theorem idxs_mono (hi : Fin 50 → Bool) (E : List (Fin 50)) (c : Int) {k n : Nat} (h : k ≤ n) : (idxs hi E c k).length ≤ (idxs hi E c n).length := by
  induction n with
  | zero => rw [show k = 0 by omega]; exact Nat.le_refl _
  | succ n ih =>
    by_cases e : k = n + 1
    · rw [e]; exact Nat.le_refl _
    · rw [idxs_succ, List.length_append]
      have := ih (by omega)
      omega
theorem idxs_room (hi : Fin 50 → Bool) (E : List (Fin 50)) (c : Int) {k n : Nat} (h : k < n) (hc : clsOf hi (E.getD k 0) = c) : (idxs hi E c k).length < (idxs hi E c n).length := by
  have h1 := idxs_mono hi E c (show k + 1 ≤ n from h)
  rw [idxs_succ, if_pos hc, List.length_append] at h1
  simp at h1
  omega
theorem cls_three (hi : Fin 50 → Bool) (q : Fin 50) : clsOf hi q = 0 ∨ clsOf hi q = 1 ∨ clsOf hi q = 2 := by
  unfold clsOf
  split
  · exact .inl rfl
  · split
    · exact .inr (.inl rfl)
    · exact .inr (.inr rfl)
theorem idxs_sum (hi : Fin 50 → Bool) (E : List (Fin 50)) (k : Nat) : (idxs hi E 0 k).length + (idxs hi E 1 k).length + (idxs hi E 2 k).length = k := by
  induction k with
  | zero => rfl
  | succ k ih =>
    rw [idxs_succ, idxs_succ, idxs_succ]
    simp only [List.length_append]
    rcases cls_three hi (E.getD k 0) with h | h | h <;> rw [h] <;> simp <;> omega

/-- the parts' filling -/
structure Prt (hi : Fin 50 → Bool) (E : List (Fin 50)) (D : Nat → Int) (L H k : Nat) : Prop where
  p0 : seg D 0 (0 + (idxs hi E 0 k).length) = (idxs hi E 0 k).map (fun i : Nat => (i : Int))
  p1 : seg D L (L + (idxs hi E 1 k).length) = (idxs hi E 1 k).map (fun i : Nat => (i : Int))
  p2 : seg D (L + H) (L + H + (idxs hi E 2 k).length) = (idxs hi E 2 k).map (fun i : Nat => (i : Int))

theorem seg_push (D : Nat → Int) (s n : Nat) (x : Int) : seg (upd D (s + n) x) s (s + (n + 1)) = seg D s (s + n) ++ [x] := by
  rw [seg_split (upd D (s + n) x) (show s ≤ s + n by omega) (show s + n ≤ s + (n + 1) by omega)]
  congr 1
  · refine seg_congr fun y h1 h2 => ?_
    unfold upd
    rw [if_neg (by omega)]
  · unfold seg upd
    rw [show s + (n + 1) - (s + n) = 1 by omega]
    simp
theorem seg_other (D : Nat → Int) (a b p : Nat) (x : Int) (h : p < a ∨ b ≤ p) : seg (upd D p x) a b = seg D a b := by
  refine seg_congr fun y h1 h2 => ?_
  unfold upd
  rw [if_neg (by omega)]

theorem Prt.step {hi : Fin 50 → Bool} {E : List (Fin 50)} {D : Nat → Int} {k : Nat} (h : Prt hi E D (idxs hi E 0 E.length).length (idxs hi E 1 E.length).length k) (hk : k < E.length) (c : Int) (hc : clsOf hi (E.getD k 0) = c) (p : Nat)
    (hp : p = (if c = 0 then 0 else if c = 1 then (idxs hi E 0 E.length).length else (idxs hi E 0 E.length).length + (idxs hi E 1 E.length).length) + (idxs hi E c k).length) :
    Prt hi E (upd D p (k : Int)) (idxs hi E 0 E.length).length (idxs hi E 1 E.length).length (k + 1) ∧ p < E.length := by
  have hr := idxs_room hi E c hk hc
  have hs := idxs_sum hi E E.length
  have m0 := idxs_mono hi E 0 (Nat.le_of_lt hk)
  have m1 := idxs_mono hi E 1 (Nat.le_of_lt hk)
  have hc3 := cls_three hi (E.getD k 0)
  rw [hc] at hc3
  rcases hc3 with e | e | e
  · subst e
    rw [if_pos rfl] at hp
    subst hp
    refine ⟨⟨?_, ?_, ?_⟩, by omega⟩
    · rw [idxs_succ, if_pos hc, List.length_append, List.length_singleton, seg_push, h.p0]
      simp
    · rw [idxs_succ, if_neg (by rw [hc]; decide), List.append_nil, seg_other _ _ _ _ _ (by omega), h.p1]
    · rw [idxs_succ, if_neg (by rw [hc]; decide), List.append_nil, seg_other _ _ _ _ _ (by omega), h.p2]
  · subst e
    rw [if_neg (by decide), if_pos rfl] at hp
    subst hp
    refine ⟨⟨?_, ?_, ?_⟩, by omega⟩
    · rw [idxs_succ, if_neg (by rw [hc]; decide), List.append_nil, seg_other _ _ _ _ _ (by omega), h.p0]
    · rw [idxs_succ, if_pos hc, List.length_append, List.length_singleton, seg_push, h.p1]
      simp
    · rw [idxs_succ, if_neg (by rw [hc]; decide), List.append_nil, seg_other _ _ _ _ _ (by omega), h.p2]
  · subst e
    rw [if_neg (by decide), if_neg (by decide)] at hp
    subst hp
    refine ⟨⟨?_, ?_, ?_⟩, by omega⟩
    · rw [idxs_succ, if_neg (by rw [hc]; decide), List.append_nil, seg_other _ _ _ _ _ (by omega), h.p0]
    · rw [idxs_succ, if_neg (by rw [hc]; decide), List.append_nil, seg_other _ _ _ _ _ (by omega), h.p1]
    · rw [idxs_succ, if_pos hc, List.length_append, List.length_singleton, seg_push, h.p2]
      simp
end Go.Proofs.YbulkcuegFmt
