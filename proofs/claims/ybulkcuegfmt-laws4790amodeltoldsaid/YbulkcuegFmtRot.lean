import Derived.Test.YbulkcuegFmtLeaves
namespace Go.Proofs.YbulkcuegFmt

/-! ### rows as functions: swapped, rotated, merged: no Go in sight -/
def swp (D : Nat → Int) (i j : Nat) : Nat → Int := fun x => if x = i then D j else if x = j then D i else D x
def swr (D : Nat → Int) (i j n : Nat) : Nat → Int := fun x => if i ≤ x ∧ x < i + n then D (x - i + j) else if j ≤ x ∧ x < j + n then D (x - j + i) else D x
def rot (D : Nat → Int) (s t u : Nat) : Nat → Int := fun x => if x < s then D x else if x < s + (u - t) then D (x + (t - s)) else if x < u then D (x - (u - t)) else D x
def seg (D : Nat → Int) (a b : Nat) : List Int := (List.range (b - a)).map fun i => D (a + i)

theorem seg_mem {D : Nat → Int} {a b : Nat} {z : Int} : z ∈ seg D a b ↔ ∃ x, a ≤ x ∧ x < b ∧ D x = z := by
  unfold seg
  simp only [List.mem_map, List.mem_range]
  constructor
  · rintro ⟨i, hi, rfl⟩
    exact ⟨a + i, by omega, by omega, rfl⟩
  · rintro ⟨x, h1, h2, rfl⟩
    exact ⟨x - a, by omega, by rw [Nat.add_sub_cancel' h1]⟩

theorem seg_len (D : Nat → Int) (a b : Nat) : (seg D a b).length = b - a := by simp [seg]

theorem seg_congr {D D' : Nat → Int} {a b : Nat} (h : ∀ x, a ≤ x → x < b → D x = D' x) : seg D a b = seg D' a b := by
  unfold seg
  refine List.map_congr_left fun i hi => ?_
  rw [List.mem_range] at hi
  exact h _ (by omega) (by omega)

theorem seg_split (D : Nat → Int) {a c b : Nat} (h1 : a ≤ c) (h2 : c ≤ b) : seg D a b = seg D a c ++ seg D c b := by
  refine List.ext_getElem (by simp [seg_len]; omega) fun i hi hi' => ?_
  rw [seg_len] at hi
  rw [List.getElem_append]
  split
  · simp [seg]
  · rename_i hs
    simp only [seg_len] at hs
    simp only [seg, List.getElem_map, List.getElem_range, List.length_map, List.length_range]
    congr 1
    omega

theorem seg_shift {D D' : Nat → Int} {a b a' : Nat} (h : ∀ i, i < b - a → D (a + i) = D' (a' + i)) : seg D a b = seg D' a' (a' + (b - a)) := by
  unfold seg
  rw [Nat.add_sub_cancel_left]
  refine List.map_congr_left fun i hi => ?_
  rw [List.mem_range] at hi
  exact h i hi

theorem seg_rot (D : Nat → Int) {s t u : Nat} (h1 : s ≤ t) (h2 : t ≤ u) : seg (rot D s t u) s u = seg D t u ++ seg D s t := by
  rw [seg_split (rot D s t u) (show s ≤ s + (u - t) by omega) (show s + (u - t) ≤ u by omega)]
  congr 1
  · have := seg_shift (D := rot D s t u) (D' := D) (a := s) (b := s + (u - t)) (a' := t) (fun i hi => by
      unfold rot
      rw [if_neg (by omega), if_pos (by omega)]
      congr 1
      omega)
    rw [this]
    congr 1
    omega
  · have := seg_shift (D := rot D s t u) (D' := D) (a := s + (u - t)) (b := u) (a' := s) (fun i hi => by
      unfold rot
      rw [if_neg (by omega), if_neg (by omega), if_pos (by omega)]
      congr 1
      omega)
    rw [this]
    congr 1
    omega

theorem rot_out (D : Nat → Int) {s t u x : Nat} (h1 : s ≤ t) (h2 : t ≤ u) (hx : x < s ∨ u ≤ x) : rot D s t u x = D x := by
  unfold rot
  rcases hx with hx | hx
  · rw [if_pos hx]
  · rw [if_neg (by omega), if_neg (by omega), if_neg (by omega)]

theorem rot_perm (D : Nat → Int) {a s t u b : Nat} (h0 : a ≤ s) (h1 : s ≤ t) (h2 : t ≤ u) (h3 : u ≤ b) : (seg (rot D s t u) a b).Perm (seg D a b) := by
  rw [seg_split (rot D s t u) h0 (show s ≤ b by omega), seg_split (rot D s t u) (show s ≤ u by omega) h3, seg_split D h0 (show s ≤ b by omega), seg_split D (show s ≤ u by omega) h3, seg_rot D h1 h2,
    seg_congr (D := rot D s t u) (D' := D) (a := a) (b := s) (fun x _ hx => rot_out D h1 h2 (.inl hx)), seg_congr (D := rot D s t u) (D' := D) (a := u) (b := b) (fun x hx _ => rot_out D h1 h2 (.inr hx)), seg_split D h1 h2]
  exact List.Perm.append_left _ (List.Perm.append_right _ List.perm_append_comm)

/-- D' is D with [a, b) brought into order by κ -/
structure Srt (κ : Int → Int) (D D' : Nat → Int) (a b : Nat) : Prop where
  perm : (seg D' a b).Perm (seg D a b)
  out : ∀ x, x < a ∨ b ≤ x → D' x = D x
  srt : ∀ x y, a ≤ x → x ≤ y → y < b → κ (D' x) ≤ κ (D' y)

theorem Srt.mem {κ : Int → Int} {D D' : Nat → Int} {a b x : Nat} (h : Srt κ D D' a b) (h1 : a ≤ x) (h2 : x < b) : ∃ y, a ≤ y ∧ y < b ∧ D y = D' x :=
  seg_mem.1 (h.perm.subset (seg_mem.2 ⟨x, h1, h2, rfl⟩))

def Asc (κ : Int → Int) (D : Nat → Int) (a b : Nat) : Prop := ∀ x y, a ≤ x → x ≤ y → y < b → κ (D x) ≤ κ (D y)

/-- two halves, each brought into order, the left not above the right -/
theorem Srt.join {κ : Int → Int} {D D1 D2 D3 : Nat → Int} {a mid b : Nat} (h0 : a ≤ mid) (hb : mid ≤ b) (hp : (seg D1 a b).Perm (seg D a b)) (ho : ∀ x, x < a ∨ b ≤ x → D1 x = D x)
    (hc : ∀ x y, a ≤ x → x < mid → mid ≤ y → y < b → κ (D1 x) ≤ κ (D1 y)) (hl : Srt κ D1 D2 a mid) (hr : Srt κ D2 D3 mid b) : Srt κ D D3 a b := by
  refine ⟨?_, fun x hx => ?_, fun x y h1 h2 h3 => ?_⟩
  · refine List.Perm.trans ?_ hp
    rw [seg_split D3 h0 hb, seg_split D1 h0 hb]
    refine List.Perm.append ?_ ?_
    · rw [seg_congr (D := D3) (D' := D2) (fun x _ hx => hr.out x (.inl hx))]
      exact hl.perm
    · rw [seg_congr (D := D1) (D' := D2) (fun x hx _ => (hl.out x (.inr hx)).symm)]
      exact hr.perm
  · rw [hr.out x (by omega), hl.out x (by omega)]
    exact ho x hx
  · by_cases hy : y < mid
    · rw [hr.out x (.inl (by omega)), hr.out y (.inl hy)]
      exact hl.srt x y h1 h2 hy
    · by_cases hx : x < mid
      · rw [hr.out x (.inl hx)]
        obtain ⟨x', a1, a2, a3⟩ := hl.mem h1 hx
        obtain ⟨y', b1, b2, b3⟩ := hr.mem (by omega) h3
        rw [← a3, ← b3, hl.out y' (.inr b1)]
        exact hc x' y' a1 a2 b1 b2
      · exact hr.srt x y (by omega) h2 h3

theorem Srt.id {κ : Int → Int} {D : Nat → Int} {a b : Nat} (h : Asc κ D a b) : Srt κ D D a b := ⟨List.Perm.refl _, fun _ _ => rfl, h⟩

/-- the first step of symMerge: the halves behind the rotation -/
theorem sym_step {κ : Int → Int} {D : Nat → Int} {a m b mid start : Nat} (h1 : a < m) (h2 : m < b) (hmid : mid = (a + b) / 2) (hA : Asc κ D a m) (hB : Asc κ D m b)
    (hs0 : a ≤ start) (hs1 : mid + m ≤ b + start) (hs2 : start ≤ m) (hs3 : start ≤ mid)
    (hlo : a < start → mid + m < b + start → κ (D (start - 1)) ≤ κ (D (mid + m - start)))
    (hhi : start < m → start < mid → κ (D (mid + m - start - 1)) < κ (D start)) :
    let D1 := rot D start m (mid + m - start)
    Asc κ D1 a start ∧ Asc κ D1 start mid ∧ Asc κ D1 mid (mid + m - start) ∧ Asc κ D1 (mid + m - start) b ∧ (∀ x y, a ≤ x → x < mid → mid ≤ y → y < b → κ (D1 x) ≤ κ (D1 y)) := by
  intro D1
  have e : ∀ x, D1 x = if x < start then D x else if x < mid then D (x + (m - start)) else if x < mid + m - start then D (x - (mid - start)) else D x := fun x => by
    show rot D start m (mid + m - start) x = _
    unfold rot
    rw [show start + (mid + m - start - m) = mid by omega, show mid + m - start - m = mid - start by omega]
  have p1 : ∀ x, x < start → D1 x = D x := fun x hx => by rw [e, if_pos hx]
  have p2 : ∀ x, start ≤ x → x < mid → D1 x = D (x + (m - start)) := fun x hx hx' => by rw [e, if_neg (by omega), if_pos hx']
  have p3 : ∀ x, mid ≤ x → x < mid + m - start → D1 x = D (x - (mid - start)) := fun x hx hx' => by rw [e, if_neg (by omega), if_neg (by omega), if_pos hx']
  have p4 : ∀ x, mid + m - start ≤ x → D1 x = D x := fun x hx => by rw [e, if_neg (by omega), if_neg (by omega), if_neg (by omega)]
  refine ⟨fun x y h3 h4 h5 => ?_, fun x y h3 h4 h5 => ?_, fun x y h3 h4 h5 => ?_, fun x y h3 h4 h5 => ?_, fun x y h3 h4 h5 h6 => ?_⟩
  · rw [p1 x (by omega), p1 y h5]; exact hA x y h3 h4 (by omega)
  · rw [p2 x h3 (by omega), p2 y (by omega) h5]; exact hB _ _ (by omega) (by omega) (by omega)
  · rw [p3 x h3 (by omega), p3 y (by omega) h5]; exact hA _ _ (by omega) (by omega) (by omega)
  · rw [p4 x h3, p4 y (by omega)]; exact hB x y (by omega) h4 h5
  · by_cases hx : x < start
    · rw [p1 x hx]
      by_cases hy : y < mid + m - start
      · rw [p3 y h5 hy]; exact hA _ _ h3 (by omega) (by omega)
      · rw [p4 y (by omega)]
        refine Int.le_trans (hA x (start - 1) h3 (by omega) (by omega)) (Int.le_trans (hlo (by omega) (by omega)) (hB _ _ (by omega) (by omega) h6))
    · rw [p2 x (by omega) h4]
      by_cases hy : y < mid + m - start
      · rw [p3 y h5 hy]
        refine Int.le_trans (hB (x + (m - start)) (mid + m - start - 1) (by omega) (by omega) (by omega)) (Int.le_trans (Int.le_of_lt (hhi (by omega) (by omega))) (hA start _ (by omega) (by omega) (by omega)))
      · rw [p4 y (by omega)]; exact hB _ _ (by omega) (by omega) h6

/-- one element put into its place from the left -/
theorem one_left {κ : Int → Int} {D : Nat → Int} {a b i : Nat} (h1 : a + 1 ≤ i) (h2 : i ≤ b) (hB : Asc κ D (a + 1) b) (hlo : ∀ x, a + 1 ≤ x → x < i → κ (D x) < κ (D a)) (hhi : ∀ x, i ≤ x → x < b → κ (D a) ≤ κ (D x)) :
    Srt κ D (rot D a (a + 1) i) a b := by
  refine ⟨rot_perm D (Nat.le_refl _) (by omega) h1 h2, fun x hx => rot_out D (by omega) h1 (by omega), fun x y h3 h4 h5 => ?_⟩
  have p1 : ∀ x, a ≤ x → x + 1 < i → rot D a (a + 1) i x = D (x + 1) := fun x hx hx' => by unfold rot; rw [if_neg (by omega), if_pos (by omega)]; congr 1; omega
  have p2 : rot D a (a + 1) i (i - 1) = D a := by unfold rot; rw [if_neg (by omega), if_neg (by omega), if_pos (by omega)]; congr 1; omega
  have p3 : ∀ x, i ≤ x → rot D a (a + 1) i x = D x := fun x hx => rot_out D (by omega) h1 (.inr hx)
  by_cases hx : x + 1 < i
  · rw [p1 x h3 hx]
    by_cases hy : y + 1 < i
    · rw [p1 y (by omega) hy]; exact hB _ _ (by omega) (by omega) (by omega)
    · by_cases hy' : y + 1 = i
      · rw [show y = i - 1 by omega, p2]; exact Int.le_of_lt (hlo _ (by omega) hx)
      · rw [p3 y (by omega)]; exact hB _ _ (by omega) (by omega) h5
  · by_cases hx' : x + 1 = i
    · rw [show x = i - 1 by omega, p2]
      by_cases hy : y = x
      · rw [hy, show x = i - 1 by omega, p2]; exact Int.le_refl _
      · rw [p3 y (by omega)]; exact hhi _ (by omega) h5
    · rw [p3 x (by omega), p3 y (by omega)]; exact hB _ _ (by omega) h4 h5

/-- one element put into its place from the right -/
theorem one_right {κ : Int → Int} {D : Nat → Int} {a m i : Nat} (h1 : a ≤ i) (h2 : i ≤ m) (hA : Asc κ D a m) (hlo : ∀ x, a ≤ x → x < i → κ (D x) ≤ κ (D m)) (hhi : ∀ x, i ≤ x → x < m → κ (D m) < κ (D x)) :
    Srt κ D (rot D i m (m + 1)) a (m + 1) := by
  refine ⟨rot_perm D h1 h2 (by omega) (Nat.le_refl _), fun x hx => rot_out D h2 (by omega) (by omega), fun x y h3 h4 h5 => ?_⟩
  have p1 : ∀ x, x < i → rot D i m (m + 1) x = D x := fun x hx => rot_out D h2 (by omega) (.inl hx)
  have p2 : rot D i m (m + 1) i = D m := by unfold rot; rw [if_neg (by omega), if_pos (by omega)]; congr 1; omega
  have p3 : ∀ x, i < x → x < m + 1 → rot D i m (m + 1) x = D (x - 1) := fun x hx hx' => by unfold rot; rw [if_neg (by omega), if_neg (by omega), if_pos hx']; congr 1; omega
  by_cases hx : x < i
  · rw [p1 x hx]
    by_cases hy : y < i
    · rw [p1 y hy]; exact hA _ _ h3 h4 (by omega)
    · by_cases hy' : y = i
      · rw [hy', p2]; exact hlo _ h3 hx
      · rw [p3 y (by omega) h5]; exact hA _ _ h3 (by omega) (by omega)
  · by_cases hx' : x = i
    · rw [hx', p2]
      by_cases hy : y = i
      · rw [hy, p2]; exact Int.le_refl _
      · rw [p3 y (by omega) h5]; exact Int.le_of_lt (hhi _ (by omega) (by omega))
    · rw [p3 x (by omega) (by omega), p3 y (by omega) h5]; exact hA _ _ (by omega) (by omega) (by omega)

/-! ### swaps make a rotation -/
theorem rot_swr_gt (D : Nat → Int) {m i j : Nat} (hi : i ≤ m) (hij : j < i) : rot D (m - i) m (m + j) = rot (swr D (m - i) m j) (m - i + j) m (m + j) := by
  funext x
  unfold rot swr
  by_cases c1 : x < m - i
  · rw [if_pos c1, if_pos (show x < m - i + j by omega), if_neg (by omega), if_neg (by omega)]
  · rw [if_neg c1]
    by_cases c2 : x < m - i + j
    · rw [if_pos (by omega), if_pos c2, if_pos (by omega)]
      congr 1; omega
    · rw [if_neg (by omega), if_neg c2]
      by_cases c3 : x < m + j
      · rw [if_pos c3]
        by_cases c4 : x < m - i + j + (m + j - m)
        · rw [if_pos c4, if_neg (by omega), if_pos (by omega)]
          congr 1; omega
        · rw [if_neg c4, if_pos c3, if_neg (by omega), if_neg (by omega)]
      · rw [if_neg c3, if_neg (by omega), if_neg c3, if_neg (by omega), if_neg (by omega)]

theorem rot_swr_lt (D : Nat → Int) {m i j : Nat} (hi : i ≤ m) (hij : i < j) : rot D (m - i) m (m + j) = rot (swr D (m - i) (m + j - i) i) (m - i) m (m + j - i) := by
  funext x
  unfold rot swr
  by_cases c1 : x < m - i
  · rw [if_pos c1, if_pos c1, if_neg (by omega), if_neg (by omega)]
  · rw [if_neg c1, if_neg c1]
    by_cases c2 : x < m - i + (m + j - i - m)
    · rw [if_pos (by omega), if_pos c2]
      by_cases c3 : x + (m - (m - i)) < m + j - i
      · rw [if_neg (by omega), if_neg (by omega)]
      · omega
    · rw [if_neg c2]
      by_cases c3 : x < m + j - i
      · rw [if_pos (by omega), if_pos c3, if_pos (by omega)]
        congr 1; omega
      · rw [if_neg c3]
        by_cases c4 : x < m + j
        · rw [if_neg (by omega), if_pos c4, if_neg (by omega), if_pos (by omega)]
          congr 1; omega
        · rw [if_neg (by omega), if_neg c4, if_neg (by omega), if_neg (by omega)]

theorem rot_swr_eq (D : Nat → Int) {m i : Nat} (hi : i ≤ m) : rot D (m - i) m (m + i) = swr D (m - i) m i := by
  funext x
  simp only [rot, swr]
  repeat' split
  all_goals first | rfl | (exfalso; omega) | (congr 1; omega)
theorem swr_succ (D : Nat → Int) {i j n : Nat} (h : i + n < j) : swr D i j (n + 1) = swp (swr D i j n) (i + n) (j + n) := by
  funext x
  simp only [swr, swp]
  repeat' split
  all_goals first | rfl | (exfalso; omega) | (congr 1; omega)
theorem swr_zero (D : Nat → Int) (i j : Nat) : swr D i j 0 = D := by
  funext x
  simp only [swr]
  repeat' split
  all_goals first | rfl | (exfalso; omega) | (congr 1; omega)
theorem rot_one_left (D : Nat → Int) {a k : Nat} (h : a ≤ k) : rot D a (a + 1) (k + 2) = swp (rot D a (a + 1) (k + 1)) k (k + 1) := by
  funext x
  simp only [rot, swp]
  repeat' split
  all_goals first | rfl | (exfalso; omega) | (congr 1; omega)
theorem rot_one_right (D : Nat → Int) {k m : Nat} (h : k < m) : rot D k m (m + 1) = swp (rot D (k + 1) m (m + 1)) (k + 1) k := by
  funext x
  simp only [rot, swp]
  repeat' split
  all_goals first | rfl | (exfalso; omega) | (congr 1; omega)
theorem rot_none_l (D : Nat → Int) (a : Nat) : rot D a (a + 1) (a + 1) = D := by
  funext x
  simp only [rot]
  repeat' split
  all_goals first | rfl | (exfalso; omega) | (congr 1; omega)
theorem rot_none_r (D : Nat → Int) (m : Nat) : rot D m m (m + 1) = D := by
  funext x
  simp only [rot]
  repeat' split
  all_goals first | rfl | (exfalso; omega) | (congr 1; omega)
end Go.Proofs.YbulkcuegFmt
