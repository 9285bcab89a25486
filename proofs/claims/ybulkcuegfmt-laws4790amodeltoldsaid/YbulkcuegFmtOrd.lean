import Derived.Test.YbulkcuegFmtCmp
import Derived.Test.YbulkcuegFmtShelf2
namespace Go.Proofs.YbulkcuegFmt
open Go.RowKit Go.Shelf Go.Sort

theorem ltcf {n : Nat} (of lv : Nat → Int) (i j : Fin n) : ltOf (cf of lv) i j = decide (of i < of j ∨ (of i = of j ∧ (lv j < lv i ∨ (lv j = lv i ∧ i.val < j.val)))) := by
  unfold ltOf cf orI cmpI
  by_cases a1 : of i < of j
  · simp [a1]
  · by_cases a2 : of j < of i
    · have : ¬ of i = of j := by omega
      simp [a1, a2, this]
    · have a3 : of i = of j := by omega
      by_cases b1 : lv j < lv i
      · simp [a3, b1]
      · by_cases b2 : lv i < lv j
        · have : ¬ lv j = lv i := by omega
          simp [a3, b1, b2, this]
        · have b3 : lv j = lv i := by omega
          by_cases c1 : (i.val : Int) < (j.val : Int)
          · have : i.val < j.val := by omega
            simp [a3, b3, this]
          · by_cases c2 : (j.val : Int) < (i.val : Int)
            · have : ¬ i.val < j.val := by omega
              have h2 : j.val < i.val := by omega
              simp [a3, b3, this, h2]
            · have : ¬ i.val < j.val := by omega
              have h2 : ¬ j.val < i.val := by omega
              simp [a3, b3, this, h2]

theorem swocf (n : Nat) (of lv : Nat → Int) : SWO (ltOf (cf (n := n) of lv)) where
  irrefl x := by rw [ltcf]; simp
  trans x y z h1 h2 := by
    rw [ltcf] at *
    simp only [decide_eq_true_eq] at *
    omega
  ntrans x y z h1 h2 := by
    rw [ltcf] at *
    simp only [decide_eq_false_iff_not] at *
    omega

theorem totcf (n : Nat) (of lv : Nat → Int) (x y : Fin n) (h1 : ltOf (cf of lv) x y = false) (h2 : ltOf (cf of lv) y x = false) : x = y := by
  rw [ltcf] at *
  simp only [decide_eq_false_iff_not] at *
  apply Fin.ext
  omega

/-- the places in the sort's order -/
def srt (n : Nat) (of lv : Nat → Int) : List (Fin n) := (List.finRange n).mergeSort fun x y => !ltOf (cf of lv) y x
def ord (n : Nat) (of lv : Nat → Int) (j : Nat) : Nat := match (srt n of lv)[j]? with | some x => x.val | none => 0

theorem srt_len (n : Nat) (of lv : Nat → Int) : (srt n of lv).length = n := by
  unfold srt
  rw [List.length_mergeSort, List.length_finRange]
theorem ord_get (n : Nat) (of lv : Nat → Int) (j : Nat) (h : j < n) : ∃ x : Fin n, (srt n of lv)[j]? = some x ∧ ord n of lv j = x.val := by
  have hl : j < (srt n of lv).length := by rw [srt_len]; exact h
  refine ⟨(srt n of lv)[j], by simp, ?_⟩
  unfold ord
  rw [List.getElem?_eq_getElem hl]
theorem ord_lt (n : Nat) (of lv : Nat → Int) (j : Nat) (h : j < n) : ord n of lv j < n := by
  obtain ⟨x, _, e⟩ := ord_get n of lv j h
  rw [e]
  exact x.isLt
theorem ord_onto (n : Nat) (of lv : Nat → Int) (i : Nat) (h : i < n) : ∃ j, j < n ∧ ord n of lv j = i := by
  have hm : (⟨i, h⟩ : Fin n) ∈ srt n of lv := by
    unfold srt
    rw [List.mem_mergeSort]
    exact List.mem_finRange _
  obtain ⟨j, hj, e⟩ := List.getElem_of_mem hm
  refine ⟨j, by rw [srt_len] at hj; exact hj, ?_⟩
  unfold ord
  rw [List.getElem?_eq_getElem hj, e]
theorem ord_le (n : Nat) (of lv : Nat → Int) (j k : Nat) (hjk : j < k) (hk : k < n) :
    of (ord n of lv j) < of (ord n of lv k) ∨ (of (ord n of lv j) = of (ord n of lv k) ∧ (lv (ord n of lv k) < lv (ord n of lv j) ∨ (lv (ord n of lv k) = lv (ord n of lv j) ∧ ord n of lv j ≤ ord n of lv k))) := by
  have hp : (srt n of lv).Pairwise (fun x y => !ltOf (cf of lv) y x) := by
    unfold srt
    refine List.pairwise_mergeSort (fun a b c h1 h2 => ?_) (fun a b => ?_) _
    · simp only [ltcf, Bool.not_eq_true', decide_eq_false_iff_not] at *
      omega
    · simp only [ltcf, Bool.or_eq_true, Bool.not_eq_true', decide_eq_false_iff_not]
      omega
  obtain ⟨x, hx, ex⟩ := ord_get n of lv j (by omega)
  obtain ⟨y, hy, ey⟩ := ord_get n of lv k hk
  have hjl : j < (srt n of lv).length := by rw [srt_len]; omega
  have hkl : k < (srt n of lv).length := by rw [srt_len]; omega
  have h := List.pairwise_iff_getElem.1 hp j k hjl hkl hjk
  rw [List.getElem?_eq_getElem hjl] at hx
  rw [List.getElem?_eq_getElem hkl] at hy
  rw [Option.some.inj hx, Option.some.inj hy, ltcf] at h
  rw [ex, ey]
  simp only [Bool.not_eq_true', decide_eq_false_iff_not] at h
  omega

theorem heap_sorted {α : Type} [Inhabited α] (enc : α → Value) (w : World) (blk off m : Nat) (dk : Array α) (os : Array Obj) (b : Nat) (hb : b < w.heap.size) (hne : b ≠ blk) : (sortWorld enc w blk off m dk os).heap[b]? = w.heap[b]? := by
  unfold sortWorld
  rw [heap_grow_old _ _ (by simpa using hb)]
  show (w.heap.modify blk _)[b]? = _
  rw [Array.getElem?_modify, if_neg (fun e => hne e.symm)]

set_option maxHeartbeats 1000000 in
/-- slices.SortFunc of the places -/
theorem sort_any (m : Nat) (hm : m + 1 ≤ 400) (of lv : Nat → Int) (tb sb fb cb ob fcap ccap : Nat) (W : World)
    (ht : W.cell? ⟨tb, 0, none⟩ = some (.slice (some ⟨fb, 0, none⟩) (m + 1) fcap)) (hs : W.cell? ⟨sb, 0, none⟩ = some (.slice (some ⟨cb, 0, none⟩) (m + 1) ccap))
    (hf : ∀ k, k < m + 1 → W.cell? ⟨fb, k, none⟩ = some (.int .i64 (of k))) (hl : ∀ k, k < m + 1 → W.cell? ⟨cb, k * 6 + 3, none⟩ = some (.int .i64 (lv k)))
    (n1 : tb ≠ ob) (n2 : sb ≠ ob) (n3 : fb ≠ ob) (n4 : cb ≠ ob) (l1 : tb < W.heap.size) (l2 : sb < W.heap.size) (l3 : fb < W.heap.size) (l4 : cb < W.heap.size)
    (co : Array Value) (ho : W.heap[ob]? = some (.cells co 3 (0, 0))) (hc : ∀ j, j < m + 1 → co[j]? = some (.int .i64 (j : Nat))) (ocap : Nat) :
    Calls Ybaf.prog 54 #[.slice (some ⟨ob, 0, none⟩) (m + 1) ocap, .func (.func 55) #[] #[.pointer (some ⟨tb, 0, none⟩), .pointer (some ⟨sb, 0, none⟩)]] W fun e w' =>
      e = .returned (.tuple #[]) ∧ W.grownBy w' (some ob) ∧ ∀ j, j < m + 1 → w'.cell? ⟨ob, j, none⟩ = some (.int .i64 (ord (m + 1) of lv j : Nat)) := by
  have eg : ∀ args w, (callFunc 55 args).run Ybaf.prog w = .ok (.enter 55 args) w := enters_of Ybaf.func55 (by kernel_rfl) rfl
  have hH : Holds (fun i : Fin (m + 1) => Value.int .i64 (i.val : Nat)) W ob 0 (List.finRange (m + 1)).toArray := fun j hj => by
    have hj' : j < m + 1 := by simpa using hj
    have e : (List.finRange (m + 1)).toArray[j]! = ⟨j, hj'⟩ := by
      rw [getElem!_pos _ j hj]
      simp
    rw [e, Nat.zero_add]
    constructor
    · simp [World.cell?, ho, hc j hj']
    · simp [World.frozen?, ho]
  have hob : ob < W.heap.size := (Array.getElem?_eq_some_iff.1 ho).1
  have hcmp : CmpLays1 Ybaf.prog 55 #[.pointer (some ⟨tb, 0, none⟩), .pointer (some ⟨sb, 0, none⟩)] (fun i : Fin (m + 1) => Value.int .i64 (i.val : Nat)) (cf of lv) ob 0 (List.finRange (m + 1)).toArray.size W := by
    intro q os dk hd x y
    have kp : ∀ (b o : Nat) (v : Value), b < W.heap.size → b ≠ ob → W.cell? ⟨b, o, none⟩ = some v → (sortWorld (fun i : Fin (m + 1) => Value.int .i64 (i.val : Nat)) W ob 0 q dk os).cell? ⟨b, o, none⟩ = some v := fun b o v hb hne h =>
      (World.cell?_of_block (w := W) (a := ⟨b, o, none⟩) (heap_sorted _ W ob 0 q dk os b hb hne)).trans h
    exact closure_any (m + 1) of lv x y tb sb fb cb 0 fcap ccap _ (kp _ _ _ l1 n1 ht) (kp _ _ _ l2 n2 hs) (fun k hk => kp _ _ _ l3 n3 (hf k hk)) (fun k hk => by rw [Nat.zero_add]; exact kp _ _ _ l4 n4 (hl k hk))
  have h := Any.slices_SortFunc_total Ybaf.sortL (fun i : Fin (m + 1) => Value.int .i64 (i.val : Nat)) (fun _ => rfl) (cf of lv) (swocf (m + 1) of lv) 55 #[.pointer (some ⟨tb, 0, none⟩), .pointer (some ⟨sb, 0, none⟩)] ob 0 ocap (List.finRange (m + 1)).toArray W eg hcmp hH hob (by simp; omega) (totcf (m + 1) of lv)
  have hsz : (List.finRange (m + 1)).toArray.size = m + 1 := by simp
  rw [hsz] at h
  change Calls Ybaf.prog 54 _ _ _ at h
  refine h.mono fun e w' ⟨he, q, os, hw⟩ => ⟨he, ?_, fun j hj => ?_⟩
  · subst hw
    refine ⟨rfl, rfl, rfl, ?_, fun k hk hne => heap_sorted _ W ob 0 q _ os k hk (by simpa using hne)⟩
    unfold sortWorld
    simp
  · subst hw
    obtain ⟨x, hx, ex⟩ := ord_get (m + 1) of lv j hj
    unfold sortWorld
    rw [cell?_grow _ _ _ (by simpa using hob)]
    have := cell?_putRow (fun i : Fin (m + 1) => Value.int .i64 (i.val : Nat)) (Go.Sort.ahead W q) ob 0 (List.finRange (m + 1)).toArray (srt (m + 1) of lv).toArray hH (by simp [srt_len]) j (by simp [srt_len]; omega)
    rw [Nat.zero_add] at this
    refine this.trans ?_
    rw [ex]
    have e : (srt (m + 1) of lv).toArray[j]! = x := by
      have hl : j < (srt (m + 1) of lv).length := by rw [srt_len]; exact hj
      rw [getElem!_pos _ j (by simpa using hl)]
      rw [List.getElem?_eq_getElem hl] at hx
      simpa using hx
    rw [e]
end Go.Proofs.YbulkcuegFmt
