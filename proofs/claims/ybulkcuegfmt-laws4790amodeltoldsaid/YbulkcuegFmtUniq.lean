import Derived.Test.YbulkcuegFmtRv
import Derived.Test.YbulkcuegFmtIdx
import Derived.Laws.AppendOwn
namespace Go.Proofs.YbulkcuegFmt
open Go.RowKit

/-- the first occurrences -/
def uq (xs : Nat → Int) : Nat → List Int
  | 0 => []
  | k + 1 => if xs k % 9 ∈ uq xs k then uq xs k else uq xs k ++ [xs k % 9]

theorem uq_len (xs : Nat → Int) (k : Nat) : (uq xs k).length ≤ k := by
  induction k with
  | zero => exact Nat.le_refl _
  | succ k ih =>
    unfold uq
    split
    · omega
    · rw [List.length_append]
      simp
      omega

theorem owns_alloc {W : World} {base e sz n : Nat} {v : Value} {xs : List Value} (h : W.ownsRow base e sz v n xs) (o : Obj) : (W.alloc o).ownsRow base e sz v n xs := by
  refine ⟨h.1, ?_⟩
  rcases h.2 with h0 | ⟨g, c, cu, h1, h2, hh, h3⟩
  · exact .inl h0
  · exact .inr ⟨g, c, cu, h1, h2, (Below.heap_alloc _ _ _ (lt_of_heap hh)).trans hh, h3⟩

theorem contains_own {W : World} {base : Nat} {v : Value} {us : List Int} (hu : us.length ≤ 10000) (h : W.ownsRow base 43 1 v us.length (us.map (Value.int .u16))) (x : Int) :
    Calls Ybaf.prog 12 #[v, .int .u16 x] W fun e W' => e = .returned (.bool (decide (x ∈ us))) ∧ W = W' := by
  have hrow : RowV W v us.length (fun i => .int .u16 (us.getD i 0)) := rowV_of_owns (base := base) (e := 43) (by
    have : (List.range us.length).map (fun i => Value.int .u16 (us.getD i 0)) = us.map (Value.int .u16) := by
      refine List.ext_getElem (by simp) fun i h1 h2 => ?_
      simp at h1 h2 ⊢
      simp [h1]
    rw [this]; exact h)
  have key : ∀ t : Bool, (t = true ↔ ∃ j, j < us.length ∧ us.getD j 0 = x) → t = decide (x ∈ us) := fun t ht => by
    have : (∃ j, j < us.length ∧ us.getD j 0 = x) ↔ x ∈ us := by
      constructor
      · rintro ⟨j, hj, rfl⟩
        simp [List.getD, hj]
      · intro hm
        obtain ⟨j, hj, rfl⟩ := List.mem_iff_getElem.1 hm
        exact ⟨j, hj, by simp [List.getD, hj]⟩
    rw [this] at ht
    cases t <;> simp_all
  rcases hrow with ⟨rfl, h0⟩ | ⟨b, o, cap, rfl, h3, h4⟩
  · have := containsAct_any none 0 0 0 0 (fun i => us.getD i 0) x W (by omega) (fun h => by omega) (fun i hi => by omega)
    refine this.mono ?_
    rintro e W' ⟨t, rfl, ht, rfl⟩
    rw [h0] at key
    rw [key t ht]
    exact ⟨rfl, rfl⟩
  · refine (containsAct_any (some ⟨b, o, none⟩) b o us.length cap (fun i => us.getD i 0) x W hu (fun _ => rfl) h4).mono ?_
    rintro e W' ⟨t, rfl, ht, rfl⟩
    rw [key t ht]
    exact ⟨rfl, rfl⟩

set_option maxRecDepth 100000 in
set_option maxHeartbeats 1000000 in
theorem uniq_any (va : Option Addr) (b o n cap : Nat) (xs : Nat → Int) (W : World) (hn : n ≤ 300) (hva : 0 < n → va = some ⟨b, o, none⟩ ∧ b < W.heap.size) (hc : ∀ i, i < n → W.cell? ⟨b, o + i, none⟩ = some (.int .u8 (xs i))) (hr : ∀ i, i < n → 0 ≤ xs i ∧ xs i ≤ 255) :
    Calls Ybaf.prog 4 #[.slice va n cap] W fun e W' => ∃ v, e = .returned v ∧ W'.ownsRow W.heap.size 43 1 v (uq xs n).length ((uq xs n).map (Value.int .u16)) ∧ Below W.heap.size W W' := by
  obtain ⟨i43, hi43, hz0, hz1, hz2⟩ := info_parts info43
  have HC : Hid _ := hc
  have HR : Hid _ := hr
  clear hc hr
  go_enter Ybaf.func4, Ybaf.ntmps4
  go_wp2_with fail
  go_loopw [3, 9] (fun v vi wr => ∃ k : Nat, k ≤ n ∧ vi = .int .i64 k ∧ wr.ownsRow W.heap.size 43 1 v (uq xs k).length ((uq xs k).map (Value.int .u16)) ∧ Below W.heap.size W wr) (fun _ vi _ => n - (intOf vi).toNat)
  case atStart => exact ⟨0, Nat.zero_le _, rfl, ⟨rfl, .inl ⟨rfl, rfl⟩⟩, Below.refl _ _⟩
  case round =>
    obtain ⟨k, hk, rfl, hown, hb⟩ := hrel
    by_cases hkn : k < n
    · have hkn' : (k : Int) < (n : Int) := by omega
      obtain ⟨rfl, hbl⟩ := hva (by omega)
      have c := (hb.cell (p := ⟨b, o + k, none⟩) hbl).trans (HC.out k hkn)
      obtain ⟨r0, r1⟩ := HR.out k hkn
      have hlen := uq_len xs k
      have hct := contains_own (by omega) hown (xs k % 9)
      by_cases hm : xs k % 9 ∈ uq xs k
      · have hd : decide (xs k % 9 ∈ uq xs k) = true := by simp [hm]
        rw [hd] at hct
        have HO : Hid _ := hown
        have hnx : Hid (uq xs (k + 1) = uq xs k) := if_pos hm
        clear hown hm hd
        go_wp2_with fail
        refine hct.mono ?_
        rintro e w1 ⟨rfl, rfl⟩
        go_wp2_with fail
        go_roundw
        case rel => exact ⟨k + 1, by omega, by go_num, by rw [hnx.out]; exact HO.out, hb⟩
        case measure => simp [intOf]; omega
      · have hd : decide (xs k % 9 ∈ uq xs k) = false := by simp [hm]
        rw [hd] at hct
        have hnx : Hid (uq xs (k + 1) = uq xs k ++ [xs k % 9]) := if_neg hm
        clear hm hd
        go_wp2_with fail
        refine hct.mono ?_
        rintro e w1 ⟨rfl, rfl⟩
        have ho1 := owns_alloc hown (.cells #[.int .u16 (xs k % 9)] 43)
        have hbs := hb.size
        clear hown hct
        go_wp2_with (at_builtin; refine wpList_append_own _ rfl (.tmp 20) (.tmp 22) 25 rfl W.heap.size 43 i43 _ 1 2 Ybaf.underlying25 hi43 hz0 hz1 hz2 rfl (by omega) _ (uq xs k).length _ rfl ho1 ⟨wr.heap.size, 0, none⟩ 1 1 [.int .u16 (xs k % 9)] rfl rfl ?a1 ?a2 ?a3 ?a4 ?a5 ?next)
        case a1 =>
          intro j u hj
          rcases j with _ | j
          · simp at hj
            subst hj
            simp [Addr.add, go_sem]
          · simp at hj
        case a2 => intro u hu; simp at hu; subst hu; rfl
        case a3 => unfold maxLen; omega
        case a4 => omega
        case a5 => simp; omega
        case next =>
          intro v' w' hown' hgr _
          have hb' : Hid (Below W.heap.size W w') := ⟨hgr.os.trans hb.os, hgr.tape.trans hb.tape, hgr.output.trans hb.output, Nat.le_trans hbs (Nat.le_trans (by simp) hgr.size), fun x hx => (hgr.block x (by simp; omega) (by
            rcases ho1.2 with ⟨h0, _⟩ | ⟨g, c', cu, h0, h2, _⟩
            · rw [h0]; simp [Value.ownBlock]
            · rw [h0]; simp [Value.ownBlock]; omega)).trans ((Below.heap_alloc _ _ _ (by omega)).trans (hb.block x hx))⟩
          have HO : Hid (w'.ownsRow W.heap.size 43 1 v' (uq xs (k + 1)).length ((uq xs (k + 1)).map (Value.int .u16))) := by
            show World.ownsRow _ _ _ _ _ _ _
            rw [hnx.out]
            simpa using hown'
          clear hown' hgr ho1
          go_wp2_with fail
          go_roundw
          case rel => exact ⟨k + 1, by omega, by go_num, HO.out, hb'.out⟩
          case measure => simp [intOf]; omega
    · have e : n = k := by omega
      subst e
      have hnl : ¬ (n : Int) < (n : Int) := by omega
      go_wp2_with fail
      go_ret
      exact ⟨_, rfl, hown, hb⟩
end Go.Proofs.YbulkcuegFmt
