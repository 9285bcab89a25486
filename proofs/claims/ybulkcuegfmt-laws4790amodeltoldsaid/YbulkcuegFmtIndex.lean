import Derived.Test.YbulkcuegFmtIxs
import Derived.BigRegion
namespace Go.Proofs.YbulkcuegFmt
open Go.RowKit Go.Maps Go.Shelf

theorem firsts_from (qf : Nat → Fin 50) (n : Nat) (q : Fin 50) (h : q ∈ firsts qf n) : ∃ k, k < n ∧ qf k = q := by
  induction n with
  | zero => simp [firsts] at h
  | succ n ih =>
    have h' : q ∈ (if qf n ∈ firsts qf n then firsts qf n else firsts qf n ++ [qf n]) := h
    split at h'
    · obtain ⟨k, h1, h2⟩ := ih h'
      exact ⟨k, by omega, h2⟩
    · simp at h'
      rcases h' with h' | h'
      · obtain ⟨k, h1, h2⟩ := ih h'
        exact ⟨k, by omega, h2⟩
      · exact ⟨n, by omega, h'.symm⟩
theorem getD_mem {l : List (Fin 50)} {m : Nat} (h : m < l.length) : l.getD m 0 ∈ l := by
  simp [List.getD, h]
theorem idxOf_getD {l : List (Fin 50)} (hn : l.Nodup) {m : Nat} (h : m < l.length) : l.idxOf (l.getD m 0) = m := by
  have hm := getD_mem h
  have hl := List.idxOf_lt_length_of_mem hm
  have e1 : l[l.idxOf (l.getD m 0)]'hl = l.getD m 0 := List.getElem_idxOf hl
  have e2 : l[m]'h = l.getD m 0 := by simp [List.getD, h]
  exact (List.getElem_inj hn).1 (e1.trans e2.symm)

set_option maxRecDepth 100000 in
set_option maxHeartbeats 1000000 in
theorem index_any (cb n ccap : Nat) (qf : Nat → Fin 50) (lv cd : Nat → Int) (hgh kn : Nat → Bool) (w : World) (hn : n ≤ 400) (hc : cb < w.heap.size) (S : Scan w cb n qf lv cd hgh kn) :
    Calls Ybaf.prog 43 #[.slice (some ⟨cb, 0, none⟩) n ccap] w fun e w' => ∃ ib db, e = .returned (.pointer (some ⟨ib, 0, none⟩)) ∧ Below w.heap.size w w' ∧ w.heap.size ≤ ib ∧ w.heap.size ≤ db ∧ w'.cell? ⟨ib, 1, none⟩ = some (.slice (some ⟨db, 0, none⟩) (firsts qf n).length n) ∧ ∀ x, x < (firsts qf n).length * 10 → w'.cell? ⟨db, x, none⟩ = some (candV (firsts qf n) (fun q => hiOf qf hgh q n) (fun q => lvOf qf lv q n) x) := by
  obtain ⟨i3, hi, hz0, hz1, hz2⟩ := info_parts info3
  go_enter Ybaf.func43, Ybaf.ntmps43
  go_wp2_with (at_make; refine wpList_make_full _ rfl (.tmp 10) (.tmp 10) 36 rfl (w.heap.size + 1) 3 i3 (.int .i64 0) 1 Ybaf.underlying36 hi hz0 hz1 .i64 .i64 n n n rfl rfl rfl rfl ?b2 ?b3 ?b4 ?next)
  case b2 => rw [hz2]; omega
  case b3 => unfold maxLen; omega
  case b4 => simp
  case next =>
    intro w1 ho hgr
    obtain ⟨cf, hcf1, hcf2⟩ := row_made (g := w.heap.size + 1) (by simpa using ho)
    have hl1 := lt_of_heap hcf1
    have b1 : ∀ k, k < w.heap.size → w1.heap[k]? = w.heap[k]? := fun k hk => (hgr.block k (by simp; omega) (by simp)).trans (Below.heap_alloc _ _ _ hk)
    have s1 : w1.cell? ⟨w.heap.size, 0, none⟩ = some (.slice (some ⟨cb, 0, none⟩) n ccap) := (World.cell?_of_block (w := w.alloc (.cells #[.slice (some ⟨cb, 0, none⟩) n ccap] 39)) (a := ⟨w.heap.size, 0, none⟩) (hgr.block _ (by simp) (by simp))).trans (cell_of (MapKept.heap_alloc w _).1 rfl)
    have hbel : Below w.heap.size w (w1.alloc (.cells #[.slice (some ⟨w.heap.size + 1, 0, none⟩) n n] 36)) := ⟨hgr.os, hgr.tape, hgr.output, by simp; omega, fun k hk => (Below.heap_alloc _ _ _ (by omega)).trans (b1 k hk)⟩
    have s2 : (w1.alloc (.cells #[.slice (some ⟨w.heap.size + 1, 0, none⟩) n n] 36)).cell? ⟨w.heap.size, 0, none⟩ = some (.slice (some ⟨cb, 0, none⟩) n ccap) := cell_alloc s1
    have t2 : (w1.alloc (.cells #[.slice (some ⟨w.heap.size + 1, 0, none⟩) n n] 36)).cell? ⟨w1.heap.size, 0, none⟩ = some (.slice (some ⟨w.heap.size + 1, 0, none⟩) n n) := cell_of (MapKept.heap_alloc w1 _).1 rfl
    have hf2 : (w1.alloc (.cells #[.slice (some ⟨w.heap.size + 1, 0, none⟩) n n] 36)).heap[w.heap.size + 1]? = some (.cells cf 3 (0, 0)) := (Below.heap_alloc _ _ _ hl1).trans hcf1
    have hsz : w1.heap.size < (w1.alloc (.cells #[.slice (some ⟨w.heap.size + 1, 0, none⟩) n n] 36)).heap.size := by simp
    go_upto_region 2 with fail
    generalize w1.alloc (.cells #[.slice (some ⟨w.heap.size + 1, 0, none⟩) n n] 36) = W1 at *
    clear ho hgr s1 b1 hcf1
    generalize w1.heap.size = tb at *
    have S1 : Scan W1 cb n qf lv cd hgh kn := S.of_block (hbel.block cb hc)
    have hm := merge_any cb (w.heap.size + 1) n ccap qf lv cd hgh kn W1.drew hn (by omega) (by show cb < W1.heap.size; omega) (by show _ < W1.heap.size; omega) (S1.of_block rfl) cf hf2 hcf2 (fun j => place (firsts qf n) (qf j)) (fun _ _ => rfl)
    go_region_held3 (fun w' => w'.cell? ⟨w.heap.size, 0, none⟩ = some (.slice (some ⟨cb, 0, none⟩) n ccap) ∧ w'.cell? ⟨tb, 0, none⟩ = some (.slice (some ⟨w.heap.size + 1, 0, none⟩) n n))
      ((repeat' apply And.intro) <;> (first | assumption | exact cell_drew (by assumption) | exact keepg D.g (cell_drew s2) (show _ < W1.heap.size by omega) (by omega) | exact keepg D.g (cell_drew t2) (show _ < W1.heap.size by omega) (by omega) | exact cell_alloc (keepg D.g (cell_drew s2) (show _ < W1.heap.size by omega) (by omega)) | exact cell_alloc (keepg D.g (cell_drew t2) (show _ < W1.heap.size by omega) (by omega))))
      (first | (go_at_call 53; refine hm.mono ?_; rintro e w2 ⟨mp, rfl, D⟩))
    have hsW : W1.drew.heap.size = W1.heap.size := rfl
    have L : Low w w2 cb n ccap (w.heap.size + 1) tb (W1.heap.size + 1) mp (firsts qf n) (fun j => place (firsts qf n) (qf j)) lv (candV (firsts qf n) (fun q => hiOf qf hgh q n) (fun q => lvOf qf lv q n)) := by
      have hb2 : Below w.heap.size w w2 := hbel.trans ⟨D.g.os, D.g.tape, D.g.output, D.g.size, fun k hk => D.g.block k (by rw [hsW]; omega) (by simp; omega)⟩
      have z := D.sz
      exact ⟨hb2, keepg D.g (cell_drew s2) (by rw [hsW]; omega) (by omega), keepg D.g (cell_drew t2) (by rw [hsW]; omega) (by omega), D.of, fun k hk => keepg D.g (S1.s3 k hk) (by rw [hsW]; omega) (by omega),
        fun mb e => ⟨by have := (D.own mb e).1; omega, (D.own mb e).2⟩, D.cd, D.nd, by omega⟩
    generalize W1.heap.size + 1 = db at *
    clear hm D s2 t2 hf2 hsz S1 hbel hcf2
    rename_i hHeld
    clear hHeld
    generalize hOF : (fun j => place (firsts qf n) (qf j)) = OF at L
    have HOF : Hid ((fun j => place (firsts qf n) (qf j)) = OF) := hOF
    clear hOF
    have hib : (w2.alloc (.cells #[.slice (some ⟨cb, 0, none⟩) n ccap, .slice (some ⟨db, 0, none⟩) (firsts qf n).length n, .map mp, .slice none 0 0] 135)).heap[w2.heap.size]? = some (.cells #[.slice (some ⟨cb, 0, none⟩) n ccap, .slice (some ⟨db, 0, none⟩) (firsts qf n).length n, .map mp, .slice none 0 0] 135 (0, 0)) := (MapKept.heap_alloc w2 _).1
    have hbA := bal (o := .cells #[.slice (some ⟨cb, 0, none⟩) n ccap, .slice (some ⟨db, 0, none⟩) (firsts qf n).length n, .map mp, .slice none 0 0] 135) (Below.refl _ w2)
    have s3 := (L.next hbA).sc
    have hsz3 : (w2.alloc (.cells #[.slice (some ⟨cb, 0, none⟩) n ccap, .slice (some ⟨db, 0, none⟩) (firsts qf n).length n, .map mp, .slice none 0 0] 135)).heap.size = w2.heap.size + 1 := by simp
    generalize w2.alloc (.cells #[.slice (some ⟨cb, 0, none⟩) n ccap, .slice (some ⟨db, 0, none⟩) (firsts qf n).length n, .map mp, .slice none 0 0] 135) = W3 at *
    go_wp2_with (at_make; refine wpList_make_full _ rfl (.tmp 19) (.tmp 19) 36 rfl (w2.heap.size + 1) 3 i3 (.int .i64 0) 1 Ybaf.underlying36 hi hz0 hz1 .i64 .i64 n n n rfl rfl rfl rfl ?b2 ?b3 ?b4 ?next)
    case b2 => rw [hz2]; omega
    case b3 => unfold maxLen; omega
    case b4 => omega
    case next =>
      intro w4 ho hgr
      obtain ⟨co, hco1, hco2⟩ := row_made ho
      have hb4 : Below W3.heap.size W3 w4 := ⟨hgr.os, hgr.tape, hgr.output, hgr.size, fun k hk => hgr.block k hk (by simp)⟩
      have hb24 : Below w2.heap.size w2 w4 := hbA.trans (hb4.mono (by omega))
      have hib4 := (hb4.block _ (lt_of_heap hib)).trans hib
      have hlo : w2.heap.size + 1 < w4.heap.size := lt_of_heap hco1
      clear ho hgr hb4 hib s3 hbA
      go_wp2_with fail
      go_loopw [23] (fun i wr => ∃ k : Nat, k ≤ n ∧ i = .int .i64 k ∧ w4.grownBy wr (some (w2.heap.size + 1)) ∧ ∃ co, wr.heap[w2.heap.size + 1]? = some (.cells co 3 (0, 0)) ∧ co.size = n ∧ Hid (∀ j, j < k → co[j]? = some (.int .i64 (j : Nat)))) (fun i _ => n - (intOf i).toNat)
      case atStart => exact ⟨0, Nat.zero_le _, rfl, World.grownBy.refl _ _, co, hco1, hco2, fun j hj => by omega⟩
      case round =>
        obtain ⟨k, hk, rfl, hg, co', h1, h2, h3⟩ := hrel
        by_cases hkn : k < n
        · have hkn' : (k : Int) < (n : Int) := by omega
          obtain ⟨v, hv⟩ : ∃ v, co'[k]? = some v := ⟨co'[k]'(by omega), by simp [show k < co'.size by omega]⟩
          have c1 := cell_of h1 hv
          have c2 : wr.frozen? ⟨w2.heap.size + 1, k, none⟩ = false := fz_of h1
          clear L hib4
          go_wp2_with fail
          go_roundw
          case rel =>
            refine ⟨k + 1, by omega, by go_num, ⟨hg.os, hg.tape, hg.output, Nat.le_trans hg.size (by simp [World.setCell]), fun b hb hne => (Below.heap_setCell _ _ _ _ (by simpa using hne)).trans (hg.block b hb hne)⟩, co'.setIfInBounds k (.int .i64 (k : Nat)), heap_set _ h1, by simpa using h2, fun j hj => ?_⟩
            by_cases e : j = k
            · subst e
              have : j < co'.size := by omega
              simp [this]
            · rw [Array.getElem?_setIfInBounds, if_neg (fun e' => e e'.symm)]
              exact h3.out j (by omega)
          case measure => simp [intOf]; omega
        · have e : n = k := by omega
          subst e
          have hbr : Below w2.heap.size w2 wr := hb24.trans ⟨hg.os, hg.tape, hg.output, hg.size, fun b hb => hg.block b (by omega) (by simp; omega)⟩
          have hibr : wr.heap[w2.heap.size]? = _ := (hg.block _ (by omega) (by simp)).trans hib4
          have Lr := L.next hbr
          have lows := L.lt
          have hsr := hbr.size
          have hor := lt_of_heap h1
          have hsort := sort_all n hn OF lv tb w.heap.size (w.heap.size + 1) cb (w2.heap.size + 1) n ccap wr Lr.tc Lr.sc Lr.ofc Lr.lvc (by omega) (by omega) (by omega) (by omega) (by omega) (by omega) (by omega) (by omega) co' h1 h3.out n
          clear hib4 hb24 hg h3 Lr
          go_wp2_with fail
          refine hsort.mono ?_
          rintro e w5 ⟨rfl, hg5, hord⟩
          have hb5 : Below w2.heap.size w2 w5 := hbr.trans ⟨hg5.os, hg5.tape, hg5.output, hg5.size, fun b hb => hg5.block b (by omega) (by simp; omega)⟩
          have hib5 : w5.heap[w2.heap.size]? = _ := (hg5.block _ (by omega) (by simp)).trans hibr
          have hs5 : w2.heap.size + 1 < w5.heap.size := Nat.lt_of_lt_of_le hor hg5.size
          clear hsort hg5 hibr hbr h1 h2 hor hsr
          have x1 : w5.cell? ⟨w2.heap.size, 1, none⟩ = some (.slice (some ⟨db, 0, none⟩) (firsts qf n).length n) := cell_of hib5 rfl
          have x3 : w5.cell? ⟨w2.heap.size, 3, none⟩ = some (.slice none 0 0) := cell_of hib5 rfl
          have xf : w5.frozen? ⟨w2.heap.size, 3, none⟩ = false := fz_of hib5
          have h9 := nodup50 (firsts qf n) L.nd
          have HO : Hid (∀ j, j < n → w5.cell? ⟨w2.heap.size + 1, j, none⟩ = some (.int .i64 (ord n OF lv j : Nat))) := hord
          clear hord
          obtain ⟨i4, gi, gz0, gz1, gz2⟩ := info_parts info166
          go_wp2_with (at_make; refine wpList_make_full _ rfl (.tmp 40) (.tmp 40) 133 rfl (w2.heap.size + 2) 166 i4 (.agg #[.slice none 0 0, .int .i64 0]) 2 Ybaf.underlying133 gi gz0 gz1 .i64 .i64 _ _ (firsts qf n).length rfl rfl rfl rfl ?b2 ?b3 ?b4 ?next2)
          case b2 => rw [gz2]; omega
          case b3 => unfold maxLen; omega
          case b4 => omega
          case next2 =>
            intro w6 ho6 hg6
            obtain ⟨gc, hgc1, hgc2, hgc3⟩ : ∃ gc, w6.heap[w5.heap.size]? = some (.cells gc 166 (0, 0)) ∧ gc.size = (firsts qf n).length * 2 ∧ ∀ i, i < (firsts qf n).length → gc[i * 2 + 1]? = some (.int .i64 0) := by
              rcases ho6.2 with ⟨h, _⟩ | ⟨g, c, cu, h, _, hh, _, _, hc, ht⟩
              · cases h
              · simp only [Value.slice.injEq, Option.some.injEq, Addr.mk.injEq] at h
                obtain ⟨⟨rfl, _, _⟩, _, rfl⟩ := h
                refine ⟨cu, hh, hc, fun i hi => ?_⟩
                have hlt : i * 2 + 1 < (firsts qf n).length * 2 := by omega
                have e := congrArg (fun l => l[i * 2 + 1]?) ht
                simp only [List.getElem?_take_of_lt hlt, Array.getElem?_toList] at e
                rw [e]
                unfold madeCells
                rw [Array.getElem?_map, Array.getElem?_range]
                have e2 : (i * 2 + 1) % 2 = 1 := by omega
                simp [hlt, e2]
            clear ho6
            have hb6 : Below w5.heap.size w5 w6 := ⟨hg6.os, hg6.tape, hg6.output, hg6.size, fun k hk => hg6.block k hk (by simp)⟩
            have y3 : w6.cell? ⟨w2.heap.size, 3, none⟩ = some (.slice none 0 0) := (hb6.cell (p := ⟨w2.heap.size, 3, none⟩) (by show w2.heap.size < _; omega)).trans x3
            have yf : w6.frozen? ⟨w2.heap.size, 3, none⟩ = false := (hb6.frozen (p := ⟨w2.heap.size, 3, none⟩) (by show w2.heap.size < _; omega)).trans xf
            go_upto_region 11 with fail
            obtain ⟨gi, hgi⟩ : ∃ gi : Nat → Nat, ∀ j, j < n → OF j = (gi j : Int) ∧ gi j < (firsts qf n).length ∧ gi j = (firsts qf n).idxOf (qf j) := ⟨fun j => (firsts qf n).idxOf (qf j), fun j hj => by
              have hm := firsts_mem qf n j hj
              refine ⟨?_, List.idxOf_lt_length_of_mem hm, rfl⟩
              rw [← HOF.out]
              show place (firsts qf n) (qf j) = _
              unfold place
              rw [if_pos hm]⟩
            obtain ⟨od, hod⟩ : ∃ od : Nat → Nat, od = ord n OF lv := ⟨_, rfl⟩
            have hne7 : ∀ b, b ≠ w2.heap.size → (w6.setCell ⟨w2.heap.size, 3, none⟩ (.slice (some ⟨w5.heap.size, 0, none⟩) (firsts qf n).length (firsts qf n).length)).heap[b]? = w6.heap[b]? := fun b hb => Below.heap_setCell _ _ _ _ hb
            have hb7 : Below w2.heap.size w2 (w6.setCell ⟨w2.heap.size, 3, none⟩ (.slice (some ⟨w5.heap.size, 0, none⟩) (firsts qf n).length (firsts qf n).length)) := ⟨hb6.os.trans hb5.os, hb6.tape.trans hb5.tape, hb6.output.trans hb5.output, by have h1 := hb6.size; have h2 := hb5.size; simp [World.setCell]; omega, fun k hk => (hne7 k (by omega)).trans ((hb6.block k (by omega)).trans (hb5.block k hk))⟩
            have hib7 : (w6.setCell ⟨w2.heap.size, 3, none⟩ (.slice (some ⟨w5.heap.size, 0, none⟩) (firsts qf n).length (firsts qf n).length)).heap[w2.heap.size]? = some (.cells #[.slice (some ⟨cb, 0, none⟩) n ccap, .slice (some ⟨db, 0, none⟩) (firsts qf n).length n, .map mp, .slice (some ⟨w5.heap.size, 0, none⟩) (firsts qf n).length (firsts qf n).length] 135 (0, 0)) := heap_set _ ((hb6.block _ (by omega)).trans hib5)
            have HO7 : Hid (∀ j, j < n → (w6.setCell ⟨w2.heap.size, 3, none⟩ (.slice (some ⟨w5.heap.size, 0, none⟩) (firsts qf n).length (firsts qf n).length)).cell? ⟨w2.heap.size + 1, j, none⟩ = some (.int .i64 (od j : Nat))) := fun j hj => by
              rw [World.cell?_of_block (w := w6) (a := ⟨w2.heap.size + 1, j, none⟩) (hne7 (w2.heap.size + 1) (by omega)), hb6.cell (p := ⟨w2.heap.size + 1, j, none⟩) hs5, hod]
              exact HO.out j hj
            have G7 : Grp (w6.setCell ⟨w2.heap.size, 3, none⟩ (.slice (some ⟨w5.heap.size, 0, none⟩) (firsts qf n).length (firsts qf n).length)) w5.heap.size n (firsts qf n).length (w2.heap.size + 1) gi od 0 gc := ⟨(hne7 _ (by omega)).trans hgc1, hgc2, hgc3, fun j hj => by omega, fun _ j hj => by omega⟩
            have hl7 : w5.heap.size < (w6.setCell ⟨w2.heap.size, 3, none⟩ (.slice (some ⟨w5.heap.size, 0, none⟩) (firsts qf n).length (firsts qf n).length)).heap.size := by simpa [World.setCell] using lt_of_heap hgc1
            generalize w6.setCell ⟨w2.heap.size, 3, none⟩ (.slice (some ⟨w5.heap.size, 0, none⟩) (firsts qf n).length (firsts qf n).length) = W7 at *
            clear hne7 hgc1 hgc2 hgc3 y3 yf hb6 hg6 x1 x3 xf hib5 HO hb5
            have L7 := L.next hb7
            have hodl : ∀ j, j < n → od j < n := fun j hj => by rw [hod]; exact ord_lt n OF lv j hj
            have HOD : Hid (∀ j k, j < k → k < n → OF (od j) < OF (od k) ∨ (OF (od j) = OF (od k) ∧ (lv (od k) < lv (od j) ∨ (lv (od k) = lv (od j) ∧ od j ≤ od k)))) := fun j k h1 h2 => by rw [hod]; exact ord_le n OF lv j k h1 h2
            have HON : Hid (∀ i, i < n → ∃ j, j < n ∧ od j = i) := fun i hi => by rw [hod]; exact ord_onto n OF lv i hi
            clear hod
            have HL : Hid (∀ wr, W7.grownBy wr (some w5.heap.size) → wr.cell? ⟨tb, 0, none⟩ = some (.slice (some ⟨w.heap.size + 1, 0, none⟩) n n) ∧ wr.cell? ⟨w2.heap.size, 3, none⟩ = some (.slice (some ⟨w5.heap.size, 0, none⟩) (firsts qf n).length (firsts qf n).length) ∧ ∀ j, j < n → wr.cell? ⟨w2.heap.size + 1, j, none⟩ = some (.int .i64 (od j : Nat)) ∧ wr.cell? ⟨w.heap.size + 1, od j, none⟩ = some (.int .i64 (gi (od j) : Nat))) := fun wr hg => by
              have hsz := hb7.size
              refine ⟨keepg hg L7.tc (by omega) (by omega), keepg hg (cell_of hib7 rfl) (by omega) (by omega), fun j hj => ⟨keepg hg (HO7.out j hj) (by omega) (by omega), ?_⟩⟩
              rw [← (hgi _ (hodl j hj)).1]
              exact keepg hg (L7.ofc _ (hodl j hj)) (by omega) (by omega)
            have HG : Hid (∀ j, j < n → OF j = (gi j : Int) ∧ gi j < (firsts qf n).length ∧ gi j = (firsts qf n).idxOf (qf j)) := hgi
            clear hgi
            go_wp2_with fail
            go_loopw [7] (fun v wr => ∃ s : Nat, s ≤ n ∧ v = .int .i64 s ∧ W7.grownBy wr (some w5.heap.size) ∧ ∃ gc, Grp wr w5.heap.size n (firsts qf n).length (w2.heap.size + 1) gi od s gc) (fun v _ => n - (intOf v).toNat)
            case atStart => exact ⟨0, Nat.zero_le _, rfl, World.grownBy.refl _ _, gc, G7⟩
            case round =>
              obtain ⟨s, hs, rfl, hg, gc', G⟩ := hrel
              by_cases hsn : s < n
              · have hsn' : (s : Int) < (n : Int) := by omega
                obtain ⟨z1, z2, z3⟩ := HL.out _ hg
                obtain ⟨z4, z5⟩ := z3 s hsn
                have Z3 : Hid _ := z3
                clear z3 G7 HO7 hib7 L7 L
                go_wp2_with fail
                have hgM := (HG.out _ (hodl s hsn)).2.1
                have mono : Hid (∀ e, s < e → e < n → gi (od s) ≤ gi (od e)) := fun e h1 h2 => by
                  have a1 := (HG.out _ (hodl s hsn)).1
                  have a2 := (HG.out _ (hodl e h2)).1
                  have a3 := HOD.out s e h1 h2
                  omega
                go_loopw [8] (fun v wx => ∃ e m : Nat, s < e ∧ e ≤ n ∧ v = .int .i64 e ∧ wx = wr.drewN m ∧ Hid (∀ j, s ≤ j → j < e → gi (od j) = gi (od s))) (fun v _ => n - (intOf v).toNat)
                case atStart => exact ⟨s + 1, 0, by omega, by omega, by go_num, rfl, fun j h1 h2 => by rw [show j = s by omega]⟩
                case round =>
                  obtain ⟨e, m, hse, hen, rfl, rfl, hsame⟩ := hrel
                  by_cases hlt : e < n
                  · have hlt' : (e : Int) < (n : Int) := by omega
                    obtain ⟨z6, z7⟩ := Z3.out e hlt
                    have hdt : decide ((e : Int) < (n : Int)) = true := by simp [hlt]
                    have o1 : ((od e : Nat) : Int) < (n : Int) := by have := hodl e hlt; omega
                    have o2 : ((od s : Nat) : Int) < (n : Int) := by have := hodl s hsn; omega
                    by_cases heq : gi (od e) = gi (od s)
                    · have hbq : (((gi (od e) : Nat) : Int) == ((gi (od s) : Nat) : Int)) = true := by simp [heq]
                      have hsame' : Hid (∀ j, s ≤ j → j < e + 1 → gi (od j) = gi (od s)) := fun j h1 h2 => by
                        by_cases ej : j = e
                        · rw [ej]; exact heq
                        · exact hsame.out j h1 (by omega)
                      clear hsame heq
                      go_wp2_with fail
                      go_quiet (fail)
                      go_wp2_with fail
                      exact ⟨⟨e + 1, m + nq, by omega, by omega, by go_num, rfl, hsame'⟩, by simp [intOf]; omega⟩
                    · have hbq : (((gi (od e) : Nat) : Int) == ((gi (od s) : Nat) : Int)) = false := by rw [beq_eq_false_iff_ne]; exact fun h => heq (by omega)
                      have hst : e < n → gi (od s) < gi (od e) := fun _ => by
                        have := mono.out e hse hlt
                        omega
                      have HGN : Hid (∀ m' c, Grp ((wr.drewN m').setCell ⟨w5.heap.size, gi (od s) * 2, none⟩ (.slice (some ⟨w2.heap.size + 1, s, none⟩) (e - s) c)) w5.heap.size n (firsts qf n).length (w2.heap.size + 1) gi od e (gc'.setIfInBounds (gi (od s) * 2) (.slice (some ⟨w2.heap.size + 1, s, none⟩) (e - s) c))) := fun m' c => by
                        have h := G.next e hse hen hgM hsame.out hst c
                        exact ⟨h.hp, h.sz, h.ps, h.st, h.bd⟩
                      obtain ⟨v0, hv0⟩ : ∃ v, gc'[gi (od s) * 2]? = some v := by
                        have := G.sz
                        exact ⟨gc'[gi (od s) * 2]'(by omega), by simp [show gi (od s) * 2 < gc'.size by omega]⟩
                      have d1 := cell_of G.hp hv0
                      have d2 : wr.frozen? ⟨w5.heap.size, gi (od s) * 2, none⟩ = false := fz_of G.hp
                      have g1 : ((gi (od s) : Nat) : Int) < ((firsts qf n).length : Int) := by omega
                      have k1 : (s : Int) ≤ (e : Int) := by omega
                      have k2 : (e : Int) ≤ (n : Int) := by omega
                      have HGB : Hid (∀ m' v, W7.grownBy ((wr.drewN m').setCell ⟨w5.heap.size, gi (od s) * 2, none⟩ v) (some w5.heap.size)) := fun m' v => ⟨hg.os, hg.tape, hg.output, Nat.le_trans hg.size (by simp [World.setCell]), fun b hb hne => (Below.heap_setCell _ _ _ _ (by simpa using hne)).trans (hg.block b hb hne)⟩
                      clear heq hsame hst G
                      go_wp2_with fail
                      go_quiet (fail)
                      go_wp2_with fail
                      go_region
                      go_wp2_with fail
                      go_roundw
                      case rel => exact ⟨e, hen, rfl, HGB.out _ _, _, HGN.out _ _⟩
                      case measure => simp [intOf]; omega
                  · have hdt : decide ((e : Int) < (n : Int)) = false := by simp; omega
                    have hst : e < n → gi (od s) < gi (od e) := fun h => absurd h hlt
                    have o2 : ((od s : Nat) : Int) < (n : Int) := by have := hodl s hsn; omega
                    have HGN : Hid (∀ m' c, Grp ((wr.drewN m').setCell ⟨w5.heap.size, gi (od s) * 2, none⟩ (.slice (some ⟨w2.heap.size + 1, s, none⟩) (e - s) c)) w5.heap.size n (firsts qf n).length (w2.heap.size + 1) gi od e (gc'.setIfInBounds (gi (od s) * 2) (.slice (some ⟨w2.heap.size + 1, s, none⟩) (e - s) c))) := fun m' c => by
                      have h := G.next e hse hen hgM hsame.out hst c
                      exact ⟨h.hp, h.sz, h.ps, h.st, h.bd⟩
                    obtain ⟨v0, hv0⟩ : ∃ v, gc'[gi (od s) * 2]? = some v := by
                      have := G.sz
                      exact ⟨gc'[gi (od s) * 2]'(by omega), by simp [show gi (od s) * 2 < gc'.size by omega]⟩
                    have d1 := cell_of G.hp hv0
                    have d2 : wr.frozen? ⟨w5.heap.size, gi (od s) * 2, none⟩ = false := fz_of G.hp
                    have g1 : ((gi (od s) : Nat) : Int) < ((firsts qf n).length : Int) := by omega
                    have k1 : (s : Int) ≤ (e : Int) := by omega
                    have k2 : (e : Int) ≤ (n : Int) := by omega
                    have HGB : Hid (∀ m' v, W7.grownBy ((wr.drewN m').setCell ⟨w5.heap.size, gi (od s) * 2, none⟩ v) (some w5.heap.size)) := fun m' v => ⟨hg.os, hg.tape, hg.output, Nat.le_trans hg.size (by simp [World.setCell]), fun b hb hne => (Below.heap_setCell _ _ _ _ (by simpa using hne)).trans (hg.block b hb hne)⟩
                    clear hsame hst G
                    go_wp2_with fail
                    go_quiet (fail)
                    go_wp2_with fail
                    go_region
                    go_wp2_with fail
                    go_roundw
                    case rel => exact ⟨e, hen, rfl, HGB.out _ _, _, HGN.out _ _⟩
                    case measure => simp [intOf]; omega
              · have e : n = s := by omega
                subst e
                have hwr := hg.size
                have hsw2 := hb7.size
                have hbf : Below w.heap.size w wr := L.bel.trans ⟨hg.os.trans hb7.os, hg.tape.trans hb7.tape, hg.output.trans hb7.output, by omega, fun k hk => (hg.block k (by omega) (by simp; omega)).trans (hb7.block k (by omega))⟩
                have hI1 : wr.cell? ⟨w2.heap.size, 1, none⟩ = some (.slice (some ⟨db, 0, none⟩) (firsts qf n).length n) := keepg hg (cell_of hib7 rfl) (by omega) (by omega)
                have hIc : ∀ x, x < (firsts qf n).length * 10 → wr.cell? ⟨db, x, none⟩ = some (candV (firsts qf n) (fun q => hiOf qf hgh q n) (fun q => lvOf qf lv q n) x) := fun x hx => keepg hg (L7.cd x hx) (by omega) (by omega)
                have hI2 : w.heap.size ≤ w2.heap.size := by omega
                have hI3 : w.heap.size ≤ db := by omega
                have HI : Hid _ := And.intro hI2 (And.intro hI3 (And.intro hI1 hIc))
                clear hI1 hIc hI2 hI3
                clear L7 L G G7 hib7
                go_wp2_with fail
                go_ret
                exact ⟨_, _, rfl, hbf, HI.out⟩
end Go.Proofs.YbulkcuegFmt
