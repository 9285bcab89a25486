import Derived.Test.YbulkcuegFmtSel8
namespace Go.Proofs.YbulkcuegFmt
open Go.RowKit Go.Maps

theorem Dev.below {W W' : World} {dv sb : Nat} {md : Int} {rp : ByteArray} {n15 : Nat} {el : Nat → Fin 5} {dl hl : List Int} {n6 : Nat} {fl : Nat → Fin 5} {cov ix : Value} (h : Dev W dv sb md rp n15 el dl hl n6 fl cov ix) (hb : Below W.heap.size W W') : Dev W' dv sb md rp n15 el dl hl n6 fl cov ix := by
  obtain ⟨im, mnc, v2, v3, v6, v7, a15, k15, rb, mb, hb', hcap, nb, nn, top, hd, rk, hnb, r15, h15, htop⟩ := h
  exact ⟨im, mnc, v2, v3, v6, v7, a15, k15, rb, mb, hb', hcap, nb, nn, top, (hb.block _ (lt_of_heap hd)).trans hd, rk.keep (fun b _ h2 => hb.block b (by omega)), hnb, r15.below hb, h15, Nat.le_trans htop hb.size⟩
theorem DevR.below {W W' : World} {dv : Nat} {md : Int} {rp : ByteArray} {n15 : Nat} {el : Nat → Fin 5} (h : DevR W dv md rp n15 el) (hb : Below W.heap.size W W') : DevR W' dv md rp n15 el := by
  obtain ⟨a15, k15, h1, h2, h3, h4⟩ := h
  exact ⟨a15, k15, keepc hb h1, keepc hb h2, keepc hb h3, h4.below hb⟩

theorem filt_sum (p : Fin 50 → Bool) (Q : List (Fin 50)) : (Q.filter p).length + (Q.filter fun q => !p q).length = Q.length := by
  induction Q with
  | nil => rfl
  | cons q Q ih =>
    by_cases h : p q <;> simp [h] <;> omega
theorem rkF_cells {W : World} {b : Nat} {L : List (Fin 50)} {rl : Fin 50 → Int} (h : ∀ i, i < L.length → ∀ c, c < 6 → W.cell? ⟨b, i * 6 + c, none⟩ = (rkd (rl (L.getD i 0)) (L.getD i 0))[c]?) : ∀ j u, (rkF rl L)[j]? = some u → W.cell? ⟨b, j, none⟩ = some u := fun j u hu => by
  have hl := (List.getElem?_eq_some_iff.1 hu).1
  rw [rkF_len] at hl
  have e : j = j / 6 * 6 + j % 6 := by omega
  have h1 := h (j / 6) (by omega) (j % 6) (by omega)
  rw [← rkF_get rl L (j / 6) (j % 6) (by omega) (by omega), ← e, hu] at h1
  exact h1
theorem selL0 (Q : List (Fin 50)) (p : Fin 5) : selL Q p 0 = Q.filter (fun q => decide (nt q = p)) ++ Q.filter (fun q => !decide (nt q = p)) := rfl
theorem selIn {W : World} {B rb rcap m : Nat} {Q : List (Fin 50)} {rl : Fin 50 → Int} {rpd : Fin 5} {el : Nat → Fin 5} {n15 : Nat} {v1 v2 : Value} {SS : Prop} {rule : Int} (hQ : ∀ i, i < Q.length → ∀ c, c < 6 → W.cell? ⟨rb, i * 6 + c, none⟩ = (rkd (rl (Q.getD i 0)) (Q.getD i 0))[c]?)
    (hcase : (∃ i, i < 1 + n15 ∧ (∀ j, j < i → ∀ q ∈ Q, nt q ≠ Pl rpd el j) ∧ (∃ q, q ∈ Q ∧ nt q = Pl rpd el i) ∧ RkOwn W B v1 (Q.filter fun q => decide (nt q = Pl rpd el i)) (fun _ => if i = 0 then 6 else 7) ∧ RkOwn W B v2 (Q.filter fun q => !decide (nt q = Pl rpd el i)) rl) ∨
    ((∀ j, j < 1 + n15 → ∀ q ∈ Q, nt q ≠ Pl rpd el j) ∧ v1 = .slice none 0 0 ∧ v2 = .slice (some ⟨rb, 0, none⟩) m rcap)) (hm : m = Q.length) (hr : (SS ∧ rule = 14) ∨ (¬ SS ∧ rule = 13)) :
    ∃ L rl', L.length = Q.length ∧ AppIn W B v1 v2 L rl' ∧ ∀ w' vc, RkSl w' vc L rl' → SelP w' Q rl rpd el n15 0 SS vc rule := by
  subst hm
  rcases hcase with ⟨i, h1, h2, h3, o1, o2⟩ | ⟨h1, rfl, rfl⟩
  · refine ⟨selL Q (Pl rpd el i) 0, fun q => if nt q = Pl rpd el i then (if i = 0 then 6 else 7) else rl q, ?_, ?_, fun w' vc hs => ⟨.inl ⟨i, h1, h2, h3, hs⟩, .inr ⟨by decide, hr⟩⟩⟩
    · unfold selL
      rw [if_neg (by decide), List.length_append]
      exact filt_sum (fun q => decide (nt q = Pl rpd el i)) Q
    · have e1 : rkF (fun q => if nt q = Pl rpd el i then (if i = 0 then 6 else 7) else rl q) (selL Q (Pl rpd el i) 0) = rkF (fun _ => if i = 0 then 6 else 7) (Q.filter fun q => decide (nt q = Pl rpd el i)) ++ rkF rl (Q.filter fun q => !decide (nt q = Pl rpd el i)) := by
        rw [selL0, rkF_app]
        congr 1
        · refine rkF_congr fun q hq => ?_
          rw [List.mem_filter] at hq
          have : nt q = Pl rpd el i := by simpa using hq.2
          simp [this]
        · refine rkF_congr fun q hq => ?_
          rw [List.mem_filter] at hq
          have : ¬ nt q = Pl rpd el i := by simpa using hq.2
          simp [this]
      refine ⟨_, _, (Q.filter fun q => !decide (nt q = Pl rpd el i)).length, _, o1, e1.symm, ?_, ?_⟩
      · unfold selL
        rw [if_neg (by decide), List.length_append]
      · rcases o2.2 with ⟨h5, h6⟩ | ⟨g, c, cu, h5, _, hh, hnc, _, hcs, ht⟩
        · refine .inl ⟨h5, h6, ?_⟩
          rw [List.eq_nil_of_length_eq_zero h6]
          rfl
        · refine .inr ⟨g, c, h5, rkF_len _ _, fun j u hu => cell_of hh ?_, rkF_one _ _⟩
          have hl := (List.getElem?_eq_some_iff.1 hu).1
          rw [rkF_len] at hl
          rw [← ht, List.getElem?_take, if_pos hl] at hu
          simpa using hu
  · exact ⟨Q, rl, rfl, ⟨0, [], Q.length, rkF rl Q, ⟨rfl, .inl ⟨rfl, rfl⟩⟩, rfl, by omega, .inr ⟨rb, rcap, rfl, rkF_len _ _, rkF_cells hQ, rkF_one _ _⟩⟩, fun w' vc hs => ⟨.inr ⟨h1, by rw [if_neg (by decide)]; exact hs⟩, .inr ⟨by decide, hr⟩⟩⟩

set_option maxRecDepth 1000000 in
set_option maxHeartbeats 2000000 in
theorem select_any (dv sb : Nat) (md : Int) (rpd : Fin 5) (n15 : Nat) (el : Nat → Fin 5) (dl hl : List Int) (n6 : Nat) (fl : Nat → Fin 5) (cb n : Nat) (qf : Nat → Fin 50) (lv cd : Nat → Int) (hgh kn : Nat → Bool) (w : World) (va : Option Addr) (nv vcap : Nat) (vals : Nat → Int) (kk : Nat)
    (hn : n ≤ 400) (hn15 : n15 ≤ 300) (hmd : md = 0 ∨ md = 1) (D : Dev w dv sb md (dig rpd.val) n15 el dl hl n6 fl (.slice (some ⟨cb, 0, none⟩) n n) (.pointer none)) (hc : cb < w.heap.size) (S : Scan w cb n qf lv cd hgh kn) (hsd : sb < dv) (X : Src w sb va nv vcap vals kk) (hX : kk ≤ 1000 ∧ nv ≤ 1000 ∧ ∀ b o, va = some ⟨b, o, none⟩ → b < w.heap.size ∧ b ≠ dv) :
    Calls Ybaf.prog 7 #[.pointer (some ⟨dv, 0, none⟩)] w fun e w' => ∃ vc rule, e = .returned (.tuple #[vc, .agg #[.int .u8 rule, .int .u8 0, .int .i64 0]]) ∧ Gr2 w w' dv sb ∧ ∃ D', OrdOk (fun q => hiOf qf hgh q n) ((firsts qf n).filter (elig dl (fN n6 fl))) dl hl (fun q => lvOf qf lv q n) D' ∧ SelP w' (Qof ((firsts qf n).filter (elig dl (fN n6 fl))) D') (fun q => ruleOf (clsOf (fun q => hiOf qf hgh q n) q)) rpd el n15 md (∃ q, q ∈ firsts qf n ∧ aside dl (fN n6 fl) q) vc rule := by
  have hdl : dv < w.heap.size := by obtain ⟨im, mnc, v2, v3, v6, v7, a15, k15, rb, mb, hb', hcap, nb, nn, top, hd, _⟩ := D; exact lt_of_heap hd
  have b0 := bal (o := .cells #[.int .u8 0, .int .u8 0, .int .i64 0] 64) (Below.refl _ w)
  have hz := (MapKept.heap_alloc w (.cells #[.int .u8 0, .int .u8 0, .int .i64 0] 64)).1
  have hsz : (w.alloc (.cells #[.int .u8 0, .int .u8 0, .int .i64 0] 64)).heap.size = w.heap.size + 1 := by simp
  have hrk := devRank_any dv sb md (dig rpd.val) n15 el dl hl n6 fl cb n qf lv cd hgh kn (w.alloc (.cells #[.int .u8 0, .int .u8 0, .int .i64 0] 64)) va nv vcap vals kk hn (D.below b0) (Nat.lt_of_lt_of_le hc b0.size) (S.of_block (b0.block _ hc)) hsd (X.below b0) ⟨hX.1, hX.2.1, fun b o e => ⟨Nat.lt_of_lt_of_le (hX.2.2 b o e).1 b0.size, (hX.2.2 b o e).2⟩⟩
  have hE : ((firsts qf n).filter (elig dl (fN n6 fl))).length ≤ 50 := Nat.le_trans (List.length_filter_le _ _) (nodup50 _ (firsts_nodup qf n))
  generalize (firsts qf n).filter (elig dl (fN n6 fl)) = E at hrk hE ⊢
  generalize (∃ q, q ∈ firsts qf n ∧ aside dl (fN n6 fl) q) = SS at hrk ⊢
  generalize (fun q => hiOf qf hgh q n) = hi at hrk ⊢
  generalize (fun q => lvOf qf lv q n) = lo at hrk ⊢
  have HB0 : Hid _ := And.intro b0 hz
  clear D S X hX b0 hz hc
  go_enter Ybaf.func7, Ybaf.ntmps7
  go_upto_region 1 with fail
  obtain ⟨N0, hN0⟩ : ∃ N0, N0 = w.heap.size := ⟨_, rfl⟩
  rw [← hN0] at hdl hsz HB0 ⊢
  have HN0 : Hid _ := hN0
  clear hN0
  generalize w.alloc (.cells #[.int .u8 0, .int .u8 0, .int .i64 0] 64) = W0 at hrk hsz HB0 ⊢
  go_wp2_with fail
  refine hrk.mono ?_
  rintro e W1 ⟨vr, vs, rfl, RP, DR⟩
  obtain ⟨hg1, ⟨tp, hAs⟩, D', hO, rb, rcap, rfl, hrb, hrl, hrc⟩ := RP
  obtain ⟨sa, sn, sc, rfl⟩ := hAs.shape
  have hQ : ∀ i, i < (Qof E D').length → ∀ c, c < 6 → W1.cell? ⟨rb, i * 6 + c, none⟩ = (rkd (ruleOf (clsOf hi ((Qof E D').getD i 0))) ((Qof E D').getD i 0))[c]? := fun i hi' c hc' => by
    rw [Qof_len] at hi'
    rw [hrc i hi' c hc', rk6_rkd _ _ _ _ hc', Qof_get hi']
  have hs1 := hg1.size
  have hz1 : W1.heap[N0]? = some (.cells #[.int .u8 0, .int .u8 0, .int .i64 0] 64 (0, 0)) := (hg1.block N0 (by omega) (by omega) (by omega)).trans HB0.out.2
  have b2 := bal (o := .cells #[.slice (some ⟨rb, 0, none⟩) E.length rcap, .slice sa sn sc] 90) (Below.refl _ W1)
  have hy := (MapKept.heap_alloc W1 (.cells #[.slice (some ⟨rb, 0, none⟩) E.length rcap, .slice sa sn sc] 90)).1
  have hQ2 : ∀ i, i < (Qof E D').length → ∀ c, c < 6 → (W1.alloc (.cells #[.slice (some ⟨rb, 0, none⟩) E.length rcap, .slice sa sn sc] 90)).cell? ⟨rb, i * 6 + c, none⟩ = (rkd (ruleOf (clsOf hi ((Qof E D').getD i 0))) ((Qof E D').getD i 0))[c]? := fun i hi' c hc' => by
    have h := hQ i hi' c hc'
    have h9 : c < (rkd (ruleOf (clsOf hi ((Qof E D').getD i 0))) ((Qof E D').getD i 0)).length := hc'
    rw [List.getElem?_eq_getElem h9] at h ⊢
    exact cell_alloc h
  have hrg := reg_any dv md rpd n15 el rb rcap (Qof E D') (fun q => ruleOf (clsOf hi q)) _ hn15 (by rw [Qof_len]; exact hE) (DR.below b2) hQ2
  rw [Qof_len] at hrg
  have HA : Hid _ := And.intro hg1 (And.intro (hAs.keep (fun b _ _ ⟨u, hu⟩ => b2.block b (lt_of_cell hu))) (And.intro hO (And.intro (DR.below b2) (And.intro hz1 (And.intro b2 hQ2)))))
  clear hg1 hAs hO DR hQ hQ2 hz1 b2 hrc hrk
  go_upto_region 2 with fail
  generalize W1.alloc (.cells #[.slice (some ⟨rb, 0, none⟩) E.length rcap, .slice sa sn sc] 90) = W2 at hrg hy HA ⊢
  obtain ⟨y, hyy⟩ : ∃ y, y = W1.heap.size := ⟨_, rfl⟩
  rw [← hyy] at hy ⊢
  have y0 : W2.cell? ⟨y, 0, none⟩ = some (.slice (some ⟨rb, 0, none⟩) E.length rcap) := cell_of hy rfl
  have hylt := lt_of_heap hy
  have HY : Hid _ := And.intro hyy hy
  clear hyy hy
  go_wp2_with fail
  refine hrg.mono ?_
  rintro e W3 ⟨v1, v2, rfl, hb3, hcase⟩
  obtain ⟨hg1, hAs, hO, DR, hz1, b2, hQ2⟩ := HA.out
  have DR3 := DR.below hb3
  obtain ⟨a15, k15, m9, _, _, _⟩ := DR3
  have hs2 := b2.size
  have hs3 := hb3.size
  have y31 : W3.cell? ⟨y, 1, none⟩ = some (.slice sa sn sc) := keepc hb3 (cell_of HY.out.2 rfl)
  have hN1 : N0 < W1.heap.size := lt_of_heap hz1
  have hz3 : W3.heap[N0]? = some (.cells #[.int .u8 0, .int .u8 0, .int .i64 0] 64 (0, 0)) := (hb3.block N0 (by omega)).trans ((b2.block N0 hN1).trans hz1)
  have n0 : W3.cell? ⟨N0, 0, none⟩ = some (.int .u8 0) := cell_of hz3 rfl
  have n1 : W3.cell? ⟨N0, 1, none⟩ = some (.int .u8 0) := cell_of hz3 rfl
  have n2 : W3.cell? ⟨N0, 2, none⟩ = some (.int .i64 0) := cell_of hz3 rfl
  have f0 : W3.frozen? ⟨N0, 0, none⟩ = false := fz_of hz3
  have f1 : W3.frozen? ⟨N0, 1, none⟩ = false := fz_of hz3
  have f2 : W3.frozen? ⟨N0, 2, none⟩ = false := fz_of hz3
  have As3 : AsRow W3 W0.heap.size tp (.slice sa sn sc) SS := hAs.keep (fun b _ _ ⟨u, hu⟩ => hb3.block b (lt_of_cell hu))
  have HG3 : Hid (Gr2 w W3 dv sb ∧ W0.heap.size ≤ W2.heap.size) := by
    obtain ⟨b0, _⟩ := HB0.out
    have hw0 := HN0.out
    refine ⟨⟨hb3.os.trans (b2.os.trans (hg1.os.trans b0.os)), hb3.tape.trans (b2.tape.trans (hg1.tape.trans b0.tape)), hb3.output.trans (b2.output.trans (hg1.output.trans b0.output)), by have := hg1.size; have := b0.size; omega, fun k hk h1 h2 => ?_⟩, by have := hg1.size; omega⟩
    have := hg1.size
    rw [hb3.block k (by omega), b2.block k (by omega), hg1.block k (by omega) h1 h2, b0.block k (by omega)]
  have hQ3 : ∀ i, i < (Qof E D').length → ∀ c, c < 6 → W3.cell? ⟨rb, i * 6 + c, none⟩ = (rkd (ruleOf (clsOf hi ((Qof E D').getD i 0))) ((Qof E D').getD i 0))[c]? := fun i hi' c hc' => by
    have h := hQ2 i hi' c hc'
    have h9 : c < (rkd (ruleOf (clsOf hi ((Qof E D').getD i 0))) ((Qof E D').getD i 0)).length := hc'
    rw [List.getElem?_eq_getElem h9] at h ⊢
    exact keepc hb3 h
  have HP : Hid _ := And.intro hz3 (And.intro As3 (And.intro hO (And.intro hcase (And.intro hQ3 hrb))))
  clear hg1 hAs hO DR b2 hQ2 hQ3 hz1 hb3 As3 hz3 hcase HA y0 hrg
  obtain ⟨fa, fl', fc, rfl⟩ : ∃ a l c, v1 = .slice a l c := by
    rcases HP.out.2.2.2.1 with ⟨i, _, _, _, o1, _⟩ | ⟨_, h1, _⟩
    · obtain ⟨a, c, e⟩ := own_shape o1
      exact ⟨_, _, _, e⟩
    · exact ⟨_, _, _, h1⟩
  rcases hmd with rfl | rfl
  · have hz4 := heap_set (k := 0) (.int .u8 13) HP.out.1
    have B4 : ∀ b, b ≠ N0 → (W3.setCell ⟨N0, 0, none⟩ (.int .u8 13)).heap[b]? = W3.heap[b]? := fun b hb => Below.heap_setCell _ _ _ _ hb
    have As4 : AsRow (W3.setCell ⟨N0, 0, none⟩ (.int .u8 13)) W0.heap.size tp (.slice sa sn sc) SS := HP.out.2.1.keep (fun b h1 _ _ => B4 b (by omega))
    have y14 : (W3.setCell ⟨N0, 0, none⟩ (.int .u8 13)).cell? ⟨y, 1, none⟩ = some (.slice sa sn sc) := cell_set y31 (by show y ≠ N0; have := HY.out.1; omega)
    obtain ⟨va', n', cap', b', ds, ac, ys, hsl, hn', hva', hcs, hSS⟩ := As4
    injection hsl with h1 h2 h3
    subst h1 h2 h3
    have hcn := containsAside_any sa b' sn sc ds ac ys (W3.setCell ⟨N0, 0, none⟩ (.int .u8 13)) (by omega) (fun h => (hva' h).1) hcs
    have HC : Hid _ := And.intro hSS hz4
    have HB4 : Hid _ := B4
    have HW4 : Hid ((W3.setCell ⟨N0, 0, none⟩ (.int .u8 13)).heap.size = W3.heap.size) := (by simp [World.setCell] : (W3.setCell ⟨N0, 0, none⟩ (.int .u8 13)).heap.size = W3.heap.size)
    have HG4 : Hid (W3.grownBy (W3.setCell ⟨N0, 0, none⟩ (.int .u8 13)) (some N0)) := gr1 _ (World.grownBy.refl _ _)
    clear hva' hcs hSS hz4 B4
    go_upto_region 6 with fail
    generalize W3.setCell ⟨N0, 0, none⟩ (.int .u8 13) = W4 at y14 hcn HC HB4 HW4 HG4 ⊢
    go_wp2_with fail
    refine hcn.mono ?_
    rintro e W5 ⟨t, rfl, ht, hb5⟩
    have kp : ∀ b, b < W3.heap.size → b ≠ N0 → W5.heap[b]? = W3.heap[b]? := fun b hb hne => (hb5.block b (by rw [HW4.out]; exact hb)).trans (HB4.out b hne)
    have hs5 : W2.heap.size ≤ W5.heap.size := by have := hb5.size; have := HW4.out; omega
    have hz5 : W5.heap[N0]? = some (.cells #[.int .u8 13, .int .u8 0, .int .i64 0] 64 (0, 0)) := (hb5.block N0 (by have := HW4.out; omega)).trans HC.out.2
    have GW5 : Gr2 w W5 dv sb := ⟨hb5.os.trans (HG4.out.os.trans HG3.out.1.os), hb5.tape.trans (HG4.out.tape.trans HG3.out.1.tape), hb5.output.trans (HG4.out.output.trans HG3.out.1.output), by have := hb5.size; have := HW4.out; have := HG3.out.1.size; omega, fun k hk h1 h2 => (kp k (by have := HG3.out.1.size; omega) (by have := HN0.out; omega)).trans (HG3.out.1.block k hk h1 h2)⟩
    have n5 : W5.cell? ⟨N0, 0, none⟩ = some (.int .u8 13) := cell_of hz5 rfl
    have f5 : W5.frozen? ⟨N0, 0, none⟩ = false := fz_of hz5
    obtain ⟨ga, gl, gc, rfl⟩ : ∃ a l c, v2 = .slice a l c := by
      rcases HP.out.2.2.2.1 with ⟨i, _, _, _, _, o2⟩ | ⟨_, _, h1⟩
      · obtain ⟨a, c, e⟩ := own_shape o2
        exact ⟨_, _, _, e⟩
      · exact ⟨_, _, _, h1⟩
    have hvN : ∀ b c m, Value.slice ga gl gc = .slice (some ⟨b, 0, none⟩) m c → b ≠ N0 := by
      intro b c m e
      rcases HP.out.2.2.2.1 with ⟨i, _, _, _, _, o2⟩ | ⟨_, _, h1⟩
      · rcases o2.2 with ⟨h5, _⟩ | ⟨g, c', cu, h5, h6, _⟩
        · rw [e] at h5; cases h5
        · rw [e] at h5
          injection h5 with h5 _ _
          injection h5 with h5
          injection h5 with h5 _ _
          omega
      · rw [e] at h1
        injection h1 with h1 _ _
        injection h1 with h1
        injection h1 with h1 _ _
        have := HP.out.2.2.2.2.2
        omega
    clear hb5 hcn
    cases t
    · obtain ⟨L, rl', hLl, hA, hS'⟩ := selIn (SS := SS) (rule := 13) HP.out.2.2.2.2.1 HP.out.2.2.2.1 (Qof_len E D').symm (.inr ⟨fun h => absurd (ht.2 (HC.out.1.2 h)) (by simp), rfl⟩)
      have hSel : Hid _ := hS'
      have hL50 : L.length ≤ 50 := by rw [hLl, Qof_len]; exact hE
      have HK : Hid (w.heap.size ≤ N0 ∧ W5.heap[N0]? = some (.cells #[.int .u8 13, .int .u8 0, .int .i64 0] 64 (0, 0)) ∧ Gr2 w W5 dv sb ∧ AppIn W5 W2.heap.size (.slice fa fl' fc) (.slice ga gl gc) L rl' ∧ N0 < W2.heap.size ∧ W2.heap.size ≤ W5.heap.size) :=
        ⟨by have := HN0.out; omega, hz5, GW5, hA.keep (N := N0) (by omega) (fun b hb hne => kp b hb hne) hvN, by omega, hs5⟩
      clear hA hS' hLl hz5 kp GW5 hs5
      go_upto_region 8 with fail
      skip
      refine KS8 dv sb N0 rpd n15 el dl hl hi lo E SS w _ _ _ _ _ _ _ _ _ _ _ _ _ _ _ _ _ _ _ _ _ _ _ _ _ _ _ _ _ _ _ D' fa fl' fc ga gl gc 13 W2.heap.size L rl' _ ?_ HK.out.1 HK.out.2.1 HK.out.2.2.1 HK.out.2.2.2.1 HK.out.2.2.2.2.1 HK.out.2.2.2.2.2 HP.out.2.2.1 hSel hL50
      assumption
    · obtain ⟨L, rl', hLl, hA, hS'⟩ := selIn (SS := SS) (rule := 14) HP.out.2.2.2.2.1 HP.out.2.2.2.1 (Qof_len E D').symm (.inl ⟨HC.out.1.1 (ht.1 rfl), rfl⟩)
      have hSel : Hid _ := hS'
      have hL50 : L.length ≤ 50 := by rw [hLl, Qof_len]; exact hE
      have HK : Hid (w.heap.size ≤ N0 ∧ (W5.setCell ⟨N0, 0, none⟩ (.int .u8 14)).heap[N0]? = some (.cells #[.int .u8 14, .int .u8 0, .int .i64 0] 64 (0, 0)) ∧ Gr2 w (W5.setCell ⟨N0, 0, none⟩ (.int .u8 14)) dv sb ∧ AppIn (W5.setCell ⟨N0, 0, none⟩ (.int .u8 14)) W2.heap.size (.slice fa fl' fc) (.slice ga gl gc) L rl' ∧ N0 < W2.heap.size ∧ W2.heap.size ≤ (W5.setCell ⟨N0, 0, none⟩ (.int .u8 14)).heap.size) :=
        ⟨by have := HN0.out; omega, heap_set (k := 0) (.int .u8 14) hz5, GW5.new (c := N0) (gr1 _ (World.grownBy.refl _ _)) (by have := HN0.out; omega), hA.keep (N := N0) (by omega) (fun b hb hne => (Below.heap_setCell _ _ _ _ hne).trans (kp b hb hne)) hvN, by omega, by simpa [World.setCell] using hs5⟩
      clear hA hS' hLl hz5 kp GW5 hs5 hvN ht HC HB4 HW4 HG4 m9 n0 n1 n2 f0 f1 f2 y31 y14
      go_upto_region 8 with fail
      generalize W5.setCell ⟨N0, 0, none⟩ (.int .u8 14) = W6 at HK ⊢
      refine KS8 dv sb N0 rpd n15 el dl hl hi lo E SS w _ _ _ _ _ _ _ _ _ _ _ _ _ _ _ _ _ _ _ _ _ _ _ _ _ _ _ _ _ _ _ D' fa fl' fc ga gl gc 14 W2.heap.size L rl' _ ?_ HK.out.1 HK.out.2.1 HK.out.2.2.1 HK.out.2.2.2.1 HK.out.2.2.2.2.1 HK.out.2.2.2.2.2 HP.out.2.2.1 hSel hL50
      assumption
  · have HF : Hid (Gr2 w (((W3.setCell ⟨N0, 0, none⟩ (.int .u8 15)).setCell ⟨N0, 1, none⟩ (.int .u8 0)).setCell ⟨N0, 2, none⟩ (.int .i64 0)) dv sb ∧ SelP (((W3.setCell ⟨N0, 0, none⟩ (.int .u8 15)).setCell ⟨N0, 1, none⟩ (.int .u8 0)).setCell ⟨N0, 2, none⟩ (.int .i64 0)) (Qof E D') (fun q => ruleOf (clsOf hi q)) rpd el n15 1 SS (.slice fa fl' fc) 15) := by
      have hw0 := HN0.out
      refine ⟨HG3.out.1.new (c := N0) (gr1 _ (gr1 _ (gr1 _ (World.grownBy.refl _ _)))) (by omega), ?_, .inl ⟨rfl, rfl⟩⟩
      have ne : ∀ b, b ≠ N0 → (((W3.setCell ⟨N0, 0, none⟩ (.int .u8 15)).setCell ⟨N0, 1, none⟩ (.int .u8 0)).setCell ⟨N0, 2, none⟩ (.int .i64 0)).heap[b]? = W3.heap[b]? := fun b hb => (Below.heap_setCell _ _ _ _ hb).trans ((Below.heap_setCell _ _ _ _ hb).trans (Below.heap_setCell _ _ _ _ hb))
      rcases HP.out.2.2.2.1 with ⟨i, h1, h2, h3, o1, _⟩ | ⟨h1, h2, _⟩
      · refine .inl ⟨i, h1, h2, h3, ?_⟩
        have o1' : RkOwn _ _ _ _ _ := owns_keep o1 (fun b hb _ => ne b (by omega))
        exact (RkOwn.congr o1' (fun q hq => by
          rw [List.mem_filter] at hq
          have : nt q = Pl rpd el i := by simpa using hq.2
          simp [this])).sl
      · refine .inr ⟨h1, ?_⟩
        rw [h2, if_pos rfl]
        exact ⟨none, 0, 0, rfl, fun h => absurd h (by simp), fun _ => rfl, fun a e => (by cases e), fun i hi => absurd hi (by simp)⟩
    have HO : Hid _ := HP.out.2.2.1
    have hz9 := heap_set (k := 2) (.int .i64 0) (heap_set (k := 1) (.int .u8 0) (heap_set (k := 0) (.int .u8 15) HP.out.1))
    have u0 : (((W3.setCell ⟨N0, 0, none⟩ (.int .u8 15)).setCell ⟨N0, 1, none⟩ (.int .u8 0)).setCell ⟨N0, 2, none⟩ (.int .i64 0)).cell? ⟨N0, 0, none⟩ = some (.int .u8 15) := cell_of hz9 rfl
    have u1 : (((W3.setCell ⟨N0, 0, none⟩ (.int .u8 15)).setCell ⟨N0, 1, none⟩ (.int .u8 0)).setCell ⟨N0, 2, none⟩ (.int .i64 0)).cell? ⟨N0, 1, none⟩ = some (.int .u8 0) := cell_of hz9 rfl
    have u2 : (((W3.setCell ⟨N0, 0, none⟩ (.int .u8 15)).setCell ⟨N0, 1, none⟩ (.int .u8 0)).setCell ⟨N0, 2, none⟩ (.int .i64 0)).cell? ⟨N0, 2, none⟩ = some (.int .i64 0) := cell_of hz9 rfl
    clear hz9 HP
    go_wp2_with fail
    generalize ((W3.setCell ⟨N0, 0, none⟩ (.int .u8 15)).setCell ⟨N0, 1, none⟩ (.int .u8 0)).setCell ⟨N0, 2, none⟩ (.int .i64 0) = W9 at u0 u1 u2 HF ⊢
    exact bodyPost_ret (v := .tuple #[.slice fa fl' fc, .agg #[.int .u8 15, .int .u8 0, .int .i64 0]]) (by simp [results, Ybaf.results7, go_sem, u0, u1, u2]) rfl ⟨_, _, rfl, HF.out.1, D', HO.out, HF.out.2⟩
end Go.Proofs.YbulkcuegFmt
