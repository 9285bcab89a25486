import Derived.Test.YbulkcuegFmtDevRank
namespace Go.Proofs.YbulkcuegFmt
open Go.RowKit Go.Maps

theorem Gr2.of_grown {W W' : World} {b1 b2 : Nat} (g : W.grownBy W' (some b1)) : Gr2 W W' b1 b2 := ⟨g.os, g.tape, g.output, g.size, fun k hk h1 _ => g.block k hk (by simpa using h1)⟩

theorem RankP.shape1 {w w' : World} {db sb : Nat} {E : List (Fin 50)} {S : Prop} {hi : Fin 50 → Bool} {dl hl : List Int} {lo : Fin 50 → Int} {vr vs : Value} (h : RankP w w' db sb E S hi dl hl lo vr vs) : ∃ a n c, vr = .slice a n c := by
  obtain ⟨_, _, D, _, b, cap, h1, _⟩ := h
  exact ⟨_, _, _, h1⟩
theorem RankP.shape2 {w w' : World} {db sb : Nat} {E : List (Fin 50)} {S : Prop} {hi : Fin 50 → Bool} {dl hl : List Int} {lo : Fin 50 → Int} {vr vs : Value} (h : RankP w w' db sb E S hi dl hl lo vr vs) : ∃ a n c, vs = .slice a n c := by
  obtain ⟨_, ⟨top, h⟩, _⟩ := h
  exact h.shape
/-- rank, called -/
theorem devRank_call {w W0 w1 w2 : World} {N0 dv sb rb mb hb hcap nn top n6 gc cc nv vcap kk n : Nat} {a15 : Option Addr} {n15 k15 : Nat} {el fl : Nat → Fin 5} {nb : Fin 5 → Option Nat} {dl hl : List Int} {va : Option Addr} {vals : Nat → Int} {qf : Nat → Fin 50} {hi : Fin 50 → Bool} {lo : Fin 50 → Int}
    (HA : Rk w (dv + 1) top rb mb hb hcap nb nn dl hl ∧ (∀ d, nb d ≠ none ↔ ∃ i, i < n6 ∧ fl i = d) ∧ RowB w 0 (.slice a15 n15 k15) n15 (fun i => .string (dig (el i).val)) ∧ (∀ b o, a15 = some ⟨b, o, none⟩ → b < dv ∧ b ≠ sb) ∧ Src w sb va nv vcap vals kk ∧ (kk ≤ 1000 ∧ nv ≤ 1000 ∧ ∀ b o, va = some ⟨b, o, none⟩ → b < N0 ∧ b ≠ dv) ∧ Below N0 w W0 ∧ W0.heap[N0]? = some (.cells #[.slice none 0 0, .slice none 0 0] 90 (0, 0)))
    (hN0 : N0 = w.heap.size) (hg1 : W0.drew.grownBy w1 (some dv)) (hb2 : Below w1.heap.size w1 w2) (hgc : w1.heap.size ≤ gc) (C0 : Cnd w2 gc cc (firsts qf n) (fun q => news q (hi q) (lo q))) (hdl : dv < N0) (hsd : sb < dv) (hsz : W0.heap.size = N0 + 1) (htop : top ≤ N0) :
    Calls Ybaf.prog 27 #[.pointer (some ⟨rb, 0, none⟩), .slice (some ⟨gc, 0, none⟩) (firsts qf n).length cc, .iface 49 (.pointer (some ⟨sb, 0, none⟩)), .bool false] w2 fun e w' => ∃ vr vs, e = .returned (.agg #[vr, vs]) ∧ RankP w2 w' gc sb ((firsts qf n).filter (elig dl (fN n6 fl))) (∃ q, q ∈ firsts qf n ∧ aside dl (fN n6 fl) q) hi dl hl lo vr vs := by
  obtain ⟨rk, hnb, _, _, X, hX, b0, _⟩ := HA
  subst hN0
  have hnd := firsts_nodup qf n
  have hs1 : W0.heap.size ≤ w1.heap.size := hg1.size
  have hs2 := hb2.size
  have blk : ∀ b, b < w.heap.size → b ≠ dv → w2.heap[b]? = w.heap[b]? := fun b h1 h2 => (hb2.block b (by omega)).trans ((hg1.block b (by show b < W0.heap.size; omega) (by simpa using h2)).trans (b0.block b h1))
  have rk2 := rk.keep (W' := w2) (fun b h1 h2 => blk b (by omega) (by omega))
  have X2 : Src w2 sb va nv vcap vals kk := ⟨(blk _ (by omega) (by omega)).trans X.hp, fun j hj => by
    obtain ⟨b, o, h1, h2, h3⟩ := X.v j hj
    exact ⟨b, o, h1, h2, (World.cell?_of_block (w := w) (a := ⟨b, o + j, none⟩) (blk b (hX.2.2 b o h1).1 (hX.2.2 b o h1).2)).trans h3⟩, X.rg⟩
  rw [← elig_congr hnb, ← aside_congr hnb]
  exact rank_any rb gc cc sb (firsts qf n) dl hl hi lo w2 (dv + 1) top mb hb hcap nb nn va nv vcap vals kk (nodup50 _ hnd) hnd C0 (by omega) (by omega) rk2 ⟨by omega, fun b h1 h2 => by omega⟩ X2 ⟨hX.1, hX.2.1, fun b o e => ⟨by have := (hX.2.2 b o e).1; omega, by have := (hX.2.2 b o e).1; omega⟩⟩

theorem devRank_res {w W0 w1 w2 w3 : World} {N0 dv sb rb mb hb hcap nn top n6 gc nv vcap kk : Nat} {a15 : Option Addr} {n15 k15 : Nat} {el fl : Nat → Fin 5} {nb : Fin 5 → Option Nat} {dl hl : List Int} {va : Option Addr} {vals : Nat → Int} {hi : Fin 50 → Bool} {lo : Fin 50 → Int} {E : List (Fin 50)} {S : Prop} {vr vs : Value}
    (HA : Rk w (dv + 1) top rb mb hb hcap nb nn dl hl ∧ (∀ d, nb d ≠ none ↔ ∃ i, i < n6 ∧ fl i = d) ∧ RowB w 0 (.slice a15 n15 k15) n15 (fun i => .string (dig (el i).val)) ∧ (∀ b o, a15 = some ⟨b, o, none⟩ → b < dv ∧ b ≠ sb) ∧ Src w sb va nv vcap vals kk ∧ (kk ≤ 1000 ∧ nv ≤ 1000 ∧ ∀ b o, va = some ⟨b, o, none⟩ → b < N0 ∧ b ≠ dv) ∧ Below N0 w W0 ∧ W0.heap[N0]? = some (.cells #[.slice none 0 0, .slice none 0 0] 90 (0, 0)))
    (hg1 : W0.drew.grownBy w1 (some dv)) (hb2 : Below w1.heap.size w1 w2) (hgc : w1.heap.size ≤ gc) (hdl : dv < N0) (hsd : sb < dv) (hsz : W0.heap.size = N0 + 1) (RP : RankP w2 w3 gc sb E S hi dl hl lo vr vs) : w3.heap[N0]? = some (.cells #[.slice none 0 0, .slice none 0 0] 90 (0, 0)) := by
  obtain ⟨_, _, _, _, _, _, _, hz⟩ := HA
  have hs1 : W0.heap.size ≤ w1.heap.size := hg1.size
  have hs2 := hb2.size
  rw [RP.1.block N0 (by omega) (by omega) (by omega), hb2.block N0 (by omega), hg1.block N0 (by show N0 < W0.heap.size; omega) (by simp; omega)]
  exact hz

theorem AsRow.mono {W : World} {base base' top : Nat} {v : Value} {S : Prop} (h : AsRow W base top v S) (hb : base' ≤ base) : AsRow W base' top v S := by
  obtain ⟨va, n, cap, b, ds, ac, ys, h1, h2, h3, h4, h5⟩ := h
  exact ⟨va, n, cap, b, ds, ac, ys, h1, h2, fun h0 => ⟨(h3 h0).1, Nat.le_trans hb (h3 h0).2.1, (h3 h0).2.2⟩, h4, h5⟩
theorem devRank_fin {w W0 w1 w2 w3 : World} {N0 dv sb rb mb hb hcap nn top n6 gc nv vcap kk ib : Nat} {a15 : Option Addr} {n15 k15 : Nat} {el fl : Nat → Fin 5} {nb : Fin 5 → Option Nat} {dl hl : List Int} {va : Option Addr} {vals : Nat → Int} {hi : Fin 50 → Bool} {lo : Fin 50 → Int} {E : List (Fin 50)} {S : Prop} {vr vs : Value} {im : ByteArray} {mnc : Int} {v2 v3 v6 v7 : Value} {md : Int} {rp : ByteArray} {cov : Value}
    (HA : Rk w (dv + 1) top rb mb hb hcap nb nn dl hl ∧ (∀ d, nb d ≠ none ↔ ∃ i, i < n6 ∧ fl i = d) ∧ RowB w 0 (.slice a15 n15 k15) n15 (fun i => .string (dig (el i).val)) ∧ (∀ b o, a15 = some ⟨b, o, none⟩ → b < dv ∧ b ≠ sb) ∧ Src w sb va nv vcap vals kk ∧ (kk ≤ 1000 ∧ nv ≤ 1000 ∧ ∀ b o, va = some ⟨b, o, none⟩ → b < N0 ∧ b ≠ dv) ∧ Below N0 w W0 ∧ W0.heap[N0]? = some (.cells #[.slice none 0 0, .slice none 0 0] 90 (0, 0)))
    (hN0 : N0 = w.heap.size) (hg1 : W0.drew.grownBy w1 (some dv)) (hb2 : Below w1.heap.size w1 w2) (hgc : w1.heap.size ≤ gc) (hdl : dv < N0) (hsd : sb < dv) (hsz : W0.heap.size = N0 + 1) (RP : RankP w2 w3 gc sb E S hi dl hl lo vr vs)
    (hd2 : w1.heap[dv]? = some (.cells ((devC im mnc v2 v3 v6 v7 md rp (.slice a15 n15 k15) (.pointer (some ⟨rb, 0, none⟩)) sb cov (.pointer none)).setIfInBounds 21 (.pointer (some ⟨ib, 0, none⟩))) 75 (0, 0))) :
    RankP w ((w3.setCell ⟨N0, 0, none⟩ vr).setCell ⟨N0, 1, none⟩ vs) dv sb E S hi dl hl lo vr vs ∧ DevR ((w3.setCell ⟨N0, 0, none⟩ vr).setCell ⟨N0, 1, none⟩ vs) dv md rp n15 el := by
  subst hN0
  obtain ⟨_, _, r15, h15, _, _, b0, _⟩ := HA
  obtain ⟨hg, ⟨tp, ha⟩, D, hO, b, cap, hr1, hr2, hr3, hr4⟩ := RP
  have hs1 : W0.heap.size ≤ w1.heap.size := hg1.size
  have hs2 := hb2.size
  have hs3 := hg.size
  have ne : ∀ k, k ≠ w.heap.size → ((w3.setCell ⟨w.heap.size, 0, none⟩ vr).setCell ⟨w.heap.size, 1, none⟩ vs).heap[k]? = w3.heap[k]? := fun k h => (Below.heap_setCell _ _ _ _ h).trans (Below.heap_setCell _ _ _ _ h)
  have blk : ∀ k, k < w.heap.size → k ≠ sb → ((w3.setCell ⟨w.heap.size, 0, none⟩ vr).setCell ⟨w.heap.size, 1, none⟩ vs).heap[k]? = w1.heap[k]? := fun k h1 h2 => (ne k (by omega)).trans ((hg.block k (by omega) (by omega) h2).trans (hb2.block k (by omega)))
  have blw : ∀ k, k < w.heap.size → k ≠ dv → k ≠ sb → ((w3.setCell ⟨w.heap.size, 0, none⟩ vr).setCell ⟨w.heap.size, 1, none⟩ vs).heap[k]? = w.heap[k]? := fun k h1 h2 h3 => (blk k h1 h3).trans ((hg1.block k (by show k < W0.heap.size; omega) (by simpa using h2)).trans (b0.block k h1))
  refine ⟨⟨⟨hg.os.trans (hb2.os.trans (hg1.os.trans b0.os)), hg.tape.trans (hb2.tape.trans (hg1.tape.trans b0.tape)), hg.output.trans (hb2.output.trans (hg1.output.trans b0.output)), by simp [World.setCell]; omega, blw⟩, ⟨tp, (ha.keep (fun k h1 _ _ => ne k (by omega))).mono (by omega)⟩, D, hO, b, cap, hr1, by omega, by simpa [World.setCell] using hr3, fun i hi c hc => ?_⟩, a15, k15, ?_, ?_, ?_, ?_⟩
  · rw [World.cell?_of_block (w := w3) (a := ⟨b, i * 6 + c, none⟩) (ne b (by omega))]
    exact hr4 i hi c hc
  · exact cell_of ((blk dv hdl (by omega)).trans hd2) rfl
  · exact cell_of ((blk dv hdl (by omega)).trans hd2) rfl
  · exact cell_of ((blk dv hdl (by omega)).trans hd2) rfl
  · rcases r15 with h | ⟨b', cap', h1, h2, h3, h4⟩
    · exact .inl h
    · have hb' : b' < dv ∧ b' ≠ sb := by
        injection h1 with h1 _ _
        exact h15 b' 0 h1
      exact .inr ⟨b', cap', h1, Nat.zero_le _, by simp [World.setCell]; omega, fun i hi => (World.cell?_of_block (w := w) (a := ⟨b', i, none⟩) (blw b' h3 (by omega) hb'.2)).trans (h4 i hi)⟩

set_option maxRecDepth 1000000 in
set_option maxHeartbeats 2000000 in
theorem devRank_any (dv sb : Nat) (md : Int) (rp : ByteArray) (n15 : Nat) (el : Nat → Fin 5) (dl hl : List Int) (n6 : Nat) (fl : Nat → Fin 5) (cb n : Nat) (qf : Nat → Fin 50) (lv cd : Nat → Int) (hgh kn : Nat → Bool) (w : World) (va : Option Addr) (nv vcap : Nat) (vals : Nat → Int) (kk : Nat)
    (hn : n ≤ 400) (D : Dev w dv sb md rp n15 el dl hl n6 fl (.slice (some ⟨cb, 0, none⟩) n n) (.pointer none)) (hc : cb < w.heap.size) (S : Scan w cb n qf lv cd hgh kn) (hsd : sb < dv) (X : Src w sb va nv vcap vals kk) (hX : kk ≤ 1000 ∧ nv ≤ 1000 ∧ ∀ b o, va = some ⟨b, o, none⟩ → b < w.heap.size ∧ b ≠ dv) :
    Calls Ybaf.prog 15 #[.pointer (some ⟨dv, 0, none⟩), .bool false] w fun e w' => ∃ vr vs, e = .returned (.agg #[vr, vs]) ∧ RankP w w' dv sb ((firsts qf n).filter (elig dl (fN n6 fl))) (∃ q, q ∈ firsts qf n ∧ aside dl (fN n6 fl) q) (fun q => hiOf qf hgh q n) dl hl (fun q => lvOf qf lv q n) vr vs ∧ DevR w' dv md rp n15 el := by
  obtain ⟨im, mnc, v2, v3, v6, v7, a15, k15, rb, mb, hb, hcap, nb, nn, top, hd, rk, hnb, r15, h15, htop⟩ := D
  have hdl := lt_of_heap hd
  have b0 := bal (o := .cells #[.slice none 0 0, .slice none 0 0] 90) (Below.refl _ w)
  have hz := (MapKept.heap_alloc w (.cells #[.slice none 0 0, .slice none 0 0] 90)).1
  have hd1 := (b0.block _ hdl).trans hd
  have S1 : Scan (w.alloc (.cells #[.slice none 0 0, .slice none 0 0] 90)).drew cb n qf lv cd hgh kn := (S.of_block (b0.block _ hc)).of_block rfl
  have hix := indexed_any dv cb n _ qf lv cd hgh kn (w.alloc (.cells #[.slice none 0 0, .slice none 0 0] 90)).drew hn (Nat.lt_of_lt_of_le hc b0.size) S1 hd1 rfl rfl
  have k18 : (w.alloc (.cells #[.slice none 0 0, .slice none 0 0] 90)).cell? ⟨dv, 18, none⟩ = some (.pointer (some ⟨rb, 0, none⟩)) := cell_of hd1 rfl
  have k19 : (w.alloc (.cells #[.slice none 0 0, .slice none 0 0] 90)).cell? ⟨dv, 19, none⟩ = some (.iface 49 (.pointer (some ⟨sb, 0, none⟩))) := cell_of hd1 rfl
  have hsz : (w.alloc (.cells #[.slice none 0 0, .slice none 0 0] 90)).heap.size = w.heap.size + 1 := by simp
  have HA : Hid _ := And.intro rk (And.intro hnb (And.intro r15 (And.intro h15 (And.intro X (And.intro hX (And.intro b0 hz))))))
  clear S S1 hd hd1 rk hnb r15 h15 X hX b0 hz
  go_enter Ybaf.func15, Ybaf.ntmps15
  go_upto_region 1 with fail
  obtain ⟨N0, hN0⟩ : ∃ N0, N0 = w.heap.size := ⟨_, rfl⟩
  rw [← hN0] at hdl hc hsz htop HA ⊢
  have HN0 : Hid _ := hN0
  clear hN0
  generalize w.alloc (.cells #[.slice none 0 0, .slice none 0 0] 90) = W0 at hix k18 k19 hsz HA ⊢
  go_region_with
    (first
      | (go_at_call 29; refine hix.mono ?_; rintro e w1 ⟨ib, db, rfl, hg1, l1, l2, hd2, i1, i2⟩
         have g18 : w1.cell? ⟨dv, 18, none⟩ = some (.pointer (some ⟨rb, 0, none⟩)) := cell_of hd2 rfl
         have g19 : w1.cell? ⟨dv, 19, none⟩ = some (.iface 49 (.pointer (some ⟨sb, 0, none⟩))) := cell_of hd2 rfl
         have hcl := cloneCand db 0 (firsts qf n).length n ((List.range ((firsts qf n).length * 10)).map (candV (firsts qf n) (fun q => hiOf qf hgh q n) (fun q => lvOf qf lv q n))) w1 (by simp) (by have := firsts_len qf n; omega) (candNews i2) (candOne _ _ _)
         clear i2)
      | (go_at_call 28; refine hcl.mono ?_; rintro e w2 ⟨v', rfl, ho2, hne2, hb2⟩
         have g28 : w2.cell? ⟨dv, 18, none⟩ = some (.pointer (some ⟨rb, 0, none⟩)) := keepc hb2 (by assumption)
         have g29 : w2.cell? ⟨dv, 19, none⟩ = some (.iface 49 (.pointer (some ⟨sb, 0, none⟩))) := keepc hb2 (by assumption)
         obtain ⟨gc, cc, rfl, hgc, C0⟩ := cnd_of_owns rfl ho2 hne2
         have hrk := devRank_call HA.out HN0.out hg1 hb2 hgc C0 hdl hsd hsz htop
         clear hcl ho2)
      | (go_at_call 27; refine hrk.mono ?_; rintro e w3 ⟨vr, vs, rfl, RP⟩
         obtain ⟨ra, rn, rc, rfl⟩ := RP.shape1
         obtain ⟨sa, sn, sc, rfl⟩ := RP.shape2
         have hzz := devRank_res HA.out hg1 hb2 hgc hdl hsd hsz RP
         have q0 : w3.cell? ⟨N0, 0, none⟩ = some (.slice none 0 0) := cell_of hzz rfl
         have q1 : w3.cell? ⟨N0, 1, none⟩ = some (.slice none 0 0) := cell_of hzz rfl
         have q2 : w3.frozen? ⟨N0, 0, none⟩ = false := fz_of hzz
         have q3 : w3.frozen? ⟨N0, 1, none⟩ = false := fz_of hzz
         have HZ : Hid _ := And.intro hzz RP
         clear hrk hzz RP))
  all_goals (
    have HF : Hid _ := devRank_fin HA.out HN0.out hg1 hb2 hgc hdl hsd hsz HZ.out.2 hd2
    have hz2 := heap_set (k := 1) (.slice sa sn sc) (heap_set (k := 0) (.slice ra rn rc) HZ.out.1)
    have u0 : ((w3.setCell ⟨N0, 0, none⟩ (.slice ra rn rc)).setCell ⟨N0, 1, none⟩ (.slice sa sn sc)).cell? ⟨N0, 0, none⟩ = some (.slice ra rn rc) := cell_of hz2 rfl
    have u1 : ((w3.setCell ⟨N0, 0, none⟩ (.slice ra rn rc)).setCell ⟨N0, 1, none⟩ (.slice sa sn sc)).cell? ⟨N0, 1, none⟩ = some (.slice sa sn sc) := cell_of hz2 rfl
    clear hz2 HZ hd2 hg1 hb2 C0 q0 q1 q2 q3
    generalize (w3.setCell ⟨N0, 0, none⟩ (.slice ra rn rc)).setCell ⟨N0, 1, none⟩ (.slice sa sn sc) = W9 at u0 u1 HF ⊢
    go_wp2_with fail
    exact bodyPost_ret (v := .agg #[.slice ra rn rc, .slice sa sn sc]) (by simp [results, Ybaf.results15, go_sem, u0, u1]) rfl ⟨_, _, rfl, HF.out.1, HF.out.2⟩)
end Go.Proofs.YbulkcuegFmt
