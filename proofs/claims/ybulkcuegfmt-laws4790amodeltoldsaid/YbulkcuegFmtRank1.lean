import Derived.Test.YbulkcuegFmtK12
namespace Go.Proofs.YbulkcuegFmt
open Go.RowKit Go.Maps

/-- the candidates, the first k looked at for home -/
def Cnd1 (W : World) (db cap k : Nat) (ks : List (Fin 50)) (f h : Fin 50 → List Value) : Prop := ∃ cu, W.heap[db]? = some (.cells cu 129 (0, 0)) ∧ cu.size = cap * 10 ∧ ks.length ≤ cap ∧ (∀ i, i < k → i < ks.length → Els cu 10 i (h (ks.getD i 0))) ∧ ∀ i, k ≤ i → i < ks.length → Els cu 10 i (f (ks.getD i 0))
theorem Cnd1.of_block {W W' : World} {db cap k : Nat} {ks : List (Fin 50)} {f h : Fin 50 → List Value} (c : Cnd1 W db cap k ks f h) (e : W'.heap[db]? = W.heap[db]?) : Cnd1 W' db cap k ks f h := by
  obtain ⟨cu, h1, h2⟩ := c
  exact ⟨cu, e.trans h1, h2⟩
theorem Cnd1.get {W : World} {db cap k : Nat} {ks : List (Fin 50)} {f h : Fin 50 → List Value} (r : Cnd1 W db cap k ks f h) (hk : k < ks.length) {c : Nat} {v : Value} (hc : c < 10) (hv : (f (ks.getD k 0))[c]? = some v) : W.cell? ⟨db, k * 10 + c, none⟩ = some v := by
  obtain ⟨cu, h1, _, _, _, h6⟩ := r
  exact cell_of h1 ((h6 k (Nat.le_refl _) hk c hc).trans hv)
theorem Cnd1.skip {W : World} {db cap k : Nat} {ks : List (Fin 50)} {f h : Fin 50 → List Value} (r : Cnd1 W db cap k ks f h) (e : f (ks.getD k 0) = h (ks.getD k 0)) : Cnd1 W db cap (k + 1) ks f h := by
  obtain ⟨cu, h1, h2, h3, h4, h5⟩ := r
  refine ⟨cu, h1, h2, h3, fun i hi hl => ?_, fun i hi hl => h5 i (by omega) hl⟩
  by_cases ei : i = k
  · subst ei
    rw [← e]
    exact h5 i (Nat.le_refl _) hl
  · exact h4 i (by omega) hl
theorem Cnd1.set {W : World} {db cap k : Nat} {ks : List (Fin 50)} {f h : Fin 50 → List Value} (r : Cnd1 W db cap k ks f h) (hk : k < ks.length) (p : Nat) (hp : p < 10) (v : Value) (e : ∀ c, c < 10 → (h (ks.getD k 0))[c]? = if c = p then some v else (f (ks.getD k 0))[c]?) : Cnd1 (W.setCell ⟨db, k * 10 + p, none⟩ v) db cap (k + 1) ks f h := by
  obtain ⟨cu, h1, h2, h3, h4, h5⟩ := r
  refine ⟨_, heap_set v h1, by simpa using h2, h3, fun i hi hl => ?_, fun i hi hl => ?_⟩
  · intro c hc
    by_cases ei : i = k
    · subst ei
      rw [e c hc]
      by_cases ec : c = p
      · subst ec
        rw [if_pos rfl]
        simp [show i * 10 + c < cu.size by omega]
      · rw [if_neg ec, Array.getElem?_setIfInBounds, if_neg (by omega)]
        exact h5 i (Nat.le_refl _) hl c hc
    · rw [Array.getElem?_setIfInBounds, if_neg (by omega)]
      exact h4 i (by omega) hl c hc
  · intro c hc
    rw [Array.getElem?_setIfInBounds, if_neg (by omega)]
    exact h5 i (by omega) hl c hc
theorem candH_at (dl : List Int) (hi : Fin 50 → Bool) (lo : Fin 50 → Int) (q : Fin 50) (x : Int) (hx : homOf dl q = x) (c : Nat) (hc : c < 10) : (candH dl hi lo q)[c]? = if c = 7 then some (.int .i64 x) else (news q (hi q) (lo q))[c]? := by
  subst hx
  rcases c with _ | _ | _ | _ | _ | _ | _ | _ | _ | _ | c
  · rfl
  · rfl
  · rfl
  · rfl
  · rfl
  · rfl
  · rfl
  · rfl
  · rfl
  · rfl
  · omega
theorem candH_none (dl : List Int) (hi : Fin 50 → Bool) (lo : Fin 50 → Int) (q : Fin 50) (hx : homOf dl q = 0) : news q (hi q) (lo q) = candH dl hi lo q := by
  show _ = [_, _, _, _, _, _, _, _, _, _]
  rw [hx]

set_option maxRecDepth 1000000 in
set_option maxHeartbeats 2000000 in
theorem rank_any (rb db cap sb : Nat) (ks : List (Fin 50)) (dl hl : List Int) (hi : Fin 50 → Bool) (lo : Fin 50 → Int) (w : World) (base top mb hb hcap : Nat) (nb : Fin 5 → Option Nat) (n : Nat) (va : Option Addr) (nv vcap : Nat) (vals : Nat → Int) (kk : Nat)
    (hm : ks.length ≤ 50) (hnd : ks.Nodup) (C0 : Cnd w db cap ks (fun q => news q (hi q) (lo q))) (hsb : sb < w.heap.size) (hd : db ≠ sb) (RK : Rk w base top rb mb hb hcap nb n dl hl) (hbt : top ≤ w.heap.size ∧ ∀ b, base ≤ b → b < top → b ≠ db) (X : Src w sb va nv vcap vals kk) (hX : Hid (kk ≤ 1000 ∧ nv ≤ 1000 ∧ ∀ b o, va = some ⟨b, o, none⟩ → b < w.heap.size ∧ b ≠ db)) :
    Calls Ybaf.prog 27 #[.pointer (some ⟨rb, 0, none⟩), .slice (some ⟨db, 0, none⟩) ks.length cap, .iface 49 (.pointer (some ⟨sb, 0, none⟩)), .bool false] w fun e w' => ∃ vr vs, e = .returned (.agg #[vr, vs]) ∧ RankP w w' db sb (ks.filter (elig dl nb)) (∃ q, q ∈ ks ∧ aside dl nb q) hi dl hl lo vr vs := by
  have hpos : ∀ (q : Fin 50) (W : World), W.cell? ⟨hb, 0, none⟩ = some (.string (dig 1)) → Calls Ybaf.prog 34 #[.agg #[.slice (some ⟨hb, 0, none⟩) 1 hcap, .bool false], .agg #[.string (kd q)]] W fun e W' => e = .returned (.int .i64 (if nt q = 1 then 1 else 0)) ∧ Below W.heap.size W W' := fun q W h => position_any (nt q) hb hcap W h
  have HS0 : Hid (w.grownBy (w.alloc (.cells #[.slice none 0 0, .slice none 0 0] 90)) (some db) ∧ (w.alloc (.cells #[.slice none 0 0, .slice none 0 0] 90)).heap[w.heap.size]? = some (.cells #[.slice none 0 0, .slice none 0 0] 90 (0, 0)) ∧ Cnd1 (w.alloc (.cells #[.slice none 0 0, .slice none 0 0] 90)) db cap 0 ks (fun q => news q (hi q) (lo q)) (candH dl hi lo) ∧ db < w.heap.size) := by
    obtain ⟨cu, h1, h2, h3, h4⟩ := C0
    have hb0 := bal (o := .cells #[.slice none 0 0, .slice none 0 0] 90) (Below.refl _ w)
    exact ⟨⟨hb0.os, hb0.tape, hb0.output, hb0.size, fun k hk _ => hb0.block k hk⟩, (MapKept.heap_alloc w _).1, ⟨cu, (hb0.block _ (lt_of_heap h1)).trans h1, h2, h3, fun i hi => absurd hi (by omega), fun i _ h => h4 i h⟩, lt_of_heap h1⟩
  have HK : Hid _ := And.intro RK X
  clear C0 RK X
  go_enter Ybaf.func27, Ybaf.ntmps27
  go_upto_region 3 with fail
  generalize w.alloc (.cells #[.slice none 0 0, .slice none 0 0] 90) = W0 at HS0 ⊢
  obtain ⟨zb, hzb⟩ : ∃ zb, zb = w.heap.size := ⟨_, rfl⟩
  rw [← hzb] at HS0 ⊢
  have HZ : Hid _ := hzb
  clear hzb
  go_wp2_with fail
  go_loopw [39, 9] (fun vi v9 wr => ∃ (k : Nat) (hv : Int), k ≤ ks.length ∧ vi = .int .i64 k ∧ v9 = .int .i64 hv ∧ w.grownBy wr (some db) ∧ wr.heap[zb]? = some (.cells #[.slice none 0 0, .slice none 0 0] 90 (0, 0)) ∧ Cnd1 wr db cap k ks (fun q => news q (hi q) (lo q)) (candH dl hi lo) ∧ Hid ((hv = 0 ∨ hv = 1) ∧ ∀ i, i < k → sup dl (ks.getD i 0) = true → nt (ks.getD i 0) = 1 → hv = 1)) (fun vi _ _ => ks.length - (intOf vi).toNat)
  case atStart => exact ⟨0, 0, Nat.zero_le _, rfl, rfl, HS0.out.1, HS0.out.2.1, HS0.out.2.2.1, .inl rfl, fun i hi => absurd hi (by omega)⟩
  case round =>
    obtain ⟨k, hv, hk, rfl, rfl, G, Z, C, hhv⟩ := hrel
    by_cases hkn : k < ks.length
    · have hkn' : (k : Int) < (ks.length : Int) := by omega
      obtain ⟨q, hq⟩ : ∃ q, ks.getD k 0 = q := ⟨_, rfl⟩
      obtain ⟨a, haq, ha10⟩ := ka_nat q
      have e0 : wr.cell? ⟨db, k * 10, none⟩ = some (.string (kd q)) := C.get (c := 0) hkn (by omega) (by rw [hq]; rfl)
      have e1 : wr.cell? ⟨db, k * 10 + 1, none⟩ = some (.int .u16 (a : Int)) := C.get (c := 1) hkn (by omega) (by rw [hq, ← haq]; rfl)
      have e2 : wr.cell? ⟨db, k * 10 + 2, none⟩ = some (.int .i64 (lo q)) := C.get (c := 2) hkn (by omega) (by rw [hq]; rfl)
      have e3 : wr.cell? ⟨db, k * 10 + 3, none⟩ = some (.int .u8 0) := C.get (c := 3) hkn (by omega) rfl
      have e4 : wr.cell? ⟨db, k * 10 + 4, none⟩ = some (.int .u8 0) := C.get (c := 4) hkn (by omega) rfl
      have e5 : wr.cell? ⟨db, k * 10 + 5, none⟩ = some (.int .i64 0) := C.get (c := 5) hkn (by omega) rfl
      have e6 : wr.cell? ⟨db, k * 10 + 6, none⟩ = some (.int .i64 0) := C.get (c := 6) hkn (by omega) rfl
      have e7 : wr.cell? ⟨db, k * 10 + 7, none⟩ = some (.int .i64 0) := C.get (c := 7) hkn (by omega) rfl
      have e8 : wr.cell? ⟨db, k * 10 + 8, none⟩ = some (.bool (hi q)) := C.get (c := 8) hkn (by omega) (by rw [hq]; rfl)
      have e9 : wr.cell? ⟨db, k * 10 + 9, none⟩ = some (.bool false) := C.get (c := 9) hkn (by omega) rfl
      have HQ : Hid _ := hq
      have hka : Hid (ka q = (a : Int)) := haq
      clear hq
      have b0 := bal (o := .cells #[.string (kd q), .int .u16 (a : Int), .int .i64 (lo q), .int .u8 0, .int .u8 0, .int .i64 0, .int .i64 0, .int .i64 0, .bool (hi q), .bool false] 129) (Below.refl _ wr)
      have BC := (MapKept.heap_alloc wr (.cells #[.string (kd q), .int .u16 (a : Int), .int .i64 (lo q), .int .u8 0, .int .u8 0, .int .i64 0, .int .i64 0, .int .i64 0, .bool (hi q), .bool false] 129)).1
      have G1 := grow_below G b0
      have Z1 := (b0.block _ (lt_of_heap Z)).trans Z
      have C1 : Cnd1 (wr.alloc (.cells #[.string (kd q), .int .u16 (a : Int), .int .i64 (lo q), .int .u8 0, .int .u8 0, .int .i64 0, .int .i64 0, .int .i64 0, .bool (hi q), .bool false] 129)) db cap k ks (fun q => news q (hi q) (lo q)) (candH dl hi lo) := C.of_block (b0.block _ (by obtain ⟨cu, h1, _⟩ := C; exact lt_of_heap h1))
      have hdl : db < wr.heap.size := by obtain ⟨cu, h1, _⟩ := C; exact lt_of_heap h1
      clear G Z C b0 haq
      go_upto_region 6 with fail
      generalize wr.alloc (.cells #[.string (kd q), .int .u16 (a : Int), .int .i64 (lo q), .int .u8 0, .int .u8 0, .int .i64 0, .int .i64 0, .int .i64 0, .bool (hi q), .bool false] 129) = W1 at BC G1 Z1 C1 ⊢
      generalize wr.heap.size = cb at BC hdl ⊢
      clear e0 e1 e2 e3 e4 e5 e6 e7 e8 e9
      have rk : Rk W1 base top rb mb hb hcap nb n dl hl := HK.out.1.keep (fun b h1 h2 => G1.block b (by omega) (by simpa using hbt.2 b h1 h2))
      have c0 : W1.cell? ⟨cb, 0, none⟩ = some (.string (kd q)) := cell_of BC rfl
      have c1 : W1.cell? ⟨cb, 1, none⟩ = some (.int .u16 (a : Int)) := cell_of BC rfl
      have HF : Hid _ := And.intro G1 (And.intro Z1 C1)
      clear G1 Z1 C1 BC
      by_cases hB : a < 9
      · have hB' : (a : Int) < 9 := by omega
        have hBd : decide ((a : Int) < 9) = true := decide_eq_true hB'
        have o1 : W1.cell? ⟨rb, a, none⟩ = some (.int .i64 (ordK dl dl.length a)) := cell_of rk.r (rkC_go _ _ _ _ _ hB)
        by_cases hC : ordK dl dl.length a = 0
        · have hob : ((ordK dl dl.length a) != 0) = false := by simp [hC]
          have hns : sup dl q = false := by
            have : (a : Int) ∉ dl := fun h => (ordK_ne dl a).2 h hC
            simp [sup, hka.out, this]
          have HN : Hid (sup dl q = false) := hns
          clear rk hC hns
          go_wp2_with fail
          go_quiet (fail)
          go_wp2_with fail
          go_roundw
          case rel => exact ⟨k + 1, hv, by omega, by go_num, rfl, grow_below HF.out.1 (drewN_below _ _), HF.out.2.1, Cnd1.skip HF.out.2.2 (by rw [HQ.out]; exact candH_none dl hi lo q (by simp [homOf, HN.out])), hhv.out.1, fun i h1 h2 h3 => by
            by_cases ei : i = k
            · rw [ei, HQ.out, HN.out] at h2; cases h2
            · exact hhv.out.2 i (by omega) h2 h3⟩
          case measure => simp [intOf]; omega
        · have hob : ((ordK dl dl.length a) != 0) = true := by simp [hC]
          have hmd : (a : Int) ∈ dl := (ordK_ne dl a).1 hC
          have hsup : sup dl q = true := by simp [sup, hka.out, hB', hmd]
          have HSU : Hid _ := hsup
          have HRK : Hid _ := And.intro rk trivial
          clear rk hC hmd hsup
          go_wp2_with fail
          go_quiet (fail)
          have HF : Hid (w.grownBy (W1.drewN nq) (some db) ∧ (W1.drewN nq).heap[zb]? = some (.cells #[.slice none 0 0, .slice none 0 0] 90 (0, 0)) ∧ Cnd1 (W1.drewN nq) db cap k ks (fun q => news q (hi q) (lo q)) (candH dl hi lo)) := ⟨grow_below HF.out.1 (drewN_below _ _), HF.out.2.1, HF.out.2.2⟩
          have rk := HRK.out.1.keep (W' := W1.drewN nq) (fun _ _ _ => rfl)
          have c0 : (W1.drewN nq).cell? ⟨cb, 0, none⟩ = some (.string (kd q)) := c0
          clear c1 o1 HRK
          generalize W1.drewN nq = W2 at HF rk c0 ⊢
          have r18 : W2.cell? ⟨rb, 18, none⟩ = some (.slice (some ⟨hb, 0, none⟩) 1 hcap) := cell_of rk.r rfl
          have r19 : W2.cell? ⟨rb, 19, none⟩ = some (.bool false) := cell_of rk.r rfl
          have rh := rk.h
          have hpq := hpos q
          clear rk
          have HR : Hid _ := And.intro r18 (And.intro r19 (And.intro rh HF.out))
          go_wp2_with fail
          by_cases hN : nt q = 1
          · have hif : (if nt q = 1 then (1 : Int) else 0) = 1 := if_pos hN
            have hh1 : Hid (homOf dl q = 1) := (if_pos ⟨HSU.out, hN⟩ : homOf dl q = 1)
            rw [hif] at hpq
            clear hN hif
            go_region_held3 (fun w' => w'.cell? ⟨rb, 18, none⟩ = some (.slice (some ⟨hb, 0, none⟩) 1 hcap) ∧ w'.cell? ⟨rb, 19, none⟩ = some (.bool false) ∧ w'.cell? ⟨cb, 0, none⟩ = some (.string (kd q)) ∧ w'.cell? ⟨hb, 0, none⟩ = some (.string (dig 1)))
              ((repeat' apply And.intro) <;> (repeat (first | assumption | refine cell_drew ?_ | refine cell_alloc ?_)))
              (first | (go_at_call 34; refine (hpq _ (by assumption)).mono ?_; rintro e w1 ⟨rfl, hb1⟩; have g1 : w1.cell? ⟨rb, 18, none⟩ = some (.slice (some ⟨hb, 0, none⟩) 1 hcap) := keepc hb1 (by assumption); have g2 : w1.cell? ⟨rb, 19, none⟩ = some (.bool false) := keepc hb1 (by assumption); have g3 : w1.cell? ⟨cb, 0, none⟩ = some (.string (kd q)) := keepc hb1 (by assumption); have g4 : w1.cell? ⟨hb, 0, none⟩ = some (.string (dig 1)) := keepc hb1 (by assumption)))
            have HF1 : Hid (w.grownBy w1 (some db) ∧ w1.heap[zb]? = some (.cells #[.slice none 0 0, .slice none 0 0] 90 (0, 0)) ∧ Cnd1 w1 db cap k ks (fun q => news q (hi q) (lo q)) (candH dl hi lo)) := by
              obtain ⟨_, _, _, G, Z, C⟩ := HR.out
              have hlc : db < W2.heap.size := by obtain ⟨cu, h1, _⟩ := C; exact lt_of_heap h1
              exact ⟨grow_below G ⟨hb1.os, hb1.tape, hb1.output, hb1.size, hb1.block⟩, (hb1.block _ (lt_of_heap Z)).trans Z, C.of_block (hb1.block _ hlc)⟩
            have e7 : w1.cell? ⟨db, k * 10 + 7, none⟩ = some (.int .i64 0) := HF1.out.2.2.get (c := 7) hkn (by omega) rfl
            have f7 : w1.frozen? ⟨db, k * 10 + 7, none⟩ = false := by obtain ⟨cu, h1, _⟩ := HF1.out.2.2; exact fz_of h1
            have HN : Hid (w.grownBy (w1.setCell ⟨db, k * 10 + 7, none⟩ (.int .i64 1)) (some db) ∧ (w1.setCell ⟨db, k * 10 + 7, none⟩ (.int .i64 1)).heap[zb]? = some (.cells #[.slice none 0 0, .slice none 0 0] 90 (0, 0)) ∧ Cnd1 (w1.setCell ⟨db, k * 10 + 7, none⟩ (.int .i64 1)) db cap (k + 1) ks (fun q => news q (hi q) (lo q)) (candH dl hi lo)) := by
              obtain ⟨G, Z, C⟩ := HF1.out
              refine ⟨gr1 _ G, (Below.heap_setCell _ _ _ _ (by show zb ≠ db; have := HZ.out; have := HS0.out.2.2.2; omega)).trans Z, C.set hkn 7 (by omega) _ (fun c hc => ?_)⟩
              rw [HQ.out]
              exact candH_at dl hi lo q 1 hh1.out c hc
            rename_i hHeld
            clear hb1 g1 g2 g3 g4 HF1 HR hHeld r18 r19 rh c0 hpq HF
            rcases hhv.out.1 with rfl | rfl
            · go_upto_region 11 with fail
              generalize w1.setCell ⟨db, k * 10 + 7, none⟩ (.int .i64 1) = W4 at HN ⊢
              go_wp2_with fail
              go_roundw
              case rel => exact ⟨k + 1, 1, by omega, by go_num, rfl, HN.out.1, HN.out.2.1, HN.out.2.2, .inr rfl, fun _ _ _ _ => rfl⟩
              case measure => simp [intOf]; omega
            · go_upto_region 11 with fail
              generalize w1.setCell ⟨db, k * 10 + 7, none⟩ (.int .i64 1) = W4 at HN ⊢
              go_wp2_with fail
              go_roundw
              case rel => exact ⟨k + 1, 1, by omega, by go_num, rfl, HN.out.1, HN.out.2.1, HN.out.2.2, .inr rfl, fun _ _ _ _ => rfl⟩
              case measure => simp [intOf]; omega
          · have hif : (if nt q = 1 then (1 : Int) else 0) = 0 := if_neg hN
            have hh1 : Hid (homOf dl q = 0) := (if_neg (fun h => hN h.2) : homOf dl q = 0)
            rw [hif] at hpq
            have HNN : Hid _ := hN
            clear hN hif
            go_region_held3 (fun w' => w'.cell? ⟨rb, 18, none⟩ = some (.slice (some ⟨hb, 0, none⟩) 1 hcap) ∧ w'.cell? ⟨rb, 19, none⟩ = some (.bool false) ∧ w'.cell? ⟨cb, 0, none⟩ = some (.string (kd q)) ∧ w'.cell? ⟨hb, 0, none⟩ = some (.string (dig 1)))
              ((repeat' apply And.intro) <;> (repeat (first | assumption | refine cell_drew ?_ | refine cell_alloc ?_)))
              (first | (go_at_call 34; refine (hpq _ (by assumption)).mono ?_; rintro e w1 ⟨rfl, hb1⟩; have g1 : w1.cell? ⟨rb, 18, none⟩ = some (.slice (some ⟨hb, 0, none⟩) 1 hcap) := keepc hb1 (by assumption); have g2 : w1.cell? ⟨rb, 19, none⟩ = some (.bool false) := keepc hb1 (by assumption); have g3 : w1.cell? ⟨cb, 0, none⟩ = some (.string (kd q)) := keepc hb1 (by assumption); have g4 : w1.cell? ⟨hb, 0, none⟩ = some (.string (dig 1)) := keepc hb1 (by assumption)))
            have HF1 : Hid (w.grownBy w1 (some db) ∧ w1.heap[zb]? = some (.cells #[.slice none 0 0, .slice none 0 0] 90 (0, 0)) ∧ Cnd1 w1 db cap k ks (fun q => news q (hi q) (lo q)) (candH dl hi lo)) := by
              obtain ⟨_, _, _, G, Z, C⟩ := HR.out
              have hlc : db < W2.heap.size := by obtain ⟨cu, h1, _⟩ := C; exact lt_of_heap h1
              exact ⟨grow_below G ⟨hb1.os, hb1.tape, hb1.output, hb1.size, hb1.block⟩, (hb1.block _ (lt_of_heap Z)).trans Z, C.of_block (hb1.block _ hlc)⟩
            have e7 : w1.cell? ⟨db, k * 10 + 7, none⟩ = some (.int .i64 0) := HF1.out.2.2.get (c := 7) hkn (by omega) rfl
            have f7 : w1.frozen? ⟨db, k * 10 + 7, none⟩ = false := by obtain ⟨cu, h1, _⟩ := HF1.out.2.2; exact fz_of h1
            have HN : Hid (w.grownBy (w1.setCell ⟨db, k * 10 + 7, none⟩ (.int .i64 0)) (some db) ∧ (w1.setCell ⟨db, k * 10 + 7, none⟩ (.int .i64 0)).heap[zb]? = some (.cells #[.slice none 0 0, .slice none 0 0] 90 (0, 0)) ∧ Cnd1 (w1.setCell ⟨db, k * 10 + 7, none⟩ (.int .i64 0)) db cap (k + 1) ks (fun q => news q (hi q) (lo q)) (candH dl hi lo)) := by
              obtain ⟨G, Z, C⟩ := HF1.out
              refine ⟨gr1 _ G, (Below.heap_setCell _ _ _ _ (by show zb ≠ db; have := HZ.out; have := HS0.out.2.2.2; omega)).trans Z, C.set hkn 7 (by omega) _ (fun c hc => ?_)⟩
              rw [HQ.out]
              exact candH_at dl hi lo q 0 hh1.out c hc
            rename_i hHeld
            clear hb1 g1 g2 g3 g4 HF1 HR hHeld r18 r19 rh c0 hpq HF
            go_upto_region 11 with fail
            generalize w1.setCell ⟨db, k * 10 + 7, none⟩ (.int .i64 0) = W4 at HN ⊢
            go_wp2_with fail
            go_roundw
            case rel => exact ⟨k + 1, hv, by omega, by go_num, rfl, HN.out.1, HN.out.2.1, HN.out.2.2, hhv.out.1, fun i h1 h2 h3 => by
              by_cases ei : i = k
              · rw [ei, HQ.out] at h3; exact absurd h3 HNN.out
              · exact hhv.out.2 i (by omega) h2 h3⟩
            case measure => simp [intOf]; omega
      · have hB' : ¬ (a : Int) < 9 := by omega
        have hBd : decide ((a : Int) < 9) = false := decide_eq_false hB'
        have HN : Hid (sup dl q = false) := (by simp [sup, hka.out, hB'] : sup dl q = false)
        clear rk hB
        go_wp2_with fail
        go_quiet (fail)
        go_wp2_with fail
        go_roundw
        case rel => exact ⟨k + 1, hv, by omega, by go_num, rfl, grow_below HF.out.1 (drewN_below _ _), HF.out.2.1, Cnd1.skip HF.out.2.2 (by rw [HQ.out]; exact candH_none dl hi lo q (by simp [homOf, HN.out])), hhv.out.1, fun i h1 h2 h3 => by
          by_cases ei : i = k
          · rw [ei, HQ.out, HN.out] at h2; cases h2
          · exact hhv.out.2 i (by omega) h2 h3⟩
        case measure => simp [intOf]; omega
    · have e : k = ks.length := by omega
      subst e
      have hnl : ¬ (ks.length : Int) < (ks.length : Int) := by omega
      have HC : Hid (Cnd wr db cap ks (candH dl hi lo)) := by
        obtain ⟨cu, h1, h2, h3, h4, _⟩ := C
        exact ⟨cu, h1, h2, h3, fun i hi' => h4 i hi' hi'⟩
      have HG : Hid _ := And.intro G Z
      have hh : Hid (∀ q, q ∈ ks → sup dl q = true → nt q = 1 → hv = 1) := fun q hq h1 h2 => by
        obtain ⟨i, hi', e⟩ := List.mem_iff_getElem.1 hq
        have e' : ks.getD i 0 = q := by simp [List.getD, hi', e]
        exact hhv.out.2 i hi' (by rw [e']; exact h1) (by rw [e']; exact h2)
      have hlt : w.heap.size ≤ zb ∧ db < w.heap.size ∧ sb < w.heap.size := ⟨by have := HZ.out; omega, by have := HZ.out; have := HS0.out.2.2.2; omega, hsb⟩
      clear G Z C
      go_upto_region 12 with fail
      refine K12 rb db cap sb ks (ks.filter (elig dl nb)) (∃ q, q ∈ ks ∧ aside dl nb q) dl hl hi lo w _ _ _ _ _ _ _ _ _ _ _ _ _ _ _ _ _ _ _ _ _ _ _ _ _ _ _ _ _ _ _ _ _ _ _ _ _ _ _ _ _ _ _ _ _ _ _ _ _ _ _ _ _ _ _ _ _ _ _ _ _ _ _ _ _ _ _ _ _ _ _ _ _ _ _ _ _ _ _ _ _ _ _ _ _ _ _ _ _ _ _ _ _ _ _ _ _ _ _ _ _ _ _ _ _ _ _ _ _ _ _ _ _ _ _ _ _ _ _ _ _ _ _ _ _ _ _ _ _ _ _ _ _ _ _ _ _ _ _ _ _ _ _ _ _ _ _ _ _ _ _ _ _ _ _ _ _ _ _ _ _ _ _ _ _ _ _ _ _ _ _ _ _ _ _ _ _ _ _ _ _ _ _ _ _ _ _ _ _ _ _ _ _ _ _ _ _ _ _ _ _ _ _ _ _ _ _ _ _ _ _ _ _ _ _ _ _ _ _ _ _ _ _ _ _ _ _ _ _ _ _ _ _ _ _ _ _ _ _ _ _ _ _ _ _ _ _ _ _ _ _ _ _ _ _ _ _ _ _ _ _ _ _ _ _ _ _ _ _ _ _ _ _ _ _ _ _ _ _ _ _ _ _ _ _ _ _ _ _ _ _ _ _ _ _ _ _ _ zb base top mb hb hcap nb n hv va nv vcap vals kk _ ?_ hm hnd HG.out.1 HG.out.2 HC.out hlt hd HK.out.1 hbt hh ⟨rfl, rfl⟩ HK.out.2 hX
      assumption
end Go.Proofs.YbulkcuegFmt
