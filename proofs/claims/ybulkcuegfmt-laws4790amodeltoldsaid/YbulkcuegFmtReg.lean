import Derived.Test.YbulkcuegFmtReg0
namespace Go.Proofs.YbulkcuegFmt
open Go.RowKit Go.Maps

theorem own_base {W : World} {base base' e sz n : Nat} {v : Value} {xs : List Value} (h : W.ownsRow base e sz v n xs) (hb : base' ≤ base) : W.ownsRow base' e sz v n xs := by
  refine ⟨h.1, ?_⟩
  rcases h.2 with h0 | ⟨g, c, cu, h1, h2, h3⟩
  · exact .inl h0
  · exact .inr ⟨g, c, cu, h1, Nat.le_trans hb h2, h3⟩
theorem filt_yes {Q F G : List (Fin 50)} {k : Nat} {q : Fin 50} {p : Fin 5} (hk : k < Q.length) (hq : Q.getD k 0 = q) (hd : decide (nt q = p) = true) (h : F = (Q.take k).filter (fun q => decide (nt q = p)) ∧ G = (Q.take k).filter (fun q => !decide (nt q = p))) : F ++ [q] = (Q.take (k + 1)).filter (fun q => decide (nt q = p)) ∧ G = (Q.take (k + 1)).filter (fun q => !decide (nt q = p)) := by
  rw [take_filter_snoc _ hk, take_filter_snoc _ hk, hq, hd, h.1, h.2]
  simp
theorem filt_no {Q F G : List (Fin 50)} {k : Nat} {q : Fin 50} {p : Fin 5} (hk : k < Q.length) (hq : Q.getD k 0 = q) (hd : decide (nt q = p) = false) (h : F = (Q.take k).filter (fun q => decide (nt q = p)) ∧ G = (Q.take k).filter (fun q => !decide (nt q = p))) : F = (Q.take (k + 1)).filter (fun q => decide (nt q = p)) ∧ G ++ [q] = (Q.take (k + 1)).filter (fun q => !decide (nt q = p)) := by
  rw [take_filter_snoc _ hk, take_filter_snoc _ hk, hq, hd, h.1, h.2]
  simp

set_option maxRecDepth 1000000 in
set_option maxHeartbeats 2000000 in
theorem reg_any (dv : Nat) (md : Int) (rpd : Fin 5) (n15 : Nat) (el : Nat → Fin 5) (rb rcap : Nat) (Q : List (Fin 50)) (rl : Fin 50 → Int) (w : World) (hn : n15 ≤ 300) (hQ : Q.length ≤ 50) (D : DevR w dv md (dig rpd.val) n15 el)
    (hR : ∀ i, i < Q.length → ∀ c, c < 6 → w.cell? ⟨rb, i * 6 + c, none⟩ = (rkd (rl (Q.getD i 0)) (Q.getD i 0))[c]?) :
    Calls Ybaf.prog 16 #[.pointer (some ⟨dv, 0, none⟩), .slice (some ⟨rb, 0, none⟩) Q.length rcap] w fun e w' => ∃ v1 v2, e = .returned (.tuple #[v1, v2]) ∧ RegP w w' Q rl rpd el n15 (.slice (some ⟨rb, 0, none⟩) Q.length rcap) v1 v2 := by
  obtain ⟨a15, k15, _, d14, d15, r15⟩ := D
  obtain ⟨i66, hi66, z0, z1, z2⟩ := info_parts info66
  have hdl := lt_of_cell d14
  have HR : Hid _ := And.intro hR r15
  have he := eqk2
  have Bc : Below w.heap.size w ((w.alloc (.cells #[.string (dig rpd.val)] 29)).alloc (.cells #[.slice (some ⟨w.heap.size, 0, none⟩) 1 1, .slice a15 n15 k15] 27)).drew := Below.drew (bal (bal (Below.refl _ _)))
  have hcc := concat_any (w.heap.size + 1) w.heap.size (dig rpd.val) a15 n15 k15 (fun i => .string (dig (el i).val)) ((w.alloc (.cells #[.string (dig rpd.val)] 29)).alloc (.cells #[.slice (some ⟨w.heap.size, 0, none⟩) 1 1, .slice a15 n15 k15] 27)).drew hn (by simp [go_sem]) (by simp [go_sem]) (by simp [go_sem]) (r15.below Bc) (fun _ _ => rfl)
  clear hR r15
  go_enter Ybaf.func16, Ybaf.ntmps16
  go_upto_region 1 with fail
  go_region_held3 (fun w' => w'.cell? ⟨dv, 14, none⟩ = some (.string (dig rpd.val)) ∧ w'.cell? ⟨dv, 15, none⟩ = some (.slice a15 n15 k15))
    ((repeat' apply And.intro) <;> (repeat (first | assumption | refine cell_drew ?_ | refine cell_alloc ?_)))
    (first
      | (go_at_call 30; refine hcc.mono ?_; rintro e w1 ⟨v', rfl, ho1, hb1⟩
         have g1 : w1.cell? ⟨dv, 14, none⟩ = some (.string (dig rpd.val)) := keepc hb1 (cell_drew (cell_alloc (cell_alloc d14)))
         have g2 : w1.cell? ⟨dv, 15, none⟩ = some (.slice a15 n15 k15) := keepc hb1 (cell_drew (cell_alloc (cell_alloc d15)))
         obtain ⟨va, cc, rfl⟩ := own_shape ho1))
  have hrow : RowB w1 0 (.slice va (1 + n15) cc) (1 + n15) (fun i => .string (dig (Pl rpd el i).val)) := (rowB_of_owns (by
    have e : (List.range (1 + n15)).map (fun i => Value.string (dig (Pl rpd el i).val)) = .string (dig rpd.val) :: (List.range n15).map (fun i => .string (dig (el i).val)) := by
      rw [Nat.add_comm, List.range_succ_eq_map, List.map_cons, List.map_map]
      rfl
    rw [e]
    exact ho1)).mono (Nat.zero_le _)
  obtain ⟨pb, rfl, hpl, hpc⟩ : ∃ pb, va = some ⟨pb, 0, none⟩ ∧ pb < w1.heap.size ∧ ∀ j, j < 1 + n15 → w1.cell? ⟨pb, j, none⟩ = some (.string (dig (Pl rpd el j).val)) := by
    rcases hrow with ⟨_, h⟩ | ⟨b, cap, h1, _, h3, h4⟩
    · omega
    · injection h1 with h1 _ _
      exact ⟨b, h1, h3, h4⟩
  have HB1 : Hid (Below w.heap.size w w1) := Bc.trans (hb1.mono Bc.size)
  have HPC : Hid _ := hpc
  rename_i hHeld
  clear hrow hpc ho1 hb1 Bc hcc g1 g2 hHeld d14 d15
  go_wp2_with fail
  go_loopw [27] (fun vi wr => ∃ i : Nat, i ≤ 1 + n15 ∧ vi = .int .i64 i ∧ Below w1.heap.size w1 wr ∧ Hid (∀ j, j < i → ∀ q ∈ Q, nt q ≠ Pl rpd el j)) (fun vi _ => 1 + n15 - (intOf vi).toNat)
  case atStart => exact ⟨0, Nat.zero_le _, rfl, Below.refl _ _, fun j hj => absurd hj (by omega)⟩
  case round =>
    obtain ⟨i, hi, rfl, hbw, hno⟩ := hrel
    have HB : Hid _ := hbw
    by_cases hin : i < 1 + n15
    · have hin' : (i : Int) < 1 + (n15 : Int) := by omega
      obtain ⟨p, hp⟩ : ∃ p, Pl rpd el i = p := ⟨_, rfl⟩
      have e0 : wr.cell? ⟨pb, i, none⟩ = some (.string (dig p.val)) := by rw [← hp]; exact (hbw.cell (p := ⟨pb, i, none⟩) hpl).trans (HPC.out i hin)
      have HP : Hid _ := hp
      clear hp hbw
      by_cases hi0 : i = 0
      · have hib : ((i : Int) == 0) = true := by simp [hi0]
        have HI0 : Hid (i = 0) := hi0
        clear hi0
        have B2 : Below wr.heap.size wr ((wr.alloc (.cells #[.string (dig p.val)] 29)).alloc (.cells #[.int .u8 6, .int .u8 0, .int .i64 0] 64)) := bal (bal (Below.refl _ _))
        have hp0 : ((wr.alloc (.cells #[.string (dig p.val)] 29)).alloc (.cells #[.int .u8 6, .int .u8 0, .int .i64 0] 64)).heap[wr.heap.size]? = some (.cells #[.string (dig p.val)] 29 (0, 0)) := (Below.heap_alloc _ _ _ (by simp)).trans (MapKept.heap_alloc wr _).1
        have hr0 : ((wr.alloc (.cells #[.string (dig p.val)] 29)).alloc (.cells #[.int .u8 6, .int .u8 0, .int .i64 0] 64)).heap[wr.heap.size + 1]? = some (.cells #[.int .u8 6, .int .u8 0, .int .i64 0] 64 (0, 0)) := by
          have := (MapKept.heap_alloc (wr.alloc (.cells #[.string (dig p.val)] 29)) (.cells #[.int .u8 6, .int .u8 0, .int .i64 0] 64)).1
          rw [show (wr.alloc (.cells #[.string (dig p.val)] 29)).heap.size = wr.heap.size + 1 by simp] at this
          exact this
        go_upto_region 8 with fail
        generalize ((wr.alloc (.cells #[.string (dig p.val)] 29)).alloc (.cells #[.int .u8 6, .int .u8 0, .int .i64 0] 64)) = W2 at B2 hp0 hr0 ⊢
        generalize wr.heap.size + 1 = rs at hr0 ⊢
        obtain ⟨pk, hpk⟩ : ∃ pk, pk = wr.heap.size := ⟨_, rfl⟩
        rw [← hpk] at hp0 ⊢
        have HPK : Hid _ := hpk
        clear hpk
        have HB2 : Hid (Below w1.heap.size w1 W2) := HB.out.trans (B2.mono HB.out.size)
        have h2s := HB2.out.size
        clear B2
        have HRR : Hid (∀ k, k < Q.length → ∀ c, c < 6 → W2.cell? ⟨rb, k * 6 + c, none⟩ = (rkd (rl (Q.getD k 0)) (Q.getD k 0))[c]?) := fun k hk c hc => by
          have h := HR.out.1 k hk c hc
          have h9 : c < (rkd (rl (Q.getD k 0)) (Q.getD k 0)).length := hc
          rw [List.getElem?_eq_getElem h9] at h ⊢
          exact ((HB1.out.trans (HB2.out.mono HB1.out.size)).cell (p := ⟨rb, k * 6 + c, none⟩) (lt_of_cell h)).trans h
        go_wp2_with fail
        go_loopw [38, 9, 10] (fun vk v9 v10 wx => ∃ (k : Nat) (F G : List (Fin 50)) (fa : Option Addr) (fc : Nat) (ga : Option Addr) (gc : Nat), k ≤ Q.length ∧ vk = .int .i64 k ∧ v9 = .slice fa F.length fc ∧ v10 = .slice ga G.length gc ∧ Below W2.heap.size W2 wx ∧ RkOwn wx W2.heap.size (.slice fa F.length fc) F (fun _ => 6) ∧ RkOwn wx W2.heap.size (.slice ga G.length gc) G rl ∧ Apart (.slice fa F.length fc) (.slice ga G.length gc) ∧ Hid (F = (Q.take k).filter (fun q => decide (nt q = p)) ∧ G = (Q.take k).filter (fun q => !decide (nt q = p)))) (fun vk _ _ _ => Q.length - (intOf vk).toNat)
        case atStart => exact ⟨0, [], [], none, 0, none, 0, Nat.zero_le _, rfl, rfl, rfl, Below.refl _ _, ⟨rfl, .inl ⟨rfl, rfl⟩⟩, ⟨rfl, .inl ⟨rfl, rfl⟩⟩, apart_nil _, rfl, rfl⟩
        case round =>
          obtain ⟨k, F, G, fa, fc, ga, gc, hk, rfl, rfl, rfl, hbx, oF, oG, hap, hFG⟩ := hrel
          have hFl : F.length ≤ k := by rw [hFG.out.1]; exact Nat.le_trans (List.length_filter_le _ _) (by simp; omega)
          have hGl : G.length ≤ k := by rw [hFG.out.2]; exact Nat.le_trans (List.length_filter_le _ _) (by simp; omega)
          by_cases hkn : k < Q.length
          · have hkn' : (k : Int) < (Q.length : Int) := by omega
            obtain ⟨q, hq⟩ : ∃ q, Q.getD k 0 = q := ⟨_, rfl⟩
            have get : ∀ c v, c < 6 → (rkd (rl q) q)[c]? = some v → wr.cell? ⟨rb, k * 6 + c, none⟩ = some v := fun c v hc hv => by
              have h := HRR.out k hkn c hc
              rw [hq, hv] at h
              exact (hbx.cell (p := ⟨rb, k * 6 + c, none⟩) (lt_of_cell h)).trans h
            have e0 : wr.cell? ⟨rb, k * 6, none⟩ = some (.string (kd q)) := get 0 _ (by omega) rfl
            have e1 : wr.cell? ⟨rb, k * 6 + 1, none⟩ = some (.int .u16 (ka q)) := get 1 _ (by omega) rfl
            have e2 : wr.cell? ⟨rb, k * 6 + 2, none⟩ = some (.int .u8 (rl q)) := get 2 _ (by omega) rfl
            have e3 : wr.cell? ⟨rb, k * 6 + 3, none⟩ = some (.int .u8 0) := get 3 _ (by omega) rfl
            have e4 : wr.cell? ⟨rb, k * 6 + 4, none⟩ = some (.int .i64 0) := get 4 _ (by omega) rfl
            have e5 : wr.cell? ⟨rb, k * 6 + 5, none⟩ = some (.bool false) := get 5 _ (by omega) rfl
            have HQ : Hid _ := hq
            clear get hq
            have b3 := bal (o := .cells #[.string (kd q), .int .u16 (ka q), .int .u8 (rl q), .int .u8 0, .int .i64 0, .bool false] 66) (Below.refl _ wr)
            have BC := (MapKept.heap_alloc wr (.cells #[.string (kd q), .int .u16 (ka q), .int .u8 (rl q), .int .u8 0, .int .i64 0, .bool false] 66)).1
            have oF3 := owns_alloc oF (.cells #[.string (kd q), .int .u16 (ka q), .int .u8 (rl q), .int .u8 0, .int .i64 0, .bool false] 66)
            have oG3 := owns_alloc oG (.cells #[.string (kd q), .int .u16 (ka q), .int .u8 (rl q), .int .u8 0, .int .i64 0, .bool false] 66)
            have hb3 := hbx.trans (b3.mono hbx.size)
            clear oF oG b3 hbx
            go_upto_region 11 with fail
            generalize wr.alloc (.cells #[.string (kd q), .int .u16 (ka q), .int .u8 (rl q), .int .u8 0, .int .i64 0, .bool false] 66) = W4 at BC oF3 oG3 hb3 ⊢
            generalize wr.heap.size = cb at BC ⊢
            clear e0 e1 e2 e3 e4 e5
            have hps : pk < W2.heap.size := lt_of_heap hp0
            have hrs : rs < W2.heap.size := lt_of_heap hr0
            have p4 : W4.cell? ⟨pk, 0, none⟩ = some (.string (dig p.val)) := cell_of ((hb3.block _ hps).trans hp0) rfl
            have r40 : W4.cell? ⟨rs, 0, none⟩ = some (.int .u8 6) := cell_of ((hb3.block _ hrs).trans hr0) rfl
            have r41 : W4.cell? ⟨rs, 1, none⟩ = some (.int .u8 0) := cell_of ((hb3.block _ hrs).trans hr0) rfl
            have r42 : W4.cell? ⟨rs, 2, none⟩ = some (.int .i64 0) := cell_of ((hb3.block _ hrs).trans hr0) rfl
            have c0 : W4.cell? ⟨cb, 0, none⟩ = some (.string (kd q)) := cell_of BC rfl
            have c1 : W4.cell? ⟨cb, 1, none⟩ = some (.int .u16 (ka q)) := cell_of BC rfl
            have c2 : W4.cell? ⟨cb, 2, none⟩ = some (.int .u8 (rl q)) := cell_of BC rfl
            have c3 : W4.cell? ⟨cb, 3, none⟩ = some (.int .u8 0) := cell_of BC rfl
            have c4 : W4.cell? ⟨cb, 4, none⟩ = some (.int .i64 0) := cell_of BC rfl
            have c5 : W4.cell? ⟨cb, 5, none⟩ = some (.bool false) := cell_of BC rfl
            have hs3 := hb3.size
            have HB3 : Hid _ := hb3
            clear BC hb3
            have hee := he q p
            clear he
            by_cases hN : nt q = p
            · have hd : decide (nt q = p) = true := decide_eq_true hN
              rw [hd] at hee
              have HD : Hid _ := hd
              clear hN hd
              have hown := owns_alloc oF3 (.cells #[.string (kd q), .int .u16 (ka q), .int .u8 6, .int .u8 0, .int .i64 0, .bool false] 66)
              have hoth := owns_alloc oG3 (.cells #[.string (kd q), .int .u16 (ka q), .int .u8 6, .int .u8 0, .int .i64 0, .bool false] 66)
              have HO : Hid _ := And.intro hoth hap
              have ha1 : ∀ j u, (rkd 6 q)[j]? = some u → (W4.alloc (.cells #[.string (kd q), .int .u16 (ka q), .int .u8 6, .int .u8 0, .int .i64 0, .bool false] 66)).cell? ((⟨W4.heap.size, 0, none⟩ : Addr).add j) = some u := by
                intro j u hj
                rw [add0, Nat.zero_add]
                refine cell_of (MapKept.heap_alloc W4 _).1 ?_
                rw [← List.getElem?_toArray] at hj
                exact hj
              have ha2 : ∀ u ∈ rkd 6 q, u.oneCell' = true := by
                intro u hu
                simp at hu
                rcases hu with rfl | rfl | rfl | rfl | rfl | rfl <;> rfl
              clear oF3 oG3 hoth hap
              go_wp2_with (at_builtin; refine wpList_append_own_at _ rfl (.tmp 47) (.tmp 52) 69 rfl W2.heap.size 66 i66 _ 6 48 Ybaf.underlying69 hi66 z0 z1 z2 rfl (by omega) _ F.length _ rfl hown ⟨W4.heap.size, 0, none⟩ 1 1 (rkd 6 q) rfl rfl ha1 ha2 (by unfold maxLen; omega) (by omega) (by simp; omega) ?nAP)
              case nAP =>
              intro v' w' hown' hgr _ hat
              obtain ⟨va', c', rfl⟩ := own_shape hown'
              have HN : Hid (Below W2.heap.size W2 w' ∧ RkOwn w' W2.heap.size (.slice va' (F.length + 1) c') (F ++ [q]) (fun _ => 6) ∧ RkOwn w' W2.heap.size (.slice ga G.length gc) G rl ∧ Apart (.slice va' (F.length + 1) c') (.slice ga G.length gc)) := by
                have hb4 : Below W2.heap.size W2 (W4.alloc (.cells #[.string (kd q), .int .u16 (ka q), .int .u8 6, .int .u8 0, .int .i64 0, .bool false] 66)) := HB3.out.trans ((bal (Below.refl _ W4)).mono HB3.out.size)
                refine ⟨hb4.trans (Gr_of_own hown hgr hb4.size), ?_, own_other HO.out.1 hgr HO.out.2.symm, (apart_step HO.out.1 HO.out.2.symm (by rw [show (W4.alloc (.cells #[.string (kd q), .int .u16 (ka q), .int .u8 6, .int .u8 0, .int .i64 0, .bool false] 66)).heap.size = W4.heap.size + 1 by simp]; exact hat)).symm⟩
                show World.ownsRow _ _ _ _ _ _ _
                rw [rkF_snoc, List.length_append, List.length_singleton]
                exact hown'
              clear hown hown' hgr hat ha1 ha2 HO
              go_wp2_with fail
              go_roundw
              case rel => exact ⟨k + 1, F ++ [q], G, va', c', ga, gc, by omega, by go_num, by rw [List.length_append, List.length_singleton], rfl, HN.out.1, by rw [List.length_append, List.length_singleton]; simpa [rkF_snoc, RkOwn] using HN.out.2.1, HN.out.2.2.1, by rw [List.length_append, List.length_singleton]; exact HN.out.2.2.2, filt_yes hkn HQ.out HD.out hFG.out⟩
              case measure => simp [intOf]; omega
            · have hd : decide (nt q = p) = false := decide_eq_false hN
              rw [hd] at hee
              have HD : Hid _ := hd
              clear hN hd
              have hown := owns_alloc oG3 (.cells #[.string (kd q), .int .u16 (ka q), .int .u8 (rl q), .int .u8 0, .int .i64 0, .bool false] 66)
              have hoth := owns_alloc oF3 (.cells #[.string (kd q), .int .u16 (ka q), .int .u8 (rl q), .int .u8 0, .int .i64 0, .bool false] 66)
              have HO : Hid _ := And.intro hoth hap
              have ha1 : ∀ j u, (rkd (rl q) q)[j]? = some u → (W4.alloc (.cells #[.string (kd q), .int .u16 (ka q), .int .u8 (rl q), .int .u8 0, .int .i64 0, .bool false] 66)).cell? ((⟨W4.heap.size, 0, none⟩ : Addr).add j) = some u := by
                intro j u hj
                rw [add0, Nat.zero_add]
                refine cell_of (MapKept.heap_alloc W4 _).1 ?_
                rw [← List.getElem?_toArray] at hj
                exact hj
              have ha2 : ∀ u ∈ rkd (rl q) q, u.oneCell' = true := by
                intro u hu
                simp at hu
                rcases hu with rfl | rfl | rfl | rfl | rfl | rfl <;> rfl
              clear oF3 oG3 hoth hap
              go_wp2_with (at_builtin; refine wpList_append_own_at _ rfl (.tmp 54) (.tmp 56) 69 rfl W2.heap.size 66 i66 _ 6 48 Ybaf.underlying69 hi66 z0 z1 z2 rfl (by omega) _ G.length _ rfl hown ⟨W4.heap.size, 0, none⟩ 1 1 (rkd (rl q) q) rfl rfl ha1 ha2 (by unfold maxLen; omega) (by omega) (by simp; omega) ?nBP)
              case nBP =>
              intro v' w' hown' hgr _ hat
              obtain ⟨va', c', rfl⟩ := own_shape hown'
              have HN : Hid (Below W2.heap.size W2 w' ∧ RkOwn w' W2.heap.size (.slice fa F.length fc) F (fun _ => 6) ∧ RkOwn w' W2.heap.size (.slice va' (G.length + 1) c') (G ++ [q]) rl ∧ Apart (.slice fa F.length fc) (.slice va' (G.length + 1) c')) := by
                have hb4 : Below W2.heap.size W2 (W4.alloc (.cells #[.string (kd q), .int .u16 (ka q), .int .u8 (rl q), .int .u8 0, .int .i64 0, .bool false] 66)) := HB3.out.trans ((bal (Below.refl _ W4)).mono HB3.out.size)
                refine ⟨hb4.trans (Gr_of_own hown hgr hb4.size), own_other HO.out.1 hgr HO.out.2, ?_, apart_step HO.out.1 HO.out.2 (by rw [show (W4.alloc (.cells #[.string (kd q), .int .u16 (ka q), .int .u8 (rl q), .int .u8 0, .int .i64 0, .bool false] 66)).heap.size = W4.heap.size + 1 by simp]; exact hat)⟩
                show World.ownsRow _ _ _ _ _ _ _
                rw [rkF_snoc, List.length_append, List.length_singleton]
                exact hown'
              clear hown hown' hgr hat ha1 ha2 HO
              go_wp2_with fail
              go_roundw
              case rel => exact ⟨k + 1, F, G ++ [q], fa, fc, va', c', by omega, by go_num, rfl, by rw [List.length_append, List.length_singleton], HN.out.1, HN.out.2.1, by rw [List.length_append, List.length_singleton]; simpa [rkF_snoc, RkOwn] using HN.out.2.2.1, by rw [List.length_append, List.length_singleton]; exact HN.out.2.2.2, filt_no hkn HQ.out HD.out hFG.out⟩
              case measure => simp [intOf]; omega
          · have e : k = Q.length := by omega
            subst e
            have hnl : ¬ (Q.length : Int) < (Q.length : Int) := by omega
            obtain ⟨hF, hG⟩ := hFG.out
            rw [List.take_length] at hF hG
            have HE : Hid (Below w1.heap.size w1 wr ∧ w.heap.size ≤ W2.heap.size) := ⟨HB2.out.trans (hbx.mono HB2.out.size), Nat.le_trans HB1.out.size h2s⟩
            by_cases hF0 : 0 < F.length
            · have hF0' : (0 : Int) < (F.length : Int) := by omega
              have HG : Hid (RegP w wr Q rl rpd el n15 (.slice (some ⟨rb, 0, none⟩) Q.length rcap) (.slice fa F.length fc) (.slice ga G.length gc)) := by
                refine ⟨HB1.out.trans (HE.out.1.mono HB1.out.size), .inl ⟨i, hin, hno.out, ?_, ?_, ?_⟩⟩
                · obtain ⟨q, hq⟩ : ∃ q, q ∈ F := ⟨F.getD 0 0, getD_mem hF0⟩
                  rw [hF, List.mem_filter] at hq
                  rw [HP.out]
                  exact ⟨q, hq.1, by simpa using hq.2⟩
                · rw [HP.out, ← hF]
                  rw [show (fun _ : Fin 50 => if i = 0 then (6 : Int) else 7) = fun _ => 6 by funext _; exact if_pos HI0.out]
                  exact own_base oF HE.out.2
                · rw [HP.out, ← hG]
                  exact own_base oG HE.out.2
              clear oF oG hap hbx hF hG hFG
              go_wp2_with fail
              exact bodyPost_ret (v := .tuple #[.slice fa F.length fc, .slice ga G.length gc]) (by simp [results, Ybaf.results16]) rfl ⟨_, _, rfl, HG.out⟩
            · have hF0' : ¬ (0 : Int) < (F.length : Int) := by omega
              have hno' : Hid (∀ j, j < i + 1 → ∀ q ∈ Q, nt q ≠ Pl rpd el j) := fun j hj q hq => by
                by_cases ej : j = i
                · rw [ej, HP.out]
                  intro e
                  have hm : q ∈ F := by rw [hF, List.mem_filter]; exact ⟨hq, by simp [e]⟩
                  have := List.length_pos_of_mem hm
                  omega
                · exact hno.out j (by omega) q hq
              clear oF oG hap hbx hF hG hFG
              go_wp2_with fail
              go_roundw
              case rel => exact ⟨i + 1, by omega, by go_num, HE.out.1, hno'⟩
              case measure => simp [intOf]; omega
      · have hib : ((i : Int) == 0) = false := by simp [hi0]
        have HI0 : Hid (¬ i = 0) := hi0
        clear hi0
        have B2 : Below wr.heap.size wr ((wr.alloc (.cells #[.string (dig p.val)] 29)).alloc (.cells #[.int .u8 7, .int .u8 0, .int .i64 0] 64)) := bal (bal (Below.refl _ _))
        have hp0 : ((wr.alloc (.cells #[.string (dig p.val)] 29)).alloc (.cells #[.int .u8 7, .int .u8 0, .int .i64 0] 64)).heap[wr.heap.size]? = some (.cells #[.string (dig p.val)] 29 (0, 0)) := (Below.heap_alloc _ _ _ (by simp)).trans (MapKept.heap_alloc wr _).1
        have hr0 : ((wr.alloc (.cells #[.string (dig p.val)] 29)).alloc (.cells #[.int .u8 7, .int .u8 0, .int .i64 0] 64)).heap[wr.heap.size + 1]? = some (.cells #[.int .u8 7, .int .u8 0, .int .i64 0] 64 (0, 0)) := by
          have := (MapKept.heap_alloc (wr.alloc (.cells #[.string (dig p.val)] 29)) (.cells #[.int .u8 7, .int .u8 0, .int .i64 0] 64)).1
          rw [show (wr.alloc (.cells #[.string (dig p.val)] 29)).heap.size = wr.heap.size + 1 by simp] at this
          exact this
        go_upto_region 8 with fail
        generalize ((wr.alloc (.cells #[.string (dig p.val)] 29)).alloc (.cells #[.int .u8 7, .int .u8 0, .int .i64 0] 64)) = W2 at B2 hp0 hr0 ⊢
        generalize wr.heap.size + 1 = rs at hr0 ⊢
        obtain ⟨pk, hpk⟩ : ∃ pk, pk = wr.heap.size := ⟨_, rfl⟩
        rw [← hpk] at hp0 ⊢
        have HPK : Hid _ := hpk
        clear hpk
        have HB2 : Hid (Below w1.heap.size w1 W2) := HB.out.trans (B2.mono HB.out.size)
        have h2s := HB2.out.size
        clear B2
        have HRR : Hid (∀ k, k < Q.length → ∀ c, c < 6 → W2.cell? ⟨rb, k * 6 + c, none⟩ = (rkd (rl (Q.getD k 0)) (Q.getD k 0))[c]?) := fun k hk c hc => by
          have h := HR.out.1 k hk c hc
          have h9 : c < (rkd (rl (Q.getD k 0)) (Q.getD k 0)).length := hc
          rw [List.getElem?_eq_getElem h9] at h ⊢
          exact ((HB1.out.trans (HB2.out.mono HB1.out.size)).cell (p := ⟨rb, k * 6 + c, none⟩) (lt_of_cell h)).trans h
        go_wp2_with fail
        go_loopw [38, 9, 10] (fun vk v9 v10 wx => ∃ (k : Nat) (F G : List (Fin 50)) (fa : Option Addr) (fc : Nat) (ga : Option Addr) (gc : Nat), k ≤ Q.length ∧ vk = .int .i64 k ∧ v9 = .slice fa F.length fc ∧ v10 = .slice ga G.length gc ∧ Below W2.heap.size W2 wx ∧ RkOwn wx W2.heap.size (.slice fa F.length fc) F (fun _ => 7) ∧ RkOwn wx W2.heap.size (.slice ga G.length gc) G rl ∧ Apart (.slice fa F.length fc) (.slice ga G.length gc) ∧ Hid (F = (Q.take k).filter (fun q => decide (nt q = p)) ∧ G = (Q.take k).filter (fun q => !decide (nt q = p)))) (fun vk _ _ _ => Q.length - (intOf vk).toNat)
        case atStart => exact ⟨0, [], [], none, 0, none, 0, Nat.zero_le _, rfl, rfl, rfl, Below.refl _ _, ⟨rfl, .inl ⟨rfl, rfl⟩⟩, ⟨rfl, .inl ⟨rfl, rfl⟩⟩, apart_nil _, rfl, rfl⟩
        case round =>
          obtain ⟨k, F, G, fa, fc, ga, gc, hk, rfl, rfl, rfl, hbx, oF, oG, hap, hFG⟩ := hrel
          have hFl : F.length ≤ k := by rw [hFG.out.1]; exact Nat.le_trans (List.length_filter_le _ _) (by simp; omega)
          have hGl : G.length ≤ k := by rw [hFG.out.2]; exact Nat.le_trans (List.length_filter_le _ _) (by simp; omega)
          by_cases hkn : k < Q.length
          · have hkn' : (k : Int) < (Q.length : Int) := by omega
            obtain ⟨q, hq⟩ : ∃ q, Q.getD k 0 = q := ⟨_, rfl⟩
            have get : ∀ c v, c < 6 → (rkd (rl q) q)[c]? = some v → wr.cell? ⟨rb, k * 6 + c, none⟩ = some v := fun c v hc hv => by
              have h := HRR.out k hkn c hc
              rw [hq, hv] at h
              exact (hbx.cell (p := ⟨rb, k * 6 + c, none⟩) (lt_of_cell h)).trans h
            have e0 : wr.cell? ⟨rb, k * 6, none⟩ = some (.string (kd q)) := get 0 _ (by omega) rfl
            have e1 : wr.cell? ⟨rb, k * 6 + 1, none⟩ = some (.int .u16 (ka q)) := get 1 _ (by omega) rfl
            have e2 : wr.cell? ⟨rb, k * 6 + 2, none⟩ = some (.int .u8 (rl q)) := get 2 _ (by omega) rfl
            have e3 : wr.cell? ⟨rb, k * 6 + 3, none⟩ = some (.int .u8 0) := get 3 _ (by omega) rfl
            have e4 : wr.cell? ⟨rb, k * 6 + 4, none⟩ = some (.int .i64 0) := get 4 _ (by omega) rfl
            have e5 : wr.cell? ⟨rb, k * 6 + 5, none⟩ = some (.bool false) := get 5 _ (by omega) rfl
            have HQ : Hid _ := hq
            clear get hq
            have b3 := bal (o := .cells #[.string (kd q), .int .u16 (ka q), .int .u8 (rl q), .int .u8 0, .int .i64 0, .bool false] 66) (Below.refl _ wr)
            have BC := (MapKept.heap_alloc wr (.cells #[.string (kd q), .int .u16 (ka q), .int .u8 (rl q), .int .u8 0, .int .i64 0, .bool false] 66)).1
            have oF3 := owns_alloc oF (.cells #[.string (kd q), .int .u16 (ka q), .int .u8 (rl q), .int .u8 0, .int .i64 0, .bool false] 66)
            have oG3 := owns_alloc oG (.cells #[.string (kd q), .int .u16 (ka q), .int .u8 (rl q), .int .u8 0, .int .i64 0, .bool false] 66)
            have hb3 := hbx.trans (b3.mono hbx.size)
            clear oF oG b3 hbx
            go_upto_region 11 with fail
            generalize wr.alloc (.cells #[.string (kd q), .int .u16 (ka q), .int .u8 (rl q), .int .u8 0, .int .i64 0, .bool false] 66) = W4 at BC oF3 oG3 hb3 ⊢
            generalize wr.heap.size = cb at BC ⊢
            clear e0 e1 e2 e3 e4 e5
            have hps : pk < W2.heap.size := lt_of_heap hp0
            have hrs : rs < W2.heap.size := lt_of_heap hr0
            have p4 : W4.cell? ⟨pk, 0, none⟩ = some (.string (dig p.val)) := cell_of ((hb3.block _ hps).trans hp0) rfl
            have r40 : W4.cell? ⟨rs, 0, none⟩ = some (.int .u8 7) := cell_of ((hb3.block _ hrs).trans hr0) rfl
            have r41 : W4.cell? ⟨rs, 1, none⟩ = some (.int .u8 0) := cell_of ((hb3.block _ hrs).trans hr0) rfl
            have r42 : W4.cell? ⟨rs, 2, none⟩ = some (.int .i64 0) := cell_of ((hb3.block _ hrs).trans hr0) rfl
            have c0 : W4.cell? ⟨cb, 0, none⟩ = some (.string (kd q)) := cell_of BC rfl
            have c1 : W4.cell? ⟨cb, 1, none⟩ = some (.int .u16 (ka q)) := cell_of BC rfl
            have c2 : W4.cell? ⟨cb, 2, none⟩ = some (.int .u8 (rl q)) := cell_of BC rfl
            have c3 : W4.cell? ⟨cb, 3, none⟩ = some (.int .u8 0) := cell_of BC rfl
            have c4 : W4.cell? ⟨cb, 4, none⟩ = some (.int .i64 0) := cell_of BC rfl
            have c5 : W4.cell? ⟨cb, 5, none⟩ = some (.bool false) := cell_of BC rfl
            have hs3 := hb3.size
            have HB3 : Hid _ := hb3
            clear BC hb3
            have hee := he q p
            clear he
            by_cases hN : nt q = p
            · have hd : decide (nt q = p) = true := decide_eq_true hN
              rw [hd] at hee
              have HD : Hid _ := hd
              clear hN hd
              have hown := owns_alloc oF3 (.cells #[.string (kd q), .int .u16 (ka q), .int .u8 7, .int .u8 0, .int .i64 0, .bool false] 66)
              have hoth := owns_alloc oG3 (.cells #[.string (kd q), .int .u16 (ka q), .int .u8 7, .int .u8 0, .int .i64 0, .bool false] 66)
              have HO : Hid _ := And.intro hoth hap
              have ha1 : ∀ j u, (rkd 7 q)[j]? = some u → (W4.alloc (.cells #[.string (kd q), .int .u16 (ka q), .int .u8 7, .int .u8 0, .int .i64 0, .bool false] 66)).cell? ((⟨W4.heap.size, 0, none⟩ : Addr).add j) = some u := by
                intro j u hj
                rw [add0, Nat.zero_add]
                refine cell_of (MapKept.heap_alloc W4 _).1 ?_
                rw [← List.getElem?_toArray] at hj
                exact hj
              have ha2 : ∀ u ∈ rkd 7 q, u.oneCell' = true := by
                intro u hu
                simp at hu
                rcases hu with rfl | rfl | rfl | rfl | rfl | rfl <;> rfl
              clear oF3 oG3 hoth hap
              go_wp2_with (at_builtin; refine wpList_append_own_at _ rfl (.tmp 47) (.tmp 52) 69 rfl W2.heap.size 66 i66 _ 6 48 Ybaf.underlying69 hi66 z0 z1 z2 rfl (by omega) _ F.length _ rfl hown ⟨W4.heap.size, 0, none⟩ 1 1 (rkd 7 q) rfl rfl ha1 ha2 (by unfold maxLen; omega) (by omega) (by simp; omega) ?nAQ)
              case nAQ =>
              intro v' w' hown' hgr _ hat
              obtain ⟨va', c', rfl⟩ := own_shape hown'
              have HN : Hid (Below W2.heap.size W2 w' ∧ RkOwn w' W2.heap.size (.slice va' (F.length + 1) c') (F ++ [q]) (fun _ => 7) ∧ RkOwn w' W2.heap.size (.slice ga G.length gc) G rl ∧ Apart (.slice va' (F.length + 1) c') (.slice ga G.length gc)) := by
                have hb4 : Below W2.heap.size W2 (W4.alloc (.cells #[.string (kd q), .int .u16 (ka q), .int .u8 7, .int .u8 0, .int .i64 0, .bool false] 66)) := HB3.out.trans ((bal (Below.refl _ W4)).mono HB3.out.size)
                refine ⟨hb4.trans (Gr_of_own hown hgr hb4.size), ?_, own_other HO.out.1 hgr HO.out.2.symm, (apart_step HO.out.1 HO.out.2.symm (by rw [show (W4.alloc (.cells #[.string (kd q), .int .u16 (ka q), .int .u8 7, .int .u8 0, .int .i64 0, .bool false] 66)).heap.size = W4.heap.size + 1 by simp]; exact hat)).symm⟩
                show World.ownsRow _ _ _ _ _ _ _
                rw [rkF_snoc, List.length_append, List.length_singleton]
                exact hown'
              clear hown hown' hgr hat ha1 ha2 HO
              go_wp2_with fail
              go_roundw
              case rel => exact ⟨k + 1, F ++ [q], G, va', c', ga, gc, by omega, by go_num, by rw [List.length_append, List.length_singleton], rfl, HN.out.1, by rw [List.length_append, List.length_singleton]; simpa [rkF_snoc, RkOwn] using HN.out.2.1, HN.out.2.2.1, by rw [List.length_append, List.length_singleton]; exact HN.out.2.2.2, filt_yes hkn HQ.out HD.out hFG.out⟩
              case measure => simp [intOf]; omega
            · have hd : decide (nt q = p) = false := decide_eq_false hN
              rw [hd] at hee
              have HD : Hid _ := hd
              clear hN hd
              have hown := owns_alloc oG3 (.cells #[.string (kd q), .int .u16 (ka q), .int .u8 (rl q), .int .u8 0, .int .i64 0, .bool false] 66)
              have hoth := owns_alloc oF3 (.cells #[.string (kd q), .int .u16 (ka q), .int .u8 (rl q), .int .u8 0, .int .i64 0, .bool false] 66)
              have HO : Hid _ := And.intro hoth hap
              have ha1 : ∀ j u, (rkd (rl q) q)[j]? = some u → (W4.alloc (.cells #[.string (kd q), .int .u16 (ka q), .int .u8 (rl q), .int .u8 0, .int .i64 0, .bool false] 66)).cell? ((⟨W4.heap.size, 0, none⟩ : Addr).add j) = some u := by
                intro j u hj
                rw [add0, Nat.zero_add]
                refine cell_of (MapKept.heap_alloc W4 _).1 ?_
                rw [← List.getElem?_toArray] at hj
                exact hj
              have ha2 : ∀ u ∈ rkd (rl q) q, u.oneCell' = true := by
                intro u hu
                simp at hu
                rcases hu with rfl | rfl | rfl | rfl | rfl | rfl <;> rfl
              clear oF3 oG3 hoth hap
              go_wp2_with (at_builtin; refine wpList_append_own_at _ rfl (.tmp 54) (.tmp 56) 69 rfl W2.heap.size 66 i66 _ 6 48 Ybaf.underlying69 hi66 z0 z1 z2 rfl (by omega) _ G.length _ rfl hown ⟨W4.heap.size, 0, none⟩ 1 1 (rkd (rl q) q) rfl rfl ha1 ha2 (by unfold maxLen; omega) (by omega) (by simp; omega) ?nBQ)
              case nBQ =>
              intro v' w' hown' hgr _ hat
              obtain ⟨va', c', rfl⟩ := own_shape hown'
              have HN : Hid (Below W2.heap.size W2 w' ∧ RkOwn w' W2.heap.size (.slice fa F.length fc) F (fun _ => 7) ∧ RkOwn w' W2.heap.size (.slice va' (G.length + 1) c') (G ++ [q]) rl ∧ Apart (.slice fa F.length fc) (.slice va' (G.length + 1) c')) := by
                have hb4 : Below W2.heap.size W2 (W4.alloc (.cells #[.string (kd q), .int .u16 (ka q), .int .u8 (rl q), .int .u8 0, .int .i64 0, .bool false] 66)) := HB3.out.trans ((bal (Below.refl _ W4)).mono HB3.out.size)
                refine ⟨hb4.trans (Gr_of_own hown hgr hb4.size), own_other HO.out.1 hgr HO.out.2, ?_, apart_step HO.out.1 HO.out.2 (by rw [show (W4.alloc (.cells #[.string (kd q), .int .u16 (ka q), .int .u8 (rl q), .int .u8 0, .int .i64 0, .bool false] 66)).heap.size = W4.heap.size + 1 by simp]; exact hat)⟩
                show World.ownsRow _ _ _ _ _ _ _
                rw [rkF_snoc, List.length_append, List.length_singleton]
                exact hown'
              clear hown hown' hgr hat ha1 ha2 HO
              go_wp2_with fail
              go_roundw
              case rel => exact ⟨k + 1, F, G ++ [q], fa, fc, va', c', by omega, by go_num, rfl, by rw [List.length_append, List.length_singleton], HN.out.1, HN.out.2.1, by rw [List.length_append, List.length_singleton]; simpa [rkF_snoc, RkOwn] using HN.out.2.2.1, by rw [List.length_append, List.length_singleton]; exact HN.out.2.2.2, filt_no hkn HQ.out HD.out hFG.out⟩
              case measure => simp [intOf]; omega
          · have e : k = Q.length := by omega
            subst e
            have hnl : ¬ (Q.length : Int) < (Q.length : Int) := by omega
            obtain ⟨hF, hG⟩ := hFG.out
            rw [List.take_length] at hF hG
            have HE : Hid (Below w1.heap.size w1 wr ∧ w.heap.size ≤ W2.heap.size) := ⟨HB2.out.trans (hbx.mono HB2.out.size), Nat.le_trans HB1.out.size h2s⟩
            by_cases hF0 : 0 < F.length
            · have hF0' : (0 : Int) < (F.length : Int) := by omega
              have HG : Hid (RegP w wr Q rl rpd el n15 (.slice (some ⟨rb, 0, none⟩) Q.length rcap) (.slice fa F.length fc) (.slice ga G.length gc)) := by
                refine ⟨HB1.out.trans (HE.out.1.mono HB1.out.size), .inl ⟨i, hin, hno.out, ?_, ?_, ?_⟩⟩
                · obtain ⟨q, hq⟩ : ∃ q, q ∈ F := ⟨F.getD 0 0, getD_mem hF0⟩
                  rw [hF, List.mem_filter] at hq
                  rw [HP.out]
                  exact ⟨q, hq.1, by simpa using hq.2⟩
                · rw [HP.out, ← hF]
                  rw [show (fun _ : Fin 50 => if i = 0 then (6 : Int) else 7) = fun _ => 7 by funext _; exact if_neg HI0.out]
                  exact own_base oF HE.out.2
                · rw [HP.out, ← hG]
                  exact own_base oG HE.out.2
              clear oF oG hap hbx hF hG hFG
              go_wp2_with fail
              exact bodyPost_ret (v := .tuple #[.slice fa F.length fc, .slice ga G.length gc]) (by simp [results, Ybaf.results16]) rfl ⟨_, _, rfl, HG.out⟩
            · have hF0' : ¬ (0 : Int) < (F.length : Int) := by omega
              have hno' : Hid (∀ j, j < i + 1 → ∀ q ∈ Q, nt q ≠ Pl rpd el j) := fun j hj q hq => by
                by_cases ej : j = i
                · rw [ej, HP.out]
                  intro e
                  have hm : q ∈ F := by rw [hF, List.mem_filter]; exact ⟨hq, by simp [e]⟩
                  have := List.length_pos_of_mem hm
                  omega
                · exact hno.out j (by omega) q hq
              clear oF oG hap hbx hF hG hFG
              go_wp2_with fail
              go_roundw
              case rel => exact ⟨i + 1, by omega, by go_num, HE.out.1, hno'⟩
              case measure => simp [intOf]; omega
    · have e : i = 1 + n15 := by omega
      subst e
      have hnl : ¬ ((1 + n15 : Nat) : Int) < 1 + (n15 : Int) := by omega
      have HG : Hid (RegP w wr Q rl rpd el n15 (.slice (some ⟨rb, 0, none⟩) Q.length rcap) (.slice none 0 0) (.slice (some ⟨rb, 0, none⟩) Q.length rcap)) := ⟨HB1.out.trans (HB.out.mono HB1.out.size), .inr ⟨hno.out, rfl, rfl⟩⟩
      clear hbw
      go_wp2_with fail
      exact bodyPost_ret (v := .tuple #[.slice none 0 0, .slice (some ⟨rb, 0, none⟩) Q.length rcap]) (by simp [results, Ybaf.results16]) rfl ⟨_, _, rfl, HG.out⟩
end Go.Proofs.YbulkcuegFmt
