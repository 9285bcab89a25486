import Derived.Test.YbulkcuegFmtRk14
namespace Go.Proofs.YbulkcuegFmt
open Go.RowKit Go.Maps

set_option maxRecDepth 1000000 in
set_option maxHeartbeats 2000000 in
theorem RK2 (pb : Nat) (a2 : Option Addr) (dl : List Int) (k2 : Nat) (a3 : Option Addr) (hl : List Int) (k3 : Nat) (a6 : Option Addr) (n6 k6 : Nat) (fl : Nat → Fin 5) (w : World)
    (s1 s2 s4 s5 s6 s7 s8 s9 s10 s11 s12 s13 s14 s15 s16 s17 s18 s19 s20 s21 s22 s23 s24 s25 s26 s27 s28 s29 s30 s31 s32 s33 s34 s35 s36 s37 s38 s39 s40 s41 s42 s43 s44 s45 s46 s47 s48 s49 s50 s51 s52 s53 s54 s55 s56 s57 s58 s59 s60 s61 s62 s63 s64 s65 s66 s67 s68 s69 s70 s71 s72 s73 s74 s75 s76 s77 s78 s79 s80 s81 s82 s83 s84 s85 s86 s87 s88 s89 s90 s91 s92 s93 s94 s95 s96 s97 s98 s99 s100 s101 s102 s103 s104 s105 s106 s107 s108 s109 s110 s111 s112 s113 s114 s115 s116 s117 s118 s119 s120 s121 s122 s123 s124 s125 s126 s127 s128 s129 s130 s131 s132 s133 s134 s135 s136 s137 s138 s139 s140 s141 s142 s143 s144 s145 s146 s147 s148 s149 s150 s151 s152 s153 s154 s155 s156 s157 s158 s159 s160 s161 s162 s163 s164 s165 s166 s167 s168 s169 s170 s171 s172 s173 : Value)
    (K : Act → World → Prop) (rb mb : Nat) (a7 : Option Addr) (k7 : Nat) (W : World)
    (hK : ∀ a w', Code.wp Ybaf.prog (spine 3 (Ybaf.f14.body.getD .skip)) (bodyPost Ybaf.prog Ybaf.f14 fun e w' => ∃ rb, e = .returned (.pointer (some ⟨rb, 0, none⟩)) ∧ RkP w w' dl hl n6 fl rb) a w' → K a w')
    (P : PF w pb a2 dl k2 a3 hl k3 a6 n6 k6 fl) (Z : W.heap[rb]? = some (.cells (rkC (fun _ => 0) (fun _ => 0) (.slice a7 1 k7) mb) 113 (0, 0))) (M : NMap W mb (fun _ => none) 0) (B : Below w.heap.size w W) (L : w.heap.size ≤ rb ∧ w.heap.size ≤ mb ∧ rb ≠ mb) (r7 : RowV w (.slice a7 1 k7) 1 (fun _ => .string (dig 1))) :
    Code.wp Ybaf.prog (headAt 2 (Ybaf.f14.body.getD .skip)) (Exit.then K (bodyPost Ybaf.prog Ybaf.f14 fun e w' => ∃ rb, e = .returned (.pointer (some ⟨rb, 0, none⟩)) ∧ RkP w w' dl hl n6 fl rb)) ⟨List.toArray (.pointer (some ⟨pb, 0, none⟩) :: s1 :: s2 :: .pointer (some ⟨rb, 0, none⟩) :: s4 :: s5 :: s6 :: s7 :: s8 :: s9 :: s10 :: s11 :: s12 :: s13 :: s14 :: s15 :: s16 :: s17 :: s18 :: s19 :: s20 :: s21 :: s22 :: s23 :: s24 :: s25 :: s26 :: s27 :: s28 :: s29 :: s30 :: s31 :: s32 :: s33 :: s34 :: s35 :: s36 :: s37 :: s38 :: s39 :: s40 :: s41 :: s42 :: s43 :: s44 :: s45 :: s46 :: s47 :: s48 :: s49 :: s50 :: s51 :: s52 :: s53 :: s54 :: s55 :: s56 :: s57 :: s58 :: s59 :: s60 :: s61 :: s62 :: s63 :: s64 :: s65 :: s66 :: s67 :: s68 :: s69 :: s70 :: s71 :: s72 :: s73 :: s74 :: s75 :: s76 :: s77 :: s78 :: s79 :: s80 :: s81 :: s82 :: s83 :: s84 :: s85 :: s86 :: s87 :: s88 :: s89 :: s90 :: s91 :: s92 :: s93 :: s94 :: s95 :: s96 :: s97 :: s98 :: s99 :: s100 :: s101 :: s102 :: s103 :: s104 :: s105 :: s106 :: s107 :: s108 :: s109 :: s110 :: s111 :: s112 :: s113 :: s114 :: s115 :: s116 :: s117 :: s118 :: s119 :: s120 :: s121 :: s122 :: s123 :: s124 :: s125 :: s126 :: s127 :: s128 :: s129 :: s130 :: s131 :: s132 :: s133 :: s134 :: s135 :: s136 :: s137 :: s138 :: s139 :: s140 :: s141 :: s142 :: s143 :: s144 :: s145 :: s146 :: s147 :: s148 :: s149 :: s150 :: s151 :: s152 :: s153 :: s154 :: s155 :: s156 :: s157 :: s158 :: s159 :: s160 :: s161 :: s162 :: s163 :: s164 :: s165 :: s166 :: s167 :: s168 :: s169 :: s170 :: s171 :: s172 :: s173 :: []), []⟩ W := by
  conv => arg 2; whnf
  conv at hK => enter [a, w', 1, 2]; whnf
  have z18 : W.cell? ⟨rb, 18, none⟩ = some (.slice a7 1 k7) := cell_of Z rfl
  have hcl := clonePlmn_rowB (.slice a7 1 k7) 1 (fun _ => .string (dig 1)) W (by omega) (r7.below B) (fun _ _ => rfl)
  have HZ : Hid _ := And.intro P (And.intro Z (And.intro M B))
  have hrl := lt_of_heap Z
  have hml := M.lt
  clear P Z M B r7
  go_wp2_with fail
  refine hcl.mono ?_
  rintro e W1 ⟨v', rfl, hr, hb1⟩
  obtain ⟨hb, hcap, rfl, hbl, hbs, hbc⟩ : ∃ b cap, v' = .slice (some ⟨b, 0, none⟩) 1 cap ∧ W.heap.size ≤ b ∧ b < W1.heap.size ∧ W1.cell? ⟨b, 0, none⟩ = some (.string (dig 1)) := by
    rcases hr with ⟨_, h⟩ | ⟨b, cap, h1, h2, h3, h4⟩
    · omega
    · exact ⟨b, cap, h1, h2, h3, h4 0 (by omega)⟩
  obtain ⟨P, Z, M, B⟩ := HZ.out
  have Z1 := (hb1.block _ hrl).trans Z
  have M1 := M.below hb1
  have B1 := B.trans (hb1.mono B.size)
  have z18' : W1.cell? ⟨rb, 18, none⟩ = some (.slice a7 1 k7) := cell_of Z1 rfl
  have zf : W1.frozen? ⟨rb, 18, none⟩ = false := fz_of Z1
  have R0 : RS w (W1.setCell ⟨rb, 18, none⟩ (.slice (some ⟨hb, 0, none⟩) 1 hcap)) rb mb hb hcap (fun _ => none) 0 (ordK dl 0) (hdK dl hl.length 0) := by
    have hw := B.size
    obtain ⟨l1, l2, l3⟩ := L
    refine ⟨B1.setCell (p := ⟨rb, 18, none⟩) l1 _, ?_, cell_set hbc (by show hb ≠ rb; omega), M1.of_block (Below.heap_setCell _ _ _ _ (Ne.symm l3)), fun d b e => (by cases e), l1, l2, by omega, l3, by omega, by omega⟩
    rw [heap_set _ Z1]
    have e1 : ordK dl 0 = fun _ => 0 := by funext y; simp [ordK]
    have e2 : hdK dl hl.length 0 = fun _ => 0 := by funext y; simp [hdK]
    rw [e1, e2]
    rfl
  have HP : Hid _ := And.intro P R0
  have HB : Hid (∀ wr, Below w.heap.size w wr → wr.cell? ⟨pb, 2, none⟩ = some (.slice a2 dl.length k2) ∧ wr.cell? ⟨pb, 3, none⟩ = some (.slice a3 hl.length k3)) := fun wr h => ⟨(h.cell (p := ⟨pb, 2, none⟩) P.lt).trans P.c2, (h.cell (p := ⟨pb, 3, none⟩) P.lt).trans P.c3⟩
  have hn2 := P.n2
  have hn3 := P.n3
  obtain ⟨x2, x3⟩ := HB.out _ R0.b
  clear P Z M B HZ hcl hr hb1 Z1 M1 B1 hbc hbs hbl z18 hrl hml R0
  go_upto_region 3 with fail
  generalize W1.setCell ⟨rb, 18, none⟩ (.slice (some ⟨hb, 0, none⟩) 1 hcap) = W2 at HP x2 x3 ⊢
  go_wp2_with fail
  go_loopw [43] (fun vi wr => ∃ k : Nat, k ≤ dl.length ∧ vi = .int .i64 k ∧ RS w wr rb mb hb hcap (fun _ => none) 0 (ordK dl k) (hdK dl hl.length k)) (fun vi _ => dl.length - (intOf vi).toNat)
  case atStart => exact ⟨0, Nat.zero_le _, rfl, HP.out.2⟩
  case round =>
    obtain ⟨k, hk, rfl, R⟩ := hrel
    obtain ⟨y2, y3⟩ := HB.out _ R.b
    by_cases hkn : k < dl.length
    · have hkn' : (k : Int) < (dl.length : Int) := by omega
      have P := HP.out.1
      obtain ⟨eb, eo, rfl, ce⟩ := P.r2.get hkn
      have hm : dl.getD k 0 ∈ dl := by simp [List.getD, hkn]
      obtain ⟨a, ha, hva⟩ : ∃ a : Nat, a < 9 ∧ dl.getD k 0 = (a : Int) := ⟨(dl.getD k 0).toNat, by have := P.d2.2 _ hm; omega, by have := P.d2.2 _ hm; omega⟩
      rw [hva] at ce
      have ce' : wr.cell? ⟨eb, eo + k, none⟩ = some (.int .u16 (a : Int)) := (R.b.cell (p := ⟨eb, eo + k, none⟩) (lt_of_cell ce)).trans ce
      have ha' : (a : Int) < 9 := by omega
      have o1 : wr.cell? ⟨rb, a, none⟩ = some (.int .i64 (ordK dl k a)) := cell_of R.r (rkC_go _ _ _ _ _ ha)
      have o2 : wr.frozen? ⟨rb, a, none⟩ = false := fz_of R.r
      have R1 := R.setO a ha ((k : Int) + 1)
      rw [ordK_step P.d2.1 hkn hva] at R1
      have h1 : (wr.setCell ⟨rb, a, none⟩ (.int .i64 ((k : Int) + 1))).cell? ⟨rb, 9 + a, none⟩ = some (.int .i64 (hdK dl hl.length k a)) := cell_of R1.r (rkC_gh _ _ _ _ _ ha)
      have h2 : (wr.setCell ⟨rb, a, none⟩ (.int .i64 ((k : Int) + 1))).frozen? ⟨rb, 9 + a, none⟩ = false := fz_of R1.r
      obtain ⟨_, y3'⟩ := HB.out _ R1.b
      have R2 := R1.setH a ha ((hl.length : Int) + (k : Int) + 1)
      rw [hdK_step P.d2.1 hl.length hkn hva] at R2
      have HR2 : Hid _ := And.intro R2 trivial
      clear R R1 R2 P ce hva hm
      go_upto_region 7 with fail
      generalize wr.setCell ⟨rb, a, none⟩ (.int .i64 ((k : Int) + 1)) = W3 at h1 h2 y3' HR2 ⊢
      go_region
      go_wp2_with fail
      go_roundw
      case rel => exact ⟨k + 1, by omega, by go_num, HR2.out.1.below (Below.drew (Below.refl _ _))⟩
      case measure => simp [intOf]; omega
    · have e : dl.length = k := by omega
      have hnl : ¬ (k : Int) < (dl.length : Int) := by omega
      rw [← e, hoK_start] at R
      have HR1 : Hid _ := And.intro R trivial
      clear R y2 x2 x3
      subst e
      go_wp2_with fail
      go_loopw [74] (fun vi wr => ∃ k : Nat, k ≤ hl.length ∧ vi = .int .i64 k ∧ RS w wr rb mb hb hcap (fun _ => none) 0 (ordK dl dl.length) (hoK dl hl k)) (fun vi _ => hl.length - (intOf vi).toNat)
      case atStart => exact ⟨0, Nat.zero_le _, rfl, HR1.out.1⟩
      case round =>
        obtain ⟨k, hk, rfl, R⟩ := hrel
        by_cases hkn : k < hl.length
        · have hkn' : (k : Int) < (hl.length : Int) := by omega
          have P := HP.out.1
          obtain ⟨eb, eo, rfl, ce⟩ := P.r3.get hkn
          have hm : hl.getD k 0 ∈ hl := by simp [List.getD, hkn]
          obtain ⟨a, ha, hva⟩ : ∃ a : Nat, a < 9 ∧ hl.getD k 0 = (a : Int) := ⟨(hl.getD k 0).toNat, by have := P.d3.2 _ hm; omega, by have := P.d3.2 _ hm; omega⟩
          rw [hva] at ce
          have ce' : wr.cell? ⟨eb, eo + k, none⟩ = some (.int .u16 (a : Int)) := (R.b.cell (p := ⟨eb, eo + k, none⟩) (lt_of_cell ce)).trans ce
          have ha' : (a : Int) < 9 := by omega
          have o1 : wr.cell? ⟨rb, 9 + a, none⟩ = some (.int .i64 (hoK dl hl k a)) := cell_of R.r (rkC_gh _ _ _ _ _ ha)
          have o2 : wr.frozen? ⟨rb, 9 + a, none⟩ = false := fz_of R.r
          have R1 := R.setH a ha ((k : Int) + 1)
          rw [hoK_step dl P.d3.1 hkn hva] at R1
          have HR2 : Hid _ := And.intro R1 trivial
          clear R R1 P ce hva hm
          go_wp2_with fail
          go_roundw
          case rel => exact ⟨k + 1, by omega, by go_num, HR2.out.1⟩
          case measure => simp [intOf]; omega
        · have e : hl.length = k := by omega
          have hnl : ¬ (k : Int) < (hl.length : Int) := by omega
          have HR2 : Hid _ := And.intro R trivial
          clear R
          subst e
          go_upto_region 14 with fail
          refine RK14 pb a2 dl k2 a3 hl k3 a6 n6 k6 fl w _ _ _ _ _ _ _ _ _ _ _ _ _ _ _ _ _ _ _ _ _ _ _ _ _ _ _ _ _ _ _ _ _ _ _ _ _ _ _ _ _ _ _ _ _ _ _ _ _ _ _ _ _ _ _ _ _ _ _ _ _ _ _ _ _ _ _ _ _ _ _ _ _ _ _ _ _ _ _ _ _ _ _ _ _ _ _ _ _ _ _ _ _ _ _ _ _ _ _ _ _ _ _ _ _ _ _ _ _ _ _ _ _ _ _ _ _ _ _ _ _ _ _ _ _ _ _ _ _ _ _ _ _ _ _ _ _ _ _ _ _ _ _ _ _ _ _ _ _ _ _ _ _ _ _ _ _ _ _ _ _ _ _ _ _ _ _ _ _ _ _ _ _ rb mb hb hcap _ ?_ HP.out.1 HR2.out.1
          assumption
end Go.Proofs.YbulkcuegFmt
