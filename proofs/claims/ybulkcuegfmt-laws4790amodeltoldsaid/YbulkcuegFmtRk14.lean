import Derived.Test.YbulkcuegFmtRks
import Derived.Test.YbulkcuegFmtProf2
namespace Go.Proofs.YbulkcuegFmt
open Go.RowKit Go.Maps

/-- the ranker, made -/
def RkP (w w' : World) (dl hl : List Int) (n6 : Nat) (fl : Nat → Fin 5) (rb : Nat) : Prop := ∃ mb hb hcap nb n, RS w w' rb mb hb hcap nb n (ordK dl dl.length) (hoK dl hl hl.length) ∧ ∀ d, nb d ≠ none ↔ ∃ i, i < n6 ∧ fl i = d
/-- what the ranker reads of the profile -/
structure PF (w : World) (pb : Nat) (a2 : Option Addr) (dl : List Int) (k2 : Nat) (a3 : Option Addr) (hl : List Int) (k3 : Nat) (a6 : Option Addr) (n6 k6 : Nat) (fl : Nat → Fin 5) : Prop where
  lt : pb < w.heap.size
  c2 : w.cell? ⟨pb, 2, none⟩ = some (.slice a2 dl.length k2)
  c3 : w.cell? ⟨pb, 3, none⟩ = some (.slice a3 hl.length k3)
  c4 : w.cell? ⟨pb, 4, none⟩ = some (.slice none 0 0)
  c5 : w.cell? ⟨pb, 5, none⟩ = some (.slice none 0 0)
  c6 : w.cell? ⟨pb, 6, none⟩ = some (.slice a6 n6 k6)
  c8 : w.cell? ⟨pb, 8, none⟩ = some (.bool false)
  c10 : w.cell? ⟨pb, 10, none⟩ = some (.bool false)
  r2 : RowV w (.slice a2 dl.length k2) dl.length (fun i => .int .u16 (dl.getD i 0))
  r3 : RowV w (.slice a3 hl.length k3) hl.length (fun i => .int .u16 (hl.getD i 0))
  r6 : RowV w (.slice a6 n6 k6) n6 (fun i => .string (dig (fl i).val))
  d2 : dl.Nodup ∧ ∀ x ∈ dl, 0 ≤ x ∧ x < 9
  d3 : hl.Nodup ∧ ∀ x ∈ hl, 0 ≤ x ∧ x < 9
  n6 : n6 ≤ 300
  n2 : dl.length ≤ 300
  n3 : hl.length ≤ 300
theorem ix115_0 (w : World) : (Instr.index 115 (.agg #[.int .u8 2, .slice none 0 0, .int .u8 3, .slice none 0 0]) (.int .i64 0)).run Ybaf.prog w = .ok (.agg #[.int .u8 2, .slice none 0 0]) w := by kernel_rfl
theorem ix115_1 (w : World) : (Instr.index 115 (.agg #[.int .u8 2, .slice none 0 0, .int .u8 3, .slice none 0 0]) (.int .i64 1)).run Ybaf.prog w = .ok (.agg #[.int .u8 3, .slice none 0 0]) w := by kernel_rfl
theorem RowV.get {W : World} {va : Option Addr} {cap n : Nat} {f : Nat → Value} (h : RowV W (.slice va n cap) n f) {i : Nat} (hi : i < n) : ∃ b o, va = some ⟨b, o, none⟩ ∧ W.cell? ⟨b, o + i, none⟩ = some (f i) := by
  rcases h with ⟨_, h⟩ | ⟨b, o, cap', h1, h2, h3⟩
  · omega
  · injection h1 with h1 _ _
    exact ⟨b, o, h1, h3 i hi⟩

set_option maxRecDepth 1000000 in
set_option maxHeartbeats 2000000 in
theorem RK14 (pb : Nat) (a2 : Option Addr) (dl : List Int) (k2 : Nat) (a3 : Option Addr) (hl : List Int) (k3 : Nat) (a6 : Option Addr) (n6 k6 : Nat) (fl : Nat → Fin 5) (w : World)
    (s1 s2 s4 s5 s6 s7 s8 s9 s10 s11 s12 s13 s14 s15 s16 s17 s18 s19 s20 s21 s22 s23 s24 s25 s26 s27 s28 s29 s30 s31 s32 s33 s34 s35 s36 s37 s38 s39 s40 s41 s42 s43 s44 s45 s46 s47 s48 s49 s50 s51 s52 s53 s54 s55 s56 s57 s58 s59 s60 s61 s62 s63 s64 s65 s66 s67 s68 s69 s70 s71 s72 s73 s74 s75 s76 s77 s78 s79 s80 s81 s82 s83 s84 s85 s86 s87 s88 s89 s90 s91 s92 s93 s94 s95 s96 s97 s98 s99 s100 s101 s102 s103 s104 s105 s106 s107 s108 s109 s110 s111 s112 s113 s114 s115 s116 s117 s118 s119 s120 s121 s122 s123 s124 s125 s126 s127 s128 s129 s130 s131 s132 s133 s134 s135 s136 s137 s138 s139 s140 s141 s142 s143 s144 s145 s146 s147 s148 s149 s150 s151 s152 s153 s154 s155 s156 s157 s158 s159 s160 s161 s162 s163 s164 s165 s166 s167 s168 s169 s170 s171 s172 s173 : Value)
    (K : Act → World → Prop) (rb mb hb hcap : Nat) (W : World)
    (hK : ∀ a w', Code.wp Ybaf.prog (spine 6 (Ybaf.f14.body.getD .skip)) (bodyPost Ybaf.prog Ybaf.f14 fun e w' => ∃ rb, e = .returned (.pointer (some ⟨rb, 0, none⟩)) ∧ RkP w w' dl hl n6 fl rb) a w' → K a w')
    (P : PF w pb a2 dl k2 a3 hl k3 a6 n6 k6 fl) (R : RS w W rb mb hb hcap (fun _ => none) 0 (ordK dl dl.length) (hoK dl hl hl.length)) :
    Code.wp Ybaf.prog (headAt 5 (Ybaf.f14.body.getD .skip)) (Exit.then K (bodyPost Ybaf.prog Ybaf.f14 fun e w' => ∃ rb, e = .returned (.pointer (some ⟨rb, 0, none⟩)) ∧ RkP w w' dl hl n6 fl rb)) ⟨List.toArray (.pointer (some ⟨pb, 0, none⟩) :: s1 :: s2 :: .pointer (some ⟨rb, 0, none⟩) :: s4 :: s5 :: s6 :: s7 :: s8 :: s9 :: s10 :: s11 :: s12 :: s13 :: s14 :: s15 :: s16 :: s17 :: s18 :: s19 :: s20 :: s21 :: s22 :: s23 :: s24 :: s25 :: s26 :: s27 :: s28 :: s29 :: s30 :: s31 :: s32 :: s33 :: s34 :: s35 :: s36 :: s37 :: s38 :: s39 :: s40 :: s41 :: s42 :: s43 :: s44 :: s45 :: s46 :: s47 :: s48 :: s49 :: s50 :: s51 :: s52 :: s53 :: s54 :: s55 :: s56 :: s57 :: s58 :: s59 :: s60 :: s61 :: s62 :: s63 :: s64 :: s65 :: s66 :: s67 :: s68 :: s69 :: s70 :: s71 :: s72 :: s73 :: s74 :: s75 :: s76 :: s77 :: s78 :: s79 :: s80 :: s81 :: s82 :: s83 :: s84 :: s85 :: s86 :: s87 :: s88 :: s89 :: s90 :: s91 :: s92 :: s93 :: s94 :: s95 :: s96 :: s97 :: s98 :: s99 :: s100 :: s101 :: s102 :: s103 :: s104 :: s105 :: s106 :: s107 :: s108 :: s109 :: s110 :: s111 :: s112 :: s113 :: s114 :: s115 :: s116 :: s117 :: s118 :: s119 :: s120 :: s121 :: s122 :: s123 :: s124 :: s125 :: s126 :: s127 :: s128 :: s129 :: s130 :: s131 :: s132 :: s133 :: s134 :: s135 :: s136 :: s137 :: s138 :: s139 :: s140 :: s141 :: s142 :: s143 :: s144 :: s145 :: s146 :: s147 :: s148 :: s149 :: s150 :: s151 :: s152 :: s153 :: s154 :: s155 :: s156 :: s157 :: s158 :: s159 :: s160 :: s161 :: s162 :: s163 :: s164 :: s165 :: s166 :: s167 :: s168 :: s169 :: s170 :: s171 :: s172 :: s173 :: []), []⟩ W := by
  conv => arg 2; whnf
  conv at hK => enter [a, w', 1, 2]; whnf
  have c4 : W.cell? ⟨pb, 4, none⟩ = some (.slice none 0 0) := (R.b.cell (p := ⟨pb, 4, none⟩) P.lt).trans P.c4
  have c5 : W.cell? ⟨pb, 5, none⟩ = some (.slice none 0 0) := (R.b.cell (p := ⟨pb, 5, none⟩) P.lt).trans P.c5
  have HR : Hid _ := And.intro R P
  have c4a := cell_alloc (o := .cells #[.int .u8 0, .slice none 0 0, .int .u8 0, .slice none 0 0] 115) c4
  have c5a := cell_alloc (o := .cells #[.int .u8 0, .slice none 0 0, .int .u8 0, .slice none 0 0] 115) c5
  clear R P
  go_region
  have HB : Hid (Below W.heap.size W (W.alloc (.cells #[.int .u8 2, .slice none 0 0, .int .u8 3, .slice none 0 0] 115)).drew) := Below.drew (bal (Below.refl _ W))
  have k0 : (W.alloc (.cells #[.int .u8 2, .slice none 0 0, .int .u8 3, .slice none 0 0] 115)).drew.cell? ⟨W.heap.size, 0, none⟩ = some (.int .u8 2) := by simp [go_sem]
  have k1 : (W.alloc (.cells #[.int .u8 2, .slice none 0 0, .int .u8 3, .slice none 0 0] 115)).drew.cell? ⟨W.heap.size, 1, none⟩ = some (.slice none 0 0) := by simp [go_sem]
  have k2' : (W.alloc (.cells #[.int .u8 2, .slice none 0 0, .int .u8 3, .slice none 0 0] 115)).drew.cell? ⟨W.heap.size, 2, none⟩ = some (.int .u8 3) := by simp [go_sem]
  have k3' : (W.alloc (.cells #[.int .u8 2, .slice none 0 0, .int .u8 3, .slice none 0 0] 115)).drew.cell? ⟨W.heap.size, 3, none⟩ = some (.slice none 0 0) := by simp [go_sem]
  clear c4 c5 c4a c5a
  generalize (W.alloc (.cells #[.int .u8 2, .slice none 0 0, .int .u8 3, .slice none 0 0] 115)).drew = W1 at k0 k1 k2' k3' HB ⊢
  obtain ⟨N0, hN0⟩ : ∃ N0, N0 = W.heap.size := ⟨_, rfl⟩
  rw [← hN0] at k0 k1 k2' k3' ⊢
  clear hN0
  go_wp2_with fail
  have HB2 : Hid (Below W.heap.size W ((W1.alloc (.cells #[.int .u8 2, .slice none 0 0] 114)).alloc (.cells #[.int .u8 3, .slice none 0 0] 114))) := HB.out.trans ((bal (bal (Below.refl _ W1))).mono HB.out.size)
  have ix0 := ix115_0
  have ix1 := ix115_1
  refine wp_loop_rounds 3 ?_
  rw [rounds_succ]
  go_wp2_with fail
  refine wp_loop_rounds 1 ?_
  rw [rounds_succ]
  go_wp2_with fail
  rw [rounds_succ]
  go_wp2_with fail
  refine wp_loop_rounds 1 ?_
  rw [rounds_succ]
  go_wp2_with fail
  rw [rounds_succ]
  go_upto_region 33 with fail
  clear ix0 ix1 k0 k1 k2' k3' HB
  generalize (W1.alloc (.cells #[.int .u8 2, .slice none 0 0] 114)).alloc (.cells #[.int .u8 3, .slice none 0 0] 114) = W2 at HB2 ⊢
  obtain ⟨R0, P⟩ := HR.out
  have R := R0.below HB2.out
  have c6 : W2.cell? ⟨pb, 6, none⟩ = some (.slice a6 n6 k6) := (R.b.cell (p := ⟨pb, 6, none⟩) P.lt).trans P.c6
  have HR2 : Hid _ := And.intro R P
  have hn6 := P.n6
  clear R R0 P HR HB2
  go_wp2_with fail
  go_loopw [163] (fun vi wr => ∃ (k n : Nat) (nb : Fin 5 → Option Nat), k ≤ n6 ∧ n ≤ k ∧ vi = .int .i64 k ∧ RS w wr rb mb hb hcap nb n (ordK dl dl.length) (hoK dl hl hl.length) ∧ Hid (∀ d, nb d ≠ none ↔ ∃ i, i < k ∧ fl i = d)) (fun vi _ => n6 - (intOf vi).toNat)
  case atStart => exact ⟨0, 0, fun _ => none, Nat.zero_le _, Nat.le_refl _, rfl, HR2.out.1, fun d => ⟨fun h => absurd rfl h, fun ⟨i, hi, _⟩ => absurd hi (by omega)⟩⟩
  case round =>
    obtain ⟨k, n, nb, hk, hnk, rfl, R, hnb⟩ := hrel
    have P := HR2.out.2
    by_cases hkn : k < n6
    · have hkn' : (k : Int) < (n6 : Int) := by omega
      obtain ⟨eb, eo, rfl, ce⟩ := P.r6.get hkn
      have ce' := (R.b.cell (p := ⟨eb, eo + k, none⟩) (lt_of_cell ce)).trans ce
      have hcm : wr.cell? ⟨rb, 21, none⟩ = some (.map (some mb)) := cell_of R.r rfl
      have hcm2 := cell_alloc (o := .cells #[.string (dig (fl k).val)] 29) hcm
      have R2 := R.below (bal (o := .cells #[.string (dig (fl k).val)] 29) (Below.refl _ wr))
      cases hd : nb (fl k) with
      | some b =>
        have hcall := named_has rb mb n b nb (fl k) _ hcm2 R2.m hd
        have HF : Hid _ := And.intro R2 hd
        obtain ⟨_, _, hbb⟩ := R2.f _ _ hd
        clear hcm hcm2 R R2 P ce hd
        go_wp2_with fail
        refine hcall.mono ?_
        rintro e w1 ⟨rfl, hb1⟩
        have hbb1 := (hb1.block _ (lt_of_heap hbb)).trans hbb
        have x0 : w1.cell? ⟨b, 0, none⟩ = some (.bool true) := cell_of hbb1 rfl
        have x1 : w1.frozen? ⟨b, 0, none⟩ = false := fz_of hbb1
        have R3 : Hid _ := HF.out.1.mark hb1 HF.out.2
        have hns : nb (fl k) ≠ none := by rw [HF.out.2]; simp
        clear hb1 hbb hbb1 hcall
        go_wp2_with fail
        go_roundw
        case rel => exact ⟨k + 1, n, nb, by omega, by omega, by go_num, R3.out, fun d => by
          rw [hnb.out d]
          constructor
          · rintro ⟨i, h1, h2⟩
            exact ⟨i, by omega, h2⟩
          · rintro ⟨i, h1, h2⟩
            by_cases ei : i = k
            · subst ei
              rw [← hnb.out, ← h2]
              exact hns
            · exact ⟨i, by omega, h2⟩⟩
        case measure => simp [intOf]; omega
      | none =>
        have hcall := named_none rb mb n nb (fl k) _ (by omega) hcm2 R2.m hd
        have HF : Hid _ := And.intro R2 trivial
        clear hcm hcm2 R R2 P ce hd
        go_wp2_with fail
        refine hcall.mono ?_
        rintro e w1 ⟨b, hbl, rfl, hg1, hm1, hbb1⟩
        have x0 : w1.cell? ⟨b, 0, none⟩ = some (.bool false) := cell_of hbb1 rfl
        have x1 : w1.frozen? ⟨b, 0, none⟩ = false := fz_of hbb1
        have R3 : Hid _ := HF.out.1.name hbl hg1 hm1 hbb1
        clear hg1 hm1 hbb1 hcall hbl HF
        go_wp2_with fail
        go_roundw
        case rel => exact ⟨k + 1, n + 1, _, by omega, by omega, by go_num, R3.out, fun d => by
          by_cases ed : d = fl k
          · subst ed
            simp only [if_true]
            exact ⟨fun _ => ⟨k, by omega, rfl⟩, fun _ => by simp⟩
          · simp only [ed, if_false]
            rw [hnb.out d]
            constructor
            · rintro ⟨i, h1, h2⟩
              exact ⟨i, by omega, h2⟩
            · rintro ⟨i, h1, h2⟩
              exact ⟨i, by
                have : i ≠ k := fun e => ed (by rw [← e]; exact h2.symm)
                omega, h2⟩⟩
        case measure => simp [intOf]; omega
    · have e : n6 = k := by omega
      subst e
      have hnl : ¬ (n6 : Int) < (n6 : Int) := by omega
      have HF : Hid _ := And.intro R trivial
      clear R P
      go_wp2_with fail
      go_ret
      exact ⟨_, rfl, _, _, _, _, _, HF.out.1, hnb.out⟩
end Go.Proofs.YbulkcuegFmt
