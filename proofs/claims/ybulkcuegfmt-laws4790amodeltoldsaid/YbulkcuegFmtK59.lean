import Derived.Test.YbulkcuegFmtRank0
namespace Go.Proofs.YbulkcuegFmt
open Go.RowKit Go.Maps

set_option maxRecDepth 1000000 in
set_option maxHeartbeats 2000000 in
theorem K59 (rb db cap sb : Nat) (ks E : List (Fin 50)) (S : Prop) (dl hl : List Int) (hi : Fin 50 → Bool) (lo : Fin 50 → Int) (w : World)
    (s4 s5 s6 s7 s9 s10 s11 s12 s13 s16 s17 s18 s19 s20 s21 s23 s24 s25 s26 s27 s28 s29 s30 s31 s32 s33 s34 s35 s36 s37 s38 s39 s40 s41 s42 s43 s44 s45 s46 s47 s48 s49 s50 s51 s52 s53 s54 s55 s56 s57 s58 s59 s60 s61 s62 s63 s64 s65 s66 s67 s68 s69 s70 s71 s72 s73 s74 s75 s76 s77 s78 s79 s80 s81 s82 s83 s84 s85 s86 s87 s88 s89 s90 s91 s92 s93 s94 s95 s96 s97 s98 s99 s100 s101 s102 s103 s104 s105 s106 s107 s108 s109 s110 s111 s112 s113 s114 s115 s116 s117 s118 s119 s120 s121 s122 s123 s124 s125 s126 s127 s128 s129 s130 s131 s132 s133 s134 s135 s136 s137 s138 s139 s140 s141 s142 s143 s144 s145 s146 s147 s148 s149 s150 s151 s152 s153 s154 s155 s156 s157 s158 s159 s160 s161 s162 s163 s164 s165 s166 s167 s168 s169 s170 s171 s172 s173 s174 s175 s176 s177 s178 s179 s180 s181 s182 s183 s184 s185 s186 s187 s188 s189 s190 s191 s192 s193 s194 s195 s196 s197 s198 s199 s200 s201 s202 s203 s204 s205 s206 s207 s208 s209 s210 s211 s212 s213 s214 s215 s216 s217 s218 s219 s220 s221 s222 s223 s224 s225 s226 s227 s228 s229 s230 s231 s232 s233 s234 s235 s236 s237 s238 s239 s240 s241 s242 s243 s244 s245 s246 s247 s248 s249 s250 s251 s252 s253 s254 s255 s256 s257 s258 s259 s260 s261 s262 s263 s264 s265 s266 s267 s268 s269 s270 s271 s272 s273 s274 s275 s276 s277 s278 s279 s280 s281 s282 s283 s284 s285 s286 s287 s288 s289 s290 s291 s292 s293 s294 s295 s296 s297 s298 s299 s300 s301 s302 s303 : Value)
    (K : Act → World → Prop) (zb gb rv bl top : Nat) (sa : Option Addr) (sn sc : Nat) (D : Nat → Int) (W : World)
    (hK : ∀ a w', Code.wp Ybaf.prog (spine 14 (Ybaf.f27.body.getD .skip)) (bodyPost Ybaf.prog Ybaf.f27 fun e w' => ∃ vr vs, e = .returned (.agg #[vr, vs]) ∧ RankP w w' db sb E S hi dl hl lo vr vs) a w' → K a w')
    (hm : ks.length ≤ 50) (hEm : E.length ≤ ks.length) (R : R5 w W db sb zb gb rv bl cap top E (.slice sa sn sc) S D (candE dl hl hi lo)) (O : OrdOk hi E dl hl lo D) :
    Code.wp Ybaf.prog (headAt 13 (Ybaf.f27.body.getD .skip)) (Exit.then K (bodyPost Ybaf.prog Ybaf.f27 fun e w' => ∃ vr vs, e = .returned (.agg #[vr, vs]) ∧ RankP w w' db sb E S hi dl hl lo vr vs)) ⟨List.toArray (.pointer (some ⟨rb, 0, none⟩) :: .slice (some ⟨db, 0, none⟩) ks.length cap :: .iface 49 (.pointer (some ⟨sb, 0, none⟩)) :: .bool false :: s4 :: s5 :: s6 :: s7 :: .pointer (some ⟨zb, 0, none⟩) :: s9 :: s10 :: s11 :: s12 :: s13 :: .pointer (some ⟨gb, 0, none⟩) :: .pointer (some ⟨rv, 0, none⟩) :: s16 :: s17 :: s18 :: s19 :: s20 :: s21 :: .slice (some ⟨bl, 0, none⟩) E.length E.length :: s23 :: s24 :: s25 :: s26 :: s27 :: s28 :: s29 :: s30 :: s31 :: s32 :: s33 :: s34 :: s35 :: s36 :: s37 :: s38 :: s39 :: s40 :: s41 :: s42 :: s43 :: s44 :: s45 :: s46 :: s47 :: s48 :: s49 :: s50 :: s51 :: s52 :: s53 :: s54 :: s55 :: s56 :: s57 :: s58 :: s59 :: s60 :: s61 :: s62 :: s63 :: s64 :: s65 :: s66 :: s67 :: s68 :: s69 :: s70 :: s71 :: s72 :: s73 :: s74 :: s75 :: s76 :: s77 :: s78 :: s79 :: s80 :: s81 :: s82 :: s83 :: s84 :: s85 :: s86 :: s87 :: s88 :: s89 :: s90 :: s91 :: s92 :: s93 :: s94 :: s95 :: s96 :: s97 :: s98 :: s99 :: s100 :: s101 :: s102 :: s103 :: s104 :: s105 :: s106 :: s107 :: s108 :: s109 :: s110 :: s111 :: s112 :: s113 :: s114 :: s115 :: s116 :: s117 :: s118 :: s119 :: s120 :: s121 :: s122 :: s123 :: s124 :: s125 :: s126 :: s127 :: s128 :: s129 :: s130 :: s131 :: s132 :: s133 :: s134 :: s135 :: s136 :: s137 :: s138 :: s139 :: s140 :: s141 :: s142 :: s143 :: s144 :: s145 :: s146 :: s147 :: s148 :: s149 :: s150 :: s151 :: s152 :: s153 :: s154 :: s155 :: s156 :: s157 :: s158 :: s159 :: s160 :: s161 :: s162 :: s163 :: s164 :: s165 :: s166 :: s167 :: s168 :: s169 :: s170 :: s171 :: s172 :: s173 :: s174 :: s175 :: s176 :: s177 :: s178 :: s179 :: s180 :: s181 :: s182 :: s183 :: s184 :: s185 :: s186 :: s187 :: s188 :: s189 :: s190 :: s191 :: s192 :: s193 :: s194 :: s195 :: s196 :: s197 :: s198 :: s199 :: s200 :: s201 :: s202 :: s203 :: s204 :: s205 :: s206 :: s207 :: s208 :: s209 :: s210 :: s211 :: s212 :: s213 :: s214 :: s215 :: s216 :: s217 :: s218 :: s219 :: s220 :: s221 :: s222 :: s223 :: s224 :: s225 :: s226 :: s227 :: s228 :: s229 :: s230 :: s231 :: s232 :: s233 :: s234 :: s235 :: s236 :: s237 :: s238 :: s239 :: s240 :: s241 :: s242 :: s243 :: s244 :: s245 :: s246 :: s247 :: s248 :: s249 :: s250 :: s251 :: s252 :: s253 :: s254 :: s255 :: s256 :: s257 :: s258 :: s259 :: s260 :: s261 :: s262 :: s263 :: s264 :: s265 :: s266 :: s267 :: s268 :: s269 :: s270 :: s271 :: s272 :: s273 :: s274 :: s275 :: s276 :: s277 :: s278 :: s279 :: s280 :: s281 :: s282 :: s283 :: s284 :: s285 :: s286 :: s287 :: s288 :: s289 :: s290 :: s291 :: s292 :: s293 :: s294 :: s295 :: s296 :: s297 :: s298 :: s299 :: s300 :: s301 :: s302 :: s303 :: []), []⟩ W := by
  conv => arg 2; whnf
  conv at hK => enter [a, w', 1, 2]; whnf
  obtain ⟨i66, hi66, hz0, hz1, hz2⟩ := info_parts info66
  have v0 : W.cell? ⟨rv, 0, none⟩ = some (.slice (some ⟨db, 0, none⟩) E.length cap) := cell_of R.v rfl
  have HR : Hid _ := And.intro R O
  clear R O
  go_wp2_with (at_make; refine wpList_make_full _ rfl (.tmp 272) (.tmp 272) 69 rfl w.heap.size 66 i66 _ 6 Ybaf.underlying69 hi66 hz0 hz1 .i64 .i64 E.length E.length E.length rfl rfl rfl rfl ?b2 ?b3 ?b4 ?next)
  case b2 => rw [hz2]; omega
  case b3 => unfold maxLen; omega
  case b4 => exact HR.out.1.g.size
  case next =>
  intro w1 ho hgr
  have F0 := row_made6 (g := W.heap.size) (by simpa using ho) (rk6 (fun k => ruleOf (clsOf hi (E.getD (D k).toNat 0))) (fun k => E.getD (D k).toNat 0))
  have hb1 : Below W.heap.size W w1 := ⟨hgr.os, hgr.tape, hgr.output, hgr.size, fun k hk => hgr.block k hk (by simp)⟩
  have k0 : w1.cell? ⟨gb, 0, none⟩ = some (.slice none 0 0) := cell_of ((hb1.block _ (lt_of_heap HR.out.1.k)).trans HR.out.1.k) rfl
  have k1 : w1.frozen? ⟨gb, 0, none⟩ = false := fz_of ((hb1.block _ (lt_of_heap HR.out.1.k)).trans HR.out.1.k)
  have HS : Hid _ := And.intro (R6.start HR.out.1 hb1 F0) HR.out.2
  clear F0 hb1 hgr ho HR
  go_upto_region 60 with fail
  generalize w1.setCell ⟨gb, 0, none⟩ (.slice (some ⟨W.heap.size, 0, none⟩) E.length E.length) = W2 at HS ⊢
  generalize W.heap.size = ob at HS ⊢
  clear k0 k1 v0
  go_wp2_with fail
  go_loopw [277] (fun vi wr => ∃ k : Nat, k ≤ E.length ∧ vi = .int .i64 k ∧ R6 w wr db sb zb gb rv bl ob cap top E (.slice sa sn sc) S D (candE dl hl hi lo) (rk6 (fun k => ruleOf (clsOf hi (E.getD (D k).toNat 0))) (fun k => E.getD (D k).toNat 0)) k) (fun vi _ => E.length - (intOf vi).toNat)
  case atStart => exact ⟨0, Nat.zero_le _, rfl, HS.out.1⟩
  case round =>
    obtain ⟨k, hk, rfl, R⟩ := hrel
    by_cases hkn : k < E.length
    · have hkn' : (k : Int) < (E.length : Int) := by omega
      obtain ⟨i, hDi, hi'⟩ := HS.out.2.lt hkn
      have hii : (i : Int) < (E.length : Int) := by omega
      have x0 := R.o.get hkn
      rw [hDi] at x0
      have x1 : wr.cell? ⟨rv, 0, none⟩ = some (.slice (some ⟨db, 0, none⟩) E.length cap) := cell_of R.v rfl
      have x2 : wr.cell? ⟨gb, 0, none⟩ = some (.slice (some ⟨ob, 0, none⟩) E.length E.length) := cell_of R.k rfl
      have e0 : wr.cell? ⟨db, i * 10, none⟩ = some (.string (kd (E.getD i 0))) := R.c.get (c := 0) hi' (by omega) rfl
      have e1 : wr.cell? ⟨db, i * 10 + 1, none⟩ = some (.int .u16 (ka (E.getD i 0))) := R.c.get (c := 1) hi' (by omega) rfl
      have e3 : wr.cell? ⟨db, i * 10 + 3, none⟩ = some (.int .u8 (ruleOf (clsOf hi (E.getD i 0)))) := R.c.get (c := 3) hi' (by omega) rfl
      have e4 : wr.cell? ⟨db, i * 10 + 4, none⟩ = some (.int .u8 0) := R.c.get (c := 4) hi' (by omega) rfl
      have e5 : wr.cell? ⟨db, i * 10 + 5, none⟩ = some (.int .i64 0) := R.c.get (c := 5) hi' (by omega) rfl
      have e9 : wr.cell? ⟨db, i * 10 + 9, none⟩ = some (.bool false) := R.c.get (c := 9) hi' (by omega) rfl
      obtain ⟨⟨t0, y0⟩, z0⟩ := R.r.there (o := k * 6) (by omega)
      obtain ⟨⟨t1, y1⟩, z1⟩ := R.r.there (o := k * 6 + 1) (by omega)
      obtain ⟨⟨t2, y2⟩, z2⟩ := R.r.there (o := k * 6 + 2) (by omega)
      obtain ⟨⟨t3, y3⟩, z3⟩ := R.r.there (o := k * 6 + 3) (by omega)
      obtain ⟨⟨t4, y4⟩, z4⟩ := R.r.there (o := k * 6 + 4) (by omega)
      obtain ⟨⟨t5, y5⟩, z5⟩ := R.r.there (o := k * 6 + 5) (by omega)
      have n1 : db ≠ ob := by have := R.lt; omega
      have n2 : gb ≠ ob := by have := R.lt; omega
      have n3 : rv ≠ ob := by have := R.lt; omega
      have HN : Hid (R6 w (put6 wr ob (k * 6) (.string (kd (E.getD i 0))) (.int .u16 (ka (E.getD i 0))) (.int .u8 (ruleOf (clsOf hi (E.getD i 0)))) (.int .u8 0) (.int .i64 0) (.bool false)) db sb zb gb rv bl ob cap top E (.slice sa sn sc) S D (candE dl hl hi lo) (rk6 (fun k => ruleOf (clsOf hi (E.getD (D k).toNat 0))) (fun k => E.getD (D k).toNat 0)) (k + 1)) :=
        R.put hkn _ _ _ _ _ _ (by simp only [rk6, hDi, Int.toNat_natCast]) (by simp only [rk6, hDi, Int.toNat_natCast]) (by simp only [rk6, hDi, Int.toNat_natCast]) rfl rfl rfl
      have HDi : Hid _ := hDi
      clear R hDi
      generalize E.getD i 0 = q at *
      go_wp2_with fail
      go_region
      go_wp2_with fail
      go_roundw
      case rel => exact ⟨k + 1, by omega, by go_num, HN.out.below (Below.drew (Below.refl _ _))⟩
      case measure => simp [intOf]; omega
    · have e : k = E.length := by omega
      subst e
      have hnl : ¬ (E.length : Int) < (E.length : Int) := by omega
      have x0 : wr.cell? ⟨gb, 0, none⟩ = some (.slice (some ⟨ob, 0, none⟩) E.length E.length) := cell_of R.k rfl
      have x1 : wr.cell? ⟨gb, 1, none⟩ = some (.slice sa sn sc) := cell_of R.k rfl
      have y0 : wr.cell? ⟨zb, 0, none⟩ = some (.slice none 0 0) := cell_of R.z rfl
      have y1 : wr.cell? ⟨zb, 1, none⟩ = some (.slice none 0 0) := cell_of R.z rfl
      have z0 : wr.frozen? ⟨zb, 0, none⟩ = false := fz_of R.z
      have z1 : wr.frozen? ⟨zb, 1, none⟩ = false := fz_of R.z
      have hz2 := heap_set (k := 1) (.slice sa sn sc) (heap_set (k := 0) (.slice (some ⟨ob, 0, none⟩) E.length E.length) R.z)
      have u0 : ((wr.setCell ⟨zb, 0, none⟩ (.slice (some ⟨ob, 0, none⟩) E.length E.length)).setCell ⟨zb, 1, none⟩ (.slice sa sn sc)).cell? ⟨zb, 0, none⟩ = some (.slice (some ⟨ob, 0, none⟩) E.length E.length) := cell_of hz2 rfl
      have u1 : ((wr.setCell ⟨zb, 0, none⟩ (.slice (some ⟨ob, 0, none⟩) E.length E.length)).setCell ⟨zb, 1, none⟩ (.slice sa sn sc)).cell? ⟨zb, 1, none⟩ = some (.slice sa sn sc) := cell_of hz2 rfl
      have HF : Hid (RankP w ((wr.setCell ⟨zb, 0, none⟩ (.slice (some ⟨ob, 0, none⟩) E.length E.length)).setCell ⟨zb, 1, none⟩ (.slice sa sn sc)) db sb E S hi dl hl lo (.slice (some ⟨ob, 0, none⟩) E.length E.length) (.slice sa sn sc)) := by
        have lt := R.lt
        have ne : ∀ b, b ≠ zb → ((wr.setCell ⟨zb, 0, none⟩ (.slice (some ⟨ob, 0, none⟩) E.length E.length)).setCell ⟨zb, 1, none⟩ (.slice sa sn sc)).heap[b]? = wr.heap[b]? := fun b hb => (Below.heap_setCell _ _ _ _ hb).trans (Below.heap_setCell _ _ _ _ hb)
        refine ⟨R.g.new (gr1 _ (gr1 _ (World.grownBy.refl _ _))) (by omega), ⟨top, R.a.keep (fun b h1 h2 ⟨u, hu⟩ => ne b (fun e => ?_))⟩, D, HS.out.2, ob, E.length, rfl, by omega, by simpa [World.setCell] using R.r.lt, fun i hi c hc => ?_⟩
        · subst e
          simp [World.cell?, R.z] at hu
        · rw [World.cell?_of_block (w := wr) (a := ⟨ob, i * 6 + c, none⟩) (ne ob (by omega))]
          exact R.r.get (by omega) hc
      clear R hz2
      go_wp2_with fail
      generalize (wr.setCell ⟨zb, 0, none⟩ (.slice (some ⟨ob, 0, none⟩) E.length E.length)).setCell ⟨zb, 1, none⟩ (.slice sa sn sc) = W9 at u0 u1 HF ⊢
      exact bodyPost_ret (v := .agg #[.slice (some ⟨ob, 0, none⟩) E.length E.length, .slice sa sn sc]) (by simp [results, Ybaf.results27, go_sem, u0, u1]) rfl ⟨_, _, rfl, HF.out⟩
end Go.Proofs.YbulkcuegFmt
