import Derived.Test.YbulkcuegFmtRank12
import Derived.Test.YbulkcuegFmtUniq
namespace Go.Proofs.YbulkcuegFmt
open Go.RowKit Go.Maps

/-- the candidate's own copy is written -/
theorem R3.side {w W : World} {db sb zb gb rv cap k : Nat} {ks E sl : List (Fin 50)} {vs : Value} {dl : List Int} {f h : Fin 50 → List Value} (r : R3 w W db sb zb gb rv cap k ks E sl vs dl f h) {cb : Nat} {x : Array Value} (hc : W.heap[cb]? = some (.cells x 129 (0, 0))) (hcb : rv < cb) (p : Nat) (v : Value) : R3 w (W.setCell ⟨cb, p, none⟩ v) db sb zb gb rv cap k ks E sl vs dl f h := by
  have lt := r.lt
  have kp : ∀ b, b ≠ cb → (W.setCell ⟨cb, p, none⟩ v).heap[b]? = W.heap[b]? := fun b hb => Below.heap_setCell _ _ _ _ hb
  refine ⟨⟨r.g.os, r.g.tape, r.g.output, Nat.le_trans r.g.size (by simp [World.setCell]), fun b h1 h2 => (kp b (by omega)).trans (r.g.block b h1 h2)⟩, (kp _ (by omega)).trans r.z, (kp _ (by omega)).trans r.gk, (kp _ (by omega)).trans r.v, ⟨r.a.1, ?_⟩, r.c.of_block (kp _ (by omega)), lt⟩
  rcases r.a.2 with h0 | ⟨g, c, cu, h1, h2, hh, h3⟩
  · exact .inl h0
  · exact .inr ⟨g, c, cu, h1, h2, (kp g (ne_heap hh hc (by intro e; injection e with _ e _; exact absurd e (by decide)))).trans hh, h3⟩
/-- what the loop has counted -/
structure Cnt (hi : Fin 50 → Bool) (dl : List Int) (nb : Fin 5 → Option Nat) (ks E sl : List (Fin 50)) (k L H : Nat) : Prop where
  e : E = (ks.take k).filter (elig dl nb)
  s : sl = (ks.take k).filter (fun q => !elig dl nb q)
  l : L = (idxs hi E 0 E.length).length
  h : H = (idxs hi E 1 E.length).length
theorem neq118 (b : Nat) (w : World) : (binOp .neq 118 (.pointer (some ⟨b, 0, none⟩)) (.pointer none)).run Ybaf.prog w = .ok (.bool true) w := by kernel_rfl
theorem neq118n (w : World) : (binOp .neq 118 (.pointer none) (.pointer none)).run Ybaf.prog w = .ok (.bool false) w := by kernel_rfl
theorem stepA {hi : Fin 50 → Bool} {dl : List Int} {nb : Fin 5 → Option Nat} {ks E sl : List (Fin 50)} {k L H : Nat} (c : Cnt hi dl nb ks E sl k L H) (hk : k < ks.length) {q : Fin 50} (hq : ks.getD k 0 = q) (he : elig dl nb q = false) : Cnt hi dl nb ks E (sl ++ [q]) (k + 1) L H := by
  refine ⟨?_, ?_, c.l, c.h⟩
  · rw [take_filter_snoc _ hk, hq, he, c.e]; simp
  · rw [take_filter_snoc _ hk, hq, he, c.s]; simp
theorem stepE {hi : Fin 50 → Bool} {dl : List Int} {nb : Fin 5 → Option Nat} {ks E sl : List (Fin 50)} {k L H : Nat} (c : Cnt hi dl nb ks E sl k L H) (hk : k < ks.length) {q : Fin 50} (hq : ks.getD k 0 = q) (he : elig dl nb q = true) (x : Int) (hx : clsOf hi q = x) : Cnt hi dl nb ks (E ++ [q]) sl (k + 1) (L + (if x = 0 then 1 else 0)) (H + (if x = 1 then 1 else 0)) := by
  refine ⟨?_, ?_, ?_, ?_⟩
  · rw [take_filter_snoc _ hk, hq, he, c.e]; simp
  · rw [take_filter_snoc _ hk, hq, he, c.s]; simp
  · rw [idxs_snoc, hx, List.length_append, ← c.l]; split <;> rfl
  · rw [idxs_snoc, hx, List.length_append, ← c.h]; split <;> rfl

set_option maxRecDepth 1000000 in
set_option maxHeartbeats 2000000 in
theorem K12 (rb db cap sb : Nat) (ks E : List (Fin 50)) (S : Prop) (dl hl : List Int) (hi : Fin 50 → Bool) (lo : Fin 50 → Int) (w : World)
    (s4 s5 s6 s7 s11 s12 s13 s14 s15 s16 s17 s18 s19 s20 s21 s22 s23 s24 s25 s26 s27 s28 s29 s30 s31 s32 s33 s34 s35 s36 s37 s38 s39 s40 s41 s42 s43 s44 s45 s46 s47 s48 s49 s50 s51 s52 s53 s54 s55 s56 s57 s58 s59 s60 s61 s62 s63 s64 s65 s66 s67 s68 s69 s70 s71 s72 s73 s74 s75 s76 s77 s78 s79 s80 s81 s82 s83 s84 s85 s86 s87 s88 s89 s90 s91 s92 s93 s94 s95 s96 s97 s98 s99 s100 s101 s102 s103 s104 s105 s106 s107 s108 s109 s110 s111 s112 s113 s114 s115 s116 s117 s118 s119 s120 s121 s122 s123 s124 s125 s126 s127 s128 s129 s130 s131 s132 s133 s134 s135 s136 s137 s138 s139 s140 s141 s142 s143 s144 s145 s146 s147 s148 s149 s150 s151 s152 s153 s154 s155 s156 s157 s158 s159 s160 s161 s162 s163 s164 s165 s166 s167 s168 s169 s170 s171 s172 s173 s174 s175 s176 s177 s178 s179 s180 s181 s182 s183 s184 s185 s186 s187 s188 s189 s190 s191 s192 s193 s194 s195 s196 s197 s198 s199 s200 s201 s202 s203 s204 s205 s206 s207 s208 s209 s210 s211 s212 s213 s214 s215 s216 s217 s218 s219 s220 s221 s222 s223 s224 s225 s226 s227 s228 s229 s230 s231 s232 s233 s234 s235 s236 s237 s238 s239 s240 s241 s242 s243 s244 s245 s246 s247 s248 s249 s250 s251 s252 s253 s254 s255 s256 s257 s258 s259 s260 s261 s262 s263 s264 s265 s266 s267 s268 s269 s270 s271 s272 s273 s274 s275 s276 s277 s278 s279 s280 s281 s282 s283 s284 s285 s286 s287 s288 s289 s290 s291 s292 s293 s294 s295 s296 s297 s298 s299 s300 s301 s302 s303 : Value)
    (K : Act → World → Prop) (zb base top mb hb hcap : Nat) (nb : Fin 5 → Option Nat) (n : Nat) (hv : Int) (va : Option Addr) (nv vcap : Nat) (vals : Nat → Int) (kk : Nat) (W : World)
    (hK : ∀ a w', Code.wp Ybaf.prog (spine 5 (Ybaf.f27.body.getD .skip)) (bodyPost Ybaf.prog Ybaf.f27 fun e w' => ∃ vr vs, e = .returned (.agg #[vr, vs]) ∧ RankP w w' db sb E S hi dl hl lo vr vs) a w' → K a w')
    (hm : ks.length ≤ 50) (hnd : ks.Nodup) (G : w.grownBy W (some db)) (Z : W.heap[zb]? = some (.cells #[.slice none 0 0, .slice none 0 0] 90 (0, 0))) (C : Cnd W db cap ks (candH dl hi lo)) (lt : w.heap.size ≤ zb ∧ db < w.heap.size ∧ sb < w.heap.size) (hd : db ≠ sb) (RK : Rk w base top rb mb hb hcap nb n dl hl) (hbt : top ≤ w.heap.size ∧ ∀ b, base ≤ b → b < top → b ≠ db) (hhv : Hid (∀ q, q ∈ ks → sup dl q = true → nt q = 1 → hv = 1)) (hE : Hid (E = ks.filter (elig dl nb) ∧ S = ∃ q, q ∈ ks ∧ aside dl nb q)) (X : Src w sb va nv vcap vals kk) (hX : Hid (kk ≤ 1000 ∧ nv ≤ 1000 ∧ ∀ b o, va = some ⟨b, o, none⟩ → b < w.heap.size ∧ b ≠ db)) :
    Code.wp Ybaf.prog (headAt 4 (Ybaf.f27.body.getD .skip)) (Exit.then K (bodyPost Ybaf.prog Ybaf.f27 fun e w' => ∃ vr vs, e = .returned (.agg #[vr, vs]) ∧ RankP w w' db sb E S hi dl hl lo vr vs)) ⟨List.toArray (.pointer (some ⟨rb, 0, none⟩) :: .slice (some ⟨db, 0, none⟩) ks.length cap :: .iface 49 (.pointer (some ⟨sb, 0, none⟩)) :: .bool false :: s4 :: s5 :: s6 :: s7 :: .pointer (some ⟨zb, 0, none⟩) :: .int .i64 hv :: .bool false :: s11 :: s12 :: s13 :: s14 :: s15 :: s16 :: s17 :: s18 :: s19 :: s20 :: s21 :: s22 :: s23 :: s24 :: s25 :: s26 :: s27 :: s28 :: s29 :: s30 :: s31 :: s32 :: s33 :: s34 :: s35 :: s36 :: s37 :: s38 :: s39 :: s40 :: s41 :: s42 :: s43 :: s44 :: s45 :: s46 :: s47 :: s48 :: s49 :: s50 :: s51 :: s52 :: s53 :: s54 :: s55 :: s56 :: s57 :: s58 :: s59 :: s60 :: s61 :: s62 :: s63 :: s64 :: s65 :: s66 :: s67 :: s68 :: s69 :: s70 :: s71 :: s72 :: s73 :: s74 :: s75 :: s76 :: s77 :: s78 :: s79 :: s80 :: s81 :: s82 :: s83 :: s84 :: s85 :: s86 :: s87 :: s88 :: s89 :: s90 :: s91 :: s92 :: s93 :: s94 :: s95 :: s96 :: s97 :: s98 :: s99 :: s100 :: s101 :: s102 :: s103 :: s104 :: s105 :: s106 :: s107 :: s108 :: s109 :: s110 :: s111 :: s112 :: s113 :: s114 :: s115 :: s116 :: s117 :: s118 :: s119 :: s120 :: s121 :: s122 :: s123 :: s124 :: s125 :: s126 :: s127 :: s128 :: s129 :: s130 :: s131 :: s132 :: s133 :: s134 :: s135 :: s136 :: s137 :: s138 :: s139 :: s140 :: s141 :: s142 :: s143 :: s144 :: s145 :: s146 :: s147 :: s148 :: s149 :: s150 :: s151 :: s152 :: s153 :: s154 :: s155 :: s156 :: s157 :: s158 :: s159 :: s160 :: s161 :: s162 :: s163 :: s164 :: s165 :: s166 :: s167 :: s168 :: s169 :: s170 :: s171 :: s172 :: s173 :: s174 :: s175 :: s176 :: s177 :: s178 :: s179 :: s180 :: s181 :: s182 :: s183 :: s184 :: s185 :: s186 :: s187 :: s188 :: s189 :: s190 :: s191 :: s192 :: s193 :: s194 :: s195 :: s196 :: s197 :: s198 :: s199 :: s200 :: s201 :: s202 :: s203 :: s204 :: s205 :: s206 :: s207 :: s208 :: s209 :: s210 :: s211 :: s212 :: s213 :: s214 :: s215 :: s216 :: s217 :: s218 :: s219 :: s220 :: s221 :: s222 :: s223 :: s224 :: s225 :: s226 :: s227 :: s228 :: s229 :: s230 :: s231 :: s232 :: s233 :: s234 :: s235 :: s236 :: s237 :: s238 :: s239 :: s240 :: s241 :: s242 :: s243 :: s244 :: s245 :: s246 :: s247 :: s248 :: s249 :: s250 :: s251 :: s252 :: s253 :: s254 :: s255 :: s256 :: s257 :: s258 :: s259 :: s260 :: s261 :: s262 :: s263 :: s264 :: s265 :: s266 :: s267 :: s268 :: s269 :: s270 :: s271 :: s272 :: s273 :: s274 :: s275 :: s276 :: s277 :: s278 :: s279 :: s280 :: s281 :: s282 :: s283 :: s284 :: s285 :: s286 :: s287 :: s288 :: s289 :: s290 :: s291 :: s292 :: s293 :: s294 :: s295 :: s296 :: s297 :: s298 :: s299 :: s300 :: s301 :: s302 :: s303 :: []), []⟩ W := by
  conv => arg 2; whnf
  conv at hK => enter [a, w', 1, 2]; whnf
  obtain ⟨i97, hi97, y0, y1, y2⟩ := info_parts info97
  obtain ⟨i0, hi0, _, y3, _⟩ := info_parts infoC
  have hzl := lt_of_heap Z
  have hb2 := bal (o := .cells #[.slice (some ⟨db, 0, none⟩) 0 cap] 126) (bal (o := .cells #[.slice none 0 0, .slice none 0 0] 90) (Below.refl _ W))
  have R0 : R3 w ((W.alloc (.cells #[.slice none 0 0, .slice none 0 0] 90)).alloc (.cells #[.slice (some ⟨db, 0, none⟩) 0 cap] 126)) db sb zb W.heap.size (W.heap.size + 1) cap 0 ks [] [] (.slice none 0 0) dl (candE dl hl hi lo) (candH dl hi lo) := by
    have hw := G.size
    obtain ⟨cu, h1, h2, h3, h4⟩ := C
    refine ⟨grow_below G hb2, (hb2.block _ hzl).trans Z, ?_, ?_, ⟨rfl, .inl ⟨rfl, rfl⟩⟩, ⟨cu, (hb2.block _ (lt_of_heap h1)).trans h1, h2, h3, Nat.le_refl _, fun i hi => by simp at hi, fun i _ h => h4 i h⟩, by omega⟩
    · rw [Below.heap_alloc _ _ _ (by simp)]
      exact (MapKept.heap_alloc W _).1
    · have := (MapKept.heap_alloc (W.alloc (.cells #[.slice none 0 0, .slice none 0 0] 90)) (.cells #[.slice (some ⟨db, 0, none⟩) 0 cap] 126)).1
      rw [show (W.alloc (.cells #[.slice none 0 0, .slice none 0 0] 90)).heap.size = W.heap.size + 1 by simp] at this
      exact this
  have HK : Hid _ := And.intro R0 (And.intro RK X)
  clear R0 RK X G Z C hb2 hzl
  go_upto_region 14 with fail
  generalize (W.alloc (.cells #[.slice none 0 0, .slice none 0 0] 90)).alloc (.cells #[.slice (some ⟨db, 0, none⟩) 0 cap] 126) = W0 at HK ⊢
  generalize W.heap.size + 1 = rv at HK ⊢
  generalize W.heap.size = gb at HK ⊢
  go_wp2_with fail
  go_loopw [89, 16, 17] (fun vi v16 v17 wr => ∃ (k : Nat) (E' sl : List (Fin 50)) (L H : Nat) (sva : Option Addr) (sca : Nat), k ≤ ks.length ∧ vi = .int .i64 k ∧ v16 = .int .i64 (L : Nat) ∧ v17 = .int .i64 (H : Nat) ∧ R3 w wr db sb zb gb rv cap k ks E' sl (.slice sva sl.length sca) dl (candE dl hl hi lo) (candH dl hi lo) ∧ Cnt hi dl nb ks E' sl k L H) (fun vi _ _ _ => ks.length - (intOf vi).toNat)
  case atStart => exact ⟨0, [], [], 0, 0, none, 0, Nat.zero_le _, rfl, rfl, rfl, HK.out.1, ⟨rfl, rfl, rfl, rfl⟩⟩
  case round =>
    obtain ⟨k, E', sl, L, H, sva, sca, hk, rfl, rfl, rfl, R, cnt⟩ := hrel
    have HD : Hid (Cnt hi dl nb ks E' sl k L H) := cnt
    have hlE : E'.length ≤ k := by rw [cnt.e]; exact Nat.le_trans (List.length_filter_le _ _) (by simp; omega)
    have hls : sl.length ≤ k := by rw [cnt.s]; exact Nat.le_trans (List.length_filter_le _ _) (by simp; omega)
    have hLb : L ≤ 50 := by
      have := cnt.l
      have h2 := idxs_sum hi E' E'.length
      omega
    have hHb : H ≤ 50 := by
      have := cnt.h
      have h2 := idxs_sum hi E' E'.length
      omega
    clear cnt
    by_cases hkn : k < ks.length
    · have hkn' : (k : Int) < (ks.length : Int) := by omega
      obtain ⟨q, hq⟩ : ∃ q, ks.getD k 0 = q := ⟨_, rfl⟩
      obtain ⟨a, haq, ha10⟩ := ka_nat q
      have e0 : wr.cell? ⟨db, k * 10, none⟩ = some (.string (kd q)) := R.look (c := 0) hkn (by omega) (by rw [hq]; rfl)
      have e1 : wr.cell? ⟨db, k * 10 + 1, none⟩ = some (.int .u16 (a : Int)) := R.look (c := 1) hkn (by omega) (by rw [hq, ← haq]; rfl)
      have e2 : wr.cell? ⟨db, k * 10 + 2, none⟩ = some (.int .i64 (lo q)) := R.look (c := 2) hkn (by omega) (by rw [hq]; rfl)
      have e3 : wr.cell? ⟨db, k * 10 + 3, none⟩ = some (.int .u8 0) := R.look (c := 3) hkn (by omega) rfl
      have e4 : wr.cell? ⟨db, k * 10 + 4, none⟩ = some (.int .u8 0) := R.look (c := 4) hkn (by omega) rfl
      have e5 : wr.cell? ⟨db, k * 10 + 5, none⟩ = some (.int .i64 0) := R.look (c := 5) hkn (by omega) rfl
      have e6 : wr.cell? ⟨db, k * 10 + 6, none⟩ = some (.int .i64 0) := R.look (c := 6) hkn (by omega) rfl
      have e7 : wr.cell? ⟨db, k * 10 + 7, none⟩ = some (.int .i64 (homOf dl q)) := R.look (c := 7) hkn (by omega) (by rw [hq]; rfl)
      have e8 : wr.cell? ⟨db, k * 10 + 8, none⟩ = some (.bool (hi q)) := R.look (c := 8) hkn (by omega) (by rw [hq]; rfl)
      have e9 : wr.cell? ⟨db, k * 10 + 9, none⟩ = some (.bool false) := R.look (c := 9) hkn (by omega) rfl
      have hmem : Hid (q ∈ ks) := (by rw [← hq]; exact getD_mem hkn : q ∈ ks)
      have HQ : Hid _ := hq
      have hka : Hid (ka q = (a : Int)) := haq
      clear hq
      have b0 := bal (o := .cells #[.string (kd q), .int .u16 (a : Int), .int .i64 (lo q), .int .u8 0, .int .u8 0, .int .i64 0, .int .i64 0, .int .i64 (homOf dl q), .bool (hi q), .bool false] 129) (Below.refl _ wr)
      have BC := (MapKept.heap_alloc wr (.cells #[.string (kd q), .int .u16 (a : Int), .int .i64 (lo q), .int .u8 0, .int .u8 0, .int .i64 0, .int .i64 0, .int .i64 (homOf dl q), .bool (hi q), .bool false] 129)).1
      have RA := R.next b0
      have hcb : rv < wr.heap.size := lt_of_heap R.v
      clear R b0 haq
      go_upto_region 17 with fail
      generalize wr.alloc (.cells #[.string (kd q), .int .u16 (a : Int), .int .i64 (lo q), .int .u8 0, .int .u8 0, .int .i64 0, .int .i64 0, .int .i64 (homOf dl q), .bool (hi q), .bool false] 129) = W1 at BC RA ⊢
      obtain ⟨cb, hcbe⟩ : ∃ cb, cb = wr.heap.size := ⟨_, rfl⟩
      rw [← hcbe] at BC hcb ⊢
      clear hcbe e0 e1 e2 e3 e4 e5 e6 e7 e8 e9
      have rk : Rk W1 base top rb mb hb hcap nb n dl hl := HK.out.2.1.keep (fun b h1 h2 => RA.g.block b (by omega) (by simpa using hbt.2 b h1 h2))
      have c0 : W1.cell? ⟨cb, 0, none⟩ = some (.string (kd q)) := cell_of BC rfl
      have c1 : W1.cell? ⟨cb, 1, none⟩ = some (.int .u16 (a : Int)) := cell_of BC rfl
      have c3 : W1.cell? ⟨cb, 3, none⟩ = some (.int .u8 0) := cell_of BC rfl
      have c7 : W1.cell? ⟨cb, 7, none⟩ = some (.int .i64 (homOf dl q)) := cell_of BC rfl
      have c8 : W1.cell? ⟨cb, 8, none⟩ = some (.bool (hi q)) := cell_of BC rfl
      have hz := eqz q
      by_cases hA : nt q = 0
      · have hzA : decide (nt q = 0) = true := by simp [hA]
        rw [hzA] at hz
        have hwhy : Hid (whyOf dl q = 4) := if_pos hA
        have hel : Hid (elig dl nb q = false) := (by simp [elig, hA] : elig dl nb q = false)
        clear rk hzA hA
        go_upto_region 34 with fail
        clear c0 c1 c3 c7 c8 hz
        have x0 : W1.cell? ⟨cb, 0, none⟩ = some (.string (kd q)) := cell_of BC rfl
        have x1 : W1.cell? ⟨cb, 1, none⟩ = some (.int .u16 (a : Int)) := cell_of BC rfl
        have x2 : W1.cell? ⟨gb, 1, none⟩ = some (.slice sva sl.length sca) := cell_of RA.gk rfl
        have hown := owns_alloc RA.a (.cells #[.string (kd q), .int .u16 (a : Int), .int .u8 4] 97)
        have RB := RA.next (bal (o := .cells #[.string (kd q), .int .u16 (a : Int), .int .u8 4] 97) (Below.refl _ W1))
        have hlv : rv < W1.heap.size := lt_of_heap RA.v
        have hgw : gb < W1.heap.size := lt_of_heap RA.gk
        have HB : Hid _ := And.intro RB hown
        have ha1 : ∀ j u, ([.string (kd q), .int .u16 (a : Int), .int .u8 4] : List Value)[j]? = some u → (W1.alloc (.cells #[.string (kd q), .int .u16 (a : Int), .int .u8 4] 97)).cell? ((⟨W1.heap.size, 0, none⟩ : Addr).add j) = some u := by
          intro j u hj
          rw [add0, Nat.zero_add]
          refine cell_of (MapKept.heap_alloc W1 _).1 ?_
          rw [← List.getElem?_toArray] at hj
          exact hj
        have ha2 : ∀ u ∈ ([.string (kd q), .int .u16 (a : Int), .int .u8 4] : List Value), u.oneCell' = true := by
          intro u hu
          simp at hu
          rcases hu with rfl | rfl | rfl <;> rfl
        clear RA BC RB
        go_wp2_with (at_builtin; refine wpList_append_own _ rfl (.tmp 190) (.tmp 195) 88 rfl (rv + 1) 97 i97 _ 3 32 Ybaf.underlying88 hi97 y0 y1 y2 rfl (by omega) _ sl.length _ rfl hown ⟨W1.heap.size, 0, none⟩ 1 1 [.string (kd q), .int .u16 (a : Int), .int .u8 4] rfl rfl ha1 ha2 (by unfold maxLen; omega) (by omega) (by simp; omega) ?nextA)
        case nextA =>
          clear ha1 ha2
          intro v' w' hown' hgr _
          obtain ⟨va, c', rfl⟩ := own_shape hown'
          have hk2 := (own_below hown hgr gb (by simp; omega) (by have := HB.out.1.lt; omega)).trans HB.out.1.gk
          have u0 : w'.cell? ⟨gb, 1, none⟩ = some (.slice sva sl.length sca) := cell_of hk2 rfl
          have u1 : w'.frozen? ⟨gb, 1, none⟩ = false := fz_of hk2
          have hfin : w'.ownsRow (rv + 1) 97 3 (.slice va (sl.length + 1) c') (sl.length + 1) (asC dl sl ++ [.string (kd q), .int .u16 (ka q), .int .u8 (whyOf dl q)]) := by
            rw [hwhy.out, hka.out]
            exact hown'
          have HN : Hid _ := And.intro (HB.out.1.asd hfin hgr) trivial
          clear hown' hgr hown hk2 hfin HB
          go_wp2_with fail
          go_roundw
          case rel => exact ⟨k + 1, _, sl ++ [q], L, H, va, c', by omega, by go_num, rfl, rfl, by rw [List.length_append, List.length_singleton]; exact HN.out.1, stepA HD.out hkn HQ.out hel.out⟩
          case measure => simp [intOf]; omega
      · have hzA : decide (nt q = 0) = false := by simp [hA]
        rw [hzA] at hz
        by_cases hB : a < 9
        · have hB' : (a : Int) < 9 := by omega
          have o1 : W1.cell? ⟨rb, a, none⟩ = some (.int .i64 (ordK dl dl.length a)) := cell_of rk.r (rkC_go _ _ _ _ _ hB)
          by_cases hC : ordK dl dl.length a = 0
          · have hnd' : (a : Int) ∉ dl := fun h => (ordK_ne dl a).2 h hC
            have hwhy : Hid (whyOf dl q = 1) := by
              show _ = _
              unfold whyOf
              rw [if_neg hA, hka.out, if_neg (by omega), if_pos hnd']
            have hel : Hid (elig dl nb q = false) := (by simp [elig, sup, hka.out, hnd'] : elig dl nb q = false)
            rw [hC] at o1
            clear rk hzA hA hC hnd'
            go_wp2_with fail
            go_quiet (fail)
            have BC : (W1.drewN nq).heap[cb]? = _ := BC
            have RA := RA.next (drewN_below W1 nq)
            clear c0 c1 c3 c7 c8 hz o1
            generalize W1.drewN nq = W2 at BC RA ⊢
            go_upto_region 34 with fail
            have x0 : W2.cell? ⟨cb, 0, none⟩ = some (.string (kd q)) := cell_of BC rfl
            have x1 : W2.cell? ⟨cb, 1, none⟩ = some (.int .u16 (a : Int)) := cell_of BC rfl
            have x2 : W2.cell? ⟨gb, 1, none⟩ = some (.slice sva sl.length sca) := cell_of RA.gk rfl
            have hown := owns_alloc RA.a (.cells #[.string (kd q), .int .u16 (a : Int), .int .u8 1] 97)
            have RB := RA.next (bal (o := .cells #[.string (kd q), .int .u16 (a : Int), .int .u8 1] 97) (Below.refl _ W2))
            have hlv : rv < W2.heap.size := lt_of_heap RA.v
            have hgw : gb < W2.heap.size := lt_of_heap RA.gk
            have HB : Hid _ := And.intro RB hown
            have ha1 : ∀ j u, ([.string (kd q), .int .u16 (a : Int), .int .u8 1] : List Value)[j]? = some u → (W2.alloc (.cells #[.string (kd q), .int .u16 (a : Int), .int .u8 1] 97)).cell? ((⟨W2.heap.size, 0, none⟩ : Addr).add j) = some u := by
              intro j u hj
              rw [add0, Nat.zero_add]
              refine cell_of (MapKept.heap_alloc W2 _).1 ?_
              rw [← List.getElem?_toArray] at hj
              exact hj
            have ha2 : ∀ u ∈ ([.string (kd q), .int .u16 (a : Int), .int .u8 1] : List Value), u.oneCell' = true := by
              intro u hu
              simp at hu
              rcases hu with rfl | rfl | rfl <;> rfl
            clear RA BC RB
            go_wp2_with (at_builtin; refine wpList_append_own _ rfl (.tmp 190) (.tmp 195) 88 rfl (rv + 1) 97 i97 _ 3 32 Ybaf.underlying88 hi97 y0 y1 y2 rfl (by omega) _ sl.length _ rfl hown ⟨W2.heap.size, 0, none⟩ 1 1 [.string (kd q), .int .u16 (a : Int), .int .u8 1] rfl rfl ha1 ha2 (by unfold maxLen; omega) (by omega) (by simp; omega) ?nextC)
            case nextC =>
              clear ha1 ha2
              intro v' w' hown' hgr _
              obtain ⟨va, c', rfl⟩ := own_shape hown'
              have hk2 := (own_below hown hgr gb (by simp; omega) (by have := HB.out.1.lt; omega)).trans HB.out.1.gk
              have u0 : w'.cell? ⟨gb, 1, none⟩ = some (.slice sva sl.length sca) := cell_of hk2 rfl
              have u1 : w'.frozen? ⟨gb, 1, none⟩ = false := fz_of hk2
              have hfin : w'.ownsRow (rv + 1) 97 3 (.slice va (sl.length + 1) c') (sl.length + 1) (asC dl sl ++ [.string (kd q), .int .u16 (ka q), .int .u8 (whyOf dl q)]) := by
                rw [hwhy.out, hka.out]
                exact hown'
              have HN : Hid _ := And.intro (HB.out.1.asd hfin hgr) trivial
              clear hown' hgr hown hk2 hfin HB
              go_wp2_with fail
              go_roundw
              case rel => exact ⟨k + 1, _, sl ++ [q], L, H, va, c', by omega, by go_num, rfl, rfl, by rw [List.length_append, List.length_singleton]; exact HN.out.1, stepA HD.out hkn HQ.out hel.out⟩
              case measure => simp [intOf]; omega
          · have hmd : (a : Int) ∈ dl := (ordK_ne dl a).1 hC
            have hsup : sup dl q = true := by simp [sup, hka.out, hB', hmd]
            have hob : ((ordK dl dl.length a) == 0) = false := by simp [hC]
            by_cases hD : nt q = 1
            · have h71 : homOf dl q = 1 := if_pos ⟨hsup, hD⟩
              have hv1 : hv = 1 := hhv.out q hmem.out hsup hD
              have o2 : W1.cell? ⟨rb, 9 + a, none⟩ = some (.int .i64 (hoK dl hl hl.length a)) := cell_of rk.r (rkC_gh _ _ _ _ _ hB)
              have hel : Hid (elig dl nb q = true) := (by simp [elig, hsup, hD] : elig dl nb q = true)
              have hcl : Hid (clsOf hi q = 0) := if_pos hD
              have hwt : Hid (witOf dl hl q = hoK dl hl hl.length a) := (by unfold witOf; rw [if_pos hD, hka.out]; rfl : witOf dl hl q = hoK dl hl hl.length a)
              subst hv1
              rw [h71] at c7 BC
              have H71 : Hid _ := h71
              clear rk hzA hA hC hmd hsup hD h71
              go_wp2_with fail
              go_quiet (fail)
              have BC : (W1.drewN nq).heap[cb]? = _ := BC
              have RA := RA.next (drewN_below W1 nq)
              have c1 : (W1.drewN nq).cell? ⟨cb, 1, none⟩ = some (.int .u16 (a : Int)) := c1
              have c7 : (W1.drewN nq).cell? ⟨cb, 7, none⟩ = some (.int .i64 1) := c7
              have o2 : (W1.drewN nq).cell? ⟨rb, 9 + a, none⟩ = some (.int .i64 (hoK dl hl hl.length a)) := o2
              clear c0 c3 c8 hz o1
              generalize W1.drewN nq = W2 at BC RA c1 c7 o2 ⊢
              have c3 : W2.cell? ⟨cb, 3, none⟩ = some (.int .u8 0) := cell_of BC rfl
              have c4 : W2.cell? ⟨cb, 4, none⟩ = some (.int .u8 0) := cell_of BC rfl
              have c5 : W2.cell? ⟨cb, 5, none⟩ = some (.int .i64 0) := cell_of BC rfl
              have c6 : W2.cell? ⟨cb, 6, none⟩ = some (.int .i64 0) := cell_of BC rfl
              have f3 : W2.frozen? ⟨cb, 3, none⟩ = false := fz_of BC
              have f4 : W2.frozen? ⟨cb, 4, none⟩ = false := fz_of BC
              have f5 : W2.frozen? ⟨cb, 5, none⟩ = false := fz_of BC
              have f6 : W2.frozen? ⟨cb, 6, none⟩ = false := fz_of BC
              have B3 := heap_set (k := 3) (.int .u8 1) BC
              have B4 := heap_set (k := 4) (.int .u8 0) B3
              have B5 := heap_set (k := 5) (.int .i64 0) B4
              have BC2 := heap_set (k := 6) (.int .i64 (hoK dl hl hl.length a)) B5
              have RA2 := (((RA.side BC hcb 3 (.int .u8 1)).side B3 hcb 4 (.int .u8 0)).side B4 hcb 5 (.int .i64 0)).side B5 hcb 6 (.int .i64 (hoK dl hl hl.length a))
              have HF : Hid _ := And.intro BC2 RA2
              clear B3 B4 B5 BC2 RA2 BC RA
              go_wp2_with fail
              go_region
              have BC : (((((W2.setCell ⟨cb, 3, none⟩ (.int .u8 1)).setCell ⟨cb, 4, none⟩ (.int .u8 0)).setCell ⟨cb, 5, none⟩ (.int .i64 0)).setCell ⟨cb, 6, none⟩ (.int .i64 (hoK dl hl hl.length a))).drew).heap[cb]? = some (.cells #[.string (kd q), .int .u16 (a : Int), .int .i64 (lo q), .int .u8 1, .int .u8 0, .int .i64 0, .int .i64 (hoK dl hl hl.length a), .int .i64 1, .bool (hi q), .bool false] 129 (0, 0)) := HF.out.1
              have RA := HF.out.2.next (Below.drew (Below.refl _ _))
              have c3 : (((((W2.setCell ⟨cb, 3, none⟩ (.int .u8 1)).setCell ⟨cb, 4, none⟩ (.int .u8 0)).setCell ⟨cb, 5, none⟩ (.int .i64 0)).setCell ⟨cb, 6, none⟩ (.int .i64 (hoK dl hl hl.length a))).drew).cell? ⟨cb, 3, none⟩ = some (.int .u8 1) := cell_of BC rfl
              clear HF c1 c7 o2 c4 c5 c6 f3 f4 f5 f6
              generalize ((((W2.setCell ⟨cb, 3, none⟩ (.int .u8 1)).setCell ⟨cb, 4, none⟩ (.int .u8 0)).setCell ⟨cb, 5, none⟩ (.int .i64 0)).setCell ⟨cb, 6, none⟩ (.int .i64 (hoK dl hl hl.length a))).drew = W3 at BC RA c3 ⊢
              go_upto_region 40 with fail
              clear c3
              have x0 : W3.cell? ⟨cb, 0, none⟩ = some (.string (kd q)) := cell_of BC rfl
              have x1 : W3.cell? ⟨cb, 1, none⟩ = some (.int .u16 (a : Int)) := cell_of BC rfl
              have x2 : W3.cell? ⟨cb, 2, none⟩ = some (.int .i64 (lo q)) := cell_of BC rfl
              have x3 : W3.cell? ⟨cb, 3, none⟩ = some (.int .u8 1) := cell_of BC rfl
              have x4 : W3.cell? ⟨cb, 4, none⟩ = some (.int .u8 0) := cell_of BC rfl
              have x5 : W3.cell? ⟨cb, 5, none⟩ = some (.int .i64 0) := cell_of BC rfl
              have x6 : W3.cell? ⟨cb, 6, none⟩ = some (.int .i64 (hoK dl hl hl.length a)) := cell_of BC rfl
              have x7 : W3.cell? ⟨cb, 7, none⟩ = some (.int .i64 1) := cell_of BC rfl
              have x8 : W3.cell? ⟨cb, 8, none⟩ = some (.bool (hi q)) := cell_of BC rfl
              have x9 : W3.cell? ⟨cb, 9, none⟩ = some (.bool false) := cell_of BC rfl
              have xv : W3.cell? ⟨rv, 0, none⟩ = some (.slice (some ⟨db, 0, none⟩) E'.length cap) := cell_of RA.v rfl
              have RB := RA.next (bal (o := .cells #[.string (kd q), .int .u16 (a : Int), .int .i64 (lo q), .int .u8 1, .int .u8 0, .int .i64 0, .int .i64 (hoK dl hl hl.length a), .int .i64 1, .bool (hi q), .bool false] 129) (Below.refl _ W3))
              obtain ⟨cu, hcu, hcs, hcm, hce, _, _⟩ := RB.c
              have hnw : ([.string (kd q), .int .u16 (a : Int), .int .i64 (lo q), .int .u8 1, .int .u8 0, .int .i64 0, .int .i64 (hoK dl hl hl.length a), .int .i64 1, .bool (hi q), .bool false] : List Value) = candE dl hl hi lo q := by
                show _ = [_, _, _, _, _, _, _, _, _, _]
                rw [hka.out, hcl.out, hwt.out, H71.out]
                rfl
              have hra := (heap_setRow_ne (w := W3.alloc (.cells #[.string (kd q), .int .u16 (a : Int), .int .i64 (lo q), .int .u8 1, .int .u8 0, .int .i64 0, .int .i64 (hoK dl hl hl.length a), .int .i64 1, .bool (hi q), .bool false] 129)) (k := rv) (g := db) (cells := (cu.toList.take (E'.length * 10) ++ ([.string (kd q), .int .u16 (a : Int), .int .i64 (lo q), .int .u8 1, .int .u8 0, .int .i64 0, .int .i64 (hoK dl hl hl.length a), .int .i64 1, .bool (hi q), .bool false] : List Value) ++ cu.toList.drop (E'.length * 10 + ([.string (kd q), .int .u16 (a : Int), .int .i64 (lo q), .int .u8 1, .int .u8 0, .int .i64 0, .int .i64 (hoK dl hl hl.length a), .int .i64 1, .bool (hi q), .bool false] : List Value).length)).toArray) (by have := RB.lt; omega)).trans RB.v
              have HN : Hid (∀ W6, (W3.alloc (.cells #[.string (kd q), .int .u16 (a : Int), .int .i64 (lo q), .int .u8 1, .int .u8 0, .int .i64 0, .int .i64 (hoK dl hl hl.length a), .int .i64 1, .bool (hi q), .bool false] 129)).setRow db (cu.toList.take (E'.length * 10) ++ ([.string (kd q), .int .u16 (a : Int), .int .i64 (lo q), .int .u8 1, .int .u8 0, .int .i64 0, .int .i64 (hoK dl hl hl.length a), .int .i64 1, .bool (hi q), .bool false] : List Value) ++ cu.toList.drop (E'.length * 10 + ([.string (kd q), .int .u16 (a : Int), .int .i64 (lo q), .int .u8 1, .int .u8 0, .int .i64 0, .int .i64 (hoK dl hl hl.length a), .int .i64 1, .bool (hi q), .bool false] : List Value).length)).toArray = W6 → R3 w (W6.setCell ⟨rv, 0, none⟩ (.slice (some ⟨db, 0, none⟩) (E'.length + 1) cap)) db sb zb gb rv cap (k + 1) ks (E' ++ [q]) sl (.slice sva sl.length sca) dl (candE dl hl hi lo) (candH dl hi lo) ∧ W6.heap[rv]? = some (.cells #[.slice (some ⟨db, 0, none⟩) E'.length cap] 126 (0, 0))) := fun W6 e => by
                rw [← e]
                exact ⟨RB.take hkn ([.string (kd q), .int .u16 (a : Int), .int .i64 (lo q), .int .u8 1, .int .u8 0, .int .i64 0, .int .i64 (hoK dl hl hl.length a), .int .i64 1, .bool (hi q), .bool false] : List Value) rfl hnw hcu, hra⟩
              have z1 : E'.length + 1 ≤ cap := by omega
              have z2 : E'.length * 10 + ([.string (kd q), .int .u16 (a : Int), .int .i64 (lo q), .int .u8 1, .int .u8 0, .int .i64 0, .int .i64 (hoK dl hl hl.length a), .int .i64 1, .bool (hi q), .bool false] : List Value).length ≤ cu.size := by show _ + 10 ≤ _; omega
              clear RA BC RB hra hnw
              have ha1 : ∀ j u, ([.string (kd q), .int .u16 (a : Int), .int .i64 (lo q), .int .u8 1, .int .u8 0, .int .i64 0, .int .i64 (hoK dl hl hl.length a), .int .i64 1, .bool (hi q), .bool false] : List Value)[j]? = some u → (W3.alloc (.cells #[.string (kd q), .int .u16 (a : Int), .int .i64 (lo q), .int .u8 1, .int .u8 0, .int .i64 0, .int .i64 (hoK dl hl hl.length a), .int .i64 1, .bool (hi q), .bool false] 129)).cell? ((⟨W3.heap.size, 0, none⟩ : Addr).add j) = some u := by
                intro j u hj
                rw [add0, Nat.zero_add]
                refine cell_of (MapKept.heap_alloc W3 _).1 ?_
                rw [← List.getElem?_toArray] at hj
                exact hj
              have ha2 : ∀ u ∈ ([.string (kd q), .int .u16 (a : Int), .int .i64 (lo q), .int .u8 1, .int .u8 0, .int .i64 0, .int .i64 (hoK dl hl hl.length a), .int .i64 1, .bool (hi q), .bool false] : List Value), u.oneCell' = true := by
                intro u hu
                simp at hu
                rcases hu with rfl | rfl | rfl | rfl | rfl | rfl | rfl | rfl | rfl | rfl <;> rfl
              have hX := fun ops Q act rest o hgd ho hs hx => wpList_append_exact (P := Ybaf.prog) (w := W3.alloc (.cells #[.string (kd q), .int .u16 (a : Int), .int .i64 (lo q), .int .u8 1, .int .u8 0, .int .i64 0, .int .i64 (hoK dl hl hl.length a), .int .i64 1, .bool (hi q), .bool false] 129)) (ops := ops) (Q := Q) (a := act) (rest := rest) (o := o) hgd (.tmp 212) (.tmp 214) 126 ho 129 i0 10 Ybaf.underlying126 hi0 y3 db E'.length cap cu hcu hs ⟨W3.heap.size, 0, none⟩ 1 1 ([.string (kd q), .int .u16 (a : Int), .int .i64 (lo q), .int .u8 1, .int .u8 0, .int .i64 0, .int .i64 (hoK dl hl hl.length a), .int .i64 1, .bool (hi q), .bool false] : List Value) hx rfl ha1 ha2 z1 z2
              go_wp2_with (at_builtin; refine hX _ _ _ _ _ ?q1D ?q2D ?q3D ?q4D ?nxD)
              case q1D => rfl
              case q2D => rfl
              case q3D => rfl
              case q4D => rfl
              case nxD =>
              clear ha1 ha2 z1 z2 hX
              intro W6 hW6
              obtain ⟨hn1, hn2⟩ := HN.out W6 (by have := hW6.out; simpa using this)
              have HN : Hid _ := And.intro hn1 trivial
              clear hW6 hn1
              have u0 : W6.cell? ⟨rv, 0, none⟩ = some (.slice (some ⟨db, 0, none⟩) E'.length cap) := cell_of hn2 rfl
              have u1 : W6.frozen? ⟨rv, 0, none⟩ = false := fz_of hn2
              clear hn2 hcu x0 x1 x2 x3 x4 x5 x6 x7 x8 x9 xv
              go_wp2_with fail
              go_roundw
              case rel => exact ⟨k + 1, _, _, (L + 1), H, _, _, by omega, by go_num, by go_num, by rfl, HN.out.1, stepE HD.out hkn HQ.out hel.out 0 hcl.out⟩
              case measure => simp [intOf]; omega
            · have h70 : homOf dl q = 0 := if_neg (fun h => hD h.2)
              rw [h70] at c7 BC
              have H70 : Hid _ := h70
              have HRK : Hid _ := And.intro rk trivial
              clear rk
              go_wp2_with fail
              go_quiet (fail)
              have BC : (W1.drewN nq).heap[cb]? = _ := BC
              have RA := RA.next (drewN_below W1 nq)
              have rk := HRK.out.1.keep (W' := W1.drewN nq) (fun _ _ _ => rfl)
              have c0 : (W1.drewN nq).cell? ⟨cb, 0, none⟩ = some (.string (kd q)) := c0
              have c3 : (W1.drewN nq).cell? ⟨cb, 3, none⟩ = some (.int .u8 0) := c3
              have c7 : (W1.drewN nq).cell? ⟨cb, 7, none⟩ = some (.int .i64 0) := c7
              have c8 : (W1.drewN nq).cell? ⟨cb, 8, none⟩ = some (.bool (hi q)) := c8
              clear c1 hz o1 HRK
              generalize W1.drewN nq = W2 at BC RA rk c0 c3 c7 c8 ⊢
              have hcm : W2.cell? ⟨rb, 21, none⟩ = some (.map (some mb)) := cell_of rk.r rfl
              have hlk : ∀ m, (Instr.lookup 110 (.map (some mb)) (.agg #[.string (kd q)]) false).run Ybaf.prog (W2.drewN m) = .ok (ptr (nb (nt q))) (W2.drewN m) := fun m => (NMap.of_block (W' := W2.drewN m) rk.m rfl).look (nt q)
              cases hnb : nb (nt q) with
              | some b =>
                rw [hnb] at hlk
                replace hlk : ∀ m, (Instr.lookup 110 (.map (some mb)) (.agg #[.string (kd q)]) false).run Ybaf.prog (W2.drewN m) = .ok (.pointer (some ⟨b, 0, none⟩)) (W2.drewN m) := hlk
                have hbt2 : W2.cell? ⟨b, 0, none⟩ = some (.bool true) := (rk.f _ _ hnb).2.2
                have hne := neq118 b
                have hwhy : Hid (whyOf dl q = 3) := by
                  show _ = _
                  unfold whyOf
                  rw [if_neg hA, hka.out, if_neg (by omega), if_neg (by simpa using hmd)]
                have hel : Hid (elig dl nb q = false) := (by simp [elig, hD, hnb] : elig dl nb q = false)
                clear rk hzA hA hC hmd hsup hD h70 hnb
                go_wp2_with fail
                go_quiet (fail)
                have BC : (W2.drewN nq).heap[cb]? = _ := BC
                have RA := RA.next (drewN_below W2 nq)
                have c7 : (W2.drewN nq).cell? ⟨cb, 7, none⟩ = some (.int .i64 0) := c7
                have hbt3 : (W2.drewN nq).cell? ⟨b, 0, none⟩ = some (.bool true) := hbt2
                clear c0 c3 c8 hcm hlk hbt2
                generalize W2.drewN nq = W3 at BC RA c7 hbt3 ⊢
                have c9 : W3.cell? ⟨cb, 9, none⟩ = some (.bool false) := cell_of BC rfl
                have f9 : W3.frozen? ⟨cb, 9, none⟩ = false := fz_of BC
                have B9 := heap_set (k := 9) (.bool true) BC
                have RA9 := RA.side BC hcb 9 (.bool true)
                have c9' : (W3.setCell ⟨cb, 9, none⟩ (.bool true)).cell? ⟨cb, 9, none⟩ = some (.bool true) := cell_of B9 rfl
                have HF : Hid _ := And.intro B9 RA9
                clear B9 RA9 BC RA
                go_upto_region 21 with fail
                generalize W3.setCell ⟨cb, 9, none⟩ (.bool true) = W4 at HF c9' ⊢
                clear c9 f9 c7 hbt3
                go_upto_region 34 with fail
                have BC : W4.heap[cb]? = some (.cells #[.string (kd q), .int .u16 (a : Int), .int .i64 (lo q), .int .u8 0, .int .u8 0, .int .i64 0, .int .i64 0, .int .i64 0, .bool (hi q), .bool true] 129 (0, 0)) := HF.out.1
                have RA := HF.out.2
                clear HF c9'
                have x0 : W4.cell? ⟨cb, 0, none⟩ = some (.string (kd q)) := cell_of BC rfl
                have x1 : W4.cell? ⟨cb, 1, none⟩ = some (.int .u16 (a : Int)) := cell_of BC rfl
                have x2 : W4.cell? ⟨gb, 1, none⟩ = some (.slice sva sl.length sca) := cell_of RA.gk rfl
                have hown := owns_alloc RA.a (.cells #[.string (kd q), .int .u16 (a : Int), .int .u8 3] 97)
                have RB := RA.next (bal (o := .cells #[.string (kd q), .int .u16 (a : Int), .int .u8 3] 97) (Below.refl _ W4))
                have hlv : rv < W4.heap.size := lt_of_heap RA.v
                have hgw : gb < W4.heap.size := lt_of_heap RA.gk
                have HB : Hid _ := And.intro RB hown
                have ha1 : ∀ j u, ([.string (kd q), .int .u16 (a : Int), .int .u8 3] : List Value)[j]? = some u → (W4.alloc (.cells #[.string (kd q), .int .u16 (a : Int), .int .u8 3] 97)).cell? ((⟨W4.heap.size, 0, none⟩ : Addr).add j) = some u := by
                  intro j u hj
                  rw [add0, Nat.zero_add]
                  refine cell_of (MapKept.heap_alloc W4 _).1 ?_
                  rw [← List.getElem?_toArray] at hj
                  exact hj
                have ha2 : ∀ u ∈ ([.string (kd q), .int .u16 (a : Int), .int .u8 3] : List Value), u.oneCell' = true := by
                  intro u hu
                  simp at hu
                  rcases hu with rfl | rfl | rfl <;> rfl
                clear RA BC RB
                go_wp2_with (at_builtin; refine wpList_append_own _ rfl (.tmp 190) (.tmp 195) 88 rfl (rv + 1) 97 i97 _ 3 32 Ybaf.underlying88 hi97 y0 y1 y2 rfl (by omega) _ sl.length _ rfl hown ⟨W4.heap.size, 0, none⟩ 1 1 [.string (kd q), .int .u16 (a : Int), .int .u8 3] rfl rfl ha1 ha2 (by unfold maxLen; omega) (by omega) (by simp; omega) ?nextE)
                case nextE =>
                  clear ha1 ha2
                  intro v' w' hown' hgr _
                  obtain ⟨va, c', rfl⟩ := own_shape hown'
                  have hk2 := (own_below hown hgr gb (by simp; omega) (by have := HB.out.1.lt; omega)).trans HB.out.1.gk
                  have u0 : w'.cell? ⟨gb, 1, none⟩ = some (.slice sva sl.length sca) := cell_of hk2 rfl
                  have u1 : w'.frozen? ⟨gb, 1, none⟩ = false := fz_of hk2
                  have hfin : w'.ownsRow (rv + 1) 97 3 (.slice va (sl.length + 1) c') (sl.length + 1) (asC dl sl ++ [.string (kd q), .int .u16 (ka q), .int .u8 (whyOf dl q)]) := by
                    rw [hwhy.out, hka.out]
                    exact hown'
                  have HN : Hid _ := And.intro (HB.out.1.asd hfin hgr) trivial
                  clear hown' hgr hown hk2 hfin HB
                  go_wp2_with fail
                  go_roundw
                  case rel => exact ⟨k + 1, _, sl ++ [q], L, H, va, c', by omega, by go_num, rfl, rfl, by rw [List.length_append, List.length_singleton]; exact HN.out.1, stepA HD.out hkn HQ.out hel.out⟩
                  case measure => simp [intOf]; omega
              | none =>
                rw [hnb] at hlk
                replace hlk : ∀ m, (Instr.lookup 110 (.map (some mb)) (.agg #[.string (kd q)]) false).run Ybaf.prog (W2.drewN m) = .ok (.pointer none) (W2.drewN m) := hlk
                have hne := neq118n
                have hel : Hid (elig dl nb q = true) := (by simp [elig, hA, hsup, hnb] : elig dl nb q = true)
                have hwt : Hid (witOf dl hl q = 0) := (if_neg hD : witOf dl hl q = 0)
                have hcl0 : Hid (∀ t, hi q = t → clsOf hi q = if t then 1 else 2) := fun t ht => by
                  unfold clsOf
                  rw [if_neg hD, ht]
                clear rk hzA hA hC hmd hsup hD h70 hnb
                go_wp2_with fail
                go_quiet (fail)
                have BC : (W2.drewN nq).heap[cb]? = _ := BC
                have RA := RA.next (drewN_below W2 nq)
                have c3 : (W2.drewN nq).cell? ⟨cb, 3, none⟩ = some (.int .u8 0) := c3
                have c8 : (W2.drewN nq).cell? ⟨cb, 8, none⟩ = some (.bool (hi q)) := c8
                clear c0 c7 hcm hlk
                generalize W2.drewN nq = W3 at BC RA c3 c8 ⊢
                have f3 : W3.frozen? ⟨cb, 3, none⟩ = false := fz_of BC
                cases hhi : hi q with
                | true =>
                  rw [hhi] at c8 BC
                  have HH : Hid _ := hhi
                  have hcl : Hid (clsOf hi q = 1) := hcl0.out true hhi
                  clear hhi hcl0
                  have B4 := heap_set (k := 3) (.int .u8 4) BC
                  have RA4 := RA.side BC hcb 3 (.int .u8 4)
                  have HF : Hid _ := And.intro B4 RA4
                  clear B4 RA4 BC RA
                  go_upto_region 40 with fail
                  generalize W3.setCell ⟨cb, 3, none⟩ (.int .u8 4) = W4 at HF ⊢
                  have BC : W4.heap[cb]? = some (.cells #[.string (kd q), .int .u16 (a : Int), .int .i64 (lo q), .int .u8 4, .int .u8 0, .int .i64 0, .int .i64 0, .int .i64 0, .bool true, .bool false] 129 (0, 0)) := HF.out.1
                  have RA := HF.out.2
                  clear HF c3 c8 f3
                  have x0 : W4.cell? ⟨cb, 0, none⟩ = some (.string (kd q)) := cell_of BC rfl
                  have x1 : W4.cell? ⟨cb, 1, none⟩ = some (.int .u16 (a : Int)) := cell_of BC rfl
                  have x2 : W4.cell? ⟨cb, 2, none⟩ = some (.int .i64 (lo q)) := cell_of BC rfl
                  have x3 : W4.cell? ⟨cb, 3, none⟩ = some (.int .u8 4) := cell_of BC rfl
                  have x4 : W4.cell? ⟨cb, 4, none⟩ = some (.int .u8 0) := cell_of BC rfl
                  have x5 : W4.cell? ⟨cb, 5, none⟩ = some (.int .i64 0) := cell_of BC rfl
                  have x6 : W4.cell? ⟨cb, 6, none⟩ = some (.int .i64 0) := cell_of BC rfl
                  have x7 : W4.cell? ⟨cb, 7, none⟩ = some (.int .i64 0) := cell_of BC rfl
                  have x8 : W4.cell? ⟨cb, 8, none⟩ = some (.bool true) := cell_of BC rfl
                  have x9 : W4.cell? ⟨cb, 9, none⟩ = some (.bool false) := cell_of BC rfl
                  have xv : W4.cell? ⟨rv, 0, none⟩ = some (.slice (some ⟨db, 0, none⟩) E'.length cap) := cell_of RA.v rfl
                  have RB := RA.next (bal (o := .cells #[.string (kd q), .int .u16 (a : Int), .int .i64 (lo q), .int .u8 4, .int .u8 0, .int .i64 0, .int .i64 0, .int .i64 0, .bool true, .bool false] 129) (Below.refl _ W4))
                  obtain ⟨cu, hcu, hcs, hcm, hce, _, _⟩ := RB.c
                  have hnw : ([.string (kd q), .int .u16 (a : Int), .int .i64 (lo q), .int .u8 4, .int .u8 0, .int .i64 0, .int .i64 0, .int .i64 0, .bool true, .bool false] : List Value) = candE dl hl hi lo q := by
                    show _ = [_, _, _, _, _, _, _, _, _, _]
                    rw [hka.out, hcl.out, hwt.out, H70.out, HH.out]
                    rfl
                  have hra := (heap_setRow_ne (w := W4.alloc (.cells #[.string (kd q), .int .u16 (a : Int), .int .i64 (lo q), .int .u8 4, .int .u8 0, .int .i64 0, .int .i64 0, .int .i64 0, .bool true, .bool false] 129)) (k := rv) (g := db) (cells := (cu.toList.take (E'.length * 10) ++ ([.string (kd q), .int .u16 (a : Int), .int .i64 (lo q), .int .u8 4, .int .u8 0, .int .i64 0, .int .i64 0, .int .i64 0, .bool true, .bool false] : List Value) ++ cu.toList.drop (E'.length * 10 + ([.string (kd q), .int .u16 (a : Int), .int .i64 (lo q), .int .u8 4, .int .u8 0, .int .i64 0, .int .i64 0, .int .i64 0, .bool true, .bool false] : List Value).length)).toArray) (by have := RB.lt; omega)).trans RB.v
                  have HN : Hid (∀ W6, (W4.alloc (.cells #[.string (kd q), .int .u16 (a : Int), .int .i64 (lo q), .int .u8 4, .int .u8 0, .int .i64 0, .int .i64 0, .int .i64 0, .bool true, .bool false] 129)).setRow db (cu.toList.take (E'.length * 10) ++ ([.string (kd q), .int .u16 (a : Int), .int .i64 (lo q), .int .u8 4, .int .u8 0, .int .i64 0, .int .i64 0, .int .i64 0, .bool true, .bool false] : List Value) ++ cu.toList.drop (E'.length * 10 + ([.string (kd q), .int .u16 (a : Int), .int .i64 (lo q), .int .u8 4, .int .u8 0, .int .i64 0, .int .i64 0, .int .i64 0, .bool true, .bool false] : List Value).length)).toArray = W6 → R3 w (W6.setCell ⟨rv, 0, none⟩ (.slice (some ⟨db, 0, none⟩) (E'.length + 1) cap)) db sb zb gb rv cap (k + 1) ks (E' ++ [q]) sl (.slice sva sl.length sca) dl (candE dl hl hi lo) (candH dl hi lo) ∧ W6.heap[rv]? = some (.cells #[.slice (some ⟨db, 0, none⟩) E'.length cap] 126 (0, 0))) := fun W6 e => by
                    rw [← e]
                    exact ⟨RB.take hkn ([.string (kd q), .int .u16 (a : Int), .int .i64 (lo q), .int .u8 4, .int .u8 0, .int .i64 0, .int .i64 0, .int .i64 0, .bool true, .bool false] : List Value) rfl hnw hcu, hra⟩
                  have z1 : E'.length + 1 ≤ cap := by omega
                  have z2 : E'.length * 10 + ([.string (kd q), .int .u16 (a : Int), .int .i64 (lo q), .int .u8 4, .int .u8 0, .int .i64 0, .int .i64 0, .int .i64 0, .bool true, .bool false] : List Value).length ≤ cu.size := by show _ + 10 ≤ _; omega
                  clear RA BC RB hra hnw
                  have ha1 : ∀ j u, ([.string (kd q), .int .u16 (a : Int), .int .i64 (lo q), .int .u8 4, .int .u8 0, .int .i64 0, .int .i64 0, .int .i64 0, .bool true, .bool false] : List Value)[j]? = some u → (W4.alloc (.cells #[.string (kd q), .int .u16 (a : Int), .int .i64 (lo q), .int .u8 4, .int .u8 0, .int .i64 0, .int .i64 0, .int .i64 0, .bool true, .bool false] 129)).cell? ((⟨W4.heap.size, 0, none⟩ : Addr).add j) = some u := by
                    intro j u hj
                    rw [add0, Nat.zero_add]
                    refine cell_of (MapKept.heap_alloc W4 _).1 ?_
                    rw [← List.getElem?_toArray] at hj
                    exact hj
                  have ha2 : ∀ u ∈ ([.string (kd q), .int .u16 (a : Int), .int .i64 (lo q), .int .u8 4, .int .u8 0, .int .i64 0, .int .i64 0, .int .i64 0, .bool true, .bool false] : List Value), u.oneCell' = true := by
                    intro u hu
                    simp at hu
                    rcases hu with rfl | rfl | rfl | rfl | rfl | rfl | rfl | rfl | rfl | rfl <;> rfl
                  have hX := fun ops Q act rest o hgd ho hs hx => wpList_append_exact (P := Ybaf.prog) (w := W4.alloc (.cells #[.string (kd q), .int .u16 (a : Int), .int .i64 (lo q), .int .u8 4, .int .u8 0, .int .i64 0, .int .i64 0, .int .i64 0, .bool true, .bool false] 129)) (ops := ops) (Q := Q) (a := act) (rest := rest) (o := o) hgd (.tmp 212) (.tmp 214) 126 ho 129 i0 10 Ybaf.underlying126 hi0 y3 db E'.length cap cu hcu hs ⟨W4.heap.size, 0, none⟩ 1 1 ([.string (kd q), .int .u16 (a : Int), .int .i64 (lo q), .int .u8 4, .int .u8 0, .int .i64 0, .int .i64 0, .int .i64 0, .bool true, .bool false] : List Value) hx rfl ha1 ha2 z1 z2
                  go_wp2_with (at_builtin; refine hX _ _ _ _ _ ?q1F ?q2F ?q3F ?q4F ?nxF)
                  case q1F => rfl
                  case q2F => rfl
                  case q3F => rfl
                  case q4F => rfl
                  case nxF =>
                  clear ha1 ha2 z1 z2 hX
                  intro W6 hW6
                  obtain ⟨hn1, hn2⟩ := HN.out W6 (by have := hW6.out; simpa using this)
                  have HN : Hid _ := And.intro hn1 trivial
                  clear hW6 hn1
                  have u0 : W6.cell? ⟨rv, 0, none⟩ = some (.slice (some ⟨db, 0, none⟩) E'.length cap) := cell_of hn2 rfl
                  have u1 : W6.frozen? ⟨rv, 0, none⟩ = false := fz_of hn2
                  clear hn2 hcu x0 x1 x2 x3 x4 x5 x6 x7 x8 x9 xv
                  go_wp2_with fail
                  go_roundw
                  case rel => exact ⟨k + 1, _, _, L, (H + 1), _, _, by omega, by go_num, by rfl, by go_num, HN.out.1, stepE HD.out hkn HQ.out hel.out 1 hcl.out⟩
                  case measure => simp [intOf]; omega
                | false =>
                  rw [hhi] at c8 BC
                  have HH : Hid _ := hhi
                  have hcl : Hid (clsOf hi q = 2) := hcl0.out false hhi
                  clear hhi hcl0
                  have B4 := heap_set (k := 3) (.int .u8 5) BC
                  have RA4 := RA.side BC hcb 3 (.int .u8 5)
                  have HF : Hid _ := And.intro B4 RA4
                  clear B4 RA4 BC RA
                  go_upto_region 40 with fail
                  generalize W3.setCell ⟨cb, 3, none⟩ (.int .u8 5) = W4 at HF ⊢
                  have BC : W4.heap[cb]? = some (.cells #[.string (kd q), .int .u16 (a : Int), .int .i64 (lo q), .int .u8 5, .int .u8 0, .int .i64 0, .int .i64 0, .int .i64 0, .bool false, .bool false] 129 (0, 0)) := HF.out.1
                  have RA := HF.out.2
                  clear HF c3 c8 f3
                  have x0 : W4.cell? ⟨cb, 0, none⟩ = some (.string (kd q)) := cell_of BC rfl
                  have x1 : W4.cell? ⟨cb, 1, none⟩ = some (.int .u16 (a : Int)) := cell_of BC rfl
                  have x2 : W4.cell? ⟨cb, 2, none⟩ = some (.int .i64 (lo q)) := cell_of BC rfl
                  have x3 : W4.cell? ⟨cb, 3, none⟩ = some (.int .u8 5) := cell_of BC rfl
                  have x4 : W4.cell? ⟨cb, 4, none⟩ = some (.int .u8 0) := cell_of BC rfl
                  have x5 : W4.cell? ⟨cb, 5, none⟩ = some (.int .i64 0) := cell_of BC rfl
                  have x6 : W4.cell? ⟨cb, 6, none⟩ = some (.int .i64 0) := cell_of BC rfl
                  have x7 : W4.cell? ⟨cb, 7, none⟩ = some (.int .i64 0) := cell_of BC rfl
                  have x8 : W4.cell? ⟨cb, 8, none⟩ = some (.bool false) := cell_of BC rfl
                  have x9 : W4.cell? ⟨cb, 9, none⟩ = some (.bool false) := cell_of BC rfl
                  have xv : W4.cell? ⟨rv, 0, none⟩ = some (.slice (some ⟨db, 0, none⟩) E'.length cap) := cell_of RA.v rfl
                  have RB := RA.next (bal (o := .cells #[.string (kd q), .int .u16 (a : Int), .int .i64 (lo q), .int .u8 5, .int .u8 0, .int .i64 0, .int .i64 0, .int .i64 0, .bool false, .bool false] 129) (Below.refl _ W4))
                  obtain ⟨cu, hcu, hcs, hcm, hce, _, _⟩ := RB.c
                  have hnw : ([.string (kd q), .int .u16 (a : Int), .int .i64 (lo q), .int .u8 5, .int .u8 0, .int .i64 0, .int .i64 0, .int .i64 0, .bool false, .bool false] : List Value) = candE dl hl hi lo q := by
                    show _ = [_, _, _, _, _, _, _, _, _, _]
                    rw [hka.out, hcl.out, hwt.out, H70.out, HH.out]
                    rfl
                  have hra := (heap_setRow_ne (w := W4.alloc (.cells #[.string (kd q), .int .u16 (a : Int), .int .i64 (lo q), .int .u8 5, .int .u8 0, .int .i64 0, .int .i64 0, .int .i64 0, .bool false, .bool false] 129)) (k := rv) (g := db) (cells := (cu.toList.take (E'.length * 10) ++ ([.string (kd q), .int .u16 (a : Int), .int .i64 (lo q), .int .u8 5, .int .u8 0, .int .i64 0, .int .i64 0, .int .i64 0, .bool false, .bool false] : List Value) ++ cu.toList.drop (E'.length * 10 + ([.string (kd q), .int .u16 (a : Int), .int .i64 (lo q), .int .u8 5, .int .u8 0, .int .i64 0, .int .i64 0, .int .i64 0, .bool false, .bool false] : List Value).length)).toArray) (by have := RB.lt; omega)).trans RB.v
                  have HN : Hid (∀ W6, (W4.alloc (.cells #[.string (kd q), .int .u16 (a : Int), .int .i64 (lo q), .int .u8 5, .int .u8 0, .int .i64 0, .int .i64 0, .int .i64 0, .bool false, .bool false] 129)).setRow db (cu.toList.take (E'.length * 10) ++ ([.string (kd q), .int .u16 (a : Int), .int .i64 (lo q), .int .u8 5, .int .u8 0, .int .i64 0, .int .i64 0, .int .i64 0, .bool false, .bool false] : List Value) ++ cu.toList.drop (E'.length * 10 + ([.string (kd q), .int .u16 (a : Int), .int .i64 (lo q), .int .u8 5, .int .u8 0, .int .i64 0, .int .i64 0, .int .i64 0, .bool false, .bool false] : List Value).length)).toArray = W6 → R3 w (W6.setCell ⟨rv, 0, none⟩ (.slice (some ⟨db, 0, none⟩) (E'.length + 1) cap)) db sb zb gb rv cap (k + 1) ks (E' ++ [q]) sl (.slice sva sl.length sca) dl (candE dl hl hi lo) (candH dl hi lo) ∧ W6.heap[rv]? = some (.cells #[.slice (some ⟨db, 0, none⟩) E'.length cap] 126 (0, 0))) := fun W6 e => by
                    rw [← e]
                    exact ⟨RB.take hkn ([.string (kd q), .int .u16 (a : Int), .int .i64 (lo q), .int .u8 5, .int .u8 0, .int .i64 0, .int .i64 0, .int .i64 0, .bool false, .bool false] : List Value) rfl hnw hcu, hra⟩
                  have z1 : E'.length + 1 ≤ cap := by omega
                  have z2 : E'.length * 10 + ([.string (kd q), .int .u16 (a : Int), .int .i64 (lo q), .int .u8 5, .int .u8 0, .int .i64 0, .int .i64 0, .int .i64 0, .bool false, .bool false] : List Value).length ≤ cu.size := by show _ + 10 ≤ _; omega
                  clear RA BC RB hra hnw
                  have ha1 : ∀ j u, ([.string (kd q), .int .u16 (a : Int), .int .i64 (lo q), .int .u8 5, .int .u8 0, .int .i64 0, .int .i64 0, .int .i64 0, .bool false, .bool false] : List Value)[j]? = some u → (W4.alloc (.cells #[.string (kd q), .int .u16 (a : Int), .int .i64 (lo q), .int .u8 5, .int .u8 0, .int .i64 0, .int .i64 0, .int .i64 0, .bool false, .bool false] 129)).cell? ((⟨W4.heap.size, 0, none⟩ : Addr).add j) = some u := by
                    intro j u hj
                    rw [add0, Nat.zero_add]
                    refine cell_of (MapKept.heap_alloc W4 _).1 ?_
                    rw [← List.getElem?_toArray] at hj
                    exact hj
                  have ha2 : ∀ u ∈ ([.string (kd q), .int .u16 (a : Int), .int .i64 (lo q), .int .u8 5, .int .u8 0, .int .i64 0, .int .i64 0, .int .i64 0, .bool false, .bool false] : List Value), u.oneCell' = true := by
                    intro u hu
                    simp at hu
                    rcases hu with rfl | rfl | rfl | rfl | rfl | rfl | rfl | rfl | rfl | rfl <;> rfl
                  have hX := fun ops Q act rest o hgd ho hs hx => wpList_append_exact (P := Ybaf.prog) (w := W4.alloc (.cells #[.string (kd q), .int .u16 (a : Int), .int .i64 (lo q), .int .u8 5, .int .u8 0, .int .i64 0, .int .i64 0, .int .i64 0, .bool false, .bool false] 129)) (ops := ops) (Q := Q) (a := act) (rest := rest) (o := o) hgd (.tmp 212) (.tmp 214) 126 ho 129 i0 10 Ybaf.underlying126 hi0 y3 db E'.length cap cu hcu hs ⟨W4.heap.size, 0, none⟩ 1 1 ([.string (kd q), .int .u16 (a : Int), .int .i64 (lo q), .int .u8 5, .int .u8 0, .int .i64 0, .int .i64 0, .int .i64 0, .bool false, .bool false] : List Value) hx rfl ha1 ha2 z1 z2
                  go_wp2_with (at_builtin; refine hX _ _ _ _ _ ?q1G ?q2G ?q3G ?q4G ?nxG)
                  case q1G => rfl
                  case q2G => rfl
                  case q3G => rfl
                  case q4G => rfl
                  case nxG =>
                  clear ha1 ha2 z1 z2 hX
                  intro W6 hW6
                  obtain ⟨hn1, hn2⟩ := HN.out W6 (by have := hW6.out; simpa using this)
                  have HN : Hid _ := And.intro hn1 trivial
                  clear hW6 hn1
                  have u0 : W6.cell? ⟨rv, 0, none⟩ = some (.slice (some ⟨db, 0, none⟩) E'.length cap) := cell_of hn2 rfl
                  have u1 : W6.frozen? ⟨rv, 0, none⟩ = false := fz_of hn2
                  clear hn2 hcu x0 x1 x2 x3 x4 x5 x6 x7 x8 x9 xv
                  go_wp2_with fail
                  go_roundw
                  case rel => exact ⟨k + 1, _, _, L, H, _, _, by omega, by go_num, by rfl, by rfl, HN.out.1, stepE HD.out hkn HQ.out hel.out 2 hcl.out⟩
                  case measure => simp [intOf]; omega
        · have hB' : ¬ (a : Int) < 9 := by omega
          have hwhy : Hid (whyOf dl q = 2) := by
            show _ = _
            unfold whyOf
            rw [if_neg hA, hka.out, if_pos hB']
          have hel : Hid (elig dl nb q = false) := (by simp [elig, sup, hka.out, hB'] : elig dl nb q = false)
          clear rk hzA hA hB
          go_upto_region 34 with fail
          clear c0 c1 c3 c7 c8 hz
          have x0 : W1.cell? ⟨cb, 0, none⟩ = some (.string (kd q)) := cell_of BC rfl
          have x1 : W1.cell? ⟨cb, 1, none⟩ = some (.int .u16 (a : Int)) := cell_of BC rfl
          have x2 : W1.cell? ⟨gb, 1, none⟩ = some (.slice sva sl.length sca) := cell_of RA.gk rfl
          have hown := owns_alloc RA.a (.cells #[.string (kd q), .int .u16 (a : Int), .int .u8 2] 97)
          have RB := RA.next (bal (o := .cells #[.string (kd q), .int .u16 (a : Int), .int .u8 2] 97) (Below.refl _ W1))
          have hlv : rv < W1.heap.size := lt_of_heap RA.v
          have hgw : gb < W1.heap.size := lt_of_heap RA.gk
          have HB : Hid _ := And.intro RB hown
          have ha1 : ∀ j u, ([.string (kd q), .int .u16 (a : Int), .int .u8 2] : List Value)[j]? = some u → (W1.alloc (.cells #[.string (kd q), .int .u16 (a : Int), .int .u8 2] 97)).cell? ((⟨W1.heap.size, 0, none⟩ : Addr).add j) = some u := by
            intro j u hj
            rw [add0, Nat.zero_add]
            refine cell_of (MapKept.heap_alloc W1 _).1 ?_
            rw [← List.getElem?_toArray] at hj
            exact hj
          have ha2 : ∀ u ∈ ([.string (kd q), .int .u16 (a : Int), .int .u8 2] : List Value), u.oneCell' = true := by
            intro u hu
            simp at hu
            rcases hu with rfl | rfl | rfl <;> rfl
          clear RA BC RB
          go_wp2_with (at_builtin; refine wpList_append_own _ rfl (.tmp 190) (.tmp 195) 88 rfl (rv + 1) 97 i97 _ 3 32 Ybaf.underlying88 hi97 y0 y1 y2 rfl (by omega) _ sl.length _ rfl hown ⟨W1.heap.size, 0, none⟩ 1 1 [.string (kd q), .int .u16 (a : Int), .int .u8 2] rfl rfl ha1 ha2 (by unfold maxLen; omega) (by omega) (by simp; omega) ?nextB)
          case nextB =>
            clear ha1 ha2
            intro v' w' hown' hgr _
            obtain ⟨va, c', rfl⟩ := own_shape hown'
            have hk2 := (own_below hown hgr gb (by simp; omega) (by have := HB.out.1.lt; omega)).trans HB.out.1.gk
            have u0 : w'.cell? ⟨gb, 1, none⟩ = some (.slice sva sl.length sca) := cell_of hk2 rfl
            have u1 : w'.frozen? ⟨gb, 1, none⟩ = false := fz_of hk2
            have hfin : w'.ownsRow (rv + 1) 97 3 (.slice va (sl.length + 1) c') (sl.length + 1) (asC dl sl ++ [.string (kd q), .int .u16 (ka q), .int .u8 (whyOf dl q)]) := by
              rw [hwhy.out, hka.out]
              exact hown'
            have HN : Hid _ := And.intro (HB.out.1.asd hfin hgr) trivial
            clear hown' hgr hown hk2 hfin HB
            go_wp2_with fail
            go_roundw
            case rel => exact ⟨k + 1, _, sl ++ [q], L, H, va, c', by omega, by go_num, rfl, rfl, by rw [List.length_append, List.length_singleton]; exact HN.out.1, stepA HD.out hkn HQ.out hel.out⟩
            case measure => simp [intOf]; omega
    · have e : k = ks.length := by omega
      subst e
      have hnl : ¬ (ks.length : Int) < (ks.length : Int) := by omega
      obtain ⟨d1, d2, d3, d4⟩ := HD.out
      rw [List.take_length] at d1 d2
      have hEE : E' = E := d1.trans hE.out.1.symm
      have hgr := R.g
      rw [d1] at R
      have R4' := R.done d2 hm
      rw [← hE.out.1, ← hE.out.2] at R4'
      rw [hEE] at d3 d4
      have hEn : E.Nodup := by rw [hE.out.1]; exact List.Pairwise.filter _ hnd
      have hmemE : ∀ x, x ∈ E → elig dl nb x = true := fun x hx => by rw [hE.out.1, List.mem_filter] at hx; exact hx.2
      have b1 : L ≤ 39 := by rw [d3]; exact part0 hEn
      have b2 : (idxs hi E 2 E.length).length ≤ 39 := part2 hEn (fun x hx => by have := hmemE x hx; simp [elig] at this; exact this.1.1)
      have hsum := idxs_sum hi E E.length
      have hEm : E.length ≤ ks.length := by rw [hE.out.1]; exact List.length_filter_le _ _
      have hs : Hid (∀ i, i < E.length → sup dl (E.getD i 0) = true) := fun i hi' => by have := hmemE _ (getD_mem hi'); simp [elig] at this; exact this.1.2
      have X := HK.out.2.2.grown hgr (by omega) (fun b o e => (hX.out.2.2 b o e).2)
      have hX2 : Hid (kk ≤ 1000 ∧ nv ≤ 1000 ∧ ∀ b o, va = some ⟨b, o, none⟩ → b < w.heap.size) := ⟨hX.out.1, hX.out.2.1, fun b o e => (hX.out.2.2 b o e).1⟩
      have HF : Hid _ := And.intro R4' X
      have HLH : Hid _ := And.intro d3 d4
      have hnn : Hid (L + H + (idxs hi E 2 E.length).length = E.length) := (by omega : L + H + (idxs hi E 2 E.length).length = E.length)
      have HB2 : Hid _ := b2
      clear R R4' X d1 d2 d3 d4 hEE hgr hEn hmemE b2 hsum hlE hls hLb hHb
      go_upto_region 42 with fail
      refine K42 rb db cap sb ks E S dl hl hi lo w _ _ _ _ _ _ _ _ _ _ _ _ _ _ _ _ _ _ _ _ _ _ _ _ _ _ _ _ _ _ _ _ _ _ _ _ _ _ _ _ _ _ _ _ _ _ _ _ _ _ _ _ _ _ _ _ _ _ _ _ _ _ _ _ _ _ _ _ _ _ _ _ _ _ _ _ _ _ _ _ _ _ _ _ _ _ _ _ _ _ _ _ _ _ _ _ _ _ _ _ _ _ _ _ _ _ _ _ _ _ _ _ _ _ _ _ _ _ _ _ _ _ _ _ _ _ _ _ _ _ _ _ _ _ _ _ _ _ _ _ _ _ _ _ _ _ _ _ _ _ _ _ _ _ _ _ _ _ _ _ _ _ _ _ _ _ _ _ _ _ _ _ _ _ _ _ _ _ _ _ _ _ _ _ _ _ _ _ _ _ _ _ _ _ _ _ _ _ _ _ _ _ _ _ _ _ _ _ _ _ _ _ _ _ _ _ _ _ _ _ _ _ _ _ _ _ _ _ _ _ _ _ _ _ _ _ _ _ _ _ _ _ _ _ _ _ _ _ _ _ _ _ _ _ _ _ _ _ _ _ _ _ _ _ _ _ _ _ _ _ _ _ _ _ _ _ _ _ _ _ _ _ _ _ _ _ _ _ _ _ _ _ _ _ _ _ zb gb rv wr.heap.size sva sl.length sca L H _ va nv vcap vals kk _ ?_ hm hEm HF.out.1 hd HLH hnn.out HB2.out hs b1 HF.out.2 hX2
      assumption
end Go.Proofs.YbulkcuegFmt
