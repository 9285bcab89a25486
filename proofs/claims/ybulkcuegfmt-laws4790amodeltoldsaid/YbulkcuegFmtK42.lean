import Derived.Test.YbulkcuegFmtK56
namespace Go.Proofs.YbulkcuegFmt
open Go.RowKit Go.Maps

/-- rank, its candidates ranked -/
structure R4 (w W : World) (db sb zb gb rv cap top : Nat) (E : List (Fin 50)) (vs : Value) (S : Prop) (f : Fin 50 → List Value) : Prop where
  g : Gr2 w W db sb
  z : W.heap[zb]? = some (.cells #[.slice none 0 0, .slice none 0 0] 90 (0, 0))
  k : W.heap[gb]? = some (.cells #[.slice none 0 0, vs] 90 (0, 0))
  v : W.heap[rv]? = some (.cells #[.slice (some ⟨db, 0, none⟩) E.length cap] 126 (0, 0))
  a : AsRow W w.heap.size top vs S
  c : Cnd W db cap E f
  lt : w.heap.size ≤ zb ∧ w.heap.size ≤ gb ∧ w.heap.size ≤ rv ∧ db < w.heap.size ∧ sb < w.heap.size ∧ gb ≠ zb ∧ gb ≠ rv ∧ top ≤ W.heap.size
theorem R4.order {w W W' : World} {db sb zb gb rv cap top : Nat} {E : List (Fin 50)} {vs : Value} {S : Prop} {f : Fin 50 → List Value} (h : R4 w W db sb zb gb rv cap top E vs S f) (hb : Below W.heap.size W W') {D : Nat → Int} (ho : Rw W' W.heap.size E.length D) : R5 w W' db sb zb gb rv W.heap.size cap top E vs S D f := by
  have l1 := lt_of_heap h.z
  have l2 := lt_of_heap h.k
  have l3 := lt_of_heap h.v
  have l4 := h.c.lt
  have lt := h.lt
  have hw := h.g.size
  have hs := hb.size
  exact ⟨h.g.below hb, (hb.block _ l1).trans h.z, (hb.block _ l2).trans h.k, (hb.block _ l3).trans h.v, h.a.keep (fun b _ h2 _ => hb.block b (by omega)), ho, h.c.of_block (hb.block _ l4), by omega⟩
theorem Rw.set {W : World} {bl N : Nat} {D : Nat → Int} (h : Rw W bl N D) (p : Nat) (x : Int) : Rw (W.setCell ⟨bl, p, none⟩ (.int .i64 x)) bl N (upd D p x) := by
  obtain ⟨cs, h1, h2, h3⟩ := h
  refine ⟨_, heap_set _ h1, by simpa using h2, fun i hi => ?_⟩
  unfold upd
  by_cases e : i = p
  · subst e
    rw [if_pos rfl]
    simp [show i < cs.size by omega]
  · rw [if_neg e, Array.getElem?_setIfInBounds, if_neg (fun e' => e e'.symm)]
    exact h3 i hi
theorem R5.set {w W : World} {db sb zb gb rv bl cap top : Nat} {E : List (Fin 50)} {vs : Value} {S : Prop} {D : Nat → Int} {f : Fin 50 → List Value} (h : R5 w W db sb zb gb rv bl cap top E vs S D f) (hd : db ≠ sb) (p : Nat) (x : Int) : R5 w (W.setCell ⟨bl, p, none⟩ (.int .i64 x)) db sb zb gb rv bl cap top E vs S (upd D p x) f :=
  h.turn hd ((Gr2.refl _ _ _).left (gr1 _ (World.grownBy.refl _ _))) (h.o.set p x)
theorem R5.side {w W : World} {db sb zb gb rv bl cap top : Nat} {E : List (Fin 50)} {vs : Value} {S : Prop} {D : Nat → Int} {f : Fin 50 → List Value} (h : R5 w W db sb zb gb rv bl cap top E vs S D f) {nx : Nat} (hx : bl < nx ∧ rv < nx ∧ gb < nx ∧ zb < nx) (p : Nat) (v : Value) : R5 w (W.setCell ⟨nx, p, none⟩ v) db sb zb gb rv bl cap top E vs S D f := by
  have lt := h.lt
  have ne : ∀ b, b ≠ nx → (W.setCell ⟨nx, p, none⟩ v).heap[b]? = W.heap[b]? := fun b hb => Below.heap_setCell _ _ _ _ hb
  exact ⟨h.g.new (gr1 _ (World.grownBy.refl _ _)) (by omega), (ne _ (by omega)).trans h.z, (ne _ (by omega)).trans h.k, (ne _ (by omega)).trans h.v, h.a.keep (fun b _ _ _ => ne b (by omega)), h.o.of_block (ne _ (by omega)), h.c.of_block (ne _ (by omega)), by simpa [World.setCell] using h.lt⟩
theorem row_int {w1 : World} {g n : Nat} {base : Nat} {xs : List Value} (ho : w1.ownsRow base 3 1 (.slice (some ⟨g, 0, none⟩) n n) n xs) (hx : ∀ i, i < n → xs[i]? = some (.int .i64 0)) : Rw w1 g n (fun _ => 0) := by
  rcases ho.2 with ⟨h, _⟩ | ⟨g, c, cu, h, _, hh, _, _, hc, ht⟩
  · cases h
  · simp only [Value.slice.injEq, Option.some.injEq, Addr.mk.injEq] at h
    obtain ⟨⟨rfl, _, _⟩, _, rfl⟩ := h
    refine ⟨cu, hh, by simpa using hc, fun i hi => ?_⟩
    have := hx i hi
    rw [← ht, List.getElem?_take, if_pos (by omega)] at this
    simpa using this

theorem Prt.step2 {hi : Fin 50 → Bool} {E : List (Fin 50)} {D : Nat → Int} {k L H : Nat} (hL : L = (idxs hi E 0 E.length).length ∧ H = (idxs hi E 1 E.length).length) (h : Prt hi E D L H k) (hk : k < E.length) (c : Int) (hc : clsOf hi (E.getD k 0) = c) (p : Nat)
    (hp : p = (if c = 0 then 0 else if c = 1 then L else L + H) + (idxs hi E c k).length) : Prt hi E (upd D p (k : Int)) L H (k + 1) ∧ p < E.length := by
  obtain ⟨rfl, rfl⟩ := hL
  exact Prt.step h hk c hc p hp
theorem idxs_at (hi : Fin 50 → Bool) (E : List (Fin 50)) (c d : Int) (k : Nat) (hc : clsOf hi (E.getD k 0) = d) : (idxs hi E c (k + 1)).length = (idxs hi E c k).length + (if d = c then 1 else 0) := by
  rw [idxs_succ, hc, List.length_append]
  split <;> rfl

set_option maxRecDepth 1000000 in
set_option maxHeartbeats 2000000 in
theorem K42 (rb db cap sb : Nat) (ks E : List (Fin 50)) (S : Prop) (dl hl : List Int) (hi : Fin 50 → Bool) (lo : Fin 50 → Int) (w : World)
    (s4 s5 s6 s7 s9 s10 s11 s12 s13 s18 s19 s20 s21 s22 s23 s24 s25 s26 s27 s28 s29 s30 s31 s32 s33 s34 s35 s36 s37 s38 s39 s40 s41 s42 s43 s44 s45 s46 s47 s48 s49 s50 s51 s52 s53 s54 s55 s56 s57 s58 s59 s60 s61 s62 s63 s64 s65 s66 s67 s68 s69 s70 s71 s72 s73 s74 s75 s76 s77 s78 s79 s80 s81 s82 s83 s84 s85 s86 s87 s88 s89 s90 s91 s92 s93 s94 s95 s96 s97 s98 s99 s100 s101 s102 s103 s104 s105 s106 s107 s108 s109 s110 s111 s112 s113 s114 s115 s116 s117 s118 s119 s120 s121 s122 s123 s124 s125 s126 s127 s128 s129 s130 s131 s132 s133 s134 s135 s136 s137 s138 s139 s140 s141 s142 s143 s144 s145 s146 s147 s148 s149 s150 s151 s152 s153 s154 s155 s156 s157 s158 s159 s160 s161 s162 s163 s164 s165 s166 s167 s168 s169 s170 s171 s172 s173 s174 s175 s176 s177 s178 s179 s180 s181 s182 s183 s184 s185 s186 s187 s188 s189 s190 s191 s192 s193 s194 s195 s196 s197 s198 s199 s200 s201 s202 s203 s204 s205 s206 s207 s208 s209 s210 s211 s212 s213 s214 s215 s216 s217 s218 s219 s220 s221 s222 s223 s224 s225 s226 s227 s228 s229 s230 s231 s232 s233 s234 s235 s236 s237 s238 s239 s240 s241 s242 s243 s244 s245 s246 s247 s248 s249 s250 s251 s252 s253 s254 s255 s256 s257 s258 s259 s260 s261 s262 s263 s264 s265 s266 s267 s268 s269 s270 s271 s272 s273 s274 s275 s276 s277 s278 s279 s280 s281 s282 s283 s284 s285 s286 s287 s288 s289 s290 s291 s292 s293 s294 s295 s296 s297 s298 s299 s300 s301 s302 s303 : Value)
    (K : Act → World → Prop) (zb gb rv top : Nat) (sa : Option Addr) (sn sc : Nat) (L H n : Nat) (va : Option Addr) (nv vcap : Nat) (vals : Nat → Int) (kk : Nat) (W : World)
    (hK : ∀ a w', Code.wp Ybaf.prog (spine 8 (Ybaf.f27.body.getD .skip)) (bodyPost Ybaf.prog Ybaf.f27 fun e w' => ∃ vr vs, e = .returned (.agg #[vr, vs]) ∧ RankP w w' db sb E S hi dl hl lo vr vs) a w' → K a w')
    (hm : ks.length ≤ 50) (hEm : E.length ≤ ks.length) (R : R4 w W db sb zb gb rv cap top E (.slice sa sn sc) S (candE dl hl hi lo)) (hd : db ≠ sb) (hLH : Hid (L = (idxs hi E 0 E.length).length ∧ H = (idxs hi E 1 E.length).length)) (hn : L + H + n = E.length) (hn39 : n ≤ 39) (hs : Hid (∀ i, i < E.length → sup dl (E.getD i 0) = true)) (h39 : L ≤ 39) (X : Src W sb va nv vcap vals kk) (hX : Hid (kk ≤ 1000 ∧ nv ≤ 1000 ∧ ∀ b o, va = some ⟨b, o, none⟩ → b < w.heap.size)) :
    Code.wp Ybaf.prog (headAt 7 (Ybaf.f27.body.getD .skip)) (Exit.then K (bodyPost Ybaf.prog Ybaf.f27 fun e w' => ∃ vr vs, e = .returned (.agg #[vr, vs]) ∧ RankP w w' db sb E S hi dl hl lo vr vs)) ⟨List.toArray (.pointer (some ⟨rb, 0, none⟩) :: .slice (some ⟨db, 0, none⟩) ks.length cap :: .iface 49 (.pointer (some ⟨sb, 0, none⟩)) :: .bool false :: s4 :: s5 :: s6 :: s7 :: .pointer (some ⟨zb, 0, none⟩) :: s9 :: s10 :: s11 :: s12 :: s13 :: .pointer (some ⟨gb, 0, none⟩) :: .pointer (some ⟨rv, 0, none⟩) :: .int .i64 (L : Nat) :: .int .i64 (H : Nat) :: s18 :: s19 :: s20 :: s21 :: s22 :: s23 :: s24 :: s25 :: s26 :: s27 :: s28 :: s29 :: s30 :: s31 :: s32 :: s33 :: s34 :: s35 :: s36 :: s37 :: s38 :: s39 :: s40 :: s41 :: s42 :: s43 :: s44 :: s45 :: s46 :: s47 :: s48 :: s49 :: s50 :: s51 :: s52 :: s53 :: s54 :: s55 :: s56 :: s57 :: s58 :: s59 :: s60 :: s61 :: s62 :: s63 :: s64 :: s65 :: s66 :: s67 :: s68 :: s69 :: s70 :: s71 :: s72 :: s73 :: s74 :: s75 :: s76 :: s77 :: s78 :: s79 :: s80 :: s81 :: s82 :: s83 :: s84 :: s85 :: s86 :: s87 :: s88 :: s89 :: s90 :: s91 :: s92 :: s93 :: s94 :: s95 :: s96 :: s97 :: s98 :: s99 :: s100 :: s101 :: s102 :: s103 :: s104 :: s105 :: s106 :: s107 :: s108 :: s109 :: s110 :: s111 :: s112 :: s113 :: s114 :: s115 :: s116 :: s117 :: s118 :: s119 :: s120 :: s121 :: s122 :: s123 :: s124 :: s125 :: s126 :: s127 :: s128 :: s129 :: s130 :: s131 :: s132 :: s133 :: s134 :: s135 :: s136 :: s137 :: s138 :: s139 :: s140 :: s141 :: s142 :: s143 :: s144 :: s145 :: s146 :: s147 :: s148 :: s149 :: s150 :: s151 :: s152 :: s153 :: s154 :: s155 :: s156 :: s157 :: s158 :: s159 :: s160 :: s161 :: s162 :: s163 :: s164 :: s165 :: s166 :: s167 :: s168 :: s169 :: s170 :: s171 :: s172 :: s173 :: s174 :: s175 :: s176 :: s177 :: s178 :: s179 :: s180 :: s181 :: s182 :: s183 :: s184 :: s185 :: s186 :: s187 :: s188 :: s189 :: s190 :: s191 :: s192 :: s193 :: s194 :: s195 :: s196 :: s197 :: s198 :: s199 :: s200 :: s201 :: s202 :: s203 :: s204 :: s205 :: s206 :: s207 :: s208 :: s209 :: s210 :: s211 :: s212 :: s213 :: s214 :: s215 :: s216 :: s217 :: s218 :: s219 :: s220 :: s221 :: s222 :: s223 :: s224 :: s225 :: s226 :: s227 :: s228 :: s229 :: s230 :: s231 :: s232 :: s233 :: s234 :: s235 :: s236 :: s237 :: s238 :: s239 :: s240 :: s241 :: s242 :: s243 :: s244 :: s245 :: s246 :: s247 :: s248 :: s249 :: s250 :: s251 :: s252 :: s253 :: s254 :: s255 :: s256 :: s257 :: s258 :: s259 :: s260 :: s261 :: s262 :: s263 :: s264 :: s265 :: s266 :: s267 :: s268 :: s269 :: s270 :: s271 :: s272 :: s273 :: s274 :: s275 :: s276 :: s277 :: s278 :: s279 :: s280 :: s281 :: s282 :: s283 :: s284 :: s285 :: s286 :: s287 :: s288 :: s289 :: s290 :: s291 :: s292 :: s293 :: s294 :: s295 :: s296 :: s297 :: s298 :: s299 :: s300 :: s301 :: s302 :: s303 :: []), []⟩ W := by
  conv => arg 2; whnf
  conv at hK => enter [a, w', 1, 2]; whnf
  obtain ⟨i3, hi3, hz0, hz1, hz2⟩ := info_parts info3
  have v0 : W.cell? ⟨rv, 0, none⟩ = some (.slice (some ⟨db, 0, none⟩) E.length cap) := cell_of R.v rfl
  have HR : Hid _ := And.intro R X
  clear R X
  go_wp2_with (at_make; refine wpList_make_full _ rfl (.tmp 218) (.tmp 218) 36 rfl w.heap.size 3 i3 _ 1 Ybaf.underlying36 hi3 hz0 hz1 .i64 .i64 E.length E.length E.length rfl rfl rfl rfl ?b2 ?b3 ?b4 ?next)
  case b2 => rw [hz2]; omega
  case b3 => unfold maxLen; omega
  case b4 => exact HR.out.1.g.size
  case next =>
  intro w1 ho hgr
  have hb1 : Below W.heap.size W w1 := ⟨hgr.os, hgr.tape, hgr.output, hgr.size, fun k hk => hgr.block k hk (by simp)⟩
  have R0 := HR.out.1.order hb1 (row_int (g := W.heap.size) (by simpa using ho) (fun i hi => by simp [madeCells, hi, Nat.mod_one]))
  have X0 := HR.out.2.below hb1
  have hb2 := bal (o := .cells #[.int .i64 0, .int .i64 (L : Nat), .int .i64 ((L : Int) + (H : Int))] 141) (Below.refl _ w1)
  have N0 := (MapKept.heap_alloc w1 (.cells #[.int .i64 0, .int .i64 (L : Nat), .int .i64 ((L : Int) + (H : Int))] 141)).1
  have R1 := R0.below hb2
  have X1 := X0.below hb2
  have hnx : W.heap.size < w1.heap.size ∧ rv < w1.heap.size ∧ gb < w1.heap.size ∧ zb < w1.heap.size := ⟨R0.o.lt, lt_of_heap R0.v, lt_of_heap R0.k, lt_of_heap R0.z⟩
  have N1 : (w1.alloc (.cells #[.int .i64 0, .int .i64 (L : Nat), .int .i64 ((L : Int) + (H : Int))] 141)).heap[w1.heap.size]? = some (.cells #[.int .i64 ((idxs hi E 0 0).length : Nat), .int .i64 ((L + (idxs hi E 1 0).length : Nat) : Int), .int .i64 ((L + H + (idxs hi E 2 0).length : Nat) : Int)] 141 (0, 0)) := N0
  have HP0 : Hid (Prt hi E (fun _ => 0) L H 0) := ⟨rfl, by simp [idxs, seg], by simp [idxs, seg]⟩
  have v1 : w1.cell? ⟨rv, 0, none⟩ = some (.slice (some ⟨db, 0, none⟩) E.length cap) := cell_of R0.v rfl
  have v2 : (w1.alloc (.cells #[.int .i64 0, .int .i64 (L : Nat), .int .i64 ((L : Int) + (H : Int))] 141)).cell? ⟨rv, 0, none⟩ = some (.slice (some ⟨db, 0, none⟩) E.length cap) := cell_of R1.v rfl
  have HS : Hid _ := And.intro R1 (And.intro N1 X1)
  have hwp : IntKind.i64.wrap ((L : Int) + (H : Int)) = (L : Int) + (H : Int) := wrap64 (by omega) (by omega)
  clear R0 X0 R1 N1 N0 X1 hb1 hb2 hgr ho HR
  go_upto_region 44 with fail
  generalize w1.alloc (.cells #[.int .i64 0, .int .i64 (L : Nat), .int .i64 ((L : Int) + (H : Int))] 141) = W2 at HS v2 ⊢
  generalize w1.heap.size = nx at HS hnx ⊢
  generalize W.heap.size = bl at HS hnx ⊢
  clear v1 v0
  go_wp2_with fail
  go_loopw [227] (fun vi wr => ∃ (k : Nat) (D : Nat → Int), k ≤ E.length ∧ vi = .int .i64 k ∧ R5 w wr db sb zb gb rv bl cap top E (.slice sa sn sc) S D (candE dl hl hi lo) ∧ wr.heap[nx]? = some (.cells #[.int .i64 ((idxs hi E 0 k).length : Nat), .int .i64 ((L + (idxs hi E 1 k).length : Nat) : Int), .int .i64 ((L + H + (idxs hi E 2 k).length : Nat) : Int)] 141 (0, 0)) ∧ Prt hi E D L H k ∧ Src wr sb va nv vcap vals kk) (fun vi _ => E.length - (intOf vi).toNat)
  case atStart => exact ⟨0, _, Nat.zero_le _, rfl, HS.out.1, HS.out.2.1, HP0.out, HS.out.2.2⟩
  case round =>
    obtain ⟨k, D, hk, rfl, R, N, P, X⟩ := hrel
    have lt := R.lt
    by_cases hkn : k < E.length
    · have hkn' : (k : Int) < (E.length : Int) := by omega
      have e0 : wr.cell? ⟨db, k * 10, none⟩ = some (.string (kd (E.getD k 0))) := R.c.get (c := 0) hkn (by omega) rfl
      have e1 : wr.cell? ⟨db, k * 10 + 1, none⟩ = some (.int .u16 (ka (E.getD k 0))) := R.c.get (c := 1) hkn (by omega) rfl
      have e2 : wr.cell? ⟨db, k * 10 + 2, none⟩ = some (.int .i64 (lo (E.getD k 0))) := R.c.get (c := 2) hkn (by omega) rfl
      have e3 : wr.cell? ⟨db, k * 10 + 3, none⟩ = some (.int .u8 (ruleOf (clsOf hi (E.getD k 0)))) := R.c.get (c := 3) hkn (by omega) rfl
      have e4 : wr.cell? ⟨db, k * 10 + 4, none⟩ = some (.int .u8 0) := R.c.get (c := 4) hkn (by omega) rfl
      have e5 : wr.cell? ⟨db, k * 10 + 5, none⟩ = some (.int .i64 0) := R.c.get (c := 5) hkn (by omega) rfl
      have e6 : wr.cell? ⟨db, k * 10 + 6, none⟩ = some (.int .i64 (witOf dl hl (E.getD k 0))) := R.c.get (c := 6) hkn (by omega) rfl
      have e7 : wr.cell? ⟨db, k * 10 + 7, none⟩ = some (.int .i64 (homOf dl (E.getD k 0))) := R.c.get (c := 7) hkn (by omega) rfl
      have e8 : wr.cell? ⟨db, k * 10 + 8, none⟩ = some (.bool (hi (E.getD k 0))) := R.c.get (c := 8) hkn (by omega) rfl
      have e9 : wr.cell? ⟨db, k * 10 + 9, none⟩ = some (.bool false) := R.c.get (c := 9) hkn (by omega) rfl
      have v0 : True := trivial
      obtain ⟨q, hq⟩ : ∃ q, E.getD k 0 = q := ⟨_, rfl⟩
      rw [hq] at e0 e1 e2 e3 e6 e7 e8
      have HQ : Hid _ := hq
      clear hq
      have HX : Hid (∀ (W' : World) (v : Value) (p : Nat) (x : Nat × Value), Below wr.heap.size wr W' → Src ((W'.setCell ⟨bl, p, none⟩ v).setCell ⟨nx, x.1, none⟩ x.2) sb va nv vcap vals kk) := fun W' v p x hb => ((X.below hb).set v (by omega) (fun b o e => by have := hX.out.2.2 b o e; omega)).set x.2 (by omega) (fun b o e => by have := hX.out.2.2 b o e; omega)
      clear X
      rcases cls_three hi q with hcl | hcl | hcl
      · have hru : ruleOf (clsOf hi q) = 1 := by rw [hcl]; rfl
        rw [hru] at e3
        obtain ⟨p, hp⟩ : ∃ p : Nat, p = 0 + (idxs hi E 0 k).length := ⟨_, rfl⟩
        obtain ⟨P', hpE⟩ := Prt.step2 hLH.out P hkn 0 (by rw [HQ.out]; exact hcl) p (by rw [hp]; rfl)
        have hpE' : (p : Int) < (E.length : Int) := by omega
        have hv : (((idxs hi E 0 k).length : Nat) : Int) = (p : Int) := by subst hp; first | rfl | simp
        have b0 := bal (o := .cells #[.string (kd q), .int .u16 (ka q), .int .i64 (lo q), .int .u8 1, .int .u8 0, .int .i64 0, .int .i64 (witOf dl hl q), .int .i64 (homOf dl q), .bool (hi q), .bool false] 129) (Below.refl _ wr)
        have t3 : (wr.alloc (.cells #[.string (kd q), .int .u16 (ka q), .int .i64 (lo q), .int .u8 1, .int .u8 0, .int .i64 0, .int .i64 (witOf dl hl q), .int .i64 (homOf dl q), .bool (hi q), .bool false] 129)).cell? ⟨wr.heap.size, 3, none⟩ = some (.int .u8 1) := by simp [go_sem]
        have R1 := R.below b0
        have N1 := (b0.block _ (lt_of_heap N)).trans N
        have hcq : clsOf hi (E.getD k 0) = 0 := by rw [HQ.out]; exact hcl
        have HP : Hid _ := And.intro P' (And.intro hcq hp)
        have HB : Hid _ := b0
        clear R N b0 P' P hcl hp hcq
        go_upto_region 47 with fail
        generalize wr.alloc (.cells #[.string (kd q), .int .u16 (ka q), .int .i64 (lo q), .int .u8 1, .int .u8 0, .int .i64 0, .int .i64 (witOf dl hl q), .int .i64 (homOf dl q), .bool (hi q), .bool false] 129) = W1 at t3 R1 N1 HB ⊢
        generalize wr.heap.size = cb at t3 ⊢
        clear e0 e1 e2 e3 e4 e5 e6 e7 e8 e9 v0
        have n1 : W1.cell? ⟨nx, 0, none⟩ = some (.int .i64 ((idxs hi E 0 k).length : Nat)) := cell_of N1 rfl
        rw [hv] at n1
        have o1 := R1.o.get hpE
        have o2 := R1.o.fz p
        have R2 := R1.set hd p (k : Int)
        have N2 : (W1.setCell ⟨bl, p, none⟩ (.int .i64 (k : Int))).heap[nx]? = _ := (Below.heap_setCell _ _ _ _ (by show nx ≠ bl; omega)).trans N1
        have n2 : (W1.setCell ⟨bl, p, none⟩ (.int .i64 (k : Int))).cell? ⟨nx, 0, none⟩ = some (.int .i64 ((idxs hi E 0 k).length : Nat)) := cell_of N2 rfl
        rw [hv] at n2
        have n3 : (W1.setCell ⟨bl, p, none⟩ (.int .i64 (k : Int))).frozen? ⟨nx, 0, none⟩ = false := fz_of N2
        have R3 := R2.side (nx := nx) hnx 0 (.int .i64 ((p : Int) + 1))
        have N3 := heap_set (k := 0) (.int .i64 ((p : Int) + 1)) N2
        have HF : Hid (R5 w ((W1.setCell ⟨bl, p, none⟩ (.int .i64 (k : Int))).setCell ⟨nx, 0, none⟩ (.int .i64 ((p : Int) + 1))) db sb zb gb rv bl cap top E (.slice sa sn sc) S (upd D p (k : Int)) (candE dl hl hi lo) ∧ ((W1.setCell ⟨bl, p, none⟩ (.int .i64 (k : Int))).setCell ⟨nx, 0, none⟩ (.int .i64 ((p : Int) + 1))).heap[nx]? = some (.cells #[.int .i64 ((idxs hi E 0 (k + 1)).length : Nat), .int .i64 ((L + (idxs hi E 1 (k + 1)).length : Nat) : Int), .int .i64 ((L + H + (idxs hi E 2 (k + 1)).length : Nat) : Int)] 141 (0, 0))) := by
          refine ⟨R3, N3.trans ?_⟩
          rw [idxs_at hi E 0 0 k HP.out.2.1, idxs_at hi E 1 0 k HP.out.2.1, idxs_at hi E 2 0 k HP.out.2.1]
          have hpp := HP.out.2.2
          have hq : ((p : Int) + 1) = ((((idxs hi E 0 k).length : Nat) : Int)) + 1 := by rw [hv]
          rw [hq]
          simp
          try omega
        clear R1 N1 R2 N2 R3 N3 hv
        go_wp2_with fail
        go_roundw
        case rel => exact ⟨k + 1, _, by omega, by go_num, HF.out.1, HF.out.2, HP.out.1, HX.out _ _ p (0, _) HB.out⟩
        case measure => simp [intOf]; omega
      · have hru : ruleOf (clsOf hi q) = 4 := by rw [hcl]; rfl
        rw [hru] at e3
        obtain ⟨p, hp⟩ : ∃ p : Nat, p = L + (idxs hi E 1 k).length := ⟨_, rfl⟩
        obtain ⟨P', hpE⟩ := Prt.step2 hLH.out P hkn 1 (by rw [HQ.out]; exact hcl) p (by rw [hp]; rfl)
        have hpE' : (p : Int) < (E.length : Int) := by omega
        have hv : (((L + (idxs hi E 1 k).length : Nat) : Int) : Int) = (p : Int) := by subst hp; first | rfl | simp
        have b0 := bal (o := .cells #[.string (kd q), .int .u16 (ka q), .int .i64 (lo q), .int .u8 4, .int .u8 0, .int .i64 0, .int .i64 (witOf dl hl q), .int .i64 (homOf dl q), .bool (hi q), .bool false] 129) (Below.refl _ wr)
        have t3 : (wr.alloc (.cells #[.string (kd q), .int .u16 (ka q), .int .i64 (lo q), .int .u8 4, .int .u8 0, .int .i64 0, .int .i64 (witOf dl hl q), .int .i64 (homOf dl q), .bool (hi q), .bool false] 129)).cell? ⟨wr.heap.size, 3, none⟩ = some (.int .u8 4) := by simp [go_sem]
        have R1 := R.below b0
        have N1 := (b0.block _ (lt_of_heap N)).trans N
        have hcq : clsOf hi (E.getD k 0) = 1 := by rw [HQ.out]; exact hcl
        have HP : Hid _ := And.intro P' (And.intro hcq hp)
        have HB : Hid _ := b0
        clear R N b0 P' P hcl hp hcq
        go_upto_region 47 with fail
        generalize wr.alloc (.cells #[.string (kd q), .int .u16 (ka q), .int .i64 (lo q), .int .u8 4, .int .u8 0, .int .i64 0, .int .i64 (witOf dl hl q), .int .i64 (homOf dl q), .bool (hi q), .bool false] 129) = W1 at t3 R1 N1 HB ⊢
        generalize wr.heap.size = cb at t3 ⊢
        clear e0 e1 e2 e3 e4 e5 e6 e7 e8 e9 v0
        have n1 : W1.cell? ⟨nx, 1, none⟩ = some (.int .i64 ((L + (idxs hi E 1 k).length : Nat) : Int)) := cell_of N1 rfl
        rw [hv] at n1
        have o1 := R1.o.get hpE
        have o2 := R1.o.fz p
        have R2 := R1.set hd p (k : Int)
        have N2 : (W1.setCell ⟨bl, p, none⟩ (.int .i64 (k : Int))).heap[nx]? = _ := (Below.heap_setCell _ _ _ _ (by show nx ≠ bl; omega)).trans N1
        have n2 : (W1.setCell ⟨bl, p, none⟩ (.int .i64 (k : Int))).cell? ⟨nx, 1, none⟩ = some (.int .i64 ((L + (idxs hi E 1 k).length : Nat) : Int)) := cell_of N2 rfl
        rw [hv] at n2
        have n3 : (W1.setCell ⟨bl, p, none⟩ (.int .i64 (k : Int))).frozen? ⟨nx, 1, none⟩ = false := fz_of N2
        have R3 := R2.side (nx := nx) hnx 1 (.int .i64 ((p : Int) + 1))
        have N3 := heap_set (k := 1) (.int .i64 ((p : Int) + 1)) N2
        have HF : Hid (R5 w ((W1.setCell ⟨bl, p, none⟩ (.int .i64 (k : Int))).setCell ⟨nx, 1, none⟩ (.int .i64 ((p : Int) + 1))) db sb zb gb rv bl cap top E (.slice sa sn sc) S (upd D p (k : Int)) (candE dl hl hi lo) ∧ ((W1.setCell ⟨bl, p, none⟩ (.int .i64 (k : Int))).setCell ⟨nx, 1, none⟩ (.int .i64 ((p : Int) + 1))).heap[nx]? = some (.cells #[.int .i64 ((idxs hi E 0 (k + 1)).length : Nat), .int .i64 ((L + (idxs hi E 1 (k + 1)).length : Nat) : Int), .int .i64 ((L + H + (idxs hi E 2 (k + 1)).length : Nat) : Int)] 141 (0, 0))) := by
          refine ⟨R3, N3.trans ?_⟩
          rw [idxs_at hi E 0 1 k HP.out.2.1, idxs_at hi E 1 1 k HP.out.2.1, idxs_at hi E 2 1 k HP.out.2.1]
          have hpp := HP.out.2.2
          have hq : ((p : Int) + 1) = ((((L + (idxs hi E 1 k).length : Nat) : Int) : Int)) + 1 := by rw [hv]
          rw [hq]
          simp
          try omega
        clear R1 N1 R2 N2 R3 N3 hv
        go_wp2_with fail
        go_roundw
        case rel => exact ⟨k + 1, _, by omega, by go_num, HF.out.1, HF.out.2, HP.out.1, HX.out _ _ p (1, _) HB.out⟩
        case measure => simp [intOf]; omega
      · have hru : ruleOf (clsOf hi q) = 5 := by rw [hcl]; rfl
        rw [hru] at e3
        obtain ⟨p, hp⟩ : ∃ p : Nat, p = L + H + (idxs hi E 2 k).length := ⟨_, rfl⟩
        obtain ⟨P', hpE⟩ := Prt.step2 hLH.out P hkn 2 (by rw [HQ.out]; exact hcl) p (by rw [hp]; rfl)
        have hpE' : (p : Int) < (E.length : Int) := by omega
        have hv : (((L + H + (idxs hi E 2 k).length : Nat) : Int) : Int) = (p : Int) := by subst hp; first | rfl | simp
        have b0 := bal (o := .cells #[.string (kd q), .int .u16 (ka q), .int .i64 (lo q), .int .u8 5, .int .u8 0, .int .i64 0, .int .i64 (witOf dl hl q), .int .i64 (homOf dl q), .bool (hi q), .bool false] 129) (Below.refl _ wr)
        have t3 : (wr.alloc (.cells #[.string (kd q), .int .u16 (ka q), .int .i64 (lo q), .int .u8 5, .int .u8 0, .int .i64 0, .int .i64 (witOf dl hl q), .int .i64 (homOf dl q), .bool (hi q), .bool false] 129)).cell? ⟨wr.heap.size, 3, none⟩ = some (.int .u8 5) := by simp [go_sem]
        have R1 := R.below b0
        have N1 := (b0.block _ (lt_of_heap N)).trans N
        have hcq : clsOf hi (E.getD k 0) = 2 := by rw [HQ.out]; exact hcl
        have HP : Hid _ := And.intro P' (And.intro hcq hp)
        have HB : Hid _ := b0
        clear R N b0 P' P hcl hp hcq
        go_upto_region 47 with fail
        generalize wr.alloc (.cells #[.string (kd q), .int .u16 (ka q), .int .i64 (lo q), .int .u8 5, .int .u8 0, .int .i64 0, .int .i64 (witOf dl hl q), .int .i64 (homOf dl q), .bool (hi q), .bool false] 129) = W1 at t3 R1 N1 HB ⊢
        generalize wr.heap.size = cb at t3 ⊢
        clear e0 e1 e2 e3 e4 e5 e6 e7 e8 e9 v0
        have n1 : W1.cell? ⟨nx, 2, none⟩ = some (.int .i64 ((L + H + (idxs hi E 2 k).length : Nat) : Int)) := cell_of N1 rfl
        rw [hv] at n1
        have o1 := R1.o.get hpE
        have o2 := R1.o.fz p
        have R2 := R1.set hd p (k : Int)
        have N2 : (W1.setCell ⟨bl, p, none⟩ (.int .i64 (k : Int))).heap[nx]? = _ := (Below.heap_setCell _ _ _ _ (by show nx ≠ bl; omega)).trans N1
        have n2 : (W1.setCell ⟨bl, p, none⟩ (.int .i64 (k : Int))).cell? ⟨nx, 2, none⟩ = some (.int .i64 ((L + H + (idxs hi E 2 k).length : Nat) : Int)) := cell_of N2 rfl
        rw [hv] at n2
        have n3 : (W1.setCell ⟨bl, p, none⟩ (.int .i64 (k : Int))).frozen? ⟨nx, 2, none⟩ = false := fz_of N2
        have R3 := R2.side (nx := nx) hnx 2 (.int .i64 ((p : Int) + 1))
        have N3 := heap_set (k := 2) (.int .i64 ((p : Int) + 1)) N2
        have HF : Hid (R5 w ((W1.setCell ⟨bl, p, none⟩ (.int .i64 (k : Int))).setCell ⟨nx, 2, none⟩ (.int .i64 ((p : Int) + 1))) db sb zb gb rv bl cap top E (.slice sa sn sc) S (upd D p (k : Int)) (candE dl hl hi lo) ∧ ((W1.setCell ⟨bl, p, none⟩ (.int .i64 (k : Int))).setCell ⟨nx, 2, none⟩ (.int .i64 ((p : Int) + 1))).heap[nx]? = some (.cells #[.int .i64 ((idxs hi E 0 (k + 1)).length : Nat), .int .i64 ((L + (idxs hi E 1 (k + 1)).length : Nat) : Int), .int .i64 ((L + H + (idxs hi E 2 (k + 1)).length : Nat) : Int)] 141 (0, 0))) := by
          refine ⟨R3, N3.trans ?_⟩
          rw [idxs_at hi E 0 2 k HP.out.2.1, idxs_at hi E 1 2 k HP.out.2.1, idxs_at hi E 2 2 k HP.out.2.1]
          have hpp := HP.out.2.2
          have hq : ((p : Int) + 1) = ((((L + H + (idxs hi E 2 k).length : Nat) : Int) : Int)) + 1 := by rw [hv]
          rw [hq]
          simp
          try omega
        clear R1 N1 R2 N2 R3 N3 hv
        go_wp2_with fail
        go_roundw
        case rel => exact ⟨k + 1, _, by omega, by go_num, HF.out.1, HF.out.2, HP.out.1, HX.out _ _ p (2, _) HB.out⟩
        case measure => simp [intOf]; omega
    · have e : k = E.length := by omega
      subst e
      have hnl : ¬ (E.length : Int) < (E.length : Int) := by omega
      have HF : Hid _ := And.intro R (And.intro P X)
      clear R N P X lt
      go_upto_region 56 with fail
      refine K56 rb db cap sb ks E S dl hl hi lo w _ _ _ _ _ _ _ _ _ _ _ _ _ _ _ _ _ _ _ _ _ _ _ _ _ _ _ _ _ _ _ _ _ _ _ _ _ _ _ _ _ _ _ _ _ _ _ _ _ _ _ _ _ _ _ _ _ _ _ _ _ _ _ _ _ _ _ _ _ _ _ _ _ _ _ _ _ _ _ _ _ _ _ _ _ _ _ _ _ _ _ _ _ _ _ _ _ _ _ _ _ _ _ _ _ _ _ _ _ _ _ _ _ _ _ _ _ _ _ _ _ _ _ _ _ _ _ _ _ _ _ _ _ _ _ _ _ _ _ _ _ _ _ _ _ _ _ _ _ _ _ _ _ _ _ _ _ _ _ _ _ _ _ _ _ _ _ _ _ _ _ _ _ _ _ _ _ _ _ _ _ _ _ _ _ _ _ _ _ _ _ _ _ _ _ _ _ _ _ _ _ _ _ _ _ _ _ _ _ _ _ _ _ _ _ _ _ _ _ _ _ _ _ _ _ _ _ _ _ _ _ _ _ _ _ _ _ _ _ _ _ _ _ _ _ _ _ _ _ _ _ _ _ _ _ _ _ _ _ _ _ _ _ _ _ _ _ _ _ _ _ _ _ _ _ _ _ _ _ _ _ _ _ _ _ _ _ _ _ _ _ _ _ _ _ zb gb rv bl top sa sn sc D L H n va nv vcap vals kk _ ?_ hm hEm HF.out.1 hd hLH hn hn39 HF.out.2.1 hs h39 HF.out.2.2 hX
      assumption
end Go.Proofs.YbulkcuegFmt
