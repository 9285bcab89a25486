import Derived.Test.YbulkcuegFmtK59
namespace Go.Proofs.YbulkcuegFmt
open Go.RowKit Go.Maps

theorem R5.turn {w W W' : World} {db sb zb gb rv bl cap top : Nat} {E : List (Fin 50)} {vs : Value} {S : Prop} {D D' : Nat → Int} {f : Fin 50 → List Value} (h : R5 w W db sb zb gb rv bl cap top E vs S D f) (hd : db ≠ sb) (hg : Gr2 W W' bl sb) (ho : Rw W' bl E.length D') : R5 w W' db sb zb gb rv bl cap top E vs S D' f := by
  have lt := h.lt
  have hw := h.g.size
  have l1 := lt_of_heap h.z
  have l2 := lt_of_heap h.k
  have l3 := lt_of_heap h.v
  have l4 := h.c.lt
  have hs := hg.size
  have ne : ∀ b, b < W.heap.size → b ≠ bl → b ≠ sb → W'.heap[b]? = W.heap[b]? := fun b hb h1 h2 => hg.block b hb h1 h2
  exact ⟨⟨hg.os.trans h.g.os, hg.tape.trans h.g.tape, hg.output.trans h.g.output, Nat.le_trans hw hs, fun k hk h1 h2 => (ne k (by omega) (by omega) h2).trans (h.g.block k hk h1 h2)⟩, (ne _ l1 (by omega) (by omega)).trans h.z, (ne _ l2 (by omega) (by omega)).trans h.k, (ne _ l3 (by omega) (by omega)).trans h.v, h.a.keep (fun b _ _ _ => ne b (by omega) (by omega) (by omega)), ho, h.c.of_block (ne _ l4 (by omega) hd), by omega⟩
theorem Src.grown {W W' : World} {sb : Nat} {va : Option Addr} {nv vcap : Nat} {vals : Nat → Int} {k bl : Nat} (h : Src W sb va nv vcap vals k) (g : W.grownBy W' (some bl)) (hne : sb ≠ bl) (hvb : ∀ b o, va = some ⟨b, o, none⟩ → b ≠ bl) : Src W' sb va nv vcap vals k :=
  ⟨(g.block _ (lt_of_heap h.hp) (by simpa using hne)).trans h.hp, fun j hj => by obtain ⟨b, o, h1, h2, h3⟩ := h.v j hj; exact ⟨b, o, h1, h2, keepg g h3 (lt_of_cell h3) (hvb b o h1)⟩, h.rg⟩
theorem wrap64 {x : Int} (h1 : 0 ≤ x) (h2 : x ≤ 1000000) : IntKind.i64.wrap x = x := by rw [IntKind.wrap_i64]; omega
theorem eg36 : ∀ args w, (callFunc 36 args).run Ybaf.prog w = .ok (.enter 36 args) w := enters_of Ybaf.func36 (by kernel_rfl) rfl
theorem eg42 : ∀ args w, (callFunc 42 args).run Ybaf.prog w = .ok (.enter 42 args) w := enters_of Ybaf.func42 (by kernel_rfl) rfl

/-- the home part is sorted -/
theorem sort_home {w W : World} {db sb zb gb rv bl cap top L H : Nat} {E : List (Fin 50)} {vs : Value} {S : Prop} {D : Nat → Int} {dl hl : List Int} {hi : Fin 50 → Bool} {lo : Fin 50 → Int} (R : R5 w W db sb zb gb rv bl cap top E vs S D (candE dl hl hi lo)) (hd : db ≠ sb)
    (hL : L = (idxs hi E 0 E.length).length) (P : Prt hi E D L H E.length) (hs : ∀ i, i < E.length → sup dl (E.getD i 0) = true) (h39 : L ≤ 39) (hLe : L ≤ E.length) (c' : Nat) :
    Calls Ybaf.prog 35 #[.slice (some ⟨bl, 0, none⟩) L c', .func (.func 36) #[] #[.pointer (some ⟨rv, 0, none⟩)]] W fun e W' => e = .returned (.tuple #[]) ∧ ∃ D', R5 w W' db sb zb gb rv bl cap top E vs S D' (candE dl hl hi lo) ∧ W.grownBy W' (some bl) ∧ Srt (fun x => witOf dl hl (E.getD x.toNat 0)) D D' 0 (0 + L) := by
  have lt := R.lt
  have hw := R.g.size
  have hc := cm1 W bl rv db E.length cap (fun i => clsOf hi (E.getD i 0) = 0) 1 0 0 1 (fun i => witOf dl hl (E.getD i 0)) (cell_of R.v rfl) (fun i hi' ti => by
    have hn : nt (E.getD i 0) = 1 := by
      unfold clsOf at ti
      split at ti
      · assumption
      · split at ti <;> cases ti
    have hh : homOf dl (E.getD i 0) = 1 := by
      unfold homOf
      rw [if_pos ⟨hs i hi', hn⟩]
    refine ⟨R.c.get (c := 3) hi' (by omega) ?_, R.c.get (c := 4) hi' (by omega) rfl, R.c.get (c := 5) hi' (by omega) rfl, R.c.get (c := 6) hi' (by omega) rfl, R.c.get (c := 7) hi' (by omega) ?_⟩
    · show some (Value.int .u8 (ruleOf (clsOf hi (E.getD i 0)))) = _
      rw [ti]
      rfl
    · show some (Value.int .i64 (homOf dl (E.getD i 0))) = _
      rw [hh]) (lt_of_heap R.v) R.c.lt (by omega) (by omega)
  refine (sortStable_any bl 0 L c' E.length 36 _ _ _ D W W eg36 hc (World.grownBy.refl _ _) (by omega) h39 R.o (fun x h1 h2 => ?_)).mono ?_
  · have := P.p0
    rw [Nat.zero_add, ← hL] at this
    obtain ⟨i, e1, e2, e3⟩ := mem_part (this ▸ seg_mem.2 ⟨x, h1, by omega, rfl⟩)
    exact ⟨i, e1, e2, e3⟩
  · rintro e W' ⟨rfl, hg, D', R', hS⟩
    exact ⟨rfl, D', R.turn hd ((Gr2.refl _ _ _).left hg) R', hg, hS⟩

/-- the signal part is sorted -/
theorem sort_signal {w W : World} {db sb zb gb rv bl cap top : Nat} {E : List (Fin 50)} {vs : Value} {S : Prop} {D : Nat → Int} {dl hl : List Int} {hi : Fin 50 → Bool} {lo : Fin 50 → Int} (R : R5 w W db sb zb gb rv bl cap top E vs S D (candE dl hl hi lo)) (hd : db ≠ sb)
    (o n : Nat) (hon : o + n = E.length) (h39 : n ≤ 39) (hok : ∀ x, o ≤ x → x < o + n → ∃ i : Nat, D x = i ∧ i < E.length) (c' o' : Nat) (ho : o' = o ∨ (n = 0 ∧ o' = 0)) :
    Calls Ybaf.prog 35 #[.slice (some ⟨bl, o', none⟩) n c', .func (.func 42) #[] #[.pointer (some ⟨rv, 0, none⟩)]] W fun e W' => e = .returned (.tuple #[]) ∧ ∃ D', R5 w W' db sb zb gb rv bl cap top E vs S D' (candE dl hl hi lo) ∧ Srt (fun x => - lo (E.getD x.toNat 0)) D D' o (o + n) := by
  have lt := R.lt
  have hw := R.g.size
  have hc := cm2 W bl rv db E.length cap (fun i => lo (E.getD i 0)) (cell_of R.v rfl) (fun i hi' => R.c.get (c := 2) hi' (by omega) rfl) (lt_of_heap R.v) R.c.lt (by omega) (by omega)
  rcases ho with rfl | ⟨rfl, rfl⟩
  · refine (sortStable_any bl o' n c' E.length 42 _ _ _ D W W eg42 hc (World.grownBy.refl _ _) (by omega) h39 R.o hok).mono ?_
    rintro e W' ⟨rfl, hg, D', R', hS⟩
    exact ⟨rfl, D', R.turn hd ((Gr2.refl _ _ _).left hg) R', hS⟩
  · refine (sortStable_any bl 0 0 c' E.length 42 _ _ _ D W W eg42 hc (World.grownBy.refl _ _) (by omega) h39 R.o (fun x h1 h2 => absurd h2 (by omega))).mono ?_
    rintro e W' ⟨rfl, hg, D', R', hS⟩
    exact ⟨rfl, D', R.turn hd ((Gr2.refl _ _ _).left hg) R', ⟨by rw [seg_congr (D' := D) (fun x _ _ => hS.out x (.inr (by omega)))], fun x _ => hS.out x (.inr (by omega)), fun x y h1 h2 h3 => absurd h3 (by omega)⟩⟩

/-- the high part is shuffled -/
theorem shuf_high {w W : World} {db sb zb gb rv bl cap top L H : Nat} {E : List (Fin 50)} {vs : Value} {S : Prop} {D : Nat → Int} {f : Fin 50 → List Value} {va : Option Addr} {nv vcap kk : Nat} {vals : Nat → Int} (R : R5 w W db sb zb gb rv bl cap top E vs S D f) (hd : db ≠ sb) (hLH : L + H ≤ E.length) (hE : E.length ≤ 50) (X : Src W sb va nv vcap vals kk)
    (hX : kk ≤ 1000 ∧ nv ≤ 1000 ∧ ∀ b o, va = some ⟨b, o, none⟩ → b < w.heap.size) (c' o : Nat) (ho : o = L ∨ (H = 0 ∧ o = 0)) :
    Calls Ybaf.prog 41 #[.slice (some ⟨bl, o, none⟩) H c', .iface 49 (.pointer (some ⟨sb, 0, none⟩))] W fun e W' => e = .returned (.tuple #[]) ∧ ∃ D', R5 w W' db sb zb gb rv bl cap top E vs S D' f ∧ (seg D' L (L + H)).Perm (seg D L (L + H)) ∧ ∀ x, x < L ∨ L + H ≤ x → D' x = D x := by
  have lt := R.lt
  refine (shuffle_any bl o H c' E.length sb va nv vcap vals kk D W hX.1 hX.2.1 (by omega) (by omega) R.o X (by omega) (fun b o e => by have := hX.2.2 b o e; omega)).mono ?_
  rintro e W' ⟨rfl, hg, D', k', R', hp, hout, _⟩
  refine ⟨rfl, D', R.turn hd hg R', ?_⟩
  rcases ho with rfl | ⟨rfl, rfl⟩
  · exact ⟨hp, hout⟩
  · exact ⟨by rw [seg_congr (D' := D) (fun x _ _ => hout x (.inr (by omega)))], fun x _ => hout x (.inr (by omega))⟩

theorem ordOk_of {hi : Fin 50 → Bool} {E : List (Fin 50)} {dl hl : List Int} {lo : Fin 50 → Int} {D D1 D2 D3 : Nat → Int} {L H n : Nat} (hL : L = (idxs hi E 0 E.length).length ∧ H = (idxs hi E 1 E.length).length) (hn : L + H + n = E.length) (P : Prt hi E D L H E.length)
    (S1 : Srt (fun x => witOf dl hl (E.getD x.toNat 0)) D D1 0 (0 + L)) (p2 : (seg D2 L (L + H)).Perm (seg D1 L (L + H))) (o2 : ∀ x, x < L ∨ L + H ≤ x → D2 x = D1 x) (S3 : Srt (fun x => - lo (E.getD x.toNat 0)) D2 D3 (L + H) (L + H + n)) : OrdOk hi E dl hl lo D3 := by
  obtain ⟨hL, hH⟩ := hL
  have hs := idxs_sum hi E E.length
  have a0 := P.p0
  have a1 := P.p1
  have a2 := P.p2
  rw [← hL, Nat.zero_add] at a0
  rw [← hH] at a1
  rw [show L + H + (idxs hi E 2 E.length).length = E.length by omega] at a2
  rw [Nat.zero_add] at S1
  rw [hn] at S3
  have e0 : ∀ x, x < L → D3 x = D1 x := fun x hx => (S3.out x (.inl (by omega))).trans (o2 x (.inl hx))
  refine ⟨?_, ?_, ?_, ?_, ?_⟩
  · rw [← hL, ← a0, seg_congr (fun x _ h2 => e0 x h2)]
    exact S1.perm
  · intro x y hxy hy
    rw [← hL] at hy
    rw [e0 x (by omega), e0 y hy]
    exact S1.srt x y (by omega) hxy hy
  · rw [← hL, ← hH, ← a1, seg_congr (fun x _ h2 => S3.out x (.inl h2))]
    refine p2.trans ?_
    rw [seg_congr (fun x h1 _ => S1.out x (.inr h1))]
  · rw [← hL, ← hH, ← a2]
    refine S3.perm.trans ?_
    rw [seg_congr (fun x h1 _ => (o2 x (.inr h1)).trans (S1.out x (.inr (by omega))))]
  · intro x y hx hxy hy
    rw [← hL, ← hH] at hx
    have := S3.srt x y hx hxy hy
    omega

set_option maxRecDepth 1000000 in
set_option maxHeartbeats 2000000 in
theorem K58 (rb db cap sb : Nat) (ks E : List (Fin 50)) (S : Prop) (dl hl : List Int) (hi : Fin 50 → Bool) (lo : Fin 50 → Int) (w : World)
    (s4 s5 s6 s7 s9 s10 s11 s12 s13 s18 s19 s20 s21 s23 s24 s25 s26 s27 s28 s29 s30 s31 s32 s33 s34 s35 s36 s37 s38 s39 s40 s41 s42 s43 s44 s45 s46 s47 s48 s49 s50 s51 s52 s53 s54 s55 s56 s57 s58 s59 s60 s61 s62 s63 s64 s65 s66 s67 s68 s69 s70 s71 s72 s73 s74 s75 s76 s77 s78 s79 s80 s81 s82 s83 s84 s85 s86 s87 s88 s89 s90 s91 s92 s93 s94 s95 s96 s97 s98 s99 s100 s101 s102 s103 s104 s105 s106 s107 s108 s109 s110 s111 s112 s113 s114 s115 s116 s117 s118 s119 s120 s121 s122 s123 s124 s125 s126 s127 s128 s129 s130 s131 s132 s133 s134 s135 s136 s137 s138 s139 s140 s141 s142 s143 s144 s145 s146 s147 s148 s149 s150 s151 s152 s153 s154 s155 s156 s157 s158 s159 s160 s161 s162 s163 s164 s165 s166 s167 s168 s169 s170 s171 s172 s173 s174 s175 s176 s177 s178 s179 s180 s181 s182 s183 s184 s185 s186 s187 s188 s189 s190 s191 s192 s193 s194 s195 s196 s197 s198 s199 s200 s201 s202 s203 s204 s205 s206 s207 s208 s209 s210 s211 s212 s213 s214 s215 s216 s217 s218 s219 s220 s221 s222 s223 s224 s225 s226 s227 s228 s229 s230 s231 s232 s233 s234 s235 s236 s237 s238 s239 s240 s241 s242 s243 s244 s245 s246 s247 s248 s249 s250 s251 s252 s253 s254 s255 s256 s257 s258 s259 s260 s261 s262 s263 s264 s265 s266 s267 s268 s269 s270 s271 s272 s273 s274 s275 s276 s277 s278 s279 s280 s281 s282 s283 s284 s285 s286 s287 s288 s289 s290 s291 s292 s293 s294 s295 s296 s297 s298 s299 s300 s301 s302 s303 : Value)
    (K : Act → World → Prop) (zb gb rv bl top : Nat) (sa : Option Addr) (sn sc : Nat) (D D0 D1 : Nat → Int) (L H n : Nat) (W : World)
    (hK : ∀ a w', Code.wp Ybaf.prog (spine 13 (Ybaf.f27.body.getD .skip)) (bodyPost Ybaf.prog Ybaf.f27 fun e w' => ∃ vr vs, e = .returned (.agg #[vr, vs]) ∧ RankP w w' db sb E S hi dl hl lo vr vs) a w' → K a w')
    (hm : ks.length ≤ 50) (hEm : E.length ≤ ks.length) (R : R5 w W db sb zb gb rv bl cap top E (.slice sa sn sc) S D (candE dl hl hi lo)) (hd : db ≠ sb) (hLH : Hid (L = (idxs hi E 0 E.length).length ∧ H = (idxs hi E 1 E.length).length)) (hn : L + H + n = E.length) (hn39 : n ≤ 39) (P : Prt hi E D0 L H E.length) (S1 : Hid (Srt (fun x => witOf dl hl (E.getD x.toNat 0)) D0 D1 0 (0 + L))) (p2 : Hid ((seg D L (L + H)).Perm (seg D1 L (L + H)))) (o2 : Hid (∀ x, x < L ∨ L + H ≤ x → D x = D1 x)) :
    Code.wp Ybaf.prog (headAt 12 (Ybaf.f27.body.getD .skip)) (Exit.then K (bodyPost Ybaf.prog Ybaf.f27 fun e w' => ∃ vr vs, e = .returned (.agg #[vr, vs]) ∧ RankP w w' db sb E S hi dl hl lo vr vs)) ⟨List.toArray (.pointer (some ⟨rb, 0, none⟩) :: .slice (some ⟨db, 0, none⟩) ks.length cap :: .iface 49 (.pointer (some ⟨sb, 0, none⟩)) :: .bool false :: s4 :: s5 :: s6 :: s7 :: .pointer (some ⟨zb, 0, none⟩) :: s9 :: s10 :: s11 :: s12 :: s13 :: .pointer (some ⟨gb, 0, none⟩) :: .pointer (some ⟨rv, 0, none⟩) :: .int .i64 (L : Nat) :: .int .i64 (H : Nat) :: s18 :: s19 :: s20 :: s21 :: .slice (some ⟨bl, 0, none⟩) E.length E.length :: s23 :: s24 :: s25 :: s26 :: s27 :: s28 :: s29 :: s30 :: s31 :: s32 :: s33 :: s34 :: s35 :: s36 :: s37 :: s38 :: s39 :: s40 :: s41 :: s42 :: s43 :: s44 :: s45 :: s46 :: s47 :: s48 :: s49 :: s50 :: s51 :: s52 :: s53 :: s54 :: s55 :: s56 :: s57 :: s58 :: s59 :: s60 :: s61 :: s62 :: s63 :: s64 :: s65 :: s66 :: s67 :: s68 :: s69 :: s70 :: s71 :: s72 :: s73 :: s74 :: s75 :: s76 :: s77 :: s78 :: s79 :: s80 :: s81 :: s82 :: s83 :: s84 :: s85 :: s86 :: s87 :: s88 :: s89 :: s90 :: s91 :: s92 :: s93 :: s94 :: s95 :: s96 :: s97 :: s98 :: s99 :: s100 :: s101 :: s102 :: s103 :: s104 :: s105 :: s106 :: s107 :: s108 :: s109 :: s110 :: s111 :: s112 :: s113 :: s114 :: s115 :: s116 :: s117 :: s118 :: s119 :: s120 :: s121 :: s122 :: s123 :: s124 :: s125 :: s126 :: s127 :: s128 :: s129 :: s130 :: s131 :: s132 :: s133 :: s134 :: s135 :: s136 :: s137 :: s138 :: s139 :: s140 :: s141 :: s142 :: s143 :: s144 :: s145 :: s146 :: s147 :: s148 :: s149 :: s150 :: s151 :: s152 :: s153 :: s154 :: s155 :: s156 :: s157 :: s158 :: s159 :: s160 :: s161 :: s162 :: s163 :: s164 :: s165 :: s166 :: s167 :: s168 :: s169 :: s170 :: s171 :: s172 :: s173 :: s174 :: s175 :: s176 :: s177 :: s178 :: s179 :: s180 :: s181 :: s182 :: s183 :: s184 :: s185 :: s186 :: s187 :: s188 :: s189 :: s190 :: s191 :: s192 :: s193 :: s194 :: s195 :: s196 :: s197 :: s198 :: s199 :: s200 :: s201 :: s202 :: s203 :: s204 :: s205 :: s206 :: s207 :: s208 :: s209 :: s210 :: s211 :: s212 :: s213 :: s214 :: s215 :: s216 :: s217 :: s218 :: s219 :: s220 :: s221 :: s222 :: s223 :: s224 :: s225 :: s226 :: s227 :: s228 :: s229 :: s230 :: s231 :: s232 :: s233 :: s234 :: s235 :: s236 :: s237 :: s238 :: s239 :: s240 :: s241 :: s242 :: s243 :: s244 :: s245 :: s246 :: s247 :: s248 :: s249 :: s250 :: s251 :: s252 :: s253 :: s254 :: s255 :: s256 :: s257 :: s258 :: s259 :: s260 :: s261 :: s262 :: s263 :: s264 :: s265 :: s266 :: s267 :: s268 :: s269 :: s270 :: s271 :: s272 :: s273 :: s274 :: s275 :: s276 :: s277 :: s278 :: s279 :: s280 :: s281 :: s282 :: s283 :: s284 :: s285 :: s286 :: s287 :: s288 :: s289 :: s290 :: s291 :: s292 :: s293 :: s294 :: s295 :: s296 :: s297 :: s298 :: s299 :: s300 :: s301 :: s302 :: s303 :: []), []⟩ W := by
  conv => arg 2; whnf
  conv at hK => enter [a, w', 1, 2]; whnf
  have hok : ∀ x, L + H ≤ x → x < L + H + n → ∃ i : Nat, D x = i ∧ i < E.length := fun x h1 h2 => by
    rw [o2.out x (.inr h1), S1.out.out x (.inr (by omega))]
    have a2 := P.p2
    have hs := idxs_sum hi E E.length
    have := hLH.out
    rw [show L + H + (idxs hi E 2 E.length).length = L + H + n by omega] at a2
    obtain ⟨i, e1, e2, _⟩ := mem_part (a2 ▸ seg_mem.2 ⟨x, h1, h2, rfl⟩)
    exact ⟨i, e1, e2⟩
  have hc := sort_signal R hd (L + H) n hn hn39 hok
  have HP : Hid _ := And.intro P trivial
  clear R P hok
  have hl3 : (L : Int) + (H : Int) ≤ (E.length : Int) := by omega
  have hwp : IntKind.i64.wrap ((L : Int) + (H : Int)) = (L : Int) + (H : Int) := wrap64 (by omega) (by omega)
  have e1 : E.length - ((L : Int) + (H : Int)).toNat = n := by omega
  have e2 : ((L : Int) + (H : Int)).toNat = L + H := by omega
  have e3 : E.length - (L + H) = n := by omega
  by_cases hz : E.length ≤ L + H
  · have hn0 : Hid (n = 0) := (by omega : n = 0)
    go_wp2_with fail
    refine (hc _ _ (.inr ⟨hn0.out, rfl⟩)).mono ?_
    rintro e W1 ⟨rfl, D3, R3, S3⟩
    have HO : Hid _ := ordOk_of hLH.out hn HP.out.1 S1.out p2.out o2.out S3
    clear hc hl3 hwp e1 e2 e3 hz S3
    go_upto_region 59 with fail
    refine K59 rb db cap sb ks E S dl hl hi lo w _ _ _ _ _ _ _ _ _ _ _ _ _ _ _ _ _ _ _ _ _ _ _ _ _ _ _ _ _ _ _ _ _ _ _ _ _ _ _ _ _ _ _ _ _ _ _ _ _ _ _ _ _ _ _ _ _ _ _ _ _ _ _ _ _ _ _ _ _ _ _ _ _ _ _ _ _ _ _ _ _ _ _ _ _ _ _ _ _ _ _ _ _ _ _ _ _ _ _ _ _ _ _ _ _ _ _ _ _ _ _ _ _ _ _ _ _ _ _ _ _ _ _ _ _ _ _ _ _ _ _ _ _ _ _ _ _ _ _ _ _ _ _ _ _ _ _ _ _ _ _ _ _ _ _ _ _ _ _ _ _ _ _ _ _ _ _ _ _ _ _ _ _ _ _ _ _ _ _ _ _ _ _ _ _ _ _ _ _ _ _ _ _ _ _ _ _ _ _ _ _ _ _ _ _ _ _ _ _ _ _ _ _ _ _ _ _ _ _ _ _ _ _ _ _ _ _ _ _ _ _ _ _ _ _ _ _ _ _ _ _ _ _ _ _ _ _ _ _ _ _ _ _ _ _ _ _ _ _ _ _ _ _ _ _ _ _ _ _ _ _ _ _ _ _ _ _ _ _ _ _ _ _ _ _ _ _ _ _ _ _ _ _ _ _ _ _ zb gb rv bl top sa sn sc D3 _ ?_ hm hEm R3 HO.out
    assumption
  · go_wp2_with fail
    refine (hc _ _ (.inl rfl)).mono ?_
    rintro e W1 ⟨rfl, D3, R3, S3⟩
    have HO : Hid _ := ordOk_of hLH.out hn HP.out.1 S1.out p2.out o2.out S3
    clear hc hl3 hwp e1 e2 e3 hz S3
    go_upto_region 59 with fail
    refine K59 rb db cap sb ks E S dl hl hi lo w _ _ _ _ _ _ _ _ _ _ _ _ _ _ _ _ _ _ _ _ _ _ _ _ _ _ _ _ _ _ _ _ _ _ _ _ _ _ _ _ _ _ _ _ _ _ _ _ _ _ _ _ _ _ _ _ _ _ _ _ _ _ _ _ _ _ _ _ _ _ _ _ _ _ _ _ _ _ _ _ _ _ _ _ _ _ _ _ _ _ _ _ _ _ _ _ _ _ _ _ _ _ _ _ _ _ _ _ _ _ _ _ _ _ _ _ _ _ _ _ _ _ _ _ _ _ _ _ _ _ _ _ _ _ _ _ _ _ _ _ _ _ _ _ _ _ _ _ _ _ _ _ _ _ _ _ _ _ _ _ _ _ _ _ _ _ _ _ _ _ _ _ _ _ _ _ _ _ _ _ _ _ _ _ _ _ _ _ _ _ _ _ _ _ _ _ _ _ _ _ _ _ _ _ _ _ _ _ _ _ _ _ _ _ _ _ _ _ _ _ _ _ _ _ _ _ _ _ _ _ _ _ _ _ _ _ _ _ _ _ _ _ _ _ _ _ _ _ _ _ _ _ _ _ _ _ _ _ _ _ _ _ _ _ _ _ _ _ _ _ _ _ _ _ _ _ _ _ _ _ _ _ _ _ _ _ _ _ _ _ _ _ _ _ _ _ _ zb gb rv bl top sa sn sc D3 _ ?_ hm hEm R3 HO.out
    assumption
set_option maxRecDepth 1000000 in
set_option maxHeartbeats 2000000 in
theorem K56 (rb db cap sb : Nat) (ks E : List (Fin 50)) (S : Prop) (dl hl : List Int) (hi : Fin 50 → Bool) (lo : Fin 50 → Int) (w : World)
    (s4 s5 s6 s7 s9 s10 s11 s12 s13 s18 s19 s20 s21 s23 s24 s25 s26 s27 s28 s29 s30 s31 s32 s33 s34 s35 s36 s37 s38 s39 s40 s41 s42 s43 s44 s45 s46 s47 s48 s49 s50 s51 s52 s53 s54 s55 s56 s57 s58 s59 s60 s61 s62 s63 s64 s65 s66 s67 s68 s69 s70 s71 s72 s73 s74 s75 s76 s77 s78 s79 s80 s81 s82 s83 s84 s85 s86 s87 s88 s89 s90 s91 s92 s93 s94 s95 s96 s97 s98 s99 s100 s101 s102 s103 s104 s105 s106 s107 s108 s109 s110 s111 s112 s113 s114 s115 s116 s117 s118 s119 s120 s121 s122 s123 s124 s125 s126 s127 s128 s129 s130 s131 s132 s133 s134 s135 s136 s137 s138 s139 s140 s141 s142 s143 s144 s145 s146 s147 s148 s149 s150 s151 s152 s153 s154 s155 s156 s157 s158 s159 s160 s161 s162 s163 s164 s165 s166 s167 s168 s169 s170 s171 s172 s173 s174 s175 s176 s177 s178 s179 s180 s181 s182 s183 s184 s185 s186 s187 s188 s189 s190 s191 s192 s193 s194 s195 s196 s197 s198 s199 s200 s201 s202 s203 s204 s205 s206 s207 s208 s209 s210 s211 s212 s213 s214 s215 s216 s217 s218 s219 s220 s221 s222 s223 s224 s225 s226 s227 s228 s229 s230 s231 s232 s233 s234 s235 s236 s237 s238 s239 s240 s241 s242 s243 s244 s245 s246 s247 s248 s249 s250 s251 s252 s253 s254 s255 s256 s257 s258 s259 s260 s261 s262 s263 s264 s265 s266 s267 s268 s269 s270 s271 s272 s273 s274 s275 s276 s277 s278 s279 s280 s281 s282 s283 s284 s285 s286 s287 s288 s289 s290 s291 s292 s293 s294 s295 s296 s297 s298 s299 s300 s301 s302 s303 : Value)
    (K : Act → World → Prop) (zb gb rv bl top : Nat) (sa : Option Addr) (sn sc : Nat) (D : Nat → Int) (L H n : Nat) (va : Option Addr) (nv vcap : Nat) (vals : Nat → Int) (kk : Nat) (W : World)
    (hK : ∀ a w', Code.wp Ybaf.prog (spine 11 (Ybaf.f27.body.getD .skip)) (bodyPost Ybaf.prog Ybaf.f27 fun e w' => ∃ vr vs, e = .returned (.agg #[vr, vs]) ∧ RankP w w' db sb E S hi dl hl lo vr vs) a w' → K a w')
    (hm : ks.length ≤ 50) (hEm : E.length ≤ ks.length) (R : R5 w W db sb zb gb rv bl cap top E (.slice sa sn sc) S D (candE dl hl hi lo)) (hd : db ≠ sb) (hLH : Hid (L = (idxs hi E 0 E.length).length ∧ H = (idxs hi E 1 E.length).length)) (hn : L + H + n = E.length) (hn39 : n ≤ 39) (P : Prt hi E D L H E.length) (hs : Hid (∀ i, i < E.length → sup dl (E.getD i 0) = true)) (h39 : L ≤ 39) (X : Src W sb va nv vcap vals kk) (hX : Hid (kk ≤ 1000 ∧ nv ≤ 1000 ∧ ∀ b o, va = some ⟨b, o, none⟩ → b < w.heap.size)) :
    Code.wp Ybaf.prog (headAt 10 (Ybaf.f27.body.getD .skip)) (Exit.then K (bodyPost Ybaf.prog Ybaf.f27 fun e w' => ∃ vr vs, e = .returned (.agg #[vr, vs]) ∧ RankP w w' db sb E S hi dl hl lo vr vs)) ⟨List.toArray (.pointer (some ⟨rb, 0, none⟩) :: .slice (some ⟨db, 0, none⟩) ks.length cap :: .iface 49 (.pointer (some ⟨sb, 0, none⟩)) :: .bool false :: s4 :: s5 :: s6 :: s7 :: .pointer (some ⟨zb, 0, none⟩) :: s9 :: s10 :: s11 :: s12 :: s13 :: .pointer (some ⟨gb, 0, none⟩) :: .pointer (some ⟨rv, 0, none⟩) :: .int .i64 (L : Nat) :: .int .i64 (H : Nat) :: s18 :: s19 :: s20 :: s21 :: .slice (some ⟨bl, 0, none⟩) E.length E.length :: s23 :: s24 :: s25 :: s26 :: s27 :: s28 :: s29 :: s30 :: s31 :: s32 :: s33 :: s34 :: s35 :: s36 :: s37 :: s38 :: s39 :: s40 :: s41 :: s42 :: s43 :: s44 :: s45 :: s46 :: s47 :: s48 :: s49 :: s50 :: s51 :: s52 :: s53 :: s54 :: s55 :: s56 :: s57 :: s58 :: s59 :: s60 :: s61 :: s62 :: s63 :: s64 :: s65 :: s66 :: s67 :: s68 :: s69 :: s70 :: s71 :: s72 :: s73 :: s74 :: s75 :: s76 :: s77 :: s78 :: s79 :: s80 :: s81 :: s82 :: s83 :: s84 :: s85 :: s86 :: s87 :: s88 :: s89 :: s90 :: s91 :: s92 :: s93 :: s94 :: s95 :: s96 :: s97 :: s98 :: s99 :: s100 :: s101 :: s102 :: s103 :: s104 :: s105 :: s106 :: s107 :: s108 :: s109 :: s110 :: s111 :: s112 :: s113 :: s114 :: s115 :: s116 :: s117 :: s118 :: s119 :: s120 :: s121 :: s122 :: s123 :: s124 :: s125 :: s126 :: s127 :: s128 :: s129 :: s130 :: s131 :: s132 :: s133 :: s134 :: s135 :: s136 :: s137 :: s138 :: s139 :: s140 :: s141 :: s142 :: s143 :: s144 :: s145 :: s146 :: s147 :: s148 :: s149 :: s150 :: s151 :: s152 :: s153 :: s154 :: s155 :: s156 :: s157 :: s158 :: s159 :: s160 :: s161 :: s162 :: s163 :: s164 :: s165 :: s166 :: s167 :: s168 :: s169 :: s170 :: s171 :: s172 :: s173 :: s174 :: s175 :: s176 :: s177 :: s178 :: s179 :: s180 :: s181 :: s182 :: s183 :: s184 :: s185 :: s186 :: s187 :: s188 :: s189 :: s190 :: s191 :: s192 :: s193 :: s194 :: s195 :: s196 :: s197 :: s198 :: s199 :: s200 :: s201 :: s202 :: s203 :: s204 :: s205 :: s206 :: s207 :: s208 :: s209 :: s210 :: s211 :: s212 :: s213 :: s214 :: s215 :: s216 :: s217 :: s218 :: s219 :: s220 :: s221 :: s222 :: s223 :: s224 :: s225 :: s226 :: s227 :: s228 :: s229 :: s230 :: s231 :: s232 :: s233 :: s234 :: s235 :: s236 :: s237 :: s238 :: s239 :: s240 :: s241 :: s242 :: s243 :: s244 :: s245 :: s246 :: s247 :: s248 :: s249 :: s250 :: s251 :: s252 :: s253 :: s254 :: s255 :: s256 :: s257 :: s258 :: s259 :: s260 :: s261 :: s262 :: s263 :: s264 :: s265 :: s266 :: s267 :: s268 :: s269 :: s270 :: s271 :: s272 :: s273 :: s274 :: s275 :: s276 :: s277 :: s278 :: s279 :: s280 :: s281 :: s282 :: s283 :: s284 :: s285 :: s286 :: s287 :: s288 :: s289 :: s290 :: s291 :: s292 :: s293 :: s294 :: s295 :: s296 :: s297 :: s298 :: s299 :: s300 :: s301 :: s302 :: s303 :: []), []⟩ W := by
  conv => arg 2; whnf
  conv at hK => enter [a, w', 1, 2]; whnf
  have hc1 := sort_home R hd hLH.out.1 P hs.out h39 (by omega)
  have hl1 : (L : Int) ≤ (E.length : Int) := by omega
  have HR : Hid _ := And.intro R (And.intro P X)
  clear R P X
  go_wp2_with fail
  refine (hc1 _).mono ?_
  rintro e W1 ⟨rfl, D1, R1, hg1, S1⟩
  obtain ⟨R, P, X⟩ := HR.out
  have lt := R.lt
  have X1 := X.grown hg1 (by omega) (fun b o e => by have := hX.out.2.2 b o e; omega)
  have hc2 := shuf_high (L := L) (H := H) R1 hd (by omega) (by omega) X1 hX.out
  have HR1 : Hid _ := And.intro P S1
  clear R P X R1 S1 X1 hg1 HR hc1 lt
  have hl2 : (L : Int) ≤ (L : Int) + (H : Int) := by omega
  have hl3 : (L : Int) + (H : Int) ≤ (E.length : Int) := by omega
  have hwp : IntKind.i64.wrap ((L : Int) + (H : Int)) = (L : Int) + (H : Int) := wrap64 (by omega) (by omega)
  have e1 : ((L : Int) + (H : Int)).toNat - L = H := by omega
  by_cases hz : E.length ≤ L
  · have hH0 : Hid (H = 0) := (by omega : H = 0)
    go_wp2_with fail
    refine (hc2 _ _ (.inr ⟨hH0.out, rfl⟩)).mono ?_
    rintro e W2 ⟨rfl, D2, R2, p2, o2⟩
    clear hc2 hl1 hl2 hl3 hwp e1 hz
    go_upto_region 58 with fail
    refine K58 rb db cap sb ks E S dl hl hi lo w _ _ _ _ _ _ _ _ _ _ _ _ _ _ _ _ _ _ _ _ _ _ _ _ _ _ _ _ _ _ _ _ _ _ _ _ _ _ _ _ _ _ _ _ _ _ _ _ _ _ _ _ _ _ _ _ _ _ _ _ _ _ _ _ _ _ _ _ _ _ _ _ _ _ _ _ _ _ _ _ _ _ _ _ _ _ _ _ _ _ _ _ _ _ _ _ _ _ _ _ _ _ _ _ _ _ _ _ _ _ _ _ _ _ _ _ _ _ _ _ _ _ _ _ _ _ _ _ _ _ _ _ _ _ _ _ _ _ _ _ _ _ _ _ _ _ _ _ _ _ _ _ _ _ _ _ _ _ _ _ _ _ _ _ _ _ _ _ _ _ _ _ _ _ _ _ _ _ _ _ _ _ _ _ _ _ _ _ _ _ _ _ _ _ _ _ _ _ _ _ _ _ _ _ _ _ _ _ _ _ _ _ _ _ _ _ _ _ _ _ _ _ _ _ _ _ _ _ _ _ _ _ _ _ _ _ _ _ _ _ _ _ _ _ _ _ _ _ _ _ _ _ _ _ _ _ _ _ _ _ _ _ _ _ _ _ _ _ _ _ _ _ _ _ _ _ _ _ _ _ _ _ _ _ _ _ _ _ _ _ _ _ _ _ _ zb gb rv bl top sa sn sc D2 D D1 L H n _ ?_ hm hEm R2 hd hLH hn hn39 HR1.out.1 HR1.out.2 p2 o2
    assumption
  · go_wp2_with fail
    refine (hc2 _ _ (.inl rfl)).mono ?_
    rintro e W2 ⟨rfl, D2, R2, p2, o2⟩
    clear hc2 hl1 hl2 hl3 hwp e1 hz
    go_upto_region 58 with fail
    refine K58 rb db cap sb ks E S dl hl hi lo w _ _ _ _ _ _ _ _ _ _ _ _ _ _ _ _ _ _ _ _ _ _ _ _ _ _ _ _ _ _ _ _ _ _ _ _ _ _ _ _ _ _ _ _ _ _ _ _ _ _ _ _ _ _ _ _ _ _ _ _ _ _ _ _ _ _ _ _ _ _ _ _ _ _ _ _ _ _ _ _ _ _ _ _ _ _ _ _ _ _ _ _ _ _ _ _ _ _ _ _ _ _ _ _ _ _ _ _ _ _ _ _ _ _ _ _ _ _ _ _ _ _ _ _ _ _ _ _ _ _ _ _ _ _ _ _ _ _ _ _ _ _ _ _ _ _ _ _ _ _ _ _ _ _ _ _ _ _ _ _ _ _ _ _ _ _ _ _ _ _ _ _ _ _ _ _ _ _ _ _ _ _ _ _ _ _ _ _ _ _ _ _ _ _ _ _ _ _ _ _ _ _ _ _ _ _ _ _ _ _ _ _ _ _ _ _ _ _ _ _ _ _ _ _ _ _ _ _ _ _ _ _ _ _ _ _ _ _ _ _ _ _ _ _ _ _ _ _ _ _ _ _ _ _ _ _ _ _ _ _ _ _ _ _ _ _ _ _ _ _ _ _ _ _ _ _ _ _ _ _ _ _ _ _ _ _ _ _ _ _ _ _ _ _ _ zb gb rv bl top sa sn sc D2 D D1 L H n _ ?_ hm hEm R2 hd hLH hn hn39 HR1.out.1 HR1.out.2 p2 o2
    assumption
end Go.Proofs.YbulkcuegFmt
