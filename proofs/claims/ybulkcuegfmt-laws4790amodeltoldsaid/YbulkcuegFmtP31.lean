import Derived.Test.YbulkcuegFmtLaw3
import Derived.Test.YbulkcuegFmtP47
namespace Go.Proofs.YbulkcuegFmt
open Go.RowKit Go.Maps

theorem L4.of_heap {W0 W W' : World} {qf : Nat → Fin 50} {lv : Nat → Int} {hgh : Nat → Bool} {k : Nat} {v1 v2 v3 : Value} (h : L4 W0 W qf lv hgh k v1 v2 v3) (e1 : W'.heap = W.heap) (e2 : W'.os = W.os) (e3 : W'.tape = W.tape) (e4 : W'.output = W.output) : L4 W0 W' qf lv hgh k v1 v2 v3 := by
  have g : Below W.heap.size W W' := ⟨e2, e3, e4, by rw [e1]; exact Nat.le_refl _, fun k _ => by rw [e1]⟩
  exact h.next g
theorem set_same_map {qf : Nat → Fin 50} {k : Nat} {f : Fin 50 → Value} (h : qf k ∈ firsts qf k) : ((firsts qf k).map f).set ((firsts qf k).idxOf (qf k)) (f (qf k)) = (firsts qf k).map f := by
  rw [← map_old (f := f) (g := f) h (fun _ _ => rfl), firsts_old h]
set_option maxRecDepth 1000000 in
set_option maxHeartbeats 2000000 in
theorem P31 (w : World)
    (s0 s1 s2 s3 s5 s7 s8 s9 s10 s11 s12 s13 s14 s15 s20 s21 s23 s24 s26 s28 s29 s30 s31 s34 s35 s36 s37 s38 s39 s40 s41 s42 s43 s44 s45 s46 s47 s48 s49 s50 s51 s52 s53 s54 s55 s56 s57 s58 s59 s60 s61 s62 s63 s64 s65 s66 s67 s68 s69 s70 s71 s72 s73 s74 s75 s76 s77 s78 s79 s80 s81 s82 s83 s84 s85 s86 s87 s88 s89 s90 s91 s92 s93 s94 s95 s96 s97 s98 s99 s100 s101 s102 s103 s104 s105 s106 s107 s108 s109 s110 s111 s112 s113 s114 s115 s116 s117 s118 s119 s120 s121 s122 s123 s124 s125 s126 s127 s128 s129 s130 s131 s132 s133 s134 s135 s136 s137 s138 s139 s140 s141 s142 s143 s144 s145 s146 s147 s148 s149 s150 s151 s152 s153 s154 s155 s156 s157 s158 s159 s160 s161 s162 s163 s164 s165 s166 s167 s168 s169 s170 s171 s172 s173 s174 s175 s176 s177 s178 s179 s180 s181 s182 s183 s184 s185 s186 s187 s188 s189 s190 s191 s192 s193 s194 s195 s196 s197 s198 s199 s200 s201 s202 s203 s204 s205 s206 s207 s208 s209 s210 s211 s212 s213 s214 s215 s216 s217 s218 s219 s220 s221 s222 s223 s224 s225 s226 s227 s228 s229 s230 s231 s232 s233 s234 s235 s236 s237 s238 s239 s240 s241 s242 s243 s244 s245 s246 s247 s248 s249 s250 s251 s252 s253 s254 s255 s256 s257 s258 s259 s260 s261 s262 s263 s264 s265 s266 s267 s268 s269 s270 s271 s272 s273 s274 s275 s276 s277 s278 s279 s280 s281 s282 s283 s284 s285 s286 s287 s288 s289 s290 s291 s292 s293 s294 s295 s296 s297 s298 s299 s300 s301 s302 s303 s304 s305 s306 s307 s308 s309 s310 s311 s312 s313 s314 s315 s316 s317 s318 s319 s320 s321 s322 s323 s324 s325 s326 s327 s328 s329 s330 s331 s332 s333 s334 s335 s336 s337 s338 s339 s340 s341 s342 s343 s344 s345 s346 s347 s348 s349 s350 s351 s352 s353 s354 s355 s356 s357 s358 s359 s360 s361 s362 s363 s364 s365 s366 s367 s368 s369 s370 s371 s372 s373 s374 s375 s376 s377 s378 s379 s380 s381 s382 s383 s384 s385 s386 s387 s388 s389 s390 s391 s392 s393 s394 s395 s396 s397 s398 s399 s400 s401 s402 s403 s404 s405 s406 s407 s408 s409 s410 s411 s412 s413 s414 s415 s416 s417 s418 s419 s420 s421 s422 s423 s424 s425 s426 s427 s428 s429 s430 s431 s432 s433 s434 s435 s436 s437 s438 s439 s440 s441 s442 s443 s444 s445 s446 s447 s448 s449 s450 s451 s452 s453 s454 s455 s456 s457 s458 s459 s460 s461 s462 s463 s464 s465 s466 s467 s468 s469 s470 s471 s472 s473 s474 s475 s476 s477 s478 s479 s480 s481 s482 s483 s484 s485 s486 s487 s488 s489 s490 s491 s492 s493 s494 s495 s496 s497 s498 s499 s500 s501 s502 : Value)
    (K : Act → World → Prop) (L : List (Fin 50)) (rr : Fin 50 → Int) (ca : Option Addr) (cb cc : Nat) (Q : List (Fin 50)) (rl : Fin 50 → Int) (rpd : Fin 5) (ql : Nat → Fin 5) (n15 : Nat) (mn : Bool) (zb : Nat) (rule : Int) (rI : Int) (qa : Option Addr) (qc : Nat) (dl : List Int) (da : Option Addr) (dc : Nat) (hl : List Int) (ha : Option Addr) (hc : Nat) (n6 : Nat) (fl : Nat → Fin 5) (fa : Option Addr) (fc ob sc n : Nat) (qf : Nat → Fin 50) (lv cd : Nat → Int) (hgh kn : Nat → Bool) (W : World)
    (hK : ∀ a w', Code.wp Ybaf.prog (spine 18 (Ybaf.f3.body.getD .skip)) (bodyPost Ybaf.prog Ybaf.f3 fun e w' => e = .returned (.bool true) ∧ Below w.heap.size w w') a w' → K a w')
    (B : Below w.heap.size w W) (Y : L1 W L rr ca cb dl (.slice da dl.length dc) hl (.slice ha hl.length hc) n6 fl (.slice fa n6 fc) n15 ql (.slice qa n15 qc) ob zb rule sc n qf lv cd hgh kn) (hn : n ≤ 300) (hL : L.length ≤ 50) (hn15 : n15 ≤ 300) (hdl : dl.length ≤ 300) (hhl : hl.length ≤ 300) (hn6 : n6 ≤ 300) (SQ : Hid (SelQ (firsts qf n) Q L rr rl rpd ql n15 mn (elig dl (fN n6 fl)) (clsOf (fun q => hiOf qf hgh q n)) (witOf dl hl) (fun q => lvOf qf lv q n))) (hru : Hid ((mn = true → rule = 15) ∧ (mn = false → (∃ q, q ∈ firsts qf n ∧ aside dl (fN n6 fl) q) → rule = 14) ∧ (mn = false → ¬ (∃ q, q ∈ firsts qf n ∧ aside dl (fN n6 fl) q) → rule = 13))) (hrI : 0 ≤ rI ∧ rI ≤ 255) (hrp : md5 rI = rpd.val) :
    Code.wp Ybaf.prog (headAt 17 (Ybaf.f3.body.getD .skip)) (Exit.then K (bodyPost Ybaf.prog Ybaf.f3 fun e w' => e = .returned (.bool true) ∧ Below w.heap.size w w')) ⟨List.toArray (s0 :: s1 :: s2 :: s3 :: .int .u8 rI :: s5 :: .bool mn :: s7 :: s8 :: s9 :: s10 :: s11 :: s12 :: s13 :: s14 :: s15 :: .bool false :: .slice da dl.length dc :: .slice ha hl.length hc :: .slice fa n6 fc :: s20 :: s21 :: .slice qa n15 qc :: s23 :: s24 :: .pointer (some ⟨ob, 0, none⟩) :: s26 :: .slice (some ⟨sc, 0, none⟩) n n :: s28 :: s29 :: s30 :: s31 :: .slice ca L.length cc :: .pointer (some ⟨zb, 0, none⟩) :: s34 :: s35 :: s36 :: s37 :: s38 :: s39 :: s40 :: s41 :: s42 :: s43 :: s44 :: s45 :: s46 :: s47 :: s48 :: s49 :: s50 :: s51 :: s52 :: s53 :: s54 :: s55 :: s56 :: s57 :: s58 :: s59 :: s60 :: s61 :: s62 :: s63 :: s64 :: s65 :: s66 :: s67 :: s68 :: s69 :: s70 :: s71 :: s72 :: s73 :: s74 :: s75 :: s76 :: s77 :: s78 :: s79 :: s80 :: s81 :: s82 :: s83 :: s84 :: s85 :: s86 :: s87 :: s88 :: s89 :: s90 :: s91 :: s92 :: s93 :: s94 :: s95 :: s96 :: s97 :: s98 :: s99 :: s100 :: s101 :: s102 :: s103 :: s104 :: s105 :: s106 :: s107 :: s108 :: s109 :: s110 :: s111 :: s112 :: s113 :: s114 :: s115 :: s116 :: s117 :: s118 :: s119 :: s120 :: s121 :: s122 :: s123 :: s124 :: s125 :: s126 :: s127 :: s128 :: s129 :: s130 :: s131 :: s132 :: s133 :: s134 :: s135 :: s136 :: s137 :: s138 :: s139 :: s140 :: s141 :: s142 :: s143 :: s144 :: s145 :: s146 :: s147 :: s148 :: s149 :: s150 :: s151 :: s152 :: s153 :: s154 :: s155 :: s156 :: s157 :: s158 :: s159 :: s160 :: s161 :: s162 :: s163 :: s164 :: s165 :: s166 :: s167 :: s168 :: s169 :: s170 :: s171 :: s172 :: s173 :: s174 :: s175 :: s176 :: s177 :: s178 :: s179 :: s180 :: s181 :: s182 :: s183 :: s184 :: s185 :: s186 :: s187 :: s188 :: s189 :: s190 :: s191 :: s192 :: s193 :: s194 :: s195 :: s196 :: s197 :: s198 :: s199 :: s200 :: s201 :: s202 :: s203 :: s204 :: s205 :: s206 :: s207 :: s208 :: s209 :: s210 :: s211 :: s212 :: s213 :: s214 :: s215 :: s216 :: s217 :: s218 :: s219 :: s220 :: s221 :: s222 :: s223 :: s224 :: s225 :: s226 :: s227 :: s228 :: s229 :: s230 :: s231 :: s232 :: s233 :: s234 :: s235 :: s236 :: s237 :: s238 :: s239 :: s240 :: s241 :: s242 :: s243 :: s244 :: s245 :: s246 :: s247 :: s248 :: s249 :: s250 :: s251 :: s252 :: s253 :: s254 :: s255 :: s256 :: s257 :: s258 :: s259 :: s260 :: s261 :: s262 :: s263 :: s264 :: s265 :: s266 :: s267 :: s268 :: s269 :: s270 :: s271 :: s272 :: s273 :: s274 :: s275 :: s276 :: s277 :: s278 :: s279 :: s280 :: s281 :: s282 :: s283 :: s284 :: s285 :: s286 :: s287 :: s288 :: s289 :: s290 :: s291 :: s292 :: s293 :: s294 :: s295 :: s296 :: s297 :: s298 :: s299 :: s300 :: s301 :: s302 :: s303 :: s304 :: s305 :: s306 :: s307 :: s308 :: s309 :: s310 :: s311 :: s312 :: s313 :: s314 :: s315 :: s316 :: s317 :: s318 :: s319 :: s320 :: s321 :: s322 :: s323 :: s324 :: s325 :: s326 :: s327 :: s328 :: s329 :: s330 :: s331 :: s332 :: s333 :: s334 :: s335 :: s336 :: s337 :: s338 :: s339 :: s340 :: s341 :: s342 :: s343 :: s344 :: s345 :: s346 :: s347 :: s348 :: s349 :: s350 :: s351 :: s352 :: s353 :: s354 :: s355 :: s356 :: s357 :: s358 :: s359 :: s360 :: s361 :: s362 :: s363 :: s364 :: s365 :: s366 :: s367 :: s368 :: s369 :: s370 :: s371 :: s372 :: s373 :: s374 :: s375 :: s376 :: s377 :: s378 :: s379 :: s380 :: s381 :: s382 :: s383 :: s384 :: s385 :: s386 :: s387 :: s388 :: s389 :: s390 :: s391 :: s392 :: s393 :: s394 :: s395 :: s396 :: s397 :: s398 :: s399 :: s400 :: s401 :: s402 :: s403 :: s404 :: s405 :: s406 :: s407 :: s408 :: s409 :: s410 :: s411 :: s412 :: s413 :: s414 :: s415 :: s416 :: s417 :: s418 :: s419 :: s420 :: s421 :: s422 :: s423 :: s424 :: s425 :: s426 :: s427 :: s428 :: s429 :: s430 :: s431 :: s432 :: s433 :: s434 :: s435 :: s436 :: s437 :: s438 :: s439 :: s440 :: s441 :: s442 :: s443 :: s444 :: s445 :: s446 :: s447 :: s448 :: s449 :: s450 :: s451 :: s452 :: s453 :: s454 :: s455 :: s456 :: s457 :: s458 :: s459 :: s460 :: s461 :: s462 :: s463 :: s464 :: s465 :: s466 :: s467 :: s468 :: s469 :: s470 :: s471 :: s472 :: s473 :: s474 :: s475 :: s476 :: s477 :: s478 :: s479 :: s480 :: s481 :: s482 :: s483 :: s484 :: s485 :: s486 :: s487 :: s488 :: s489 :: s490 :: s491 :: s492 :: s493 :: s494 :: s495 :: s496 :: s497 :: s498 :: s499 :: s500 :: s501 :: s502 :: []), []⟩ W := by
  conv => arg 2; whnf
  conv at hK => enter [a, w', 1, 2]; whnf
  obtain ⟨i60, hi60, z60, z61, z62⟩ := info_parts info60
  obtain ⟨i4, hi4, z40, z41, z42⟩ := info_parts info4
  obtain ⟨i3, hi3, z30, z31, z32⟩ := info_parts info3
  have HR : Hid _ := And.intro B Y
  clear B Y
  go_wp2_with fail
  go_loopw [179, 34, 35, 36] (fun vi v1 v2 v3 wr => ∃ k : Nat, k ≤ n ∧ vi = .int .i64 k ∧ Hid (L4 W wr qf lv hgh k v1 v2 v3)) (fun vi _ _ _ _ => n - (intOf vi).toNat)
  case atStart => exact ⟨0, Nat.zero_le _, rfl, L4.start W qf lv hgh⟩
  case round =>
    obtain ⟨k, hk, rfl, h4⟩ := hrel
    by_cases hkn : k < n
    · have hkn' : (k : Int) < (n : Int) := by omega
      have hk0 : (0 : Int) ≤ (k : Int) := by omega
      have hfl : (firsts qf k).length ≤ 300 := Nat.le_trans (firsts_len qf k) (by omega)
      have Y := HR.out.2.next h4.out.b
      obtain ⟨q, hq⟩ : ∃ q, qf k = q := ⟨_, rfl⟩
      have s0 : wr.cell? ⟨sc, k * 6, none⟩ = some (.string (kd q)) := by rw [Y.s.s0 k hkn, hq]
      have s1 : wr.cell? ⟨sc, k * 6 + 1, none⟩ = some (.int .u16 (ka q)) := by rw [Y.s.s1 k hkn, hq]
      have s2 := Y.s.s2 k hkn
      have s3 := Y.s.s3 k hkn
      have s4 := Y.s.s4 k hkn
      have s5 := Y.s.s5 k hkn
      have HQ : Hid _ := hq
      have b1 := bal (o := (.cells #[.string (kd q), .int .u16 (ka q), .bool (hgh k), .int .i64 (lv k), .int .u32 (cd k), .bool (kn k)] 48)) (Below.refl _ wr)
      have BC := (MapKept.heap_alloc wr (.cells #[.string (kd q), .int .u16 (ka q), .bool (hgh k), .int .i64 (lv k), .int .u32 (cd k), .bool (kn k)] 48)).1
      have H1 : Hid _ := h4.out.next b1
      clear b1 h4 Y hq
      go_upto_region 37 with fail
      generalize wr.alloc (.cells #[.string (kd q), .int .u16 (ka q), .bool (hgh k), .int .i64 (lv k), .int .u32 (cd k), .bool (kn k)] 48) = W1 at BC H1 ⊢
      generalize wr.heap.size = nb at BC ⊢
      clear s0 s1 s2 s3 s4 s5
      have c0 : W1.cell? ⟨nb, 0, none⟩ = some (.string (kd q)) := cell_of BC rfl
      have c1 : W1.cell? ⟨nb, 1, none⟩ = some (.int .u16 (ka q)) := cell_of BC rfl
      have b2 := bal (o := (.cells #[.string (kd q), .int .u16 (ka q)] 60)) (Below.refl _ W1)
      have BK := (MapKept.heap_alloc W1 (.cells #[.string (kd q), .int .u16 (ka q)] 60)).1
      have BN := (b2.block nb (lt_of_heap BC)).trans BC
      have H2 : Hid _ := H1.out.next b2
      clear b2 H1 BC
      go_upto_region 38 with fail
      generalize W1.alloc (.cells #[.string (kd q), .int .u16 (ka q)] 60) = W2 at BK BN H2 ⊢
      generalize W1.heap.size = kb at BK ⊢
      clear c0 c1
      have k0 : W2.cell? ⟨kb, 0, none⟩ = some (.string (kd q)) := cell_of BK rfl
      have k1 : W2.cell? ⟨kb, 1, none⟩ = some (.int .u16 (ka q)) := cell_of BK rfl
      have hix := combRow H2.out.m (firsts_nodup _ _) (by omega) q
      have HN2 : Hid _ := BN
      have HK2 : Hid _ := BK
      clear BN BK
      by_cases hm : q ∈ (firsts qf k)
      · skip
        obtain ⟨j, hj⟩ : ∃ j : Nat, (firsts qf k).idxOf q = j := ⟨_, rfl⟩
        have hjl : j < (firsts qf k).length := by rw [← hj]; exact List.idxOf_lt_length_of_mem hm
        rw [show ixC (firsts qf k) q = (j : Int) from (if_pos hm).trans (by rw [hj])] at hix
        have HJ : Hid _ := hj
        clear hj
        have hj0 : ¬ (j : Int) < 0 := by omega
        have hjl' : (j : Int) < ((firsts qf k).length : Int) := by omega
        go_wp2_with fail
        refine hix.mono ?_
        rintro e W3 ⟨rfl, hb3⟩
        have H3 : Hid _ := H2.out.next hb3
        have N3 : Hid (W3.heap[nb]? = some (.cells #[.string (kd q), .int .u16 (ka q), .bool (hgh k), .int .i64 (lv k), .int .u32 (cd k), .bool (kn k)] 48 (0, 0))) := (hb3.block nb (lt_of_heap HN2.out)).trans HN2.out
        clear hix hb3 k0 k1
        obtain ⟨g2, cp2, rfl, hg2, x2, y2, s2⟩ := own_at H3.out.h hjl
        obtain ⟨g3, cp3, rfl, hg3, x3, y3, s3⟩ := own_at H3.out.l hjl
        have hjm : ∀ f : Fin 50 → Value, ((firsts qf k).map f)[j]? = some (f q) := fun f => by
          rw [← HJ.out, List.getElem?_map, List.getElem?_eq_getElem (List.idxOf_lt_length_of_mem hm), List.getElem_idxOf]
          rfl
        rw [hjm] at x2 x3
        clear s3 hjm
        have ng2 : nb ≠ g2 := fun e => own_ne H3.out.h N3.out (by decide) (by rw [e]; rfl)
        have ng3 : g3 ≠ g2 := fun e => H3.out.a23 g2 rfl (by rw [← e]; rfl)
        have c2 : W3.cell? ⟨nb, 2, none⟩ = some (.bool (hgh k)) := cell_of N3.out rfl
        cases hhi : hiOf qf hgh q k
        · skip
          have x2' : W3.cell? ⟨g2, j, none⟩ = some (.bool false) := by rw [x2]; exact congrArg some (congrArg Value.bool hhi)
          have S2 : Hid (∀ u, (W3.setCell ⟨g2, j, none⟩ u).ownsRow W.heap.size 4 1 (.slice (some ⟨g2, 0, none⟩) (firsts qf k).length cp2) (firsts qf k).length (((firsts qf k).map fun q => .bool (hiOf qf hgh q k)).set j u)) := s2
          have HS : Hid (Below W.heap.size W (W3.setCell ⟨g2, j, none⟩ (.bool (hgh k))) ∧ (W3.setCell ⟨g2, j, none⟩ (.bool (hgh k))).ownsRow W.heap.size 60 2 u34 (firsts qf k).length (cbF (firsts qf k)) ∧ (W3.setCell ⟨g2, j, none⟩ (.bool (hgh k))).ownsRow W.heap.size 4 1 (.slice (some ⟨g2, 0, none⟩) (firsts qf k).length cp2) (firsts qf k).length (((firsts qf k).map fun q => .bool (hiOf qf hgh q k)).set ((firsts qf k).idxOf (qf k)) (.bool (hiOf qf hgh (qf k) k || hgh k))) ∧ (W3.setCell ⟨g2, j, none⟩ (.bool (hgh k))).ownsRow W.heap.size 3 1 (.slice (some ⟨g3, 0, none⟩) (firsts qf k).length cp3) (firsts qf k).length ((firsts qf k).map fun q => .int .i64 (lvOf qf lv q k)) ∧ ∀ u, ((W3.setCell ⟨g2, j, none⟩ (.bool (hgh k))).setCell ⟨g3, j, none⟩ u).ownsRow W.heap.size 3 1 (.slice (some ⟨g3, 0, none⟩) (firsts qf k).length cp3) (firsts qf k).length (((firsts qf k).map fun q => .int .i64 (lvOf qf lv q k)).set j u)) := by
            have gg : W3.grownBy (W3.setCell ⟨g2, j, none⟩ (.bool (hgh k))) (some g2) := gr1 _ (World.grownBy.refl _ _)
            have r3 := own_other H3.out.l gg (v1 := .slice (some ⟨g2, 0, none⟩) (firsts qf k).length cp2) H3.out.a23.symm
            refine ⟨H3.out.b.setCell (p := ⟨g2, j, none⟩) hg2 _, own_other H3.out.m gg (v1 := .slice (some ⟨g2, 0, none⟩) (firsts qf k).length cp2) H3.out.a12, ?_, r3, ?_⟩
            · rw [HQ.out, HJ.out, hhi]
              exact S2.out (.bool (hgh k))
            · obtain ⟨g', c', e', _, _, _, s'⟩ := own_at r3 hjl
              injection e' with e' _ e3'
              injection e' with e'
              injection e' with e'
              subst e'
              subst e3'
              exact s'
          have c3 : (W3.setCell ⟨g2, j, none⟩ (.bool (hgh k))).cell? ⟨nb, 3, none⟩ = some (.int .i64 (lv k)) := cell_set (cell_of N3.out rfl) (ng2 : nb ≠ g2)
          have x3' : (W3.setCell ⟨g2, j, none⟩ (.bool (hgh k))).cell? ⟨g3, j, none⟩ = some (.int .i64 (lvOf qf lv q k)) := cell_set x3 (ng3 : g3 ≠ g2)
          have y3' : (W3.setCell ⟨g2, j, none⟩ (.bool (hgh k))).frozen? ⟨g3, j, none⟩ = false := (World.frozen?_setCell _ _ _ _).trans y3
          clear S2 s2 x2 x3 y3 hhi
          go_upto_region 44 with fail
          generalize W3.setCell ⟨g2, j, none⟩ (.bool (hgh k)) = W4 at HS c3 x3' y3' ⊢
          clear c2 x2' y2
          by_cases hlt : lv k > lvOf qf lv q k
          · skip
            have HF : Hid (L4 W (W4.setCell ⟨g3, j, none⟩ (.int .i64 (lv k))) qf lv hgh (k + 1) u34 (.slice (some ⟨g2, 0, none⟩) (firsts qf k).length cp2) (.slice (some ⟨g3, 0, none⟩) (firsts qf k).length cp3)) := by
              have hmm : qf k ∈ firsts qf k := by rw [HQ.out]; exact hm
              have hmx : (.int .i64 (lv k) : Value) = .int .i64 (max (lvOf qf lv (qf k) k) (lv k)) := by rw [HQ.out]; congr 1; omega
              have l1 := HS.out.2.2.2.2 (.int .i64 (lv k))
              rw [← HJ.out, ← HQ.out] at l1
              refine L4.old hmm (HS.out.1.setCell (p := ⟨g3, j, none⟩) hg3 _) (own_other HS.out.2.1 (gr1 (T := g3) _ (World.grownBy.refl _ _)) H3.out.a13) (own_other HS.out.2.2.1 (gr1 (T := g3) _ (World.grownBy.refl _ _)) H3.out.a23) ?_ H3.out.a12 H3.out.a13 H3.out.a23
              rw [← hmx, ← HJ.out, ← HQ.out]
              exact l1
            clear hm
            go_quiet (fail)
            go_wp2_with fail
            go_roundw
            case rel => exact ⟨k + 1, by omega, by go_num, HF.out.of_heap rfl rfl rfl rfl⟩
            case measure => simp [intOf]; omega
          · skip
            have HF : Hid (L4 W W4 qf lv hgh (k + 1) u34 (.slice (some ⟨g2, 0, none⟩) (firsts qf k).length cp2) (.slice (some ⟨g3, 0, none⟩) (firsts qf k).length cp3)) := by
              have hmm : qf k ∈ firsts qf k := by rw [HQ.out]; exact hm
              have hmx : max (lvOf qf lv (qf k) k) (lv k) = lvOf qf lv (qf k) k := by rw [HQ.out]; omega
              refine L4.old hmm HS.out.1 HS.out.2.1 HS.out.2.2.1 ?_ H3.out.a12 H3.out.a13 H3.out.a23
              rw [hmx, set_same_map hmm]
              exact HS.out.2.2.2.1
            clear hm
            go_quiet (fail)
            go_wp2_with fail
            go_roundw
            case rel => exact ⟨k + 1, by omega, by go_num, HF.out.of_heap rfl rfl rfl rfl⟩
            case measure => simp [intOf]; omega
        · skip
          have x2' : W3.cell? ⟨g2, j, none⟩ = some (.bool true) := by rw [x2]; exact congrArg some (congrArg Value.bool hhi)
          have S2 : Hid (∀ u, (W3.setCell ⟨g2, j, none⟩ u).ownsRow W.heap.size 4 1 (.slice (some ⟨g2, 0, none⟩) (firsts qf k).length cp2) (firsts qf k).length (((firsts qf k).map fun q => .bool (hiOf qf hgh q k)).set j u)) := s2
          have HS : Hid (Below W.heap.size W (W3.setCell ⟨g2, j, none⟩ (.bool true)) ∧ (W3.setCell ⟨g2, j, none⟩ (.bool true)).ownsRow W.heap.size 60 2 u34 (firsts qf k).length (cbF (firsts qf k)) ∧ (W3.setCell ⟨g2, j, none⟩ (.bool true)).ownsRow W.heap.size 4 1 (.slice (some ⟨g2, 0, none⟩) (firsts qf k).length cp2) (firsts qf k).length (((firsts qf k).map fun q => .bool (hiOf qf hgh q k)).set ((firsts qf k).idxOf (qf k)) (.bool (hiOf qf hgh (qf k) k || hgh k))) ∧ (W3.setCell ⟨g2, j, none⟩ (.bool true)).ownsRow W.heap.size 3 1 (.slice (some ⟨g3, 0, none⟩) (firsts qf k).length cp3) (firsts qf k).length ((firsts qf k).map fun q => .int .i64 (lvOf qf lv q k)) ∧ ∀ u, ((W3.setCell ⟨g2, j, none⟩ (.bool true)).setCell ⟨g3, j, none⟩ u).ownsRow W.heap.size 3 1 (.slice (some ⟨g3, 0, none⟩) (firsts qf k).length cp3) (firsts qf k).length (((firsts qf k).map fun q => .int .i64 (lvOf qf lv q k)).set j u)) := by
            have gg : W3.grownBy (W3.setCell ⟨g2, j, none⟩ (.bool true)) (some g2) := gr1 _ (World.grownBy.refl _ _)
            have r3 := own_other H3.out.l gg (v1 := .slice (some ⟨g2, 0, none⟩) (firsts qf k).length cp2) H3.out.a23.symm
            refine ⟨H3.out.b.setCell (p := ⟨g2, j, none⟩) hg2 _, own_other H3.out.m gg (v1 := .slice (some ⟨g2, 0, none⟩) (firsts qf k).length cp2) H3.out.a12, ?_, r3, ?_⟩
            · rw [HQ.out, HJ.out, hhi]
              exact S2.out (.bool true)
            · obtain ⟨g', c', e', _, _, _, s'⟩ := own_at r3 hjl
              injection e' with e' _ e3'
              injection e' with e'
              injection e' with e'
              subst e'
              subst e3'
              exact s'
          have c3 : (W3.setCell ⟨g2, j, none⟩ (.bool true)).cell? ⟨nb, 3, none⟩ = some (.int .i64 (lv k)) := cell_set (cell_of N3.out rfl) (ng2 : nb ≠ g2)
          have x3' : (W3.setCell ⟨g2, j, none⟩ (.bool true)).cell? ⟨g3, j, none⟩ = some (.int .i64 (lvOf qf lv q k)) := cell_set x3 (ng3 : g3 ≠ g2)
          have y3' : (W3.setCell ⟨g2, j, none⟩ (.bool true)).frozen? ⟨g3, j, none⟩ = false := (World.frozen?_setCell _ _ _ _).trans y3
          clear S2 s2 x2 x3 y3 hhi
          go_upto_region 44 with fail
          generalize W3.setCell ⟨g2, j, none⟩ (.bool true) = W4 at HS c3 x3' y3' ⊢
          clear c2 x2' y2
          by_cases hlt : lv k > lvOf qf lv q k
          · skip
            have HF : Hid (L4 W (W4.setCell ⟨g3, j, none⟩ (.int .i64 (lv k))) qf lv hgh (k + 1) u34 (.slice (some ⟨g2, 0, none⟩) (firsts qf k).length cp2) (.slice (some ⟨g3, 0, none⟩) (firsts qf k).length cp3)) := by
              have hmm : qf k ∈ firsts qf k := by rw [HQ.out]; exact hm
              have hmx : (.int .i64 (lv k) : Value) = .int .i64 (max (lvOf qf lv (qf k) k) (lv k)) := by rw [HQ.out]; congr 1; omega
              have l1 := HS.out.2.2.2.2 (.int .i64 (lv k))
              rw [← HJ.out, ← HQ.out] at l1
              refine L4.old hmm (HS.out.1.setCell (p := ⟨g3, j, none⟩) hg3 _) (own_other HS.out.2.1 (gr1 (T := g3) _ (World.grownBy.refl _ _)) H3.out.a13) (own_other HS.out.2.2.1 (gr1 (T := g3) _ (World.grownBy.refl _ _)) H3.out.a23) ?_ H3.out.a12 H3.out.a13 H3.out.a23
              rw [← hmx, ← HJ.out, ← HQ.out]
              exact l1
            clear hm
            go_quiet (fail)
            go_wp2_with fail
            go_roundw
            case rel => exact ⟨k + 1, by omega, by go_num, HF.out.of_heap rfl rfl rfl rfl⟩
            case measure => simp [intOf]; omega
          · skip
            have HF : Hid (L4 W W4 qf lv hgh (k + 1) u34 (.slice (some ⟨g2, 0, none⟩) (firsts qf k).length cp2) (.slice (some ⟨g3, 0, none⟩) (firsts qf k).length cp3)) := by
              have hmm : qf k ∈ firsts qf k := by rw [HQ.out]; exact hm
              have hmx : max (lvOf qf lv (qf k) k) (lv k) = lvOf qf lv (qf k) k := by rw [HQ.out]; omega
              refine L4.old hmm HS.out.1 HS.out.2.1 HS.out.2.2.1 ?_ H3.out.a12 H3.out.a13 H3.out.a23
              rw [hmx, set_same_map hmm]
              exact HS.out.2.2.2.1
            clear hm
            go_quiet (fail)
            go_wp2_with fail
            go_roundw
            case rel => exact ⟨k + 1, by omega, by go_num, HF.out.of_heap rfl rfl rfl rfl⟩
            case measure => simp [intOf]; omega
      · skip
        rw [show ixC (firsts qf k) q = -1 from if_neg hm] at hix
        go_wp2_with fail
        refine hix.mono ?_
        rintro e W3 ⟨rfl, hb3⟩
        have H3 : Hid _ := H2.out.next hb3
        have N3 : Hid (W3.heap[nb]? = some (.cells #[.string (kd q), .int .u16 (ka q), .bool (hgh k), .int .i64 (lv k), .int .u32 (cd k), .bool (kn k)] 48 (0, 0))) := (hb3.block nb (lt_of_heap HN2.out)).trans HN2.out
        have k0' : W3.cell? ⟨kb, 0, none⟩ = some (.string (kd q)) := cell_of ((hb3.block kb (lt_of_heap HK2.out)).trans HK2.out) rfl
        have k1' : W3.cell? ⟨kb, 1, none⟩ = some (.int .u16 (ka q)) := cell_of ((hb3.block kb (lt_of_heap HK2.out)).trans HK2.out) rfl
        clear hix hb3 k0 k1
        have b4 := bal (o := (.cells #[.string (kd q), .int .u16 (ka q)] 60)) (Below.refl _ W3)
        have o1 := own_bel H3.out.m b4
        have O23 : Hid _ := And.intro (own_bel H3.out.h b4) (And.intro (own_bel H3.out.l b4) (And.intro b4 (own_ne o1 ((b4.block nb (lt_of_heap N3.out)).trans N3.out) (by decide))))
        have hs3 := H3.out.b.size
        have hs0 : W3.heap.size ≤ (W3.alloc (.cells #[.string (kd q), .int .u16 (ka q)] 60)).heap.size := by simp
        clear b4
        have ha1 : ∀ j u, ([.string (kd q), .int .u16 (ka q)] : List Value)[j]? = some u → (W3.alloc (.cells #[.string (kd q), .int .u16 (ka q)] 60)).cell? ((⟨W3.heap.size, 0, none⟩ : Addr).add j) = some u := by
          intro j u hj
          rw [add0, Nat.zero_add]
          refine cell_of (MapKept.heap_alloc W3 _).1 ?_
          rw [← List.getElem?_toArray] at hj
          exact hj
        have ha2 : ∀ u ∈ ([.string (kd q), .int .u16 (ka q)] : List Value), u.oneCell' = true := by
          intro u hu
          simp at hu
          rcases hu with rfl | rfl <;> rfl
        go_wp2_with (at_builtin; refine wpList_append_own_at _ rfl (.tmp 193) (.tmp 195) 78 rfl W.heap.size 60 i60 _ 2 24 Ybaf.underlying78 hi60 z60 z61 z62 rfl (by omega) _ (firsts qf k).length _ rfl o1 ⟨W3.heap.size, 0, none⟩ 1 1 [.string (kd q), .int .u16 (ka q)] rfl rfl ha1 ha2 (by unfold maxLen; omega) (by omega) (by simp; omega) ?nA)
        case nA =>
        intro u1 W4 p1 g4 _ t4
        have t4 : u1.ownBlock = u34.ownBlock ∨ u1.ownBlock = some (W3.alloc (.cells #[.string (kd q), .int .u16 (ka q)] 60)).heap.size := by rw [show (W3.alloc (.cells #[.string (kd q), .int .u16 (ka q)] 60)).heap.size = W3.heap.size + 1 by simp]; exact t4
        have N4 : Hid (W4.heap[nb]? = some (.cells #[.string (kd q), .int .u16 (ka q), .bool (hgh k), .int .i64 (lv k), .int .u32 (cd k), .bool (kn k)] 48 (0, 0))) := (g4.block nb (Nat.lt_of_lt_of_le (lt_of_heap N3.out) O23.out.2.2.1.size) O23.out.2.2.2).trans ((O23.out.2.2.1.block nb (lt_of_heap N3.out)).trans N3.out)
        have A4 : Hid (Below W.heap.size W W4 ∧ W4.ownsRow W.heap.size 60 2 u1 ((firsts qf k).length + 1) (cbF (firsts qf k) ++ [.string (kd q), .int .u16 (ka q)]) ∧ W4.ownsRow W.heap.size 4 1 u35 (firsts qf k).length ((firsts qf k).map fun q => .bool (hiOf qf hgh q k)) ∧ W4.ownsRow W.heap.size 3 1 u36 (firsts qf k).length ((firsts qf k).map fun q => .int .i64 (lvOf qf lv q k)) ∧ Apart u1 u35 ∧ Apart u1 u36 ∧ Apart u35 u36) := by
          obtain ⟨o2, o3, b4, _⟩ := O23.out
          exact ⟨(H3.out.b.trans (b4.mono hs3)).trans (Gr_of_own o1 g4 (Nat.le_trans hs3 hs0)), p1, own_other o2 g4 H3.out.a12.symm, own_other o3 g4 H3.out.a13.symm, (apart_step o2 H3.out.a12.symm t4).symm, (apart_step o3 H3.out.a13.symm t4).symm, H3.out.a23⟩
        have c4 : W4.cell? ⟨nb, 2, none⟩ = some (.bool (hgh k)) := cell_of N4.out rfl
        have hs4 := A4.out.1.size
        have b5 := bal (o := .cells #[.bool (hgh k)] 4) (Below.refl _ W4)
        have o2 := own_bel A4.out.2.2.1 b5
        have O5 : Hid _ := And.intro (own_bel A4.out.2.1 b5) (And.intro (own_bel A4.out.2.2.2.1 b5) (And.intro b5 (own_ne o2 ((b5.block nb (lt_of_heap N4.out)).trans N4.out) (by decide))))
        have hs5 : W4.heap.size ≤ (W4.alloc (.cells #[.bool (hgh k)] 4)).heap.size := by simp
        clear o1 O23 p1 g4 t4 ha1 ha2 k0' k1' b5 N3 hs0
        have hb1 : ∀ u ∈ ([.bool (hgh k)] : List Value), u.oneCell' = true := by intro u hu; simp at hu; subst hu; rfl
        go_wp2_with (at_builtin; refine wpList_append_own_at _ rfl (.tmp 197) (.tmp 200) 79 rfl W.heap.size 4 i4 _ 1 1 Ybaf.underlying79 hi4 z40 z41 z42 rfl (by omega) _ (firsts qf k).length _ rfl o2 ⟨W4.heap.size, 0, none⟩ 1 1 [.bool (hgh k)] rfl rfl (cell_one_new _ _ _) hb1 (by unfold maxLen; omega) (by omega) (by simp; omega) ?nB)
        case nB =>
        intro u2 W5 p2 g5 _ t5
        have t5 : u2.ownBlock = u35.ownBlock ∨ u2.ownBlock = some (W4.alloc (.cells #[.bool (hgh k)] 4)).heap.size := by rw [show (W4.alloc (.cells #[.bool (hgh k)] 4)).heap.size = W4.heap.size + 1 by simp]; exact t5
        have N5 : Hid (W5.heap[nb]? = some (.cells #[.string (kd q), .int .u16 (ka q), .bool (hgh k), .int .i64 (lv k), .int .u32 (cd k), .bool (kn k)] 48 (0, 0))) := (g5.block nb (Nat.lt_of_lt_of_le (lt_of_heap N4.out) O5.out.2.2.1.size) O5.out.2.2.2).trans ((O5.out.2.2.1.block nb (lt_of_heap N4.out)).trans N4.out)
        have A5 : Hid (Below W.heap.size W W5 ∧ W5.ownsRow W.heap.size 60 2 u1 ((firsts qf k).length + 1) (cbF (firsts qf k) ++ [.string (kd q), .int .u16 (ka q)]) ∧ W5.ownsRow W.heap.size 4 1 u2 ((firsts qf k).length + 1) (((firsts qf k).map fun q => .bool (hiOf qf hgh q k)) ++ [.bool (hgh k)]) ∧ W5.ownsRow W.heap.size 3 1 u36 (firsts qf k).length ((firsts qf k).map fun q => .int .i64 (lvOf qf lv q k)) ∧ Apart u1 u2 ∧ Apart u1 u36 ∧ Apart u2 u36) := by
          obtain ⟨q1, q3, b5, _⟩ := O5.out
          obtain ⟨B4, r1, r2, r3, x12, x13, x23⟩ := A4.out
          exact ⟨(B4.trans (b5.mono hs4)).trans (Gr_of_own o2 g5 (Nat.le_trans hs4 hs5)), own_other q1 g5 x12, p2, own_other q3 g5 x23.symm, apart_step q1 x12 t5, x13, (apart_step q3 x23.symm t5).symm⟩
        have c5 : W5.cell? ⟨nb, 3, none⟩ = some (.int .i64 (lv k)) := cell_of N5.out rfl
        have hs6 := A5.out.1.size
        have b6 := bal (o := .cells #[.int .i64 (lv k)] 3) (Below.refl _ W5)
        have o3 := own_bel A5.out.2.2.2.1 b6
        have O6 : Hid _ := And.intro (own_bel A5.out.2.1 b6) (And.intro (own_bel A5.out.2.2.1 b6) b6)
        have hs7 : W5.heap.size ≤ (W5.alloc (.cells #[.int .i64 (lv k)] 3)).heap.size := by simp
        clear o2 O5 p2 g5 t5 c4 b6 A4 N4 hs4 hs5 hb1
        have hb2 : ∀ u ∈ ([.int .i64 (lv k)] : List Value), u.oneCell' = true := by intro u hu; simp at hu; subst hu; rfl
        go_wp2_with (at_builtin; refine wpList_append_own_at _ rfl (.tmp 202) (.tmp 205) 36 rfl W.heap.size 3 i3 _ 1 8 Ybaf.underlying36 hi3 z30 z31 z32 rfl (by omega) _ (firsts qf k).length _ rfl o3 ⟨W5.heap.size, 0, none⟩ 1 1 [.int .i64 (lv k)] rfl rfl (cell_one_new _ _ _) hb2 (by unfold maxLen; omega) (by omega) (by simp; omega) ?nC)
        case nC =>
        intro u3 W6 p3 g6 _ t6
        have t6 : u3.ownBlock = u36.ownBlock ∨ u3.ownBlock = some (W5.alloc (.cells #[.int .i64 (lv k)] 3)).heap.size := by rw [show (W5.alloc (.cells #[.int .i64 (lv k)] 3)).heap.size = W5.heap.size + 1 by simp]; exact t6
        have HF : Hid (L4 W W6 qf lv hgh (k + 1) u1 u2 u3) := by
          obtain ⟨q1, q2, b6⟩ := O6.out
          obtain ⟨B5, r1, r2, r3, x12, x13, x23⟩ := A5.out
          have e1 := own_other q1 g6 x13
          have y2 := own_other q2 g6 x23
          have hq := HQ.out
          rw [← hq] at e1 hm
          exact L4.new hm ((B5.trans (b6.mono hs6)).trans (Gr_of_own o3 g6 (Nat.le_trans hs6 hs7))) e1 y2 p3 x12 (apart_step q1 x13 t6) (apart_step q2 x23 t6)
        clear o3 O6 p3 g6 t6 c5 A5 N5 hs6 hs7 hb2 hm
        go_wp2_with fail
        go_roundw
        case rel => exact ⟨k + 1, by omega, by go_num, HF⟩
        case measure => simp [intOf]; omega
    · obtain rfl : k = n := by omega
      have hnl : ¬ ((k : Nat) : Int) < ((k : Nat) : Int) := by omega
      obtain ⟨mca, mb, mcc, mla, lb, mlc, xa, xb, xc, rfl, rfl, rfl, Z⟩ := h4.out.done HR.out.2
      have HE : Hid _ := And.intro (HR.out.1.trans (h4.out.b.mono HR.out.1.size)) Z
      have hks : (firsts qf k).length ≤ 50 := nodup50 _ (firsts_nodup qf k)
      have HL : Hid (elig dl (fN n6 fl) = elig dl (fN n6 fl) ∧ clsOf (fun q => hiOf qf hgh q k) = clsOf (fun q => hiOf qf hgh q k) ∧ witOf dl hl = witOf dl hl) := ⟨rfl, rfl, rfl⟩
      clear Z h4
      go_upto_region 47 with fail
      refine P47 w _ _ _ _ _ _ _ _ _ _ _ _ _ _ _ _ _ _ _ _ _ _ _ _ _ _ _ _ _ _ _ _ _ _ _ _ _ _ _ _ _ _ _ _ _ _ _ _ _ _ _ _ _ _ _ _ _ _ _ _ _ _ _ _ _ _ _ _ _ _ _ _ _ _ _ _ _ _ _ _ _ _ _ _ _ _ _ _ _ _ _ _ _ _ _ _ _ _ _ _ _ _ _ _ _ _ _ _ _ _ _ _ _ _ _ _ _ _ _ _ _ _ _ _ _ _ _ _ _ _ _ _ _ _ _ _ _ _ _ _ _ _ _ _ _ _ _ _ _ _ _ _ _ _ _ _ _ _ _ _ _ _ _ _ _ _ _ _ _ _ _ _ _ _ _ _ _ _ _ _ _ _ _ _ _ _ _ _ _ _ _ _ _ _ _ _ _ _ _ _ _ _ _ _ _ _ _ _ _ _ _ _ _ _ _ _ _ _ _ _ _ _ _ _ _ _ _ _ _ _ _ _ _ _ _ _ _ _ _ _ _ _ _ _ _ _ _ _ _ _ _ _ _ _ _ _ _ _ _ _ _ _ _ _ _ _ _ _ _ _ _ _ _ _ _ _ _ _ _ _ _ _ _ _ _ _ _ _ _ _ _ _ _ _ _ _ _ _ _ _ _ _ _ _ _ _ _ _ _ _ _ _ _ _ _ _ _ _ _ _ _ _ _ _ _ _ _ _ _ _ _ _ _ _ _ _ _ _ _ _ _ _ _ _ _ _ _ _ _ _ _ _ _ _ _ _ _ _ _ _ _ _ _ _ _ _ _ _ _ _ _ _ _ _ _ _ _ _ _ _ _ _ _ _ _ _ _ _ _ _ _ _ _ _ _ _ _ _ _ _ _ _ _ _ _ _ _ _ _ _ _ _ _ _ _ _ _ _ _ _ _ _ _ _ _ _ _ _ _ _ _ _ _ _ _ _ _ _ _ _ _ _ _ _ _ _ _ _ _ _ _ _ _ _ _ _ _ _ _ _ _ _ _ _ _ _ _ _ _ _ _ _ _ _ _ _ _ _ _ _ _ _ _ _ _ _ _ _ _ _ _ (firsts qf k) L rr (elig dl (fN n6 fl)) (clsOf (fun q => hiOf qf hgh q k)) (witOf dl hl) (fun q => lvOf qf lv q k) ca cb cc mca mb mcc mla lb mlc Q rl rpd ql n15 mn zb rule rI qa qc (fun q => hiOf qf hgh q k) xa xb xc dl da dc hl ha hc n6 fl fa fc ob _ ?_ HE.out.1 HE.out.2 hks hL hn15 hdl hhl hn6 HL SQ hru hrI hrp
      assumption
end Go.Proofs.YbulkcuegFmt
