import Derived.Test.YbulkcuegFmtLaw0
namespace Go.Proofs.YbulkcuegFmt
open Go.RowKit Go.Maps

theorem eq29k (q : Fin 50) (p : Fin 5) (w : World) : (binOp .eql 29 (.agg #[.string (kd q)]) (.agg #[.string (dig p.val)])).run Ybaf.prog w = .ok (.bool (decide (nt q = p))) w := by
  rw [kd_nt]
  exact eq29 _ _ _
theorem bdrew {W X : World} (h : Below W.heap.size W X) (k : Nat) : Below W.heap.size W (X.drewN k) := h.trans ((drewN_below X k).mono h.size)
set_option maxRecDepth 1000000 in
set_option maxHeartbeats 20000000 in
theorem P102 (w : World)
    (s0 s1 s2 s3 s4 s5 s6 s7 s8 s9 s10 s11 s12 s13 s14 s15 s17 s18 s19 s20 s21 s22 s23 s24 s25 s26 s27 s28 s29 s30 s31 s33 s35 s37 s38 s39 s40 s44 s45 s46 s47 s48 s49 s50 s51 s55 s56 s57 s58 s59 s60 s61 s62 s63 s64 s65 s66 s67 s68 s69 s70 s71 s72 s73 s74 s75 s76 s77 s78 s79 s80 s81 s82 s83 s84 s85 s86 s87 s88 s89 s90 s91 s92 s93 s94 s95 s96 s97 s98 s99 s100 s101 s102 s103 s104 s105 s106 s107 s108 s109 s110 s111 s112 s113 s114 s115 s116 s117 s118 s119 s120 s121 s122 s123 s124 s125 s126 s127 s128 s129 s130 s131 s132 s133 s134 s135 s136 s137 s138 s139 s140 s141 s142 s143 s144 s145 s146 s147 s148 s149 s150 s151 s152 s153 s154 s155 s156 s157 s158 s159 s160 s161 s162 s163 s164 s165 s166 s167 s168 s169 s170 s171 s172 s173 s174 s175 s176 s177 s178 s179 s180 s181 s182 s183 s184 s185 s186 s187 s188 s189 s190 s191 s192 s193 s194 s195 s196 s197 s198 s199 s200 s201 s202 s203 s204 s205 s206 s207 s208 s209 s210 s211 s212 s213 s214 s215 s216 s217 s218 s219 s220 s221 s222 s223 s224 s225 s226 s227 s228 s229 s230 s231 s232 s233 s234 s235 s236 s237 s238 s239 s240 s241 s242 s243 s244 s245 s246 s247 s248 s249 s250 s251 s252 s253 s254 s255 s256 s257 s258 s259 s260 s261 s262 s263 s264 s265 s266 s267 s268 s269 s270 s271 s272 s273 s274 s275 s276 s277 s278 s279 s280 s281 s282 s283 s284 s285 s286 s287 s288 s289 s290 s291 s292 s293 s294 s295 s296 s297 s298 s299 s300 s301 s302 s303 s304 s305 s306 s307 s308 s309 s310 s311 s312 s313 s314 s315 s316 s317 s318 s319 s320 s321 s322 s323 s324 s325 s326 s327 s328 s329 s330 s331 s332 s333 s334 s335 s336 s337 s338 s339 s340 s341 s342 s343 s344 s345 s346 s347 s348 s349 s350 s351 s352 s353 s354 s355 s356 s357 s358 s359 s360 s361 s362 s363 s364 s365 s366 s367 s368 s369 s370 s371 s372 s373 s374 s375 s376 s377 s378 s379 s380 s381 s382 s383 s384 s385 s386 s387 s388 s389 s390 s391 s392 s393 s394 s395 s396 s397 s398 s399 s400 s401 s402 s403 s404 s405 s406 s407 s408 s409 s410 s411 s412 s413 s414 s415 s416 s417 s418 s419 s420 s421 s422 s423 s424 s425 s426 s427 s428 s429 s430 s431 s432 s433 s434 s435 s436 s437 s438 s439 s440 s441 s442 s443 s444 s445 s446 s447 s448 s449 s450 s451 s452 s453 s454 s455 s456 s457 s458 s459 s460 s461 s462 s463 s464 s465 s466 s467 s468 s469 s470 s471 s472 s473 s474 s475 s476 s477 s478 s479 s480 s481 s482 s483 s484 s485 s486 s487 s488 s489 s490 s491 s492 s493 s494 s495 s496 s497 s498 s499 s500 s501 s502 : Value)
    (K : Act → World → Prop) (ks L : List (Fin 50)) (rr : Fin 50 → Int) (nF : Nat) (fP : Fin 5) (fR : Int) (el : Fin 50 → Bool) (cl ho lo : Fin 50 → Int) (ca : Option Addr) (cb cc : Nat) (mca : Option Addr) (mb mcc : Nat) (mla : Option Addr) (lb mlc eb sb hb fb : Nat) (fs : ByteArray) (W : World)
    (hK : ∀ a w', Code.wp Ybaf.prog (spine 34 (Ybaf.f3.body.getD .skip)) (bodyPost Ybaf.prog Ybaf.f3 fun e w' => e = .returned (.bool true) ∧ Below w.heap.size w w') a w' → K a w')
    (B : Below w.heap.size w W) (R : LS W ks L rr el cl ho lo ca cb mca mb mla lb eb sb hb) (C : Chk ks L rr nF fP fR el cl ho lo) (hfc : W.cell? ⟨fb, 0, none⟩ = some (.string fs)) (hff : 0 < nF → fs = dig fP.val) (hks : ks.length ≤ 50) (hL : L.length ≤ 50) (hcl : Hid (∀ q, 0 ≤ cl q ∧ cl q ≤ 2)) :
    Code.wp Ybaf.prog (headAt 33 (Ybaf.f3.body.getD .skip)) (Exit.then K (bodyPost Ybaf.prog Ybaf.f3 fun e w' => e = .returned (.bool true) ∧ Below w.heap.size w w')) ⟨List.toArray (s0 :: s1 :: s2 :: s3 :: s4 :: s5 :: s6 :: s7 :: s8 :: s9 :: s10 :: s11 :: s12 :: s13 :: s14 :: s15 :: .bool false :: s17 :: s18 :: s19 :: s20 :: s21 :: s22 :: s23 :: s24 :: s25 :: s26 :: s27 :: s28 :: s29 :: s30 :: s31 :: .slice ca L.length cc :: s33 :: .slice mca ks.length mcc :: s35 :: .slice mla ks.length mlc :: s37 :: s38 :: s39 :: s40 :: .slice (some ⟨eb, 0, none⟩) ks.length ks.length :: .slice (some ⟨sb, 0, none⟩) ks.length ks.length :: .slice (some ⟨hb, 0, none⟩) ks.length ks.length :: s44 :: s45 :: s46 :: s47 :: s48 :: s49 :: s50 :: s51 :: .pointer (some ⟨fb, 0, none⟩) :: .int .u8 fR :: .int .i64 (nF : Nat) :: s55 :: s56 :: s57 :: s58 :: s59 :: s60 :: s61 :: s62 :: s63 :: s64 :: s65 :: s66 :: s67 :: s68 :: s69 :: s70 :: s71 :: s72 :: s73 :: s74 :: s75 :: s76 :: s77 :: s78 :: s79 :: s80 :: s81 :: s82 :: s83 :: s84 :: s85 :: s86 :: s87 :: s88 :: s89 :: s90 :: s91 :: s92 :: s93 :: s94 :: s95 :: s96 :: s97 :: s98 :: s99 :: s100 :: s101 :: s102 :: s103 :: s104 :: s105 :: s106 :: s107 :: s108 :: s109 :: s110 :: s111 :: s112 :: s113 :: s114 :: s115 :: s116 :: s117 :: s118 :: s119 :: s120 :: s121 :: s122 :: s123 :: s124 :: s125 :: s126 :: s127 :: s128 :: s129 :: s130 :: s131 :: s132 :: s133 :: s134 :: s135 :: s136 :: s137 :: s138 :: s139 :: s140 :: s141 :: s142 :: s143 :: s144 :: s145 :: s146 :: s147 :: s148 :: s149 :: s150 :: s151 :: s152 :: s153 :: s154 :: s155 :: s156 :: s157 :: s158 :: s159 :: s160 :: s161 :: s162 :: s163 :: s164 :: s165 :: s166 :: s167 :: s168 :: s169 :: s170 :: s171 :: s172 :: s173 :: s174 :: s175 :: s176 :: s177 :: s178 :: s179 :: s180 :: s181 :: s182 :: s183 :: s184 :: s185 :: s186 :: s187 :: s188 :: s189 :: s190 :: s191 :: s192 :: s193 :: s194 :: s195 :: s196 :: s197 :: s198 :: s199 :: s200 :: s201 :: s202 :: s203 :: s204 :: s205 :: s206 :: s207 :: s208 :: s209 :: s210 :: s211 :: s212 :: s213 :: s214 :: s215 :: s216 :: s217 :: s218 :: s219 :: s220 :: s221 :: s222 :: s223 :: s224 :: s225 :: s226 :: s227 :: s228 :: s229 :: s230 :: s231 :: s232 :: s233 :: s234 :: s235 :: s236 :: s237 :: s238 :: s239 :: s240 :: s241 :: s242 :: s243 :: s244 :: s245 :: s246 :: s247 :: s248 :: s249 :: s250 :: s251 :: s252 :: s253 :: s254 :: s255 :: s256 :: s257 :: s258 :: s259 :: s260 :: s261 :: s262 :: s263 :: s264 :: s265 :: s266 :: s267 :: s268 :: s269 :: s270 :: s271 :: s272 :: s273 :: s274 :: s275 :: s276 :: s277 :: s278 :: s279 :: s280 :: s281 :: s282 :: s283 :: s284 :: s285 :: s286 :: s287 :: s288 :: s289 :: s290 :: s291 :: s292 :: s293 :: s294 :: s295 :: s296 :: s297 :: s298 :: s299 :: s300 :: s301 :: s302 :: s303 :: s304 :: s305 :: s306 :: s307 :: s308 :: s309 :: s310 :: s311 :: s312 :: s313 :: s314 :: s315 :: s316 :: s317 :: s318 :: s319 :: s320 :: s321 :: s322 :: s323 :: s324 :: s325 :: s326 :: s327 :: s328 :: s329 :: s330 :: s331 :: s332 :: s333 :: s334 :: s335 :: s336 :: s337 :: s338 :: s339 :: s340 :: s341 :: s342 :: s343 :: s344 :: s345 :: s346 :: s347 :: s348 :: s349 :: s350 :: s351 :: s352 :: s353 :: s354 :: s355 :: s356 :: s357 :: s358 :: s359 :: s360 :: s361 :: s362 :: s363 :: s364 :: s365 :: s366 :: s367 :: s368 :: s369 :: s370 :: s371 :: s372 :: s373 :: s374 :: s375 :: s376 :: s377 :: s378 :: s379 :: s380 :: s381 :: s382 :: s383 :: s384 :: s385 :: s386 :: s387 :: s388 :: s389 :: s390 :: s391 :: s392 :: s393 :: s394 :: s395 :: s396 :: s397 :: s398 :: s399 :: s400 :: s401 :: s402 :: s403 :: s404 :: s405 :: s406 :: s407 :: s408 :: s409 :: s410 :: s411 :: s412 :: s413 :: s414 :: s415 :: s416 :: s417 :: s418 :: s419 :: s420 :: s421 :: s422 :: s423 :: s424 :: s425 :: s426 :: s427 :: s428 :: s429 :: s430 :: s431 :: s432 :: s433 :: s434 :: s435 :: s436 :: s437 :: s438 :: s439 :: s440 :: s441 :: s442 :: s443 :: s444 :: s445 :: s446 :: s447 :: s448 :: s449 :: s450 :: s451 :: s452 :: s453 :: s454 :: s455 :: s456 :: s457 :: s458 :: s459 :: s460 :: s461 :: s462 :: s463 :: s464 :: s465 :: s466 :: s467 :: s468 :: s469 :: s470 :: s471 :: s472 :: s473 :: s474 :: s475 :: s476 :: s477 :: s478 :: s479 :: s480 :: s481 :: s482 :: s483 :: s484 :: s485 :: s486 :: s487 :: s488 :: s489 :: s490 :: s491 :: s492 :: s493 :: s494 :: s495 :: s496 :: s497 :: s498 :: s499 :: s500 :: s501 :: s502 :: []), []⟩ W := by
  conv => arg 2; whnf
  conv at hK => enter [a, w', 1, 2]; whnf
  obtain ⟨i4, hi4, z0, z1, z2⟩ := info_parts info4
  have HR : Hid _ := And.intro R (And.intro C B)
  have HF : Hid _ := And.intro hfc hff
  clear R C B hfc hff
  go_wp2_with (at_make; refine wpList_make_full _ rfl (.tmp 376) (.tmp 376) 79 rfl w.heap.size 4 i4 _ 1 Ybaf.underlying79 hi4 z0 z1 .i64 .i64 ks.length ks.length ks.length rfl rfl rfl rfl ?b2 ?b3 ?b4 ?next)
  case b2 => rw [z2]; omega
  case b3 => unfold maxLen; omega
  case b4 => exact HR.out.2.2.size
  case next =>
  intro w1 ho1 hgr
  have U0 := row_bool (g := W.heap.size) (by simpa using ho1) (fun i hi => by simp [madeCells, hi, Nat.mod_one])
  have HB : Hid (Below W.heap.size W w1) := ⟨hgr.os, hgr.tape, hgr.output, hgr.size, fun k hk => hgr.block k hk (by simp)⟩
  have HU : Hid _ := And.intro U0 trivial
  have hWs : w.heap.size ≤ W.heap.size := HR.out.2.2.size
  obtain ⟨ub, hub⟩ : ∃ ub, ub = W.heap.size := ⟨_, rfl⟩
  have HUB : Hid _ := hub
  rw [← hub] at HU ⊢
  clear hub U0 ho1 hgr
  go_wp2_with fail
  go_loopw [380, 61] (fun vi v61 wr => ∃ (k : Nat) (pv : Int) (us : Nat → Bool), k ≤ L.length ∧ vi = .int .i64 k ∧ v61 = .int .i64 pv ∧ w1.grownBy wr (some ub) ∧ Bw wr ub ks.length us ∧ Hid ((∀ j, j < ks.length → us j = true → ∃ i, i < k ∧ L.getD i 0 = ks.getD j 0) ∧ (0 < k → ∃ j : Nat, pv = j ∧ j < ks.length ∧ ks.getD j 0 = L.getD (k - 1) 0))) (fun vi _ _ => L.length - (intOf vi).toNat)
  case atStart => exact ⟨0, -1, fun _ => false, Nat.zero_le _, rfl, rfl, World.grownBy.refl _ _, HU.out.1, ⟨fun j _ h => (by cases h), fun h => absurd h (by omega)⟩⟩
  case round =>
    obtain ⟨k, pv, us, hk, rfl, rfl, G, U, hst⟩ := hrel
    have HLS : Hid (∀ wx, w1.grownBy wx (some ub) → LS wx ks L rr el cl ho lo ca cb mca mb mla lb eb sb hb) := fun wx hg => HR.out.1.keep (fun b hb => (hg.block b (Nat.lt_of_lt_of_le hb HB.out.size) (by simp; have := HUB.out; omega)).trans (HB.out.block b hb))
    by_cases hkn : k < L.length
    · have hkn' : (k : Int) < (L.length : Int) := by omega
      obtain ⟨q, hq⟩ : ∃ q, L.getD k 0 = q := ⟨_, rfl⟩
      have R := HLS.out wr G
      obtain rfl := R.ca (by omega)
      have get : ∀ c v, c < 6 → (rkd (rr q) q)[c]? = some v → wr.cell? ⟨cb, k * 6 + c, none⟩ = some v := fun c v hc hv => by
        have h := R.c k hkn c hc
        rw [hq, hv] at h
        exact h
      have e0 : wr.cell? ⟨cb, k * 6, none⟩ = some (.string (kd q)) := get 0 _ (by omega) rfl
      have e1 : wr.cell? ⟨cb, k * 6 + 1, none⟩ = some (.int .u16 (ka q)) := get 1 _ (by omega) rfl
      have e2 : wr.cell? ⟨cb, k * 6 + 2, none⟩ = some (.int .u8 (rr q)) := get 2 _ (by omega) rfl
      have e3 : wr.cell? ⟨cb, k * 6 + 3, none⟩ = some (.int .u8 0) := get 3 _ (by omega) rfl
      have e4 : wr.cell? ⟨cb, k * 6 + 4, none⟩ = some (.int .i64 0) := get 4 _ (by omega) rfl
      have e5 : wr.cell? ⟨cb, k * 6 + 5, none⟩ = some (.bool false) := get 5 _ (by omega) rfl
      have HQ : Hid _ := hq
      have hmem : q ∈ ks ∧ el q = true := by rw [← hq]; exact HR.out.2.1.mem _ (getD_mem hkn)
      clear get hq
      have b3 := bal (o := .cells #[.string (kd q), .int .u16 (ka q), .int .u8 (rr q), .int .u8 0, .int .i64 0, .bool false] 66) (Below.refl _ wr)
      have BC := (MapKept.heap_alloc wr (.cells #[.string (kd q), .int .u16 (ka q), .int .u8 (rr q), .int .u8 0, .int .i64 0, .bool false] 66)).1
      have G3 := grow_below G b3
      have U3 := U.of_block (b3.block _ U.lt)
      clear b3 R G U
      go_upto_region 107 with fail
      generalize wr.alloc (.cells #[.string (kd q), .int .u16 (ka q), .int .u8 (rr q), .int .u8 0, .int .i64 0, .bool false] 66) = W3 at BC G3 U3 ⊢
      generalize wr.heap.size = nb at BC ⊢
      clear e0 e1 e2 e3 e4 e5
      have R3 := HLS.out W3 G3
      have hix := indexComb_any mca mb 0 ks.length mcc (fun j => nt (ks.getD j 0)) (fun j => ka (ks.getD j 0)) (nt q) (ka q) W3 (by omega) R3.mca (fun j hj => by rw [Nat.zero_add]; exact R3.m j hj)
      have c0 : W3.cell? ⟨nb, 0, none⟩ = some (.string (kd q)) := cell_of BC rfl
      have c1 : W3.cell? ⟨nb, 1, none⟩ = some (.int .u16 (ka q)) := cell_of BC rfl
      have HC : Hid _ := And.intro BC (And.intro G3 U3)
      have hix : Calls Ybaf.prog 8 #[.slice mca ks.length mcc, .agg #[.string (kd q), .int .u16 (ka q)]] W3 fun e W' => ∃ r, e = .returned (.int .i64 r) ∧ IsFst (fun j => (decide (nt q = nt (ks.getD j 0)) && decide (ka q = ka (ks.getD j 0)))) ks.length r ∧ Below W3.heap.size W3 W' := hix
      clear R3 BC G3 U3
      go_wp2_with fail
      refine hix.mono ?_
      rintro e W4 ⟨r, rfl, hr, hb4⟩
      obtain ⟨j, rfl, hj, hjq⟩ := fst_of hmem.1 hr
      have BC := (hb4.block nb (lt_of_heap HC.out.1)).trans HC.out.1
      have G := grow_below HC.out.2.1 hb4
      have U := HC.out.2.2.of_block (hb4.block ub HC.out.2.2.lt)
      have R := HLS.out W4 G
      have hj' : (0 : Int) ≤ (j : Int) := by omega
      have hjn : (j : Int) < (ks.length : Int) := by omega
      have hus : us j = false := by
        cases hu : us j
        · rfl
        · obtain ⟨i, hi, he⟩ := hst.out.1 j hj hu
          rw [hjq, ← HQ.out] at he
          exact absurd (getD_inj HR.out.2.1.nd (by omega) hkn he) (by omega)
      have x1 : W4.cell? ⟨eb, j, none⟩ = some (.bool true) := by rw [R.e j hj, hjq, hmem.2]
      have x2 : W4.cell? ⟨ub, j, none⟩ = some (.bool false) := by rw [U.get hj, hus]
      have x3 : W4.frozen? ⟨ub, j, none⟩ = false := U.fz j
      have x4 : W4.cell? ⟨nb, 5, none⟩ = some (.bool false) := cell_of BC rfl
      have hne : nb ≠ ub := fun e => by
        have h1 := BC
        rw [e] at h1
        obtain ⟨_, h2, _⟩ := U
        rw [h2] at h1
        cases h1
      have HS : Hid (Bw (W4.setCell ⟨ub, j, none⟩ (.bool true)) ub ks.length (fun y => if y = j then true else us y) ∧ w1.grownBy (W4.setCell ⟨ub, j, none⟩ (.bool true)) (some ub) ∧ (W4.setCell ⟨ub, j, none⟩ (.bool true)).heap[nb]? = some (.cells #[.string (kd q), .int .u16 (ka q), .int .u8 (rr q), .int .u8 0, .int .i64 0, .bool false] 66 (0, 0))) := ⟨U.set j true, gr1 _ G, (Below.heap_setCell _ _ _ _ hne).trans BC⟩
      clear hix c0 c1 hb4 HC hr BC G U R
      go_upto_region 111 with fail
      generalize W4.setCell ⟨ub, j, none⟩ (.bool true) = W5 at HS ⊢
      clear x1 x2 x3 x4
      have R := HLS.out W5 HS.out.2.1
      have c0 : W5.cell? ⟨nb, 0, none⟩ = some (.string (kd q)) := cell_of HS.out.2.2 rfl
      have c2 : W5.cell? ⟨nb, 2, none⟩ = some (.int .u8 (rr q)) := cell_of HS.out.2.2 rfl
      have c3 : W5.cell? ⟨nb, 3, none⟩ = some (.int .u8 0) := cell_of HS.out.2.2 rfl
      have c4 : W5.cell? ⟨nb, 4, none⟩ = some (.int .i64 0) := cell_of HS.out.2.2 rfl
      have c6 : W5.cell? ⟨fb, 0, none⟩ = some (.string fs) := by
        have h := lt_of_cell HF.out.1
        exact (World.cell?_of_block (w := W) (a := ⟨fb, 0, none⟩) ((HS.out.2.1.block fb (Nat.lt_of_lt_of_le h HB.out.size) (by simp; have := HUB.out; omega)).trans (HB.out.block fb h))).trans HF.out.1
      have c7 : W5.cell? ⟨sb, j, none⟩ = some (.int .i64 (cl q)) := by rw [R.s j hj (by rw [hjq]; exact hmem.2), hjq]
      have c8 : W5.cell? ⟨hb, j, none⟩ = some (.int .i64 (ho q)) := by rw [R.h j hj (by rw [hjq]; exact hmem.2), hjq]
      have c9 : W5.cell? ⟨lb, j, none⟩ = some (.int .i64 (lo q)) := by rw [R.l j hj, hjq]
      obtain rfl := R.mla (by omega)
      have HRR : Hid _ := R
      clear R
      by_cases hf : k < nF
      · have hf' : (k : Int) < (nF : Int) := by omega
        have n1 : nt q = fP := by rw [← HQ.out]; exact (HR.out.2.1.fst k hkn hf).1
        have n2 : rr q = fR := by rw [← HQ.out]; exact (HR.out.2.1.fst k hkn hf).2
        obtain rfl := HF.out.2 (by omega)
        have z1 := fun w => neq29 q fP w
        have z2 := fun w => neq64 (rr q) fR w
        simp only [n1, n2] at z1 z2
        as_aux_lemma =>
        go_upto_region 118 with fail
        by_cases hk0 : 0 < k ∧ k ≠ nF
        · have g1 : (k : Int) > 0 := by omega
          have g2 : ¬ (k : Int) = (nF : Int) := by omega
          obtain ⟨pj, rfl, hpj, hpq⟩ := hst.out.2 hk0.1
          obtain ⟨p, hp⟩ : ∃ p, L.getD (k - 1) 0 = p := ⟨_, rfl⟩
          rw [hp] at hpq
          have hrl : Rel cl ho lo p q := by rw [← hp, ← HQ.out]; exact HR.out.2.1.ord k hk0.1 hkn hk0.2
          have hpm : el p = true := by rw [← hp]; exact (HR.out.2.1.mem _ (getD_mem (by omega))).2
          have pj0 : (0 : Int) ≤ (pj : Int) := by omega
          have pjn : (pj : Int) < (ks.length : Int) := by omega
          have p7 : W5.cell? ⟨sb, pj, none⟩ = some (.int .i64 (cl p)) := by rw [HRR.out.s pj hpj (by rw [hpq]; exact hpm), hpq]
          have p8 : W5.cell? ⟨hb, pj, none⟩ = some (.int .i64 (ho p)) := by rw [HRR.out.h pj hpj (by rw [hpq]; exact hpm), hpq]
          have p9 : W5.cell? ⟨lb, pj, none⟩ = some (.int .i64 (lo p)) := by rw [HRR.out.l pj hpj, hpq]
          clear hp hpq
          obtain ⟨r1, r2⟩ := hrl
          have g3 : ¬ cl p > cl q := by omega
          by_cases g4 : cl p = cl q
          · obtain ⟨r3, r4⟩ := r2 g4
            rcases (show cl q = 0 ∨ cl q = 1 ∨ cl q = 2 by have := hcl.out q; omega) with g5 | g5 | g5
            · have g6 : ¬ ho p ≥ ho q := by have := r3 g5; omega
              clear r3 r4 r2 r1
              rw [g4, g5] at p7
              rw [g5] at c7
              clear g3 g4 g5
              as_aux_lemma =>
              go_wp2_with fail
              go_quiet (fail)
              go_wp2_with fail
              go_quiet (fail)
              go_wp2_with fail
              go_quiet (fail)
              go_wp2_with fail
              go_quiet (fail)
              go_wp2_with fail
              go_roundw
              case rel =>
                refine ⟨k + 1, j, fun y => if y = j then true else us y, by omega, by go_num, rfl, grow_below HS.out.2.1 (by repeat (first | exact Below.refl _ _ | refine bdrew ?_ _)), HS.out.1.of_block (Below.block (B := W5.heap.size) (w := W5) (by repeat (first | exact Below.refl _ _ | refine bdrew ?_ _)) ub HS.out.1.lt), ⟨fun y hy h => ?_, fun _ => ⟨j, rfl, hj, by rw [hjq, ← HQ.out]; rfl⟩⟩⟩
                by_cases e : y = j
                · exact ⟨k, by omega, by rw [HQ.out, e, hjq]⟩
                · simp only [e, if_false] at h
                  obtain ⟨i, hi, he⟩ := hst.out.1 y hy h
                  exact ⟨i, by omega, he⟩
              case measure => simp [intOf]; omega
            · skip
              clear r3 r4 r2 r1
              rw [g4, g5] at p7
              rw [g5] at c7
              clear g3 g4 g5
              as_aux_lemma =>
              go_wp2_with fail
              go_quiet (fail)
              go_wp2_with fail
              go_quiet (fail)
              go_wp2_with fail
              go_quiet (fail)
              go_wp2_with fail
              go_quiet (fail)
              go_wp2_with fail
              go_roundw
              case rel =>
                refine ⟨k + 1, j, fun y => if y = j then true else us y, by omega, by go_num, rfl, grow_below HS.out.2.1 (by repeat (first | exact Below.refl _ _ | refine bdrew ?_ _)), HS.out.1.of_block (Below.block (B := W5.heap.size) (w := W5) (by repeat (first | exact Below.refl _ _ | refine bdrew ?_ _)) ub HS.out.1.lt), ⟨fun y hy h => ?_, fun _ => ⟨j, rfl, hj, by rw [hjq, ← HQ.out]; rfl⟩⟩⟩
                by_cases e : y = j
                · exact ⟨k, by omega, by rw [HQ.out, e, hjq]⟩
                · simp only [e, if_false] at h
                  obtain ⟨i, hi, he⟩ := hst.out.1 y hy h
                  exact ⟨i, by omega, he⟩
              case measure => simp [intOf]; omega
            · have g6 : ¬ lo p < lo q := by have := r4 g5; omega
              clear r3 r4 r2 r1
              rw [g4, g5] at p7
              rw [g5] at c7
              clear g3 g4 g5
              as_aux_lemma =>
              go_wp2_with fail
              go_quiet (fail)
              go_wp2_with fail
              go_quiet (fail)
              go_wp2_with fail
              go_quiet (fail)
              go_wp2_with fail
              go_quiet (fail)
              go_wp2_with fail
              go_roundw
              case rel =>
                refine ⟨k + 1, j, fun y => if y = j then true else us y, by omega, by go_num, rfl, grow_below HS.out.2.1 (by repeat (first | exact Below.refl _ _ | refine bdrew ?_ _)), HS.out.1.of_block (Below.block (B := W5.heap.size) (w := W5) (by repeat (first | exact Below.refl _ _ | refine bdrew ?_ _)) ub HS.out.1.lt), ⟨fun y hy h => ?_, fun _ => ⟨j, rfl, hj, by rw [hjq, ← HQ.out]; rfl⟩⟩⟩
                by_cases e : y = j
                · exact ⟨k, by omega, by rw [HQ.out, e, hjq]⟩
                · simp only [e, if_false] at h
                  obtain ⟨i, hi, he⟩ := hst.out.1 y hy h
                  exact ⟨i, by omega, he⟩
              case measure => simp [intOf]; omega
          · clear r2
            as_aux_lemma =>
            go_wp2_with fail
            go_quiet (fail)
            go_wp2_with fail
            go_quiet (fail)
            go_wp2_with fail
            go_roundw
            case rel =>
              refine ⟨k + 1, j, fun y => if y = j then true else us y, by omega, by go_num, rfl, grow_below HS.out.2.1 (by repeat (first | exact Below.refl _ _ | refine bdrew ?_ _)), HS.out.1.of_block (Below.block (B := W5.heap.size) (w := W5) (by repeat (first | exact Below.refl _ _ | refine bdrew ?_ _)) ub HS.out.1.lt), ⟨fun y hy h => ?_, fun _ => ⟨j, rfl, hj, by rw [hjq, ← HQ.out]; rfl⟩⟩⟩
              by_cases e : y = j
              · exact ⟨k, by omega, by rw [HQ.out, e, hjq]⟩
              · simp only [e, if_false] at h
                obtain ⟨i, hi, he⟩ := hst.out.1 y hy h
                exact ⟨i, by omega, he⟩
            case measure => simp [intOf]; omega
        · have g1 : ¬ (k : Int) > 0 := by omega
          go_wp2_with fail
          go_roundw
          case rel =>
            refine ⟨k + 1, j, fun y => if y = j then true else us y, by omega, by go_num, rfl, grow_below HS.out.2.1 (by repeat (first | exact Below.refl _ _ | refine bdrew ?_ _)), HS.out.1.of_block (Below.block (B := W5.heap.size) (w := W5) (by repeat (first | exact Below.refl _ _ | refine bdrew ?_ _)) ub HS.out.1.lt), ⟨fun y hy h => ?_, fun _ => ⟨j, rfl, hj, by rw [hjq, ← HQ.out]; rfl⟩⟩⟩
            by_cases e : y = j
            · exact ⟨k, by omega, by rw [HQ.out, e, hjq]⟩
            · simp only [e, if_false] at h
              obtain ⟨i, hi, he⟩ := hst.out.1 y hy h
              exact ⟨i, by omega, he⟩
          case measure => simp [intOf]; omega

      · have hf' : ¬ (k : Int) < (nF : Int) := by omega
        have n2 : rr q = ruleOf (cl q) := by rw [← HQ.out]; exact (HR.out.2.1.rst k hkn hf).2
        have hrl : ∀ w, Calls Ybaf.prog 11 #[.int .i64 (cl q)] w fun e w' => e = .returned (.int .u8 (ruleOf (cl q))) ∧ w' = w := fun w => (rule_any (cl q) w (hcl.out q).1 (hcl.out q).2).mono fun e w' ⟨h1, h2⟩ => ⟨h1, h2.symm⟩
        have z2 := fun w => neq64 (ruleOf (cl q)) (ruleOf (cl q)) w
        rw [n2] at c2
        clear n2
        simp only [decide_true, Bool.not_true] at z2
        by_cases h0 : (nF : Int) > 0
        · have n1 : ¬ nt q = fP := by rw [← HQ.out]; exact (HR.out.2.1.rst k hkn hf).1 (by omega)
          obtain rfl := HF.out.2 (by omega)
          have z1 := fun w => eq29k q fP w
          simp only [n1, decide_false] at z1
          as_aux_lemma =>
          go_upto_region 116 with fail
          go_quiet ((go_at_call 11; exact Calls.quiet_of_same (hrl _)))
          clear hrl z1 z2 c0 c2 c3 c4 c6
          go_upto_region 118 with fail
          by_cases hk0 : 0 < k ∧ k ≠ nF
          · have g1 : (k : Int) > 0 := by omega
            have g2 : ¬ (k : Int) = (nF : Int) := by omega
            obtain ⟨pj, rfl, hpj, hpq⟩ := hst.out.2 hk0.1
            obtain ⟨p, hp⟩ : ∃ p, L.getD (k - 1) 0 = p := ⟨_, rfl⟩
            rw [hp] at hpq
            have hrl : Rel cl ho lo p q := by rw [← hp, ← HQ.out]; exact HR.out.2.1.ord k hk0.1 hkn hk0.2
            have hpm : el p = true := by rw [← hp]; exact (HR.out.2.1.mem _ (getD_mem (by omega))).2
            have pj0 : (0 : Int) ≤ (pj : Int) := by omega
            have pjn : (pj : Int) < (ks.length : Int) := by omega
            have p7 : W5.cell? ⟨sb, pj, none⟩ = some (.int .i64 (cl p)) := by rw [HRR.out.s pj hpj (by rw [hpq]; exact hpm), hpq]
            have p8 : W5.cell? ⟨hb, pj, none⟩ = some (.int .i64 (ho p)) := by rw [HRR.out.h pj hpj (by rw [hpq]; exact hpm), hpq]
            have p9 : W5.cell? ⟨lb, pj, none⟩ = some (.int .i64 (lo p)) := by rw [HRR.out.l pj hpj, hpq]
            clear hp hpq
            obtain ⟨r1, r2⟩ := hrl
            have g3 : ¬ cl p > cl q := by omega
            by_cases g4 : cl p = cl q
            · obtain ⟨r3, r4⟩ := r2 g4
              rcases (show cl q = 0 ∨ cl q = 1 ∨ cl q = 2 by have := hcl.out q; omega) with g5 | g5 | g5
              · have g6 : ¬ ho p ≥ ho q := by have := r3 g5; omega
                clear r3 r4 r2 r1
                rw [g4, g5] at p7
                rw [g5] at c7
                clear g3 g4 g5
                as_aux_lemma =>
                go_wp2_with fail
                go_quiet (fail)
                go_wp2_with fail
                go_quiet (fail)
                go_wp2_with fail
                go_quiet (fail)
                go_wp2_with fail
                go_quiet (fail)
                go_wp2_with fail
                go_roundw
                case rel =>
                  refine ⟨k + 1, j, fun y => if y = j then true else us y, by omega, by go_num, rfl, grow_below HS.out.2.1 (by repeat (first | exact Below.refl _ _ | refine bdrew ?_ _)), HS.out.1.of_block (Below.block (B := W5.heap.size) (w := W5) (by repeat (first | exact Below.refl _ _ | refine bdrew ?_ _)) ub HS.out.1.lt), ⟨fun y hy h => ?_, fun _ => ⟨j, rfl, hj, by rw [hjq, ← HQ.out]; rfl⟩⟩⟩
                  by_cases e : y = j
                  · exact ⟨k, by omega, by rw [HQ.out, e, hjq]⟩
                  · simp only [e, if_false] at h
                    obtain ⟨i, hi, he⟩ := hst.out.1 y hy h
                    exact ⟨i, by omega, he⟩
                case measure => simp [intOf]; omega
              · skip
                clear r3 r4 r2 r1
                rw [g4, g5] at p7
                rw [g5] at c7
                clear g3 g4 g5
                as_aux_lemma =>
                go_wp2_with fail
                go_quiet (fail)
                go_wp2_with fail
                go_quiet (fail)
                go_wp2_with fail
                go_quiet (fail)
                go_wp2_with fail
                go_quiet (fail)
                go_wp2_with fail
                go_roundw
                case rel =>
                  refine ⟨k + 1, j, fun y => if y = j then true else us y, by omega, by go_num, rfl, grow_below HS.out.2.1 (by repeat (first | exact Below.refl _ _ | refine bdrew ?_ _)), HS.out.1.of_block (Below.block (B := W5.heap.size) (w := W5) (by repeat (first | exact Below.refl _ _ | refine bdrew ?_ _)) ub HS.out.1.lt), ⟨fun y hy h => ?_, fun _ => ⟨j, rfl, hj, by rw [hjq, ← HQ.out]; rfl⟩⟩⟩
                  by_cases e : y = j
                  · exact ⟨k, by omega, by rw [HQ.out, e, hjq]⟩
                  · simp only [e, if_false] at h
                    obtain ⟨i, hi, he⟩ := hst.out.1 y hy h
                    exact ⟨i, by omega, he⟩
                case measure => simp [intOf]; omega
              · have g6 : ¬ lo p < lo q := by have := r4 g5; omega
                clear r3 r4 r2 r1
                rw [g4, g5] at p7
                rw [g5] at c7
                clear g3 g4 g5
                as_aux_lemma =>
                go_wp2_with fail
                go_quiet (fail)
                go_wp2_with fail
                go_quiet (fail)
                go_wp2_with fail
                go_quiet (fail)
                go_wp2_with fail
                go_quiet (fail)
                go_wp2_with fail
                go_roundw
                case rel =>
                  refine ⟨k + 1, j, fun y => if y = j then true else us y, by omega, by go_num, rfl, grow_below HS.out.2.1 (by repeat (first | exact Below.refl _ _ | refine bdrew ?_ _)), HS.out.1.of_block (Below.block (B := W5.heap.size) (w := W5) (by repeat (first | exact Below.refl _ _ | refine bdrew ?_ _)) ub HS.out.1.lt), ⟨fun y hy h => ?_, fun _ => ⟨j, rfl, hj, by rw [hjq, ← HQ.out]; rfl⟩⟩⟩
                  by_cases e : y = j
                  · exact ⟨k, by omega, by rw [HQ.out, e, hjq]⟩
                  · simp only [e, if_false] at h
                    obtain ⟨i, hi, he⟩ := hst.out.1 y hy h
                    exact ⟨i, by omega, he⟩
                case measure => simp [intOf]; omega
            · clear r2
              as_aux_lemma =>
              go_wp2_with fail
              go_quiet (fail)
              go_wp2_with fail
              go_quiet (fail)
              go_wp2_with fail
              go_roundw
              case rel =>
                refine ⟨k + 1, j, fun y => if y = j then true else us y, by omega, by go_num, rfl, grow_below HS.out.2.1 (by repeat (first | exact Below.refl _ _ | refine bdrew ?_ _)), HS.out.1.of_block (Below.block (B := W5.heap.size) (w := W5) (by repeat (first | exact Below.refl _ _ | refine bdrew ?_ _)) ub HS.out.1.lt), ⟨fun y hy h => ?_, fun _ => ⟨j, rfl, hj, by rw [hjq, ← HQ.out]; rfl⟩⟩⟩
                by_cases e : y = j
                · exact ⟨k, by omega, by rw [HQ.out, e, hjq]⟩
                · simp only [e, if_false] at h
                  obtain ⟨i, hi, he⟩ := hst.out.1 y hy h
                  exact ⟨i, by omega, he⟩
              case measure => simp [intOf]; omega
          · have g1 : (k : Int) > 0 := by omega
            have g2 : (k : Int) = (nF : Int) := by omega
            go_wp2_with fail
            go_roundw
            case rel =>
              refine ⟨k + 1, j, fun y => if y = j then true else us y, by omega, by go_num, rfl, grow_below HS.out.2.1 (by repeat (first | exact Below.refl _ _ | refine bdrew ?_ _)), HS.out.1.of_block (Below.block (B := W5.heap.size) (w := W5) (by repeat (first | exact Below.refl _ _ | refine bdrew ?_ _)) ub HS.out.1.lt), ⟨fun y hy h => ?_, fun _ => ⟨j, rfl, hj, by rw [hjq, ← HQ.out]; rfl⟩⟩⟩
              by_cases e : y = j
              · exact ⟨k, by omega, by rw [HQ.out, e, hjq]⟩
              · simp only [e, if_false] at h
                obtain ⟨i, hi, he⟩ := hst.out.1 y hy h
                exact ⟨i, by omega, he⟩
            case measure => simp [intOf]; omega

        · as_aux_lemma =>
          go_upto_region 116 with fail
          go_quiet ((go_at_call 11; exact Calls.quiet_of_same (hrl _)))
          clear hrl z2 c0 c2 c3 c4 c6
          go_upto_region 118 with fail
          by_cases hk0 : 0 < k ∧ k ≠ nF
          · have g1 : (k : Int) > 0 := by omega
            have g2 : ¬ (k : Int) = (nF : Int) := by omega
            obtain ⟨pj, rfl, hpj, hpq⟩ := hst.out.2 hk0.1
            obtain ⟨p, hp⟩ : ∃ p, L.getD (k - 1) 0 = p := ⟨_, rfl⟩
            rw [hp] at hpq
            have hrl : Rel cl ho lo p q := by rw [← hp, ← HQ.out]; exact HR.out.2.1.ord k hk0.1 hkn hk0.2
            have hpm : el p = true := by rw [← hp]; exact (HR.out.2.1.mem _ (getD_mem (by omega))).2
            have pj0 : (0 : Int) ≤ (pj : Int) := by omega
            have pjn : (pj : Int) < (ks.length : Int) := by omega
            have p7 : W5.cell? ⟨sb, pj, none⟩ = some (.int .i64 (cl p)) := by rw [HRR.out.s pj hpj (by rw [hpq]; exact hpm), hpq]
            have p8 : W5.cell? ⟨hb, pj, none⟩ = some (.int .i64 (ho p)) := by rw [HRR.out.h pj hpj (by rw [hpq]; exact hpm), hpq]
            have p9 : W5.cell? ⟨lb, pj, none⟩ = some (.int .i64 (lo p)) := by rw [HRR.out.l pj hpj, hpq]
            clear hp hpq
            obtain ⟨r1, r2⟩ := hrl
            have g3 : ¬ cl p > cl q := by omega
            by_cases g4 : cl p = cl q
            · obtain ⟨r3, r4⟩ := r2 g4
              rcases (show cl q = 0 ∨ cl q = 1 ∨ cl q = 2 by have := hcl.out q; omega) with g5 | g5 | g5
              · have g6 : ¬ ho p ≥ ho q := by have := r3 g5; omega
                clear r3 r4 r2 r1
                rw [g4, g5] at p7
                rw [g5] at c7
                clear g3 g4 g5
                as_aux_lemma =>
                go_wp2_with fail
                go_quiet (fail)
                go_wp2_with fail
                go_quiet (fail)
                go_wp2_with fail
                go_quiet (fail)
                go_wp2_with fail
                go_quiet (fail)
                go_wp2_with fail
                go_roundw
                case rel =>
                  refine ⟨k + 1, j, fun y => if y = j then true else us y, by omega, by go_num, rfl, grow_below HS.out.2.1 (by repeat (first | exact Below.refl _ _ | refine bdrew ?_ _)), HS.out.1.of_block (Below.block (B := W5.heap.size) (w := W5) (by repeat (first | exact Below.refl _ _ | refine bdrew ?_ _)) ub HS.out.1.lt), ⟨fun y hy h => ?_, fun _ => ⟨j, rfl, hj, by rw [hjq, ← HQ.out]; rfl⟩⟩⟩
                  by_cases e : y = j
                  · exact ⟨k, by omega, by rw [HQ.out, e, hjq]⟩
                  · simp only [e, if_false] at h
                    obtain ⟨i, hi, he⟩ := hst.out.1 y hy h
                    exact ⟨i, by omega, he⟩
                case measure => simp [intOf]; omega
              · skip
                clear r3 r4 r2 r1
                rw [g4, g5] at p7
                rw [g5] at c7
                clear g3 g4 g5
                as_aux_lemma =>
                go_wp2_with fail
                go_quiet (fail)
                go_wp2_with fail
                go_quiet (fail)
                go_wp2_with fail
                go_quiet (fail)
                go_wp2_with fail
                go_quiet (fail)
                go_wp2_with fail
                go_roundw
                case rel =>
                  refine ⟨k + 1, j, fun y => if y = j then true else us y, by omega, by go_num, rfl, grow_below HS.out.2.1 (by repeat (first | exact Below.refl _ _ | refine bdrew ?_ _)), HS.out.1.of_block (Below.block (B := W5.heap.size) (w := W5) (by repeat (first | exact Below.refl _ _ | refine bdrew ?_ _)) ub HS.out.1.lt), ⟨fun y hy h => ?_, fun _ => ⟨j, rfl, hj, by rw [hjq, ← HQ.out]; rfl⟩⟩⟩
                  by_cases e : y = j
                  · exact ⟨k, by omega, by rw [HQ.out, e, hjq]⟩
                  · simp only [e, if_false] at h
                    obtain ⟨i, hi, he⟩ := hst.out.1 y hy h
                    exact ⟨i, by omega, he⟩
                case measure => simp [intOf]; omega
              · have g6 : ¬ lo p < lo q := by have := r4 g5; omega
                clear r3 r4 r2 r1
                rw [g4, g5] at p7
                rw [g5] at c7
                clear g3 g4 g5
                as_aux_lemma =>
                go_wp2_with fail
                go_quiet (fail)
                go_wp2_with fail
                go_quiet (fail)
                go_wp2_with fail
                go_quiet (fail)
                go_wp2_with fail
                go_quiet (fail)
                go_wp2_with fail
                go_roundw
                case rel =>
                  refine ⟨k + 1, j, fun y => if y = j then true else us y, by omega, by go_num, rfl, grow_below HS.out.2.1 (by repeat (first | exact Below.refl _ _ | refine bdrew ?_ _)), HS.out.1.of_block (Below.block (B := W5.heap.size) (w := W5) (by repeat (first | exact Below.refl _ _ | refine bdrew ?_ _)) ub HS.out.1.lt), ⟨fun y hy h => ?_, fun _ => ⟨j, rfl, hj, by rw [hjq, ← HQ.out]; rfl⟩⟩⟩
                  by_cases e : y = j
                  · exact ⟨k, by omega, by rw [HQ.out, e, hjq]⟩
                  · simp only [e, if_false] at h
                    obtain ⟨i, hi, he⟩ := hst.out.1 y hy h
                    exact ⟨i, by omega, he⟩
                case measure => simp [intOf]; omega
            · clear r2
              as_aux_lemma =>
              go_wp2_with fail
              go_quiet (fail)
              go_wp2_with fail
              go_quiet (fail)
              go_wp2_with fail
              go_roundw
              case rel =>
                refine ⟨k + 1, j, fun y => if y = j then true else us y, by omega, by go_num, rfl, grow_below HS.out.2.1 (by repeat (first | exact Below.refl _ _ | refine bdrew ?_ _)), HS.out.1.of_block (Below.block (B := W5.heap.size) (w := W5) (by repeat (first | exact Below.refl _ _ | refine bdrew ?_ _)) ub HS.out.1.lt), ⟨fun y hy h => ?_, fun _ => ⟨j, rfl, hj, by rw [hjq, ← HQ.out]; rfl⟩⟩⟩
                by_cases e : y = j
                · exact ⟨k, by omega, by rw [HQ.out, e, hjq]⟩
                · simp only [e, if_false] at h
                  obtain ⟨i, hi, he⟩ := hst.out.1 y hy h
                  exact ⟨i, by omega, he⟩
              case measure => simp [intOf]; omega
          · have g1 : ¬ (k : Int) > 0 := by omega
            go_wp2_with fail
            go_roundw
            case rel =>
              refine ⟨k + 1, j, fun y => if y = j then true else us y, by omega, by go_num, rfl, grow_below HS.out.2.1 (by repeat (first | exact Below.refl _ _ | refine bdrew ?_ _)), HS.out.1.of_block (Below.block (B := W5.heap.size) (w := W5) (by repeat (first | exact Below.refl _ _ | refine bdrew ?_ _)) ub HS.out.1.lt), ⟨fun y hy h => ?_, fun _ => ⟨j, rfl, hj, by rw [hjq, ← HQ.out]; rfl⟩⟩⟩
              by_cases e : y = j
              · exact ⟨k, by omega, by rw [HQ.out, e, hjq]⟩
              · simp only [e, if_false] at h
                obtain ⟨i, hi, he⟩ := hst.out.1 y hy h
                exact ⟨i, by omega, he⟩
            case measure => simp [intOf]; omega

    · obtain rfl : k = L.length := by omega
      have hnl : ¬ ((L.length : Nat) : Int) < ((L.length : Nat) : Int) := by omega
      have HX : Hid (Below w.heap.size w wr) := by
        have hB := HR.out.2.2
        have hb1 := HB.out
        exact ⟨G.os.trans (hb1.os.trans hB.os), G.tape.trans (hb1.tape.trans hB.tape), G.output.trans (hb1.output.trans hB.output), Nat.le_trans hB.size (Nat.le_trans hb1.size G.size), fun b hb => (G.block b (by have := hb1.size; omega) (by simp; have := HUB.out; omega)).trans ((hb1.block b (by omega)).trans (hB.block b hb))⟩
      go_wp2_with fail
      go_ret
      exact ⟨rfl, HX.out⟩
end Go.Proofs.YbulkcuegFmt
