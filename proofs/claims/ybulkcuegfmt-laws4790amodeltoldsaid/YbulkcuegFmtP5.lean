import Derived.Test.YbulkcuegFmtP17
namespace Go.Proofs.YbulkcuegFmt
open Go.RowKit Go.Maps

/-- a row of bytes, where it lies -/
def U8R (W : World) (va : Option Addr) (n : Nat) (xs : Nat → Int) : Prop :=
  (∀ i, i < n → 0 ≤ xs i ∧ xs i ≤ 255) ∧ (0 < n → ∃ b o, va = some ⟨b, o, none⟩ ∧ b < W.heap.size ∧ ∀ i, i < n → W.cell? ⟨b, o + i, none⟩ = some (.int .u8 (xs i)))
theorem U8R.next {W W' : World} {va : Option Addr} {n : Nat} {xs : Nat → Int} (h : U8R W va n xs) (g : Below W.heap.size W W') : U8R W' va n xs :=
  ⟨h.1, fun h0 => by
    obtain ⟨b, o, e, hb, hc⟩ := h.2 h0
    exact ⟨b, o, e, Nat.lt_of_lt_of_le hb g.size, fun i hi => keepc g (hc i hi)⟩⟩
def n5 (p : Int) : Fin 5 := ⟨md5 p, by unfold md5; omega⟩
set_option maxRecDepth 1000000 in
set_option maxHeartbeats 2000000 in
theorem P11 (w : World)
    (s1 s2 s3 s8 s9 s10 s11 s12 s13 s14 s15 s20 s21 s22 s23 s24 s25 s26 s27 s28 s29 s30 s31 s32 s33 s34 s35 s36 s37 s38 s39 s40 s41 s42 s43 s44 s45 s46 s47 s48 s49 s50 s51 s52 s53 s54 s55 s56 s57 s58 s59 s60 s61 s62 s63 s64 s65 s66 s67 s68 s69 s70 s71 s72 s73 s74 s75 s76 s77 s78 s79 s80 s81 s82 s83 s84 s85 s86 s87 s88 s89 s90 s91 s92 s93 s94 s95 s96 s97 s98 s99 s100 s101 s102 s103 s104 s105 s106 s107 s108 s109 s110 s111 s112 s113 s114 s115 s116 s117 s118 s119 s120 s121 s122 s123 s124 s125 s126 s127 s128 s129 s130 s131 s132 s133 s134 s135 s136 s137 s138 s139 s140 s141 s142 s143 s144 s145 s146 s147 s148 s149 s150 s151 s152 s153 s154 s155 s156 s157 s158 s159 s160 s161 s162 s163 s164 s165 s166 s167 s168 s169 s170 s171 s172 s173 s174 s175 s176 s177 s178 s179 s180 s181 s182 s183 s184 s185 s186 s187 s188 s189 s190 s191 s192 s193 s194 s195 s196 s197 s198 s199 s200 s201 s202 s203 s204 s205 s206 s207 s208 s209 s210 s211 s212 s213 s214 s215 s216 s217 s218 s219 s220 s221 s222 s223 s224 s225 s226 s227 s228 s229 s230 s231 s232 s233 s234 s235 s236 s237 s238 s239 s240 s241 s242 s243 s244 s245 s246 s247 s248 s249 s250 s251 s252 s253 s254 s255 s256 s257 s258 s259 s260 s261 s262 s263 s264 s265 s266 s267 s268 s269 s270 s271 s272 s273 s274 s275 s276 s277 s278 s279 s280 s281 s282 s283 s284 s285 s286 s287 s288 s289 s290 s291 s292 s293 s294 s295 s296 s297 s298 s299 s300 s301 s302 s303 s304 s305 s306 s307 s308 s309 s310 s311 s312 s313 s314 s315 s316 s317 s318 s319 s320 s321 s322 s323 s324 s325 s326 s327 s328 s329 s330 s331 s332 s333 s334 s335 s336 s337 s338 s339 s340 s341 s342 s343 s344 s345 s346 s347 s348 s349 s350 s351 s352 s353 s354 s355 s356 s357 s358 s359 s360 s361 s362 s363 s364 s365 s366 s367 s368 s369 s370 s371 s372 s373 s374 s375 s376 s377 s378 s379 s380 s381 s382 s383 s384 s385 s386 s387 s388 s389 s390 s391 s392 s393 s394 s395 s396 s397 s398 s399 s400 s401 s402 s403 s404 s405 s406 s407 s408 s409 s410 s411 s412 s413 s414 s415 s416 s417 s418 s419 s420 s421 s422 s423 s424 s425 s426 s427 s428 s429 s430 s431 s432 s433 s434 s435 s436 s437 s438 s439 s440 s441 s442 s443 s444 s445 s446 s447 s448 s449 s450 s451 s452 s453 s454 s455 s456 s457 s458 s459 s460 s461 s462 s463 s464 s465 s466 s467 s468 s469 s470 s471 s472 s473 s474 s475 s476 s477 s478 s479 s480 s481 s482 s483 s484 s485 s486 s487 s488 s489 s490 s491 s492 s493 s494 s495 s496 s497 s498 s499 s500 s501 s502 : Value)
    (K : Act → World → Prop) (mn : Bool) (rI : Int) (dl : List Int) (da : Option Addr) (dc : Nat) (hl : List Int) (ha : Option Addr) (hc : Nat) (n6 : Nat) (fl : Nat → Fin 5) (fa : Option Addr) (fc : Nat) (ra : Option Addr) (nr rc : Nat) (vals : Nat → Int) (oa : Option Addr) (n oc : Nat) (op oA ol : Nat → Int) (oh : Nat → Bool) (ea : Option Addr) (ne ec : Nat) (es : Nat → Int) (W : World)
    (hK : ∀ a w', Code.wp Ybaf.prog (spine 7 (Ybaf.f3.body.getD .skip)) (bodyPost Ybaf.prog Ybaf.f3 fun e w' => e = .returned (.bool true) ∧ Below w.heap.size w w') a w' → K a w')
    (B : Below w.heap.size w W) (V : L3 W dl (.slice da dl.length dc) hl (.slice ha hl.length hc) n6 fl (.slice fa n6 fc) 0 (fun _ => 0) (.slice none 0 0) ra nr rc vals) (O : ObsR W oa n op oA oh ol) (E : U8R W ea ne es) (hn : n ≤ 300) (hne : ne ≤ 300) (hrI : 0 ≤ rI ∧ rI ≤ 255) :
    Code.wp Ybaf.prog (headAt 6 (Ybaf.f3.body.getD .skip)) (Exit.then K (bodyPost Ybaf.prog Ybaf.f3 fun e w' => e = .returned (.bool true) ∧ Below w.heap.size w w')) ⟨List.toArray (.slice oa n oc :: s1 :: s2 :: s3 :: .int .u8 rI :: .slice ea ne ec :: .bool mn :: .slice ra nr rc :: s8 :: s9 :: s10 :: s11 :: s12 :: s13 :: s14 :: s15 :: .bool false :: .slice da dl.length dc :: .slice ha hl.length hc :: .slice fa n6 fc :: s20 :: s21 :: s22 :: s23 :: s24 :: s25 :: s26 :: s27 :: s28 :: s29 :: s30 :: s31 :: s32 :: s33 :: s34 :: s35 :: s36 :: s37 :: s38 :: s39 :: s40 :: s41 :: s42 :: s43 :: s44 :: s45 :: s46 :: s47 :: s48 :: s49 :: s50 :: s51 :: s52 :: s53 :: s54 :: s55 :: s56 :: s57 :: s58 :: s59 :: s60 :: s61 :: s62 :: s63 :: s64 :: s65 :: s66 :: s67 :: s68 :: s69 :: s70 :: s71 :: s72 :: s73 :: s74 :: s75 :: s76 :: s77 :: s78 :: s79 :: s80 :: s81 :: s82 :: s83 :: s84 :: s85 :: s86 :: s87 :: s88 :: s89 :: s90 :: s91 :: s92 :: s93 :: s94 :: s95 :: s96 :: s97 :: s98 :: s99 :: s100 :: s101 :: s102 :: s103 :: s104 :: s105 :: s106 :: s107 :: s108 :: s109 :: s110 :: s111 :: s112 :: s113 :: s114 :: s115 :: s116 :: s117 :: s118 :: s119 :: s120 :: s121 :: s122 :: s123 :: s124 :: s125 :: s126 :: s127 :: s128 :: s129 :: s130 :: s131 :: s132 :: s133 :: s134 :: s135 :: s136 :: s137 :: s138 :: s139 :: s140 :: s141 :: s142 :: s143 :: s144 :: s145 :: s146 :: s147 :: s148 :: s149 :: s150 :: s151 :: s152 :: s153 :: s154 :: s155 :: s156 :: s157 :: s158 :: s159 :: s160 :: s161 :: s162 :: s163 :: s164 :: s165 :: s166 :: s167 :: s168 :: s169 :: s170 :: s171 :: s172 :: s173 :: s174 :: s175 :: s176 :: s177 :: s178 :: s179 :: s180 :: s181 :: s182 :: s183 :: s184 :: s185 :: s186 :: s187 :: s188 :: s189 :: s190 :: s191 :: s192 :: s193 :: s194 :: s195 :: s196 :: s197 :: s198 :: s199 :: s200 :: s201 :: s202 :: s203 :: s204 :: s205 :: s206 :: s207 :: s208 :: s209 :: s210 :: s211 :: s212 :: s213 :: s214 :: s215 :: s216 :: s217 :: s218 :: s219 :: s220 :: s221 :: s222 :: s223 :: s224 :: s225 :: s226 :: s227 :: s228 :: s229 :: s230 :: s231 :: s232 :: s233 :: s234 :: s235 :: s236 :: s237 :: s238 :: s239 :: s240 :: s241 :: s242 :: s243 :: s244 :: s245 :: s246 :: s247 :: s248 :: s249 :: s250 :: s251 :: s252 :: s253 :: s254 :: s255 :: s256 :: s257 :: s258 :: s259 :: s260 :: s261 :: s262 :: s263 :: s264 :: s265 :: s266 :: s267 :: s268 :: s269 :: s270 :: s271 :: s272 :: s273 :: s274 :: s275 :: s276 :: s277 :: s278 :: s279 :: s280 :: s281 :: s282 :: s283 :: s284 :: s285 :: s286 :: s287 :: s288 :: s289 :: s290 :: s291 :: s292 :: s293 :: s294 :: s295 :: s296 :: s297 :: s298 :: s299 :: s300 :: s301 :: s302 :: s303 :: s304 :: s305 :: s306 :: s307 :: s308 :: s309 :: s310 :: s311 :: s312 :: s313 :: s314 :: s315 :: s316 :: s317 :: s318 :: s319 :: s320 :: s321 :: s322 :: s323 :: s324 :: s325 :: s326 :: s327 :: s328 :: s329 :: s330 :: s331 :: s332 :: s333 :: s334 :: s335 :: s336 :: s337 :: s338 :: s339 :: s340 :: s341 :: s342 :: s343 :: s344 :: s345 :: s346 :: s347 :: s348 :: s349 :: s350 :: s351 :: s352 :: s353 :: s354 :: s355 :: s356 :: s357 :: s358 :: s359 :: s360 :: s361 :: s362 :: s363 :: s364 :: s365 :: s366 :: s367 :: s368 :: s369 :: s370 :: s371 :: s372 :: s373 :: s374 :: s375 :: s376 :: s377 :: s378 :: s379 :: s380 :: s381 :: s382 :: s383 :: s384 :: s385 :: s386 :: s387 :: s388 :: s389 :: s390 :: s391 :: s392 :: s393 :: s394 :: s395 :: s396 :: s397 :: s398 :: s399 :: s400 :: s401 :: s402 :: s403 :: s404 :: s405 :: s406 :: s407 :: s408 :: s409 :: s410 :: s411 :: s412 :: s413 :: s414 :: s415 :: s416 :: s417 :: s418 :: s419 :: s420 :: s421 :: s422 :: s423 :: s424 :: s425 :: s426 :: s427 :: s428 :: s429 :: s430 :: s431 :: s432 :: s433 :: s434 :: s435 :: s436 :: s437 :: s438 :: s439 :: s440 :: s441 :: s442 :: s443 :: s444 :: s445 :: s446 :: s447 :: s448 :: s449 :: s450 :: s451 :: s452 :: s453 :: s454 :: s455 :: s456 :: s457 :: s458 :: s459 :: s460 :: s461 :: s462 :: s463 :: s464 :: s465 :: s466 :: s467 :: s468 :: s469 :: s470 :: s471 :: s472 :: s473 :: s474 :: s475 :: s476 :: s477 :: s478 :: s479 :: s480 :: s481 :: s482 :: s483 :: s484 :: s485 :: s486 :: s487 :: s488 :: s489 :: s490 :: s491 :: s492 :: s493 :: s494 :: s495 :: s496 :: s497 :: s498 :: s499 :: s500 :: s501 :: s502 :: []), []⟩ W := by
  conv => arg 2; whnf
  conv at hK => enter [a, w', 1, 2]; whnf
  obtain ⟨i0, hi29, z0, z1, z2⟩ := info_parts info29
  have HR : Hid _ := And.intro E (And.intro B (And.intro V O))
  clear B V O E
  go_wp2_with fail
  go_loopw [111, 22] (fun vi v wr => ∃ k : Nat, k ≤ ne ∧ vi = .int .i64 k ∧ Hid (Below W.heap.size W wr ∧ wr.ownsRow W.heap.size 29 1 v k ((List.range k).map (fun i => Value.string (dig (n5 (es i)).val))))) (fun vi _ _ => ne - (intOf vi).toNat)
  case atStart => exact ⟨0, Nat.zero_le _, rfl, ⟨Below.refl _ _, rfl, .inl ⟨rfl, rfl⟩⟩⟩
  case round =>
    obtain ⟨k, hk, rfl, hF⟩ := hrel
    by_cases hkn : k < ne
    · have hkn' : (k : Int) < (ne : Int) := by omega
      have hk0 : (0 : Int) ≤ (k : Int) := by omega
      have E1 := HR.out.1.next hF.out.1
      obtain ⟨r0, r1⟩ := E1.1 k hkn
      obtain ⟨b, o, rfl, hbl, hcc⟩ := E1.2 (by omega)
      have e0 := hcc k hkn
      clear hcc hbl E1
      have hpl := plmn_any (es k) wr r0 r1
      rw [show dig (md5 (es k)) = dig (n5 (es k)).val from rfl] at hpl
      go_wp2_with fail
      refine hpl.mono ?_
      rintro e W1 ⟨rfl, hw1⟩
      have H1 : Hid (Below W.heap.size W W1 ∧ W1.ownsRow W.heap.size 29 1 u22 k ((List.range k).map (fun i => Value.string (dig (n5 (es i)).val)))) := by
        have hb1 : Below wr.heap.size wr W1 := by rw [← hw1]; exact bal (Below.refl _ _)
        exact ⟨hF.out.1.trans (hb1.mono hF.out.1.size), own_bel hF.out.2 hb1⟩
      clear hw1 hpl hF e0
      have b2 := bal (o := .cells #[.string (dig (n5 (es k)).val)] 29) (Below.refl _ W1)
      have ho1 := own_bel H1.out.2 b2
      have hs1 := H1.out.1.size
      have hs2 : W1.heap.size ≤ (W1.alloc (.cells #[.string (dig (n5 (es k)).val)] 29)).heap.size := by simp
      have HB2 : Hid _ := H1.out.1.trans (b2.mono hs1)
      have hone : ∀ u ∈ ([.string (dig (n5 (es k)).val)] : List Value), u.oneCell' = true := by intro u hu; simp at hu; subst hu; rfl
      clear b2
      go_wp2_with (at_builtin; refine wpList_append_own _ rfl (.tmp 115) (.tmp 118) 27 rfl W.heap.size 29 i0 _ 1 16 Ybaf.underlying27 hi29 z0 z1 z2 rfl (by omega) _ k _ rfl ho1 ⟨W1.heap.size, 0, none⟩ 1 1 [.string (dig (n5 (es k)).val)] rfl rfl (cell_one_new _ _ _) hone (by unfold maxLen; omega) (by omega) (Nat.le_trans hs1 hs2) ?nA)
      case nA =>
      intro v' w' hown' hgr _
      have HW : Hid (Below W.heap.size W w' ∧ w'.ownsRow W.heap.size 29 1 v' (k + 1) ((List.range (k + 1)).map (fun i => Value.string (dig (n5 (es i)).val)))) := by
        refine ⟨HB2.out.trans (Gr_of_own ho1 hgr (Nat.le_trans hs1 hs2)), ?_⟩
        rw [List.range_succ, List.map_append]
        exact hown'
      clear hown' hgr ho1 hone HB2 H1 hs1 hs2
      go_wp2_with fail
      go_roundw
      case rel => exact ⟨k + 1, by omega, by go_num, HW⟩
      case measure => simp [intOf]; omega
    · obtain rfl : k = ne := by omega
      have hnl : ¬ ((k : Nat) : Int) < ((k : Nat) : Int) := by omega
      obtain ⟨qa, qc, rfl⟩ := own_shape hF.out.2
      have HE : Hid (Below w.heap.size w wr ∧ L3 wr dl (.slice da dl.length dc) hl (.slice ha hl.length hc) n6 fl (.slice fa n6 fc) k (fun i => n5 (es i)) (.slice qa k qc) ra nr rc vals ∧ ObsR wr oa n op oA oh ol) := by
        have v := HR.out.2.2.1.next hF.out.1
        have le := v.le
        exact ⟨HR.out.2.1.trans (hF.out.1.mono HR.out.2.1.size), ⟨v.d, v.h, v.f, rowV_of_owns hF.out.2, v.r, v.rg, v.nd, le.1, le.2.1, le.2.2.1, hne, le.2.2.2.2⟩, HR.out.2.2.2.next hF.out.1⟩
      clear hF
      go_upto_region 17 with fail
      refine P17 w _ _ _ _ _ _ _ _ _ _ _ _ _ _ _ _ _ _ _ _ _ _ _ _ _ _ _ _ _ _ _ _ _ _ _ _ _ _ _ _ _ _ _ _ _ _ _ _ _ _ _ _ _ _ _ _ _ _ _ _ _ _ _ _ _ _ _ _ _ _ _ _ _ _ _ _ _ _ _ _ _ _ _ _ _ _ _ _ _ _ _ _ _ _ _ _ _ _ _ _ _ _ _ _ _ _ _ _ _ _ _ _ _ _ _ _ _ _ _ _ _ _ _ _ _ _ _ _ _ _ _ _ _ _ _ _ _ _ _ _ _ _ _ _ _ _ _ _ _ _ _ _ _ _ _ _ _ _ _ _ _ _ _ _ _ _ _ _ _ _ _ _ _ _ _ _ _ _ _ _ _ _ _ _ _ _ _ _ _ _ _ _ _ _ _ _ _ _ _ _ _ _ _ _ _ _ _ _ _ _ _ _ _ _ _ _ _ _ _ _ _ _ _ _ _ _ _ _ _ _ _ _ _ _ _ _ _ _ _ _ _ _ _ _ _ _ _ _ _ _ _ _ _ _ _ _ _ _ _ _ _ _ _ _ _ _ _ _ _ _ _ _ _ _ _ _ _ _ _ _ _ _ _ _ _ _ _ _ _ _ _ _ _ _ _ _ _ _ _ _ _ _ _ _ _ _ _ _ _ _ _ _ _ _ _ _ _ _ _ _ _ _ _ _ _ _ _ _ _ _ _ _ _ _ _ _ _ _ _ _ _ _ _ _ _ _ _ _ _ _ _ _ _ _ _ _ _ _ _ _ _ _ _ _ _ _ _ _ _ _ _ _ _ _ _ _ _ _ _ _ _ _ _ _ _ _ _ _ _ _ _ _ _ _ _ _ _ _ _ _ _ _ _ _ _ _ _ _ _ _ _ _ _ _ _ _ _ _ _ _ _ _ _ _ _ _ _ _ _ _ _ _ _ _ _ _ _ _ _ _ _ _ _ _ _ _ _ _ _ _ _ _ _ _ _ _ _ _ _ _ _ _ _ _ _ _ _ _ _ _ _ _ _ _ _ _ _ _ _ _ _ _ _ _ _ _ _ _ _ _ _ _ _ _ _ (n5 rI) (fun i => n5 (es i)) k mn rI qa qc dl da dc hl ha hc n6 fl fa fc ra nr rc vals oa n oc op oA ol oh _ ?_ HE.out.1 HE.out.2.1 HE.out.2.2 hn hrI rfl
      assumption
set_option maxRecDepth 1000000 in
set_option maxHeartbeats 2000000 in
theorem P5 (w : World)
    (s1 s2 s8 s9 s10 s11 s12 s13 s14 s15 s19 s20 s21 s22 s23 s24 s25 s26 s27 s28 s29 s30 s31 s32 s33 s34 s35 s36 s37 s38 s39 s40 s41 s42 s43 s44 s45 s46 s47 s48 s49 s50 s51 s52 s53 s54 s55 s56 s57 s58 s59 s60 s61 s62 s63 s64 s65 s66 s67 s68 s69 s70 s71 s72 s73 s74 s75 s76 s77 s78 s79 s80 s81 s82 s83 s84 s85 s86 s87 s88 s89 s90 s91 s92 s93 s94 s95 s96 s97 s98 s99 s100 s101 s102 s103 s104 s105 s106 s107 s108 s109 s110 s111 s112 s113 s114 s115 s116 s117 s118 s119 s120 s121 s122 s123 s124 s125 s126 s127 s128 s129 s130 s131 s132 s133 s134 s135 s136 s137 s138 s139 s140 s141 s142 s143 s144 s145 s146 s147 s148 s149 s150 s151 s152 s153 s154 s155 s156 s157 s158 s159 s160 s161 s162 s163 s164 s165 s166 s167 s168 s169 s170 s171 s172 s173 s174 s175 s176 s177 s178 s179 s180 s181 s182 s183 s184 s185 s186 s187 s188 s189 s190 s191 s192 s193 s194 s195 s196 s197 s198 s199 s200 s201 s202 s203 s204 s205 s206 s207 s208 s209 s210 s211 s212 s213 s214 s215 s216 s217 s218 s219 s220 s221 s222 s223 s224 s225 s226 s227 s228 s229 s230 s231 s232 s233 s234 s235 s236 s237 s238 s239 s240 s241 s242 s243 s244 s245 s246 s247 s248 s249 s250 s251 s252 s253 s254 s255 s256 s257 s258 s259 s260 s261 s262 s263 s264 s265 s266 s267 s268 s269 s270 s271 s272 s273 s274 s275 s276 s277 s278 s279 s280 s281 s282 s283 s284 s285 s286 s287 s288 s289 s290 s291 s292 s293 s294 s295 s296 s297 s298 s299 s300 s301 s302 s303 s304 s305 s306 s307 s308 s309 s310 s311 s312 s313 s314 s315 s316 s317 s318 s319 s320 s321 s322 s323 s324 s325 s326 s327 s328 s329 s330 s331 s332 s333 s334 s335 s336 s337 s338 s339 s340 s341 s342 s343 s344 s345 s346 s347 s348 s349 s350 s351 s352 s353 s354 s355 s356 s357 s358 s359 s360 s361 s362 s363 s364 s365 s366 s367 s368 s369 s370 s371 s372 s373 s374 s375 s376 s377 s378 s379 s380 s381 s382 s383 s384 s385 s386 s387 s388 s389 s390 s391 s392 s393 s394 s395 s396 s397 s398 s399 s400 s401 s402 s403 s404 s405 s406 s407 s408 s409 s410 s411 s412 s413 s414 s415 s416 s417 s418 s419 s420 s421 s422 s423 s424 s425 s426 s427 s428 s429 s430 s431 s432 s433 s434 s435 s436 s437 s438 s439 s440 s441 s442 s443 s444 s445 s446 s447 s448 s449 s450 s451 s452 s453 s454 s455 s456 s457 s458 s459 s460 s461 s462 s463 s464 s465 s466 s467 s468 s469 s470 s471 s472 s473 s474 s475 s476 s477 s478 s479 s480 s481 s482 s483 s484 s485 s486 s487 s488 s489 s490 s491 s492 s493 s494 s495 s496 s497 s498 s499 s500 s501 s502 : Value)
    (K : Act → World → Prop) (mn : Bool) (rI : Int) (dl : List Int) (da : Option Addr) (dc : Nat) (hl : List Int) (ha : Option Addr) (hc : Nat) (ra : Option Addr) (nr rc : Nat) (vals : Nat → Int) (oa : Option Addr) (n oc : Nat) (op oA ol : Nat → Int) (oh : Nat → Bool) (ea : Option Addr) (ne ec : Nat) (es : Nat → Int) (ga : Option Addr) (ng gc : Nat) (gs : Nat → Int) (W : World)
    (hK : ∀ a w', Code.wp Ybaf.prog (spine 5 (Ybaf.f3.body.getD .skip)) (bodyPost Ybaf.prog Ybaf.f3 fun e w' => e = .returned (.bool true) ∧ Below w.heap.size w w') a w' → K a w')
    (B : Below w.heap.size w W) (V : L3 W dl (.slice da dl.length dc) hl (.slice ha hl.length hc) 0 (fun _ => 0) (.slice none 0 0) 0 (fun _ => 0) (.slice none 0 0) ra nr rc vals) (O : ObsR W oa n op oA oh ol) (E : U8R W ea ne es) (G : U8R W ga ng gs) (hn : n ≤ 300) (hne : ne ≤ 300) (hng : ng ≤ 300) (hrI : 0 ≤ rI ∧ rI ≤ 255) :
    Code.wp Ybaf.prog (headAt 4 (Ybaf.f3.body.getD .skip)) (Exit.then K (bodyPost Ybaf.prog Ybaf.f3 fun e w' => e = .returned (.bool true) ∧ Below w.heap.size w w')) ⟨List.toArray (.slice oa n oc :: s1 :: s2 :: .slice ga ng gc :: .int .u8 rI :: .slice ea ne ec :: .bool mn :: .slice ra nr rc :: s8 :: s9 :: s10 :: s11 :: s12 :: s13 :: s14 :: s15 :: .bool false :: .slice da dl.length dc :: .slice ha hl.length hc :: s19 :: s20 :: s21 :: s22 :: s23 :: s24 :: s25 :: s26 :: s27 :: s28 :: s29 :: s30 :: s31 :: s32 :: s33 :: s34 :: s35 :: s36 :: s37 :: s38 :: s39 :: s40 :: s41 :: s42 :: s43 :: s44 :: s45 :: s46 :: s47 :: s48 :: s49 :: s50 :: s51 :: s52 :: s53 :: s54 :: s55 :: s56 :: s57 :: s58 :: s59 :: s60 :: s61 :: s62 :: s63 :: s64 :: s65 :: s66 :: s67 :: s68 :: s69 :: s70 :: s71 :: s72 :: s73 :: s74 :: s75 :: s76 :: s77 :: s78 :: s79 :: s80 :: s81 :: s82 :: s83 :: s84 :: s85 :: s86 :: s87 :: s88 :: s89 :: s90 :: s91 :: s92 :: s93 :: s94 :: s95 :: s96 :: s97 :: s98 :: s99 :: s100 :: s101 :: s102 :: s103 :: s104 :: s105 :: s106 :: s107 :: s108 :: s109 :: s110 :: s111 :: s112 :: s113 :: s114 :: s115 :: s116 :: s117 :: s118 :: s119 :: s120 :: s121 :: s122 :: s123 :: s124 :: s125 :: s126 :: s127 :: s128 :: s129 :: s130 :: s131 :: s132 :: s133 :: s134 :: s135 :: s136 :: s137 :: s138 :: s139 :: s140 :: s141 :: s142 :: s143 :: s144 :: s145 :: s146 :: s147 :: s148 :: s149 :: s150 :: s151 :: s152 :: s153 :: s154 :: s155 :: s156 :: s157 :: s158 :: s159 :: s160 :: s161 :: s162 :: s163 :: s164 :: s165 :: s166 :: s167 :: s168 :: s169 :: s170 :: s171 :: s172 :: s173 :: s174 :: s175 :: s176 :: s177 :: s178 :: s179 :: s180 :: s181 :: s182 :: s183 :: s184 :: s185 :: s186 :: s187 :: s188 :: s189 :: s190 :: s191 :: s192 :: s193 :: s194 :: s195 :: s196 :: s197 :: s198 :: s199 :: s200 :: s201 :: s202 :: s203 :: s204 :: s205 :: s206 :: s207 :: s208 :: s209 :: s210 :: s211 :: s212 :: s213 :: s214 :: s215 :: s216 :: s217 :: s218 :: s219 :: s220 :: s221 :: s222 :: s223 :: s224 :: s225 :: s226 :: s227 :: s228 :: s229 :: s230 :: s231 :: s232 :: s233 :: s234 :: s235 :: s236 :: s237 :: s238 :: s239 :: s240 :: s241 :: s242 :: s243 :: s244 :: s245 :: s246 :: s247 :: s248 :: s249 :: s250 :: s251 :: s252 :: s253 :: s254 :: s255 :: s256 :: s257 :: s258 :: s259 :: s260 :: s261 :: s262 :: s263 :: s264 :: s265 :: s266 :: s267 :: s268 :: s269 :: s270 :: s271 :: s272 :: s273 :: s274 :: s275 :: s276 :: s277 :: s278 :: s279 :: s280 :: s281 :: s282 :: s283 :: s284 :: s285 :: s286 :: s287 :: s288 :: s289 :: s290 :: s291 :: s292 :: s293 :: s294 :: s295 :: s296 :: s297 :: s298 :: s299 :: s300 :: s301 :: s302 :: s303 :: s304 :: s305 :: s306 :: s307 :: s308 :: s309 :: s310 :: s311 :: s312 :: s313 :: s314 :: s315 :: s316 :: s317 :: s318 :: s319 :: s320 :: s321 :: s322 :: s323 :: s324 :: s325 :: s326 :: s327 :: s328 :: s329 :: s330 :: s331 :: s332 :: s333 :: s334 :: s335 :: s336 :: s337 :: s338 :: s339 :: s340 :: s341 :: s342 :: s343 :: s344 :: s345 :: s346 :: s347 :: s348 :: s349 :: s350 :: s351 :: s352 :: s353 :: s354 :: s355 :: s356 :: s357 :: s358 :: s359 :: s360 :: s361 :: s362 :: s363 :: s364 :: s365 :: s366 :: s367 :: s368 :: s369 :: s370 :: s371 :: s372 :: s373 :: s374 :: s375 :: s376 :: s377 :: s378 :: s379 :: s380 :: s381 :: s382 :: s383 :: s384 :: s385 :: s386 :: s387 :: s388 :: s389 :: s390 :: s391 :: s392 :: s393 :: s394 :: s395 :: s396 :: s397 :: s398 :: s399 :: s400 :: s401 :: s402 :: s403 :: s404 :: s405 :: s406 :: s407 :: s408 :: s409 :: s410 :: s411 :: s412 :: s413 :: s414 :: s415 :: s416 :: s417 :: s418 :: s419 :: s420 :: s421 :: s422 :: s423 :: s424 :: s425 :: s426 :: s427 :: s428 :: s429 :: s430 :: s431 :: s432 :: s433 :: s434 :: s435 :: s436 :: s437 :: s438 :: s439 :: s440 :: s441 :: s442 :: s443 :: s444 :: s445 :: s446 :: s447 :: s448 :: s449 :: s450 :: s451 :: s452 :: s453 :: s454 :: s455 :: s456 :: s457 :: s458 :: s459 :: s460 :: s461 :: s462 :: s463 :: s464 :: s465 :: s466 :: s467 :: s468 :: s469 :: s470 :: s471 :: s472 :: s473 :: s474 :: s475 :: s476 :: s477 :: s478 :: s479 :: s480 :: s481 :: s482 :: s483 :: s484 :: s485 :: s486 :: s487 :: s488 :: s489 :: s490 :: s491 :: s492 :: s493 :: s494 :: s495 :: s496 :: s497 :: s498 :: s499 :: s500 :: s501 :: s502 :: []), []⟩ W := by
  conv => arg 2; whnf
  conv at hK => enter [a, w', 1, 2]; whnf
  obtain ⟨i0, hi29, z0, z1, z2⟩ := info_parts info29
  have HR : Hid _ := And.intro G (And.intro B (And.intro V (And.intro O E)))
  clear B V O E G
  go_wp2_with fail
  go_loopw [99, 19] (fun vi v wr => ∃ k : Nat, k ≤ ng ∧ vi = .int .i64 k ∧ Hid (Below W.heap.size W wr ∧ wr.ownsRow W.heap.size 29 1 v k ((List.range k).map (fun i => Value.string (dig (n5 (gs i)).val))))) (fun vi _ _ => ng - (intOf vi).toNat)
  case atStart => exact ⟨0, Nat.zero_le _, rfl, ⟨Below.refl _ _, rfl, .inl ⟨rfl, rfl⟩⟩⟩
  case round =>
    obtain ⟨k, hk, rfl, hF⟩ := hrel
    by_cases hkn : k < ng
    · have hkn' : (k : Int) < (ng : Int) := by omega
      have hk0 : (0 : Int) ≤ (k : Int) := by omega
      have E1 := HR.out.1.next hF.out.1
      obtain ⟨r0, r1⟩ := E1.1 k hkn
      obtain ⟨b, o, rfl, hbl, hcc⟩ := E1.2 (by omega)
      have e0 := hcc k hkn
      clear hcc hbl E1
      have hpl := plmn_any (gs k) wr r0 r1
      rw [show dig (md5 (gs k)) = dig (n5 (gs k)).val from rfl] at hpl
      go_wp2_with fail
      refine hpl.mono ?_
      rintro e W1 ⟨rfl, hw1⟩
      have H1 : Hid (Below W.heap.size W W1 ∧ W1.ownsRow W.heap.size 29 1 u19 k ((List.range k).map (fun i => Value.string (dig (n5 (gs i)).val)))) := by
        have hb1 : Below wr.heap.size wr W1 := by rw [← hw1]; exact bal (Below.refl _ _)
        exact ⟨hF.out.1.trans (hb1.mono hF.out.1.size), own_bel hF.out.2 hb1⟩
      clear hw1 hpl hF e0
      have b2 := bal (o := .cells #[.string (dig (n5 (gs k)).val)] 29) (Below.refl _ W1)
      have ho1 := own_bel H1.out.2 b2
      have hs1 := H1.out.1.size
      have hs2 : W1.heap.size ≤ (W1.alloc (.cells #[.string (dig (n5 (gs k)).val)] 29)).heap.size := by simp
      have HB2 : Hid _ := H1.out.1.trans (b2.mono hs1)
      have hone : ∀ u ∈ ([.string (dig (n5 (gs k)).val)] : List Value), u.oneCell' = true := by intro u hu; simp at hu; subst hu; rfl
      clear b2
      go_wp2_with (at_builtin; refine wpList_append_own _ rfl (.tmp 103) (.tmp 106) 27 rfl W.heap.size 29 i0 _ 1 16 Ybaf.underlying27 hi29 z0 z1 z2 rfl (by omega) _ k _ rfl ho1 ⟨W1.heap.size, 0, none⟩ 1 1 [.string (dig (n5 (gs k)).val)] rfl rfl (cell_one_new _ _ _) hone (by unfold maxLen; omega) (by omega) (Nat.le_trans hs1 hs2) ?nA)
      case nA =>
      intro v' w' hown' hgr _
      have HW : Hid (Below W.heap.size W w' ∧ w'.ownsRow W.heap.size 29 1 v' (k + 1) ((List.range (k + 1)).map (fun i => Value.string (dig (n5 (gs i)).val)))) := by
        refine ⟨HB2.out.trans (Gr_of_own ho1 hgr (Nat.le_trans hs1 hs2)), ?_⟩
        rw [List.range_succ, List.map_append]
        exact hown'
      clear hown' hgr ho1 hone HB2 H1 hs1 hs2
      go_wp2_with fail
      go_roundw
      case rel => exact ⟨k + 1, by omega, by go_num, HW⟩
      case measure => simp [intOf]; omega
    · obtain rfl : k = ng := by omega
      have hnl : ¬ ((k : Nat) : Int) < ((k : Nat) : Int) := by omega
      obtain ⟨fa, fc, rfl⟩ := own_shape hF.out.2
      have HE : Hid (Below w.heap.size w wr ∧ L3 wr dl (.slice da dl.length dc) hl (.slice ha hl.length hc) k (fun i => n5 (gs i)) (.slice fa k fc) 0 (fun _ => 0) (.slice none 0 0) ra nr rc vals ∧ ObsR wr oa n op oA oh ol ∧ U8R wr ea ne es) := by
        have v := HR.out.2.2.1.next hF.out.1
        have le := v.le
        exact ⟨HR.out.2.1.trans (hF.out.1.mono HR.out.2.1.size), ⟨v.d, v.h, rowV_of_owns hF.out.2, v.q, v.r, v.rg, v.nd, le.1, le.2.1, hng, le.2.2.2.1, le.2.2.2.2⟩, HR.out.2.2.2.1.next hF.out.1, HR.out.2.2.2.2.next hF.out.1⟩
      clear hF
      go_upto_region 11 with fail
      refine P11 w _ _ _ _ _ _ _ _ _ _ _ _ _ _ _ _ _ _ _ _ _ _ _ _ _ _ _ _ _ _ _ _ _ _ _ _ _ _ _ _ _ _ _ _ _ _ _ _ _ _ _ _ _ _ _ _ _ _ _ _ _ _ _ _ _ _ _ _ _ _ _ _ _ _ _ _ _ _ _ _ _ _ _ _ _ _ _ _ _ _ _ _ _ _ _ _ _ _ _ _ _ _ _ _ _ _ _ _ _ _ _ _ _ _ _ _ _ _ _ _ _ _ _ _ _ _ _ _ _ _ _ _ _ _ _ _ _ _ _ _ _ _ _ _ _ _ _ _ _ _ _ _ _ _ _ _ _ _ _ _ _ _ _ _ _ _ _ _ _ _ _ _ _ _ _ _ _ _ _ _ _ _ _ _ _ _ _ _ _ _ _ _ _ _ _ _ _ _ _ _ _ _ _ _ _ _ _ _ _ _ _ _ _ _ _ _ _ _ _ _ _ _ _ _ _ _ _ _ _ _ _ _ _ _ _ _ _ _ _ _ _ _ _ _ _ _ _ _ _ _ _ _ _ _ _ _ _ _ _ _ _ _ _ _ _ _ _ _ _ _ _ _ _ _ _ _ _ _ _ _ _ _ _ _ _ _ _ _ _ _ _ _ _ _ _ _ _ _ _ _ _ _ _ _ _ _ _ _ _ _ _ _ _ _ _ _ _ _ _ _ _ _ _ _ _ _ _ _ _ _ _ _ _ _ _ _ _ _ _ _ _ _ _ _ _ _ _ _ _ _ _ _ _ _ _ _ _ _ _ _ _ _ _ _ _ _ _ _ _ _ _ _ _ _ _ _ _ _ _ _ _ _ _ _ _ _ _ _ _ _ _ _ _ _ _ _ _ _ _ _ _ _ _ _ _ _ _ _ _ _ _ _ _ _ _ _ _ _ _ _ _ _ _ _ _ _ _ _ _ _ _ _ _ _ _ _ _ _ _ _ _ _ _ _ _ _ _ _ _ _ _ _ _ _ _ _ _ _ _ _ _ _ _ _ _ _ _ _ _ _ _ _ _ _ _ _ _ _ _ _ _ _ _ _ _ _ _ _ _ _ _ _ _ _ _ mn rI dl da dc hl ha hc k (fun i => n5 (gs i)) fa fc ra nr rc vals oa n oc op oA ol oh ea ne ec es _ ?_ HE.out.1 HE.out.2.1 HE.out.2.2.1 HE.out.2.2.2 hn hne hrI
      assumption
end Go.Proofs.YbulkcuegFmt
