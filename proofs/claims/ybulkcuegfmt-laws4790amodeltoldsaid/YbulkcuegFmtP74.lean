import Derived.Test.YbulkcuegFmtLaw1
import Derived.Test.YbulkcuegFmtP102
namespace Go.Proofs.YbulkcuegFmt
open Go.RowKit Go.Maps

set_option maxRecDepth 1000000 in
set_option maxHeartbeats 2000000 in
theorem P74 (w : World)
    (s0 s1 s2 s3 s4 s5 s7 s8 s9 s10 s11 s12 s13 s14 s15 s17 s18 s19 s20 s21 s22 s23 s24 s25 s26 s27 s28 s29 s30 s31 s35 s37 s38 s39 s40 s46 s47 s48 s49 s50 s52 s53 s54 s55 s56 s57 s58 s59 s60 s61 s62 s63 s64 s65 s66 s67 s68 s69 s70 s71 s72 s73 s74 s75 s76 s77 s78 s79 s80 s81 s82 s83 s84 s85 s86 s87 s88 s89 s90 s91 s92 s93 s94 s95 s96 s97 s98 s99 s100 s101 s102 s103 s104 s105 s106 s107 s108 s109 s110 s111 s112 s113 s114 s115 s116 s117 s118 s119 s120 s121 s122 s123 s124 s125 s126 s127 s128 s129 s130 s131 s132 s133 s134 s135 s136 s137 s138 s139 s140 s141 s142 s143 s144 s145 s146 s147 s148 s149 s150 s151 s152 s153 s154 s155 s156 s157 s158 s159 s160 s161 s162 s163 s164 s165 s166 s167 s168 s169 s170 s171 s172 s173 s174 s175 s176 s177 s178 s179 s180 s181 s182 s183 s184 s185 s186 s187 s188 s189 s190 s191 s192 s193 s194 s195 s196 s197 s198 s199 s200 s201 s202 s203 s204 s205 s206 s207 s208 s209 s210 s211 s212 s213 s214 s215 s216 s217 s218 s219 s220 s221 s222 s223 s224 s225 s226 s227 s228 s229 s230 s231 s232 s233 s234 s235 s236 s237 s238 s239 s240 s241 s242 s243 s244 s245 s246 s247 s248 s249 s250 s251 s252 s253 s254 s255 s256 s257 s258 s259 s260 s261 s262 s263 s264 s265 s266 s267 s268 s269 s270 s271 s272 s273 s274 s275 s276 s277 s278 s279 s280 s281 s282 s283 s284 s285 s286 s287 s288 s289 s290 s291 s292 s293 s294 s295 s296 s297 s298 s299 s300 s301 s302 s303 s304 s305 s306 s307 s308 s309 s310 s311 s312 s313 s314 s315 s316 s317 s318 s319 s320 s321 s322 s323 s324 s325 s326 s327 s328 s329 s330 s331 s332 s333 s334 s335 s336 s337 s338 s339 s340 s341 s342 s343 s344 s345 s346 s347 s348 s349 s350 s351 s352 s353 s354 s355 s356 s357 s358 s359 s360 s361 s362 s363 s364 s365 s366 s367 s368 s369 s370 s371 s372 s373 s374 s375 s376 s377 s378 s379 s380 s381 s382 s383 s384 s385 s386 s387 s388 s389 s390 s391 s392 s393 s394 s395 s396 s397 s398 s399 s400 s401 s402 s403 s404 s405 s406 s407 s408 s409 s410 s411 s412 s413 s414 s415 s416 s417 s418 s419 s420 s421 s422 s423 s424 s425 s426 s427 s428 s429 s430 s431 s432 s433 s434 s435 s436 s437 s438 s439 s440 s441 s442 s443 s444 s445 s446 s447 s448 s449 s450 s451 s452 s453 s454 s455 s456 s457 s458 s459 s460 s461 s462 s463 s464 s465 s466 s467 s468 s469 s470 s471 s472 s473 s474 s475 s476 s477 s478 s479 s480 s481 s482 s483 s484 s485 s486 s487 s488 s489 s490 s491 s492 s493 s494 s495 s496 s497 s498 s499 s500 s501 s502 : Value)
    (K : Act → World → Prop) (ks L : List (Fin 50)) (rr : Fin 50 → Int) (el : Fin 50 → Bool) (cl ho lo : Fin 50 → Int) (ca : Option Addr) (cb cc : Nat) (mca : Option Addr) (mb mcc : Nat) (mla : Option Addr) (lb mlc eb sb hb : Nat) (Q : List (Fin 50)) (rl : Fin 50 → Int) (rpd : Fin 5) (ql : Nat → Fin 5) (n15 : Nat) (mn sf : Bool) (zb : Nat) (rule : Int) (pb pc : Nat) (W : World)
    (hK : ∀ a w', Code.wp Ybaf.prog (spine 29 (Ybaf.f3.body.getD .skip)) (bodyPost Ybaf.prog Ybaf.f3 fun e w' => e = .returned (.bool true) ∧ Below w.heap.size w w') a w' → K a w')
    (B : Below w.heap.size w W) (R : LS W ks L rr el cl ho lo ca cb mca mb mla lb eb sb hb) (hks : ks.length ≤ 50) (hL : L.length ≤ 50) (hn15 : n15 ≤ 300) (hcl : Hid (∀ q, 0 ≤ cl q ∧ cl q ≤ 2)) (hz : W.heap[zb]? = some (.cells #[.int .u8 rule, .int .u8 0, .int .i64 0] 64 (0, 0))) (SQ : Hid (SelQ ks Q L rr rl rpd ql n15 mn el cl ho lo)) (hru : rule = if mn then 15 else if sf then 14 else 13) (hpc : ∀ j, j < 1 + n15 → W.cell? ⟨pb, j, none⟩ = some (.string (dig (Pl rpd ql j).val))) :
    Code.wp Ybaf.prog (headAt 28 (Ybaf.f3.body.getD .skip)) (Exit.then K (bodyPost Ybaf.prog Ybaf.f3 fun e w' => e = .returned (.bool true) ∧ Below w.heap.size w w')) ⟨List.toArray (s0 :: s1 :: s2 :: s3 :: s4 :: s5 :: .bool mn :: s7 :: s8 :: s9 :: s10 :: s11 :: s12 :: s13 :: s14 :: s15 :: .bool false :: s17 :: s18 :: s19 :: s20 :: s21 :: s22 :: s23 :: s24 :: s25 :: s26 :: s27 :: s28 :: s29 :: s30 :: s31 :: .slice ca L.length cc :: .pointer (some ⟨zb, 0, none⟩) :: .slice mca ks.length mcc :: s35 :: .slice mla ks.length mlc :: s37 :: s38 :: s39 :: s40 :: .slice (some ⟨eb, 0, none⟩) ks.length ks.length :: .slice (some ⟨sb, 0, none⟩) ks.length ks.length :: .slice (some ⟨hb, 0, none⟩) ks.length ks.length :: .bool sf :: .int .i64 ((ks.filter el).length : Nat) :: s46 :: s47 :: s48 :: s49 :: s50 :: .slice (some ⟨pb, 0, none⟩) (1 + n15) pc :: s52 :: s53 :: s54 :: s55 :: s56 :: s57 :: s58 :: s59 :: s60 :: s61 :: s62 :: s63 :: s64 :: s65 :: s66 :: s67 :: s68 :: s69 :: s70 :: s71 :: s72 :: s73 :: s74 :: s75 :: s76 :: s77 :: s78 :: s79 :: s80 :: s81 :: s82 :: s83 :: s84 :: s85 :: s86 :: s87 :: s88 :: s89 :: s90 :: s91 :: s92 :: s93 :: s94 :: s95 :: s96 :: s97 :: s98 :: s99 :: s100 :: s101 :: s102 :: s103 :: s104 :: s105 :: s106 :: s107 :: s108 :: s109 :: s110 :: s111 :: s112 :: s113 :: s114 :: s115 :: s116 :: s117 :: s118 :: s119 :: s120 :: s121 :: s122 :: s123 :: s124 :: s125 :: s126 :: s127 :: s128 :: s129 :: s130 :: s131 :: s132 :: s133 :: s134 :: s135 :: s136 :: s137 :: s138 :: s139 :: s140 :: s141 :: s142 :: s143 :: s144 :: s145 :: s146 :: s147 :: s148 :: s149 :: s150 :: s151 :: s152 :: s153 :: s154 :: s155 :: s156 :: s157 :: s158 :: s159 :: s160 :: s161 :: s162 :: s163 :: s164 :: s165 :: s166 :: s167 :: s168 :: s169 :: s170 :: s171 :: s172 :: s173 :: s174 :: s175 :: s176 :: s177 :: s178 :: s179 :: s180 :: s181 :: s182 :: s183 :: s184 :: s185 :: s186 :: s187 :: s188 :: s189 :: s190 :: s191 :: s192 :: s193 :: s194 :: s195 :: s196 :: s197 :: s198 :: s199 :: s200 :: s201 :: s202 :: s203 :: s204 :: s205 :: s206 :: s207 :: s208 :: s209 :: s210 :: s211 :: s212 :: s213 :: s214 :: s215 :: s216 :: s217 :: s218 :: s219 :: s220 :: s221 :: s222 :: s223 :: s224 :: s225 :: s226 :: s227 :: s228 :: s229 :: s230 :: s231 :: s232 :: s233 :: s234 :: s235 :: s236 :: s237 :: s238 :: s239 :: s240 :: s241 :: s242 :: s243 :: s244 :: s245 :: s246 :: s247 :: s248 :: s249 :: s250 :: s251 :: s252 :: s253 :: s254 :: s255 :: s256 :: s257 :: s258 :: s259 :: s260 :: s261 :: s262 :: s263 :: s264 :: s265 :: s266 :: s267 :: s268 :: s269 :: s270 :: s271 :: s272 :: s273 :: s274 :: s275 :: s276 :: s277 :: s278 :: s279 :: s280 :: s281 :: s282 :: s283 :: s284 :: s285 :: s286 :: s287 :: s288 :: s289 :: s290 :: s291 :: s292 :: s293 :: s294 :: s295 :: s296 :: s297 :: s298 :: s299 :: s300 :: s301 :: s302 :: s303 :: s304 :: s305 :: s306 :: s307 :: s308 :: s309 :: s310 :: s311 :: s312 :: s313 :: s314 :: s315 :: s316 :: s317 :: s318 :: s319 :: s320 :: s321 :: s322 :: s323 :: s324 :: s325 :: s326 :: s327 :: s328 :: s329 :: s330 :: s331 :: s332 :: s333 :: s334 :: s335 :: s336 :: s337 :: s338 :: s339 :: s340 :: s341 :: s342 :: s343 :: s344 :: s345 :: s346 :: s347 :: s348 :: s349 :: s350 :: s351 :: s352 :: s353 :: s354 :: s355 :: s356 :: s357 :: s358 :: s359 :: s360 :: s361 :: s362 :: s363 :: s364 :: s365 :: s366 :: s367 :: s368 :: s369 :: s370 :: s371 :: s372 :: s373 :: s374 :: s375 :: s376 :: s377 :: s378 :: s379 :: s380 :: s381 :: s382 :: s383 :: s384 :: s385 :: s386 :: s387 :: s388 :: s389 :: s390 :: s391 :: s392 :: s393 :: s394 :: s395 :: s396 :: s397 :: s398 :: s399 :: s400 :: s401 :: s402 :: s403 :: s404 :: s405 :: s406 :: s407 :: s408 :: s409 :: s410 :: s411 :: s412 :: s413 :: s414 :: s415 :: s416 :: s417 :: s418 :: s419 :: s420 :: s421 :: s422 :: s423 :: s424 :: s425 :: s426 :: s427 :: s428 :: s429 :: s430 :: s431 :: s432 :: s433 :: s434 :: s435 :: s436 :: s437 :: s438 :: s439 :: s440 :: s441 :: s442 :: s443 :: s444 :: s445 :: s446 :: s447 :: s448 :: s449 :: s450 :: s451 :: s452 :: s453 :: s454 :: s455 :: s456 :: s457 :: s458 :: s459 :: s460 :: s461 :: s462 :: s463 :: s464 :: s465 :: s466 :: s467 :: s468 :: s469 :: s470 :: s471 :: s472 :: s473 :: s474 :: s475 :: s476 :: s477 :: s478 :: s479 :: s480 :: s481 :: s482 :: s483 :: s484 :: s485 :: s486 :: s487 :: s488 :: s489 :: s490 :: s491 :: s492 :: s493 :: s494 :: s495 :: s496 :: s497 :: s498 :: s499 :: s500 :: s501 :: s502 :: []), []⟩ W := by
  conv => arg 2; whnf
  conv at hK => enter [a, w', 1, 2]; whnf
  have b1 := bal (o := .cells #[.string ⟨#[]⟩] 29) (Below.refl _ W)
  have hz1 := (MapKept.heap_alloc W (.cells #[.string ⟨#[]⟩] 29)).1
  have HR : Hid _ := And.intro R (And.intro B hpc)
  have HZ : Hid _ := hz
  clear R B hpc hz
  go_upto_region 77 with fail
  generalize W.alloc (.cells #[.string ⟨#[]⟩] 29) = W1 at b1 hz1 ⊢
  obtain ⟨fb, hfb⟩ : ∃ fb, fb = W.heap.size := ⟨_, rfl⟩
  rw [← hfb] at hz1 ⊢
  have HFB : Hid _ := hfb
  have HB1 : Hid _ := b1
  have HZ1 : Hid _ := hz1
  clear hfb b1 hz1
  have HLS : Hid (∀ wx, (∀ b, b < W.heap.size → wx.heap[b]? = W.heap[b]?) → LS wx ks L rr el cl ho lo ca cb mca mb mla lb eb sb hb) := fun wx hg => HR.out.1.keep hg
  go_wp2_with fail
  go_loopw [321, 53, 54] (fun vi v53 v54 wr => ∃ i : Nat, i ≤ 1 + n15 ∧ vi = .int .i64 i ∧ v53 = .int .u8 0 ∧ v54 = .int .i64 0 ∧ Below W1.heap.size W1 wr ∧ Hid (∀ j, j < i → cnt ks el (Pl rpd ql j) = 0)) (fun vi _ _ _ => 1 + n15 - (intOf vi).toNat)
  case atStart => exact ⟨0, Nat.zero_le _, rfl, rfl, rfl, Below.refl _ _, fun j hj => absurd hj (by omega)⟩
  case round =>
    obtain ⟨i, hi, rfl, rfl, rfl, hbw, hno⟩ := hrel
    have HBW : Hid _ := hbw
    clear hbw
    have HKP : Hid (∀ b, b < W.heap.size → wr.heap[b]? = W.heap[b]?) := fun b hb => (HBW.out.block b (Nat.lt_of_lt_of_le hb HB1.out.size)).trans (HB1.out.block b hb)
    by_cases hin : i < 1 + n15
    · have hin' : (i : Int) < 1 + (n15 : Int) := by omega
      obtain ⟨p, hp⟩ : ∃ p, Pl rpd ql i = p := ⟨_, rfl⟩
      have e0 : wr.cell? ⟨pb, i, none⟩ = some (.string (dig p.val)) := by
        have h := HR.out.2.2 i hin
        rw [hp] at h
        exact (World.cell?_of_block (w := W) (a := ⟨pb, i, none⟩) (HKP.out pb (lt_of_cell h))).trans h
      have HP : Hid _ := hp
      clear hp
      have b2 := bal (o := .cells #[.string (dig p.val)] 29) (Below.refl _ wr)
      have hz2 := (MapKept.heap_alloc wr (.cells #[.string (dig p.val)] 29)).1
      go_upto_region 81 with fail
      generalize wr.alloc (.cells #[.string (dig p.val)] 29) = W2 at b2 hz2 ⊢
      generalize wr.heap.size = pk at hz2 ⊢
      have HB2 : Hid (Below W1.heap.size W1 W2) := HBW.out.trans (b2.mono HBW.out.size)
      have HK2 : Hid (∀ b, b < W.heap.size → W2.heap[b]? = W.heap[b]?) := fun b hb => (HB2.out.block b (Nat.lt_of_lt_of_le hb HB1.out.size)).trans (HB1.out.block b hb)
      have HZ2 : Hid _ := hz2
      clear b2 hz2 HKP HBW e0
      go_wp2_with fail
      go_loopw [328, 57] (fun vk v57 wx => ∃ k : Nat, k ≤ ks.length ∧ vk = .int .i64 k ∧ v57 = .int .i64 (cntT ks el p k : Nat) ∧ Below W2.heap.size W2 wx) (fun vk _ _ => ks.length - (intOf vk).toNat)
      case atStart => exact ⟨0, Nat.zero_le _, rfl, by rw [cntT_zero]; rfl, Below.refl _ _⟩
      case round =>
        obtain ⟨k, hk, rfl, rfl, hbx⟩ := hrel
        have hcl2 := cntT_le ks el p k
        by_cases hkn : k < ks.length
        · have hkn' : (k : Int) < (ks.length : Int) := by omega
          have hk0 : (0 : Int) ≤ (k : Int) := by omega
          have R := HLS.out wr (fun b hb => (hbx.block b (Nat.lt_of_lt_of_le (Nat.lt_of_lt_of_le hb HB1.out.size) HB2.out.size)).trans (HK2.out b hb))
          obtain rfl := R.mca (by omega)
          obtain ⟨q, hq⟩ : ∃ q, ks.getD k 0 = q := ⟨_, rfl⟩
          have c0 : wr.cell? ⟨eb, k, none⟩ = some (.bool (el q)) := by rw [R.e k hkn, hq]
          have c1 : wr.cell? ⟨mb, k * 2, none⟩ = some (.string (kd q)) := by rw [(R.m k hkn).1, hq]
          have c2 : wr.cell? ⟨pk, 0, none⟩ = some (.string (dig p.val)) := cell_of ((hbx.block pk (lt_of_heap HZ2.out)).trans HZ2.out) rfl
          have HQ : Hid _ := hq
          have HBX : Hid _ := hbx
          clear hq hbx R
          have hw : IntKind.i64.wrap (((cntT ks el p k : Nat) : Int) + 1) = ((cntT ks el p k + 1 : Nat) : Int) := by rw [IntKind.wrap_i64]; omega
          cases hel : el q
          · have HS : Hid (cntT ks el p (k + 1) = cntT ks el p k) := cntT_no hkn (by rw [HQ.out, hel]; rfl)
            rw [hel] at c0
            go_wp2_with fail
            go_quiet (fail)
            go_wp2_with fail
            go_roundw
            case rel => exact ⟨k + 1, by omega, by go_num, by rw [HS.out], HBX.out.trans ((by repeat (first | exact Below.refl _ _ | refine bdrew ?_ _) : Below wr.heap.size wr _).mono HBX.out.size)⟩
            case measure => simp [intOf]; omega
          · rw [hel] at c0
            have z1 := fun w => eq29k q p w
            cases hd : decide (nt q = p)
            · have HS : Hid (cntT ks el p (k + 1) = cntT ks el p k) := cntT_no hkn (by rw [HQ.out, hel, hd]; rfl)
              rw [hd] at z1
              clear hd
              go_wp2_with fail
              go_quiet (fail)
              go_wp2_with fail
              go_roundw
              case rel => exact ⟨k + 1, by omega, by go_num, by rw [HS.out], HBX.out.trans ((by repeat (first | exact Below.refl _ _ | refine bdrew ?_ _) : Below wr.heap.size wr _).mono HBX.out.size)⟩
              case measure => simp [intOf]; omega
            · have HS : Hid (cntT ks el p (k + 1) = cntT ks el p k + 1) := cntT_yes hkn (by rw [HQ.out, hel, hd]; rfl)
              rw [hd] at z1
              clear hd
              go_wp2_with fail
              go_quiet (fail)
              go_wp2_with fail
              go_roundw
              case rel => exact ⟨k + 1, by omega, by go_num, by rw [HS.out]; first | rfl | (congr 1), HBX.out.trans ((by repeat (first | exact Below.refl _ _ | refine bdrew ?_ _) : Below wr.heap.size wr _).mono HBX.out.size)⟩
              case measure => simp [intOf]; omega
        · obtain rfl : k = ks.length := by omega
          have hnl : ¬ ((ks.length : Nat) : Int) < ((ks.length : Nat) : Int) := by omega
          have HC : Hid (cntT ks el p ks.length = cnt ks el p) := cntT_all ks el p
          rw [HC.out]
          have hcle : cnt ks el p ≤ ks.length := by rw [← HC.out]; exact cntT_le ks el p _
          have HB3 : Hid (Below W1.heap.size W1 wr) := HB2.out.trans (hbx.mono HB2.out.size)
          have hZ3 : wr.heap[pk]? = _ := (hbx.block pk (lt_of_heap HZ2.out)).trans HZ2.out
          have c2 : wr.cell? ⟨pk, 0, none⟩ = some (.string (dig p.val)) := cell_of hZ3 rfl
          have HBX : Hid _ := hbx
          clear hbx hZ3 hcl2 hk
          by_cases h0 : 0 < cnt ks el p
          · have h0' : ((cnt ks el p : Nat) : Int) > 0 := by omega
            have HF := SQ.out.found hin hno.out (by rw [HP.out]; exact h0)
            have k3 : wr.heap[fb]? = some (.cells #[.string ⟨#[]⟩] 29 (0, 0)) := (HB3.out.block fb (lt_of_heap HZ1.out)).trans HZ1.out
            have c3 : wr.cell? ⟨fb, 0, none⟩ = some (.string ⟨#[]⟩) := cell_of k3 rfl
            have c4 : wr.frozen? ⟨fb, 0, none⟩ = false := fz_of k3
            have HKP : Hid (∀ b, b < W.heap.size → (wr.setCell ⟨fb, 0, none⟩ (.string (dig p.val))).heap[b]? = W.heap[b]?) := fun b hb => (Below.heap_setCell _ _ _ _ (fun e => by rw [e, HFB.out] at hb; exact Nat.lt_irrefl _ hb)).trans ((HB3.out.block b (Nat.lt_of_lt_of_le hb HB1.out.size)).trans (HB1.out.block b hb))
            have kf : (wr.setCell ⟨fb, 0, none⟩ (.string (dig p.val))).cell? ⟨fb, 0, none⟩ = some (.string (dig p.val)) := cell_of (heap_set _ k3) rfl
            have HBB : Hid (Below w.heap.size w (wr.setCell ⟨fb, 0, none⟩ (.string (dig p.val)))) := by
              have hB := HR.out.2.1
              exact ⟨HB3.out.os.trans (HB1.out.os.trans hB.os), HB3.out.tape.trans (HB1.out.tape.trans hB.tape), HB3.out.output.trans (HB1.out.output.trans hB.output), by simpa [World.setCell] using Nat.le_trans hB.size (Nat.le_trans HB1.out.size HB3.out.size), fun b hb => (HKP.out b (Nat.lt_of_lt_of_le hb hB.size)).trans (hB.block b hb)⟩
            rw [HP.out] at HF
            have HX0 : Hid _ := And.intro HBB.out (And.intro (HLS.out _ HKP.out) (And.intro HF.1 (And.intro kf (fun _ : 0 < cnt ks el p => (rfl : dig p.val = dig p.val)))))
            have HY : Hid _ := HF.2
            have hzz := (HKP.out zb (lt_of_heap HZ.out)).trans HZ.out
            clear HF k3 kf
            by_cases hi0 : i = 0
            · subst hi0
              have HX : Hid (Below w.heap.size w (wr.setCell ⟨fb, 0, none⟩ (.string (dig p.val))) ∧ LS (wr.setCell ⟨fb, 0, none⟩ (.string (dig p.val))) ks L rr el cl ho lo ca cb mca mb mla lb eb sb hb ∧ Chk ks L rr (cnt ks el p) p 6 el cl ho lo ∧ (wr.setCell ⟨fb, 0, none⟩ (.string (dig p.val))).cell? ⟨fb, 0, none⟩ = some (.string (dig p.val)) ∧ (0 < cnt ks el p → dig p.val = dig p.val)) := HX0.out
              clear HX0
              go_upto_region 94 with fail
              generalize wr.setCell ⟨fb, 0, none⟩ (.string (dig p.val)) = WX at HX hzz ⊢
              have z0 : WX.cell? ⟨zb, 0, none⟩ = some (.int .u8 rule) := cell_of hzz rfl
              have z1 : WX.cell? ⟨zb, 1, none⟩ = some (.int .u8 0) := cell_of hzz rfl
              have z2 : WX.cell? ⟨zb, 2, none⟩ = some (.int .i64 0) := cell_of hzz rfl
              clear c2 c3 c4 hzz
              cases mn
              · have hlen : (L.length : Int) = (((ks.filter el).length : Nat) : Int) := by have := HY.out.2 rfl; omega
                cases sf
                · obtain rfl := hru
                  go_upto_region 102 with fail
                  refine P102 w _ _ _ _ _ _ _ _ _ _ _ _ _ _ _ _ _ _ _ _ _ _ _ _ _ _ _ _ _ _ _ _ _ _ _ _ _ _ _ _ _ _ _ _ _ _ _ _ _ _ _ _ _ _ _ _ _ _ _ _ _ _ _ _ _ _ _ _ _ _ _ _ _ _ _ _ _ _ _ _ _ _ _ _ _ _ _ _ _ _ _ _ _ _ _ _ _ _ _ _ _ _ _ _ _ _ _ _ _ _ _ _ _ _ _ _ _ _ _ _ _ _ _ _ _ _ _ _ _ _ _ _ _ _ _ _ _ _ _ _ _ _ _ _ _ _ _ _ _ _ _ _ _ _ _ _ _ _ _ _ _ _ _ _ _ _ _ _ _ _ _ _ _ _ _ _ _ _ _ _ _ _ _ _ _ _ _ _ _ _ _ _ _ _ _ _ _ _ _ _ _ _ _ _ _ _ _ _ _ _ _ _ _ _ _ _ _ _ _ _ _ _ _ _ _ _ _ _ _ _ _ _ _ _ _ _ _ _ _ _ _ _ _ _ _ _ _ _ _ _ _ _ _ _ _ _ _ _ _ _ _ _ _ _ _ _ _ _ _ _ _ _ _ _ _ _ _ _ _ _ _ _ _ _ _ _ _ _ _ _ _ _ _ _ _ _ _ _ _ _ _ _ _ _ _ _ _ _ _ _ _ _ _ _ _ _ _ _ _ _ _ _ _ _ _ _ _ _ _ _ _ _ _ _ _ _ _ _ _ _ _ _ _ _ _ _ _ _ _ _ _ _ _ _ _ _ _ _ _ _ _ _ _ _ _ _ _ _ _ _ _ _ _ _ _ _ _ _ _ _ _ _ _ _ _ _ _ _ _ _ _ _ _ _ _ _ _ _ _ _ _ _ _ _ _ _ _ _ _ _ _ _ _ _ _ _ _ _ _ _ _ _ _ _ _ _ _ _ _ _ _ _ _ _ _ _ _ _ _ _ _ _ _ _ _ _ _ _ _ _ _ _ _ _ _ _ _ _ _ _ _ _ _ _ _ _ _ _ _ _ _ _ _ _ _ _ _ _ _ _ _ _ _ _ _ _ _ _ _ _ _ _ _ _ ks L rr (cnt ks el p) (p) (6) el cl ho lo ca cb cc mca mb mcc mla lb mlc eb sb hb fb (dig p.val) _ ?_ HX.out.1 HX.out.2.1 HX.out.2.2.1 HX.out.2.2.2.1 HX.out.2.2.2.2 hks hL hcl
                  assumption
                · obtain rfl := hru
                  go_upto_region 102 with fail
                  refine P102 w _ _ _ _ _ _ _ _ _ _ _ _ _ _ _ _ _ _ _ _ _ _ _ _ _ _ _ _ _ _ _ _ _ _ _ _ _ _ _ _ _ _ _ _ _ _ _ _ _ _ _ _ _ _ _ _ _ _ _ _ _ _ _ _ _ _ _ _ _ _ _ _ _ _ _ _ _ _ _ _ _ _ _ _ _ _ _ _ _ _ _ _ _ _ _ _ _ _ _ _ _ _ _ _ _ _ _ _ _ _ _ _ _ _ _ _ _ _ _ _ _ _ _ _ _ _ _ _ _ _ _ _ _ _ _ _ _ _ _ _ _ _ _ _ _ _ _ _ _ _ _ _ _ _ _ _ _ _ _ _ _ _ _ _ _ _ _ _ _ _ _ _ _ _ _ _ _ _ _ _ _ _ _ _ _ _ _ _ _ _ _ _ _ _ _ _ _ _ _ _ _ _ _ _ _ _ _ _ _ _ _ _ _ _ _ _ _ _ _ _ _ _ _ _ _ _ _ _ _ _ _ _ _ _ _ _ _ _ _ _ _ _ _ _ _ _ _ _ _ _ _ _ _ _ _ _ _ _ _ _ _ _ _ _ _ _ _ _ _ _ _ _ _ _ _ _ _ _ _ _ _ _ _ _ _ _ _ _ _ _ _ _ _ _ _ _ _ _ _ _ _ _ _ _ _ _ _ _ _ _ _ _ _ _ _ _ _ _ _ _ _ _ _ _ _ _ _ _ _ _ _ _ _ _ _ _ _ _ _ _ _ _ _ _ _ _ _ _ _ _ _ _ _ _ _ _ _ _ _ _ _ _ _ _ _ _ _ _ _ _ _ _ _ _ _ _ _ _ _ _ _ _ _ _ _ _ _ _ _ _ _ _ _ _ _ _ _ _ _ _ _ _ _ _ _ _ _ _ _ _ _ _ _ _ _ _ _ _ _ _ _ _ _ _ _ _ _ _ _ _ _ _ _ _ _ _ _ _ _ _ _ _ _ _ _ _ _ _ _ _ _ _ _ _ _ _ _ _ _ _ _ _ _ _ _ _ _ _ _ _ _ _ _ _ _ _ _ _ _ _ _ _ _ _ _ _ _ _ _ _ _ _ _ _ ks L rr (cnt ks el p) (p) (6) el cl ho lo ca cb cc mca mb mcc mla lb mlc eb sb hb fb (dig p.val) _ ?_ HX.out.1 HX.out.2.1 HX.out.2.2.1 HX.out.2.2.2.1 HX.out.2.2.2.2 hks hL hcl
                  assumption
              · have hlen : (L.length : Int) = ((cnt ks el p : Nat) : Int) := by have := HY.out.1 rfl; omega
                obtain rfl := hru
                go_upto_region 102 with fail
                refine P102 w _ _ _ _ _ _ _ _ _ _ _ _ _ _ _ _ _ _ _ _ _ _ _ _ _ _ _ _ _ _ _ _ _ _ _ _ _ _ _ _ _ _ _ _ _ _ _ _ _ _ _ _ _ _ _ _ _ _ _ _ _ _ _ _ _ _ _ _ _ _ _ _ _ _ _ _ _ _ _ _ _ _ _ _ _ _ _ _ _ _ _ _ _ _ _ _ _ _ _ _ _ _ _ _ _ _ _ _ _ _ _ _ _ _ _ _ _ _ _ _ _ _ _ _ _ _ _ _ _ _ _ _ _ _ _ _ _ _ _ _ _ _ _ _ _ _ _ _ _ _ _ _ _ _ _ _ _ _ _ _ _ _ _ _ _ _ _ _ _ _ _ _ _ _ _ _ _ _ _ _ _ _ _ _ _ _ _ _ _ _ _ _ _ _ _ _ _ _ _ _ _ _ _ _ _ _ _ _ _ _ _ _ _ _ _ _ _ _ _ _ _ _ _ _ _ _ _ _ _ _ _ _ _ _ _ _ _ _ _ _ _ _ _ _ _ _ _ _ _ _ _ _ _ _ _ _ _ _ _ _ _ _ _ _ _ _ _ _ _ _ _ _ _ _ _ _ _ _ _ _ _ _ _ _ _ _ _ _ _ _ _ _ _ _ _ _ _ _ _ _ _ _ _ _ _ _ _ _ _ _ _ _ _ _ _ _ _ _ _ _ _ _ _ _ _ _ _ _ _ _ _ _ _ _ _ _ _ _ _ _ _ _ _ _ _ _ _ _ _ _ _ _ _ _ _ _ _ _ _ _ _ _ _ _ _ _ _ _ _ _ _ _ _ _ _ _ _ _ _ _ _ _ _ _ _ _ _ _ _ _ _ _ _ _ _ _ _ _ _ _ _ _ _ _ _ _ _ _ _ _ _ _ _ _ _ _ _ _ _ _ _ _ _ _ _ _ _ _ _ _ _ _ _ _ _ _ _ _ _ _ _ _ _ _ _ _ _ _ _ _ _ _ _ _ _ _ _ _ _ _ _ _ _ _ _ _ _ _ _ _ _ _ _ _ _ _ _ _ _ _ _ _ _ _ _ _ _ _ _ _ _ _ _ _ ks L rr (cnt ks el p) (p) (6) el cl ho lo ca cb cc mca mb mcc mla lb mlc eb sb hb fb (dig p.val) _ ?_ HX.out.1 HX.out.2.1 HX.out.2.2.1 HX.out.2.2.2.1 HX.out.2.2.2.2 hks hL hcl
                assumption

            · have hi0' : ¬ (i : Int) = 0 := by omega
              have HX : Hid (Below w.heap.size w (wr.setCell ⟨fb, 0, none⟩ (.string (dig p.val))) ∧ LS (wr.setCell ⟨fb, 0, none⟩ (.string (dig p.val))) ks L rr el cl ho lo ca cb mca mb mla lb eb sb hb ∧ Chk ks L rr (cnt ks el p) p 7 el cl ho lo ∧ (wr.setCell ⟨fb, 0, none⟩ (.string (dig p.val))).cell? ⟨fb, 0, none⟩ = some (.string (dig p.val)) ∧ (0 < cnt ks el p → dig p.val = dig p.val)) := by
                have h := HX0.out
                rw [if_neg hi0] at h
                exact h
              clear HX0
              go_upto_region 94 with fail
              generalize wr.setCell ⟨fb, 0, none⟩ (.string (dig p.val)) = WX at HX hzz ⊢
              have z0 : WX.cell? ⟨zb, 0, none⟩ = some (.int .u8 rule) := cell_of hzz rfl
              have z1 : WX.cell? ⟨zb, 1, none⟩ = some (.int .u8 0) := cell_of hzz rfl
              have z2 : WX.cell? ⟨zb, 2, none⟩ = some (.int .i64 0) := cell_of hzz rfl
              clear c2 c3 c4 hzz
              cases mn
              · have hlen : (L.length : Int) = (((ks.filter el).length : Nat) : Int) := by have := HY.out.2 rfl; omega
                cases sf
                · obtain rfl := hru
                  go_upto_region 102 with fail
                  refine P102 w _ _ _ _ _ _ _ _ _ _ _ _ _ _ _ _ _ _ _ _ _ _ _ _ _ _ _ _ _ _ _ _ _ _ _ _ _ _ _ _ _ _ _ _ _ _ _ _ _ _ _ _ _ _ _ _ _ _ _ _ _ _ _ _ _ _ _ _ _ _ _ _ _ _ _ _ _ _ _ _ _ _ _ _ _ _ _ _ _ _ _ _ _ _ _ _ _ _ _ _ _ _ _ _ _ _ _ _ _ _ _ _ _ _ _ _ _ _ _ _ _ _ _ _ _ _ _ _ _ _ _ _ _ _ _ _ _ _ _ _ _ _ _ _ _ _ _ _ _ _ _ _ _ _ _ _ _ _ _ _ _ _ _ _ _ _ _ _ _ _ _ _ _ _ _ _ _ _ _ _ _ _ _ _ _ _ _ _ _ _ _ _ _ _ _ _ _ _ _ _ _ _ _ _ _ _ _ _ _ _ _ _ _ _ _ _ _ _ _ _ _ _ _ _ _ _ _ _ _ _ _ _ _ _ _ _ _ _ _ _ _ _ _ _ _ _ _ _ _ _ _ _ _ _ _ _ _ _ _ _ _ _ _ _ _ _ _ _ _ _ _ _ _ _ _ _ _ _ _ _ _ _ _ _ _ _ _ _ _ _ _ _ _ _ _ _ _ _ _ _ _ _ _ _ _ _ _ _ _ _ _ _ _ _ _ _ _ _ _ _ _ _ _ _ _ _ _ _ _ _ _ _ _ _ _ _ _ _ _ _ _ _ _ _ _ _ _ _ _ _ _ _ _ _ _ _ _ _ _ _ _ _ _ _ _ _ _ _ _ _ _ _ _ _ _ _ _ _ _ _ _ _ _ _ _ _ _ _ _ _ _ _ _ _ _ _ _ _ _ _ _ _ _ _ _ _ _ _ _ _ _ _ _ _ _ _ _ _ _ _ _ _ _ _ _ _ _ _ _ _ _ _ _ _ _ _ _ _ _ _ _ _ _ _ _ _ _ _ _ _ _ _ _ _ _ _ _ _ _ _ _ _ _ _ _ _ _ _ _ _ _ _ _ _ _ _ _ _ _ _ _ _ _ _ _ _ _ _ _ _ _ _ _ _ ks L rr (cnt ks el p) (p) (7) el cl ho lo ca cb cc mca mb mcc mla lb mlc eb sb hb fb (dig p.val) _ ?_ HX.out.1 HX.out.2.1 HX.out.2.2.1 HX.out.2.2.2.1 HX.out.2.2.2.2 hks hL hcl
                  assumption
                · obtain rfl := hru
                  go_upto_region 102 with fail
                  refine P102 w _ _ _ _ _ _ _ _ _ _ _ _ _ _ _ _ _ _ _ _ _ _ _ _ _ _ _ _ _ _ _ _ _ _ _ _ _ _ _ _ _ _ _ _ _ _ _ _ _ _ _ _ _ _ _ _ _ _ _ _ _ _ _ _ _ _ _ _ _ _ _ _ _ _ _ _ _ _ _ _ _ _ _ _ _ _ _ _ _ _ _ _ _ _ _ _ _ _ _ _ _ _ _ _ _ _ _ _ _ _ _ _ _ _ _ _ _ _ _ _ _ _ _ _ _ _ _ _ _ _ _ _ _ _ _ _ _ _ _ _ _ _ _ _ _ _ _ _ _ _ _ _ _ _ _ _ _ _ _ _ _ _ _ _ _ _ _ _ _ _ _ _ _ _ _ _ _ _ _ _ _ _ _ _ _ _ _ _ _ _ _ _ _ _ _ _ _ _ _ _ _ _ _ _ _ _ _ _ _ _ _ _ _ _ _ _ _ _ _ _ _ _ _ _ _ _ _ _ _ _ _ _ _ _ _ _ _ _ _ _ _ _ _ _ _ _ _ _ _ _ _ _ _ _ _ _ _ _ _ _ _ _ _ _ _ _ _ _ _ _ _ _ _ _ _ _ _ _ _ _ _ _ _ _ _ _ _ _ _ _ _ _ _ _ _ _ _ _ _ _ _ _ _ _ _ _ _ _ _ _ _ _ _ _ _ _ _ _ _ _ _ _ _ _ _ _ _ _ _ _ _ _ _ _ _ _ _ _ _ _ _ _ _ _ _ _ _ _ _ _ _ _ _ _ _ _ _ _ _ _ _ _ _ _ _ _ _ _ _ _ _ _ _ _ _ _ _ _ _ _ _ _ _ _ _ _ _ _ _ _ _ _ _ _ _ _ _ _ _ _ _ _ _ _ _ _ _ _ _ _ _ _ _ _ _ _ _ _ _ _ _ _ _ _ _ _ _ _ _ _ _ _ _ _ _ _ _ _ _ _ _ _ _ _ _ _ _ _ _ _ _ _ _ _ _ _ _ _ _ _ _ _ _ _ _ _ _ _ _ _ _ _ _ _ _ _ _ _ _ _ _ _ _ _ _ _ _ _ _ _ _ _ _ _ ks L rr (cnt ks el p) (p) (7) el cl ho lo ca cb cc mca mb mcc mla lb mlc eb sb hb fb (dig p.val) _ ?_ HX.out.1 HX.out.2.1 HX.out.2.2.1 HX.out.2.2.2.1 HX.out.2.2.2.2 hks hL hcl
                  assumption
              · have hlen : (L.length : Int) = ((cnt ks el p : Nat) : Int) := by have := HY.out.1 rfl; omega
                obtain rfl := hru
                go_upto_region 102 with fail
                refine P102 w _ _ _ _ _ _ _ _ _ _ _ _ _ _ _ _ _ _ _ _ _ _ _ _ _ _ _ _ _ _ _ _ _ _ _ _ _ _ _ _ _ _ _ _ _ _ _ _ _ _ _ _ _ _ _ _ _ _ _ _ _ _ _ _ _ _ _ _ _ _ _ _ _ _ _ _ _ _ _ _ _ _ _ _ _ _ _ _ _ _ _ _ _ _ _ _ _ _ _ _ _ _ _ _ _ _ _ _ _ _ _ _ _ _ _ _ _ _ _ _ _ _ _ _ _ _ _ _ _ _ _ _ _ _ _ _ _ _ _ _ _ _ _ _ _ _ _ _ _ _ _ _ _ _ _ _ _ _ _ _ _ _ _ _ _ _ _ _ _ _ _ _ _ _ _ _ _ _ _ _ _ _ _ _ _ _ _ _ _ _ _ _ _ _ _ _ _ _ _ _ _ _ _ _ _ _ _ _ _ _ _ _ _ _ _ _ _ _ _ _ _ _ _ _ _ _ _ _ _ _ _ _ _ _ _ _ _ _ _ _ _ _ _ _ _ _ _ _ _ _ _ _ _ _ _ _ _ _ _ _ _ _ _ _ _ _ _ _ _ _ _ _ _ _ _ _ _ _ _ _ _ _ _ _ _ _ _ _ _ _ _ _ _ _ _ _ _ _ _ _ _ _ _ _ _ _ _ _ _ _ _ _ _ _ _ _ _ _ _ _ _ _ _ _ _ _ _ _ _ _ _ _ _ _ _ _ _ _ _ _ _ _ _ _ _ _ _ _ _ _ _ _ _ _ _ _ _ _ _ _ _ _ _ _ _ _ _ _ _ _ _ _ _ _ _ _ _ _ _ _ _ _ _ _ _ _ _ _ _ _ _ _ _ _ _ _ _ _ _ _ _ _ _ _ _ _ _ _ _ _ _ _ _ _ _ _ _ _ _ _ _ _ _ _ _ _ _ _ _ _ _ _ _ _ _ _ _ _ _ _ _ _ _ _ _ _ _ _ _ _ _ _ _ _ _ _ _ _ _ _ _ _ _ _ _ _ _ _ _ _ _ _ _ _ _ _ _ _ _ _ _ _ _ _ _ _ _ _ _ _ _ _ _ _ ks L rr (cnt ks el p) (p) (7) el cl ho lo ca cb cc mca mb mcc mla lb mlc eb sb hb fb (dig p.val) _ ?_ HX.out.1 HX.out.2.1 HX.out.2.2.1 HX.out.2.2.2.1 HX.out.2.2.2.2 hks hL hcl
                assumption

          · have h0' : ¬ ((cnt ks el p : Nat) : Int) > 0 := by omega
            have HN : Hid (∀ j, j < i + 1 → cnt ks el (Pl rpd ql j) = 0) := fun j hj => by
              by_cases e : j = i
              · rw [e, HP.out]; omega
              · exact hno.out j (by omega)
            clear c2
            go_wp2_with fail
            go_roundw
            case rel => exact ⟨i + 1, by omega, by go_num, rfl, rfl, HB3.out, HN.out⟩
            case measure => simp [intOf]; omega
    · obtain rfl : i = 1 + n15 := by omega
      have hnl : ¬ (1 + (n15 : Int)) < (1 + (n15 : Int)) := by omega
      have HF := SQ.out.none hno.out rpd 0
      have kf : wr.cell? ⟨fb, 0, none⟩ = some (.string ⟨#[]⟩) := cell_of ((HBW.out.block fb (lt_of_heap HZ1.out)).trans HZ1.out) rfl
      have hB := HR.out.2.1
      have HX : Hid (Below w.heap.size w wr ∧ LS wr ks L rr el cl ho lo ca cb mca mb mla lb eb sb hb ∧ Chk ks L rr 0 rpd 0 el cl ho lo ∧ wr.cell? ⟨fb, 0, none⟩ = some (.string ⟨#[]⟩) ∧ (0 < 0 → (⟨#[]⟩ : ByteArray) = dig rpd.val)) := ⟨⟨HBW.out.os.trans (HB1.out.os.trans hB.os), HBW.out.tape.trans (HB1.out.tape.trans hB.tape), HBW.out.output.trans (HB1.out.output.trans hB.output), Nat.le_trans hB.size (Nat.le_trans HB1.out.size HBW.out.size), fun b hb => (HKP.out b (Nat.lt_of_lt_of_le hb hB.size)).trans (hB.block b hb)⟩, HLS.out _ HKP.out, HF.1, kf, fun h => absurd h (by omega)⟩
      have HY : Hid _ := HF.2
      have hzz := (HKP.out zb (lt_of_heap HZ.out)).trans HZ.out
      have z0 : wr.cell? ⟨zb, 0, none⟩ = some (.int .u8 rule) := cell_of hzz rfl
      have z1 : wr.cell? ⟨zb, 1, none⟩ = some (.int .u8 0) := cell_of hzz rfl
      have z2 : wr.cell? ⟨zb, 2, none⟩ = some (.int .i64 0) := cell_of hzz rfl
      clear HF kf hB hzz
      cases mn
      · have hlen : (L.length : Int) = (((ks.filter el).length : Nat) : Int) := by have := HY.out.2 rfl; omega
        cases sf
        · obtain rfl := hru
          go_upto_region 102 with fail
          refine P102 w _ _ _ _ _ _ _ _ _ _ _ _ _ _ _ _ _ _ _ _ _ _ _ _ _ _ _ _ _ _ _ _ _ _ _ _ _ _ _ _ _ _ _ _ _ _ _ _ _ _ _ _ _ _ _ _ _ _ _ _ _ _ _ _ _ _ _ _ _ _ _ _ _ _ _ _ _ _ _ _ _ _ _ _ _ _ _ _ _ _ _ _ _ _ _ _ _ _ _ _ _ _ _ _ _ _ _ _ _ _ _ _ _ _ _ _ _ _ _ _ _ _ _ _ _ _ _ _ _ _ _ _ _ _ _ _ _ _ _ _ _ _ _ _ _ _ _ _ _ _ _ _ _ _ _ _ _ _ _ _ _ _ _ _ _ _ _ _ _ _ _ _ _ _ _ _ _ _ _ _ _ _ _ _ _ _ _ _ _ _ _ _ _ _ _ _ _ _ _ _ _ _ _ _ _ _ _ _ _ _ _ _ _ _ _ _ _ _ _ _ _ _ _ _ _ _ _ _ _ _ _ _ _ _ _ _ _ _ _ _ _ _ _ _ _ _ _ _ _ _ _ _ _ _ _ _ _ _ _ _ _ _ _ _ _ _ _ _ _ _ _ _ _ _ _ _ _ _ _ _ _ _ _ _ _ _ _ _ _ _ _ _ _ _ _ _ _ _ _ _ _ _ _ _ _ _ _ _ _ _ _ _ _ _ _ _ _ _ _ _ _ _ _ _ _ _ _ _ _ _ _ _ _ _ _ _ _ _ _ _ _ _ _ _ _ _ _ _ _ _ _ _ _ _ _ _ _ _ _ _ _ _ _ _ _ _ _ _ _ _ _ _ _ _ _ _ _ _ _ _ _ _ _ _ _ _ _ _ _ _ _ _ _ _ _ _ _ _ _ _ _ _ _ _ _ _ _ _ _ _ _ _ _ _ _ _ _ _ _ _ _ _ _ _ _ _ _ _ _ _ _ _ _ _ _ _ _ _ _ _ _ _ _ _ _ _ _ _ _ _ _ _ _ _ _ _ _ _ _ _ _ _ _ _ _ _ _ _ _ _ _ _ _ _ _ _ _ _ _ _ _ _ _ _ _ _ _ _ _ _ _ _ _ _ ks L rr (0) (rpd) (0) el cl ho lo ca cb cc mca mb mcc mla lb mlc eb sb hb fb (⟨#[]⟩) _ ?_ HX.out.1 HX.out.2.1 HX.out.2.2.1 HX.out.2.2.2.1 HX.out.2.2.2.2 hks hL hcl
          assumption
        · obtain rfl := hru
          go_upto_region 102 with fail
          refine P102 w _ _ _ _ _ _ _ _ _ _ _ _ _ _ _ _ _ _ _ _ _ _ _ _ _ _ _ _ _ _ _ _ _ _ _ _ _ _ _ _ _ _ _ _ _ _ _ _ _ _ _ _ _ _ _ _ _ _ _ _ _ _ _ _ _ _ _ _ _ _ _ _ _ _ _ _ _ _ _ _ _ _ _ _ _ _ _ _ _ _ _ _ _ _ _ _ _ _ _ _ _ _ _ _ _ _ _ _ _ _ _ _ _ _ _ _ _ _ _ _ _ _ _ _ _ _ _ _ _ _ _ _ _ _ _ _ _ _ _ _ _ _ _ _ _ _ _ _ _ _ _ _ _ _ _ _ _ _ _ _ _ _ _ _ _ _ _ _ _ _ _ _ _ _ _ _ _ _ _ _ _ _ _ _ _ _ _ _ _ _ _ _ _ _ _ _ _ _ _ _ _ _ _ _ _ _ _ _ _ _ _ _ _ _ _ _ _ _ _ _ _ _ _ _ _ _ _ _ _ _ _ _ _ _ _ _ _ _ _ _ _ _ _ _ _ _ _ _ _ _ _ _ _ _ _ _ _ _ _ _ _ _ _ _ _ _ _ _ _ _ _ _ _ _ _ _ _ _ _ _ _ _ _ _ _ _ _ _ _ _ _ _ _ _ _ _ _ _ _ _ _ _ _ _ _ _ _ _ _ _ _ _ _ _ _ _ _ _ _ _ _ _ _ _ _ _ _ _ _ _ _ _ _ _ _ _ _ _ _ _ _ _ _ _ _ _ _ _ _ _ _ _ _ _ _ _ _ _ _ _ _ _ _ _ _ _ _ _ _ _ _ _ _ _ _ _ _ _ _ _ _ _ _ _ _ _ _ _ _ _ _ _ _ _ _ _ _ _ _ _ _ _ _ _ _ _ _ _ _ _ _ _ _ _ _ _ _ _ _ _ _ _ _ _ _ _ _ _ _ _ _ _ _ _ _ _ _ _ _ _ _ _ _ _ _ _ _ _ _ _ _ _ _ _ _ _ _ _ _ _ _ _ _ _ _ _ _ _ _ _ _ _ _ _ _ _ _ _ _ _ _ _ _ _ _ _ _ _ _ _ _ _ _ _ ks L rr (0) (rpd) (0) el cl ho lo ca cb cc mca mb mcc mla lb mlc eb sb hb fb (⟨#[]⟩) _ ?_ HX.out.1 HX.out.2.1 HX.out.2.2.1 HX.out.2.2.2.1 HX.out.2.2.2.2 hks hL hcl
          assumption
      · have hlen : (L.length : Int) = ((0 : Nat) : Int) := by have := HY.out.1 rfl; omega
        obtain rfl := hru
        go_upto_region 102 with fail
        refine P102 w _ _ _ _ _ _ _ _ _ _ _ _ _ _ _ _ _ _ _ _ _ _ _ _ _ _ _ _ _ _ _ _ _ _ _ _ _ _ _ _ _ _ _ _ _ _ _ _ _ _ _ _ _ _ _ _ _ _ _ _ _ _ _ _ _ _ _ _ _ _ _ _ _ _ _ _ _ _ _ _ _ _ _ _ _ _ _ _ _ _ _ _ _ _ _ _ _ _ _ _ _ _ _ _ _ _ _ _ _ _ _ _ _ _ _ _ _ _ _ _ _ _ _ _ _ _ _ _ _ _ _ _ _ _ _ _ _ _ _ _ _ _ _ _ _ _ _ _ _ _ _ _ _ _ _ _ _ _ _ _ _ _ _ _ _ _ _ _ _ _ _ _ _ _ _ _ _ _ _ _ _ _ _ _ _ _ _ _ _ _ _ _ _ _ _ _ _ _ _ _ _ _ _ _ _ _ _ _ _ _ _ _ _ _ _ _ _ _ _ _ _ _ _ _ _ _ _ _ _ _ _ _ _ _ _ _ _ _ _ _ _ _ _ _ _ _ _ _ _ _ _ _ _ _ _ _ _ _ _ _ _ _ _ _ _ _ _ _ _ _ _ _ _ _ _ _ _ _ _ _ _ _ _ _ _ _ _ _ _ _ _ _ _ _ _ _ _ _ _ _ _ _ _ _ _ _ _ _ _ _ _ _ _ _ _ _ _ _ _ _ _ _ _ _ _ _ _ _ _ _ _ _ _ _ _ _ _ _ _ _ _ _ _ _ _ _ _ _ _ _ _ _ _ _ _ _ _ _ _ _ _ _ _ _ _ _ _ _ _ _ _ _ _ _ _ _ _ _ _ _ _ _ _ _ _ _ _ _ _ _ _ _ _ _ _ _ _ _ _ _ _ _ _ _ _ _ _ _ _ _ _ _ _ _ _ _ _ _ _ _ _ _ _ _ _ _ _ _ _ _ _ _ _ _ _ _ _ _ _ _ _ _ _ _ _ _ _ _ _ _ _ _ _ _ _ _ _ _ _ _ _ _ _ _ _ _ _ _ _ _ _ _ _ _ _ _ _ _ _ _ _ _ _ _ _ _ _ _ _ _ _ _ _ _ ks L rr (0) (rpd) (0) el cl ho lo ca cb cc mca mb mcc mla lb mlc eb sb hb fb (⟨#[]⟩) _ ?_ HX.out.1 HX.out.2.1 HX.out.2.2.1 HX.out.2.2.2.1 HX.out.2.2.2.2 hks hL hcl
        assumption


end Go.Proofs.YbulkcuegFmt
