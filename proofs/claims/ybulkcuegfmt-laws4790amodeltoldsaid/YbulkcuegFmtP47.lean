import Derived.Test.YbulkcuegFmtLaw2
import Derived.Test.YbulkcuegFmtP73
namespace Go.Proofs.YbulkcuegFmt
open Go.RowKit Go.Maps

set_option maxRecDepth 1000000 in
set_option maxHeartbeats 2000000 in
theorem P47 (w : World)
    (s0 s1 s2 s3 s5 s7 s8 s9 s10 s11 s12 s13 s14 s15 s20 s21 s23 s24 s26 s27 s28 s29 s30 s31 s37 s38 s39 s40 s41 s42 s43 s44 s45 s46 s47 s48 s49 s50 s51 s52 s53 s54 s55 s56 s57 s58 s59 s60 s61 s62 s63 s64 s65 s66 s67 s68 s69 s70 s71 s72 s73 s74 s75 s76 s77 s78 s79 s80 s81 s82 s83 s84 s85 s86 s87 s88 s89 s90 s91 s92 s93 s94 s95 s96 s97 s98 s99 s100 s101 s102 s103 s104 s105 s106 s107 s108 s109 s110 s111 s112 s113 s114 s115 s116 s117 s118 s119 s120 s121 s122 s123 s124 s125 s126 s127 s128 s129 s130 s131 s132 s133 s134 s135 s136 s137 s138 s139 s140 s141 s142 s143 s144 s145 s146 s147 s148 s149 s150 s151 s152 s153 s154 s155 s156 s157 s158 s159 s160 s161 s162 s163 s164 s165 s166 s167 s168 s169 s170 s171 s172 s173 s174 s175 s176 s177 s178 s179 s180 s181 s182 s183 s184 s185 s186 s187 s188 s189 s190 s191 s192 s193 s194 s195 s196 s197 s198 s199 s200 s201 s202 s203 s204 s205 s206 s207 s208 s209 s210 s211 s212 s213 s214 s215 s216 s217 s218 s219 s220 s221 s222 s223 s224 s225 s226 s227 s228 s229 s230 s231 s232 s233 s234 s235 s236 s237 s238 s239 s240 s241 s242 s243 s244 s245 s246 s247 s248 s249 s250 s251 s252 s253 s254 s255 s256 s257 s258 s259 s260 s261 s262 s263 s264 s265 s266 s267 s268 s269 s270 s271 s272 s273 s274 s275 s276 s277 s278 s279 s280 s281 s282 s283 s284 s285 s286 s287 s288 s289 s290 s291 s292 s293 s294 s295 s296 s297 s298 s299 s300 s301 s302 s303 s304 s305 s306 s307 s308 s309 s310 s311 s312 s313 s314 s315 s316 s317 s318 s319 s320 s321 s322 s323 s324 s325 s326 s327 s328 s329 s330 s331 s332 s333 s334 s335 s336 s337 s338 s339 s340 s341 s342 s343 s344 s345 s346 s347 s348 s349 s350 s351 s352 s353 s354 s355 s356 s357 s358 s359 s360 s361 s362 s363 s364 s365 s366 s367 s368 s369 s370 s371 s372 s373 s374 s375 s376 s377 s378 s379 s380 s381 s382 s383 s384 s385 s386 s387 s388 s389 s390 s391 s392 s393 s394 s395 s396 s397 s398 s399 s400 s401 s402 s403 s404 s405 s406 s407 s408 s409 s410 s411 s412 s413 s414 s415 s416 s417 s418 s419 s420 s421 s422 s423 s424 s425 s426 s427 s428 s429 s430 s431 s432 s433 s434 s435 s436 s437 s438 s439 s440 s441 s442 s443 s444 s445 s446 s447 s448 s449 s450 s451 s452 s453 s454 s455 s456 s457 s458 s459 s460 s461 s462 s463 s464 s465 s466 s467 s468 s469 s470 s471 s472 s473 s474 s475 s476 s477 s478 s479 s480 s481 s482 s483 s484 s485 s486 s487 s488 s489 s490 s491 s492 s493 s494 s495 s496 s497 s498 s499 s500 s501 s502 : Value)
    (K : Act → World → Prop) (ks L : List (Fin 50)) (rr : Fin 50 → Int) (el : Fin 50 → Bool) (cl ho lo : Fin 50 → Int) (ca : Option Addr) (cb cc : Nat) (mca : Option Addr) (mb mcc : Nat) (mla : Option Addr) (lb mlc : Nat) (Q : List (Fin 50)) (rl : Fin 50 → Int) (rpd : Fin 5) (ql : Nat → Fin 5) (n15 : Nat) (mn : Bool) (zb : Nat) (rule : Int) (rI : Int) (qa : Option Addr) (qc : Nat) (hi : Fin 50 → Bool) (xa : Option Addr) (xb xc : Nat) (dl : List Int) (da : Option Addr) (dc : Nat) (hl : List Int) (ha : Option Addr) (hc : Nat) (n6 : Nat) (fl : Nat → Fin 5) (fa : Option Addr) (fc ob : Nat) (W : World)
    (hK : ∀ a w', Code.wp Ybaf.prog (spine 22 (Ybaf.f3.body.getD .skip)) (bodyPost Ybaf.prog Ybaf.f3 fun e w' => e = .returned (.bool true) ∧ Below w.heap.size w w') a w' → K a w')
    (B : Below w.heap.size w W) (Z : L0 W ks L rr lo hi ca cb mca mb mla lb xa xb dl (.slice da dl.length dc) hl (.slice ha hl.length hc) n6 fl (.slice fa n6 fc) n15 ql (.slice qa n15 qc) ob zb rule) (hks : ks.length ≤ 50) (hL : L.length ≤ 50) (hn15 : n15 ≤ 300) (hdl : dl.length ≤ 300) (hhl : hl.length ≤ 300) (hn6 : n6 ≤ 300) (HL : Hid (el = elig dl (fN n6 fl) ∧ cl = clsOf hi ∧ ho = witOf dl hl)) (SQ : Hid (SelQ ks Q L rr rl rpd ql n15 mn el cl ho lo)) (hru : Hid ((mn = true → rule = 15) ∧ (mn = false → (∃ q, q ∈ ks ∧ aside dl (fN n6 fl) q) → rule = 14) ∧ (mn = false → ¬ (∃ q, q ∈ ks ∧ aside dl (fN n6 fl) q) → rule = 13))) (hrI : 0 ≤ rI ∧ rI ≤ 255) (hrp : md5 rI = rpd.val) :
    Code.wp Ybaf.prog (headAt 21 (Ybaf.f3.body.getD .skip)) (Exit.then K (bodyPost Ybaf.prog Ybaf.f3 fun e w' => e = .returned (.bool true) ∧ Below w.heap.size w w')) ⟨List.toArray (s0 :: s1 :: s2 :: s3 :: .int .u8 rI :: s5 :: .bool mn :: s7 :: s8 :: s9 :: s10 :: s11 :: s12 :: s13 :: s14 :: s15 :: .bool false :: .slice da dl.length dc :: .slice ha hl.length hc :: .slice fa n6 fc :: s20 :: s21 :: .slice qa n15 qc :: s23 :: s24 :: .pointer (some ⟨ob, 0, none⟩) :: s26 :: s27 :: s28 :: s29 :: s30 :: s31 :: .slice ca L.length cc :: .pointer (some ⟨zb, 0, none⟩) :: .slice mca ks.length mcc :: .slice xa ks.length xc :: .slice mla ks.length mlc :: s37 :: s38 :: s39 :: s40 :: s41 :: s42 :: s43 :: s44 :: s45 :: s46 :: s47 :: s48 :: s49 :: s50 :: s51 :: s52 :: s53 :: s54 :: s55 :: s56 :: s57 :: s58 :: s59 :: s60 :: s61 :: s62 :: s63 :: s64 :: s65 :: s66 :: s67 :: s68 :: s69 :: s70 :: s71 :: s72 :: s73 :: s74 :: s75 :: s76 :: s77 :: s78 :: s79 :: s80 :: s81 :: s82 :: s83 :: s84 :: s85 :: s86 :: s87 :: s88 :: s89 :: s90 :: s91 :: s92 :: s93 :: s94 :: s95 :: s96 :: s97 :: s98 :: s99 :: s100 :: s101 :: s102 :: s103 :: s104 :: s105 :: s106 :: s107 :: s108 :: s109 :: s110 :: s111 :: s112 :: s113 :: s114 :: s115 :: s116 :: s117 :: s118 :: s119 :: s120 :: s121 :: s122 :: s123 :: s124 :: s125 :: s126 :: s127 :: s128 :: s129 :: s130 :: s131 :: s132 :: s133 :: s134 :: s135 :: s136 :: s137 :: s138 :: s139 :: s140 :: s141 :: s142 :: s143 :: s144 :: s145 :: s146 :: s147 :: s148 :: s149 :: s150 :: s151 :: s152 :: s153 :: s154 :: s155 :: s156 :: s157 :: s158 :: s159 :: s160 :: s161 :: s162 :: s163 :: s164 :: s165 :: s166 :: s167 :: s168 :: s169 :: s170 :: s171 :: s172 :: s173 :: s174 :: s175 :: s176 :: s177 :: s178 :: s179 :: s180 :: s181 :: s182 :: s183 :: s184 :: s185 :: s186 :: s187 :: s188 :: s189 :: s190 :: s191 :: s192 :: s193 :: s194 :: s195 :: s196 :: s197 :: s198 :: s199 :: s200 :: s201 :: s202 :: s203 :: s204 :: s205 :: s206 :: s207 :: s208 :: s209 :: s210 :: s211 :: s212 :: s213 :: s214 :: s215 :: s216 :: s217 :: s218 :: s219 :: s220 :: s221 :: s222 :: s223 :: s224 :: s225 :: s226 :: s227 :: s228 :: s229 :: s230 :: s231 :: s232 :: s233 :: s234 :: s235 :: s236 :: s237 :: s238 :: s239 :: s240 :: s241 :: s242 :: s243 :: s244 :: s245 :: s246 :: s247 :: s248 :: s249 :: s250 :: s251 :: s252 :: s253 :: s254 :: s255 :: s256 :: s257 :: s258 :: s259 :: s260 :: s261 :: s262 :: s263 :: s264 :: s265 :: s266 :: s267 :: s268 :: s269 :: s270 :: s271 :: s272 :: s273 :: s274 :: s275 :: s276 :: s277 :: s278 :: s279 :: s280 :: s281 :: s282 :: s283 :: s284 :: s285 :: s286 :: s287 :: s288 :: s289 :: s290 :: s291 :: s292 :: s293 :: s294 :: s295 :: s296 :: s297 :: s298 :: s299 :: s300 :: s301 :: s302 :: s303 :: s304 :: s305 :: s306 :: s307 :: s308 :: s309 :: s310 :: s311 :: s312 :: s313 :: s314 :: s315 :: s316 :: s317 :: s318 :: s319 :: s320 :: s321 :: s322 :: s323 :: s324 :: s325 :: s326 :: s327 :: s328 :: s329 :: s330 :: s331 :: s332 :: s333 :: s334 :: s335 :: s336 :: s337 :: s338 :: s339 :: s340 :: s341 :: s342 :: s343 :: s344 :: s345 :: s346 :: s347 :: s348 :: s349 :: s350 :: s351 :: s352 :: s353 :: s354 :: s355 :: s356 :: s357 :: s358 :: s359 :: s360 :: s361 :: s362 :: s363 :: s364 :: s365 :: s366 :: s367 :: s368 :: s369 :: s370 :: s371 :: s372 :: s373 :: s374 :: s375 :: s376 :: s377 :: s378 :: s379 :: s380 :: s381 :: s382 :: s383 :: s384 :: s385 :: s386 :: s387 :: s388 :: s389 :: s390 :: s391 :: s392 :: s393 :: s394 :: s395 :: s396 :: s397 :: s398 :: s399 :: s400 :: s401 :: s402 :: s403 :: s404 :: s405 :: s406 :: s407 :: s408 :: s409 :: s410 :: s411 :: s412 :: s413 :: s414 :: s415 :: s416 :: s417 :: s418 :: s419 :: s420 :: s421 :: s422 :: s423 :: s424 :: s425 :: s426 :: s427 :: s428 :: s429 :: s430 :: s431 :: s432 :: s433 :: s434 :: s435 :: s436 :: s437 :: s438 :: s439 :: s440 :: s441 :: s442 :: s443 :: s444 :: s445 :: s446 :: s447 :: s448 :: s449 :: s450 :: s451 :: s452 :: s453 :: s454 :: s455 :: s456 :: s457 :: s458 :: s459 :: s460 :: s461 :: s462 :: s463 :: s464 :: s465 :: s466 :: s467 :: s468 :: s469 :: s470 :: s471 :: s472 :: s473 :: s474 :: s475 :: s476 :: s477 :: s478 :: s479 :: s480 :: s481 :: s482 :: s483 :: s484 :: s485 :: s486 :: s487 :: s488 :: s489 :: s490 :: s491 :: s492 :: s493 :: s494 :: s495 :: s496 :: s497 :: s498 :: s499 :: s500 :: s501 :: s502 :: []), []⟩ W := by
  conv => arg 2; whnf
  conv at hK => enter [a, w', 1, 2]; whnf
  obtain ⟨i4, hi4, y0, y1, y2⟩ := info_parts info4
  obtain ⟨i3, hi3, z0, z1, z2⟩ := info_parts info3
  have HR : Hid _ := And.intro B Z
  clear B Z
  go_wp2_with (at_make; refine wpList_make_full _ rfl (.tmp 232) (.tmp 232) 79 rfl W.heap.size 4 i4 _ 1 Ybaf.underlying79 hi4 y0 y1 .i64 .i64 ks.length ks.length ks.length rfl rfl rfl rfl ?b2A ?b3A ?b4A ?nextA)
  case b2A => rw [y2]; omega
  case b3A => unfold maxLen; omega
  case b4A => exact Nat.le_refl _
  case nextA =>
  intro w1 hoA gA
  have HUA : Hid _ := And.intro (row_bool (g := W.heap.size) (by simpa using hoA) (fun i hi => by simp [madeCells, hi, Nat.mod_one])) gA
  clear hoA gA
  go_wp2_with (at_make; refine wpList_make_full _ rfl (.tmp 235) (.tmp 235) 36 rfl w1.heap.size 3 i3 _ 1 Ybaf.underlying36 hi3 z0 z1 .i64 .i64 ks.length ks.length ks.length rfl rfl rfl rfl ?b2B ?b3B ?b4B ?nextB)
  case b2B => rw [z2]; omega
  case b3B => unfold maxLen; omega
  case b4B => exact Nat.le_refl _
  case nextB =>
  intro w2 hoB gB
  have HUB : Hid _ := And.intro (row_int (g := w1.heap.size) (by simpa using hoB) (fun i hi => by simp [madeCells, hi, Nat.mod_one])) gB
  clear hoB gB
  go_wp2_with (at_make; refine wpList_make_full _ rfl (.tmp 238) (.tmp 238) 36 rfl w2.heap.size 3 i3 _ 1 Ybaf.underlying36 hi3 z0 z1 .i64 .i64 ks.length ks.length ks.length rfl rfl rfl rfl ?b2C ?b3C ?b4C ?nextC)
  case b2C => rw [z2]; omega
  case b3C => unfold maxLen; omega
  case b4C => exact Nat.le_refl _
  case nextC =>
  intro w3 hoC gC
  have HUC : Hid _ := And.intro (row_int (g := w2.heap.size) (by simpa using hoC) (fun i hi => by simp [madeCells, hi, Nat.mod_one])) gC
  clear hoC gC
  have H5 : Hid (L5 W w3 ks el cl ho (aside dl (fN n6 fl)) W.heap.size w1.heap.size w2.heap.size 0 false) := L5.start HUA.out.2 HUB.out.2 HUC.out.2 HUA.out.1 HUB.out.1 HUC.out.1
  clear HUA HUB HUC y0 y1 y2 z0 z1 z2 hi3 hi4
  generalize W.heap.size = eb at H5 ⊢
  generalize w1.heap.size = sb at H5 ⊢
  generalize w2.heap.size = hb at H5 ⊢
  go_wp2_with fail
  go_loopw [242, 44, 45] (fun vi v44 v45 wr => ∃ (k : Nat) (sf : Bool), k ≤ ks.length ∧ vi = .int .i64 k ∧ v44 = .bool sf ∧ v45 = .int .i64 (elT ks el k : Nat) ∧ Hid (L5 W wr ks el cl ho (aside dl (fN n6 fl)) eb sb hb k sf)) (fun vi _ _ _ => ks.length - (intOf vi).toNat)
  case atStart => exact ⟨0, false, Nat.zero_le _, rfl, rfl, by rw [elT_zero]; rfl, H5⟩
  case round =>
    obtain ⟨k, sf, hk, rfl, rfl, rfl, h5⟩ := hrel
    have hel2 := elT_le ks el k
    clear H5
    by_cases hkn : k < ks.length
    · have hkn' : (k : Int) < (ks.length : Int) := by omega
      have hk0 : (0 : Int) ≤ (k : Int) := by omega
      have Z := HR.out.2.next h5.out.b
      obtain rfl := Z.mca (by omega)
      obtain rfl := Z.xa (by omega)
      obtain ⟨q, hq⟩ : ∃ q, ks.getD k 0 = q := ⟨_, rfl⟩
      have e0 : wr.cell? ⟨mb, k * 2, none⟩ = some (.string (kd q)) := by rw [(Z.m k hkn).1, hq]
      have e1 : wr.cell? ⟨mb, k * 2 + 1, none⟩ = some (.int .u16 (ka q)) := by rw [(Z.m k hkn).2, hq]
      have HQ : Hid _ := hq
      have b1 := bal (o := .cells #[.string (kd q), .int .u16 (ka q)] 60) (Below.refl _ wr)
      have BC := (MapKept.heap_alloc wr (.cells #[.string (kd q), .int .u16 (ka q)] 60)).1
      have H1 : Hid _ := h5.out.next b1
      clear b1 h5 Z hq
      go_upto_region 55 with fail
      generalize wr.alloc (.cells #[.string (kd q), .int .u16 (ka q)] 60) = W1 at BC H1 ⊢
      generalize wr.heap.size = nb at BC ⊢
      clear e0 e1
      have Z := HR.out.2.next H1.out.b
      have c0 : W1.cell? ⟨nb, 0, none⟩ = some (.string (kd q)) := cell_of BC rfl
      have c1 : W1.cell? ⟨nb, 1, none⟩ = some (.int .u16 (ka q)) := cell_of BC rfl
      have c2 : W1.cell? ⟨ob, 0, none⟩ = some (.string (dig 1)) := Z.o
      have y0 : ∀ w, (binOp .eql 29 (.agg #[.string (kd q)]) (.agg #[.string ⟨#[]⟩])).run Ybaf.prog w = .ok (.bool (decide (nt q = 0))) w := fun w => eq29k q 0 w
      have y1 : ∀ w, (binOp .eql 29 (.agg #[.string (kd q)]) (.agg #[.string (dig 1)])).run Ybaf.prog w = .ok (.bool (decide (nt q = 1))) w := fun w => eq29k q 1 w
      have hcd := idxRow Z.d hdl (ka q)
      have hcf := hasRow Z.f hn6 q
      have HNO : Hid (el q = false → ¬ aside dl (fN n6 fl) q → L5 W W1 ks el cl ho (aside dl (fN n6 fl)) eb sb hb (k + 1) sf ∧ elT ks el (k + 1) = elT ks el k) := fun h1 h2 => ⟨H1.out.skip (by rw [HQ.out]; exact h1) (by rw [HQ.out]; exact h2), elT_no hkn (by rw [HQ.out]; exact h1)⟩
      have HBC : Hid _ := BC
      clear Z BC
      have hwe : IntKind.i64.wrap (((elT ks el k : Nat) : Int) + 1) = ((elT ks el k + 1 : Nat) : Int) := by rw [IntKind.wrap_i64]; omega
      by_cases n0 : nt q = 0
      · have HT : Hid (L5 W W1 ks el cl ho (aside dl (fN n6 fl)) eb sb hb (k + 1) sf ∧ elT ks el (k + 1) = elT ks el k) := HNO.out (by rw [HL.out.1]; exact (el_zero dl _ n0).1) (el_zero dl _ n0).2
        rw [decide_eq_true n0] at y0
        clear y1 hcd hcf n0 c2
        go_wp2_with fail
        go_roundw
        case rel => exact ⟨k + 1, sf, by omega, by go_num, rfl, by rw [HT.out.2], HT.out.1⟩
        case measure => simp [intOf]; omega
      · rw [decide_eq_false n0] at y0
        by_cases k9 : ka q < 9
        · have k9' : ¬ ka q ≥ 9 := by omega
          by_cases hd : ka q ∈ dl
          · obtain ⟨di, hdi⟩ : ∃ di : Nat, dl.idxOf (ka q) = di := ⟨_, rfl⟩
            have hdl2 : di < dl.length := by rw [← hdi]; exact List.idxOf_lt_length_of_mem hd
            rw [ix_in hd, hdi] at hcd
            have HDI : Hid _ := hdi
            clear hdi
            have hdp : ¬ (di : Int) < 0 := by omega
            by_cases n1 : nt q = 1
            · have hee : el q = true := by rw [HL.out.1]; exact (el_free dl _ n0 k9 hd (.inl n1)).1
              have hea := (el_free dl (fN n6 fl) n0 k9 hd (.inl n1)).2
              rw [decide_eq_true n1] at y1
              have HS : Hid (elT ks el (k + 1) = elT ks el k + 1) := elT_yes hkn (by rw [HQ.out]; exact hee)
              obtain ⟨⟨a1, a2, a3⟩, f1, f2, f3⟩ := H1.out.at hkn
              obtain ⟨m1, m2, m3⟩ := H1.out.off HBC.out (by decide) (by decide)
              obtain ⟨l1, l2, l3, l4, l5, l6⟩ := H1.out.lt
              have a2' : (W1.setCell ⟨eb, k, none⟩ (.bool true)).cell? ⟨sb, k, none⟩ = some (.int .i64 0) := cell_set a2 (Ne.symm l4)
              have f2' : (W1.setCell ⟨eb, k, none⟩ (.bool true)).frozen? ⟨sb, k, none⟩ = false := (World.frozen?_setCell _ _ _ _).trans f2
              have a3' : ((W1.setCell ⟨eb, k, none⟩ (.bool true)).setCell ⟨sb, k, none⟩ (.int .i64 0)).cell? ⟨hb, k, none⟩ = some (.int .i64 0) := cell_set (cell_set a3 (Ne.symm l5)) (Ne.symm l6)
              have f3' : ((W1.setCell ⟨eb, k, none⟩ (.bool true)).setCell ⟨sb, k, none⟩ (.int .i64 0)).frozen? ⟨hb, k, none⟩ = false := (World.frozen?_setCell _ _ _ _).trans ((World.frozen?_setCell _ _ _ _).trans f3)
              have c1' : ((W1.setCell ⟨eb, k, none⟩ (.bool true)).setCell ⟨sb, k, none⟩ (.int .i64 0)).cell? ⟨nb, 1, none⟩ = some (.int .u16 (ka q)) := cell_set (cell_set c1 m1) m2
              have hch := idxRow (HR.out.2.next ((H1.out.b.setCell (p := ⟨eb, k, none⟩) l1 (.bool true)).setCell (p := ⟨sb, k, none⟩) l2 (.int .i64 0))).h hhl (ka q)
              clear l1 l2 l3 l4 l5 l6 m1 m2 m3 hcf HNO n0
              go_wp2_with fail
              refine hcd.mono ?_
              rintro e w9 ⟨rfl, rfl⟩
              clear hcd
              by_cases hm : ka q ∈ hl
              · skip
                obtain ⟨t, ht⟩ : ∃ t : Nat, hl.idxOf (ka q) = t := ⟨_, rfl⟩
                have htl : t < hl.length := by rw [← ht]; exact List.idxOf_lt_length_of_mem hm
                have hix : ixOf hl (ka q) = (t : Int) := by rw [ix_in hm, ht]
                have hxx : witOf dl hl q = (t : Int) + 1 := by rw [wit_in dl hl n1 hm, ht]
                have hw1 : IntKind.i64.wrap ((t : Int) + 1) = (t : Int) + 1 := by rw [IntKind.wrap_i64]; omega
                have hge : (t : Int) ≥ 0 := by omega
                rw [hix] at hch
                have HT : Hid (L5 W (((W1.setCell ⟨eb, k, none⟩ (.bool true)).setCell ⟨sb, k, none⟩ (.int .i64 0)).setCell ⟨hb, k, none⟩ (.int .i64 ((t : Int) + 1))) ks el cl ho (aside dl (fN n6 fl)) eb sb hb (k + 1) sf) := H1.out.take3 (by rw [HQ.out]; exact hee) (by rw [HQ.out]; exact hea) (by rw [HQ.out, HL.out.2.1]; unfold clsOf; rw [if_pos n1]) (by rw [HQ.out, HL.out.2.2]; exact hxx)
                clear hix hxx hm hd n1 hea
                go_upto_region 62 with fail
                generalize W1.setCell ⟨eb, k, none⟩ (.bool true) = W3 at HT hch a2' f2' a3' f3' c1' ⊢
                clear a1 a2 a3 f1 f2 f3 c0 c1 c2
                go_upto_region 65 with fail
                generalize W3.setCell ⟨sb, k, none⟩ (.int .i64 0) = W4 at HT hch a3' f3' c1' ⊢
                clear a2' f2'
                go_wp2_with fail
                refine hch.mono ?_
                rintro e w9 ⟨rfl, rfl⟩
                go_wp2_with fail
                go_roundw
                case rel => exact ⟨k + 1, sf, by omega, by go_num, rfl, by rw [HS.out]; first | rfl | (congr 1), HT⟩
                case measure => simp [intOf]; omega
              · skip
                have hix : ixOf hl (ka q) = -1 := ix_out hm
                have hxx : witOf dl hl q = (hl.length : Int) + (di : Int) + 1 := by rw [wit_out dl hl n1 hm hd, HDI.out]
                have hw1 : IntKind.i64.wrap ((hl.length : Int) + (di : Int)) = (hl.length : Int) + (di : Int) := by rw [IntKind.wrap_i64]; omega
                have hw2 : IntKind.i64.wrap ((hl.length : Int) + (di : Int) + 1) = (hl.length : Int) + (di : Int) + 1 := by rw [IntKind.wrap_i64]; omega
                rw [hix] at hch
                have HT : Hid (L5 W (((W1.setCell ⟨eb, k, none⟩ (.bool true)).setCell ⟨sb, k, none⟩ (.int .i64 0)).setCell ⟨hb, k, none⟩ (.int .i64 ((hl.length : Int) + (di : Int) + 1))) ks el cl ho (aside dl (fN n6 fl)) eb sb hb (k + 1) sf) := H1.out.take3 (by rw [HQ.out]; exact hee) (by rw [HQ.out]; exact hea) (by rw [HQ.out, HL.out.2.1]; unfold clsOf; rw [if_pos n1]) (by rw [HQ.out, HL.out.2.2]; exact hxx)
                clear hix hxx hm hd n1 hea
                go_upto_region 62 with fail
                generalize W1.setCell ⟨eb, k, none⟩ (.bool true) = W3 at HT hch a2' f2' a3' f3' c1' ⊢
                clear a1 a2 a3 f1 f2 f3 c0 c1 c2
                go_upto_region 65 with fail
                generalize W3.setCell ⟨sb, k, none⟩ (.int .i64 0) = W4 at HT hch a3' f3' c1' ⊢
                clear a2' f2'
                go_wp2_with fail
                refine hch.mono ?_
                rintro e w9 ⟨rfl, rfl⟩
                go_wp2_with fail
                go_roundw
                case rel => exact ⟨k + 1, sf, by omega, by go_num, rfl, by rw [HS.out]; first | rfl | (congr 1), HT⟩
                case measure => simp [intOf]; omega
            · rw [decide_eq_false n1] at y1
              cases hfb : (fN n6 fl (nt q)).isSome
              · have hee : el q = true := by rw [HL.out.1]; exact (el_free dl _ n0 k9 hd (.inr hfb)).1
                have hea := (el_free dl (fN n6 fl) n0 k9 hd (.inr hfb)).2
                rw [hfb] at hcf
                clear hfb hd HNO n0
                go_wp2_with fail
                refine hcd.mono ?_
                rintro e w9 ⟨rfl, rfl⟩
                clear hcd
                go_wp2_with fail
                refine hcf.mono ?_
                rintro e W2 ⟨rfl, hb2⟩
                have H2 : Hid _ := H1.out.next hb2
                have Z := HR.out.2.next H2.out.b
                have c3 : W2.cell? ⟨xb, k, none⟩ = some (.bool (hi q)) := by rw [Z.x k hkn, HQ.out]
                clear Z hb2 hcf c0 c1 c2
                obtain ⟨⟨a1, a2, a3⟩, f1, f2, f3⟩ := H2.out.at hkn
                obtain ⟨l1, l2, l3, l4, l5, l6⟩ := H2.out.lt
                have a2' : (W2.setCell ⟨eb, k, none⟩ (.bool true)).cell? ⟨sb, k, none⟩ = some (.int .i64 0) := cell_set a2 (Ne.symm l4)
                have f2' : (W2.setCell ⟨eb, k, none⟩ (.bool true)).frozen? ⟨sb, k, none⟩ = false := (World.frozen?_setCell _ _ _ _).trans f2
                have c3' : (W2.setCell ⟨eb, k, none⟩ (.bool true)).cell? ⟨xb, k, none⟩ = some (.bool (hi q)) := by
                  have Z := HR.out.2.next (H2.out.b.setCell (p := ⟨eb, k, none⟩) l1 (.bool true))
                  rw [Z.x k hkn, HQ.out]
                clear l1 l2 l3 l4 l5 l6
                cases hx : hi q
                · skip
                  have HT : Hid (L5 W ((W2.setCell ⟨eb, k, none⟩ (.bool true)).setCell ⟨sb, k, none⟩ (.int .i64 2)) ks el cl ho (aside dl (fN n6 fl)) eb sb hb (k + 1) sf) := H2.out.take2 (by rw [HQ.out]; exact hee) (by rw [HQ.out]; exact hea) (by rw [HQ.out, HL.out.2.1]; unfold clsOf; rw [if_neg n1, hx]; rfl) (by rw [HQ.out, HL.out.2.2]; exact wit_far dl hl n1)
                  have HS : Hid (elT ks el (k + 1) = elT ks el k + 1) := elT_yes hkn (by rw [HQ.out]; exact hee)
                  rw [hx] at c3
                  go_upto_region 62 with fail
                  generalize W2.setCell ⟨eb, k, none⟩ (.bool true) = W3 at HT a2' f2' c3' ⊢
                  rw [hx] at c3'
                  clear a1 a2 a3 f1 f2 f3 c3
                  go_wp2_with fail
                  go_roundw
                  case rel => exact ⟨k + 1, sf, by omega, by go_num, rfl, by rw [HS.out]; first | rfl | (congr 1), HT⟩
                  case measure => simp [intOf]; omega
                · skip
                  have HT : Hid (L5 W ((W2.setCell ⟨eb, k, none⟩ (.bool true)).setCell ⟨sb, k, none⟩ (.int .i64 1)) ks el cl ho (aside dl (fN n6 fl)) eb sb hb (k + 1) sf) := H2.out.take2 (by rw [HQ.out]; exact hee) (by rw [HQ.out]; exact hea) (by rw [HQ.out, HL.out.2.1]; unfold clsOf; rw [if_neg n1, hx]; rfl) (by rw [HQ.out, HL.out.2.2]; exact wit_far dl hl n1)
                  have HS : Hid (elT ks el (k + 1) = elT ks el k + 1) := elT_yes hkn (by rw [HQ.out]; exact hee)
                  rw [hx] at c3
                  go_upto_region 62 with fail
                  generalize W2.setCell ⟨eb, k, none⟩ (.bool true) = W3 at HT a2' f2' c3' ⊢
                  rw [hx] at c3'
                  clear a1 a2 a3 f1 f2 f3 c3
                  go_wp2_with fail
                  go_roundw
                  case rel => exact ⟨k + 1, sf, by omega, by go_num, rfl, by rw [HS.out]; first | rfl | (congr 1), HT⟩
                  case measure => simp [intOf]; omega
              · obtain ⟨he, ha'⟩ := el_forb dl (fN n6 fl) n0 k9 hd n1 hfb
                have HS : Hid (elT ks el (k + 1) = elT ks el k) := elT_no hkn (by rw [HQ.out, HL.out.1]; exact he)
                have HF : Hid (L5 W W1 ks el cl ho (aside dl (fN n6 fl)) eb sb hb (k + 1) true) := H1.out.forb (by rw [HQ.out, HL.out.1]; exact he) (by rw [HQ.out]; exact ha')
                rw [hfb] at hcf
                clear hfb hd HNO n0 n1 he ha'
                go_wp2_with fail
                refine hcd.mono ?_
                rintro e w9 ⟨rfl, rfl⟩
                clear hcd
                go_wp2_with fail
                refine hcf.mono ?_
                rintro e W2 ⟨rfl, hb2⟩
                have HT : Hid _ := HF.out.next hb2
                clear hb2 HF hcf c0 c1 c2
                go_wp2_with fail
                go_roundw
                case rel => exact ⟨k + 1, true, by omega, by go_num, rfl, by rw [HS.out], HT⟩
                case measure => simp [intOf]; omega
          · have HT : Hid (L5 W W1 ks el cl ho (aside dl (fN n6 fl)) eb sb hb (k + 1) sf ∧ elT ks el (k + 1) = elT ks el k) := HNO.out (by rw [HL.out.1]; exact (el_dev dl _ hd).1) (el_dev dl _ hd).2
            rw [ix_out hd] at hcd
            clear hd hcf y1 c2 n0
            go_wp2_with fail
            refine hcd.mono ?_
            rintro e w9 ⟨rfl, rfl⟩
            clear hcd
            go_wp2_with fail
            go_roundw
            case rel => exact ⟨k + 1, sf, by omega, by go_num, rfl, by rw [HT.out.2], HT.out.1⟩
            case measure => simp [intOf]; omega
        · have k9' : ka q ≥ 9 := by omega
          have HT : Hid (L5 W W1 ks el cl ho (aside dl (fN n6 fl)) eb sb hb (k + 1) sf ∧ elT ks el (k + 1) = elT ks el k) := HNO.out (by rw [HL.out.1]; exact (el_big dl _ k9).1) (el_big dl _ k9).2
          clear y1 hcd hcf n0 c2 k9
          go_wp2_with fail
          go_roundw
          case rel => exact ⟨k + 1, sf, by omega, by go_num, rfl, by rw [HT.out.2], HT.out.1⟩
          case measure => simp [intOf]; omega
    · obtain rfl : k = ks.length := by omega
      have hnl : ¬ ((ks.length : Nat) : Int) < ((ks.length : Nat) : Int) := by omega
      rw [elT_all]
      have Z := HR.out.2.next h5.out.b
      have HE : Hid (Below w.heap.size w wr ∧ LS wr ks L rr el cl ho lo ca cb mca mb mla lb eb sb hb ∧ wr.heap[zb]? = some (.cells #[.int .u8 rule, .int .u8 0, .int .i64 0] 64 (0, 0)) ∧ RowV wr (.slice qa n15 qc) n15 (fun i => .string (dig (ql i).val))) := ⟨HR.out.1.trans (h5.out.b.mono HR.out.1.size), Z.ls h5.out, Z.z, Z.q⟩
      have hcl : Hid (∀ q, 0 ≤ cl q ∧ cl q ≤ 2) := fun q => by
        rw [HL.out.2.1]
        rcases cls_three hi q with h | h | h <;> rw [h] <;> omega
      have hsf : (sf = true ↔ ∃ q, q ∈ ks ∧ aside dl (fN n6 fl) q) := by
        rw [h5.out.f]
        constructor
        · rintro ⟨j, hj, h⟩
          exact ⟨_, getD_mem hj, h⟩
        · rintro ⟨q, hq, h⟩
          obtain ⟨j, hj, e⟩ := List.mem_iff_getElem.1 hq
          exact ⟨j, hj, by rw [getD_get hj, e]; exact h⟩
      have hru2 : rule = if mn then 15 else if sf then 14 else 13 := by
        cases mn
        · cases sf
          · exact hru.out.2.2 rfl (fun h => by have := hsf.2 h; cases this)
          · exact hru.out.2.1 rfl (hsf.1 rfl)
        · exact hru.out.1 rfl
      clear Z hsf h5 hru
      go_upto_region 73 with fail
      refine P73 w _ _ _ _ _ _ _ _ _ _ _ _ _ _ _ _ _ _ _ _ _ _ _ _ _ _ _ _ _ _ _ _ _ _ _ _ _ _ _ _ _ _ _ _ _ _ _ _ _ _ _ _ _ _ _ _ _ _ _ _ _ _ _ _ _ _ _ _ _ _ _ _ _ _ _ _ _ _ _ _ _ _ _ _ _ _ _ _ _ _ _ _ _ _ _ _ _ _ _ _ _ _ _ _ _ _ _ _ _ _ _ _ _ _ _ _ _ _ _ _ _ _ _ _ _ _ _ _ _ _ _ _ _ _ _ _ _ _ _ _ _ _ _ _ _ _ _ _ _ _ _ _ _ _ _ _ _ _ _ _ _ _ _ _ _ _ _ _ _ _ _ _ _ _ _ _ _ _ _ _ _ _ _ _ _ _ _ _ _ _ _ _ _ _ _ _ _ _ _ _ _ _ _ _ _ _ _ _ _ _ _ _ _ _ _ _ _ _ _ _ _ _ _ _ _ _ _ _ _ _ _ _ _ _ _ _ _ _ _ _ _ _ _ _ _ _ _ _ _ _ _ _ _ _ _ _ _ _ _ _ _ _ _ _ _ _ _ _ _ _ _ _ _ _ _ _ _ _ _ _ _ _ _ _ _ _ _ _ _ _ _ _ _ _ _ _ _ _ _ _ _ _ _ _ _ _ _ _ _ _ _ _ _ _ _ _ _ _ _ _ _ _ _ _ _ _ _ _ _ _ _ _ _ _ _ _ _ _ _ _ _ _ _ _ _ _ _ _ _ _ _ _ _ _ _ _ _ _ _ _ _ _ _ _ _ _ _ _ _ _ _ _ _ _ _ _ _ _ _ _ _ _ _ _ _ _ _ _ _ _ _ _ _ _ _ _ _ _ _ _ _ _ _ _ _ _ _ _ _ _ _ _ _ _ _ _ _ _ _ _ _ _ _ _ _ _ _ _ _ _ _ _ _ _ _ _ _ _ _ _ _ _ _ _ _ _ _ _ _ _ _ _ _ _ _ _ _ _ _ _ _ _ _ _ _ _ _ _ _ _ _ _ _ _ _ _ _ _ _ _ _ _ _ _ _ _ _ _ _ _ _ ks L rr el cl ho lo ca cb cc mca mb mcc mla lb mlc eb sb hb Q rl rpd ql n15 mn sf zb rule rI qa qc _ ?_ HE.out.1 HE.out.2.1 hks hL hn15 hcl HE.out.2.2.1 SQ hru2 hrI hrp HE.out.2.2.2
      assumption
end Go.Proofs.YbulkcuegFmt
