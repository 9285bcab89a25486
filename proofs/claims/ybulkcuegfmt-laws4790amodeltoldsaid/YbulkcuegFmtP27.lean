import Derived.Test.YbulkcuegFmtLaw4
import Derived.Test.YbulkcuegFmtP31
namespace Go.Proofs.YbulkcuegFmt
open Go.RowKit Go.Maps

theorem Src.setc {W : World} {sb db k : Nat} {va : Option Addr} {nv vcap : Nat} {vals : Nat → Int} {kk : Nat} {v : Value} (h : Src W sb va nv vcap vals kk) (hne : sb ≠ db) (hb : ∀ b o, va = some ⟨b, o, none⟩ → b ≠ db) : Src (W.setCell ⟨db, k, none⟩ v) sb va nv vcap vals kk :=
  ⟨(Below.heap_setCell _ _ _ _ hne).trans h.hp, fun i hi => by obtain ⟨b, o, h1, h2, h3⟩ := h.v i hi; exact ⟨b, o, h1, h2, cell_set h3 (hb b o h1)⟩, h.rg⟩
set_option maxRecDepth 1000000 in
set_option maxHeartbeats 2000000 in
theorem P27 (w : World)
    (s0 s1 s2 s3 s5 s8 s9 s10 s11 s12 s13 s14 s15 s20 s21 s23 s24 s28 s29 s30 s31 s32 s33 s34 s35 s36 s37 s38 s39 s40 s41 s42 s43 s44 s45 s46 s47 s48 s49 s50 s51 s52 s53 s54 s55 s56 s57 s58 s59 s60 s61 s62 s63 s64 s65 s66 s67 s68 s69 s70 s71 s72 s73 s74 s75 s76 s77 s78 s79 s80 s81 s82 s83 s84 s85 s86 s87 s88 s89 s90 s91 s92 s93 s94 s95 s96 s97 s98 s99 s100 s101 s102 s103 s104 s105 s106 s107 s108 s109 s110 s111 s112 s113 s114 s115 s116 s117 s118 s119 s120 s121 s122 s123 s124 s125 s126 s127 s128 s129 s130 s131 s132 s133 s134 s135 s136 s137 s138 s139 s140 s141 s142 s143 s144 s145 s146 s147 s148 s149 s150 s151 s152 s153 s154 s155 s156 s157 s158 s159 s160 s161 s162 s163 s164 s165 s166 s167 s168 s169 s170 s171 s172 s173 s174 s175 s176 s177 s178 s179 s180 s181 s182 s183 s184 s185 s186 s187 s188 s189 s190 s191 s192 s193 s194 s195 s196 s197 s198 s199 s200 s201 s202 s203 s204 s205 s206 s207 s208 s209 s210 s211 s212 s213 s214 s215 s216 s217 s218 s219 s220 s221 s222 s223 s224 s225 s226 s227 s228 s229 s230 s231 s232 s233 s234 s235 s236 s237 s238 s239 s240 s241 s242 s243 s244 s245 s246 s247 s248 s249 s250 s251 s252 s253 s254 s255 s256 s257 s258 s259 s260 s261 s262 s263 s264 s265 s266 s267 s268 s269 s270 s271 s272 s273 s274 s275 s276 s277 s278 s279 s280 s281 s282 s283 s284 s285 s286 s287 s288 s289 s290 s291 s292 s293 s294 s295 s296 s297 s298 s299 s300 s301 s302 s303 s304 s305 s306 s307 s308 s309 s310 s311 s312 s313 s314 s315 s316 s317 s318 s319 s320 s321 s322 s323 s324 s325 s326 s327 s328 s329 s330 s331 s332 s333 s334 s335 s336 s337 s338 s339 s340 s341 s342 s343 s344 s345 s346 s347 s348 s349 s350 s351 s352 s353 s354 s355 s356 s357 s358 s359 s360 s361 s362 s363 s364 s365 s366 s367 s368 s369 s370 s371 s372 s373 s374 s375 s376 s377 s378 s379 s380 s381 s382 s383 s384 s385 s386 s387 s388 s389 s390 s391 s392 s393 s394 s395 s396 s397 s398 s399 s400 s401 s402 s403 s404 s405 s406 s407 s408 s409 s410 s411 s412 s413 s414 s415 s416 s417 s418 s419 s420 s421 s422 s423 s424 s425 s426 s427 s428 s429 s430 s431 s432 s433 s434 s435 s436 s437 s438 s439 s440 s441 s442 s443 s444 s445 s446 s447 s448 s449 s450 s451 s452 s453 s454 s455 s456 s457 s458 s459 s460 s461 s462 s463 s464 s465 s466 s467 s468 s469 s470 s471 s472 s473 s474 s475 s476 s477 s478 s479 s480 s481 s482 s483 s484 s485 s486 s487 s488 s489 s490 s491 s492 s493 s494 s495 s496 s497 s498 s499 s500 s501 s502 : Value)
    (K : Act → World → Prop) (rpd : Fin 5) (ql : Nat → Fin 5) (n15 : Nat) (mn : Bool) (md rI : Int) (qa : Option Addr) (qc : Nat) (dl : List Int) (da : Option Addr) (dc : Nat) (hl : List Int) (ha : Option Addr) (hc : Nat) (n6 : Nat) (fl : Nat → Fin 5) (fa : Option Addr) (fc ob pf : Nat) (ra : Option Addr) (nr rc : Nat) (vals : Nat → Int) (sc n : Nat) (qf : Nat → Fin 50) (lv cd : Nat → Int) (hgh kn : Nat → Bool) (W : World)
    (hK : ∀ a w', Code.wp Ybaf.prog (spine 14 (Ybaf.f3.body.getD .skip)) (bodyPost Ybaf.prog Ybaf.f3 fun e w' => e = .returned (.bool true) ∧ Below w.heap.size w w') a w' → K a w')
    (B : Below w.heap.size w W) (X : L2 W dl (.slice da dl.length dc) hl (.slice ha hl.length hc) n6 fl (.slice fa n6 fc) n15 ql (.slice qa n15 qc) ob pf md rpd ra nr rc vals) (S : Scan W sc n qf lv cd hgh kn) (hsc : sc < W.heap.size) (hn : n ≤ 300) (hmd : md = if mn then 1 else 0) (hrI : 0 ≤ rI ∧ rI ≤ 255) (hrp : md5 rI = rpd.val) :
    Code.wp Ybaf.prog (headAt 13 (Ybaf.f3.body.getD .skip)) (Exit.then K (bodyPost Ybaf.prog Ybaf.f3 fun e w' => e = .returned (.bool true) ∧ Below w.heap.size w w')) ⟨List.toArray (s0 :: s1 :: s2 :: s3 :: .int .u8 rI :: s5 :: .bool mn :: .slice ra nr rc :: s8 :: s9 :: s10 :: s11 :: s12 :: s13 :: s14 :: s15 :: .bool false :: .slice da dl.length dc :: .slice ha hl.length hc :: .slice fa n6 fc :: s20 :: s21 :: .slice qa n15 qc :: s23 :: s24 :: .pointer (some ⟨ob, 0, none⟩) :: .pointer (some ⟨pf, 0, none⟩) :: .slice (some ⟨sc, 0, none⟩) n n :: s28 :: s29 :: s30 :: s31 :: s32 :: s33 :: s34 :: s35 :: s36 :: s37 :: s38 :: s39 :: s40 :: s41 :: s42 :: s43 :: s44 :: s45 :: s46 :: s47 :: s48 :: s49 :: s50 :: s51 :: s52 :: s53 :: s54 :: s55 :: s56 :: s57 :: s58 :: s59 :: s60 :: s61 :: s62 :: s63 :: s64 :: s65 :: s66 :: s67 :: s68 :: s69 :: s70 :: s71 :: s72 :: s73 :: s74 :: s75 :: s76 :: s77 :: s78 :: s79 :: s80 :: s81 :: s82 :: s83 :: s84 :: s85 :: s86 :: s87 :: s88 :: s89 :: s90 :: s91 :: s92 :: s93 :: s94 :: s95 :: s96 :: s97 :: s98 :: s99 :: s100 :: s101 :: s102 :: s103 :: s104 :: s105 :: s106 :: s107 :: s108 :: s109 :: s110 :: s111 :: s112 :: s113 :: s114 :: s115 :: s116 :: s117 :: s118 :: s119 :: s120 :: s121 :: s122 :: s123 :: s124 :: s125 :: s126 :: s127 :: s128 :: s129 :: s130 :: s131 :: s132 :: s133 :: s134 :: s135 :: s136 :: s137 :: s138 :: s139 :: s140 :: s141 :: s142 :: s143 :: s144 :: s145 :: s146 :: s147 :: s148 :: s149 :: s150 :: s151 :: s152 :: s153 :: s154 :: s155 :: s156 :: s157 :: s158 :: s159 :: s160 :: s161 :: s162 :: s163 :: s164 :: s165 :: s166 :: s167 :: s168 :: s169 :: s170 :: s171 :: s172 :: s173 :: s174 :: s175 :: s176 :: s177 :: s178 :: s179 :: s180 :: s181 :: s182 :: s183 :: s184 :: s185 :: s186 :: s187 :: s188 :: s189 :: s190 :: s191 :: s192 :: s193 :: s194 :: s195 :: s196 :: s197 :: s198 :: s199 :: s200 :: s201 :: s202 :: s203 :: s204 :: s205 :: s206 :: s207 :: s208 :: s209 :: s210 :: s211 :: s212 :: s213 :: s214 :: s215 :: s216 :: s217 :: s218 :: s219 :: s220 :: s221 :: s222 :: s223 :: s224 :: s225 :: s226 :: s227 :: s228 :: s229 :: s230 :: s231 :: s232 :: s233 :: s234 :: s235 :: s236 :: s237 :: s238 :: s239 :: s240 :: s241 :: s242 :: s243 :: s244 :: s245 :: s246 :: s247 :: s248 :: s249 :: s250 :: s251 :: s252 :: s253 :: s254 :: s255 :: s256 :: s257 :: s258 :: s259 :: s260 :: s261 :: s262 :: s263 :: s264 :: s265 :: s266 :: s267 :: s268 :: s269 :: s270 :: s271 :: s272 :: s273 :: s274 :: s275 :: s276 :: s277 :: s278 :: s279 :: s280 :: s281 :: s282 :: s283 :: s284 :: s285 :: s286 :: s287 :: s288 :: s289 :: s290 :: s291 :: s292 :: s293 :: s294 :: s295 :: s296 :: s297 :: s298 :: s299 :: s300 :: s301 :: s302 :: s303 :: s304 :: s305 :: s306 :: s307 :: s308 :: s309 :: s310 :: s311 :: s312 :: s313 :: s314 :: s315 :: s316 :: s317 :: s318 :: s319 :: s320 :: s321 :: s322 :: s323 :: s324 :: s325 :: s326 :: s327 :: s328 :: s329 :: s330 :: s331 :: s332 :: s333 :: s334 :: s335 :: s336 :: s337 :: s338 :: s339 :: s340 :: s341 :: s342 :: s343 :: s344 :: s345 :: s346 :: s347 :: s348 :: s349 :: s350 :: s351 :: s352 :: s353 :: s354 :: s355 :: s356 :: s357 :: s358 :: s359 :: s360 :: s361 :: s362 :: s363 :: s364 :: s365 :: s366 :: s367 :: s368 :: s369 :: s370 :: s371 :: s372 :: s373 :: s374 :: s375 :: s376 :: s377 :: s378 :: s379 :: s380 :: s381 :: s382 :: s383 :: s384 :: s385 :: s386 :: s387 :: s388 :: s389 :: s390 :: s391 :: s392 :: s393 :: s394 :: s395 :: s396 :: s397 :: s398 :: s399 :: s400 :: s401 :: s402 :: s403 :: s404 :: s405 :: s406 :: s407 :: s408 :: s409 :: s410 :: s411 :: s412 :: s413 :: s414 :: s415 :: s416 :: s417 :: s418 :: s419 :: s420 :: s421 :: s422 :: s423 :: s424 :: s425 :: s426 :: s427 :: s428 :: s429 :: s430 :: s431 :: s432 :: s433 :: s434 :: s435 :: s436 :: s437 :: s438 :: s439 :: s440 :: s441 :: s442 :: s443 :: s444 :: s445 :: s446 :: s447 :: s448 :: s449 :: s450 :: s451 :: s452 :: s453 :: s454 :: s455 :: s456 :: s457 :: s458 :: s459 :: s460 :: s461 :: s462 :: s463 :: s464 :: s465 :: s466 :: s467 :: s468 :: s469 :: s470 :: s471 :: s472 :: s473 :: s474 :: s475 :: s476 :: s477 :: s478 :: s479 :: s480 :: s481 :: s482 :: s483 :: s484 :: s485 :: s486 :: s487 :: s488 :: s489 :: s490 :: s491 :: s492 :: s493 :: s494 :: s495 :: s496 :: s497 :: s498 :: s499 :: s500 :: s501 :: s502 :: []), []⟩ W := by
  conv => arg 2; whnf
  conv at hK => enter [a, w', 1, 2]; whnf
  have b1 := bal (o := (.cells #[.slice ra nr rc, .int .i64 0] 51)) (Below.refl _ W)
  have hsrc := X.src
  have X1 := X.next b1
  have hsz1 : (W.alloc (.cells #[.slice ra nr rc, .int .i64 0] 51)).heap.size = W.heap.size + 1 := by simp
  have hdev := X1.dev (sb := W.heap.size) (by rw [hsz1]; omega)
  have HR : Hid _ := And.intro B (And.intro X (And.intro S hsc))
  have H1 : Hid _ := And.intro b1 (And.intro hsrc X1)
  clear B X S hsc b1 hsrc X1
  go_upto_region 28 with fail
  generalize W.alloc (.cells #[.slice ra nr rc, .int .i64 0] 51) = W1 at H1 hsz1 hdev ⊢
  generalize hsb : W.heap.size = sb at hdev ⊢
  have HSB : Hid _ := hsb
  clear hsb
  go_wp2_with fail
  refine hdev.mono ?_
  rintro e W2 ⟨db, rfl, hb2, hdb1, hdb2, D2⟩
  obtain ⟨D3, c20, f20⟩ := D2.cover (.slice (some ⟨sc, 0, none⟩) n n)
  have hb1 := H1.out.1
  have hsc := HR.out.2.2.2
  have hSB := HSB.out
  have hra : ∀ b o, ra = some ⟨b, o, none⟩ → b < W.heap.size := H1.out.2.1.2
  have S3 : Scan (W2.setCell ⟨db, 20, none⟩ (.slice (some ⟨sc, 0, none⟩) n n)) sc n qf lv cd hgh kn := ((HR.out.2.2.1.of_block (hb1.block _ hsc)).of_block (hb2.block _ (by omega))).of_block (Below.heap_setCell _ _ _ _ (show sc ≠ db by omega))
  have X2 : Src W2 sb ra nr rc vals 0 := by rw [← hSB]; exact H1.out.2.1.1.below hb2
  have hsel := select_any db sb md rpd n15 ql dl hl n6 fl sc n qf lv cd hgh kn (W2.setCell ⟨db, 20, none⟩ (.slice (some ⟨sc, 0, none⟩) n n)) ra nr rc vals 0 (by omega) HR.out.2.1.le.2.2.2.1 (by rw [hmd]; cases mn <;> simp) D3 (by simp [World.setCell]; have := hb2.size; omega) S3 (by omega) (X2.setc (by omega) (fun b o e => by have := hra b o e; omega)) ⟨by omega, by have := HR.out.2.1.le.2.2.2.2; omega, fun b o e => by have := hra b o e; have := hb2.size; simp [World.setCell]; omega⟩
  have HB3 : Hid (Below W.heap.size W (W2.setCell ⟨db, 20, none⟩ (.slice (some ⟨sc, 0, none⟩) n n))) := (H1.out.1.trans (hb2.mono H1.out.1.size)).setCell (p := ⟨db, 20, none⟩) (show W.heap.size ≤ db by omega) _
  have HD : Hid (W.heap.size < db) := (show W.heap.size < db by omega)
  clear D2 D3 hb2 hdb1 hdb2 hsz1 hdev hb1 hsc hSB hra S3 X2
  go_upto_region 30 with fail
  generalize W2.setCell ⟨db, 20, none⟩ (.slice (some ⟨sc, 0, none⟩) n n) = W3 at hsel HB3 ⊢
  clear c20 f20
  go_wp2_with fail
  refine hsel.mono ?_
  rintro e W4 ⟨vc, rule, rfl, G4, D', O, SP⟩
  obtain ⟨L, rr, ca, cb, cc, rfl, hca, hcc, hL, SQ, hru⟩ := sel_said (firsts_nodup qf n) hmd O SP
  have HS : Hid _ := SQ
  have HU : Hid _ := hru
  have b5 := bal (o := (.cells #[.int .u8 rule, .int .u8 0, .int .i64 0] 64)) (Below.refl _ W4)
  have hz5 := (MapKept.heap_alloc W4 (.cells #[.int .u8 rule, .int .u8 0, .int .i64 0] 64)).1
  have HB5 : Hid (Below W.heap.size W (W4.alloc (.cells #[.int .u8 rule, .int .u8 0, .int .i64 0] 64))) := by
    have hb3 := HB3.out
    have h4 : Below W.heap.size W W4 := ⟨G4.os.trans hb3.os, G4.tape.trans hb3.tape, G4.output.trans hb3.output, Nat.le_trans hb3.size G4.size, fun k hk => (G4.block k (Nat.lt_of_lt_of_le hk hb3.size) (by have := HD.out; omega) (by have := HSB.out; omega)).trans (hb3.block k hk)⟩
    exact h4.trans (b5.mono h4.size)
  have hc5 : ∀ i, i < L.length → ∀ c, c < 6 → (W4.alloc (.cells #[.int .u8 rule, .int .u8 0, .int .i64 0] 64)).cell? ⟨cb, i * 6 + c, none⟩ = (rkd (rr (L.getD i 0)) (L.getD i 0))[c]? := fun i hi c hc' => by
    have h := hcc i hi c hc'
    have h9 : c < (rkd (rr (L.getD i 0)) (L.getD i 0)).length := hc'
    rw [List.getElem?_eq_getElem h9] at h ⊢
    exact cell_alloc h
  have HC5 : Hid _ := And.intro hc5 (And.intro hca hz5)
  clear SQ hru O SP G4 b5 hsel HB3 hcc hc5 hca hz5
  go_upto_region 31 with fail
  generalize W4.alloc (.cells #[.int .u8 rule, .int .u8 0, .int .i64 0] 64) = W5 at HB5 HC5 ⊢
  generalize W4.heap.size = zb at HC5 ⊢
  have HY : Hid (Below w.heap.size w W5 ∧ L1 W5 L rr ca cb dl (.slice da dl.length dc) hl (.slice ha hl.length hc) n6 fl (.slice fa n6 fc) n15 ql (.slice qa n15 qc) ob zb rule sc n qf lv cd hgh kn) := by
    have X5 := HR.out.2.1.next HB5.out
    exact ⟨HR.out.1.trans (HB5.out.mono HR.out.1.size), HC5.out.1, HC5.out.2.1, X5.d, X5.h, X5.f, X5.q, X5.o, HC5.out.2.2, HR.out.2.2.1.of_block (HB5.out.block _ HR.out.2.2.2), Nat.lt_of_lt_of_le HR.out.2.2.2 HB5.out.size⟩
  have le := HR.out.2.1.le
  refine P31 w _ _ _ _ _ _ _ _ _ _ _ _ _ _ _ _ _ _ _ _ _ _ _ _ _ _ _ _ _ _ _ _ _ _ _ _ _ _ _ _ _ _ _ _ _ _ _ _ _ _ _ _ _ _ _ _ _ _ _ _ _ _ _ _ _ _ _ _ _ _ _ _ _ _ _ _ _ _ _ _ _ _ _ _ _ _ _ _ _ _ _ _ _ _ _ _ _ _ _ _ _ _ _ _ _ _ _ _ _ _ _ _ _ _ _ _ _ _ _ _ _ _ _ _ _ _ _ _ _ _ _ _ _ _ _ _ _ _ _ _ _ _ _ _ _ _ _ _ _ _ _ _ _ _ _ _ _ _ _ _ _ _ _ _ _ _ _ _ _ _ _ _ _ _ _ _ _ _ _ _ _ _ _ _ _ _ _ _ _ _ _ _ _ _ _ _ _ _ _ _ _ _ _ _ _ _ _ _ _ _ _ _ _ _ _ _ _ _ _ _ _ _ _ _ _ _ _ _ _ _ _ _ _ _ _ _ _ _ _ _ _ _ _ _ _ _ _ _ _ _ _ _ _ _ _ _ _ _ _ _ _ _ _ _ _ _ _ _ _ _ _ _ _ _ _ _ _ _ _ _ _ _ _ _ _ _ _ _ _ _ _ _ _ _ _ _ _ _ _ _ _ _ _ _ _ _ _ _ _ _ _ _ _ _ _ _ _ _ _ _ _ _ _ _ _ _ _ _ _ _ _ _ _ _ _ _ _ _ _ _ _ _ _ _ _ _ _ _ _ _ _ _ _ _ _ _ _ _ _ _ _ _ _ _ _ _ _ _ _ _ _ _ _ _ _ _ _ _ _ _ _ _ _ _ _ _ _ _ _ _ _ _ _ _ _ _ _ _ _ _ _ _ _ _ _ _ _ _ _ _ _ _ _ _ _ _ _ _ _ _ _ _ _ _ _ _ _ _ _ _ _ _ _ _ _ _ _ _ _ _ _ _ _ _ _ _ _ _ _ _ _ _ _ _ _ _ _ _ _ _ _ _ _ _ _ _ _ _ _ _ _ _ _ _ _ _ _ _ _ _ _ _ _ _ _ _ _ _ _ _ _ _ _ L rr ca cb cc _ _ rpd ql n15 mn zb rule rI qa qc dl da dc hl ha hc n6 fl fa fc ob sc n qf lv cd hgh kn _ ?_ HY.out.1 HY.out.2 hn hL le.2.2.2.1 le.1 le.2.1 le.2.2.1 HS HU hrI hrp
  assumption
end Go.Proofs.YbulkcuegFmt
