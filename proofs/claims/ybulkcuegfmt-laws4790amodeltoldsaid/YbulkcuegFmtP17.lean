import Derived.Test.YbulkcuegFmtP21
namespace Go.Proofs.YbulkcuegFmt
open Go.RowKit Go.Maps

/-- what the law has when the profile is made -/
structure L3 (W : World) (dl : List Int) (dv : Value) (hl : List Int) (hv : Value) (n6 : Nat) (fl : Nat → Fin 5) (fv : Value) (n15 : Nat) (ql : Nat → Fin 5) (qv : Value) (ra : Option Addr) (nr rc : Nat) (vals : Nat → Int) : Prop where
  d : RowV W dv dl.length (fun i => .int .u16 (dl.getD i 0))
  h : RowV W hv hl.length (fun i => .int .u16 (hl.getD i 0))
  f : RowV W fv n6 (fun i => .string (dig (fl i).val))
  q : RowV W qv n15 (fun i => .string (dig (ql i).val))
  r : RowV W (.slice ra nr rc) nr (fun i => .int .u64 (vals i))
  rg : ∀ i, i < nr → 0 ≤ vals i ∧ vals i ≤ 18446744073709551615
  nd : (dl.Nodup ∧ ∀ x ∈ dl, 0 ≤ x ∧ x < 9) ∧ (hl.Nodup ∧ ∀ x ∈ hl, 0 ≤ x ∧ x < 9)
  le : dl.length ≤ 300 ∧ hl.length ≤ 300 ∧ n6 ≤ 300 ∧ n15 ≤ 300 ∧ nr ≤ 300
theorem L3.next {W W' : World} {dl : List Int} {dv : Value} {hl : List Int} {hv : Value} {n6 : Nat} {fl : Nat → Fin 5} {fv : Value} {n15 : Nat} {ql : Nat → Fin 5} {qv : Value} {ra : Option Addr} {nr rc : Nat} {vals : Nat → Int} (h : L3 W dl dv hl hv n6 fl fv n15 ql qv ra nr rc vals) (g : Below W.heap.size W W') : L3 W' dl dv hl hv n6 fl fv n15 ql qv ra nr rc vals :=
  ⟨h.d.below g, h.h.below g, h.f.below g, h.q.below g, h.r.below g, h.rg, h.nd, h.le⟩
theorem L3.l2 {W : World} {dl : List Int} {dv : Value} {hl : List Int} {hv : Value} {n6 : Nat} {fl : Nat → Fin 5} {fv : Value} {n15 : Nat} {ql : Nat → Fin 5} {qv : Value} {ra : Option Addr} {nr rc : Nat} {vals : Nat → Int} (h : L3 W dl dv hl hv n6 fl fv n15 ql qv ra nr rc vals) {ob pf : Nat} {md : Int} {rpd : Fin 5} {im : ByteArray} {mnc : Int} {v7 : Value} (o : W.cell? ⟨ob, 0, none⟩ = some (.string (dig 1))) (p : W.heap[pf]? = some (.cells (profC im mnc dv hv fv v7 md (dig rpd.val) qv) 38 (0, 0))) (r7 : RowV W v7 1 (fun _ => .string (dig 1))) :
    L2 W dl dv hl hv n6 fl fv n15 ql qv ob pf md rpd ra nr rc vals := ⟨h.d, h.h, h.f, h.q, o, ⟨im, mnc, v7, p, r7⟩, h.r, h.rg, h.nd, h.le⟩
theorem L3.put {W : World} {dl : List Int} {dv : Value} {hl : List Int} {hv : Value} {n6 : Nat} {fl : Nat → Fin 5} {fv : Value} {n15 : Nat} {ql : Nat → Fin 5} {qv : Value} {ra : Option Addr} {nr rc : Nat} {vals : Nat → Int} {ob pf : Nat} {rpd : Fin 5} {im : ByteArray} {mnc : Int} {v7 : Value} (o : W.cell? ⟨ob, 0, none⟩ = some (.string (dig 1))) (p : W.heap[pf]? = some (.cells (profC im mnc dv hv fv v7 0 (dig rpd.val) qv) 38 (0, 0))) (r7 : RowV W v7 1 (fun _ => .string (dig 1))) {W0 : World} (B : Below W0.heap.size W0 W) (hp : W0.heap.size ≤ pf) (V : L3 W0 dl dv hl hv n6 fl fv n15 ql qv ra nr rc vals) (hob : ob ≠ pf) (h7 : ∀ b o c, v7 = .slice (some ⟨b, o, none⟩) 1 c → b ≠ pf) :
    Below W0.heap.size W0 (W.setCell ⟨pf, 9, none⟩ (.int .u8 1)) ∧ L2 (W.setCell ⟨pf, 9, none⟩ (.int .u8 1)) dl dv hl hv n6 fl fv n15 ql qv ob pf 1 rpd ra nr rc vals := by
  have b' := B.setCell (p := ⟨pf, 9, none⟩) hp (.int .u8 1)
  refine ⟨b', (V.next b').l2 (cell_set o hob) (heap_set _ p) ?_⟩
  rcases r7 with ⟨_, h0⟩ | ⟨b, o, c, e, hb, hc⟩
  · omega
  · exact .inr ⟨b, o, c, e, by simpa [World.setCell] using hb, fun i hi => cell_set (hc i hi) (h7 b o c e)⟩
set_option maxRecDepth 1000000 in
set_option maxHeartbeats 2000000 in
theorem P17 (w : World)
    (s1 s2 s3 s5 s8 s9 s10 s11 s12 s13 s14 s15 s20 s21 s23 s24 s25 s26 s27 s28 s29 s30 s31 s32 s33 s34 s35 s36 s37 s38 s39 s40 s41 s42 s43 s44 s45 s46 s47 s48 s49 s50 s51 s52 s53 s54 s55 s56 s57 s58 s59 s60 s61 s62 s63 s64 s65 s66 s67 s68 s69 s70 s71 s72 s73 s74 s75 s76 s77 s78 s79 s80 s81 s82 s83 s84 s85 s86 s87 s88 s89 s90 s91 s92 s93 s94 s95 s96 s97 s98 s99 s100 s101 s102 s103 s104 s105 s106 s107 s108 s109 s110 s111 s112 s113 s114 s115 s116 s117 s118 s119 s120 s121 s122 s123 s124 s125 s126 s127 s128 s129 s130 s131 s132 s133 s134 s135 s136 s137 s138 s139 s140 s141 s142 s143 s144 s145 s146 s147 s148 s149 s150 s151 s152 s153 s154 s155 s156 s157 s158 s159 s160 s161 s162 s163 s164 s165 s166 s167 s168 s169 s170 s171 s172 s173 s174 s175 s176 s177 s178 s179 s180 s181 s182 s183 s184 s185 s186 s187 s188 s189 s190 s191 s192 s193 s194 s195 s196 s197 s198 s199 s200 s201 s202 s203 s204 s205 s206 s207 s208 s209 s210 s211 s212 s213 s214 s215 s216 s217 s218 s219 s220 s221 s222 s223 s224 s225 s226 s227 s228 s229 s230 s231 s232 s233 s234 s235 s236 s237 s238 s239 s240 s241 s242 s243 s244 s245 s246 s247 s248 s249 s250 s251 s252 s253 s254 s255 s256 s257 s258 s259 s260 s261 s262 s263 s264 s265 s266 s267 s268 s269 s270 s271 s272 s273 s274 s275 s276 s277 s278 s279 s280 s281 s282 s283 s284 s285 s286 s287 s288 s289 s290 s291 s292 s293 s294 s295 s296 s297 s298 s299 s300 s301 s302 s303 s304 s305 s306 s307 s308 s309 s310 s311 s312 s313 s314 s315 s316 s317 s318 s319 s320 s321 s322 s323 s324 s325 s326 s327 s328 s329 s330 s331 s332 s333 s334 s335 s336 s337 s338 s339 s340 s341 s342 s343 s344 s345 s346 s347 s348 s349 s350 s351 s352 s353 s354 s355 s356 s357 s358 s359 s360 s361 s362 s363 s364 s365 s366 s367 s368 s369 s370 s371 s372 s373 s374 s375 s376 s377 s378 s379 s380 s381 s382 s383 s384 s385 s386 s387 s388 s389 s390 s391 s392 s393 s394 s395 s396 s397 s398 s399 s400 s401 s402 s403 s404 s405 s406 s407 s408 s409 s410 s411 s412 s413 s414 s415 s416 s417 s418 s419 s420 s421 s422 s423 s424 s425 s426 s427 s428 s429 s430 s431 s432 s433 s434 s435 s436 s437 s438 s439 s440 s441 s442 s443 s444 s445 s446 s447 s448 s449 s450 s451 s452 s453 s454 s455 s456 s457 s458 s459 s460 s461 s462 s463 s464 s465 s466 s467 s468 s469 s470 s471 s472 s473 s474 s475 s476 s477 s478 s479 s480 s481 s482 s483 s484 s485 s486 s487 s488 s489 s490 s491 s492 s493 s494 s495 s496 s497 s498 s499 s500 s501 s502 : Value)
    (K : Act → World → Prop) (rpd : Fin 5) (ql : Nat → Fin 5) (n15 : Nat) (mn : Bool) (rI : Int) (qa : Option Addr) (qc : Nat) (dl : List Int) (da : Option Addr) (dc : Nat) (hl : List Int) (ha : Option Addr) (hc : Nat) (n6 : Nat) (fl : Nat → Fin 5) (fa : Option Addr) (fc : Nat) (ra : Option Addr) (nr rc : Nat) (vals : Nat → Int) (oa : Option Addr) (n oc : Nat) (op oA ol : Nat → Int) (oh : Nat → Bool) (W : World)
    (hK : ∀ a w', Code.wp Ybaf.prog (spine 9 (Ybaf.f3.body.getD .skip)) (bodyPost Ybaf.prog Ybaf.f3 fun e w' => e = .returned (.bool true) ∧ Below w.heap.size w w') a w' → K a w')
    (B : Below w.heap.size w W) (V : L3 W dl (.slice da dl.length dc) hl (.slice ha hl.length hc) n6 fl (.slice fa n6 fc) n15 ql (.slice qa n15 qc) ra nr rc vals) (O : ObsR W oa n op oA oh ol) (hn : n ≤ 300) (hrI : 0 ≤ rI ∧ rI ≤ 255) (hrp : md5 rI = rpd.val) :
    Code.wp Ybaf.prog (headAt 8 (Ybaf.f3.body.getD .skip)) (Exit.then K (bodyPost Ybaf.prog Ybaf.f3 fun e w' => e = .returned (.bool true) ∧ Below w.heap.size w w')) ⟨List.toArray (.slice oa n oc :: s1 :: s2 :: s3 :: .int .u8 rI :: s5 :: .bool mn :: .slice ra nr rc :: s8 :: s9 :: s10 :: s11 :: s12 :: s13 :: s14 :: s15 :: .bool false :: .slice da dl.length dc :: .slice ha hl.length hc :: .slice fa n6 fc :: s20 :: s21 :: .slice qa n15 qc :: s23 :: s24 :: s25 :: s26 :: s27 :: s28 :: s29 :: s30 :: s31 :: s32 :: s33 :: s34 :: s35 :: s36 :: s37 :: s38 :: s39 :: s40 :: s41 :: s42 :: s43 :: s44 :: s45 :: s46 :: s47 :: s48 :: s49 :: s50 :: s51 :: s52 :: s53 :: s54 :: s55 :: s56 :: s57 :: s58 :: s59 :: s60 :: s61 :: s62 :: s63 :: s64 :: s65 :: s66 :: s67 :: s68 :: s69 :: s70 :: s71 :: s72 :: s73 :: s74 :: s75 :: s76 :: s77 :: s78 :: s79 :: s80 :: s81 :: s82 :: s83 :: s84 :: s85 :: s86 :: s87 :: s88 :: s89 :: s90 :: s91 :: s92 :: s93 :: s94 :: s95 :: s96 :: s97 :: s98 :: s99 :: s100 :: s101 :: s102 :: s103 :: s104 :: s105 :: s106 :: s107 :: s108 :: s109 :: s110 :: s111 :: s112 :: s113 :: s114 :: s115 :: s116 :: s117 :: s118 :: s119 :: s120 :: s121 :: s122 :: s123 :: s124 :: s125 :: s126 :: s127 :: s128 :: s129 :: s130 :: s131 :: s132 :: s133 :: s134 :: s135 :: s136 :: s137 :: s138 :: s139 :: s140 :: s141 :: s142 :: s143 :: s144 :: s145 :: s146 :: s147 :: s148 :: s149 :: s150 :: s151 :: s152 :: s153 :: s154 :: s155 :: s156 :: s157 :: s158 :: s159 :: s160 :: s161 :: s162 :: s163 :: s164 :: s165 :: s166 :: s167 :: s168 :: s169 :: s170 :: s171 :: s172 :: s173 :: s174 :: s175 :: s176 :: s177 :: s178 :: s179 :: s180 :: s181 :: s182 :: s183 :: s184 :: s185 :: s186 :: s187 :: s188 :: s189 :: s190 :: s191 :: s192 :: s193 :: s194 :: s195 :: s196 :: s197 :: s198 :: s199 :: s200 :: s201 :: s202 :: s203 :: s204 :: s205 :: s206 :: s207 :: s208 :: s209 :: s210 :: s211 :: s212 :: s213 :: s214 :: s215 :: s216 :: s217 :: s218 :: s219 :: s220 :: s221 :: s222 :: s223 :: s224 :: s225 :: s226 :: s227 :: s228 :: s229 :: s230 :: s231 :: s232 :: s233 :: s234 :: s235 :: s236 :: s237 :: s238 :: s239 :: s240 :: s241 :: s242 :: s243 :: s244 :: s245 :: s246 :: s247 :: s248 :: s249 :: s250 :: s251 :: s252 :: s253 :: s254 :: s255 :: s256 :: s257 :: s258 :: s259 :: s260 :: s261 :: s262 :: s263 :: s264 :: s265 :: s266 :: s267 :: s268 :: s269 :: s270 :: s271 :: s272 :: s273 :: s274 :: s275 :: s276 :: s277 :: s278 :: s279 :: s280 :: s281 :: s282 :: s283 :: s284 :: s285 :: s286 :: s287 :: s288 :: s289 :: s290 :: s291 :: s292 :: s293 :: s294 :: s295 :: s296 :: s297 :: s298 :: s299 :: s300 :: s301 :: s302 :: s303 :: s304 :: s305 :: s306 :: s307 :: s308 :: s309 :: s310 :: s311 :: s312 :: s313 :: s314 :: s315 :: s316 :: s317 :: s318 :: s319 :: s320 :: s321 :: s322 :: s323 :: s324 :: s325 :: s326 :: s327 :: s328 :: s329 :: s330 :: s331 :: s332 :: s333 :: s334 :: s335 :: s336 :: s337 :: s338 :: s339 :: s340 :: s341 :: s342 :: s343 :: s344 :: s345 :: s346 :: s347 :: s348 :: s349 :: s350 :: s351 :: s352 :: s353 :: s354 :: s355 :: s356 :: s357 :: s358 :: s359 :: s360 :: s361 :: s362 :: s363 :: s364 :: s365 :: s366 :: s367 :: s368 :: s369 :: s370 :: s371 :: s372 :: s373 :: s374 :: s375 :: s376 :: s377 :: s378 :: s379 :: s380 :: s381 :: s382 :: s383 :: s384 :: s385 :: s386 :: s387 :: s388 :: s389 :: s390 :: s391 :: s392 :: s393 :: s394 :: s395 :: s396 :: s397 :: s398 :: s399 :: s400 :: s401 :: s402 :: s403 :: s404 :: s405 :: s406 :: s407 :: s408 :: s409 :: s410 :: s411 :: s412 :: s413 :: s414 :: s415 :: s416 :: s417 :: s418 :: s419 :: s420 :: s421 :: s422 :: s423 :: s424 :: s425 :: s426 :: s427 :: s428 :: s429 :: s430 :: s431 :: s432 :: s433 :: s434 :: s435 :: s436 :: s437 :: s438 :: s439 :: s440 :: s441 :: s442 :: s443 :: s444 :: s445 :: s446 :: s447 :: s448 :: s449 :: s450 :: s451 :: s452 :: s453 :: s454 :: s455 :: s456 :: s457 :: s458 :: s459 :: s460 :: s461 :: s462 :: s463 :: s464 :: s465 :: s466 :: s467 :: s468 :: s469 :: s470 :: s471 :: s472 :: s473 :: s474 :: s475 :: s476 :: s477 :: s478 :: s479 :: s480 :: s481 :: s482 :: s483 :: s484 :: s485 :: s486 :: s487 :: s488 :: s489 :: s490 :: s491 :: s492 :: s493 :: s494 :: s495 :: s496 :: s497 :: s498 :: s499 :: s500 :: s501 :: s502 :: []), []⟩ W := by
  conv => arg 2; whnf
  conv at hK => enter [a, w', 1, 2]; whnf
  have b1 := bal (o := .cells #[.string (dig 1)] 29) (Below.refl _ W)
  have h1 := (MapKept.heap_alloc W (.cells #[.string (dig 1)] 29)).1
  have HR : Hid _ := And.intro B (And.intro V O)
  clear B V O
  have hpl := fun w => plmn_any rI w hrI.1 hrI.2
  rw [hrp] at hpl
  go_upto_region 18 with fail
  have hd1 : (⟨#[48, 48, 49, 48, 49]⟩ : ByteArray) = dig 1 := rfl
  rw [hd1]
  generalize W.alloc (.cells #[.string (dig 1)] 29) = W1 at b1 h1 ⊢
  generalize W.heap.size = ob at h1 ⊢
  have c0 : W1.cell? ⟨ob, 0, none⟩ = some (.string (dig 1)) := cell_of h1 rfl
  have HB1 : Hid _ := b1
  clear b1 h1 hd1
  go_region_held3 (fun w' => w'.cell? ⟨ob, 0, none⟩ = some (.string (dig 1)))
    ((repeat (first | assumption | refine cell_drew ?_ | refine cell_alloc ?_)))
    (first
      | (go_at_call 5; refine (hpl _).mono ?_; rintro e w1 ⟨rfl, hw1⟩
         have g0 : w1.cell? ⟨ob, 0, none⟩ = some (.string (dig 1)) := by
           rw [← hw1]
           repeat (first | assumption | refine cell_drew ?_ | refine cell_alloc ?_)))
  · skip
    rename_i hHeld
    clear hHeld
    have bp : Below W1.heap.size W1 (w1) := by rw [← hw1]; exact (Below.drew (bal (Below.refl _ W1))).alloc (by simp) _
    have hb7 : w1.heap[W1.heap.size]? = some (.cells #[.string (dig 1)] 29 (0, 0)) := by rw [← hw1]; exact (Below.heap_alloc _ _ _ (show W1.heap.size < (W1.alloc _).heap.size by simp)).trans (MapKept.heap_alloc W1 _).1
    have r7 : RowV w1 (.slice (some ⟨W1.heap.size, 0, none⟩) 1 1) 1 (fun _ => .string (dig 1)) := .inr ⟨W1.heap.size, 0, 1, rfl, lt_of_heap hb7, fun i hi => cell_of hb7 (by rw [show 0 + i = 0 by omega]; rfl)⟩
    have b8 := bal (o := (.cells (profC ⟨#[48, 48, 49, 48, 49, 48, 49, 50, 51, 52, 53, 54, 55, 56, 57]⟩ 2 (.slice da dl.length dc) (.slice ha hl.length hc) (.slice fa n6 fc) (.slice (some ⟨W1.heap.size, 0, none⟩) 1 1) 0 (dig rpd.val) (.slice qa n15 qc)) 38)) (Below.refl _ (w1))
    have h8 := (MapKept.heap_alloc (w1) (.cells (profC ⟨#[48, 48, 49, 48, 49, 48, 49, 50, 51, 52, 53, 54, 55, 56, 57]⟩ 2 (.slice da dl.length dc) (.slice ha hl.length hc) (.slice fa n6 fc) (.slice (some ⟨W1.heap.size, 0, none⟩) 1 1) 0 (dig rpd.val) (.slice qa n15 qc)) 38)).1
    have HX : Hid (Below W.heap.size W (w1.alloc (.cells (profC ⟨#[48, 48, 49, 48, 49, 48, 49, 50, 51, 52, 53, 54, 55, 56, 57]⟩ 2 (.slice da dl.length dc) (.slice ha hl.length hc) (.slice fa n6 fc) (.slice (some ⟨W1.heap.size, 0, none⟩) 1 1) 0 (dig rpd.val) (.slice qa n15 qc)) 38)) ∧ (w1.alloc (.cells (profC ⟨#[48, 48, 49, 48, 49, 48, 49, 50, 51, 52, 53, 54, 55, 56, 57]⟩ 2 (.slice da dl.length dc) (.slice ha hl.length hc) (.slice fa n6 fc) (.slice (some ⟨W1.heap.size, 0, none⟩) 1 1) 0 (dig rpd.val) (.slice qa n15 qc)) 38)).cell? ⟨ob, 0, none⟩ = some (.string (dig 1)) ∧ RowV (w1.alloc (.cells (profC ⟨#[48, 48, 49, 48, 49, 48, 49, 50, 51, 52, 53, 54, 55, 56, 57]⟩ 2 (.slice da dl.length dc) (.slice ha hl.length hc) (.slice fa n6 fc) (.slice (some ⟨W1.heap.size, 0, none⟩) 1 1) 0 (dig rpd.val) (.slice qa n15 qc)) 38)) (.slice (some ⟨W1.heap.size, 0, none⟩) 1 1) 1 (fun _ => .string (dig 1)) ∧ W.heap.size ≤ w1.heap.size ∧ ob < w1.heap.size ∧ W1.heap.size < w1.heap.size) := by
      have bx : Below W.heap.size W (w1) := HB1.out.trans (bp.mono HB1.out.size)
      exact ⟨bx.trans (b8.mono bx.size), keepc b8 (keepc bp c0), r7.below b8, bx.size, Nat.lt_of_lt_of_le (lt_of_cell c0) bp.size, lt_of_heap hb7⟩
    clear r7 b8 hb7 bp
    generalize w1.alloc (.cells (profC ⟨#[48, 48, 49, 48, 49, 48, 49, 50, 51, 52, 53, 54, 55, 56, 57]⟩ 2 (.slice da dl.length dc) (.slice ha hl.length hc) (.slice fa n6 fc) (.slice (some ⟨W1.heap.size, 0, none⟩) 1 1) 0 (dig rpd.val) (.slice qa n15 qc)) 38) = W5 at h8 HX ⊢
    generalize w1.heap.size = pf at h8 HX ⊢
    generalize W1.heap.size = vb at h8 HX ⊢
    have c9 : W5.cell? ⟨pf, 9, none⟩ = some (.int .u8 0) := cell_of h8 rfl
    have f9 : W5.frozen? ⟨pf, 9, none⟩ = false := fz_of h8
    have H8 : Hid _ := h8
    clear h8
    cases mn
    · have HE : Hid (Below w.heap.size w W5 ∧ L2 W5 dl (.slice da dl.length dc) hl (.slice ha hl.length hc) n6 fl (.slice fa n6 fc) n15 ql (.slice qa n15 qc) ob pf 0 rpd ra nr rc vals ∧ ObsR W5 oa n op oA oh ol) := ⟨HR.out.1.trans (HX.out.1.mono HR.out.1.size), (HR.out.2.1.next HX.out.1).l2 HX.out.2.1 H8.out HX.out.2.2.1, HR.out.2.2.next HX.out.1⟩
      clear c9 f9 c0
      go_upto_region 21 with fail
      refine P21 w _ _ _ _ _ _ _ _ _ _ _ _ _ _ _ _ _ _ _ _ _ _ _ _ _ _ _ _ _ _ _ _ _ _ _ _ _ _ _ _ _ _ _ _ _ _ _ _ _ _ _ _ _ _ _ _ _ _ _ _ _ _ _ _ _ _ _ _ _ _ _ _ _ _ _ _ _ _ _ _ _ _ _ _ _ _ _ _ _ _ _ _ _ _ _ _ _ _ _ _ _ _ _ _ _ _ _ _ _ _ _ _ _ _ _ _ _ _ _ _ _ _ _ _ _ _ _ _ _ _ _ _ _ _ _ _ _ _ _ _ _ _ _ _ _ _ _ _ _ _ _ _ _ _ _ _ _ _ _ _ _ _ _ _ _ _ _ _ _ _ _ _ _ _ _ _ _ _ _ _ _ _ _ _ _ _ _ _ _ _ _ _ _ _ _ _ _ _ _ _ _ _ _ _ _ _ _ _ _ _ _ _ _ _ _ _ _ _ _ _ _ _ _ _ _ _ _ _ _ _ _ _ _ _ _ _ _ _ _ _ _ _ _ _ _ _ _ _ _ _ _ _ _ _ _ _ _ _ _ _ _ _ _ _ _ _ _ _ _ _ _ _ _ _ _ _ _ _ _ _ _ _ _ _ _ _ _ _ _ _ _ _ _ _ _ _ _ _ _ _ _ _ _ _ _ _ _ _ _ _ _ _ _ _ _ _ _ _ _ _ _ _ _ _ _ _ _ _ _ _ _ _ _ _ _ _ _ _ _ _ _ _ _ _ _ _ _ _ _ _ _ _ _ _ _ _ _ _ _ _ _ _ _ _ _ _ _ _ _ _ _ _ _ _ _ _ _ _ _ _ _ _ _ _ _ _ _ _ _ _ _ _ _ _ _ _ _ _ _ _ _ _ _ _ _ _ _ _ _ _ _ _ _ _ _ _ _ _ _ _ _ _ _ _ _ _ _ _ _ _ _ _ _ _ _ _ _ _ _ _ _ _ _ _ _ _ _ _ _ _ _ _ _ _ _ _ _ _ _ _ _ _ _ _ _ _ _ _ _ _ _ _ _ _ _ _ _ _ _ _ _ _ _ _ _ _ _ _ _ _ _ _ _ rpd ql n15 false 0 rI qa qc dl da dc hl ha hc n6 fl fa fc ob pf ra nr rc vals oa n oc op oA ol oh _ ?_ HE.out.1 HE.out.2.1 HE.out.2.2 hn rfl hrI hrp
      assumption
    · have HE : Hid (Below w.heap.size w (W5.setCell ⟨pf, 9, none⟩ (.int .u8 1)) ∧ L2 (W5.setCell ⟨pf, 9, none⟩ (.int .u8 1)) dl (.slice da dl.length dc) hl (.slice ha hl.length hc) n6 fl (.slice fa n6 fc) n15 ql (.slice qa n15 qc) ob pf 1 rpd ra nr rc vals ∧ ObsR (W5.setCell ⟨pf, 9, none⟩ (.int .u8 1)) oa n op oA oh ol) := by
        obtain ⟨x1, x2, x3, x4, x5, x6⟩ := HX.out
        have hs := L3.put x2 H8.out x3 x1 x4 HR.out.2.1 (by omega) (fun b o c e => by injection e with e _ _; injection e with e; injection e with e _ _; omega)
        exact ⟨HR.out.1.trans (hs.1.mono HR.out.1.size), hs.2, HR.out.2.2.next hs.1⟩
      clear c0
      go_upto_region 21 with fail
      generalize W5.setCell ⟨pf, 9, none⟩ (.int .u8 1) = W6 at HE ⊢
      refine P21 w _ _ _ _ _ _ _ _ _ _ _ _ _ _ _ _ _ _ _ _ _ _ _ _ _ _ _ _ _ _ _ _ _ _ _ _ _ _ _ _ _ _ _ _ _ _ _ _ _ _ _ _ _ _ _ _ _ _ _ _ _ _ _ _ _ _ _ _ _ _ _ _ _ _ _ _ _ _ _ _ _ _ _ _ _ _ _ _ _ _ _ _ _ _ _ _ _ _ _ _ _ _ _ _ _ _ _ _ _ _ _ _ _ _ _ _ _ _ _ _ _ _ _ _ _ _ _ _ _ _ _ _ _ _ _ _ _ _ _ _ _ _ _ _ _ _ _ _ _ _ _ _ _ _ _ _ _ _ _ _ _ _ _ _ _ _ _ _ _ _ _ _ _ _ _ _ _ _ _ _ _ _ _ _ _ _ _ _ _ _ _ _ _ _ _ _ _ _ _ _ _ _ _ _ _ _ _ _ _ _ _ _ _ _ _ _ _ _ _ _ _ _ _ _ _ _ _ _ _ _ _ _ _ _ _ _ _ _ _ _ _ _ _ _ _ _ _ _ _ _ _ _ _ _ _ _ _ _ _ _ _ _ _ _ _ _ _ _ _ _ _ _ _ _ _ _ _ _ _ _ _ _ _ _ _ _ _ _ _ _ _ _ _ _ _ _ _ _ _ _ _ _ _ _ _ _ _ _ _ _ _ _ _ _ _ _ _ _ _ _ _ _ _ _ _ _ _ _ _ _ _ _ _ _ _ _ _ _ _ _ _ _ _ _ _ _ _ _ _ _ _ _ _ _ _ _ _ _ _ _ _ _ _ _ _ _ _ _ _ _ _ _ _ _ _ _ _ _ _ _ _ _ _ _ _ _ _ _ _ _ _ _ _ _ _ _ _ _ _ _ _ _ _ _ _ _ _ _ _ _ _ _ _ _ _ _ _ _ _ _ _ _ _ _ _ _ _ _ _ _ _ _ _ _ _ _ _ _ _ _ _ _ _ _ _ _ _ _ _ _ _ _ _ _ _ _ _ _ _ _ _ _ _ _ _ _ _ _ _ _ _ _ _ _ _ _ _ _ _ _ _ _ _ _ _ _ _ _ _ _ _ _ _ rpd ql n15 true 1 rI qa qc dl da dc hl ha hc n6 fl fa fc ob pf ra nr rc vals oa n oc op oA ol oh _ ?_ HE.out.1 HE.out.2.1 HE.out.2.2 hn rfl hrI hrp
      assumption
  · skip
    rename_i hHeld
    clear hHeld
    have bp : Below W1.heap.size W1 ((w1.alloc (.cells #[.string (dig 1)] 29))) := by rw [← hw1]; exact bal ((Below.drew (Below.refl _ W1)).alloc (Nat.le_refl _) _)
    have hb7 : (w1.alloc (.cells #[.string (dig 1)] 29)).heap[w1.heap.size]? = some (.cells #[.string (dig 1)] 29 (0, 0)) := (MapKept.heap_alloc w1 _).1
    have r7 : RowV (w1.alloc (.cells #[.string (dig 1)] 29)) (.slice (some ⟨w1.heap.size, 0, none⟩) 1 1) 1 (fun _ => .string (dig 1)) := .inr ⟨w1.heap.size, 0, 1, rfl, lt_of_heap hb7, fun i hi => cell_of hb7 (by rw [show 0 + i = 0 by omega]; rfl)⟩
    have b8 := bal (o := (.cells (profC ⟨#[48, 48, 49, 48, 49, 48, 49, 50, 51, 52, 53, 54, 55, 56, 57]⟩ 2 (.slice da dl.length dc) (.slice ha hl.length hc) (.slice fa n6 fc) (.slice (some ⟨w1.heap.size, 0, none⟩) 1 1) 0 (dig rpd.val) (.slice qa n15 qc)) 38)) (Below.refl _ ((w1.alloc (.cells #[.string (dig 1)] 29))))
    have h8 := (MapKept.heap_alloc ((w1.alloc (.cells #[.string (dig 1)] 29))) (.cells (profC ⟨#[48, 48, 49, 48, 49, 48, 49, 50, 51, 52, 53, 54, 55, 56, 57]⟩ 2 (.slice da dl.length dc) (.slice ha hl.length hc) (.slice fa n6 fc) (.slice (some ⟨w1.heap.size, 0, none⟩) 1 1) 0 (dig rpd.val) (.slice qa n15 qc)) 38)).1
    have HX : Hid (Below W.heap.size W ((w1.alloc (.cells #[.string (dig 1)] 29)).alloc (.cells (profC ⟨#[48, 48, 49, 48, 49, 48, 49, 50, 51, 52, 53, 54, 55, 56, 57]⟩ 2 (.slice da dl.length dc) (.slice ha hl.length hc) (.slice fa n6 fc) (.slice (some ⟨w1.heap.size, 0, none⟩) 1 1) 0 (dig rpd.val) (.slice qa n15 qc)) 38)) ∧ ((w1.alloc (.cells #[.string (dig 1)] 29)).alloc (.cells (profC ⟨#[48, 48, 49, 48, 49, 48, 49, 50, 51, 52, 53, 54, 55, 56, 57]⟩ 2 (.slice da dl.length dc) (.slice ha hl.length hc) (.slice fa n6 fc) (.slice (some ⟨w1.heap.size, 0, none⟩) 1 1) 0 (dig rpd.val) (.slice qa n15 qc)) 38)).cell? ⟨ob, 0, none⟩ = some (.string (dig 1)) ∧ RowV ((w1.alloc (.cells #[.string (dig 1)] 29)).alloc (.cells (profC ⟨#[48, 48, 49, 48, 49, 48, 49, 50, 51, 52, 53, 54, 55, 56, 57]⟩ 2 (.slice da dl.length dc) (.slice ha hl.length hc) (.slice fa n6 fc) (.slice (some ⟨w1.heap.size, 0, none⟩) 1 1) 0 (dig rpd.val) (.slice qa n15 qc)) 38)) (.slice (some ⟨w1.heap.size, 0, none⟩) 1 1) 1 (fun _ => .string (dig 1)) ∧ W.heap.size ≤ (w1.alloc (.cells #[.string (dig 1)] 29)).heap.size ∧ ob < (w1.alloc (.cells #[.string (dig 1)] 29)).heap.size ∧ w1.heap.size < (w1.alloc (.cells #[.string (dig 1)] 29)).heap.size) := by
      have bx : Below W.heap.size W ((w1.alloc (.cells #[.string (dig 1)] 29))) := HB1.out.trans (bp.mono HB1.out.size)
      exact ⟨bx.trans (b8.mono bx.size), keepc b8 (keepc bp c0), r7.below b8, bx.size, Nat.lt_of_lt_of_le (lt_of_cell c0) bp.size, lt_of_heap hb7⟩
    clear r7 b8 hb7 bp
    generalize (w1.alloc (.cells #[.string (dig 1)] 29)).alloc (.cells (profC ⟨#[48, 48, 49, 48, 49, 48, 49, 50, 51, 52, 53, 54, 55, 56, 57]⟩ 2 (.slice da dl.length dc) (.slice ha hl.length hc) (.slice fa n6 fc) (.slice (some ⟨w1.heap.size, 0, none⟩) 1 1) 0 (dig rpd.val) (.slice qa n15 qc)) 38) = W5 at h8 HX ⊢
    rw [show (w1.alloc (.cells #[.string (dig 1)] 29)).heap.size = w1.heap.size + 1 by simp] at h8 HX
    generalize w1.heap.size + 1 = pf at h8 HX ⊢
    generalize w1.heap.size = vb at h8 HX ⊢
    have c9 : W5.cell? ⟨pf, 9, none⟩ = some (.int .u8 0) := cell_of h8 rfl
    have f9 : W5.frozen? ⟨pf, 9, none⟩ = false := fz_of h8
    have H8 : Hid _ := h8
    clear h8
    cases mn
    · have HE : Hid (Below w.heap.size w W5 ∧ L2 W5 dl (.slice da dl.length dc) hl (.slice ha hl.length hc) n6 fl (.slice fa n6 fc) n15 ql (.slice qa n15 qc) ob pf 0 rpd ra nr rc vals ∧ ObsR W5 oa n op oA oh ol) := ⟨HR.out.1.trans (HX.out.1.mono HR.out.1.size), (HR.out.2.1.next HX.out.1).l2 HX.out.2.1 H8.out HX.out.2.2.1, HR.out.2.2.next HX.out.1⟩
      clear c9 f9 c0
      go_upto_region 21 with fail
      refine P21 w _ _ _ _ _ _ _ _ _ _ _ _ _ _ _ _ _ _ _ _ _ _ _ _ _ _ _ _ _ _ _ _ _ _ _ _ _ _ _ _ _ _ _ _ _ _ _ _ _ _ _ _ _ _ _ _ _ _ _ _ _ _ _ _ _ _ _ _ _ _ _ _ _ _ _ _ _ _ _ _ _ _ _ _ _ _ _ _ _ _ _ _ _ _ _ _ _ _ _ _ _ _ _ _ _ _ _ _ _ _ _ _ _ _ _ _ _ _ _ _ _ _ _ _ _ _ _ _ _ _ _ _ _ _ _ _ _ _ _ _ _ _ _ _ _ _ _ _ _ _ _ _ _ _ _ _ _ _ _ _ _ _ _ _ _ _ _ _ _ _ _ _ _ _ _ _ _ _ _ _ _ _ _ _ _ _ _ _ _ _ _ _ _ _ _ _ _ _ _ _ _ _ _ _ _ _ _ _ _ _ _ _ _ _ _ _ _ _ _ _ _ _ _ _ _ _ _ _ _ _ _ _ _ _ _ _ _ _ _ _ _ _ _ _ _ _ _ _ _ _ _ _ _ _ _ _ _ _ _ _ _ _ _ _ _ _ _ _ _ _ _ _ _ _ _ _ _ _ _ _ _ _ _ _ _ _ _ _ _ _ _ _ _ _ _ _ _ _ _ _ _ _ _ _ _ _ _ _ _ _ _ _ _ _ _ _ _ _ _ _ _ _ _ _ _ _ _ _ _ _ _ _ _ _ _ _ _ _ _ _ _ _ _ _ _ _ _ _ _ _ _ _ _ _ _ _ _ _ _ _ _ _ _ _ _ _ _ _ _ _ _ _ _ _ _ _ _ _ _ _ _ _ _ _ _ _ _ _ _ _ _ _ _ _ _ _ _ _ _ _ _ _ _ _ _ _ _ _ _ _ _ _ _ _ _ _ _ _ _ _ _ _ _ _ _ _ _ _ _ _ _ _ _ _ _ _ _ _ _ _ _ _ _ _ _ _ _ _ _ _ _ _ _ _ _ _ _ _ _ _ _ _ _ _ _ _ _ _ _ _ _ _ _ _ _ _ _ _ _ _ _ _ _ _ _ _ _ _ _ _ _ _ _ rpd ql n15 false 0 rI qa qc dl da dc hl ha hc n6 fl fa fc ob pf ra nr rc vals oa n oc op oA ol oh _ ?_ HE.out.1 HE.out.2.1 HE.out.2.2 hn rfl hrI hrp
      assumption
    · have HE : Hid (Below w.heap.size w (W5.setCell ⟨pf, 9, none⟩ (.int .u8 1)) ∧ L2 (W5.setCell ⟨pf, 9, none⟩ (.int .u8 1)) dl (.slice da dl.length dc) hl (.slice ha hl.length hc) n6 fl (.slice fa n6 fc) n15 ql (.slice qa n15 qc) ob pf 1 rpd ra nr rc vals ∧ ObsR (W5.setCell ⟨pf, 9, none⟩ (.int .u8 1)) oa n op oA oh ol) := by
        obtain ⟨x1, x2, x3, x4, x5, x6⟩ := HX.out
        have hs := L3.put x2 H8.out x3 x1 x4 HR.out.2.1 (by omega) (fun b o c e => by injection e with e _ _; injection e with e; injection e with e _ _; omega)
        exact ⟨HR.out.1.trans (hs.1.mono HR.out.1.size), hs.2, HR.out.2.2.next hs.1⟩
      clear c0
      go_upto_region 21 with fail
      generalize W5.setCell ⟨pf, 9, none⟩ (.int .u8 1) = W6 at HE ⊢
      refine P21 w _ _ _ _ _ _ _ _ _ _ _ _ _ _ _ _ _ _ _ _ _ _ _ _ _ _ _ _ _ _ _ _ _ _ _ _ _ _ _ _ _ _ _ _ _ _ _ _ _ _ _ _ _ _ _ _ _ _ _ _ _ _ _ _ _ _ _ _ _ _ _ _ _ _ _ _ _ _ _ _ _ _ _ _ _ _ _ _ _ _ _ _ _ _ _ _ _ _ _ _ _ _ _ _ _ _ _ _ _ _ _ _ _ _ _ _ _ _ _ _ _ _ _ _ _ _ _ _ _ _ _ _ _ _ _ _ _ _ _ _ _ _ _ _ _ _ _ _ _ _ _ _ _ _ _ _ _ _ _ _ _ _ _ _ _ _ _ _ _ _ _ _ _ _ _ _ _ _ _ _ _ _ _ _ _ _ _ _ _ _ _ _ _ _ _ _ _ _ _ _ _ _ _ _ _ _ _ _ _ _ _ _ _ _ _ _ _ _ _ _ _ _ _ _ _ _ _ _ _ _ _ _ _ _ _ _ _ _ _ _ _ _ _ _ _ _ _ _ _ _ _ _ _ _ _ _ _ _ _ _ _ _ _ _ _ _ _ _ _ _ _ _ _ _ _ _ _ _ _ _ _ _ _ _ _ _ _ _ _ _ _ _ _ _ _ _ _ _ _ _ _ _ _ _ _ _ _ _ _ _ _ _ _ _ _ _ _ _ _ _ _ _ _ _ _ _ _ _ _ _ _ _ _ _ _ _ _ _ _ _ _ _ _ _ _ _ _ _ _ _ _ _ _ _ _ _ _ _ _ _ _ _ _ _ _ _ _ _ _ _ _ _ _ _ _ _ _ _ _ _ _ _ _ _ _ _ _ _ _ _ _ _ _ _ _ _ _ _ _ _ _ _ _ _ _ _ _ _ _ _ _ _ _ _ _ _ _ _ _ _ _ _ _ _ _ _ _ _ _ _ _ _ _ _ _ _ _ _ _ _ _ _ _ _ _ _ _ _ _ _ _ _ _ _ _ _ _ _ _ _ _ _ _ _ _ _ _ _ _ _ _ _ _ _ _ _ _ _ _ _ _ _ _ _ _ _ _ _ _ _ _ _ _ rpd ql n15 true 1 rI qa qc dl da dc hl ha hc n6 fl fa fc ob pf ra nr rc vals oa n oc op oA ol oh _ ?_ HE.out.1 HE.out.2.1 HE.out.2.2 hn rfl hrI hrp
      assumption

end Go.Proofs.YbulkcuegFmt
