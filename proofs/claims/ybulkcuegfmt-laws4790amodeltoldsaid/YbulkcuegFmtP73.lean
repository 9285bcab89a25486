import Derived.Test.YbulkcuegFmtP74
namespace Go.Proofs.YbulkcuegFmt
open Go.RowKit Go.Maps

theorem row_pl {W : World} {base : Nat} {v : Value} {rpd : Fin 5} {ql : Nat → Fin 5} {n15 : Nat} (h : W.ownsRow base 29 1 v (1 + n15) ([.string (dig rpd.val)] ++ (List.range n15).map (fun i => .string (dig (ql i).val)))) :
    ∃ pb pc, v = .slice (some ⟨pb, 0, none⟩) (1 + n15) pc ∧ ∀ j, j < 1 + n15 → W.cell? ⟨pb, j, none⟩ = some (.string (dig (Pl rpd ql j).val)) := by
  have hrow : RowB W 0 v (1 + n15) (fun i => .string (dig (Pl rpd ql i).val)) := (rowB_of_owns (by
    have e : (List.range (1 + n15)).map (fun i => Value.string (dig (Pl rpd ql i).val)) = [.string (dig rpd.val)] ++ (List.range n15).map (fun i => .string (dig (ql i).val)) := by
      rw [Nat.add_comm, List.range_succ_eq_map, List.map_cons, List.map_map]
      rfl
    rw [e]
    exact h)).mono (Nat.zero_le _)
  rcases hrow with ⟨_, h⟩ | ⟨b, cap, h1, _, h3, h4⟩
  · omega
  · exact ⟨b, cap, h1, h4⟩
set_option maxRecDepth 1000000 in
set_option maxHeartbeats 2000000 in
theorem P73 (w : World)
    (s0 s1 s2 s3 s5 s7 s8 s9 s10 s11 s12 s13 s14 s15 s17 s18 s19 s20 s21 s23 s24 s25 s26 s27 s28 s29 s30 s31 s35 s37 s38 s39 s40 s46 s47 s48 s49 s50 s51 s52 s53 s54 s55 s56 s57 s58 s59 s60 s61 s62 s63 s64 s65 s66 s67 s68 s69 s70 s71 s72 s73 s74 s75 s76 s77 s78 s79 s80 s81 s82 s83 s84 s85 s86 s87 s88 s89 s90 s91 s92 s93 s94 s95 s96 s97 s98 s99 s100 s101 s102 s103 s104 s105 s106 s107 s108 s109 s110 s111 s112 s113 s114 s115 s116 s117 s118 s119 s120 s121 s122 s123 s124 s125 s126 s127 s128 s129 s130 s131 s132 s133 s134 s135 s136 s137 s138 s139 s140 s141 s142 s143 s144 s145 s146 s147 s148 s149 s150 s151 s152 s153 s154 s155 s156 s157 s158 s159 s160 s161 s162 s163 s164 s165 s166 s167 s168 s169 s170 s171 s172 s173 s174 s175 s176 s177 s178 s179 s180 s181 s182 s183 s184 s185 s186 s187 s188 s189 s190 s191 s192 s193 s194 s195 s196 s197 s198 s199 s200 s201 s202 s203 s204 s205 s206 s207 s208 s209 s210 s211 s212 s213 s214 s215 s216 s217 s218 s219 s220 s221 s222 s223 s224 s225 s226 s227 s228 s229 s230 s231 s232 s233 s234 s235 s236 s237 s238 s239 s240 s241 s242 s243 s244 s245 s246 s247 s248 s249 s250 s251 s252 s253 s254 s255 s256 s257 s258 s259 s260 s261 s262 s263 s264 s265 s266 s267 s268 s269 s270 s271 s272 s273 s274 s275 s276 s277 s278 s279 s280 s281 s282 s283 s284 s285 s286 s287 s288 s289 s290 s291 s292 s293 s294 s295 s296 s297 s298 s299 s300 s301 s302 s303 s304 s305 s306 s307 s308 s309 s310 s311 s312 s313 s314 s315 s316 s317 s318 s319 s320 s321 s322 s323 s324 s325 s326 s327 s328 s329 s330 s331 s332 s333 s334 s335 s336 s337 s338 s339 s340 s341 s342 s343 s344 s345 s346 s347 s348 s349 s350 s351 s352 s353 s354 s355 s356 s357 s358 s359 s360 s361 s362 s363 s364 s365 s366 s367 s368 s369 s370 s371 s372 s373 s374 s375 s376 s377 s378 s379 s380 s381 s382 s383 s384 s385 s386 s387 s388 s389 s390 s391 s392 s393 s394 s395 s396 s397 s398 s399 s400 s401 s402 s403 s404 s405 s406 s407 s408 s409 s410 s411 s412 s413 s414 s415 s416 s417 s418 s419 s420 s421 s422 s423 s424 s425 s426 s427 s428 s429 s430 s431 s432 s433 s434 s435 s436 s437 s438 s439 s440 s441 s442 s443 s444 s445 s446 s447 s448 s449 s450 s451 s452 s453 s454 s455 s456 s457 s458 s459 s460 s461 s462 s463 s464 s465 s466 s467 s468 s469 s470 s471 s472 s473 s474 s475 s476 s477 s478 s479 s480 s481 s482 s483 s484 s485 s486 s487 s488 s489 s490 s491 s492 s493 s494 s495 s496 s497 s498 s499 s500 s501 s502 : Value)
    (K : Act → World → Prop) (ks L : List (Fin 50)) (rr : Fin 50 → Int) (el : Fin 50 → Bool) (cl ho lo : Fin 50 → Int) (ca : Option Addr) (cb cc : Nat) (mca : Option Addr) (mb mcc : Nat) (mla : Option Addr) (lb mlc eb sb hb : Nat) (Q : List (Fin 50)) (rl : Fin 50 → Int) (rpd : Fin 5) (ql : Nat → Fin 5) (n15 : Nat) (mn sf : Bool) (zb : Nat) (rule : Int) (rI : Int) (qa : Option Addr) (qc : Nat) (W : World)
    (hK : ∀ a w', Code.wp Ybaf.prog (spine 28 (Ybaf.f3.body.getD .skip)) (bodyPost Ybaf.prog Ybaf.f3 fun e w' => e = .returned (.bool true) ∧ Below w.heap.size w w') a w' → K a w')
    (B : Below w.heap.size w W) (R : LS W ks L rr el cl ho lo ca cb mca mb mla lb eb sb hb) (hks : ks.length ≤ 50) (hL : L.length ≤ 50) (hn15 : n15 ≤ 300) (hcl : Hid (∀ q, 0 ≤ cl q ∧ cl q ≤ 2)) (hz : W.heap[zb]? = some (.cells #[.int .u8 rule, .int .u8 0, .int .i64 0] 64 (0, 0))) (SQ : Hid (SelQ ks Q L rr rl rpd ql n15 mn el cl ho lo)) (hru : rule = if mn then 15 else if sf then 14 else 13) (hrI : 0 ≤ rI ∧ rI ≤ 255) (hrp : md5 rI = rpd.val) (RQ : RowV W (.slice qa n15 qc) n15 (fun i => .string (dig (ql i).val))) :
    Code.wp Ybaf.prog (headAt 27 (Ybaf.f3.body.getD .skip)) (Exit.then K (bodyPost Ybaf.prog Ybaf.f3 fun e w' => e = .returned (.bool true) ∧ Below w.heap.size w w')) ⟨List.toArray (s0 :: s1 :: s2 :: s3 :: .int .u8 rI :: s5 :: .bool mn :: s7 :: s8 :: s9 :: s10 :: s11 :: s12 :: s13 :: s14 :: s15 :: .bool false :: s17 :: s18 :: s19 :: s20 :: s21 :: .slice qa n15 qc :: s23 :: s24 :: s25 :: s26 :: s27 :: s28 :: s29 :: s30 :: s31 :: .slice ca L.length cc :: .pointer (some ⟨zb, 0, none⟩) :: .slice mca ks.length mcc :: s35 :: .slice mla ks.length mlc :: s37 :: s38 :: s39 :: s40 :: .slice (some ⟨eb, 0, none⟩) ks.length ks.length :: .slice (some ⟨sb, 0, none⟩) ks.length ks.length :: .slice (some ⟨hb, 0, none⟩) ks.length ks.length :: .bool sf :: .int .i64 ((ks.filter el).length : Nat) :: s46 :: s47 :: s48 :: s49 :: s50 :: s51 :: s52 :: s53 :: s54 :: s55 :: s56 :: s57 :: s58 :: s59 :: s60 :: s61 :: s62 :: s63 :: s64 :: s65 :: s66 :: s67 :: s68 :: s69 :: s70 :: s71 :: s72 :: s73 :: s74 :: s75 :: s76 :: s77 :: s78 :: s79 :: s80 :: s81 :: s82 :: s83 :: s84 :: s85 :: s86 :: s87 :: s88 :: s89 :: s90 :: s91 :: s92 :: s93 :: s94 :: s95 :: s96 :: s97 :: s98 :: s99 :: s100 :: s101 :: s102 :: s103 :: s104 :: s105 :: s106 :: s107 :: s108 :: s109 :: s110 :: s111 :: s112 :: s113 :: s114 :: s115 :: s116 :: s117 :: s118 :: s119 :: s120 :: s121 :: s122 :: s123 :: s124 :: s125 :: s126 :: s127 :: s128 :: s129 :: s130 :: s131 :: s132 :: s133 :: s134 :: s135 :: s136 :: s137 :: s138 :: s139 :: s140 :: s141 :: s142 :: s143 :: s144 :: s145 :: s146 :: s147 :: s148 :: s149 :: s150 :: s151 :: s152 :: s153 :: s154 :: s155 :: s156 :: s157 :: s158 :: s159 :: s160 :: s161 :: s162 :: s163 :: s164 :: s165 :: s166 :: s167 :: s168 :: s169 :: s170 :: s171 :: s172 :: s173 :: s174 :: s175 :: s176 :: s177 :: s178 :: s179 :: s180 :: s181 :: s182 :: s183 :: s184 :: s185 :: s186 :: s187 :: s188 :: s189 :: s190 :: s191 :: s192 :: s193 :: s194 :: s195 :: s196 :: s197 :: s198 :: s199 :: s200 :: s201 :: s202 :: s203 :: s204 :: s205 :: s206 :: s207 :: s208 :: s209 :: s210 :: s211 :: s212 :: s213 :: s214 :: s215 :: s216 :: s217 :: s218 :: s219 :: s220 :: s221 :: s222 :: s223 :: s224 :: s225 :: s226 :: s227 :: s228 :: s229 :: s230 :: s231 :: s232 :: s233 :: s234 :: s235 :: s236 :: s237 :: s238 :: s239 :: s240 :: s241 :: s242 :: s243 :: s244 :: s245 :: s246 :: s247 :: s248 :: s249 :: s250 :: s251 :: s252 :: s253 :: s254 :: s255 :: s256 :: s257 :: s258 :: s259 :: s260 :: s261 :: s262 :: s263 :: s264 :: s265 :: s266 :: s267 :: s268 :: s269 :: s270 :: s271 :: s272 :: s273 :: s274 :: s275 :: s276 :: s277 :: s278 :: s279 :: s280 :: s281 :: s282 :: s283 :: s284 :: s285 :: s286 :: s287 :: s288 :: s289 :: s290 :: s291 :: s292 :: s293 :: s294 :: s295 :: s296 :: s297 :: s298 :: s299 :: s300 :: s301 :: s302 :: s303 :: s304 :: s305 :: s306 :: s307 :: s308 :: s309 :: s310 :: s311 :: s312 :: s313 :: s314 :: s315 :: s316 :: s317 :: s318 :: s319 :: s320 :: s321 :: s322 :: s323 :: s324 :: s325 :: s326 :: s327 :: s328 :: s329 :: s330 :: s331 :: s332 :: s333 :: s334 :: s335 :: s336 :: s337 :: s338 :: s339 :: s340 :: s341 :: s342 :: s343 :: s344 :: s345 :: s346 :: s347 :: s348 :: s349 :: s350 :: s351 :: s352 :: s353 :: s354 :: s355 :: s356 :: s357 :: s358 :: s359 :: s360 :: s361 :: s362 :: s363 :: s364 :: s365 :: s366 :: s367 :: s368 :: s369 :: s370 :: s371 :: s372 :: s373 :: s374 :: s375 :: s376 :: s377 :: s378 :: s379 :: s380 :: s381 :: s382 :: s383 :: s384 :: s385 :: s386 :: s387 :: s388 :: s389 :: s390 :: s391 :: s392 :: s393 :: s394 :: s395 :: s396 :: s397 :: s398 :: s399 :: s400 :: s401 :: s402 :: s403 :: s404 :: s405 :: s406 :: s407 :: s408 :: s409 :: s410 :: s411 :: s412 :: s413 :: s414 :: s415 :: s416 :: s417 :: s418 :: s419 :: s420 :: s421 :: s422 :: s423 :: s424 :: s425 :: s426 :: s427 :: s428 :: s429 :: s430 :: s431 :: s432 :: s433 :: s434 :: s435 :: s436 :: s437 :: s438 :: s439 :: s440 :: s441 :: s442 :: s443 :: s444 :: s445 :: s446 :: s447 :: s448 :: s449 :: s450 :: s451 :: s452 :: s453 :: s454 :: s455 :: s456 :: s457 :: s458 :: s459 :: s460 :: s461 :: s462 :: s463 :: s464 :: s465 :: s466 :: s467 :: s468 :: s469 :: s470 :: s471 :: s472 :: s473 :: s474 :: s475 :: s476 :: s477 :: s478 :: s479 :: s480 :: s481 :: s482 :: s483 :: s484 :: s485 :: s486 :: s487 :: s488 :: s489 :: s490 :: s491 :: s492 :: s493 :: s494 :: s495 :: s496 :: s497 :: s498 :: s499 :: s500 :: s501 :: s502 :: []), []⟩ W := by
  conv => arg 2; whnf
  conv at hK => enter [a, w', 1, 2]; whnf
  obtain ⟨i0, hi29, z0, z1, z2⟩ := info_parts info29
  have hpl := plmn_any rI W hrI.1 hrI.2
  rw [hrp] at hpl
  have HR : Hid _ := And.intro B (And.intro R (And.intro hz RQ))
  clear B R hz RQ
  go_wp2_with fail
  refine hpl.mono ?_
  rintro e W1 ⟨rfl, hw1⟩
  have HB1 : Hid (Below W.heap.size W W1) := by
    rw [← hw1]
    exact bal (Below.refl _ _)
  clear hw1 hpl
  have ho1 : (W1.alloc (.cells #[.string (dig rpd.val)] 29)).ownsRow W1.heap.size 29 1 (.slice (some ⟨W1.heap.size, 0, none⟩) 1 1) 1 [.string (dig rpd.val)] := ⟨rfl, .inr ⟨W1.heap.size, 1, _, rfl, Nat.le_refl _, (MapKept.heap_alloc W1 _).1, Nat.le_refl _, by unfold maxLen; omega, rfl, rfl⟩⟩
  have hs2 : W1.heap.size ≤ (W1.alloc (.cells #[.string (dig rpd.val)] 29)).heap.size := by simp
  have HB2 : Hid (Below W.heap.size W (W1.alloc (.cells #[.string (dig rpd.val)] 29))) := HB1.out.trans ((bal (Below.refl _ W1)).mono HB1.out.size)
  rcases HR.out.2.2.2 with ⟨he, h0⟩ | ⟨b, o, cp, he, hbl, hc⟩
  · injection he with he1 he2 he3
    subst he1
    subst h0
    subst he3
    go_upto_region 74 with (at_builtin; refine wpList_append_own_none rfl (.tmp 315) (.tmp 316) 27 rfl W1.heap.size 29 i0 1 Ybaf.underlying27 hi29 _ 1 _ rfl ho1 rfl ?_)
    generalize W1.alloc (.cells #[.string (dig rpd.val)] 29) = W3 at ho1 HB2 ⊢
    generalize hv : Value.slice (some ⟨W1.heap.size, 0, none⟩) 1 1 = v3 at ho1 ⊢
    clear hv
    have ho3 : W3.ownsRow W1.heap.size 29 1 v3 (1 + 0) ([.string (dig rpd.val)] ++ (List.range 0).map (fun i => .string (dig (ql i).val))) := ho1
    clear ho1
    obtain ⟨pb, pc, rfl, hpc⟩ := row_pl (rpd := rpd) (ql := ql) ho3
    have HE : Hid (Below w.heap.size w W3 ∧ LS W3 ks L rr el cl ho lo ca cb mca mb mla lb eb sb hb ∧ W3.heap[zb]? = some (.cells #[.int .u8 rule, .int .u8 0, .int .i64 0] 64 (0, 0)) ∧ ∀ j, j < 1 + 0 → W3.cell? ⟨pb, j, none⟩ = some (.string (dig (Pl rpd ql j).val))) := by
      have hb : Below W.heap.size W W3 := HB2.out
      exact ⟨HR.out.1.trans (hb.mono HR.out.1.size), HR.out.2.1.keep hb.block, (hb.block _ (lt_of_heap HR.out.2.2.1)).trans HR.out.2.2.1, hpc⟩
    clear hpc ho3
    refine P74 w _ _ _ _ _ _ _ _ _ _ _ _ _ _ _ _ _ _ _ _ _ _ _ _ _ _ _ _ _ _ _ _ _ _ _ _ _ _ _ _ _ _ _ _ _ _ _ _ _ _ _ _ _ _ _ _ _ _ _ _ _ _ _ _ _ _ _ _ _ _ _ _ _ _ _ _ _ _ _ _ _ _ _ _ _ _ _ _ _ _ _ _ _ _ _ _ _ _ _ _ _ _ _ _ _ _ _ _ _ _ _ _ _ _ _ _ _ _ _ _ _ _ _ _ _ _ _ _ _ _ _ _ _ _ _ _ _ _ _ _ _ _ _ _ _ _ _ _ _ _ _ _ _ _ _ _ _ _ _ _ _ _ _ _ _ _ _ _ _ _ _ _ _ _ _ _ _ _ _ _ _ _ _ _ _ _ _ _ _ _ _ _ _ _ _ _ _ _ _ _ _ _ _ _ _ _ _ _ _ _ _ _ _ _ _ _ _ _ _ _ _ _ _ _ _ _ _ _ _ _ _ _ _ _ _ _ _ _ _ _ _ _ _ _ _ _ _ _ _ _ _ _ _ _ _ _ _ _ _ _ _ _ _ _ _ _ _ _ _ _ _ _ _ _ _ _ _ _ _ _ _ _ _ _ _ _ _ _ _ _ _ _ _ _ _ _ _ _ _ _ _ _ _ _ _ _ _ _ _ _ _ _ _ _ _ _ _ _ _ _ _ _ _ _ _ _ _ _ _ _ _ _ _ _ _ _ _ _ _ _ _ _ _ _ _ _ _ _ _ _ _ _ _ _ _ _ _ _ _ _ _ _ _ _ _ _ _ _ _ _ _ _ _ _ _ _ _ _ _ _ _ _ _ _ _ _ _ _ _ _ _ _ _ _ _ _ _ _ _ _ _ _ _ _ _ _ _ _ _ _ _ _ _ _ _ _ _ _ _ _ _ _ _ _ _ _ _ _ _ _ _ _ _ _ _ _ _ _ _ _ _ _ _ _ _ _ _ _ _ _ _ _ _ _ _ _ _ _ _ _ _ _ _ _ _ _ _ _ _ _ _ _ _ _ _ _ _ _ _ _ _ _ _ _ _ _ _ _ _ _ _ _ ks L rr el cl ho lo ca cb cc mca mb mcc mla lb mlc eb sb hb Q rl rpd ql 0 mn sf zb rule pb pc _ ?_ HE.out.1 HE.out.2.1 hks hL hn15 hcl HE.out.2.2.1 SQ hru HE.out.2.2.2
    assumption

  · injection he with he1 he2 he3
    subst he1
    subst he3
    have ha1 : ∀ j u, ((List.range n15).map (fun i => Value.string (dig (ql i).val)))[j]? = some u → (W1.alloc (.cells #[.string (dig rpd.val)] 29)).cell? ((⟨b, o, none⟩ : Addr).add j) = some u := fun j u hj => by
      rw [Addr.add_mid]
      have h := news_of hc j u hj
      exact (HB2.out.cell (p := ⟨b, o + j, none⟩) hbl).trans h
    have ha2 : ∀ u ∈ (List.range n15).map (fun i => Value.string (dig (ql i).val)), u.oneCell' = true := by
      intro u hu
      simp at hu
      obtain ⟨i, hi, rfl⟩ := hu
      rfl
    go_wp2_with (at_builtin; refine wpList_append_own _ rfl (.tmp 315) (.tmp 316) 27 rfl W1.heap.size 29 i0 _ 1 16 Ybaf.underlying27 hi29 z0 z1 z2 rfl (by omega) _ 1 _ rfl ho1 ⟨b, o, none⟩ n15 _ ((List.range n15).map (fun i => Value.string (dig (ql i).val))) rfl (by simp) ha1 ha2 (by unfold maxLen; omega) (by omega) hs2 ?nextB)
    case nextB =>
    intro v3 W3 ho3 hg3 _
    have HB3 : Hid (Below W.heap.size W W3) := HB2.out.trans ((Gr_of_own ho1 hg3 hs2).mono HB1.out.size)
    clear hg3 ha1 ha2 ho1 hc
    obtain ⟨pb, pc, rfl, hpc⟩ := row_pl (rpd := rpd) (ql := ql) ho3
    have HE : Hid (Below w.heap.size w W3 ∧ LS W3 ks L rr el cl ho lo ca cb mca mb mla lb eb sb hb ∧ W3.heap[zb]? = some (.cells #[.int .u8 rule, .int .u8 0, .int .i64 0] 64 (0, 0)) ∧ ∀ j, j < 1 + n15 → W3.cell? ⟨pb, j, none⟩ = some (.string (dig (Pl rpd ql j).val))) := by
      have hb : Below W.heap.size W W3 := HB3.out
      exact ⟨HR.out.1.trans (hb.mono HR.out.1.size), HR.out.2.1.keep hb.block, (hb.block _ (lt_of_heap HR.out.2.2.1)).trans HR.out.2.2.1, hpc⟩
    clear hpc ho3
    go_upto_region 74 with fail
    refine P74 w _ _ _ _ _ _ _ _ _ _ _ _ _ _ _ _ _ _ _ _ _ _ _ _ _ _ _ _ _ _ _ _ _ _ _ _ _ _ _ _ _ _ _ _ _ _ _ _ _ _ _ _ _ _ _ _ _ _ _ _ _ _ _ _ _ _ _ _ _ _ _ _ _ _ _ _ _ _ _ _ _ _ _ _ _ _ _ _ _ _ _ _ _ _ _ _ _ _ _ _ _ _ _ _ _ _ _ _ _ _ _ _ _ _ _ _ _ _ _ _ _ _ _ _ _ _ _ _ _ _ _ _ _ _ _ _ _ _ _ _ _ _ _ _ _ _ _ _ _ _ _ _ _ _ _ _ _ _ _ _ _ _ _ _ _ _ _ _ _ _ _ _ _ _ _ _ _ _ _ _ _ _ _ _ _ _ _ _ _ _ _ _ _ _ _ _ _ _ _ _ _ _ _ _ _ _ _ _ _ _ _ _ _ _ _ _ _ _ _ _ _ _ _ _ _ _ _ _ _ _ _ _ _ _ _ _ _ _ _ _ _ _ _ _ _ _ _ _ _ _ _ _ _ _ _ _ _ _ _ _ _ _ _ _ _ _ _ _ _ _ _ _ _ _ _ _ _ _ _ _ _ _ _ _ _ _ _ _ _ _ _ _ _ _ _ _ _ _ _ _ _ _ _ _ _ _ _ _ _ _ _ _ _ _ _ _ _ _ _ _ _ _ _ _ _ _ _ _ _ _ _ _ _ _ _ _ _ _ _ _ _ _ _ _ _ _ _ _ _ _ _ _ _ _ _ _ _ _ _ _ _ _ _ _ _ _ _ _ _ _ _ _ _ _ _ _ _ _ _ _ _ _ _ _ _ _ _ _ _ _ _ _ _ _ _ _ _ _ _ _ _ _ _ _ _ _ _ _ _ _ _ _ _ _ _ _ _ _ _ _ _ _ _ _ _ _ _ _ _ _ _ _ _ _ _ _ _ _ _ _ _ _ _ _ _ _ _ _ _ _ _ _ _ _ _ _ _ _ _ _ _ _ _ _ _ _ _ _ _ _ _ _ _ _ _ _ _ _ _ _ _ _ _ _ _ _ _ _ _ _ _ _ ks L rr el cl ho lo ca cb cc mca mb mcc mla lb mlc eb sb hb Q rl rpd ql n15 mn sf zb rule pb pc _ ?_ HE.out.1 HE.out.2.1 hks hL hn15 hcl HE.out.2.2.1 SQ hru HE.out.2.2.2
    assumption


end Go.Proofs.YbulkcuegFmt
