import Derived.Test.YbulkcuegFmtLaw4
import Derived.Test.YbulkcuegFmtP27
import Derived.Deep.RegionLaw
namespace Go.Proofs.YbulkcuegFmt
open Go.RowKit Go.Maps

/-- the observations, where they lie -/
def ObsR (W : World) (oa : Option Addr) (n : Nat) (op oA : Nat → Int) (oh : Nat → Bool) (ol : Nat → Int) : Prop :=
  (∀ i, i < n → (0 ≤ op i ∧ op i ≤ 255) ∧ (0 ≤ oA i ∧ oA i ≤ 255)) ∧
  (0 < n → ∃ b o, oa = some ⟨b, o, none⟩ ∧ b < W.heap.size ∧ ∀ i, i < n → W.cell? ⟨b, o + i * 4, none⟩ = some (.int .u8 (op i)) ∧ W.cell? ⟨b, o + i * 4 + 1, none⟩ = some (.int .u8 (oA i)) ∧ W.cell? ⟨b, o + i * 4 + 2, none⟩ = some (.bool (oh i)) ∧ W.cell? ⟨b, o + i * 4 + 3, none⟩ = some (.int .i64 (ol i)))
theorem ObsR.next {W W' : World} {oa : Option Addr} {n : Nat} {op oA : Nat → Int} {oh : Nat → Bool} {ol : Nat → Int} (h : ObsR W oa n op oA oh ol) (g : Below W.heap.size W W') : ObsR W' oa n op oA oh ol :=
  ⟨h.1, fun h0 => by
    obtain ⟨b, o, e, hb, hc⟩ := h.2 h0
    exact ⟨b, o, e, Nat.lt_of_lt_of_le hb g.size, fun i hi => ⟨keepc g (hc i hi).1, keepc g (hc i hi).2.1, keepc g (hc i hi).2.2.1, keepc g (hc i hi).2.2.2⟩⟩⟩
/-- an observation of the scan -/
def ob6 (qf : Nat → Fin 50) (lv : Nat → Int) (hgh : Nat → Bool) (j : Nat) : Nat → Value
  | 0 => .string (kd (qf j))
  | 1 => .int .u16 (ka (qf j))
  | 2 => .bool (hgh j)
  | 3 => .int .i64 (lv j)
  | 4 => .int .u32 0
  | _ => .bool false
theorem Fill.scan {W : World} {sc n : Nat} {qf : Nat → Fin 50} {lv : Nat → Int} {hgh : Nat → Bool} (h : Fill W sc n n 48 (ob6 qf lv hgh)) : Scan W sc n qf lv (fun _ => 0) hgh (fun _ => false) :=
  ⟨fun _ hk => h.get (m := 0) hk (by omega), fun _ hk => h.get (m := 1) hk (by omega), fun _ hk => h.get (m := 2) hk (by omega), fun _ hk => h.get (m := 3) hk (by omega), fun _ hk => h.get (m := 4) hk (by omega), fun _ hk => h.get (m := 5) hk (by omega)⟩
theorem info48 : (Ybaf.prog.info? 48).map (fun i => (i.zero, i.size, i.bytes)) = some (some (.agg #[.string ⟨#[]⟩, .int .u16 0, .bool false, .int .i64 0, .int .u32 0, .bool false]), 6, 40) := by kernel_rfl
theorem obs_news (w1 : World) (v0 v1 v2 v3 v4 v5 : Value) : ∀ j u, ([v0, v1, v2, v3, v4, v5] : List Value)[j]? = some u → (w1.alloc (.cells #[v0, v1, v2, v3, v4, v5] 48)).cell? ((⟨w1.heap.size, 0, none⟩ : Addr).add j) = some u := by
  intro j u hj
  rw [add0, Nat.zero_add]
  refine cell_of (MapKept.heap_alloc w1 _).1 ?_
  rw [← List.getElem?_toArray] at hj
  exact hj
theorem obs_spare {W : World} {sc n k : Nat} {f : Nat → Nat → Value} (F : Fill W sc n k 48 f) (hk : k < n) {l : List Value} (hl : l.length = 6 := by rfl) : ∀ j, j < l.length → (W.cell? ⟨sc, 0 + k * 6 + j, none⟩).isSome = true ∧ W.frozen? ⟨sc, 0 + k * 6 + j, none⟩ = false := fun j hj => by
  obtain ⟨⟨v, hv⟩, hf⟩ := F.there (o := 0 + k * 6 + j) (by omega)
  exact ⟨by rw [hv]; rfl, hf⟩
theorem obs_far {W : World} {nb c sc o : Nat} {l : List Value} {v : Value} (hne : nb ≠ sc) (h : W.cell? ⟨nb, c, none⟩ = some v) : (W.setCells sc o l).cell? ⟨nb, c, none⟩ = some v :=
  (World.cell?_setCells_out sc l o W ⟨nb, c, none⟩ (fun e => absurd e hne)).trans h
theorem obs_put {W0 W W1 : World} {sc n k : Nat} {op oA ol : Nat → Int} {oh : Nat → Bool} {p a : Int} (h0 : Below sc W0 W) (hb : Below W.heap.size W W1) (F : Fill W1 sc n k 48 (ob6 (fun j => mk (op j) (oA j)) ol oh)) (hk : k < n) (hp : op k = p) (ha : oA k = a) (a0 : 0 ≤ a) (hs : sc ≤ W.heap.size) :
    Below sc W0 (W1.setCells sc (0 + k * 6) [.string (dig (md5 p)), .int .u16 (IntKind.u16.wrap (a.tmod 10)), .bool (oh k), .int .i64 (ol k), .int .u32 0, .bool false]) ∧ Fill (W1.setCells sc (0 + k * 6) [.string (dig (md5 p)), .int .u16 (IntKind.u16.wrap (a.tmod 10)), .bool (oh k), .int .i64 (ol k), .int .u32 0, .bool false]) sc n (k + 1) 48 (ob6 (fun j => mk (op j) (oA j)) ol oh) := by
  have e10 : IntKind.u16.wrap (a.tmod 10) = a % 10 := by
    rw [Int.tmod_eq_emod_of_nonneg a0]
    simp [IntKind.wrap, IntKind.signed, IntKind.bits]
    omega
  rw [Nat.zero_add, e10]
  subst hp ha
  exact ⟨put6_below (h0.trans (hb.mono hs)) (Nat.le_refl _), F.put hk _ _ _ _ _ _ (by rw [kd_mk _ (oA k)]; rfl) (by rw [ka_mk (op k)]; rfl) rfl rfl rfl rfl⟩
set_option maxRecDepth 1000000 in
set_option maxHeartbeats 4000000 in
theorem P21 (w : World)
    (s1 s2 s3 s5 s8 s9 s10 s11 s12 s13 s14 s15 s20 s21 s23 s24 s27 s28 s29 s30 s31 s32 s33 s34 s35 s36 s37 s38 s39 s40 s41 s42 s43 s44 s45 s46 s47 s48 s49 s50 s51 s52 s53 s54 s55 s56 s57 s58 s59 s60 s61 s62 s63 s64 s65 s66 s67 s68 s69 s70 s71 s72 s73 s74 s75 s76 s77 s78 s79 s80 s81 s82 s83 s84 s85 s86 s87 s88 s89 s90 s91 s92 s93 s94 s95 s96 s97 s98 s99 s100 s101 s102 s103 s104 s105 s106 s107 s108 s109 s110 s111 s112 s113 s114 s115 s116 s117 s118 s119 s120 s121 s122 s123 s124 s125 s126 s127 s128 s129 s130 s131 s132 s133 s134 s135 s136 s137 s138 s139 s140 s141 s142 s143 s144 s145 s146 s147 s148 s149 s150 s151 s152 s153 s154 s155 s156 s157 s158 s159 s160 s161 s162 s163 s164 s165 s166 s167 s168 s169 s170 s171 s172 s173 s174 s175 s176 s177 s178 s179 s180 s181 s182 s183 s184 s185 s186 s187 s188 s189 s190 s191 s192 s193 s194 s195 s196 s197 s198 s199 s200 s201 s202 s203 s204 s205 s206 s207 s208 s209 s210 s211 s212 s213 s214 s215 s216 s217 s218 s219 s220 s221 s222 s223 s224 s225 s226 s227 s228 s229 s230 s231 s232 s233 s234 s235 s236 s237 s238 s239 s240 s241 s242 s243 s244 s245 s246 s247 s248 s249 s250 s251 s252 s253 s254 s255 s256 s257 s258 s259 s260 s261 s262 s263 s264 s265 s266 s267 s268 s269 s270 s271 s272 s273 s274 s275 s276 s277 s278 s279 s280 s281 s282 s283 s284 s285 s286 s287 s288 s289 s290 s291 s292 s293 s294 s295 s296 s297 s298 s299 s300 s301 s302 s303 s304 s305 s306 s307 s308 s309 s310 s311 s312 s313 s314 s315 s316 s317 s318 s319 s320 s321 s322 s323 s324 s325 s326 s327 s328 s329 s330 s331 s332 s333 s334 s335 s336 s337 s338 s339 s340 s341 s342 s343 s344 s345 s346 s347 s348 s349 s350 s351 s352 s353 s354 s355 s356 s357 s358 s359 s360 s361 s362 s363 s364 s365 s366 s367 s368 s369 s370 s371 s372 s373 s374 s375 s376 s377 s378 s379 s380 s381 s382 s383 s384 s385 s386 s387 s388 s389 s390 s391 s392 s393 s394 s395 s396 s397 s398 s399 s400 s401 s402 s403 s404 s405 s406 s407 s408 s409 s410 s411 s412 s413 s414 s415 s416 s417 s418 s419 s420 s421 s422 s423 s424 s425 s426 s427 s428 s429 s430 s431 s432 s433 s434 s435 s436 s437 s438 s439 s440 s441 s442 s443 s444 s445 s446 s447 s448 s449 s450 s451 s452 s453 s454 s455 s456 s457 s458 s459 s460 s461 s462 s463 s464 s465 s466 s467 s468 s469 s470 s471 s472 s473 s474 s475 s476 s477 s478 s479 s480 s481 s482 s483 s484 s485 s486 s487 s488 s489 s490 s491 s492 s493 s494 s495 s496 s497 s498 s499 s500 s501 s502 : Value)
    (K : Act → World → Prop) (rpd : Fin 5) (ql : Nat → Fin 5) (n15 : Nat) (mn : Bool) (md rI : Int) (qa : Option Addr) (qc : Nat) (dl : List Int) (da : Option Addr) (dc : Nat) (hl : List Int) (ha : Option Addr) (hc : Nat) (n6 : Nat) (fl : Nat → Fin 5) (fa : Option Addr) (fc ob pf : Nat) (ra : Option Addr) (nr rc : Nat) (vals : Nat → Int) (oa : Option Addr) (n oc : Nat) (op oA ol : Nat → Int) (oh : Nat → Bool) (W : World)
    (hK : ∀ a w', Code.wp Ybaf.prog (spine 12 (Ybaf.f3.body.getD .skip)) (bodyPost Ybaf.prog Ybaf.f3 fun e w' => e = .returned (.bool true) ∧ Below w.heap.size w w') a w' → K a w')
    (B : Below w.heap.size w W) (X : L2 W dl (.slice da dl.length dc) hl (.slice ha hl.length hc) n6 fl (.slice fa n6 fc) n15 ql (.slice qa n15 qc) ob pf md rpd ra nr rc vals) (O : ObsR W oa n op oA oh ol) (hn : n ≤ 300) (hmd : md = if mn then 1 else 0) (hrI : 0 ≤ rI ∧ rI ≤ 255) (hrp : md5 rI = rpd.val) :
    Code.wp Ybaf.prog (headAt 11 (Ybaf.f3.body.getD .skip)) (Exit.then K (bodyPost Ybaf.prog Ybaf.f3 fun e w' => e = .returned (.bool true) ∧ Below w.heap.size w w')) ⟨List.toArray (.slice oa n oc :: s1 :: s2 :: s3 :: .int .u8 rI :: s5 :: .bool mn :: .slice ra nr rc :: s8 :: s9 :: s10 :: s11 :: s12 :: s13 :: s14 :: s15 :: .bool false :: .slice da dl.length dc :: .slice ha hl.length hc :: .slice fa n6 fc :: s20 :: s21 :: .slice qa n15 qc :: s23 :: s24 :: .pointer (some ⟨ob, 0, none⟩) :: .pointer (some ⟨pf, 0, none⟩) :: s27 :: s28 :: s29 :: s30 :: s31 :: s32 :: s33 :: s34 :: s35 :: s36 :: s37 :: s38 :: s39 :: s40 :: s41 :: s42 :: s43 :: s44 :: s45 :: s46 :: s47 :: s48 :: s49 :: s50 :: s51 :: s52 :: s53 :: s54 :: s55 :: s56 :: s57 :: s58 :: s59 :: s60 :: s61 :: s62 :: s63 :: s64 :: s65 :: s66 :: s67 :: s68 :: s69 :: s70 :: s71 :: s72 :: s73 :: s74 :: s75 :: s76 :: s77 :: s78 :: s79 :: s80 :: s81 :: s82 :: s83 :: s84 :: s85 :: s86 :: s87 :: s88 :: s89 :: s90 :: s91 :: s92 :: s93 :: s94 :: s95 :: s96 :: s97 :: s98 :: s99 :: s100 :: s101 :: s102 :: s103 :: s104 :: s105 :: s106 :: s107 :: s108 :: s109 :: s110 :: s111 :: s112 :: s113 :: s114 :: s115 :: s116 :: s117 :: s118 :: s119 :: s120 :: s121 :: s122 :: s123 :: s124 :: s125 :: s126 :: s127 :: s128 :: s129 :: s130 :: s131 :: s132 :: s133 :: s134 :: s135 :: s136 :: s137 :: s138 :: s139 :: s140 :: s141 :: s142 :: s143 :: s144 :: s145 :: s146 :: s147 :: s148 :: s149 :: s150 :: s151 :: s152 :: s153 :: s154 :: s155 :: s156 :: s157 :: s158 :: s159 :: s160 :: s161 :: s162 :: s163 :: s164 :: s165 :: s166 :: s167 :: s168 :: s169 :: s170 :: s171 :: s172 :: s173 :: s174 :: s175 :: s176 :: s177 :: s178 :: s179 :: s180 :: s181 :: s182 :: s183 :: s184 :: s185 :: s186 :: s187 :: s188 :: s189 :: s190 :: s191 :: s192 :: s193 :: s194 :: s195 :: s196 :: s197 :: s198 :: s199 :: s200 :: s201 :: s202 :: s203 :: s204 :: s205 :: s206 :: s207 :: s208 :: s209 :: s210 :: s211 :: s212 :: s213 :: s214 :: s215 :: s216 :: s217 :: s218 :: s219 :: s220 :: s221 :: s222 :: s223 :: s224 :: s225 :: s226 :: s227 :: s228 :: s229 :: s230 :: s231 :: s232 :: s233 :: s234 :: s235 :: s236 :: s237 :: s238 :: s239 :: s240 :: s241 :: s242 :: s243 :: s244 :: s245 :: s246 :: s247 :: s248 :: s249 :: s250 :: s251 :: s252 :: s253 :: s254 :: s255 :: s256 :: s257 :: s258 :: s259 :: s260 :: s261 :: s262 :: s263 :: s264 :: s265 :: s266 :: s267 :: s268 :: s269 :: s270 :: s271 :: s272 :: s273 :: s274 :: s275 :: s276 :: s277 :: s278 :: s279 :: s280 :: s281 :: s282 :: s283 :: s284 :: s285 :: s286 :: s287 :: s288 :: s289 :: s290 :: s291 :: s292 :: s293 :: s294 :: s295 :: s296 :: s297 :: s298 :: s299 :: s300 :: s301 :: s302 :: s303 :: s304 :: s305 :: s306 :: s307 :: s308 :: s309 :: s310 :: s311 :: s312 :: s313 :: s314 :: s315 :: s316 :: s317 :: s318 :: s319 :: s320 :: s321 :: s322 :: s323 :: s324 :: s325 :: s326 :: s327 :: s328 :: s329 :: s330 :: s331 :: s332 :: s333 :: s334 :: s335 :: s336 :: s337 :: s338 :: s339 :: s340 :: s341 :: s342 :: s343 :: s344 :: s345 :: s346 :: s347 :: s348 :: s349 :: s350 :: s351 :: s352 :: s353 :: s354 :: s355 :: s356 :: s357 :: s358 :: s359 :: s360 :: s361 :: s362 :: s363 :: s364 :: s365 :: s366 :: s367 :: s368 :: s369 :: s370 :: s371 :: s372 :: s373 :: s374 :: s375 :: s376 :: s377 :: s378 :: s379 :: s380 :: s381 :: s382 :: s383 :: s384 :: s385 :: s386 :: s387 :: s388 :: s389 :: s390 :: s391 :: s392 :: s393 :: s394 :: s395 :: s396 :: s397 :: s398 :: s399 :: s400 :: s401 :: s402 :: s403 :: s404 :: s405 :: s406 :: s407 :: s408 :: s409 :: s410 :: s411 :: s412 :: s413 :: s414 :: s415 :: s416 :: s417 :: s418 :: s419 :: s420 :: s421 :: s422 :: s423 :: s424 :: s425 :: s426 :: s427 :: s428 :: s429 :: s430 :: s431 :: s432 :: s433 :: s434 :: s435 :: s436 :: s437 :: s438 :: s439 :: s440 :: s441 :: s442 :: s443 :: s444 :: s445 :: s446 :: s447 :: s448 :: s449 :: s450 :: s451 :: s452 :: s453 :: s454 :: s455 :: s456 :: s457 :: s458 :: s459 :: s460 :: s461 :: s462 :: s463 :: s464 :: s465 :: s466 :: s467 :: s468 :: s469 :: s470 :: s471 :: s472 :: s473 :: s474 :: s475 :: s476 :: s477 :: s478 :: s479 :: s480 :: s481 :: s482 :: s483 :: s484 :: s485 :: s486 :: s487 :: s488 :: s489 :: s490 :: s491 :: s492 :: s493 :: s494 :: s495 :: s496 :: s497 :: s498 :: s499 :: s500 :: s501 :: s502 :: []), []⟩ W := by
  conv => arg 2; whnf
  conv at hK => enter [a, w', 1, 2]; whnf
  obtain ⟨i48, hi48, z0, z1, z2⟩ := info_parts info48
  have HR : Hid _ := And.intro B (And.intro X O)
  clear B X O
  go_wp2_with (at_make; refine wpList_make_own _ rfl _ (.tmp 137) 39 rfl W.heap.size 48 i48 _ 6 Ybaf.underlying39 hi48 z0 z1 .i64 .i64 n n rfl rfl rfl ?b2 ?b3 ?b4 ?next)
  case b2 => rw [z2]; omega
  case b3 => unfold maxLen; omega
  case b4 => exact Nat.le_refl _
  case next =>
  intro w0 ho hgr
  have HU : Hid (Below W.heap.size W w0 ∧ Fill w0 W.heap.size n 0 48 (ob6 (fun j => mk (op j) (oA j)) ol oh)) := by
    refine ⟨⟨hgr.os, hgr.tape, hgr.output, hgr.size, fun k hk => hgr.block k hk (by simp)⟩, ?_⟩
    rcases ho.2 with ⟨h, _⟩ | ⟨g, c, cu, h, _, hh, _, _, hc, _⟩
    · cases h
    · simp only [Value.slice.injEq, Option.some.injEq, Addr.mk.injEq] at h
      obtain ⟨⟨rfl, _, _⟩, _, rfl⟩ := h
      exact ⟨cu, hh, hc, fun j hj => absurd hj (by omega)⟩
  obtain ⟨sc, hsc⟩ : ∃ sc, sc = W.heap.size := ⟨_, rfl⟩
  have HSC : Hid _ := hsc
  rw [← hsc] at HU ⊢
  clear hsc ho hgr
  go_wp2_with fail
  go_loopw [141, 27] (fun vi v27 wr => ∃ k : Nat, k ≤ n ∧ vi = .int .i64 k ∧ v27 = .slice (some ⟨sc, 0, none⟩) k n ∧ Hid (Below sc W wr ∧ Fill wr sc n k 48 (ob6 (fun j => mk (op j) (oA j)) ol oh))) (fun vi _ _ => n - (intOf vi).toNat)
  case atStart => exact ⟨0, Nat.zero_le _, rfl, rfl, HU⟩
  case round =>
    obtain ⟨k, hk, rfl, rfl, hF⟩ := hrel
    by_cases hkn : k < n
    · have hkn' : (k : Int) < (n : Int) := by omega
      have hk0 : (0 : Int) ≤ (k : Int) := by omega
      obtain ⟨⟨r0, r1⟩, r2, r3⟩ := HR.out.2.2.1 k hkn
      have O1 := HR.out.2.2.next (by have := hF.out.1; rw [HSC.out] at this; exact this)
      obtain ⟨b, o, rfl, hbl, hcc⟩ := O1.2 (by omega)
      obtain ⟨e0, e1, e2, e3⟩ := hcc k hkn
      clear hcc hbl O1
      obtain ⟨p, hp⟩ : ∃ p, op k = p := ⟨_, rfl⟩
      obtain ⟨a, ha'⟩ : ∃ a, oA k = a := ⟨_, rfl⟩
      rw [hp] at e0 r0 r1
      rw [ha'] at e1 r2 r3
      have HPA : Hid _ := And.intro hp ha'
      clear hp ha'
      have b1 := bal (o := (.cells #[.int .u8 p, .int .u8 a, .bool (oh k), .int .i64 (ol k)] 41)) (Below.refl _ wr)
      have BC := (MapKept.heap_alloc wr (.cells #[.int .u8 p, .int .u8 a, .bool (oh k), .int .i64 (ol k)] 41)).1
      have H1 : Hid (Below sc W (wr.alloc (.cells #[.int .u8 p, .int .u8 a, .bool (oh k), .int .i64 (ol k)] 41)) ∧ Fill (wr.alloc (.cells #[.int .u8 p, .int .u8 a, .bool (oh k), .int .i64 (ol k)] 41)) sc n k 48 (ob6 (fun j => mk (op j) (oA j)) ol oh)) := ⟨hF.out.1.trans (b1.mono (by have := hF.out.1.size; have := HSC.out; omega)), hF.out.2.of_block (b1.block _ hF.out.2.lt)⟩
      have hnb : wr.heap.size ≠ sc := by have := hF.out.2.lt; omega
      clear b1 hF
      go_upto_region 25 with fail
      generalize wr.alloc (.cells #[.int .u8 p, .int .u8 a, .bool (oh k), .int .i64 (ol k)] 41) = W2 at BC H1 ⊢
      generalize wr.heap.size = nb at BC hnb ⊢
      clear e0 e1 e2 e3
      have c0 : W2.cell? ⟨nb, 0, none⟩ = some (.int .u8 p) := cell_of BC rfl
      have c1 : W2.cell? ⟨nb, 1, none⟩ = some (.int .u8 a) := cell_of BC rfl
      have c2 : W2.cell? ⟨nb, 2, none⟩ = some (.bool (oh k)) := cell_of BC rfl
      have c3 : W2.cell? ⟨nb, 3, none⟩ = some (.int .i64 (ol k)) := cell_of BC rfl
      clear BC
      have hpl := fun w => plmn_any p w r0 r1
      have hone : ∀ u ∈ ([.string (dig (md5 p)), .int .u16 (IntKind.u16.wrap (a.tmod 10)), .bool (oh k), .int .i64 (ol k), .int .u32 0, .bool false] : List Value), u.oneCell' = true := by
        intro u hu
        simp at hu
        rcases hu with rfl | rfl | rfl | rfl | rfl | rfl <;> rfl
      have hroom : k + 1 ≤ n := hkn
      go_region_held3 (fun w' => w'.cell? ⟨nb, 0, none⟩ = some (.int .u8 p) ∧ w'.cell? ⟨nb, 1, none⟩ = some (.int .u8 a) ∧ w'.cell? ⟨nb, 2, none⟩ = some (.bool (oh k)) ∧ w'.cell? ⟨nb, 3, none⟩ = some (.int .i64 (ol k)))
        (first | with_reducible exact ⟨q0, q1, q2, q3⟩ | with_reducible exact ⟨g0, g1, g2, g3⟩ | with_reducible exact ⟨cell_alloc g0, cell_alloc g1, cell_alloc g2, cell_alloc g3⟩ | with_reducible exact ⟨cell_drew c0, cell_drew c1, cell_drew c2, cell_drew c3⟩ | with_reducible exact ⟨c0, c1, c2, c3⟩ | fail)
        (first
          | (revert hspare; intro hspare; refine step_append_room rfl (.tmp 145) (.tmp 158) 39 rfl 48 i48 6 Ybaf.underlying39 hi48 z1 sc 0 k n rfl ⟨w1.heap.size, 0, none⟩ 1 1 [.string (dig (md5 p)), .int .u16 (IntKind.u16.wrap (a.tmod 10)), .bool (oh k), .int .i64 (ol k), .int .u32 0, .bool false] rfl rfl hnews hone hroom hspare ?_)
          | (go_at_call 5; refine (hpl _).mono ?_; rintro e w1 ⟨rfl, hw1⟩
             have hb1 : Below W2.heap.size W2 w1 := by rw [← hw1]; exact (Below.drew (Below.refl _ W2)).alloc (Nat.le_refl _) _
             have g0 : w1.cell? ⟨nb, 0, none⟩ = some (.int .u8 p) := keepc hb1 c0
             have g1 : w1.cell? ⟨nb, 1, none⟩ = some (.int .u8 a) := keepc hb1 c1
             have g2 : w1.cell? ⟨nb, 2, none⟩ = some (.bool (oh k)) := keepc hb1 c2
             have g3 : w1.cell? ⟨nb, 3, none⟩ = some (.int .i64 (ol k)) := keepc hb1 c3
             have hb2 : Below W2.heap.size W2 (w1.alloc (.cells #[.string (dig (md5 p)), .int .u16 (IntKind.u16.wrap (a.tmod 10)), .bool (oh k), .int .i64 (ol k), .int .u32 0, .bool false] 48)) := hb1.trans ((bal (Below.refl _ w1)).mono hb1.size)
             have F2 : Fill (w1.alloc (.cells #[.string (dig (md5 p)), .int .u16 (IntKind.u16.wrap (a.tmod 10)), .bool (oh k), .int .i64 (ol k), .int .u32 0, .bool false] 48)) sc n k 48 (ob6 (fun j => mk (op j) (oA j)) ol oh) := H1.out.2.of_block (hb2.block _ H1.out.2.lt)
             have hnews : ∀ j u, ([.string (dig (md5 p)), .int .u16 (IntKind.u16.wrap (a.tmod 10)), .bool (oh k), .int .i64 (ol k), .int .u32 0, .bool false] : List Value)[j]? = some u → (w1.alloc (.cells #[.string (dig (md5 p)), .int .u16 (IntKind.u16.wrap (a.tmod 10)), .bool (oh k), .int .i64 (ol k), .int .u32 0, .bool false] 48)).cell? ((⟨w1.heap.size, 0, none⟩ : Addr).add j) = some u := obs_news w1 _ _ _ _ _ _
             have hspare : ∀ j, j < ([.string (dig (md5 p)), .int .u16 (IntKind.u16.wrap (a.tmod 10)), .bool (oh k), .int .i64 (ol k), .int .u32 0, .bool false] : List Value).length → ((w1.alloc (.cells #[.string (dig (md5 p)), .int .u16 (IntKind.u16.wrap (a.tmod 10)), .bool (oh k), .int .i64 (ol k), .int .u32 0, .bool false] 48)).cell? ⟨sc, 0 + k * 6 + j, none⟩).isSome = true ∧ (w1.alloc (.cells #[.string (dig (md5 p)), .int .u16 (IntKind.u16.wrap (a.tmod 10)), .bool (oh k), .int .i64 (ol k), .int .u32 0, .bool false] 48)).frozen? ⟨sc, 0 + k * 6 + j, none⟩ = false := obs_spare F2 hkn
             have HW : Hid (Below sc W ((w1.alloc (.cells #[.string (dig (md5 p)), .int .u16 (IntKind.u16.wrap (a.tmod 10)), .bool (oh k), .int .i64 (ol k), .int .u32 0, .bool false] 48)).setCells sc (0 + k * 6) [.string (dig (md5 p)), .int .u16 (IntKind.u16.wrap (a.tmod 10)), .bool (oh k), .int .i64 (ol k), .int .u32 0, .bool false]) ∧ Fill ((w1.alloc (.cells #[.string (dig (md5 p)), .int .u16 (IntKind.u16.wrap (a.tmod 10)), .bool (oh k), .int .i64 (ol k), .int .u32 0, .bool false] 48)).setCells sc (0 + k * 6) [.string (dig (md5 p)), .int .u16 (IntKind.u16.wrap (a.tmod 10)), .bool (oh k), .int .i64 (ol k), .int .u32 0, .bool false]) sc n (k + 1) 48 (ob6 (fun j => mk (op j) (oA j)) ol oh)) := obs_put H1.out.1 hb2 F2 hkn HPA.out.1 HPA.out.2 r2 (Nat.le_of_lt H1.out.2.lt)
             have q0 : ((w1.alloc (.cells #[.string (dig (md5 p)), .int .u16 (IntKind.u16.wrap (a.tmod 10)), .bool (oh k), .int .i64 (ol k), .int .u32 0, .bool false] 48)).setCells sc (0 + k * 6) [.string (dig (md5 p)), .int .u16 (IntKind.u16.wrap (a.tmod 10)), .bool (oh k), .int .i64 (ol k), .int .u32 0, .bool false]).cell? ⟨nb, 0, none⟩ = some (.int .u8 p) := obs_far hnb (cell_alloc g0)
             have q1 : ((w1.alloc (.cells #[.string (dig (md5 p)), .int .u16 (IntKind.u16.wrap (a.tmod 10)), .bool (oh k), .int .i64 (ol k), .int .u32 0, .bool false] 48)).setCells sc (0 + k * 6) [.string (dig (md5 p)), .int .u16 (IntKind.u16.wrap (a.tmod 10)), .bool (oh k), .int .i64 (ol k), .int .u32 0, .bool false]).cell? ⟨nb, 1, none⟩ = some (.int .u8 a) := obs_far hnb (cell_alloc g1)
             have q2 : ((w1.alloc (.cells #[.string (dig (md5 p)), .int .u16 (IntKind.u16.wrap (a.tmod 10)), .bool (oh k), .int .i64 (ol k), .int .u32 0, .bool false] 48)).setCells sc (0 + k * 6) [.string (dig (md5 p)), .int .u16 (IntKind.u16.wrap (a.tmod 10)), .bool (oh k), .int .i64 (ol k), .int .u32 0, .bool false]).cell? ⟨nb, 2, none⟩ = some (.bool (oh k)) := obs_far hnb (cell_alloc g2)
             have q3 : ((w1.alloc (.cells #[.string (dig (md5 p)), .int .u16 (IntKind.u16.wrap (a.tmod 10)), .bool (oh k), .int .i64 (ol k), .int .u32 0, .bool false] 48)).setCells sc (0 + k * 6) [.string (dig (md5 p)), .int .u16 (IntKind.u16.wrap (a.tmod 10)), .bool (oh k), .int .i64 (ol k), .int .u32 0, .bool false]).cell? ⟨nb, 3, none⟩ = some (.int .i64 (ol k)) := obs_far hnb (cell_alloc g3)
             clear hw1 hb1 hb2 F2)
          | fail)
      rename_i hHeld
      clear hHeld q0 q1 q2 q3 hspare hnews g0 g1 g2 g3
      generalize ((w1.alloc (.cells #[.string (dig (md5 p)), .int .u16 (IntKind.u16.wrap (a.tmod 10)), .bool (oh k), .int .i64 (ol k), .int .u32 0, .bool false] 48)).setCells sc (0 + k * 6) [.string (dig (md5 p)), .int .u16 (IntKind.u16.wrap (a.tmod 10)), .bool (oh k), .int .i64 (ol k), .int .u32 0, .bool false]) = W9 at HW ⊢
      go_wp2_with fail
      go_roundw
      case rel => exact ⟨k + 1, by omega, by go_num, rfl, HW⟩
      case measure => simp [intOf]; omega
    · obtain rfl : k = n := by omega
      have hnl : ¬ ((k : Nat) : Int) < ((k : Nat) : Int) := by omega
      have HB : Hid (Below W.heap.size W wr) := by
        have := hF.out.1
        rw [HSC.out] at this
        exact this
      have HE : Hid (Below w.heap.size w wr ∧ L2 wr dl (.slice da dl.length dc) hl (.slice ha hl.length hc) n6 fl (.slice fa n6 fc) n15 ql (.slice qa n15 qc) ob pf md rpd ra nr rc vals ∧ Scan wr sc k (fun j => mk (op j) (oA j)) ol (fun _ => 0) oh (fun _ => false) ∧ sc < wr.heap.size) := ⟨HR.out.1.trans (HB.out.mono HR.out.1.size), HR.out.2.1.next HB.out, hF.out.2.scan, hF.out.2.lt⟩
      clear hF
      go_upto_region 27 with fail
      refine P27 w _ _ _ _ _ _ _ _ _ _ _ _ _ _ _ _ _ _ _ _ _ _ _ _ _ _ _ _ _ _ _ _ _ _ _ _ _ _ _ _ _ _ _ _ _ _ _ _ _ _ _ _ _ _ _ _ _ _ _ _ _ _ _ _ _ _ _ _ _ _ _ _ _ _ _ _ _ _ _ _ _ _ _ _ _ _ _ _ _ _ _ _ _ _ _ _ _ _ _ _ _ _ _ _ _ _ _ _ _ _ _ _ _ _ _ _ _ _ _ _ _ _ _ _ _ _ _ _ _ _ _ _ _ _ _ _ _ _ _ _ _ _ _ _ _ _ _ _ _ _ _ _ _ _ _ _ _ _ _ _ _ _ _ _ _ _ _ _ _ _ _ _ _ _ _ _ _ _ _ _ _ _ _ _ _ _ _ _ _ _ _ _ _ _ _ _ _ _ _ _ _ _ _ _ _ _ _ _ _ _ _ _ _ _ _ _ _ _ _ _ _ _ _ _ _ _ _ _ _ _ _ _ _ _ _ _ _ _ _ _ _ _ _ _ _ _ _ _ _ _ _ _ _ _ _ _ _ _ _ _ _ _ _ _ _ _ _ _ _ _ _ _ _ _ _ _ _ _ _ _ _ _ _ _ _ _ _ _ _ _ _ _ _ _ _ _ _ _ _ _ _ _ _ _ _ _ _ _ _ _ _ _ _ _ _ _ _ _ _ _ _ _ _ _ _ _ _ _ _ _ _ _ _ _ _ _ _ _ _ _ _ _ _ _ _ _ _ _ _ _ _ _ _ _ _ _ _ _ _ _ _ _ _ _ _ _ _ _ _ _ _ _ _ _ _ _ _ _ _ _ _ _ _ _ _ _ _ _ _ _ _ _ _ _ _ _ _ _ _ _ _ _ _ _ _ _ _ _ _ _ _ _ _ _ _ _ _ _ _ _ _ _ _ _ _ _ _ _ _ _ _ _ _ _ _ _ _ _ _ _ _ _ _ _ _ _ _ _ _ _ _ _ _ _ _ _ _ _ _ _ _ _ _ _ _ _ _ _ _ _ _ _ _ _ _ _ _ _ _ _ _ _ _ _ _ _ _ _ _ _ _ _ _ rpd ql n15 mn md rI qa qc dl da dc hl ha hc n6 fl fa fc ob pf ra nr rc vals sc k (fun j => mk (op j) (oA j)) ol (fun _ => 0) oh (fun _ => false) _ ?_ HE.out.1 HE.out.2.1 HE.out.2.2.1 HE.out.2.2.2 hn hmd hrI hrp
      assumption
end Go.Proofs.YbulkcuegFmt
