import Derived.Test.YbulkcuegGot
namespace Go.Proofs.Ybulkcueg
open Go.RowKit Go.Maps

set_option maxRecDepth 1000000 in
set_option maxHeartbeats 4000000 in
theorem P52 (sa : Option Addr) (n scap : Nat) (ra : Option Addr) (nc rcap : Nat) (hb : Bool) (bp ba : Int) (bu bo : Bool) (be : Int) (bt : Int) (mn hf : Bool) (fp fa : Int) (fu fo : Bool) (fe : Int) (er ee : Int)
    (qf cq : Nat → Fin 9) (lv cd cr ce : Nat → Int) (kn co : Nat → Bool) (w : World)
    (s10 s11 s12 s14 s15 s16 s18 s19 s20 s22 s23 s24 s26 s27 s34 s38 s39 s40 s41 s42 s43 s44 s45 s46 s47 s48 s49 s50 s51 s52 s53 s54 s55 s56 s57 s58 s59 s60 s61 s62 s63 s64 s65 s66 s67 s68 s69 s70 s71 s72 s73 s74 s75 s76 s77 s78 s79 s80 s81 s82 s83 s84 s85 s86 s87 s88 s89 s90 s91 s92 s93 s94 s95 s96 s97 s98 s99 s100 s101 s102 s103 s104 s105 s106 s107 s108 s109 s110 s111 s112 s113 s114 s115 s116 s117 s118 s119 s120 s121 s122 s123 s124 s125 s126 s127 s128 s129 s130 s131 s132 s133 s134 s135 s136 s137 s138 s139 s140 s141 s142 s143 s144 s145 s146 s147 s148 s149 s150 s151 s152 s153 s154 s155 s156 s157 s158 s159 s160 s161 s162 s163 s164 s165 s166 s167 s168 s169 s170 s171 s172 s173 s174 s175 s176 s177 s178 s179 s180 s181 s182 s183 s184 s185 s186 s187 s188 s189 s190 s191 s192 s193 s194 s195 s196 s197 s198 s199 s200 s201 s202 s203 s204 s205 s206 s207 s208 s209 s210 s211 s212 s213 s214 s215 s216 s217 s218 s219 s220 s221 s222 s223 s224 s225 s226 s227 s228 s229 s230 s231 s232 s233 s234 s235 s236 s237 s238 s239 s240 s241 s242 s243 s244 s245 s246 s247 s248 s249 s250 s251 s252 s253 s254 s255 s256 s257 s258 s259 s260 s261 s262 s263 s264 s265 s266 s267 s268 s269 s270 s271 s272 s273 s274 s275 s276 s277 s278 s279 s280 s281 s282 s283 s284 s285 s286 s287 s288 s289 s290 s291 s292 s293 s294 s295 s296 s297 s298 s299 s300 s301 s302 s303 s304 s305 s306 s307 s308 s309 s310 s311 s312 s313 s314 s315 s316 s317 s318 s319 s320 s321 s322 s323 s324 s325 s326 s327 s328 s329 s330 s331 s332 s333 s334 s335 s336 s337 s338 s339 s340 s341 s342 s343 s344 s345 s346 s347 s348 s349 s350 s351 s352 s353 s354 s355 s356 s357 s358 s359 s360 s361 s362 s363 s364 s365 s366 s367 s368 s369 s370 s371 s372 s373 s374 s375 s376 s377 s378 s379 s380 s381 s382 s383 s384 s385 s386 s387 : Value)
    (K : Act → World → Prop) (bb fb cb rb xb gb dv tb mm : Nat) (bk : Option Nat) (md : Int) (got : Value) (dc : Array Value) (W : World)
    (hK : ∀ a w', Code.wp Yba.prog (spine 21 (Yba.f3.body.getD .skip)) (bodyPost Yba.prog Yba.f3 fun e w' => e = .returned (.bool true) ∧ Below w.heap.size w w') a w' → K a w')
    (hbk : Hid (bk.isSome = hb)) (hgot : Hid (Got n nc qf lv cd kn cq cr ce co hf mn (mk fp fa) fe bk #[.string (kd (mk bp ba)), .int .u16 (ka (mk bp ba)), .int .u8 (rule bu), .int .u8 0, .int .i64 (entry bu be), .bool bo, .int .u32 bt, .bool true] er ee got dc)) (hno : Hid (∀ j, j < nc → atOf qf lv (cq j) n = -1)) (L : L6 w W cb rb xb dv tb mm n nc (ob6 qf lv cd kn) (ca6 cq cr ce co) #[.int .u8 er, .int .u8 0, .int .i64 ee] #[.string (kd (mk bp ba)), .int .u16 (ka (mk bp ba)), .int .u8 (rule bu), .int .u8 0, .int .i64 (entry bu be), .bool bo, .int .u32 bt, .bool true] dc (m5 hf (mk fp fa) (cq 0) fe nc)) :
    Code.wp Yba.prog (headAt 20 (Yba.f3.body.getD .skip)) (Exit.then K (bodyPost Yba.prog Yba.f3 fun e w' => e = .returned (.bool true) ∧ Below w.heap.size w w')) ⟨List.toArray (.slice sa n scap :: .slice ra nc rcap :: .bool hb :: .agg #[.int .u8 bp, .int .u8 ba, .bool bu, .bool bo, .int .i64 be] :: .int .u16 bt :: .bool mn :: .bool hf :: .agg #[.int .u8 fp, .int .u8 fa, .bool fu, .bool fo, .int .i64 fe] :: .int .u8 er :: .int .i64 ee :: s10 :: s11 :: s12 :: .pointer (some ⟨bb, 0, none⟩) :: s14 :: s15 :: s16 :: .pointer (some ⟨fb, 0, none⟩) :: s18 :: s19 :: s20 :: .slice (some ⟨cb, 0, none⟩) n n :: s22 :: s23 :: s24 :: .slice (some ⟨rb, 0, none⟩) nc nc :: s26 :: s27 :: .int .u8 md :: .pointer (some ⟨xb, 0, none⟩) :: .pointer (some ⟨gb, 0, none⟩) :: .pointer (some ⟨dv, 0, none⟩) :: .pointer (some ⟨tb, 0, none⟩) :: .pointer (bk.map fun b => ⟨b, 0, none⟩) :: s34 :: got :: .pointer (some ⟨mm, 0, none⟩) :: .bool (mh hf nc) :: s38 :: s39 :: s40 :: s41 :: s42 :: s43 :: s44 :: s45 :: s46 :: s47 :: s48 :: s49 :: s50 :: s51 :: s52 :: s53 :: s54 :: s55 :: s56 :: s57 :: s58 :: s59 :: s60 :: s61 :: s62 :: s63 :: s64 :: s65 :: s66 :: s67 :: s68 :: s69 :: s70 :: s71 :: s72 :: s73 :: s74 :: s75 :: s76 :: s77 :: s78 :: s79 :: s80 :: s81 :: s82 :: s83 :: s84 :: s85 :: s86 :: s87 :: s88 :: s89 :: s90 :: s91 :: s92 :: s93 :: s94 :: s95 :: s96 :: s97 :: s98 :: s99 :: s100 :: s101 :: s102 :: s103 :: s104 :: s105 :: s106 :: s107 :: s108 :: s109 :: s110 :: s111 :: s112 :: s113 :: s114 :: s115 :: s116 :: s117 :: s118 :: s119 :: s120 :: s121 :: s122 :: s123 :: s124 :: s125 :: s126 :: s127 :: s128 :: s129 :: s130 :: s131 :: s132 :: s133 :: s134 :: s135 :: s136 :: s137 :: s138 :: s139 :: s140 :: s141 :: s142 :: s143 :: s144 :: s145 :: s146 :: s147 :: s148 :: s149 :: s150 :: s151 :: s152 :: s153 :: s154 :: s155 :: s156 :: s157 :: s158 :: s159 :: s160 :: s161 :: s162 :: s163 :: s164 :: s165 :: s166 :: s167 :: s168 :: s169 :: s170 :: s171 :: s172 :: s173 :: s174 :: s175 :: s176 :: s177 :: s178 :: s179 :: s180 :: s181 :: s182 :: s183 :: s184 :: s185 :: s186 :: s187 :: s188 :: s189 :: s190 :: s191 :: s192 :: s193 :: s194 :: s195 :: s196 :: s197 :: s198 :: s199 :: s200 :: s201 :: s202 :: s203 :: s204 :: s205 :: s206 :: s207 :: s208 :: s209 :: s210 :: s211 :: s212 :: s213 :: s214 :: s215 :: s216 :: s217 :: s218 :: s219 :: s220 :: s221 :: s222 :: s223 :: s224 :: s225 :: s226 :: s227 :: s228 :: s229 :: s230 :: s231 :: s232 :: s233 :: s234 :: s235 :: s236 :: s237 :: s238 :: s239 :: s240 :: s241 :: s242 :: s243 :: s244 :: s245 :: s246 :: s247 :: s248 :: s249 :: s250 :: s251 :: s252 :: s253 :: s254 :: s255 :: s256 :: s257 :: s258 :: s259 :: s260 :: s261 :: s262 :: s263 :: s264 :: s265 :: s266 :: s267 :: s268 :: s269 :: s270 :: s271 :: s272 :: s273 :: s274 :: s275 :: s276 :: s277 :: s278 :: s279 :: s280 :: s281 :: s282 :: s283 :: s284 :: s285 :: s286 :: s287 :: s288 :: s289 :: s290 :: s291 :: s292 :: s293 :: s294 :: s295 :: s296 :: s297 :: s298 :: s299 :: s300 :: s301 :: s302 :: s303 :: s304 :: s305 :: s306 :: s307 :: s308 :: s309 :: s310 :: s311 :: s312 :: s313 :: s314 :: s315 :: s316 :: s317 :: s318 :: s319 :: s320 :: s321 :: s322 :: s323 :: s324 :: s325 :: s326 :: s327 :: s328 :: s329 :: s330 :: s331 :: s332 :: s333 :: s334 :: s335 :: s336 :: s337 :: s338 :: s339 :: s340 :: s341 :: s342 :: s343 :: s344 :: s345 :: s346 :: s347 :: s348 :: s349 :: s350 :: s351 :: s352 :: s353 :: s354 :: s355 :: s356 :: s357 :: s358 :: s359 :: s360 :: s361 :: s362 :: s363 :: s364 :: s365 :: s366 :: s367 :: s368 :: s369 :: s370 :: s371 :: s372 :: s373 :: s374 :: s375 :: s376 :: s377 :: s378 :: s379 :: s380 :: s381 :: s382 :: s383 :: s384 :: s385 :: s386 :: s387 :: []), []⟩ W := by
  conv => arg 2; whnf
  conv at hK => enter [a, w', 1, 2]; whnf
  rcases hgot.out with ⟨i, b, h1, _, h3, _⟩ | ⟨_, ⟨ad, c35, e35⟩, ⟨e37, e38, e39, e40, e41, e42⟩, st, e22, E⟩
  · have := hno.out i h1
    omega
  clear hgot hno
  unfold m5 at L
  generalize mh hf nc = hh at e42 E ⊢
  generalize mb hf (mk fp fa) (cq 0) nc = f0 at e37 E L
  generalize ma hf (mk fp fa) (cq 0) nc = f1 at e38 E L
  generalize mr hf nc = f2 at e39 E L
  generalize me hf fe = f4 at e41 E L
  rcases E with ⟨⟨b, rfl⟩, rfl, hE, h27, h36⟩ | ⟨rfl, rfl, rfl, hE⟩ | ⟨rfl, rfl, rfl, rfl, hE, h23, h24⟩ | ⟨rfl, rfl, rfl, rfl, hE⟩
  · obtain rfl : hb = true := hbk.out.symm
    obtain rfl : got = .iface 67 (.agg #[.string (kd (mk bp ba)), .int .u16 (ka (mk bp ba)), .int .u8 (rule bu), .int .u8 0, .int .i64 (entry bu be), .bool bo, .int .u32 bt, .bool true]) := by simpa using hE
    clear hE hbk
    have x35 : W.cell? ⟨dv, 35, none⟩ = some (.slice ad 0 c35) := cell_of L.d e35
    have x42 : W.cell? ⟨dv, 42, none⟩ = some (.bool hh) := cell_of L.d e42
    have k0 : W.cell? ⟨dv, 37, none⟩ = some (.string f0) := cell_of L.d e37
    have k1 : W.cell? ⟨dv, 38, none⟩ = some (.int .u16 f1) := cell_of L.d e38
    have k2 : W.cell? ⟨dv, 39, none⟩ = some (.int .u8 f2) := cell_of L.d e39
    have k3 : W.cell? ⟨dv, 40, none⟩ = some (.int .u8 0) := cell_of L.d e40
    have k4 : W.cell? ⟨dv, 41, none⟩ = some (.int .i64 f4) := cell_of L.d e41
    have g0 : W.cell? ⟨mm, 0, none⟩ = some (.string f0) := cell_of L.m rfl
    have g1 : W.cell? ⟨mm, 1, none⟩ = some (.int .u16 f1) := cell_of L.m rfl
    have g2 : W.cell? ⟨mm, 2, none⟩ = some (.int .u8 f2) := cell_of L.m rfl
    have g3 : W.cell? ⟨mm, 3, none⟩ = some (.int .u8 0) := cell_of L.m rfl
    have g4 : W.cell? ⟨mm, 4, none⟩ = some (.int .i64 f4) := cell_of L.m rfl
    have r3 := eq51 f0 f1 f2 0 f4
    have x22 : W.cell? ⟨dv, 22, none⟩ = some (.int .u8 1) := cell_of L.d e22
    have t0 : W.cell? ⟨tb, 0, none⟩ = some (.string (kd (mk bp ba))) := cell_of L.t rfl
    have t1 : W.cell? ⟨tb, 1, none⟩ = some (.int .u16 (ka (mk bp ba))) := cell_of L.t rfl
    have t2 : W.cell? ⟨tb, 2, none⟩ = some (.int .u8 (rule bu)) := cell_of L.t rfl
    have t3 : W.cell? ⟨tb, 3, none⟩ = some (.int .u8 0) := cell_of L.t rfl
    have t4 : W.cell? ⟨tb, 4, none⟩ = some (.int .i64 (entry bu be)) := cell_of L.t rfl
    have t5 : W.cell? ⟨tb, 5, none⟩ = some (.bool bo) := cell_of L.t rfl
    have t6 : W.cell? ⟨tb, 6, none⟩ = some (.int .u32 bt) := cell_of L.t rfl
    have t7 : W.cell? ⟨tb, 7, none⟩ = some (.bool true) := cell_of L.t rfl
    have q0 : W.cell? ⟨dv, 27, none⟩ = some (.string (kd (mk bp ba))) := cell_of L.d (h27 0 (by omega))
    have q1 : W.cell? ⟨dv, 28, none⟩ = some (.int .u16 (ka (mk bp ba))) := cell_of L.d (h27 1 (by omega))
    have q2 : W.cell? ⟨dv, 29, none⟩ = some (.int .u8 (rule bu)) := cell_of L.d (h27 2 (by omega))
    have q3 : W.cell? ⟨dv, 30, none⟩ = some (.int .u8 0) := cell_of L.d (h27 3 (by omega))
    have q4 : W.cell? ⟨dv, 31, none⟩ = some (.int .i64 (entry bu be)) := cell_of L.d (h27 4 (by omega))
    have q5 : W.cell? ⟨dv, 32, none⟩ = some (.bool bo) := cell_of L.d (h27 5 (by omega))
    have q6 : W.cell? ⟨dv, 33, none⟩ = some (.int .u32 bt) := cell_of L.d (h27 6 (by omega))
    have q7 : W.cell? ⟨dv, 34, none⟩ = some (.bool true) := cell_of L.d (h27 7 (by omega))
    have x36 : W.cell? ⟨dv, 36, none⟩ = some (.pointer none) := cell_of L.d h36
    have r1 := eq73t (kd (mk bp ba)) (ka (mk bp ba)) (rule bu) 0 (entry bu be) bt bo true
    have r2 := eq67 (kd (mk bp ba)) (ka (mk bp ba)) (rule bu) 0 (entry bu be) bt bo true
    have r4 := eq68n
    have hB : Hid (Below w.heap.size w W) := L.b
    have HLx : Hid _ := L
    clear L e22 e35 e37 e38 e39 e40 e41 e42 h27 h36
    go_wp2_with fail
    go_quiet (fail)
    go_wp2_with fail
    go_quiet (fail)
    go_wp2_with fail
    go_ret
    exact ⟨by simp, hB.out.trans (((drewN_below _ _).trans ((drewN_below _ _).mono (Nat.le_refl _))).mono hB.out.size)⟩
  · obtain rfl : hb = false := hbk.out.symm
    clear hbk
    cases hh
    · obtain rfl : got = .iface 76 (.agg #[.int .u8 er, .int .u8 0, .int .i64 ee]) := by simpa using hE
      clear hE
      have x35 : W.cell? ⟨dv, 35, none⟩ = some (.slice ad 0 c35) := cell_of L.d e35
      have x42 : W.cell? ⟨dv, 42, none⟩ = some (.bool false) := cell_of L.d e42
      have k0 : W.cell? ⟨dv, 37, none⟩ = some (.string f0) := cell_of L.d e37
      have k1 : W.cell? ⟨dv, 38, none⟩ = some (.int .u16 f1) := cell_of L.d e38
      have k2 : W.cell? ⟨dv, 39, none⟩ = some (.int .u8 f2) := cell_of L.d e39
      have k3 : W.cell? ⟨dv, 40, none⟩ = some (.int .u8 0) := cell_of L.d e40
      have k4 : W.cell? ⟨dv, 41, none⟩ = some (.int .i64 f4) := cell_of L.d e41
      have g0 : W.cell? ⟨mm, 0, none⟩ = some (.string f0) := cell_of L.m rfl
      have g1 : W.cell? ⟨mm, 1, none⟩ = some (.int .u16 f1) := cell_of L.m rfl
      have g2 : W.cell? ⟨mm, 2, none⟩ = some (.int .u8 f2) := cell_of L.m rfl
      have g3 : W.cell? ⟨mm, 3, none⟩ = some (.int .u8 0) := cell_of L.m rfl
      have g4 : W.cell? ⟨mm, 4, none⟩ = some (.int .i64 f4) := cell_of L.m rfl
      have r3 := eq51 f0 f1 f2 0 f4
      have HLx : Hid _ := L
      clear L
      go_wp2_with fail
      go_quiet (fail)
      clear x35 x42 k0 k1 k2 k3 k4 g0 g1 g2 g3 g4 r3
      have L2 := HLx.out.below (drewN_below W nq)
      generalize W.drewN nq = W2 at L2 ⊢
      clear HLx
      have x0 : W2.cell? ⟨xb, 0, none⟩ = some (.int .u8 er) := cell_of L2.x rfl
      have x1 : W2.cell? ⟨xb, 1, none⟩ = some (.int .u8 0) := cell_of L2.x rfl
      have x2 : W2.cell? ⟨xb, 2, none⟩ = some (.int .i64 ee) := cell_of L2.x rfl
      have L3 := L2.below (bal (o := .cells #[.int .u8 er, .int .u8 0, .int .i64 ee] 45) (Below.refl _ W2))
      have yy := (MapKept.heap_alloc W2 (.cells #[.int .u8 er, .int .u8 0, .int .i64 ee] 45)).1
      have hy : Hid (mm < W2.heap.size) := lt_of_heap L2.m
      have HL3 : Hid _ := L3
      have Hyy : Hid _ := yy
      clear L2 L3 yy
      go_upto_region 56 with fail
      generalize W2.alloc (.cells #[.int .u8 er, .int .u8 0, .int .i64 ee] 45) = W3 at HL3 Hyy ⊢
      generalize W2.heap.size = yb at Hyy hy ⊢
      clear x0 x1 x2
      have L3 := HL3.out
      have yy := Hyy.out
      clear HL3 Hyy
      have y0 : W3.cell? ⟨yb, 0, none⟩ = some (.int .u8 er) := cell_of yy rfl
      have y1 : W3.cell? ⟨yb, 1, none⟩ = some (.int .u8 0) := cell_of yy rfl
      have y2 : W3.cell? ⟨yb, 2, none⟩ = some (.int .i64 ee) := cell_of yy rfl
      have x22 : W3.cell? ⟨dv, 22, none⟩ = some (.int .u8 5) := cell_of L3.d e22
      have r5 := eq73a er 0 ee
      have hB : Hid (Below w.heap.size w W3) := L3.b
      clear L3 yy
      go_wp2_with fail
      go_ret
      exact ⟨by simp, hB.out⟩
    · obtain rfl : got = .iface 76 (.agg #[.int .u8 f2, .int .u8 0, .int .i64 f4]) := by simpa using hE
      clear hE
      have x35 : W.cell? ⟨dv, 35, none⟩ = some (.slice ad 0 c35) := cell_of L.d e35
      have x42 : W.cell? ⟨dv, 42, none⟩ = some (.bool true) := cell_of L.d e42
      have k0 : W.cell? ⟨dv, 37, none⟩ = some (.string f0) := cell_of L.d e37
      have k1 : W.cell? ⟨dv, 38, none⟩ = some (.int .u16 f1) := cell_of L.d e38
      have k2 : W.cell? ⟨dv, 39, none⟩ = some (.int .u8 f2) := cell_of L.d e39
      have k3 : W.cell? ⟨dv, 40, none⟩ = some (.int .u8 0) := cell_of L.d e40
      have k4 : W.cell? ⟨dv, 41, none⟩ = some (.int .i64 f4) := cell_of L.d e41
      have g0 : W.cell? ⟨mm, 0, none⟩ = some (.string f0) := cell_of L.m rfl
      have g1 : W.cell? ⟨mm, 1, none⟩ = some (.int .u16 f1) := cell_of L.m rfl
      have g2 : W.cell? ⟨mm, 2, none⟩ = some (.int .u8 f2) := cell_of L.m rfl
      have g3 : W.cell? ⟨mm, 3, none⟩ = some (.int .u8 0) := cell_of L.m rfl
      have g4 : W.cell? ⟨mm, 4, none⟩ = some (.int .i64 f4) := cell_of L.m rfl
      have r3 := eq51 f0 f1 f2 0 f4
      have HLx : Hid _ := L
      clear L
      go_wp2_with fail
      go_quiet (fail)
      clear x35 x42 k0 k1 k2 k3 k4 g0 g1 g2 g3 g4 r3
      have L2 := HLx.out.below (drewN_below W nq)
      generalize W.drewN nq = W2 at L2 ⊢
      clear HLx
      have x0 : W2.cell? ⟨xb, 0, none⟩ = some (.int .u8 er) := cell_of L2.x rfl
      have x1 : W2.cell? ⟨xb, 1, none⟩ = some (.int .u8 0) := cell_of L2.x rfl
      have x2 : W2.cell? ⟨xb, 2, none⟩ = some (.int .i64 ee) := cell_of L2.x rfl
      have L3 := L2.below (bal (o := .cells #[.int .u8 er, .int .u8 0, .int .i64 ee] 45) (Below.refl _ W2))
      have yy := (MapKept.heap_alloc W2 (.cells #[.int .u8 er, .int .u8 0, .int .i64 ee] 45)).1
      have hy : Hid (mm < W2.heap.size) := lt_of_heap L2.m
      have HL3 : Hid _ := L3
      have Hyy : Hid _ := yy
      clear L2 L3 yy
      go_upto_region 56 with fail
      generalize W2.alloc (.cells #[.int .u8 er, .int .u8 0, .int .i64 ee] 45) = W3 at HL3 Hyy ⊢
      generalize W2.heap.size = yb at Hyy hy ⊢
      clear x0 x1 x2
      have L3 := HL3.out
      have yy := Hyy.out
      clear HL3 Hyy
      have y0 : W3.cell? ⟨yb, 0, none⟩ = some (.int .u8 er) := cell_of yy rfl
      have y1 : W3.cell? ⟨yb, 1, none⟩ = some (.int .u8 0) := cell_of yy rfl
      have y2 : W3.cell? ⟨yb, 2, none⟩ = some (.int .i64 ee) := cell_of yy rfl
      have yz0 : W3.frozen? ⟨yb, 0, none⟩ = false := fz_of yy
      have yz1 : W3.frozen? ⟨yb, 1, none⟩ = false := fz_of yy
      have yz2 : W3.frozen? ⟨yb, 2, none⟩ = false := fz_of yy
      have g0 : W3.cell? ⟨mm, 0, none⟩ = some (.string f0) := cell_of L3.m rfl
      have g1 : W3.cell? ⟨mm, 1, none⟩ = some (.int .u16 f1) := cell_of L3.m rfl
      have g2 : W3.cell? ⟨mm, 2, none⟩ = some (.int .u8 f2) := cell_of L3.m rfl
      have g3 : W3.cell? ⟨mm, 3, none⟩ = some (.int .u8 0) := cell_of L3.m rfl
      have g4 : W3.cell? ⟨mm, 4, none⟩ = some (.int .i64 f4) := cell_of L3.m rfl
      have L4 := ((L3.young yb 0 (.int .u8 f2) hy.out).young yb 1 (.int .u8 0) hy.out).young yb 2 (.int .i64 f4) hy.out
      have yw := heap_set (k := 2) (.int .i64 f4) (heap_set (k := 1) (.int .u8 0) (heap_set (k := 0) (.int .u8 f2) yy))
      have HL4 : Hid _ := L4
      have Hyw : Hid _ := yw
      clear L3 L4 yy yw
      go_upto_region 58 with fail
      generalize ((W3.setCell ⟨yb, 0, none⟩ (.int .u8 f2)).setCell ⟨yb, 1, none⟩ (.int .u8 0)).setCell ⟨yb, 2, none⟩ (.int .i64 f4) = W5 at HL4 Hyw ⊢
      clear y0 y1 y2 yz0 yz1 yz2 g0 g1 g2 g3 g4
      have L3 := HL4.out
      have yy : W5.heap[yb]? = some (.cells #[.int .u8 f2, .int .u8 0, .int .i64 f4] 45 (0, 0)) := Hyw.out
      clear HL4 Hyw
      have y0 : W5.cell? ⟨yb, 0, none⟩ = some (.int .u8 f2) := cell_of yy rfl
      have y1 : W5.cell? ⟨yb, 1, none⟩ = some (.int .u8 0) := cell_of yy rfl
      have y2 : W5.cell? ⟨yb, 2, none⟩ = some (.int .i64 f4) := cell_of yy rfl
      have x22 : W5.cell? ⟨dv, 22, none⟩ = some (.int .u8 5) := cell_of L3.d e22
      have r5 := eq73a f2 0 f4
      have hB : Hid (Below w.heap.size w W5) := L3.b
      clear L3 yy
      go_wp2_with fail
      go_ret
      exact ⟨by simp, hB.out⟩
  · obtain rfl : hb = false := hbk.out.symm
    obtain rfl : got = .iface 51 (.agg #[.string f0, .int .u16 f1, .int .u8 f2, .int .u8 0, .int .i64 f4]) := by simpa using hE
    clear hE hbk
    have x35 : W.cell? ⟨dv, 35, none⟩ = some (.slice ad 0 c35) := cell_of L.d e35
    have x42 : W.cell? ⟨dv, 42, none⟩ = some (.bool true) := cell_of L.d e42
    have k0 : W.cell? ⟨dv, 37, none⟩ = some (.string f0) := cell_of L.d e37
    have k1 : W.cell? ⟨dv, 38, none⟩ = some (.int .u16 f1) := cell_of L.d e38
    have k2 : W.cell? ⟨dv, 39, none⟩ = some (.int .u8 f2) := cell_of L.d e39
    have k3 : W.cell? ⟨dv, 40, none⟩ = some (.int .u8 0) := cell_of L.d e40
    have k4 : W.cell? ⟨dv, 41, none⟩ = some (.int .i64 f4) := cell_of L.d e41
    have g0 : W.cell? ⟨mm, 0, none⟩ = some (.string f0) := cell_of L.m rfl
    have g1 : W.cell? ⟨mm, 1, none⟩ = some (.int .u16 f1) := cell_of L.m rfl
    have g2 : W.cell? ⟨mm, 2, none⟩ = some (.int .u8 f2) := cell_of L.m rfl
    have g3 : W.cell? ⟨mm, 3, none⟩ = some (.int .u8 0) := cell_of L.m rfl
    have g4 : W.cell? ⟨mm, 4, none⟩ = some (.int .i64 f4) := cell_of L.m rfl
    have r3 := eq51 f0 f1 f2 0 f4
    have HLx : Hid _ := L
    clear L
    go_wp2_with fail
    go_quiet (fail)
    clear x35 x42 k0 k1 k2 k3 k4 g0 g1 g2 g3 g4 r3
    have L2 := HLx.out.below (drewN_below W nq)
    generalize W.drewN nq = W2 at L2 ⊢
    clear HLx
    have x0 : W2.cell? ⟨xb, 0, none⟩ = some (.int .u8 er) := cell_of L2.x rfl
    have x1 : W2.cell? ⟨xb, 1, none⟩ = some (.int .u8 0) := cell_of L2.x rfl
    have x2 : W2.cell? ⟨xb, 2, none⟩ = some (.int .i64 ee) := cell_of L2.x rfl
    have L3 := L2.below (bal (o := .cells #[.int .u8 er, .int .u8 0, .int .i64 ee] 45) (Below.refl _ W2))
    have yy := (MapKept.heap_alloc W2 (.cells #[.int .u8 er, .int .u8 0, .int .i64 ee] 45)).1
    have hy : Hid (mm < W2.heap.size) := lt_of_heap L2.m
    have HL3 : Hid _ := L3
    have Hyy : Hid _ := yy
    clear L2 L3 yy
    go_upto_region 56 with fail
    generalize W2.alloc (.cells #[.int .u8 er, .int .u8 0, .int .i64 ee] 45) = W3 at HL3 Hyy ⊢
    generalize W2.heap.size = yb at Hyy hy ⊢
    clear x0 x1 x2
    have L3 := HL3.out
    have yy := Hyy.out
    clear HL3 Hyy
    have y0 : W3.cell? ⟨yb, 0, none⟩ = some (.int .u8 er) := cell_of yy rfl
    have y1 : W3.cell? ⟨yb, 1, none⟩ = some (.int .u8 0) := cell_of yy rfl
    have y2 : W3.cell? ⟨yb, 2, none⟩ = some (.int .i64 ee) := cell_of yy rfl
    have yz0 : W3.frozen? ⟨yb, 0, none⟩ = false := fz_of yy
    have yz1 : W3.frozen? ⟨yb, 1, none⟩ = false := fz_of yy
    have yz2 : W3.frozen? ⟨yb, 2, none⟩ = false := fz_of yy
    have g0 : W3.cell? ⟨mm, 0, none⟩ = some (.string f0) := cell_of L3.m rfl
    have g1 : W3.cell? ⟨mm, 1, none⟩ = some (.int .u16 f1) := cell_of L3.m rfl
    have g2 : W3.cell? ⟨mm, 2, none⟩ = some (.int .u8 f2) := cell_of L3.m rfl
    have g3 : W3.cell? ⟨mm, 3, none⟩ = some (.int .u8 0) := cell_of L3.m rfl
    have g4 : W3.cell? ⟨mm, 4, none⟩ = some (.int .i64 f4) := cell_of L3.m rfl
    have L4 := ((L3.young yb 0 (.int .u8 f2) hy.out).young yb 1 (.int .u8 0) hy.out).young yb 2 (.int .i64 f4) hy.out
    have yw := heap_set (k := 2) (.int .i64 f4) (heap_set (k := 1) (.int .u8 0) (heap_set (k := 0) (.int .u8 f2) yy))
    have HL4 : Hid _ := L4
    have Hyw : Hid _ := yw
    clear L3 L4 yy yw
    go_upto_region 58 with fail
    generalize ((W3.setCell ⟨yb, 0, none⟩ (.int .u8 f2)).setCell ⟨yb, 1, none⟩ (.int .u8 0)).setCell ⟨yb, 2, none⟩ (.int .i64 f4) = W5 at HL4 Hyw ⊢
    clear y0 y1 y2 yz0 yz1 yz2 g0 g1 g2 g3 g4
    have L3 := HL4.out
    have yy : W5.heap[yb]? = some (.cells #[.int .u8 f2, .int .u8 0, .int .i64 f4] 45 (0, 0)) := Hyw.out
    clear HL4 Hyw
    have y0 : W5.cell? ⟨yb, 0, none⟩ = some (.int .u8 f2) := cell_of yy rfl
    have y1 : W5.cell? ⟨yb, 1, none⟩ = some (.int .u8 0) := cell_of yy rfl
    have y2 : W5.cell? ⟨yb, 2, none⟩ = some (.int .i64 f4) := cell_of yy rfl
    have g0 : W5.cell? ⟨mm, 0, none⟩ = some (.string f0) := cell_of L3.m rfl
    have g1 : W5.cell? ⟨mm, 1, none⟩ = some (.int .u16 f1) := cell_of L3.m rfl
    have g2 : W5.cell? ⟨mm, 2, none⟩ = some (.int .u8 f2) := cell_of L3.m rfl
    have g3 : W5.cell? ⟨mm, 3, none⟩ = some (.int .u8 0) := cell_of L3.m rfl
    have g4 : W5.cell? ⟨mm, 4, none⟩ = some (.int .i64 f4) := cell_of L3.m rfl
    have x22 : W5.cell? ⟨dv, 22, none⟩ = some (.int .u8 3) := cell_of L3.d e22
    have n0 : W5.cell? ⟨dv, 23, none⟩ = some (.string f0) := cell_of L3.d h23
    have n1 : W5.cell? ⟨dv, 24, none⟩ = some (.int .u16 f1) := cell_of L3.d h24
    have r5 := eq73l f0 f1 f2 0 f4
    have r6 := eq34t f0 f1
    have hB : Hid (Below w.heap.size w W5) := L3.b
    clear L3 yy
    go_wp2_with fail
    go_quiet (fail)
    go_wp2_with fail
    go_ret
    exact ⟨by simp, hB.out.trans ((drewN_below _ _).mono hB.out.size)⟩
  · obtain rfl : hb = false := hbk.out.symm
    obtain rfl : got = .iface 77 (.agg #[.int .u8 er, .int .u8 0, .int .i64 ee]) := by simpa using hE
    clear hE hbk
    have x35 : W.cell? ⟨dv, 35, none⟩ = some (.slice ad 0 c35) := cell_of L.d e35
    have x42 : W.cell? ⟨dv, 42, none⟩ = some (.bool false) := cell_of L.d e42
    have k0 : W.cell? ⟨dv, 37, none⟩ = some (.string f0) := cell_of L.d e37
    have k1 : W.cell? ⟨dv, 38, none⟩ = some (.int .u16 f1) := cell_of L.d e38
    have k2 : W.cell? ⟨dv, 39, none⟩ = some (.int .u8 f2) := cell_of L.d e39
    have k3 : W.cell? ⟨dv, 40, none⟩ = some (.int .u8 0) := cell_of L.d e40
    have k4 : W.cell? ⟨dv, 41, none⟩ = some (.int .i64 f4) := cell_of L.d e41
    have g0 : W.cell? ⟨mm, 0, none⟩ = some (.string f0) := cell_of L.m rfl
    have g1 : W.cell? ⟨mm, 1, none⟩ = some (.int .u16 f1) := cell_of L.m rfl
    have g2 : W.cell? ⟨mm, 2, none⟩ = some (.int .u8 f2) := cell_of L.m rfl
    have g3 : W.cell? ⟨mm, 3, none⟩ = some (.int .u8 0) := cell_of L.m rfl
    have g4 : W.cell? ⟨mm, 4, none⟩ = some (.int .i64 f4) := cell_of L.m rfl
    have r3 := eq51 f0 f1 f2 0 f4
    have HLx : Hid _ := L
    clear L
    go_wp2_with fail
    go_quiet (fail)
    clear x35 x42 k0 k1 k2 k3 k4 g0 g1 g2 g3 g4 r3
    have L2 := HLx.out.below (drewN_below W nq)
    generalize W.drewN nq = W2 at L2 ⊢
    clear HLx
    have x0 : W2.cell? ⟨xb, 0, none⟩ = some (.int .u8 er) := cell_of L2.x rfl
    have x1 : W2.cell? ⟨xb, 1, none⟩ = some (.int .u8 0) := cell_of L2.x rfl
    have x2 : W2.cell? ⟨xb, 2, none⟩ = some (.int .i64 ee) := cell_of L2.x rfl
    have L3 := L2.below (bal (o := .cells #[.int .u8 er, .int .u8 0, .int .i64 ee] 45) (Below.refl _ W2))
    have yy := (MapKept.heap_alloc W2 (.cells #[.int .u8 er, .int .u8 0, .int .i64 ee] 45)).1
    have hy : Hid (mm < W2.heap.size) := lt_of_heap L2.m
    have HL3 : Hid _ := L3
    have Hyy : Hid _ := yy
    clear L2 L3 yy
    go_upto_region 56 with fail
    generalize W2.alloc (.cells #[.int .u8 er, .int .u8 0, .int .i64 ee] 45) = W3 at HL3 Hyy ⊢
    generalize W2.heap.size = yb at Hyy hy ⊢
    clear x0 x1 x2
    have L3 := HL3.out
    have yy := Hyy.out
    clear HL3 Hyy
    have y0 : W3.cell? ⟨yb, 0, none⟩ = some (.int .u8 er) := cell_of yy rfl
    have y1 : W3.cell? ⟨yb, 1, none⟩ = some (.int .u8 0) := cell_of yy rfl
    have y2 : W3.cell? ⟨yb, 2, none⟩ = some (.int .i64 ee) := cell_of yy rfl
    have x22 : W3.cell? ⟨dv, 22, none⟩ = some (.int .u8 4) := cell_of L3.d e22
    have r5 := eq73n er 0 ee
    have hB : Hid (Below w.heap.size w W3) := L3.b
    clear L3 yy
    go_wp2_with fail
    go_ret
    exact ⟨by simp, hB.out⟩

end Go.Proofs.Ybulkcueg
