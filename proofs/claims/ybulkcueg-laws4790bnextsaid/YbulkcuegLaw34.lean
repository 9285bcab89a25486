import Derived.Test.YbulkcuegLaw52
namespace Go.Proofs.Ybulkcueg
open Go.RowKit Go.Maps

set_option maxRecDepth 1000000 in
set_option maxHeartbeats 4000000 in
theorem P34 (sa : Option Addr) (n scap : Nat) (ra : Option Addr) (nc rcap : Nat) (hb : Bool) (bp ba : Int) (bu bo : Bool) (be : Int) (bt : Int) (mn hf : Bool) (fp fa : Int) (fu fo : Bool) (fe : Int) (er ee : Int)
    (qf cq : Nat → Fin 9) (lv cd cr ce : Nat → Int) (kn co : Nat → Bool) (w : World)
    (s10 s11 s12 s14 s15 s16 s18 s19 s22 s23 s24 s26 s27 s34 s37 s38 s39 s40 s41 s42 s43 s44 s45 s46 s47 s48 s49 s50 s51 s52 s53 s54 s55 s56 s57 s58 s59 s60 s61 s62 s63 s64 s65 s66 s67 s68 s69 s70 s71 s72 s73 s74 s75 s76 s77 s78 s79 s80 s81 s82 s83 s84 s85 s86 s87 s88 s89 s90 s91 s92 s93 s94 s95 s96 s97 s98 s99 s100 s101 s102 s103 s104 s105 s106 s107 s108 s109 s110 s111 s112 s113 s114 s115 s116 s117 s118 s119 s120 s121 s122 s123 s124 s125 s126 s127 s128 s129 s130 s131 s132 s133 s134 s135 s136 s137 s138 s139 s140 s141 s142 s143 s144 s145 s146 s147 s148 s149 s150 s151 s152 s153 s154 s155 s156 s157 s158 s159 s160 s161 s162 s163 s164 s165 s166 s167 s168 s169 s170 s171 s172 s173 s174 s175 s176 s177 s178 s179 s180 s181 s182 s183 s184 s185 s186 s187 s188 s189 s190 s191 s192 s193 s194 s195 s196 s197 s198 s199 s200 s201 s202 s203 s204 s205 s206 s207 s208 s209 s210 s211 s212 s213 s214 s215 s216 s217 s218 s219 s220 s221 s222 s223 s224 s225 s226 s227 s228 s229 s230 s231 s232 s233 s234 s235 s236 s237 s238 s239 s240 s241 s242 s243 s244 s245 s246 s247 s248 s249 s250 s251 s252 s253 s254 s255 s256 s257 s258 s259 s260 s261 s262 s263 s264 s265 s266 s267 s268 s269 s270 s271 s272 s273 s274 s275 s276 s277 s278 s279 s280 s281 s282 s283 s284 s285 s286 s287 s288 s289 s290 s291 s292 s293 s294 s295 s296 s297 s298 s299 s300 s301 s302 s303 s304 s305 s306 s307 s308 s309 s310 s311 s312 s313 s314 s315 s316 s317 s318 s319 s320 s321 s322 s323 s324 s325 s326 s327 s328 s329 s330 s331 s332 s333 s334 s335 s336 s337 s338 s339 s340 s341 s342 s343 s344 s345 s346 s347 s348 s349 s350 s351 s352 s353 s354 s355 s356 s357 s358 s359 s360 s361 s362 s363 s364 s365 s366 s367 s368 s369 s370 s371 s372 s373 s374 s375 s376 s377 s378 s379 s380 s381 s382 s383 s384 s385 s386 s387 : Value)
    (K : Act → World → Prop) (bb fb cb rb xb gb dv tb mm : Nat) (bk : Option Nat) (md : Int) (got : Value) (dc : Array Value) (W : World)
    (hn : n ≤ 400) (hnc : nc ≤ 400)
    (hK : ∀ a w', Code.wp Yba.prog (spine 19 (Yba.f3.body.getD .skip)) (bodyPost Yba.prog Yba.f3 fun e w' => e = .returned (.bool true) ∧ Below w.heap.size w w') a w' → K a w')
    (hbk : Hid (bk.isSome = hb)) (hgot : Hid (Got n nc qf lv cd kn cq cr ce co hf mn (mk fp fa) fe bk #[.string (kd (mk bp ba)), .int .u16 (ka (mk bp ba)), .int .u8 (rule bu), .int .u8 0, .int .i64 (entry bu be), .bool bo, .int .u32 bt, .bool true] er ee got dc)) (L : L6 w W cb rb xb dv tb mm n nc (ob6 qf lv cd kn) (ca6 cq cr ce co) #[.int .u8 er, .int .u8 0, .int .i64 ee] #[.string (kd (mk bp ba)), .int .u16 (ka (mk bp ba)), .int .u8 (rule bu), .int .u8 0, .int .i64 (entry bu be), .bool bo, .int .u32 bt, .bool true] dc (m5 hf (mk fp fa) (cq 0) fe 0)) :
    Code.wp Yba.prog (headAt 18 (Yba.f3.body.getD .skip)) (Exit.then K (bodyPost Yba.prog Yba.f3 fun e w' => e = .returned (.bool true) ∧ Below w.heap.size w w')) ⟨List.toArray (.slice sa n scap :: .slice ra nc rcap :: .bool hb :: .agg #[.int .u8 bp, .int .u8 ba, .bool bu, .bool bo, .int .i64 be] :: .int .u16 bt :: .bool mn :: .bool hf :: .agg #[.int .u8 fp, .int .u8 fa, .bool fu, .bool fo, .int .i64 fe] :: .int .u8 er :: .int .i64 ee :: s10 :: s11 :: s12 :: .pointer (some ⟨bb, 0, none⟩) :: s14 :: s15 :: s16 :: .pointer (some ⟨fb, 0, none⟩) :: s18 :: s19 :: .bool false :: .slice (some ⟨cb, 0, none⟩) n n :: s22 :: s23 :: s24 :: .slice (some ⟨rb, 0, none⟩) nc nc :: s26 :: s27 :: .int .u8 md :: .pointer (some ⟨xb, 0, none⟩) :: .pointer (some ⟨gb, 0, none⟩) :: .pointer (some ⟨dv, 0, none⟩) :: .pointer (some ⟨tb, 0, none⟩) :: .pointer (bk.map fun b => ⟨b, 0, none⟩) :: s34 :: got :: .pointer (some ⟨mm, 0, none⟩) :: s37 :: s38 :: s39 :: s40 :: s41 :: s42 :: s43 :: s44 :: s45 :: s46 :: s47 :: s48 :: s49 :: s50 :: s51 :: s52 :: s53 :: s54 :: s55 :: s56 :: s57 :: s58 :: s59 :: s60 :: s61 :: s62 :: s63 :: s64 :: s65 :: s66 :: s67 :: s68 :: s69 :: s70 :: s71 :: s72 :: s73 :: s74 :: s75 :: s76 :: s77 :: s78 :: s79 :: s80 :: s81 :: s82 :: s83 :: s84 :: s85 :: s86 :: s87 :: s88 :: s89 :: s90 :: s91 :: s92 :: s93 :: s94 :: s95 :: s96 :: s97 :: s98 :: s99 :: s100 :: s101 :: s102 :: s103 :: s104 :: s105 :: s106 :: s107 :: s108 :: s109 :: s110 :: s111 :: s112 :: s113 :: s114 :: s115 :: s116 :: s117 :: s118 :: s119 :: s120 :: s121 :: s122 :: s123 :: s124 :: s125 :: s126 :: s127 :: s128 :: s129 :: s130 :: s131 :: s132 :: s133 :: s134 :: s135 :: s136 :: s137 :: s138 :: s139 :: s140 :: s141 :: s142 :: s143 :: s144 :: s145 :: s146 :: s147 :: s148 :: s149 :: s150 :: s151 :: s152 :: s153 :: s154 :: s155 :: s156 :: s157 :: s158 :: s159 :: s160 :: s161 :: s162 :: s163 :: s164 :: s165 :: s166 :: s167 :: s168 :: s169 :: s170 :: s171 :: s172 :: s173 :: s174 :: s175 :: s176 :: s177 :: s178 :: s179 :: s180 :: s181 :: s182 :: s183 :: s184 :: s185 :: s186 :: s187 :: s188 :: s189 :: s190 :: s191 :: s192 :: s193 :: s194 :: s195 :: s196 :: s197 :: s198 :: s199 :: s200 :: s201 :: s202 :: s203 :: s204 :: s205 :: s206 :: s207 :: s208 :: s209 :: s210 :: s211 :: s212 :: s213 :: s214 :: s215 :: s216 :: s217 :: s218 :: s219 :: s220 :: s221 :: s222 :: s223 :: s224 :: s225 :: s226 :: s227 :: s228 :: s229 :: s230 :: s231 :: s232 :: s233 :: s234 :: s235 :: s236 :: s237 :: s238 :: s239 :: s240 :: s241 :: s242 :: s243 :: s244 :: s245 :: s246 :: s247 :: s248 :: s249 :: s250 :: s251 :: s252 :: s253 :: s254 :: s255 :: s256 :: s257 :: s258 :: s259 :: s260 :: s261 :: s262 :: s263 :: s264 :: s265 :: s266 :: s267 :: s268 :: s269 :: s270 :: s271 :: s272 :: s273 :: s274 :: s275 :: s276 :: s277 :: s278 :: s279 :: s280 :: s281 :: s282 :: s283 :: s284 :: s285 :: s286 :: s287 :: s288 :: s289 :: s290 :: s291 :: s292 :: s293 :: s294 :: s295 :: s296 :: s297 :: s298 :: s299 :: s300 :: s301 :: s302 :: s303 :: s304 :: s305 :: s306 :: s307 :: s308 :: s309 :: s310 :: s311 :: s312 :: s313 :: s314 :: s315 :: s316 :: s317 :: s318 :: s319 :: s320 :: s321 :: s322 :: s323 :: s324 :: s325 :: s326 :: s327 :: s328 :: s329 :: s330 :: s331 :: s332 :: s333 :: s334 :: s335 :: s336 :: s337 :: s338 :: s339 :: s340 :: s341 :: s342 :: s343 :: s344 :: s345 :: s346 :: s347 :: s348 :: s349 :: s350 :: s351 :: s352 :: s353 :: s354 :: s355 :: s356 :: s357 :: s358 :: s359 :: s360 :: s361 :: s362 :: s363 :: s364 :: s365 :: s366 :: s367 :: s368 :: s369 :: s370 :: s371 :: s372 :: s373 :: s374 :: s375 :: s376 :: s377 :: s378 :: s379 :: s380 :: s381 :: s382 :: s383 :: s384 :: s385 :: s386 :: s387 :: []), []⟩ W := by
  conv => arg 2; whnf
  conv at hK => enter [a, w', 1, 2]; whnf
  have HL : Hid _ := L
  clear L
  go_wp2_with fail
  go_loopw [37, 146] (fun h i wr => ∃ k : Nat, k ≤ nc ∧ i = .int .i64 k ∧ h = .bool (mh hf k) ∧ L6 w wr cb rb xb dv tb mm n nc (ob6 qf lv cd kn) (ca6 cq cr ce co) #[.int .u8 er, .int .u8 0, .int .i64 ee] #[.string (kd (mk bp ba)), .int .u16 (ka (mk bp ba)), .int .u8 (rule bu), .int .u8 0, .int .i64 (entry bu be), .bool bo, .int .u32 bt, .bool true] dc (m5 hf (mk fp fa) (cq 0) fe k) ∧ Hid (∀ j, j < k → atOf qf lv (cq j) n = -1)) (fun _ i _ => nc - (intOf i).toNat)
  case atStart => exact ⟨0, Nat.zero_le _, rfl, by simp [mh], HL.out, fun j hj => by omega⟩
  case round =>
    clear HL
    obtain ⟨k, hk, rfl, rfl, L, hno⟩ := hrel
    by_cases hkn : k < nc
    · have hkn' : (k : Int) < (nc : Int) := by omega
      have HL : Hid _ := L
      clear L
      go_wp2_with fail
      go_loopw [39, 151] (fun a j wx => ∃ jn : Nat, jn ≤ n ∧ j = .int .i64 jn ∧ a = .int .i64 (atOf qf lv (cq k) jn) ∧ L6 w wx cb rb xb dv tb mm n nc (ob6 qf lv cd kn) (ca6 cq cr ce co) #[.int .u8 er, .int .u8 0, .int .i64 ee] #[.string (kd (mk bp ba)), .int .u16 (ka (mk bp ba)), .int .u8 (rule bu), .int .u8 0, .int .i64 (entry bu be), .bool bo, .int .u32 bt, .bool true] dc (m5 hf (mk fp fa) (cq 0) fe k)) (fun _ j _ => n - (intOf j).toNat)
      case atStart => exact ⟨0, Nat.zero_le _, rfl, rfl, HL.out⟩
      case round =>
        clear HL
        obtain ⟨jn, hj, rfl, rfl, L⟩ := hrel
        by_cases hjn : jn < n
        · have hjn' : (jn : Int) < (n : Int) := by omega
          have s0 := L.F.scan.s0 jn hjn
          have s1 := L.F.scan.s1 jn hjn
          have s3 := L.F.scan.s3 jn hjn
          have c0 := L.R.cs.c0 k hkn
          have c1 := L.R.cs.c1 k hkn
          have he := eq31
          have hlv : Hid (∀ b, b < n → wr.cell? ⟨cb, b * 6 + 3, none⟩ = some (.int .i64 (lv b))) := L.F.scan.s3
          have HLj : Hid _ := L
          clear L
          have hsp : atOf qf lv (cq k) jn = -1 ∨ ∃ b : Nat, atOf qf lv (cq k) jn = b ∧ b < n := by
            rcases atOf_spec qf lv (cq k) jn with ⟨e, _⟩ | ⟨b, e, hb, _⟩
            · exact .inl e
            · exact .inr ⟨b, e, by omega⟩
          have hnx : Hid (atOf qf lv (cq k) (jn + 1) = if qf jn = cq k ∧ (atOf qf lv (cq k) jn < 0 ∨ lv (atOf qf lv (cq k) jn).toNat < lv jn) then (jn : Int) else atOf qf lv (cq k) jn) := rfl
          generalize atOf qf lv (cq k) jn = a at hsp hnx ⊢
          by_cases hd : (qf jn).val / 3 = (cq k).val / 3
          · have hdb : decide ((qf jn).val / 3 = (cq k).val / 3) = true := by simp [hd]
            by_cases hact : ka (qf jn) = ka (cq k)
            · have hab : (ka (qf jn) == ka (cq k)) = true := by simp [hact]
              have hqr : Hid (qf jn = cq k) := Fin.ext (by
                have h2 : (((qf jn).val % 3 : Nat) : Int) = (((cq k).val % 3 : Nat) : Int) := hact
                omega)
              clear hd hact
              rcases hsp with rfl | ⟨b, rfl, hb⟩
              · have hyes : Hid (qf jn = cq k ∧ ((-1 : Int) < 0 ∨ lv (-1 : Int).toNat < lv jn)) := ⟨hqr.out, .inl (by omega)⟩
                go_wp2_with fail
                go_quiet (fail)
                go_wp2_with fail
                go_roundw
                case rel => exact ⟨jn + 1, by omega, by go_num, by rw [hnx.out, if_pos hyes.out], HLj.out.below (drewN_below _ _)⟩
                case measure => simp [intOf]; omega
              · have lb := hlv.out b hb
                have hb0 : decide ((b : Int) < 0) = false := by simp
                by_cases hl : lv b < lv jn
                · have hlb : decide (lv b < lv jn) = true := by simp [hl]
                  have hyes : Hid (qf jn = cq k ∧ ((b : Int) < 0 ∨ lv (b : Int).toNat < lv jn)) := ⟨hqr.out, .inr (by simpa using hl)⟩
                  clear hl
                  go_wp2_with fail
                  go_quiet (fail)
                  go_wp2_with fail
                  go_roundw
                  case rel => exact ⟨jn + 1, by omega, by go_num, by rw [hnx.out, if_pos hyes.out], HLj.out.below (drewN_below _ _)⟩
                  case measure => simp [intOf]; omega
                · have hlb : decide (lv b < lv jn) = false := by simp [hl]
                  have hyes : Hid (¬ (qf jn = cq k ∧ ((b : Int) < 0 ∨ lv (b : Int).toNat < lv jn))) := fun ⟨_, h⟩ => by
                    rcases h with h | h
                    · omega
                    · exact hl (by simpa using h)
                  clear hl
                  go_wp2_with fail
                  go_quiet (fail)
                  go_wp2_with fail
                  go_roundw
                  case rel => exact ⟨jn + 1, by omega, by go_num, by rw [hnx.out, if_neg hyes.out], HLj.out.below (drewN_below _ _)⟩
                  case measure => simp [intOf]; omega
            · have hab : (ka (qf jn) == ka (cq k)) = false := by simp [hact]
              have hyes : Hid (¬ (qf jn = cq k ∧ (a < 0 ∨ lv a.toNat < lv jn))) := fun ⟨h, _⟩ => hact (by rw [h])
              clear hd hact hsp
              go_wp2_with fail
              go_quiet (fail)
              go_wp2_with fail
              go_roundw
              case rel => exact ⟨jn + 1, by omega, by go_num, by rw [hnx.out, if_neg hyes.out], HLj.out.below (drewN_below _ _)⟩
              case measure => simp [intOf]; omega
          · have hdb : decide ((qf jn).val / 3 = (cq k).val / 3) = false := by simp [hd]
            have hyes : Hid (¬ (qf jn = cq k ∧ (a < 0 ∨ lv a.toNat < lv jn))) := fun ⟨h, _⟩ => hd (by rw [h])
            clear hd hsp
            go_wp2_with fail
            go_quiet (fail)
            go_wp2_with fail
            go_roundw
            case rel => exact ⟨jn + 1, by omega, by go_num, by rw [hnx.out, if_neg hyes.out], HLj.out.below (drewN_below _ _)⟩
            case measure => simp [intOf]; omega
        · have e : n = jn := by omega
          subst e
          rcases atOf_spec qf lv (cq k) n with ⟨hat, _⟩ | ⟨b, hat, hlb, _⟩
          · rw [hat]
            have hno' : Hid (∀ j, j < k + 1 → atOf qf lv (cq j) n = -1) := fun j hj => by
              by_cases e : j = k
              · rw [e]; exact hat
              · exact hno.out j (by omega)
            clear hat
            by_cases hm : hf = true ∨ 0 < k
            · have hmk : mh hf k = true := by
                rcases hm with rfl | h
                · rfl
                · simp [mh, h]
              have L'0 : L6 w wr cb rb xb dv tb mm n nc (ob6 qf lv cd kn) (ca6 cq cr ce co) #[.int .u8 er, .int .u8 0, .int .i64 ee] #[.string (kd (mk bp ba)), .int .u16 (ka (mk bp ba)), .int .u8 (rule bu), .int .u8 0, .int .i64 (entry bu be), .bool bo, .int .u32 bt, .bool true] dc (m5 hf (mk fp fa) (cq 0) fe (k + 1)) ∧ mh hf (k + 1) = true := by
                rcases hm with rfl | h
                · exact ⟨L, rfl⟩
                · have e0 : m5 hf (mk fp fa) (cq 0) fe (k + 1) = m5 hf (mk fp fa) (cq 0) fe k := by simp [m5, mb, ma, mr, h]
                  rw [e0]
                  exact ⟨L, by simp [mh]⟩
              have L' : Hid _ := L'0
              rw [hmk]
              clear L L'0 hmk hm
              go_wp2_with fail
              go_roundw
              case rel => exact ⟨k + 1, by omega, by go_num, by rw [L'.out.2], L'.out.1, hno'⟩
              case measure => simp [intOf]; omega
            · obtain rfl : k = 0 := by omega
              cases hf with
              | true => exact absurd (.inl rfl) hm
              | false =>
                have c0 := L.R.cs.c0 0 hkn
                have c1 := L.R.cs.c1 0 hkn
                have d0 : wr.cell? ⟨mm, 0, none⟩ = some (.string ⟨#[]⟩) := cell_of L.m rfl
                have d1 : wr.cell? ⟨mm, 1, none⟩ = some (.int .u16 0) := cell_of L.m rfl
                have d2 : wr.cell? ⟨mm, 2, none⟩ = some (.int .u8 0) := cell_of L.m rfl
                have d3 : wr.cell? ⟨mm, 3, none⟩ = some (.int .u8 0) := cell_of L.m rfl
                have d4 : wr.cell? ⟨mm, 4, none⟩ = some (.int .i64 0) := cell_of L.m rfl
                have z0 : wr.frozen? ⟨mm, 0, none⟩ = false := fz_of L.m
                have z1 : wr.frozen? ⟨mm, 1, none⟩ = false := fz_of L.m
                have z2 : wr.frozen? ⟨mm, 2, none⟩ = false := fz_of L.m
                have z3 : wr.frozen? ⟨mm, 3, none⟩ = false := fz_of L.m
                have z4 : wr.frozen? ⟨mm, 4, none⟩ = false := fz_of L.m
                have L' : Hid _ := L.put (.string (kd (cq 0))) (.int .u16 (ka (cq 0))) (.int .u8 12) (.int .u8 0) (.int .i64 0)
                have hmk : mh false 0 = false := rfl
                rw [hmk]
                clear L hmk hm
                go_wp2_with fail
                go_roundw
                case rel => exact ⟨1, by omega, rfl, rfl, L'.out, hno'⟩
                case measure => simp [intOf]; omega
          · rw [hat]
            have hgot' : got = .iface 67 (.agg #[.string (kd (cq k)), .int .u16 (ka (cq k)), .int .u8 (cr k), .int .u8 0, .int .i64 (ce k), .bool (co k), .int .u32 (cd b), .bool (kn b)]) ∧ dc[22]? = some (.int .u8 1) ∧ (∀ m, m < 8 → dc[27 + m]? = (#[.string (kd (cq k)), .int .u16 (ka (cq k)), .int .u8 (cr k), .int .u8 0, .int .i64 (ce k), .bool (co k), .int .u32 (cd b), .bool (kn b)] : Array Value)[m]?) ∧ (∃ ad c, dc[35]? = some (.slice ad (nc - (k + 1)) c)) ∧ Fs dc (mb hf (mk fp fa) (cq 0) k) (ma hf (mk fp fa) (cq 0) k) (mr hf k) 0 (me hf fe) (mh hf k) ∧ dc[36]? = some (.pointer (bk.map fun b => ⟨b, 0, none⟩)) := by
              rcases hgot.out with ⟨i, b', h1, h2, h3, h4, h5, h6, h7, h8, h9⟩ | ⟨h1, _⟩
              · obtain rfl : i = k := by
                  rcases Nat.lt_trichotomy i k with h | h | h
                  · have := hno.out i h
                    omega
                  · exact h
                  · have := h2 k h
                    omega
                obtain rfl : b' = b := by omega
                exact ⟨h4, h5, h6, h7, h8, h9⟩
              · have := h1 k hkn
                omega
            obtain ⟨rfl, e22, e27, ⟨ad, c35, e35⟩, ⟨e37, e38, e39, e40, e41, e42⟩, e36⟩ := hgot'
            have c0 := L.R.cs.c0 k hkn
            have c1 := L.R.cs.c1 k hkn
            have c2 := L.R.cs.c2 k hkn
            have c3 := L.R.cs.c3 k hkn
            have c4 := L.R.cs.c4 k hkn
            have c5 := L.R.cs.c5 k hkn
            have s4 := L.F.scan.s4 b hlb
            have s5 : wr.cell? ⟨cb, b * 6 + 4 + 1, none⟩ = some (.bool (kn b)) := L.F.scan.s5 b hlb
            have hb0 : (0 : Int) ≤ (b : Int) := by omega
            have hbn : (b : Int) < (n : Int) := by omega
            have HL : Hid _ := L
            have HE : Hid _ := And.intro e22 (And.intro e27 (And.intro e35 (And.intro e37 (And.intro e38 (And.intro e39 (And.intro e40 (And.intro e41 (And.intro e42 e36))))))))
            clear L hat hgot hno e22 e27 e35 e37 e38 e39 e40 e41 e42 e36
            go_wp2_with fail
            go_region_held3 (fun w' => w'.cell? ⟨rb, k * 6, none⟩ = some (.string (kd (cq k))) ∧ w'.cell? ⟨rb, k * 6 + 1, none⟩ = some (.int .u16 (ka (cq k))) ∧ w'.cell? ⟨rb, k * 6 + 2, none⟩ = some (.int .u8 (cr k)) ∧ w'.cell? ⟨rb, k * 6 + 3, none⟩ = some (.int .u8 0) ∧ w'.cell? ⟨rb, k * 6 + 4, none⟩ = some (.int .i64 (ce k)) ∧ w'.cell? ⟨rb, k * 6 + 5, none⟩ = some (.bool (co k)) ∧ w'.cell? ⟨cb, b * 6 + 4, none⟩ = some (.int .u32 (cd b)) ∧ w'.cell? ⟨cb, b * 6 + 4 + 1, none⟩ = some (.bool (kn b))) ((repeat' apply And.intro) <;> (repeat (first | assumption | refine cell_drew ?_ | refine cell_alloc ?_))) (fail)
            all_goals
              rename_i hHeld
              clear hHeld c0 c1 c2 c3 c4 c5 s4 s5
              have L7 : L6 w _ cb rb xb dv tb mm n nc (ob6 qf lv cd kn) (ca6 cq cr ce co) #[.int .u8 er, .int .u8 0, .int .i64 ee] #[.string (kd (mk bp ba)), .int .u16 (ka (mk bp ba)), .int .u8 (rule bu), .int .u8 0, .int .i64 (entry bu be), .bool bo, .int .u32 bt, .bool true] dc (m5 hf (mk fp fa) (cq 0) fe k) := HL.out.below (Below.drew (bal (o := .cells #[.string (kd (cq k)), .int .u16 (ka (cq k)), .int .u8 (cr k), .int .u8 0, .int .i64 (ce k), .bool (co k), .int .u32 (cd b), .bool (kn b)] 67) (Below.refl _ wr)))
              have tt : (wr.alloc (.cells #[.string (kd (cq k)), .int .u16 (ka (cq k)), .int .u8 (cr k), .int .u8 0, .int .i64 (ce k), .bool (co k), .int .u32 (cd b), .bool (kn b)] 67)).drew.heap[wr.heap.size]? = some (.cells #[.string (kd (cq k)), .int .u16 (ka (cq k)), .int .u8 (cr k), .int .u8 0, .int .i64 (ce k), .bool (co k), .int .u32 (cd b), .bool (kn b)] 67 (0, 0)) := (MapKept.heap_alloc wr _).1
              generalize (wr.alloc (.cells #[.string (kd (cq k)), .int .u16 (ka (cq k)), .int .u8 (cr k), .int .u8 0, .int .i64 (ce k), .bool (co k), .int .u32 (cd b), .bool (kn b)] 67)).drew = W7 at L7 tt ⊢
              generalize wr.heap.size = tq at tt ⊢
              obtain ⟨e22, e27, e35, e37, e38, e39, e40, e41, e42, e36⟩ := HE.out
              have p0 : W7.cell? ⟨tq, 0, none⟩ = some (.string (kd (cq k))) := cell_of tt rfl
              have p1 : W7.cell? ⟨tq, 1, none⟩ = some (.int .u16 (ka (cq k))) := cell_of tt rfl
              have p2 : W7.cell? ⟨tq, 2, none⟩ = some (.int .u8 (cr k)) := cell_of tt rfl
              have p3 : W7.cell? ⟨tq, 3, none⟩ = some (.int .u8 0) := cell_of tt rfl
              have p4 : W7.cell? ⟨tq, 4, none⟩ = some (.int .i64 (ce k)) := cell_of tt rfl
              have p5 : W7.cell? ⟨tq, 5, none⟩ = some (.bool (co k)) := cell_of tt rfl
              have p6 : W7.cell? ⟨tq, 6, none⟩ = some (.int .u32 (cd b)) := cell_of tt rfl
              have p7 : W7.cell? ⟨tq, 7, none⟩ = some (.bool (kn b)) := cell_of tt rfl
              have q0 : W7.cell? ⟨dv, 27, none⟩ = some (.string (kd (cq k))) := cell_of L7.d (e27 0 (by omega))
              have q1 : W7.cell? ⟨dv, 28, none⟩ = some (.int .u16 (ka (cq k))) := cell_of L7.d (e27 1 (by omega))
              have q2 : W7.cell? ⟨dv, 29, none⟩ = some (.int .u8 (cr k)) := cell_of L7.d (e27 2 (by omega))
              have q3 : W7.cell? ⟨dv, 30, none⟩ = some (.int .u8 0) := cell_of L7.d (e27 3 (by omega))
              have q4 : W7.cell? ⟨dv, 31, none⟩ = some (.int .i64 (ce k)) := cell_of L7.d (e27 4 (by omega))
              have q5 : W7.cell? ⟨dv, 32, none⟩ = some (.bool (co k)) := cell_of L7.d (e27 5 (by omega))
              have q6 : W7.cell? ⟨dv, 33, none⟩ = some (.int .u32 (cd b)) := cell_of L7.d (e27 6 (by omega))
              have q7 : W7.cell? ⟨dv, 34, none⟩ = some (.bool (kn b)) := cell_of L7.d (e27 7 (by omega))
              have f0 : W7.cell? ⟨dv, 37, none⟩ = some (.string (mb hf (mk fp fa) (cq 0) k)) := cell_of L7.d e37
              have f1 : W7.cell? ⟨dv, 38, none⟩ = some (.int .u16 (ma hf (mk fp fa) (cq 0) k)) := cell_of L7.d e38
              have f2 : W7.cell? ⟨dv, 39, none⟩ = some (.int .u8 (mr hf k)) := cell_of L7.d e39
              have f3 : W7.cell? ⟨dv, 40, none⟩ = some (.int .u8 0) := cell_of L7.d e40
              have f4 : W7.cell? ⟨dv, 41, none⟩ = some (.int .i64 (me hf fe)) := cell_of L7.d e41
              have g0 : W7.cell? ⟨mm, 0, none⟩ = some (.string (mb hf (mk fp fa) (cq 0) k)) := cell_of L7.m rfl
              have g1 : W7.cell? ⟨mm, 1, none⟩ = some (.int .u16 (ma hf (mk fp fa) (cq 0) k)) := cell_of L7.m rfl
              have g2 : W7.cell? ⟨mm, 2, none⟩ = some (.int .u8 (mr hf k)) := cell_of L7.m rfl
              have g3 : W7.cell? ⟨mm, 3, none⟩ = some (.int .u8 0) := cell_of L7.m rfl
              have g4 : W7.cell? ⟨mm, 4, none⟩ = some (.int .i64 (me hf fe)) := cell_of L7.m rfl
              have x22 : W7.cell? ⟨dv, 22, none⟩ = some (.int .u8 1) := cell_of L7.d e22
              have x35 : W7.cell? ⟨dv, 35, none⟩ = some (.slice ad (nc - (k + 1)) c35) := cell_of L7.d e35
              have x42 : W7.cell? ⟨dv, 42, none⟩ = some (.bool (mh hf k)) := cell_of L7.d e42
              have x36 : W7.cell? ⟨dv, 36, none⟩ = some (.pointer (bk.map fun b => ⟨b, 0, none⟩)) := cell_of L7.d e36
              have r1 := eq73t (kd (cq k)) (ka (cq k)) (cr k) 0 (ce k) (cd b) (co k) (kn b)
              have r2 := eq67 (kd (cq k)) (ka (cq k)) (cr k) 0 (ce k) (cd b) (co k) (kn b)
              have r3 := eq51 (mb hf (mk fp fa) (cq 0) k) (ma hf (mk fp fa) (cq 0) k) (mr hf k) 0 (me hf fe)
              have r4 := eq68m (bk.map fun b => ⟨b, 0, none⟩)
              have hlen : ((((nc - (k + 1) : Nat) : Int)) == (nc : Int) - (k : Int) - 1) = true := by rw [beq_iff_eq]; omega
              have hB : Hid (Below w.heap.size w W7) := L7.b
              clear L7 tt e22 e27 e35 e37 e38 e39 e40 e41 e42 e36 HE HL
              generalize (Option.map (fun b => (⟨b, 0, none⟩ : Addr)) bk) = pp at x36 r4 ⊢
              generalize mh hf k = hh at x42 ⊢
              skip
              go_wp2_with fail
              go_quiet (fail)
              go_wp2_with fail
              go_ret
              exact ⟨by simp, hB.out.trans ((drewN_below _ _).mono hB.out.size)⟩
    · have e : nc = k := by omega
      subst e
      have HL : Hid _ := L
      clear L
      go_upto_region 52 with fail
      refine P52 sa n scap ra nc rcap hb bp ba bu bo be bt mn hf fp fa fu fo fe er ee qf cq lv cd cr ce kn co w _ _ _ _ _ _ _ _ _ _ _ _ _ _ _ _ _ _ _ _ _ _ _ _ _ _ _ _ _ _ _ _ _ _ _ _ _ _ _ _ _ _ _ _ _ _ _ _ _ _ _ _ _ _ _ _ _ _ _ _ _ _ _ _ _ _ _ _ _ _ _ _ _ _ _ _ _ _ _ _ _ _ _ _ _ _ _ _ _ _ _ _ _ _ _ _ _ _ _ _ _ _ _ _ _ _ _ _ _ _ _ _ _ _ _ _ _ _ _ _ _ _ _ _ _ _ _ _ _ _ _ _ _ _ _ _ _ _ _ _ _ _ _ _ _ _ _ _ _ _ _ _ _ _ _ _ _ _ _ _ _ _ _ _ _ _ _ _ _ _ _ _ _ _ _ _ _ _ _ _ _ _ _ _ _ _ _ _ _ _ _ _ _ _ _ _ _ _ _ _ _ _ _ _ _ _ _ _ _ _ _ _ _ _ _ _ _ _ _ _ _ _ _ _ _ _ _ _ _ _ _ _ _ _ _ _ _ _ _ _ _ _ _ _ _ _ _ _ _ _ _ _ _ _ _ _ _ _ _ _ _ _ _ _ _ _ _ _ _ _ _ _ _ _ _ _ _ _ _ _ _ _ _ _ _ _ _ _ _ _ _ _ _ _ _ _ _ _ _ _ _ _ _ _ _ _ _ _ _ _ _ _ _ _ _ _ _ _ _ _ _ _ _ _ _ _ _ _ _ _ _ _ _ _ _ _ _ _ _ _ _ _ _ _ _ _ _ _ _ _ _ _ _ _ _ _ _ _ _ _ _ _ _ _ _ _ bb fb cb rb xb gb dv tb mm bk md got dc _  ?_ hbk hgot hno HL.out
      assumption

end Go.Proofs.Ybulkcueg
