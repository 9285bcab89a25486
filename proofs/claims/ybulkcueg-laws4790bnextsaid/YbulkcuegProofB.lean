import Derived.Test.YbulkcuegRows
import Derived.Test.YbulkcuegLaw
import Derived.Test.YbulkcuegOpen
import Derived.WalkKit
import Derived.ProofKit
import Derived.OpenShut
import Derived.ShutString
import Derived.Carry
namespace Go.Proofs.Ybulkcueg.lawS4790BNext
open Go.ChangeShapes Go.WideShapes Go.ChangeAt Go.RowKit

theorem own : ownKnob Yba.prog.godebug = none := by kernel_rfl
theorem laidOut : laidOutB Yba.prog = true := by kernel_rfl

set_option maxRecDepth 100000 in
theorem open_cand_arg {H : Type} {enc : TypeId × Value → H} {W : World} {base : Nat} {v : Value} {d : DataW H} {p : List MemPlace} (hv : Value.okWide Yba.prog W .any base 25 v) (h : DataW.Trod enc Yba.prog W 0 (fun _ => true) true 25 v d p) :
    ∃ q : Int × Int × Bool × Bool × Int, v = .agg #[.int .u8 q.1, .int .u8 q.2.1, .bool q.2.2.1, .bool q.2.2.2.1, .int .i64 q.2.2.2.2] ∧ (0 ≤ q.1 ∧ q.1 ≤ 255) ∧ (0 ≤ q.2.1 ∧ q.2.1 ≤ 255) := by
  obtain ⟨cs, rfl, hsz⟩ := okWide_struct Yba.underlying25 hv
  obtain ⟨fuel, hf⟩ := h
  obtain ⟨q, hq, r0, r1⟩ := open_cand hf
  refine ⟨q, ?_, r0, r1⟩
  have : cs.toList = [.int .u8 q.1, .int .u8 q.2.1, .bool q.2.2.1, .bool q.2.2.2.1, .int .i64 q.2.2.2.2] := by simpa [Value.cells] using hq
  rw [← Array.toArray_toList (xs := cs), this]

set_option maxRecDepth 100000 in
theorem lifted (os : Os) (started : os.Started) (H : Type) (enc : TypeId × Value → H) :
    ReturnsInHanded {} Yba.checked os 3 .any (Rows.lawS4790BNextSpec.pre6 enc Yba.prog Yba.f3 Rows.lawS4790BNextRow.domain false) (Rows.lawS4790BNextSpec.post enc Yba.prog Yba.f3 false true false false) := by
  refine returnsInHanded_of_change (C := Yba.checked) own started (by kernel_rfl) Yba.func3
    (ChangeSpec.witness6 (enc := enc) (C := Yba.checked) false ⟨#[], #[.slice none 0 0, .slice none 0 0, .bool false, .agg #[.int .u8 0, .int .u8 0, .bool false, .bool false, .int .i64 0], .int .u16 0, .bool false, .bool false, .agg #[.int .u8 0, .int .u8 0, .bool false, .bool false, .int .i64 0], .int .u8 0, .int .i64 0], []⟩ 8 (by kernel_rfl) (by kernel_rfl) (by kernel_rfl) (by kernel_rfl)) ?_
  intro W base args ds gs before hval0 hW hcnd _
  have hval : ∀ (j : Nat) t v, Yba.f3.params[j]? = some t → args[j]? = some v → Value.okWide Yba.prog W .any base t v := hval0
  have hW' := hW
  obtain ⟨p, q, hA0, hV, rfl, hfz, hnd⟩ := hW
  have hA : DataW.TrodAll enc Yba.prog W 0 (fun _ => true) true Yba.f3.params.toList args.toList ds p := hA0
  rw [Yba.params3] at hA hval
  obtain ⟨v0, vs0, d0, ds0, p0, q0, hargs, rfl, rfl, h0, r0⟩ := trodAll_cons hA
  obtain ⟨v1, vs1, d1, ds1, p1, q1, rfl, rfl, rfl, h1, r1⟩ := trodAll_cons r0
  obtain ⟨v2, vs2, d2, ds2, p2, q2, rfl, rfl, rfl, h2, r2⟩ := trodAll_cons r1
  obtain ⟨v3, vs3, d3, ds3, p3, q3, rfl, rfl, rfl, h3, r3⟩ := trodAll_cons r2
  obtain ⟨v4, vs4, d4, ds4, p4, q4, rfl, rfl, rfl, h4, r4⟩ := trodAll_cons r3
  obtain ⟨v5, vs5, d5, ds5, p5, q5, rfl, rfl, rfl, h5, r5⟩ := trodAll_cons r4
  obtain ⟨v6, vs6, d6, ds6, p6, q6, rfl, rfl, rfl, h6, r6⟩ := trodAll_cons r5
  obtain ⟨v7, vs7, d7, ds7, p7, q7, rfl, rfl, rfl, h7, r7⟩ := trodAll_cons r6
  obtain ⟨v8, vs8, d8, ds8, p8, q8, rfl, rfl, rfl, h8, r8⟩ := trodAll_cons r7
  obtain ⟨v9, vs9, d9, ds9, p9, q9, rfl, rfl, rfl, h9, r9⟩ := trodAll_cons r8
  obtain ⟨rfl, rfl, rfl⟩ := trodAll_nil r9
  obtain rfl : args = #[v0, v1, v2, v3, v4, v5, v6, v7, v8, v9] := by cases args; simp_all
  obtain ⟨rfl, rfl⟩ := trodVars_none hV
  have k0 := h0
  have k1 := h1
  have k3 := h3
  have k7 := h7
  have lt0 : ∀ x ∈ p0, x.block < W.heap.size := by obtain ⟨m, hm⟩ := k0; exact DataW.trod_lt m _ _ _ hm
  have lt1 : ∀ x ∈ p1, x.block < W.heap.size := by obtain ⟨m, hm⟩ := k1; exact DataW.trod_lt m _ _ _ hm
  have lt3 : ∀ x ∈ p3, x.block < W.heap.size := by obtain ⟨m, hm⟩ := k3; exact DataW.trod_lt m _ _ _ hm
  have lt7 : ∀ x ∈ p7, x.block < W.heap.size := by obtain ⟨m, hm⟩ := k7; exact DataW.trod_lt m _ _ _ hm
  obtain ⟨sa, n, scap, rfl⟩ := okWide_slice Yba.underlying22 (hval 0 22 v0 rfl rfl)
  obtain ⟨ra, nc, rcap, rfl⟩ := okWide_slice Yba.underlying23 (hval 1 23 v1 rfl rfl)
  obtain ⟨hml0, op, oa, ol, ot, ok, O⟩ : n ≤ maxLen ∧ ∃ op oa ol ot ok, ObsIn W sa n op oa ol ot ok := by
    obtain ⟨fuel, hf⟩ := h0
    exact open_scan hf
  obtain ⟨hml1, cp, ca, cu, co, ce, C⟩ : nc ≤ maxLen ∧ ∃ cp ca cu co ce, CandIn W ra nc cp ca cu co ce := by
    obtain ⟨fuel, hf⟩ := h1
    exact open_cands hf
  obtain ⟨a2, rfl, rfl, rfl⟩ := open_bool Yba.underlying4 (hval 2 4 v2 rfl rfl) h2
  obtain ⟨bq, rfl, b0, b1⟩ := open_cand_arg (hval 3 25 v3 rfl rfl) h3
  obtain ⟨a4, rfl, rfl, rfl, w4⟩ := open_int Yba.underlying26 (hval 4 26 v4 rfl rfl) h4
  obtain ⟨a5, rfl, rfl, rfl⟩ := open_bool Yba.underlying4 (hval 5 4 v5 rfl rfl) h5
  obtain ⟨a6, rfl, rfl, rfl⟩ := open_bool Yba.underlying4 (hval 6 4 v6 rfl rfl) h6
  obtain ⟨fq, rfl, f0, f1⟩ := open_cand_arg (hval 7 25 v7 rfl rfl) h7
  obtain ⟨a8, rfl, rfl, rfl, w8⟩ := open_int Yba.underlying5 (hval 8 5 v8 rfl rfl) h8
  obtain ⟨a9, rfl, rfl, rfl, w9⟩ := open_int Yba.underlying3 (hval 9 3 v9 rfl rfl) h9
  clear hA0 hval0
  have hwalk : Calls Yba.prog 3 #[.slice sa n scap, .slice ra nc rcap, .bool a2, .agg #[.int .u8 bq.1, .int .u8 bq.2.1, .bool bq.2.2.1, .bool bq.2.2.2.1, .int .i64 bq.2.2.2.2], .int .u16 a4, .bool a5, .bool a6, .agg #[.int .u8 fq.1, .int .u8 fq.2.1, .bool fq.2.2.1, .bool fq.2.2.2.1, .int .i64 fq.2.2.2.2], .int .u8 a8, .int .i64 a9] W fun e w' => e = .returned (.bool true) ∧ Below W.heap.size W w' := by
    by_cases hbig : 400 < n ∨ 400 < nc
    · exact law_big sa n scap ra nc rcap a2 _ _ _ _ _ a4 a5 a6 _ _ _ _ _ a8 a9 W hml0 hml1 hbig
    · exact law sa n scap ra nc rcap a2 _ _ _ _ _ a4 a5 a6 _ _ _ _ _ a8 a9 op oa ol ot ok cp ca cu co ce W (by omega) (by omega) O C b0 b1 (u16_wf w4) f0 f1
  refine hwalk.mono fun e W' ⟨he, hg⟩ => ?_
  subst he
  exact ⟨_, rfl, _, _, _, [], _, [], hW', trodAll_mk1 (shut_bool Yba.underlying4 _), (trodAll_cons_mk (Below.trod laidOut (by kernel_rfl) (of_decide_eq_true (by kernel_rfl)) k0 hg lt0) (trodAll_cons_mk (Below.trod laidOut (by kernel_rfl) (of_decide_eq_true (by kernel_rfl)) k1 hg lt1) (trodAll_cons_mk (shut_bool Yba.underlying4 _) (trodAll_cons_mk (Below.trod laidOut (by kernel_rfl) (of_decide_eq_true (by kernel_rfl)) k3 hg lt3) (trodAll_cons_mk (shut_int Yba.underlying26 w4) (trodAll_cons_mk (shut_bool Yba.underlying4 _) (trodAll_cons_mk (shut_bool Yba.underlying4 _) (trodAll_cons_mk (Below.trod laidOut (by kernel_rfl) (of_decide_eq_true (by kernel_rfl)) k7 hg lt7) (trodAll_cons_mk (shut_int Yba.underlying5 w8) (trodAll_cons_mk (shut_int Yba.underlying3 w9) trodAll_mk0)))))))))), rfl, hg.frame _, fun h => by cases h⟩

theorem over : Rows.lawS4790BNextRow.holds Yba.pinned (OpenSpec.ofChange Rows.lawS4790BNextSpec) :=
  OpenClaim.holds_of_wide 3 Yba.f3 rfl rfl rfl rfl rfl rfl rfl ⟨rfl, rfl, rfl, rfl, rfl⟩ rfl rfl rfl rfl rfl (by kernel_rfl) Yba.func3 (by kernel_rfl)
    (of_decide_eq_true (by kernel_rfl)) (by unfold Func.isWrapper; first | (rw [if_pos (by decide +kernel)]; kernel_rfl) | (rw [if_neg (by decide +kernel)]; exact ⟨rfl, rfl⟩))
    (fun os started H enc _ => lifted os started H enc)

theorem proved : Rows.LawS4790BNextSaid :=
  over
end Go.Proofs.Ybulkcueg.lawS4790BNext
