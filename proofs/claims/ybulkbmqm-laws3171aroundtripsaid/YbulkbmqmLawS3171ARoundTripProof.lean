/-
  THE SHELL OF A PROOF OF 'Rows.LawS3171ARoundTripSaid' ('example.com/tandemless/tandemless.LawS3171ARoundTrip'), WRITTEN BY PROGRAM (proof-skeleton.mjs) off the guide's own print for that function. Not trusted: Lean checks it.
-/
import Derived.Test.YbulkbmqmRows
import Derived.WalkKit
import Derived.ProofKit
import Derived.OpenShut
import Derived.ShutString
import Derived.RegionTactic
import Derived.Deep.RegionWith
import Derived.WalkSpells
namespace Go.Proofs.Ybulkbmqm.lawS3171ARoundTrip
open Go.ChangeShapes Go.WideShapes Go.ChangeAt Go.RowKit
open Go.ChangeMaps (open_string shut_string)
set_option linter.unusedVariables false      -- a walk need not use every 'w<i>' (that an integer argument fits its kind)

theorem own : ownKnob Yba.prog.godebug = none := by kernel_rfl

theorem or8 (x : Int) (h0 : 0 ≤ x) (h1 : x < 8) : bits BinOp.or IntKind.u8 x 8 = x + 8 := by
  have h : x = 0 ∨ x = 1 ∨ x = 2 ∨ x = 3 ∨ x = 4 ∨ x = 5 ∨ x = 6 ∨ x = 7 := by omega
  rcases h with rfl | rfl | rfl | rfl | rfl | rfl | rfl | rfl <;> decide +kernel
theorem and8 (x : Int) (h0 : 0 ≤ x) (h1 : x < 8) : (bits BinOp.and IntKind.u8 x 8 != 0) = false ∧ (bits BinOp.and IntKind.u8 (x + 8) 8 != 0) = true := by
  have h : x = 0 ∨ x = 1 ∨ x = 2 ∨ x = 3 ∨ x = 4 ∨ x = 5 ∨ x = 6 ∨ x = 7 := by omega
  rcases h with rfl | rfl | rfl | rfl | rfl | rfl | rfl | rfl <;> decide +kernel
def octet (m : Int) (om : Bool) : Int := if om = true then m % 8 + 8 else m % 8
theorem params_any (a0 a1 m : Int) (om : Bool) (w : World) (h0 : 1 ≤ m) (h1 : m ≤ 8) :
    Calls Yba.prog 7 #[.agg #[.int .u8 a0, .int .u8 a1, .int .i64 m, .bool om]] w fun e w' => e = .returned (.slice (some ⟨w.heap.size + 1, 0, none⟩) 3 3) ∧
      w' = (w.alloc (.cells #[.int .u8 a0, .int .u8 a1, .int .i64 m, .bool om] 24)).alloc (.cells #[.int .u8 a0, .int .u8 a1, .int .u8 (octet m om)] 5) := by
  have ho : Hid (bits BinOp.or IntKind.u8 (m % 8) 8 = m % 8 + 8) := or8 (m % 8) (by omega) (by omega)
  cases om
  all_goals
    go_enter Yba.func7, Yba.ntmps7
    go_wp2
    go_ret
    refine ⟨rfl, ?_⟩
    first | (rw [ho.out]; rfl) | rfl

theorem read_any (c0 c1 c4 c5 c6 c7 c8 : Value) (i2 i3 a0 a1 m : Int) (om : Bool) (g : Nat) (w : World)
   (h0 : w.cell? ⟨g, 0, none⟩ = some (.int .u8 a0)) (h1 : w.cell? ⟨g, 1, none⟩ = some (.int .u8 a1)) (h2 : w.cell? ⟨g, 2, none⟩ = some (.int .u8 (octet m om))) (hg : g < w.heap.size) (hm0 : 1 ≤ m) (hm1 : m ≤ 8) :
    Calls Yba.prog 8 #[.agg #[c0, c1, .int .u8 i2, .int .i64 i3, c4, c5, c6, c7, c8], .slice (some ⟨g, 0, none⟩) 3 3] w fun e w' =>
      e = .returned (.agg #[.int .u8 a0, .int .u8 a1, .int .i64 m, .bool om]) ∧
      w' = ((w.alloc (.cells #[c0, c1, .int .u8 i2, .int .i64 i3, c4, c5, c6, c7, c8] 34)).alloc (.cells #[.int .u8 a0, .int .u8 a1, .int .i64 m, .bool om] 24)).alloc (.cells #[.int .u8 a0, .int .u8 a1, .int .i64 m, .bool om] 24) := by
  obtain ⟨x, hx⟩ : ∃ x, octet m om = x := ⟨_, rfl⟩
  rw [hx] at h2
  have H : (x % 8 = 0 → m = 8) ∧ (x % 8 ≠ 0 → x % 8 = m) ∧ 0 ≤ x ∧ x < 16 := by
    unfold octet at hx; split at hx <;> omega
  have H2 : (bits BinOp.and IntKind.u8 x 8 != 0) = om := by
    have := and8 (m % 8) (by omega) (by omega)
    subst hx; unfold octet; cases om <;> simp_all
  obtain ⟨e1, e2, hx0, hx1⟩ := H
  have E1 : Hid (x % 8 = 0 → m = 8) := e1
  have E2 : Hid (x % 8 ≠ 0 → x % 8 = m) := e2
  have E3 : Hid ((bits BinOp.and IntKind.u8 x 8 != 0) = om) := H2
  clear e1 e2 H2 hx
  have hg1 : g < w.heap.size + 1 := by omega
  have hg2 : g < w.heap.size + 1 + 1 := by omega
  go_enter Yba.func8, Yba.ntmps8
  go_wp2
  · have hm := E1.out (by simp_all)
    rw [E3.out]
    subst hm
    exact bodyPost_ret (v := .agg #[.int .u8 a0, .int .u8 a1, .int .i64 8, .bool om]) (by simp [results, Yba.results8, go_sem]) rfl ⟨rfl, rfl⟩
  · have hm := E2.out (by simp_all)
    rw [E3.out]
    rw [hm]
    exact bodyPost_ret (v := .agg #[.int .u8 a0, .int .u8 a1, .int .i64 m, .bool om]) (by simp [results, Yba.results8, go_sem]) rfl ⟨rfl, rfl⟩

set_option maxHeartbeats 4000000 in
theorem walk (a0 : Int) (a1 : Int) (a2 : Int) (a3 : Bool) (a4 : Int) (a5 : Int) (w0 : (Lit.int .u8 a0).wf = true) (w1 : (Lit.int .u8 a1).wf = true) (w2 : (Lit.int .u8 a2).wf = true) (w4 : (Lit.int .u8 a4).wf = true) (w5 : (Lit.int .i64 a5).wf = true) (w : World) :
    Calls Yba.prog 4 #[.int .u8 a0, .int .u8 a1, .int .u8 a2, .bool a3, .int .u8 a4, .int .i64 a5] w fun e w' => e = .returned (.bool true) ∧ Grown w w' := by
  have hb : 0 ≤ a2 ∧ a2 ≤ 255 := by simpa [Lit.wf, IntKind.min, IntKind.max, IntKind.bits, IntKind.signed] using w2
  obtain ⟨hb0, hb1⟩ := hb
  clear w0 w1 w2 w4 w5
  go_enter Yba.func4, Yba.ntmps4
  go_wp2
  go_region_with (first
    | (go_at_call 7; refine (params_any _ _ _ _ _ (by omega) (by omega)).mono ?_; rintro e w' ⟨rfl, rfl⟩)
    | (go_at_call 8; go_must (refine (read_any _ _ _ _ _ _ _ _ _ a0 a1 (a2 % 8 + 1) a3 _ _ (by go_simp) (by go_simp) (by go_simp) (by simp) (by omega) (by omega)).mono ?_); rintro e w' ⟨rfl, rfl⟩))
  all_goals
    go_wp2
    go_ret
    refine ⟨rfl, ?_⟩
    with_reducible repeat (first | apply Grown.drew | apply Grown.alloc | exact Grown.refl _)

/-! ### THE ROW's STEP: WRITTEN OUT: LEAVE IT -/
set_option maxRecDepth 100000 in
theorem lifted (os : Os) (started : os.Started) (H : Type) (enc : TypeId × Value → H) :
    ReturnsInHanded {} Yba.checked os 4 .any (Rows.lawS3171ARoundTripSpec.pre6 enc Yba.prog Yba.f4 Rows.lawS3171ARoundTripRow.domain false) (Rows.lawS3171ARoundTripSpec.post enc Yba.prog Yba.f4 false true false false) := by
  refine returnsInHanded_of_change (C := Yba.checked) own started (by kernel_rfl) Yba.func4
    (ChangeSpec.witness6 (enc := enc) (C := Yba.checked) false ⟨#[], #[.int .u8 0, .int .u8 0, .int .u8 0, .bool false, .int .u8 0, .int .i64 0], []⟩ 8 (by kernel_rfl) (by kernel_rfl) (by kernel_rfl) (by kernel_rfl)) ?_
  intro W base args ds gs before hval0 hW hcnd _
  have hval : ∀ (j : Nat) t v, Yba.f4.params[j]? = some t → args[j]? = some v → Value.okWide Yba.prog W .any base t v := hval0
  have hW' := hW
  obtain ⟨p, q, hA0, hV, rfl, hfz, hnd⟩ := hW
  have hA : DataW.TrodAll enc Yba.prog W 0 (fun _ => true) true Yba.f4.params.toList args.toList ds p := hA0
  rw [Yba.params4] at hA hval
  obtain ⟨v0, vs0, d0, ds0, p0, q0, hargs, rfl, rfl, h0, r0⟩ := trodAll_cons hA
  obtain ⟨v1, vs1, d1, ds1, p1, q1, rfl, rfl, rfl, h1, r1⟩ := trodAll_cons r0
  obtain ⟨v2, vs2, d2, ds2, p2, q2, rfl, rfl, rfl, h2, r2⟩ := trodAll_cons r1
  obtain ⟨v3, vs3, d3, ds3, p3, q3, rfl, rfl, rfl, h3, r3⟩ := trodAll_cons r2
  obtain ⟨v4, vs4, d4, ds4, p4, q4, rfl, rfl, rfl, h4, r4⟩ := trodAll_cons r3
  obtain ⟨v5, vs5, d5, ds5, p5, q5, rfl, rfl, rfl, h5, r5⟩ := trodAll_cons r4
  obtain ⟨rfl, rfl, rfl⟩ := trodAll_nil r5
  obtain rfl : args = #[v0, v1, v2, v3, v4, v5] := by cases args; simp_all
  obtain ⟨rfl, rfl⟩ := trodVars_none hV
  obtain ⟨a0, rfl, rfl, rfl, w0⟩ := open_int Yba.underlying5 (hval 0 5 v0 rfl rfl) h0
  obtain ⟨a1, rfl, rfl, rfl, w1⟩ := open_int Yba.underlying5 (hval 1 5 v1 rfl rfl) h1
  obtain ⟨a2, rfl, rfl, rfl, w2⟩ := open_int Yba.underlying5 (hval 2 5 v2 rfl rfl) h2
  obtain ⟨a3, rfl, rfl, rfl⟩ := open_bool Yba.underlying4 (hval 3 4 v3 rfl rfl) h3
  obtain ⟨a4, rfl, rfl, rfl, w4⟩ := open_int Yba.underlying5 (hval 4 5 v4 rfl rfl) h4
  obtain ⟨a5, rfl, rfl, rfl, w5⟩ := open_int Yba.underlying3 (hval 5 3 v5 rfl rfl) h5
  clear hA0 hval0
  simp only [List.append_nil] at hW'
  refine (walk a0 a1 a2 a3 a4 a5 w0 w1 w2 w4 w5 W).mono fun e W' ⟨he, hg⟩ => ?_
  subst he
  exact ⟨_, rfl, post_of_same (pa := []) (pv := []) hW' (fun _ _ _ => (trodAll_cons_mk (shut_bool Yba.underlying4 _) trodAll_mk0)) (fun sp _ => (trodAll_cons_mk (shut_int Yba.underlying5 w0) (trodAll_cons_mk (shut_int Yba.underlying5 w1) (trodAll_cons_mk (shut_int Yba.underlying5 w2) (trodAll_cons_mk (shut_bool Yba.underlying4 _) (trodAll_cons_mk (shut_int Yba.underlying5 w4) (trodAll_cons_mk (shut_int Yba.underlying3 w5) trodAll_mk0))))))) (fun _ _ => rfl) rfl
    (hg.frame _) hg.2.1 (ok_one (by kernel_rfl) rfl (okWide_bool_mk Yba.underlying4 _))⟩

theorem over : Rows.lawS3171ARoundTripRow.holds Yba.pinned (OpenSpec.ofChange Rows.lawS3171ARoundTripSpec) :=
  OpenClaim.holds_of_wide 4 Yba.f4 rfl rfl rfl rfl rfl rfl rfl ⟨rfl, rfl, rfl, rfl, rfl⟩ rfl rfl rfl rfl rfl (by kernel_rfl) Yba.func4 (by kernel_rfl)
    (of_decide_eq_true (by kernel_rfl)) (by unfold Func.isWrapper; first | (rw [if_pos (by decide +kernel)]; kernel_rfl) | (rw [if_neg (by decide +kernel)]; exact ⟨rfl, rfl⟩))
    (fun os started H enc _ => lifted os started H enc)

/-- ████ THE STATEMENT ████ -/
theorem proved : Rows.LawS3171ARoundTripSaid :=
  over
#print axioms proved
end Go.Proofs.Ybulkbmqm.lawS3171ARoundTrip
