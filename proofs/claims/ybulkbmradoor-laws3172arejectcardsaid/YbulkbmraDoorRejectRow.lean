/-
  THE ROW 'Rows.LawS3172ARejectSaid' AND ITS TIED CARD: the frame after the guide's shell for a law over slices and after its worked texts MapyProofs, MapyCard.
-/
import Derived.Test.YbulkbmraDoorSumRow
import Derived.Test.YbulkbmraDoorRejectWalk
namespace Go.Proofs.YbulkbmraDoor
open Go.ChangeShapes Go.WideShapes Go.ChangeAt Go.RowKit
namespace lawS3172AReject
/-- What a sentinel at the head of the list gives: the variable's one cell holds an interface value. -/
theorem iface_of_head {W : World} {n nm : String} {d : DataW Unit} {r : List (String × DataW Unit)} {g : Nat} (hg : Ybad.prog.globalNamed n = some g) (ht : (Ybad.prog.globals[g]?).map (·.type) = some 31)
    (h : laidMet Ybad.prog ((n, .iface nm d) :: r) W) : ∃ t p, W.cell? ⟨g, 0, none⟩ = some (.iface t p) := by
  obtain ⟨ps, ⟨g', t', cs, fuel, p, q, hg', ht', hvar, hd, _, _⟩, _⟩ := h
  obtain rfl := Option.some.inj (hg.symm.trans hg')
  obtain rfl := Option.some.inj (ht.symm.trans ht')
  obtain ⟨_, u, v, hcs, _, _⟩ := iface_of_trod Ybad.underlying31 hd
  refine ⟨u, v, ?_⟩
  have h0 := World.var?_cell hg hvar 0
  rw [Array.eq_one_of_toList hcs] at h0
  simpa using h0
theorem gES : Ybad.prog.globalNamed "strconv.ErrSyntax" = some 1 := by kernel_rfl
theorem gER : Ybad.prog.globalNamed "strconv.ErrRange" = some 2 := by kernel_rfl
theorem tES : (Ybad.prog.globals[1]?).map (·.type) = some 31 := by kernel_rfl
theorem tER : (Ybad.prog.globals[2]?).map (·.type) = some 31 := by kernel_rfl
theorem errs_of_laid {W : World} (h : laidMetH Ybad.prog Rows.lawS3172ARejectRow.laid W) :
    (∃ t p, W.cell? ⟨1, 0, none⟩ = some (.iface t p)) ∧ ∃ t p, W.cell? ⟨2, 0, none⟩ = some (.iface t p) := by
  rw [MakeChecks.laidMetH_plain _ _ _ (by kernel_rfl)] at h
  exact ⟨iface_of_head gES tES h.tail.tail.tail.tail, iface_of_head gER tER h.tail.tail.tail⟩

theorem walk (p : Option Addr) (len cap : Nat) (a b : Int) (X : Nat → Int) (w : World) (wa : (Lit.int .u16 a).wf = true) (wb : (Lit.int .u8 b).wf = true) (hX : XAt w p len X)
    (h1 : ∃ t p, w.cell? ⟨1, 0, none⟩ = some (.iface t p)) (h2 : ∃ t p, w.cell? ⟨2, 0, none⟩ = some (.iface t p)) :
    Calls Ybad.prog 4 #[.slice p len cap, .int .u16 a, .int .u8 b] w fun e w' => e = .returned (.bool true) ∧ Below w.heap.size w w' := by
  obtain ⟨t1, p1, h1⟩ := h1
  obtain ⟨t2, p2, h2⟩ := h2
  have ha : 0 ≤ a ∧ a ≤ 65535 := by
    have e1 : IntKind.u16.min = 0 := rfl
    have e2 : IntKind.u16.max = 65535 := rfl
    simp only [Lit.wf, Bool.and_eq_true, decide_eq_true_eq] at wa
    omega
  have hb : 0 ≤ b ∧ b ≤ 255 := by
    have e1 : IntKind.u8.min = 0 := rfl
    have e2 : IntKind.u8.max = 255 := rfl
    simp only [Lit.wf, Bool.and_eq_true, decide_eq_true_eq] at wb
    omega
  by_cases h : len ≤ 1024
  · obtain ⟨A, rfl⟩ : ∃ A : Nat, a = A := ⟨a.toNat, by omega⟩
    obtain ⟨B, rfl⟩ : ∃ B : Nat, b = B := ⟨b.toNat, by omega⟩
    exact reject_walk p len cap A B X w h (by omega) (by omega) hX t1 t2 p1 p2 h1 h2
  · exact reject_big p len cap a b w (by omega)

theorem door_met (os : Os) (args : Array Value) : laidMetH Ybad.prog Rows.lawS3172ARejectRow.laid ((World.doorLaid Ybad.prog 400 os).forCall (fun _ _ => 0) ⟨#[], args, []⟩).memory :=
  laidMetH_of_parts3 (fuel := 8) (laidMet_of_run' 8 (by kernel_rfl) (by kernel_rfl)) (by kernel_rfl) (by kernel_rfl)

set_option maxRecDepth 100000 in
theorem lifted (os : Os) (started : os.Started) (H : Type) (enc : TypeId × Value → H) :
    ReturnsInHanded {} Ybad.checked os 4 .any (fun w args => (Rows.lawS3172ARejectSpec.pre enc Ybad.prog Ybad.f4 [] false w args ∧ laidMetH Ybad.prog Rows.lawS3172ARejectRow.laid w) ∧ sizedMet enc Ybad.prog Ybad.f4 (OpenSpec.ofChange Rows.lawS3172ARejectSpec) false w args)
      (Rows.lawS3172ARejectSpec.post enc Ybad.prog Ybad.f4 false true false false) := by
  refine returnsInHanded_of_change_and (C := Ybad.checked) (X := fun w _ => laidMetH Ybad.prog Rows.lawS3172ARejectRow.laid w) (fun _ _ _ hh h => h.of_heap hh) own started (by kernel_rfl) Ybad.func4
    (ChangeSpec.witness_shaped (enc := enc) (C := Ybad.checked) (os := os) (X := fun w _ => laidMetH Ybad.prog Rows.lawS3172ARejectRow.laid w) false (World.doorLaid Ybad.prog 400 os) #[.slice none 0 0, .int .u16 0, .int .u8 0] 8 rfl (World.shaped_of_RefB (by kernel_rfl) (by kernel_rfl)) (by kernel_rfl) (by kernel_rfl) (by kernel_rfl) (door_met os _)) ?_
  intro W base args ds gs before hval0 hW _ _ hL _
  have hval : ∀ (j : Nat) t v, Ybad.f4.params[j]? = some t → args[j]? = some v → Value.okWide Ybad.prog W .any base t v := hval0
  have hW' := hW
  obtain ⟨p, q, hA0, hV, rfl, hfz, hnd⟩ := hW
  have hA : DataW.TrodAll enc Ybad.prog W 0 (fun _ => true) true Ybad.f4.params.toList args.toList ds p := hA0
  rw [Ybad.params4] at hA hval
  obtain ⟨v0, vs0, d0, ds0, p0, q0, hargs, rfl, rfl, h0, r0⟩ := trodAll_cons hA
  obtain ⟨v1, vs1, d1, ds1, p1, q1, rfl, rfl, rfl, h1, r1⟩ := trodAll_cons r0
  obtain ⟨v2, vs2, d2, ds2, p2, q2, rfl, rfl, rfl, h2, r2⟩ := trodAll_cons r1
  obtain ⟨rfl, rfl, rfl⟩ := trodAll_nil r2
  obtain rfl : args = #[v0, v1, v2] := by cases args; simp_all
  obtain ⟨rfl, rfl⟩ := trodVars_none hV
  obtain ⟨a0, len0, cap0, rfl⟩ := okWide_slice Ybad.underlying22 (hval 0 22 v0 rfl rfl)
  obtain ⟨a1, rfl, rfl, rfl, w1⟩ := open_int Ybad.underlying34 (hval 1 34 v1 rfl rfl) h1
  obtain ⟨a2, rfl, rfl, rfl, w2⟩ := open_int Ybad.underlying5 (hval 2 5 v2 rfl rfl) h2
  have lt0 : ∀ x ∈ p0, x.block < W.heap.size := by obtain ⟨m, hm⟩ := h0; exact DataW.trod_lt m _ _ _ hm
  obtain ⟨X, hX⟩ := open_xs h0
  obtain ⟨e1, e2⟩ := errs_of_laid hL
  clear hA0 hval0
  refine (walk a0 len0 cap0 a1 a2 X W w1 w2 hX e1 e2).mono fun e W' ⟨he, bel⟩ => ?_
  subst he
  exact ⟨_, rfl, _, _, _, [], _, [], hW', trodAll_mk1 (shut_bool Ybad.underlying4 _), (trodAll_cons_mk (Below.trod laidOut (by kernel_rfl) (of_decide_eq_true (by kernel_rfl)) h0 bel lt0) (trodAll_cons_mk (shut_int Ybad.underlying34 w1) (trodAll_cons_mk (shut_int Ybad.underlying5 w2) trodAll_mk0))), rfl, bel.frame _, fun h => by cases h⟩

theorem over : Rows.LawS3172ARejectSaid :=
  OpenClaim.holds_of_wide 4 Ybad.f4 rfl rfl rfl rfl rfl rfl rfl ⟨rfl, rfl, rfl, rfl, rfl⟩ rfl rfl rfl rfl rfl (by kernel_rfl) Ybad.func4 (by kernel_rfl)
    (of_decide_eq_true (by kernel_rfl)) (by unfold Func.isWrapper; first | (rw [if_pos (by decide +kernel)]; kernel_rfl) | (rw [if_neg (by decide +kernel)]; exact ⟨rfl, rfl⟩))
    (fun os started H enc _ => lifted os started H enc)

/-- THE TIED CARD. -/
theorem proved : Rows.LawS3172ARejectCardSaid :=
  Claim7.holds_tied_plain_at .later [] [.data, .data, .data, .sentinel, .sentinel] true Rows.lawS3172ARejectCard.stood.harness true
    over (fun _ h => by cases h) (by kernel_rfl) (fun _ h => by cases h) lawS3172AReject_row_tie rfl ⟨rfl, rfl⟩ (by kernel_rfl) rfl
    (fun f fn hf hfn => by
      obtain rfl : f = 4 := Option.some.inj ((show Ybad.prog.funcNamed Rows.lawS3172ARejectRow.func = some 4 by kernel_rfl).symm.trans hf) |>.symm
      obtain rfl : fn = Ybad.f4 := (Option.some.inj (Ybad.func4.symm.trans hfn)).symm
      exact ⟨by kernel_rfl, fun j t ht => by
        rw [Ybad.params4] at ht
        have hm : t ∈ [22, 34, 5] := by simpa using Array.mem_of_getElem? ht
        have hall : ([22, 34, 5].all fun u => !Ybad.prog.wantsStandIn u) = true := by kernel_rfl
        exact (show Ybad.prog.wantsStandIn t = false by simpa using List.all_eq_true.1 hall t hm)⟩)
    (by kernel_rfl)
end lawS3172AReject
end Go.Proofs.YbulkbmraDoor
