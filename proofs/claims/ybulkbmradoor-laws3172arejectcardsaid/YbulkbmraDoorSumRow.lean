/-
  THE ROW 'Rows.LawS3172ASumSaid' AND ITS TIED CARD: the frame after the guide's shell for a law over slices and after its worked texts MapyProofs, MapyCard.
-/
import Derived.Test.YbulkbmraDoorRows
import Derived.Test.YbulkbmraDoorTie
import Derived.Test.YbulkbmraDoorCards
import Derived.Test.YbulkbmraDoorSumWalk
import Derived.ProofKit
import Derived.OpenShut
import Derived.ShutString
import Derived.ChangeOld
import Derived.Below
import Derived.LaidMore
import Derived.LaidLaws
import Derived.Stop.LaidErr
import Derived.Stop.Joined
import Derived.Lib.LaidTab
import Derived.Deep.Slices
import Derived.SevenTiedAt
namespace Go.Proofs.YbulkbmraDoor
open Go.ChangeShapes Go.WideShapes Go.ChangeAt Go.RowKit
theorem own : ownKnob Ybad.prog.godebug = none := by kernel_rfl
theorem laidOut : laidOutB Ybad.prog = true := by kernel_rfl
theorem cells2 : Ybad.prog.cellsOf 2 = 1 := by kernel_rfl
theorem cells4 : Ybad.prog.cellsOf 4 = 1 := by kernel_rfl

theorem open_xs {H : Type} {enc : TypeId × Value → H} {W : World} {p : Option Addr} {len cap : Nat} {d : DataW H} {ps : List MemPlace}
    (h : DataW.Trod enc Ybad.prog W 0 (fun _ => true) true 22 (.slice p len cap) d ps) : ∃ X : Nat → Int, XAt W p len X := by
  obtain ⟨fuel, hf⟩ := h
  rcases open_ints Ybad.underlying22 Ybad.underlying2 cells2 hf with ⟨hcs, _⟩ | ⟨a, l, c, zs, hcs, _, hl, hm, hz, _, hcell, hwz⟩
  · simp [Value.cells] at hcs
    obtain ⟨rfl, rfl, rfl⟩ := hcs
    exact ⟨fun _ => 0, fun k hk => by omega⟩
  · simp [Value.cells] at hcs
    obtain ⟨rfl, rfl, rfl⟩ := hcs
    simp only [if_true] at hz
    refine ⟨fun k => zs.getD k 0, fun k hk => ?_⟩
    have h0 := hcell 0 (by omega)
    obtain ⟨b, o, s⟩ := a
    obtain rfl : s = none := by simpa [Addr.add] using World.cell?_spot h0
    have hk' := hcell k (by omega)
    rw [add_plain] at hk'
    have hw := hwz (zs.getD k 0) (by rw [List.getD_eq_getElem?_getD, List.getElem?_eq_getElem (by omega)]; exact List.getElem_mem _)
    have hb : -9223372036854775808 ≤ zs.getD k 0 ∧ zs.getD k 0 ≤ 9223372036854775807 := by
      have h1 : IntKind.i64.min = -9223372036854775808 := rfl
      have h2 : IntKind.i64.max = 9223372036854775807 := rfl
      simp only [Lit.wf, Bool.and_eq_true, decide_eq_true_eq] at hw
      omega
    exact ⟨b, o, rfl, hk', hb.1, hb.2⟩

theorem open_bs {H : Type} {enc : TypeId × Value → H} {W : World} {p : Option Addr} {len cap : Nat} {d : DataW H} {ps : List MemPlace}
    (h : DataW.Trod enc Ybad.prog W 0 (fun _ => true) true 23 (.slice p len cap) d ps) : ∃ Y : Nat → Bool, BAt W p len Y := by
  obtain ⟨fuel, hf⟩ := h
  rcases Deep.open_slice1 Ybad.underlying23 cells4 hf with ⟨hcs, _⟩ | ⟨a, l, c, m, n, V, D, Pl, hcs, _, hl, hm, hmm, _, hel⟩
  · simp [Value.cells] at hcs
    obtain ⟨rfl, rfl, rfl⟩ := hcs
    exact ⟨fun _ => false, fun k hk => by omega⟩
  · simp [Value.cells] at hcs
    obtain ⟨rfl, rfl, rfl⟩ := hcs
    simp only [if_true] at hmm
    subst hmm
    have each : ∀ i, i < len → ∃ y : Bool, V i = .bool y := fun i hi => by
      obtain ⟨_, h2⟩ := hel i (by omega)
      obtain ⟨b, hb, _⟩ := DataW.trod_bool Ybad.underlying4 h2
      exact ⟨b, by simpa using hb⟩
    obtain ⟨f, hfb⟩ := Deep.choose_lt each
    refine ⟨f, fun k hk => ?_⟩
    have h0 := (hel 0 (by omega)).1
    obtain ⟨b, o, s⟩ := a
    obtain rfl : s = none := by simpa [Addr.add] using World.cell?_spot h0
    have hk' := (hel k (by omega)).1
    rw [add_plain, hfb k hk] at hk'
    exact ⟨b, o, rfl, hk'⟩

theorem tPow : (Ybad.prog.globals[0]?).map (·.type) = some 61 := by kernel_rfl
theorem cells37 : Ybad.prog.cellsOf 37 = 1 := by kernel_rfl
theorem cells61 : Ybad.prog.cellsOf 61 = 20 := by kernel_rfl
theorem powEq : (Rows.laid_internal_strconv_uint64pow10 : DataW Unit) = Lib.tabData .u64 Lib.pow10Tab := by kernel_rfl
theorem powHere : (Rows.lawS3172ASumRow.laid.getD 2 (powName, .nil)).1 = powName := by kernel_rfl
theorem tab_of_laid {W : World} (h : laidMetH Ybad.prog Rows.lawS3172ASumRow.laid W) : Lib.TabIs Ybad.prog W powName .u64 Lib.pow10Tab := by
  rw [MakeChecks.laidMetH_plain _ _ _ (by kernel_rfl)] at h
  have h2 : laidMet Ybad.prog ((powName, Rows.laid_internal_strconv_uint64pow10) :: Rows.lawS3172ASumRow.laid.drop 3) W := h.tail.tail
  rw [powEq] at h2
  exact Lib.tabIs_of_head powG tPow Ybad.underlying61 Ybad.underlying37 cells37 cells61 h2

namespace lawS3172ASum
theorem walk (p p2 : Option Addr) (len cap len2 cap2 : Nat) (X : Nat → Int) (Y : Nat → Bool) (w : World) (hX : XAt w p len X) (hY : BAt w p2 len2 Y) (htab : Lib.TabIs Ybad.prog w powName .u64 Lib.pow10Tab) :
    Calls Ybad.prog 3 #[.slice p len cap, .slice p2 len2 cap2] w fun e w' => e = .returned (.bool true) ∧ Below w.heap.size w w' := by
  have h5 : 1 ≤ w.heap.size := World.block_lt_of_cell? _ _ (htab.cell powG 0 (by decide))
  by_cases h : len ≤ 1024
  · exact sum_walk p p2 len cap len2 cap2 X Y w h hX hY h5 htab
  · exact sum_big p p2 len cap len2 cap2 w (by omega)

theorem door_met (os : Os) (args : Array Value) : laidMetH Ybad.prog Rows.lawS3172ASumRow.laid ((World.doorLaid Ybad.prog 400 os).forCall (fun _ _ => 0) ⟨#[], args, []⟩).memory :=
  laidMetH_of_parts3 (fuel := 8) (laidMet_of_run' 8 (by kernel_rfl) (by kernel_rfl)) (by kernel_rfl) (by kernel_rfl)

set_option maxRecDepth 100000 in
theorem lifted (os : Os) (started : os.Started) (H : Type) (enc : TypeId × Value → H) :
    ReturnsInHanded {} Ybad.checked os 3 .any (fun w args => (Rows.lawS3172ASumSpec.pre enc Ybad.prog Ybad.f3 [] false w args ∧ laidMetH Ybad.prog Rows.lawS3172ASumRow.laid w) ∧ sizedMet enc Ybad.prog Ybad.f3 (OpenSpec.ofChange Rows.lawS3172ASumSpec) false w args)
      (Rows.lawS3172ASumSpec.post enc Ybad.prog Ybad.f3 false true false false) := by
  refine returnsInHanded_of_change_and (C := Ybad.checked) (X := fun w _ => laidMetH Ybad.prog Rows.lawS3172ASumRow.laid w) (fun _ _ _ hh h => h.of_heap hh) own started (by kernel_rfl) Ybad.func3
    (ChangeSpec.witness_shaped (enc := enc) (C := Ybad.checked) (os := os) (X := fun w _ => laidMetH Ybad.prog Rows.lawS3172ASumRow.laid w) false (World.doorLaid Ybad.prog 400 os) #[.slice none 0 0, .slice none 0 0] 8 rfl (World.shaped_of_RefB (by kernel_rfl) (by kernel_rfl)) (by kernel_rfl) (by kernel_rfl) (by kernel_rfl) (door_met os _)) ?_
  intro W base args ds gs before hval0 hW _ _ hL _
  have hval : ∀ (j : Nat) t v, Ybad.f3.params[j]? = some t → args[j]? = some v → Value.okWide Ybad.prog W .any base t v := hval0
  have hW' := hW
  obtain ⟨p, q, hA0, hV, rfl, hfz, hnd⟩ := hW
  have hA : DataW.TrodAll enc Ybad.prog W 0 (fun _ => true) true Ybad.f3.params.toList args.toList ds p := hA0
  rw [Ybad.params3] at hA hval
  obtain ⟨v0, vs0, d0, ds0, p0, q0, hargs, rfl, rfl, h0, r0⟩ := trodAll_cons hA
  obtain ⟨v1, vs1, d1, ds1, p1, q1, rfl, rfl, rfl, h1, r1⟩ := trodAll_cons r0
  obtain ⟨rfl, rfl, rfl⟩ := trodAll_nil r1
  obtain rfl : args = #[v0, v1] := by cases args; simp_all
  obtain ⟨rfl, rfl⟩ := trodVars_none hV
  obtain ⟨a0, len0, cap0, rfl⟩ := okWide_slice Ybad.underlying22 (hval 0 22 v0 rfl rfl)
  obtain ⟨a1, len1, cap1, rfl⟩ := okWide_slice Ybad.underlying23 (hval 1 23 v1 rfl rfl)
  have lt0 : ∀ x ∈ p0, x.block < W.heap.size := by obtain ⟨m, hm⟩ := h0; exact DataW.trod_lt m _ _ _ hm
  have lt1 : ∀ x ∈ p1, x.block < W.heap.size := by obtain ⟨m, hm⟩ := h1; exact DataW.trod_lt m _ _ _ hm
  obtain ⟨X, hX⟩ := open_xs h0
  obtain ⟨Y, hY⟩ := open_bs h1
  clear hA0 hval0
  refine (walk a0 a1 len0 cap0 len1 cap1 X Y W hX hY (tab_of_laid hL)).mono fun e W' ⟨he, bel⟩ => ?_
  subst he
  exact ⟨_, rfl, _, _, _, [], _, [], hW', trodAll_mk1 (shut_bool Ybad.underlying4 _), (trodAll_cons_mk (Below.trod laidOut (by kernel_rfl) (of_decide_eq_true (by kernel_rfl)) h0 bel lt0) (trodAll_cons_mk (Below.trod laidOut (by kernel_rfl) (of_decide_eq_true (by kernel_rfl)) h1 bel lt1) trodAll_mk0)), rfl, bel.frame _, fun h => by cases h⟩

theorem over : Rows.LawS3172ASumSaid :=
  OpenClaim.holds_of_wide 3 Ybad.f3 rfl rfl rfl rfl rfl rfl rfl ⟨rfl, rfl, rfl, rfl, rfl⟩ rfl rfl rfl rfl rfl (by kernel_rfl) Ybad.func3 (by kernel_rfl)
    (of_decide_eq_true (by kernel_rfl)) (by unfold Func.isWrapper; first | (rw [if_pos (by decide +kernel)]; kernel_rfl) | (rw [if_neg (by decide +kernel)]; exact ⟨rfl, rfl⟩))
    (fun os started H enc _ => lifted os started H enc)

/-- THE TIED CARD. -/
theorem proved : Rows.LawS3172ASumCardSaid :=
  Claim7.holds_tied_plain_at .later [] [.data, .data, .data, .sentinel, .sentinel] true Rows.lawS3172ASumCard.stood.harness true
    over (fun _ h => by cases h) (by kernel_rfl) (fun _ h => by cases h) lawS3172ASum_row_tie rfl ⟨rfl, rfl⟩ (by kernel_rfl) rfl
    (fun f fn hf hfn => by
      obtain rfl : f = 3 := Option.some.inj ((show Ybad.prog.funcNamed Rows.lawS3172ASumRow.func = some 3 by kernel_rfl).symm.trans hf) |>.symm
      obtain rfl : fn = Ybad.f3 := (Option.some.inj (Ybad.func3.symm.trans hfn)).symm
      exact ⟨by kernel_rfl, fun j t ht => by
        rw [Ybad.params3] at ht
        have hm : t ∈ [22, 23] := by simpa using Array.mem_of_getElem? ht
        have hall : ([22, 23].all fun u => !Ybad.prog.wantsStandIn u) = true := by kernel_rfl
        exact (show Ybad.prog.wantsStandIn t = false by simpa using List.all_eq_true.1 hall t hm)⟩)
    (by kernel_rfl)
end lawS3172ASum
end Go.Proofs.YbulkbmraDoor
