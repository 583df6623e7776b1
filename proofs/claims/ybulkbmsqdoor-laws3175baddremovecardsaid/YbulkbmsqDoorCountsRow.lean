/-
  THE ROW 'Rows.LawS3175BCountsSaid' AND ITS TIED CARD: the frame after the guide's shell for a law over slices and after its worked texts MapyProofs, MapyCard.
-/
import Derived.Test.YbulkbmsqDoorRows
import Derived.Test.YbulkbmsqDoorTie
import Derived.Test.YbulkbmsqDoorCards
import Derived.Test.YbulkbmsqDoorCountsWalk
import Derived.ProofKit
import Derived.OpenShut
import Derived.ShutString
import Derived.ChangeOld
import Derived.ChangeSame
import Derived.Below
import Derived.LaidMore
import Derived.Lay
import Derived.LaidLaws
import Derived.Stop.Joined
import Derived.Stop.LaidErr
import Derived.Lib.LaidTab
import Derived.SevenTiedAt
namespace Go.Proofs.YbulkbmsqDoor
open Go.ChangeShapes Go.WideShapes Go.ChangeAt Go.RowKit
theorem own : ownKnob Ybad.prog.godebug = none := by kernel_rfl
theorem laidOut : laidOutB Ybad.prog = true := by kernel_rfl
theorem cells5 : Ybad.prog.cellsOf 5 = 1 := by kernel_rfl
theorem cells30 : Ybad.prog.cellsOf 30 = 1 := by kernel_rfl
theorem cells32 : Ybad.prog.cellsOf 32 = 1 := by kernel_rfl

theorem open_xs {H : Type} {enc : TypeId × Value → H} {W : World} {p : Option Addr} {len cap : Nat} {d : DataW H} {ps : List MemPlace}
    (h : DataW.Trod enc Ybad.prog W 0 (fun _ => true) true 22 (.slice p len cap) d ps) : ∃ X : Nat → Nat, XAt W p len X := by
  obtain ⟨fuel, hf⟩ := h
  rcases open_ints Ybad.underlying22 Ybad.underlying5 cells5 hf with ⟨hcs, _⟩ | ⟨a, l, c, zs, hcs, _, hl, hm, hz, _, hcell, hwz⟩
  · simp [Value.cells] at hcs
    obtain ⟨rfl, rfl, rfl⟩ := hcs
    exact ⟨fun _ => 0, fun k hk => by omega⟩
  · simp [Value.cells] at hcs
    obtain ⟨rfl, rfl, rfl⟩ := hcs
    simp only [if_true] at hz
    refine ⟨fun k => (zs.getD k 0).toNat, fun k hk => ?_⟩
    have h0 := hcell 0 (by omega)
    obtain ⟨b, o, s⟩ := a
    obtain rfl : s = none := by simpa [Addr.add] using World.cell?_spot h0
    have hk' := hcell k (by omega)
    rw [add_plain] at hk'
    have hw := hwz (zs.getD k 0) (by rw [List.getD_eq_getElem?_getD, List.getElem?_eq_getElem (by omega)]; exact List.getElem_mem _)
    have hb : 0 ≤ zs.getD k 0 ∧ zs.getD k 0 ≤ 255 := by
      have h1 : IntKind.u8.min = 0 := rfl
      have h2 : IntKind.u8.max = 255 := rfl
      simp only [Lit.wf, Bool.and_eq_true, decide_eq_true_eq] at hw
      omega
    refine ⟨b, o, rfl, ?_, show (zs.getD k 0).toNat < 256 by omega⟩
    have e : (((zs.getD k 0).toNat : Nat) : Int) = zs.getD k 0 := by omega
    show W.cell? ⟨b, o + k, none⟩ = some (.int .u8 (((zs.getD k 0).toNat : Nat) : Int))
    rw [e]
    exact hk'

/-- What a handle at the head of the list gives: the variable's one cell holds a pointer. -/
theorem ptr_of_head {W : World} {n : String} {d : DataW Unit} {r : List (String × DataW Unit)} {g : Nat} (h : laidMet Ybad.prog ((n, .agg [d]) :: r) W) (hg : Ybad.prog.globalNamed n = some g) (ht : (Ybad.prog.globals[g]?).map (·.type) = some 32) :
    (∃ a y, W.cell? ⟨g, 0, none⟩ = some (.pointer (some a)) ∧ d = .ptr y) ∨ (W.cell? ⟨g, 0, none⟩ = some (.pointer none) ∧ d = .nil) := by
  obtain ⟨ps, ⟨g', t', cs, fuel, p, q, hg', ht', hvar, hd, _, _⟩, _⟩ := h
  obtain rfl := Option.some.inj (hg.symm.trans hg')
  obtain rfl := Option.some.inj (ht.symm.trans ht')
  obtain ⟨y0, m, hx, hl, hf⟩ := trod_struct1 Ybad.underlying32 hd
  simp only [Prod.mk.injEq, DataW.agg.injEq, List.cons.injEq, and_true] at hx
  have h0 := World.var?_cell hg hvar 0
  rw [cells32] at hl
  simp only [List.drop_zero, cells30] at hf
  rw [List.take_of_length_le (by rw [hl]; exact Nat.le_refl _)] at hf
  rcases DataW.trod_pointer Ybad.underlying30 hf with ⟨hcs, he⟩ | ⟨a, cs', y, n', _, hcs, he, _, _⟩
  · refine Or.inr ⟨?_, by rw [hx.1, he]⟩
    rw [Array.eq_one_of_toList hcs] at h0
    simpa using h0
  · refine Or.inl ⟨a, y.1, ?_, by rw [hx.1, he]⟩
    rw [Array.eq_one_of_toList hcs] at h0
    simpa using h0
theorem zs_of_laid {W : World} (h : laidMetH Ybad.prog Rows.lawS3175BCountsRow.laid W) : ∃ Z, Zs Z W := by
  rw [MakeChecks.laidMetH_plain _ _ _ (by kernel_rfl)] at h
  have e4 := ptr_of_head (g := 0) h (by kernel_rfl) (by kernel_rfl)
  have e0 := ptr_of_head (g := 1) (laidMet.tail (laidMet.tail h)) (by kernel_rfl) (by kernel_rfl)
  rcases e4 with ⟨a, y, h4, _⟩ | ⟨_, he⟩
  · rcases e0 with ⟨_, _, _, he⟩ | ⟨h0, _⟩
    · cases he
    · exact ⟨a, h4, h0⟩
  · cases he

namespace lawS3175BCounts
theorem door_met (os : Os) (args : Array Value) : laidMetH Ybad.prog Rows.lawS3175BCountsRow.laid ((World.laidAll Ybad.prog os Rows.lawS3175BCountsRow.laid).forCall (fun _ _ => 0) ⟨#[], args, []⟩).memory := by
  rw [MakeChecks.laidMetH_plain _ _ _ (by kernel_rfl)]
  exact laidMet_laidAll _ (by kernel_rfl) (by kernel_rfl)

set_option maxRecDepth 100000 in
theorem lifted (os : Os) (started : os.Started) (H : Type) (enc : TypeId × Value → H) :
    ReturnsInHanded {} Ybad.checked os 3 .any (fun w args => (Rows.lawS3175BCountsSpec.pre enc Ybad.prog Ybad.f3 [] false w args ∧ laidMetH Ybad.prog Rows.lawS3175BCountsRow.laid w) ∧ sizedMet enc Ybad.prog Ybad.f3 (OpenSpec.ofChange Rows.lawS3175BCountsSpec) false w args)
      (Rows.lawS3175BCountsSpec.post enc Ybad.prog Ybad.f3 false true false false) := by
  refine returnsInHanded_of_change_and (C := Ybad.checked) (X := fun w _ => laidMetH Ybad.prog Rows.lawS3175BCountsRow.laid w) (fun _ _ _ hh h => h.of_heap hh) own started (by kernel_rfl) Ybad.func3
    (ChangeSpec.witness_shaped (enc := enc) (C := Ybad.checked) (os := os) (X := fun w _ => laidMetH Ybad.prog Rows.lawS3175BCountsRow.laid w) false (World.laidAll Ybad.prog os Rows.lawS3175BCountsRow.laid) #[.slice none 0 0] 8 rfl (World.shaped_of_RefB (by kernel_rfl) (by kernel_rfl)) (by kernel_rfl) (by kernel_rfl) (by kernel_rfl) (door_met os _)) ?_
  intro W base args ds gs before hval0 hW _ _ hL _
  have hval : ∀ (j : Nat) t v, Ybad.f3.params[j]? = some t → args[j]? = some v → Value.okWide Ybad.prog W .any base t v := hval0
  have hW' := hW
  obtain ⟨p, q, hA0, hV, rfl, hfz, hnd⟩ := hW
  have hA : DataW.TrodAll enc Ybad.prog W 0 (fun _ => true) true Ybad.f3.params.toList args.toList ds p := hA0
  rw [Ybad.params3] at hA hval
  obtain ⟨v0, vs0, d0, ds0, p0, q0, hargs, rfl, rfl, h0, r0⟩ := trodAll_cons hA
  obtain ⟨rfl, rfl, rfl⟩ := trodAll_nil r0
  obtain rfl : args = #[v0] := by cases args; simp_all
  obtain ⟨rfl, rfl⟩ := trodVars_none hV
  obtain ⟨a0, len0, cap0, rfl⟩ := okWide_slice Ybad.underlying22 (hval 0 22 v0 rfl rfl)
  have lt0 : ∀ x ∈ p0, x.block < W.heap.size := by obtain ⟨m, hm⟩ := h0; exact DataW.trod_lt m _ _ _ hm
  obtain ⟨X, hX⟩ := open_xs h0
  obtain ⟨Z, hZ⟩ := zs_of_laid hL
  clear hA0 hval0
  refine (counts3 Z a0 len0 cap0 X W hX hZ).mono fun e W' ⟨he, bel⟩ => ?_
  subst he
  exact ⟨_, rfl, _, _, _, [], _, [], hW', trodAll_mk1 (shut_bool Ybad.underlying4 _), (trodAll_cons_mk (Below.trod laidOut (by kernel_rfl) (of_decide_eq_true (by kernel_rfl)) h0 bel lt0) trodAll_mk0), rfl, bel.frame _, fun h => by cases h⟩

theorem over : Rows.LawS3175BCountsSaid :=
  OpenClaim.holds_of_wide 3 Ybad.f3 rfl rfl rfl rfl rfl rfl rfl ⟨rfl, rfl, rfl, rfl, rfl⟩ rfl rfl rfl rfl rfl (by kernel_rfl) Ybad.func3 (by kernel_rfl)
    (of_decide_eq_true (by kernel_rfl)) (by unfold Func.isWrapper; first | (rw [if_pos (by decide +kernel)]; kernel_rfl) | (rw [if_neg (by decide +kernel)]; exact ⟨rfl, rfl⟩))
    (fun os started H enc _ => lifted os started H enc)

/-- THE TIED CARD. -/
theorem proved : Rows.LawS3175BCountsCardSaid :=
  Claim7.holds_tied_plain_at .later [] [.called, .called, .zero] true Rows.lawS3175BCountsCard.stood.harness false
    over (fun _ h => by cases h) (by kernel_rfl) (fun _ h => by cases h) lawS3175BCounts_row_tie rfl ⟨rfl, rfl⟩ (by kernel_rfl) rfl
    (fun f fn hf hfn => by
      obtain rfl : f = 3 := Option.some.inj ((show Ybad.prog.funcNamed Rows.lawS3175BCountsRow.func = some 3 by kernel_rfl).symm.trans hf) |>.symm
      obtain rfl : fn = Ybad.f3 := (Option.some.inj (Ybad.func3.symm.trans hfn)).symm
      exact ⟨by kernel_rfl, fun j t ht => by
        rw [Ybad.params3] at ht
        have hm : t ∈ [22] := by simpa using Array.mem_of_getElem? ht
        have hall : ([22].all fun u => !Ybad.prog.wantsStandIn u) = true := by kernel_rfl
        exact (show Ybad.prog.wantsStandIn t = false by simpa using List.all_eq_true.1 hall t hm)⟩)
    (by kernel_rfl)
end lawS3175BCounts
end Go.Proofs.YbulkbmsqDoor
