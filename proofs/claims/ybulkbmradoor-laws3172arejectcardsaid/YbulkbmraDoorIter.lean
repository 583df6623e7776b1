import Derived.Test.YbulkbmraDoorProg
import Derived.Test.YbulkbmraDoorRange
import Derived.Shelf.Abstract
import Derived.Shelf.RegionOpen
import Derived.WalkKit
import Derived.OwnWalkIn
import Derived.TacticsInMore
import Derived.LoopNIn
import Derived.LoopIn
namespace Go.Proofs.YbulkbmraDoor
open Go.RowKit Go.Shelf
attribute [local go_sem] Oper.semAt_some

set_option maxRecDepth 100000 in
set_option maxHeartbeats 1000000 in
theorem iter6 (F : Fence) (n : Nat) (h6 : F.fn 6) (hro : F.round = none) (hn : 1 ≤ n) (bs bc n₀ N : Nat) (ss : Nat → ByteArray) (hN : N ≤ 2000) : IterC F n Ybad.prog 6 bs bc n₀ N ss := by
  intro l J Jx W hst hbc hne hC hgb hab hY h0
  refine callsIn_of_wp Ybad.func6 rfl h6 ?_ hro
  simp only [Ybad.ntmps6, List.size_toArray, List.length_cons, List.length_nil, Nat.reduceAdd, Nat.reduceSub, Array.replicate_succ, Array.replicate_zero, List.push_toArray, List.append_toArray, List.nil_append, List.cons_append]
  obtain ⟨g, cap, hb, hc, hg0, hx⟩ := hst
  have hgne := hgb g cap hc
  clear hgb
  gi_wp2
  gi_loopw [4] (fun p wr => ∃ i : Nat, i ≤ N ∧ p = .int .i64 i ∧ J i wr ∧ wr.heap[bc]? = some (.cells #[.int .i64 i] 3 (0, 0)) ∧ wr.cell? ⟨bs, 0, none⟩ = some (.slice (some ⟨g, 0, none⟩) N cap) ∧ ∀ i, i < N → wr.cell? ⟨g, i, none⟩ = some (.string (ss i)))
    (fun p _ => N - (intOf p).toNat)
  case atStart => exact ⟨0, Nat.zero_le _, rfl, h0, hC, hc, hx⟩
  case round =>
    obtain ⟨i, hi, rfl, hJ, hCr, hcr, hxr⟩ := hrel
    by_cases hlt : i < N
    · obtain ⟨W1, hW1⟩ : ∃ W1, wr.setCell ⟨bc, 0, none⟩ (.int .i64 ((i : Int) + 1)) = W1 := ⟨_, rfl⟩
      have hJ1 : J i W1 := by rw [← hW1]; exact hab i wr _ hJ
      have hC1 : W1.heap[bc]? = some (.cells #[.int .i64 ((i : Int) + 1)] 3 (0, 0)) := by rw [← hW1]; simp [World.setCell, Array.getElem?_modify, hCr]
      have hc1 : W1.cell? ⟨bs, 0, none⟩ = some (.slice (some ⟨g, 0, none⟩) N cap) := by rw [← hW1]; exact (World.cell?_setCell_other _ _ _ _ (fun e => hne (by cases e; rfl))).trans hcr
      have hx1 : ∀ j, j < N → W1.cell? ⟨g, j, none⟩ = some (.string (ss j)) := fun j hj => by rw [← hW1]; exact (World.cell?_setCell_other _ _ _ _ (fun e => hgne (by omega) (by cases e; rfl))).trans (hxr j hj)
      obtain ⟨hcc, hff⟩ : wr.cell? ⟨bc, 0, none⟩ = some (.int .i64 i) ∧ wr.frozen? ⟨bc, 0, none⟩ = false := by simp [World.cell?, World.frozen?, hCr]
      obtain ⟨fn, tmps, assign, body, hy, hR⟩ := hY i W1 hJ1 hlt
      have hxi := hx1 i hlt
      have hli : (i : Int) < (N : Int) := by omega
      have HJ1 : Hid (W1.heap[bc]? = some (.cells #[.int .i64 ((i : Int) + 1)] 3 (0, 0))) := hC1
      have HX : Hid (∀ j, j < N → W1.cell? ⟨g, j, none⟩ = some (.string (ss j))) := hx1
      have HA : Hid (∀ i W1 v, J i W1 → J i (W1.setCell ⟨bc, 0, none⟩ v)) := hab
      clear hx1 hxr hx hCr hC hJ1 hJ hC1 hY hab
      gi_wp2
      refine hR.mono ?_
      rintro e W3 (⟨rfl, hJ3, hk3⟩ | ⟨rfl, hJx3, hk3⟩)
      · gi_wp2
        go_roundw
        case rel => exact ⟨i + 1, by omega, by go_num, hJ3, (hk3.block bc hbc).trans HJ1.out, (hk3.cell (p := ⟨bs, 0, none⟩) hb).trans hc1, fun j hj => (hk3.cell (p := ⟨g, j, none⟩) (hg0 (by omega))).trans (HX.out j hj)⟩
        case measure => simp [intOf]; omega
      · gi_wp2
        refine bodyPost_ret (results_none rfl _ _ _) rfl ?_
        exact ⟨⟨_, rfl⟩, .inr ⟨i, hlt, hJx3, (hk3.block bc hbc).trans HJ1.out⟩⟩
    · gi_wp2
      go_end0
      obtain rfl : i = N := by omega
      exact ⟨⟨_, rfl⟩, .inl ⟨hJ, hCr⟩⟩
set_option maxRecDepth 100000 in
set_option maxHeartbeats 1000000 in
theorem iter10 (F : Fence) (n : Nat) (h10 : F.fn 10) (hro : F.round = none) (hn : 1 ≤ n) (bs bc n₀ N : Nat) (ss : Nat → ByteArray) (hN : N ≤ 2000) : IterC F n Ybad.prog 10 bs bc n₀ N ss := by
  intro l J Jx W hst hbc hne hC hgb hab hY h0
  refine callsIn_of_wp Ybad.func10 rfl h10 ?_ hro
  simp only [Ybad.ntmps10, List.size_toArray, List.length_cons, List.length_nil, Nat.reduceAdd, Nat.reduceSub, Array.replicate_succ, Array.replicate_zero, List.push_toArray, List.append_toArray, List.nil_append, List.cons_append]
  obtain ⟨g, cap, hb, hc, hg0, hx⟩ := hst
  have hgne := hgb g cap hc
  clear hgb
  gi_wp2
  gi_loopw [4] (fun p wr => ∃ i : Nat, i ≤ N ∧ p = .int .i64 i ∧ J i wr ∧ wr.heap[bc]? = some (.cells #[.int .i64 i] 3 (0, 0)) ∧ wr.cell? ⟨bs, 0, none⟩ = some (.slice (some ⟨g, 0, none⟩) N cap) ∧ ∀ i, i < N → wr.cell? ⟨g, i, none⟩ = some (.string (ss i)))
    (fun p _ => N - (intOf p).toNat)
  case atStart => exact ⟨0, Nat.zero_le _, rfl, h0, hC, hc, hx⟩
  case round =>
    obtain ⟨i, hi, rfl, hJ, hCr, hcr, hxr⟩ := hrel
    by_cases hlt : i < N
    · obtain ⟨W1, hW1⟩ : ∃ W1, wr.setCell ⟨bc, 0, none⟩ (.int .i64 ((i : Int) + 1)) = W1 := ⟨_, rfl⟩
      have hJ1 : J i W1 := by rw [← hW1]; exact hab i wr _ hJ
      have hC1 : W1.heap[bc]? = some (.cells #[.int .i64 ((i : Int) + 1)] 3 (0, 0)) := by rw [← hW1]; simp [World.setCell, Array.getElem?_modify, hCr]
      have hc1 : W1.cell? ⟨bs, 0, none⟩ = some (.slice (some ⟨g, 0, none⟩) N cap) := by rw [← hW1]; exact (World.cell?_setCell_other _ _ _ _ (fun e => hne (by cases e; rfl))).trans hcr
      have hx1 : ∀ j, j < N → W1.cell? ⟨g, j, none⟩ = some (.string (ss j)) := fun j hj => by rw [← hW1]; exact (World.cell?_setCell_other _ _ _ _ (fun e => hgne (by omega) (by cases e; rfl))).trans (hxr j hj)
      obtain ⟨hcc, hff⟩ : wr.cell? ⟨bc, 0, none⟩ = some (.int .i64 i) ∧ wr.frozen? ⟨bc, 0, none⟩ = false := by simp [World.cell?, World.frozen?, hCr]
      obtain ⟨fn, tmps, assign, body, hy, hR⟩ := hY i W1 hJ1 hlt
      have hxi := hx1 i hlt
      have hli : (i : Int) < (N : Int) := by omega
      have HJ1 : Hid (W1.heap[bc]? = some (.cells #[.int .i64 ((i : Int) + 1)] 3 (0, 0))) := hC1
      have HX : Hid (∀ j, j < N → W1.cell? ⟨g, j, none⟩ = some (.string (ss j))) := hx1
      have HA : Hid (∀ i W1 v, J i W1 → J i (W1.setCell ⟨bc, 0, none⟩ v)) := hab
      clear hx1 hxr hx hCr hC hJ1 hJ hC1 hY hab
      gi_wp2
      refine hR.mono ?_
      rintro e W3 (⟨rfl, hJ3, hk3⟩ | ⟨rfl, hJx3, hk3⟩)
      · gi_wp2
        go_roundw
        case rel => exact ⟨i + 1, by omega, by go_num, hJ3, (hk3.block bc hbc).trans HJ1.out, (hk3.cell (p := ⟨bs, 0, none⟩) hb).trans hc1, fun j hj => (hk3.cell (p := ⟨g, j, none⟩) (hg0 (by omega))).trans (HX.out j hj)⟩
        case measure => simp [intOf]; omega
      · gi_wp2
        refine bodyPost_ret (results_none rfl _ _ _) rfl ?_
        exact ⟨⟨_, rfl⟩, .inr ⟨i, hlt, hJx3, (hk3.block bc hbc).trans HJ1.out⟩⟩
    · gi_wp2
      go_end0
      obtain rfl : i = N := by omega
      exact ⟨⟨_, rfl⟩, .inl ⟨hJ, hCr⟩⟩
end Go.Proofs.YbulkbmraDoor
