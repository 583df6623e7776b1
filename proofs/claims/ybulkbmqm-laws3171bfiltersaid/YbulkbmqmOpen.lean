import Derived.Test.YbulkbmqmRows
import Derived.Test.YbulkbmqmBase
import Derived.ProofKit
import Derived.Deep.Slices
import Derived.SizedLaws
namespace Go.Proofs.Ybulkbmqm
open Go.ChangeShapes Go.WideShapes Go.ChangeAt Go.RowKit
theorem weightsAll_mem {H : Type} {P : Program} {e : TypeId} : ∀ {ds : List (DataW H)} {j : Nat} {d : DataW H}, ds[j]? = some d → ∀ n ∈ d.weights P e, n ∈ DataW.weightsAll P e ds
  | [], j, d, hd, _, _ => by simp at hd
  | d0 :: ds, 0, d, hd, n, hn => by
    simp only [List.getElem?_cons_zero, Option.some.injEq] at hd
    subst hd
    simp only [DataW.weightsAll, List.mem_append]
    exact Or.inl hn
  | d0 :: ds, j + 1, d, hd, n, hn => by
    simp only [List.getElem?_cons_succ] at hd
    simp only [DataW.weightsAll, List.mem_append]
    exact Or.inr (weightsAll_mem hd n hn)
theorem cells46 : Yba.prog.cellsOf 46 = 4 := by kernel_rfl
theorem cells5 : Yba.prog.cellsOf 5 = 1 := by kernel_rfl
theorem cells40 : Yba.prog.cellsOf 40 = 1 := by kernel_rfl
theorem cells25 : Yba.prog.cellsOf 25 = 1 := by kernel_rfl
theorem cells4 : Yba.prog.cellsOf 4 = 1 := by kernel_rfl
theorem bytes5 : Yba.prog.bytesOf 5 = 1 := by kernel_rfl

theorem open_ent {H : Type} {enc : TypeId × Value → H} {W : World} {n : Nat} {a : Addr} {cs : List Value} {d : DataW H} {ps : List MemPlace}
    (h1 : W.cells? 0 a 4 = some cs) (h2 : DataW.trod enc Yba.prog W 0 (fun _ => true) true n 46 cs = some (d, ps)) (hz : ∀ m ∈ d.weights Yba.prog 46, m ≤ reachBytes) :
    ∃ (e : Ent) (b o : Nat), a = ⟨b, o, none⟩ ∧ EntAt W b o e := by
  obtain ⟨_, hlen, hcell⟩ := World.cells?_some h1
  obtain ⟨xs, k, hk, hxy, _, hxl, hf⟩ := DataW.trod_struct Yba.underlying46 h2
  match xs, hxl, cs, hlen with
  | [y0, y1, y2, y3], _, [v0, v1, v2, v3], _ =>
    have g0 := hf 0 _ rfl
    have g1 := hf 1 _ rfl
    have g2 := hf 2 _ rfl
    have g3 := hf 3 _ rfl
    simp [cells5, cells40, cells25, cells4] at g0 g1 g2 g3
    obtain ⟨c, hc0, hc1, hc2⟩ := DataW.trod_int Yba.underlying5 g0
    obtain ⟨t, ht0, ht1, ht2⟩ := DataW.trod_int Yba.underlying40 g1
    obtain ⟨kp, hk0, hk1⟩ := DataW.trod_bool Yba.underlying4 g3
    simp only [List.cons.injEq, and_true] at hc0 ht0 hk0
    subst hc0 ht0 hk0
    have e0 := hcell 0 (by omega)
    have e1 := hcell 1 (by omega)
    have e2 := hcell 2 (by omega)
    have e3 := hcell 3 (by omega)
    simp only [List.getElem?_cons_zero, List.getElem?_cons_succ] at e0 e1 e2 e3
    obtain ⟨b, o, s⟩ := a
    obtain rfl : s = none := by simpa [Addr.add] using World.cell?_spot e0
    rw [add_plain] at e0 e1 e2 e3
    have ht : 0 ≤ t := by
      have h1 : IntKind.u16.min = 0 := rfl
      simp only [Lit.wf, Bool.and_eq_true, decide_eq_true_eq] at ht2
      omega
    simp only [Prod.mk.injEq] at hxy
    obtain ⟨rfl, _⟩ := hxy
    rcases open_ints Yba.underlying25 Yba.underlying5 cells5 g2 with ⟨hcs, hx⟩ | ⟨a', len, cap, zs, hcs, _, hl, hm, hzl, hx, hcell', hwz⟩
    · simp only [List.cons.injEq, and_true] at hcs
      subst hcs
      exact ⟨⟨c, t, none, 0, 0, [], kp⟩, b, o, rfl, e0, e1, e2, e3, rfl, Nat.zero_le _, Lib.BytesIn.nil _ _ _, ht⟩
    · simp only [List.cons.injEq, and_true] at hcs
      subst hcs
      simp only [if_true] at hzl
      have hw : (len + (cap - len)) ≤ reachBytes := by
        have := hz ((len + (cap - len)) * Yba.prog.bytesOf 5) ?_
        · rw [bytes5] at this; omega
        · simp only [DataW.weights, Yba.underlying46]
          refine DataW.weights_mem_each (j := 2) (t := 25) (d := y2.1) rfl rfl _ ?_
          rw [hx]
          simp [DataW.weights, Yba.underlying25, lits, hzl, Nat.min_eq_left hl]
      have hr : reachBytes < 2 ^ 47 := reachBytes_lt
      refine ⟨⟨c, t, some a', len, cap, zs.take len, kp⟩, b, o, rfl, e0, e1, e2, e3, by simp; omega, by show len ≤ _; omega, ?_, ht⟩
      exact Lib.BytesIn.of_cells (fun i hi => by have hi' : i < len := hi; rw [hcell' i (by omega)]; simp [List.getD, hi'])

theorem open_in {H : Type} {enc : TypeId × Value → H} {W : World} {p : Option Addr} {len cap : Nat} {d : DataW H} {ps : List MemPlace}
    (h : DataW.Trod enc Yba.prog W 0 (fun _ => true) true 37 (.slice p len cap) d ps) (hz : ∀ m ∈ d.weights Yba.prog 37, m ≤ reachBytes) :
    ∃ es : List Ent, es.length = len ∧ InAt W p es := by
  obtain ⟨fuel, hf⟩ := h
  rcases Deep.open_slice Yba.underlying37 hf with ⟨hcs, _⟩ | ⟨a, len', cap', m, n, D, Pl, hcs, hb, hl, hm, hmm, hx, hel⟩
  · simp [Value.cells] at hcs
    obtain ⟨rfl, rfl, rfl⟩ := hcs
    exact ⟨[], rfl, fun k e he => by simp at he⟩
  · simp [Value.cells] at hcs
    obtain ⟨rfl, rfl, rfl⟩ := hcs
    simp only [if_true] at hmm
    subst hmm
    simp only [Prod.mk.injEq] at hx
    obtain ⟨rfl, _⟩ := hx
    have each0 : ∀ i, i < len → ∃ (e : Ent) (b o : Nat), a.add (i * 4) = ⟨b, o, none⟩ ∧ EntAt W b o e := by
      intro i hi
      obtain ⟨cs', h1, h2⟩ := hel i (by omega)
      rw [cells46] at h1
      exact open_ent h1 h2 (fun m hm => hz m (by
        simp only [DataW.weights, Yba.underlying37, List.mem_cons, List.mem_append]
        exact Or.inr (Or.inl (weightsAll_mem (j := i) (by simp [hi]) m hm))))
    have each : ∀ i, i < len → ∃ e : Ent, ∃ b o, a = ⟨b, o, none⟩ ∧ EntAt W b (o + i * 4) e := by
      intro i hi
      obtain ⟨e0, b0, o0, ha0, _⟩ := each0 0 (by omega)
      have ha0' : a = ⟨b0, o0, none⟩ := by simpa [Addr.add] using ha0
      obtain ⟨e, b, o, ha, he⟩ := each0 i hi
      rw [ha0', add_plain] at ha
      cases ha
      exact ⟨e, _, _, ha0', he⟩
    obtain ⟨f, hf⟩ := @Deep.choose_lt Ent ⟨⟨0, 0, .none, 0, 0, [], false⟩⟩ _ _ each
    refine ⟨(List.range len).map f, by simp, fun k e he => ?_⟩
    simp only [List.getElem?_map] at he
    by_cases hk : k < len
    · rw [List.getElem?_range hk] at he
      simp only [Option.map_some, Option.some.injEq] at he
      subst he
      obtain ⟨b, o, rfl, hx⟩ := hf k hk
      exact ⟨b, o, rfl, hx⟩
    · rw [List.getElem?_eq_none (by simp; omega)] at he
      cases he
end Go.Proofs.Ybulkbmqm
