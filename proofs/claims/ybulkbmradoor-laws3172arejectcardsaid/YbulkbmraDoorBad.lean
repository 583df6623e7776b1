import Derived.Test.YbulkbmraDoorSum
namespace Go.Proofs.YbulkbmraDoor
open Go.RowKit Go.Shelf
attribute [local go_sem] Oper.semAt_some

set_option maxRecDepth 100000 in
set_option maxHeartbeats 1000000 in
theorem sum_bad (bs bc be N kk : Nat) (ss : Nat → ByteArray) (vs : Nat → Int) (w : World) (hN : N ≤ 2000) (hst : StrsAt w bs w.heap.size N ss) (hC : w.heap[bc]? = some (.cells #[.int .i64 0] 3 (0, 0)))
    (hne : bs ≠ bc) (hgb : ∀ g cap, w.cell? ⟨bs, 0, none⟩ = some (.slice (some ⟨g, 0, none⟩) N cap) → 0 < N → g ≠ bc) (hglo : 2 < bc) (hk : kk < N)
    (hss : ∀ i, i < kk → (ss i).size ≤ 1000 ∧ Lib.atoiAll (ss i).data.toList = .ok (vs i)) (hbd : (ss kk).size ≤ 1000) (hba : ∀ v, Lib.atoiAll (ss kk).data.toList ≠ .ok v) (hbp : ∀ v, Lib.parseIntB 64 (ss kk).data.toList ≠ .ok v)
    (t1 t2 : TypeId) (p1 p2 : Value) (h1 : w.cell? ⟨1, 0, none⟩ = some (.iface t1 p1)) (h2 : w.cell? ⟨2, 0, none⟩ = some (.iface t2 p2)) :
    Calls Ybad.prog 8 #[.string ⟨#[107]⟩, .func (.func 10) #[] #[.pointer (some ⟨bs, 0, none⟩), .pointer (some ⟨bc, 0, none⟩)], .func (.func 11) #[] #[.pointer (some ⟨be, 0, none⟩)]] w fun e W' =>
      (∃ N', e = .returned (.iface 53 (.pointer (some ⟨N', 0, none⟩)))) ∧ W'.heap[bc]? = some (.cells #[.int .i64 ((kk : Int) + 1)] 3 (0, 0)) ∧ Two w.heap.size bc bc w W' := by
  have hbc : bc < w.heap.size := (Array.getElem?_eq_some_iff.1 hC).1
  refine (callsIn_wide (n := 3)).1 ?_
  refine callsIn_of_wp_marks Ybad.func8 rfl trivial ?_ rfl
  simp only [Ybad.ntmps8, List.size_toArray, List.length_cons, List.length_nil, Nat.reduceAdd, Nat.reduceSub, Array.replicate_succ, Array.replicate_zero, List.push_toArray, List.append_toArray, List.nil_append, List.cons_append]
  gi_wp2
  obtain ⟨w2, hw2⟩ : ∃ w2, (w.alloc (.cells #[.nilIface] 31)).alloc (.cells #[.int .i64 0] 2) = w2 := ⟨_, rfl⟩
  have hs2 : w2.heap.size = w.heap.size + 2 := by rw [← hw2]; simp
  have hb2 : Below w.heap.size w w2 := by rw [← hw2]; exact ((Below.refl _ w).alloc (Nat.le_refl _) _).alloc (by simp) _
  have hr2 : w2.heap[w.heap.size]? = some (.cells #[.nilIface] 31 (0, 0)) := by
    rw [← hw2, heap_alloc_old _ _ (by simp)]; exact heap_alloc_new w _
  have hm2 : w2.heap[w.heap.size + 1]? = some (.cells #[.int .i64 (S vs 0)] 2 (0, 0)) := by
    rw [← hw2]; have h := heap_alloc_new (w.alloc (.cells #[.nilIface] 31)) (.cells #[.int .i64 0] 2); rw [World.size_alloc] at h; exact h
  rw [hw2]
  have hst2 : StrsAt w2 bs w.heap.size N ss := by
    obtain ⟨g, cap, h1, h2, h3, h4⟩ := hst
    exact ⟨g, cap, h1, (hb2.cell (p := ⟨bs, 0, none⟩) h1).trans h2, h3, fun i hi => (hb2.cell (p := ⟨g, i, none⟩) (h3 (by omega))).trans (h4 i hi)⟩
  have hbs : bs < w.heap.size := by obtain ⟨_, _, h1, _⟩ := hst; exact h1
  refine range_cnt (F := Fence.wide) (n := 3) rfl (by omega) (gf := 10) (bs := bs) (bc := bc) (n₀ := w.heap.size) (N := N) (ss := ss) rfl trivial (enters_of Ybad.func10 (by kernel_rfl) rfl)
    (iter10 Fence.wide _ trivial rfl (by omega) bs bc w.heap.size N ss hN) (by omega) hst2 hbc hne ((hb2.block bc hbc).trans hC) (fun g cap h => hgb g cap ((hb2.cell (p := ⟨bs, 0, none⟩) hbs).symm.trans h)) rfl
    (fun i W => i ≤ kk ∧ W.heap[w.heap.size + 1]? = some (.cells #[.int .i64 (S vs i)] 2 (0, 0)) ∧ W.heap[w.heap.size]? = some (.cells #[.nilIface] 31 (0, 0)) ∧ Two w.heap.size bc bc w W)
    (fun j W => j = kk + 1 ∧ (∃ N', W.heap[w.heap.size]? = some (.cells #[.iface 53 (.pointer (some ⟨N', 0, none⟩))] 31 (0, 0))) ∧ Two w.heap.size bc bc w W)
    (fun i A B row hs hg hr => ⟨hs.1, (hg.block _ (Array.getElem?_eq_some_iff.1 hs.2.1).1 (fun e => by have := (hr _ e.symm).1; omega)).trans hs.2.1, (hg.block _ (Array.getElem?_eq_some_iff.1 hs.2.2.1).1 (fun e => by have := (hr _ e.symm).1; omega)).trans hs.2.2.1,
      hs.2.2.2.grown hg (by have := hs.2.2.2.size; omega) (fun r e => .inl (by have := (hr r e).1; omega))⟩)
    (fun i A B row hs hg hr => by
      obtain ⟨hj, ⟨N', hN'⟩, hT⟩ := hs
      exact ⟨hj, ⟨N', (hg.block _ (Array.getElem?_eq_some_iff.1 hN').1 (fun e => by have := (hr _ e.symm).1; omega)).trans hN'⟩, hT.grown hg (by have := hT.size; omega) (fun r e => .inl (by have := (hr r e).1; omega))⟩)
    (fun i W v hs => ⟨hs.1, (Below.heap_setCell W _ v _ (by show _ ≠ bc; omega)).trans hs.2.1, (Below.heap_setCell W _ v _ (by show _ ≠ bc; omega)).trans hs.2.2.1, hs.2.2.2.set (.inr (.inl rfl)) v⟩)
    ⟨Nat.zero_le _, hm2, hr2, (Two.refl _ _ _ _).below hb2 (Nat.le_refl _)⟩
    (fun x => { tmps := #[.string ⟨#[107]⟩, .func (.func 10) #[] #[.pointer (some ⟨bs, 0, none⟩), .pointer (some ⟨bc, 0, none⟩)], .func (.func 11) #[] #[.pointer (some ⟨be, 0, none⟩)], undef, undef, undef, .pointer (some ⟨w.heap.size, 0, none⟩), .pointer (some ⟨w.heap.size + 1, 0, none⟩), .string x, undef, undef,
      .func (.func 10) #[] #[.pointer (some ⟨bs, 0, none⟩), .pointer (some ⟨bc, 0, none⟩)], .string x, undef, undef, undef, undef, undef, undef, undef, undef, undef, undef, undef, undef, undef, undef, undef], defers := [] }) ?assign ?body ?done ?stop
  case assign =>
    intro l x W K hK
    gi_wp2
    exact hK
  case done => rintro D W ⟨h, _⟩; omega
  case body =>
    rintro l i W ⟨hik, hm, hr, hT⟩ hi hsz
    obtain ⟨hmc, hmf⟩ := cell_one hm
    obtain ⟨hrc, hrf⟩ := cell_one hr
    have hml : w.heap.size + 1 < W.heap.size := (Array.getElem?_eq_some_iff.1 hm).1
    by_cases hlt : i < kk
    · obtain ⟨hsl, hat⟩ := hss i hlt
      have HC := hide (count_ok (ss i) hsl (vs i) hat W)
      gi_wp2_with (refine ⟨trivial, ?_⟩; gi_at_call 12; refine (CallsIn.inRound l (callsIn_wide.2 (Hid.out HC))).mono ?_; rintro e w' ⟨rfl, hb⟩; have hm' := (hb.block _ hml).trans hm; obtain ⟨hmc', hmf'⟩ := cell_one hm')
      refine ⟨(KeepsFrom.of_grownBy (row := none) ⟨hb.os, hb.tape, hb.output, hb.size, fun k hk _ => hb.block k hk⟩ (fun j e => by cases e)).trans ((KeepsOthers.setCell _ _ _).from _), (hb.mono (by omega)).setCell (p := ⟨w.heap.size + 1, 0, none⟩) (by show _ ≤ w.heap.size + 1; omega) _, by omega, set_one hm', ?_, ?_⟩
      · exact (Below.heap_setCell _ _ _ _ (by show w.heap.size ≠ w.heap.size + 1; omega)).trans ((hb.block _ (by omega)).trans hr)
      · exact (hT.below hb (by omega)).set (.inl (by show _ ≤ w.heap.size + 1; omega)) _
    · obtain rfl : i = kk := by omega
      have e1 : W.cell? ⟨1, 0, none⟩ = some (.iface t1 p1) := (World.cell?_of_block (a := ⟨1, 0, none⟩) (hT.block 1 (by omega) (by omega) (by omega))).trans h1
      have e2 : W.cell? ⟨2, 0, none⟩ = some (.iface t2 p2) := (World.cell?_of_block (a := ⟨2, 0, none⟩) (hT.block 2 (by omega) (by omega) (by omega))).trans h2
      have HC := hide (count_bad (ss i) hbd hba hbp t1 t2 p1 p2 W e1 e2)
      clear h1 h2 e1 e2
      gi_wp2_with (refine ⟨trivial, ?_⟩; gi_at_call 12; refine (CallsIn.inRound l (callsIn_wide.2 (Hid.out HC))).mono ?_; rintro e w' ⟨v, N', rfl, hb⟩; have hr' := (hb.block w.heap.size (by omega)).trans hr; obtain ⟨hrc', hrf'⟩ := cell_one hr')
      exact ⟨(KeepsFrom.of_grownBy (row := none) ⟨hb.os, hb.tape, hb.output, hb.size, fun k hk _ => hb.block k hk⟩ (fun j e => by cases e)).trans ((KeepsOthers.setCell _ _ _).from _), (hb.mono (B' := w.heap.size) (by omega)).setCell (p := ⟨w.heap.size, 0, none⟩) (Nat.le_refl _) _, rfl, ⟨N', set_one hr'⟩,
        (hT.below hb (by omega)).set (.inl (Nat.le_refl _)) _⟩
  case stop =>
    rintro D i W hi ⟨hj, ⟨N', hr⟩, hT⟩ hCN hD hK
    obtain rfl : i = kk := by omega
    gi_wp2
    refine ⟨by simp, .inl ⟨_, _, rfl, run_takeDeferred hK, ?_⟩⟩
    have key : ∀ b, b ≠ D → (W.putObj D (.deferred none)).heap[b]? = W.heap[b]? := fun b hb => World.putObj_heap_other hb
    have hc5 := (cell_one (t := 31) ((key w.heap.size (by omega)).trans hr)).1
    refine ⟨.iface 53 (.pointer (some ⟨N', 0, none⟩)), ?_, ⟨N', rfl⟩, (key bc (by omega)).trans hCN, ⟨hT.os, hT.tape, hT.output, by simpa using hT.size, fun k hk h1 h2 => (key k (by omega)).trans (hT.block k hk h1 h2)⟩⟩
    simp [results, Ybad.f8, go_sem, hc5]

/-- The eight malformed values. -/
def badS : Nat → ByteArray
  | 0 => ⟨#[]⟩
  | 1 => ⟨#[120]⟩
  | 2 => ⟨#[49, 97]⟩
  | 3 => ⟨#[45, 45, 49]⟩
  | 4 => ⟨#[57, 57, 57, 57, 57, 57, 57, 57, 57, 57, 57, 57, 57, 57, 57, 57, 57, 57, 57, 57]⟩
  | 5 => ⟨#[32, 49]⟩
  | 6 => ⟨#[49, 95, 48, 48, 48]⟩
  | _ => ⟨#[48, 120, 49, 48]⟩
def isOk : Lib.NumEnd Int → Bool
  | .ok _ => true
  | _ => false
theorem bad_facts : ∀ m : Fin 8, (badS m.val).size ≤ 1000 ∧ isOk (Lib.atoiAll (badS m.val).data.toList) = false ∧ isOk (Lib.parseIntB 64 (badS m.val).data.toList) = false := by decide +kernel
theorem not_ok {r : Lib.NumEnd Int} (h : isOk r = false) : ∀ v, r ≠ .ok v := fun v e => by rw [e] at h; cases h
set_option maxHeartbeats 1000000 in
theorem bad_any (m : Nat) (hm : m < 8) (w : World) : Calls Ybad.prog 9 #[.int .i64 (m : Int)] w fun e w' => e = .returned (.string (badS m)) ∧ w' = w := by
  have h : m = 0 ∨ m = 1 ∨ m = 2 ∨ m = 3 ∨ m = 4 ∨ m = 5 ∨ m = 6 ∨ m = 7 := by omega
  rcases h with rfl | rfl | rfl | rfl | rfl | rfl | rfl | rfl
  all_goals
    go_enter Ybad.func9, Ybad.ntmps9
    go_wp2
    go_ret
    exact ⟨rfl, rfl⟩
end Go.Proofs.YbulkbmraDoor
