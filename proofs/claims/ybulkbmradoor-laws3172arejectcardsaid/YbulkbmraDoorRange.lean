import Derived.RangeFuncNested
import Derived.RangeFuncBound
import Derived.RangeFuncCalls
import Derived.RangeFuncLeaves
import Derived.RangeFuncWrites
import Derived.Below
namespace Go.Proofs.YbulkbmraDoor
open Go.RowKit

/-- The strings that an iterator goes through: the slice in the box bs, its strings, all below block n₀. -/
def StrsAt (w : World) (bs n₀ N : Nat) (ss : Nat → ByteArray) : Prop :=
  ∃ g cap, bs < n₀ ∧ w.cell? ⟨bs, 0, none⟩ = some (.slice (some ⟨g, 0, none⟩) N cap) ∧ (0 < N → g < n₀) ∧ ∀ i, i < N → w.cell? ⟨g, i, none⟩ = some (.string (ss i))

/-- **THE ITERATOR's WORD**: it calls yield with the strings one after another, counts the calls in the cell bc ahead of each, and ends when all have come or a round said no more. -/
def IterC (F : Fence) (n : Nat) (P : Program) (gf bs bc n₀ N : Nat) (ss : Nat → ByteArray) : Prop :=
  ∀ (l : Nat) (J Jx : Nat → World → Prop) (W : World), StrsAt W bs n₀ N ss → bc < n₀ → bs ≠ bc → W.heap[bc]? = some (.cells #[.int .i64 0] 3 (0, 0)) → (∀ g cap, W.cell? ⟨bs, 0, none⟩ = some (.slice (some ⟨g, 0, none⟩) N cap) → 0 < N → g ≠ bc) →
    (∀ i W1 v, J i W1 → J i (W1.setCell ⟨bc, 0, none⟩ v)) →
    (∀ i W1, J i W1 → i < N → YieldAt F (n - 1) P l #[.string (ss i)] W1 fun e W' => (e = .returned (.bool true) ∧ J (i + 1) W' ∧ Below n₀ W1 W') ∨ (e = .returned (.bool false) ∧ Jx (i + 1) W' ∧ Below n₀ W1 W')) →
    J 0 W →
    CallsIn F n P gf #[.func (.yield l) #[] #[], .pointer (some ⟨bs, 0, none⟩), .pointer (some ⟨bc, 0, none⟩)] W fun e W' => (∃ v, e = .returned v) ∧
      ((J N W' ∧ W'.heap[bc]? = some (.cells #[.int .i64 N] 3 (0, 0))) ∨ (∃ i : Nat, i < N ∧ Jx (i + 1) W' ∧ W'.heap[bc]? = some (.cells #[.int .i64 ((i : Int) + 1)] 3 (0, 0))))

/-- How the body of a round may be left here: off its end, or by return. -/
def bodyPostC (B n₀ : Nat) (I Ix : Nat → World → Prop) (i : Nat) (W : World) : Exit → Act → World → Prop
  | .normal, _, W' => KeepsFrom B W W' ∧ Below n₀ W W' ∧ I (i + 1) W'
  | .ret, _, W' => KeepsFrom B W W' ∧ Below n₀ W W' ∧ Ix (i + 1) W'
  | _, _, _ => False

theorem below_putObj {n₀ : Nat} (W : World) (l : Nat) (o : Obj) (hl : n₀ ≤ l) : Below n₀ W (W.putObj l o) :=
  ⟨rfl, rfl, rfl, by simp, fun k hk => World.putObj_heap_other (by omega)⟩

theorem range_cnt {F : Fence} {n : Nat} {P : Program} {g : Operand} {ps : Array Tmp} {assign body : Code} {Q : Exit → Act → World → Prop} {a : Act} {w : World}
    (hro : F.round = none) (h1 : 1 ≤ n) {gf bs bc n₀ N : Nat} {ss : Nat → ByteArray} (hg : a.eval g = .func (.func gf) #[] #[.pointer (some ⟨bs, 0, none⟩), .pointer (some ⟨bc, 0, none⟩)])
    (hFg : F.fn gf) (eg : ∀ args w, (callFunc gf args).run P w = .ok (.enter gf args) w) (hit : IterC F (n - 1) P gf bs bc n₀ N ss)
    (hn0 : n₀ ≤ w.heap.size) (hst : StrsAt w bs n₀ N ss) (hbc : bc < n₀) (hne : bs ≠ bc) (hC : w.heap[bc]? = some (.cells #[.int .i64 0] 3 (0, 0)))
    (hgb : ∀ g cap, w.cell? ⟨bs, 0, none⟩ = some (.slice (some ⟨g, 0, none⟩) N cap) → 0 < N → g ≠ bc) (hps : ps.size = 1)
    (I Ix : Nat → World → Prop) (hI : OwnFrom w.heap.size I) (hIx : OwnFrom w.heap.size Ix) (hIc : ∀ i W v, I i W → I i (W.setCell ⟨bc, 0, none⟩ v)) (h0 : I 0 w) (a₁ : ByteArray → Act)
    (hassign : ∀ (l : Nat) (x : ByteArray) (W : World) (K : Act → World → Prop), K (a₁ x) W →
      assign.wpIn (F.inRound l) (n - 1 - 1) P (Exit.then K (fun _ _ _ => False)) { tmps := (ps.zip #[.string x]).foldl (fun t (p, v) => t.setIfInBounds p v) a.tmps, defers := [] } W)
    (hbody : ∀ (l i : Nat) (W : World), I i W → i < N → w.heap.size ≤ W.heap.size → body.wpIn (F.inRound l) (n - 1 - 1) P (bodyPostC w.heap.size n₀ I Ix i W) (a₁ (ss i)) W)
    (hdone : ∀ (D : Nat) (W : World), I N W → W.heap[bc]? = some (.cells #[.int .i64 N] 3 (0, 0)) → w.heap.size ≤ D → W.heap[D]? = some (.deferred (some [])) → Q .normal { a with defers := { target := .collected D, args := #[] } :: a.defers } W)
    (hstop : ∀ (D i : Nat) (W : World), i < N → Ix (i + 1) W → W.heap[bc]? = some (.cells #[.int .i64 ((i : Int) + 1)] 3 (0, 0)) → w.heap.size ≤ D → W.heap[D]? = some (.deferred (some [])) → Code.ret.wpIn F n P Q { a with defers := { target := .collected D, args := #[] } :: a.defers } W) :
    (Code.rangeFunc g ps assign body).wpIn F n P Q a w := by
  refine wpIn_rangeFunc fun fn hfn => ?_
  rw [hro]
  -- the record, as a function of its state and of the jump that is pending
  obtain ⟨rc, hrc⟩ : ∃ rc : LoopState → Option Code → Loop, rc = fun st pe => { state := st, pending := pe, fn, tmps := a.tmps, params := ps, assign, body, defers := w.heap.size } := ⟨_, rfl⟩
  obtain ⟨V, hV⟩ : ∃ V, (w.alloc (.deferred (some []))).alloc (.loop (rc .ready none)) = V := ⟨_, rfl⟩
  have hbV : Below w.heap.size w V := by rw [← hV]; exact ((Below.refl _ w).alloc (Nat.le_refl _) _).alloc (by simp) _
  have hrV : V.heap[w.heap.size + 1]? = some (.loop (rc .ready none)) := by
    rw [← hV]; have h := World.alloc_heap_new (w.alloc (.deferred (some []))) (.loop (rc .ready none)); rwa [World.size_alloc] at h
  have hdV : V.heap[w.heap.size]? = some (.deferred (some [])) := by
    rw [← hV]; exact (Below.heap_alloc _ _ _ (by simp)).trans (World.alloc_heap_new w _)
  have hIV : I 0 V := by rw [← hV]; exact hI.alloc _ (hI.alloc _ h0)
  have hbcw : bc < w.heap.size := by omega
  have hsV : StrsAt V bs n₀ N ss := by
    obtain ⟨gg, cap, hb, hc, hg0, hx⟩ := hst
    exact ⟨gg, cap, hb, (hbV.cell (p := ⟨bs, 0, none⟩) (by show bs < _; omega)).trans hc, hg0, fun i hi => (hbV.cell (p := ⟨gg, i, none⟩) (by show gg < _; have := hg0 (by omega); omega)).trans (hx i hi)⟩
  refine ⟨w.heap.size + 1, [{ target := .collected w.heap.size, args := #[] }], V, { target := .fn (.func gf) #[.pointer (some ⟨bs, 0, none⟩), .pointer (some ⟨bc, 0, none⟩)], args := #[.func (.yield (w.heap.size + 1)) #[] #[]] }, V, gf,
    #[.func (.yield (w.heap.size + 1)) #[] #[]] ++ #[.pointer (some ⟨bs, 0, none⟩), .pointer (some ⟨bc, 0, none⟩)], V, ?_, ?_, ?_, ?_, fun _ => h1, ?_⟩
  · rw [← hV, hrc]; exact run_enterLoop_outer _ _ _ _ _
  · simp only [resolve, hg]; simp [go_sem]
  · intro f' hf'; simp [Target.leads] at hf'; subst hf'; exact hFg
  · simp [invoke, go_sem, eg]
  have hcall := hit (w.heap.size + 1)
    (fun i W => I i W ∧ w.heap.size ≤ W.heap.size ∧ W.heap[w.heap.size + 1]? = some (.loop (rc .ready none)) ∧ W.heap[w.heap.size]? = some (.deferred (some [])))
    (fun i W => Ix i W ∧ W.heap[w.heap.size + 1]? = some (.loop (rc .done (some .ret))) ∧ W.heap[w.heap.size]? = some (.deferred (some [])))
    V hsV hbc hne ((hbV.block bc hbcw).trans hC) (fun g' c' hc' hN => hgb g' c' ((hbV.cell (p := ⟨bs, 0, none⟩) (by obtain ⟨_, _, hb, _⟩ := hst; show bs < _; omega)).symm.trans hc') hN)
    (fun i W v ⟨hi, hs, hl, hd⟩ => ⟨hIc i W v hi, by simpa [World.setCell] using hs, (Below.heap_setCell W ⟨bc, 0, none⟩ v _ (by show w.heap.size + 1 ≠ bc; omega)).trans hl, (Below.heap_setCell W ⟨bc, 0, none⟩ v _ (by show w.heap.size ≠ bc; omega)).trans hd⟩)
    ?_ ⟨hIV, hbV.size, hrV, hdV⟩
  · -- behind the iterator
    refine hcall.mono ?_
    rintro e W2 ⟨⟨v, rfl⟩, (⟨⟨hi, hs, hl, hd⟩, hc⟩ | ⟨i, hiN, ⟨hi, hl, hd⟩, hc⟩)⟩
    · have hend := run_endLoop (P := P) hl (by rw [hrc]; simp)
      refine ⟨none, _, by rw [hrc] at hend; exact hend, hdone _ _ (hI.putObj _ hi (Nat.le_succ _) hl rfl) ((World.putObj_heap_other (by omega)).trans hc) (Nat.le_refl _) ((World.putObj_heap_other (by omega)).trans hd)⟩
    · have hend := run_endLoop (P := P) hl (by rw [hrc]; simp)
      refine ⟨some .ret, _, by rw [hrc] at hend; exact hend, hstop _ i _ hiN (hIx.putObj _ hi (Nat.le_succ _) hl rfl) ((World.putObj_heap_other (by omega)).trans hc) (Nat.le_refl _) ((World.putObj_heap_other (by omega)).trans hd)⟩
  · -- one round
    rintro i W ⟨hi, hs, hl, hd⟩ hiN
    have hlt : w.heap.size + 1 < W.heap.size := (Array.getElem?_eq_some_iff.1 hl).1
    have hy := run_yield (P := P) (args := #[.string (ss i)]) hl (by rw [hrc]; exact hps.symm)
    rw [hrc] at hy
    refine ⟨fn, _, assign, body, hy, roundIn_of_wpIn hfn (hassign _ (ss i) W _ ⟨_, run_beginRound hl (by rw [hrc]), ?_⟩)⟩
    obtain ⟨X, hX⟩ : ∃ X, W.putObj (w.heap.size + 1) (.loop { rc .ready none with state := .busy }) = X := ⟨_, rfl⟩
    rw [hX]
    have hlX : X.heap[w.heap.size + 1]? = some (.loop { rc .ready none with state := .busy }) := by rw [← hX]; exact World.putObj_heap_same hlt
    have hdX : X.heap[w.heap.size]? = some (.deferred (some [])) := by rw [← hX]; exact (World.putObj_heap_other (by omega)).trans hd
    have hbX : Below n₀ W X := by rw [← hX]; exact below_putObj _ _ _ (by omega)
    have hIX : I i X := by rw [← hX]; exact hI.putObj _ hi (Nat.le_succ _) hl rfl
    have hsX : w.heap.size ≤ X.heap.size := by rw [← hX]; simpa using hs
    have fin : ∀ (jump : Option Code) (Y : World), KeepsFrom w.heap.size X Y → (Instr.endRound (w.heap.size + 1) jump).run P Y = .ok (.bool jump.isNone) (Y.putObj (w.heap.size + 1) (.loop (rc (if jump.isNone then .ready else .done) jump))) ∧
        Y.heap[w.heap.size + 1]? = some (.loop { rc .ready none with state := .busy }) ∧ Y.heap[w.heap.size]? = some (.deferred (some [])) := fun jump Y hk => by
      have hlY := hk.same _ _ (Nat.le_succ _) hlX rfl
      have hr := run_endRound (P := P) jump hlY
      rw [hrc] at hr hlY ⊢
      exact ⟨hr, hlY, hk.same _ _ (Nat.le_refl _) hdX rfl⟩
    refine wpIn_mono (hbody _ i X hIX hiN hsX) ?_
    rintro e a3 Y hp
    cases e with
    | normal =>
      obtain ⟨hk, hb, hi3⟩ := hp
      obtain ⟨hr, hlY, hdY⟩ := fin none Y hk
      have hltY := (Array.getElem?_eq_some_iff.1 hlY).1
      exact ⟨_, _, hr, .inl ⟨rfl, ⟨hI.putObj _ hi3 (Nat.le_succ _) hlY rfl, by simp; exact Nat.le_trans hsX hk.size, World.putObj_heap_same hltY, (World.putObj_heap_other (by omega)).trans hdY⟩, (hbX.trans hb).trans (below_putObj _ _ _ (by omega))⟩⟩
    | ret =>
      obtain ⟨hk, hb, hi3⟩ := hp
      obtain ⟨hr, hlY, hdY⟩ := fin (some .ret) Y hk
      have hltY := (Array.getElem?_eq_some_iff.1 hlY).1
      exact ⟨_, _, hr, .inr ⟨rfl, ⟨hIx.putObj _ hi3 (Nat.le_succ _) hlY rfl, World.putObj_heap_same hltY, (World.putObj_heap_other (by omega)).trans hdY⟩, (hbX.trans hb).trans (below_putObj _ _ _ (by omega))⟩⟩
    | exit id => exact hp.elim
    | goto t => exact hp.elim
    | panic ch => exact hp.elim
    | outgrown => exact hp.elim
end Go.Proofs.YbulkbmraDoor
