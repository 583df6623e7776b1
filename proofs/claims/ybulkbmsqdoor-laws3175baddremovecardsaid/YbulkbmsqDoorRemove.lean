import Derived.Test.YbulkbmsqDoorCountsWalk
namespace Go.Proofs.YbulkbmsqDoor
open Go.RowKit Go.ChangeMaps

/-- The row written, and taken away where nothing is left. -/
theorem MapIs.down {Z : Addr} {N : Nat → Nat} {m c : Nat} {w : World} (h : MapIs Z N m w) (hc : c < 48) {K : Value} (hK : K = KV Z c) (v : Nat) :
    ∃ (o1 o2 o3 o4 : Obj) (born : Nat), w.heap[m]? = some o1 ∧
      (∀ W : World, W.heap[m]? = some o1 → (Instr.lookup 23 (.map (some m)) K false).run Ybad.prog W = .ok (.int .i64 (N c : Int)) W) ∧
      (∀ W : World, W.heap[m]? = some o1 → (Instr.mapEntry 23 (.map (some m)) K).run Ybad.prog W = .ok (.tuple #[.int .i64 (N c : Int), .int .i64 (born : Nat)]) (setBlock W m o2)) ∧
      (∀ W : World, W.heap[m]? = some o2 → (Instr.lookup 23 (.map (some m)) K false).run Ybad.prog W = .ok (.int .i64 (N c : Int)) W) ∧
      (∀ W : World, W.heap[m]? = some o2 → (Instr.entryStore 23 (.map (some m)) (.int .i64 (born : Nat)) (.int .i64 (v : Int))).run Ybad.prog W = .ok () (setBlock W m o3)) ∧
      (∀ W : World, W.heap[m]? = some o3 → (Instr.lookup 23 (.map (some m)) K false).run Ybad.prog W = .ok (.int .i64 (v : Int)) W) ∧
      (0 < v → ∀ W : World, W.heap[m]? = some o3 → MapIs Z (fun d => if d = c then v else N d) m W) ∧
      (v = 0 → ∀ W : World, W.heap[m]? = some o3 → (Builtin.delete_ #[23, 36] 0 #[.map (some m), K]).run Ybad.prog W = .ok (.tuple #[]) (setBlock W m o4)) ∧
      (v = 0 → ∀ W : World, W.heap[m]? = some o4 → MapIs Z (fun d => if d = c then v else N d) m W) := by
  subst hK
  obtain ⟨P, es, clock, hm, T, hs⟩ := h
  obtain ⟨P', es', clock', born, hrun, T', hmem, hcod⟩ := T.entry hc
  obtain ⟨es3, hst, T3⟩ := T'.store hmem v
  have hlk : ∀ W : World, W.heap[m]? = some (.map es3 clock') → (Instr.lookup 23 (.map (some m)) (KV Z c) false).run Ybad.prog W = .ok (.int .i64 (v : Int)) W := fun W hW => by
    have := T3.look hW hc
    simpa using this
  have hrest : ∀ d ∈ P'.map Prod.fst, d ≠ c → 0 < N d := fun d hd hne => hs d (((hcod d).1 hd).resolve_right hne)
  rcases Nat.eq_zero_or_pos v with h0 | h0
  · subst h0
    obtain ⟨P4, es4, hd, T4, hc4⟩ := T3.drop hc (by simp) (List.mem_map.2 ⟨_, hmem, rfl⟩) 0
    refine ⟨_, .map es' clock', .map es3 clock', .map es4 clock', born, hm, fun W hW => T.look hW hc, fun W hW => hrun W m hW, fun W hW => T'.look hW hc, fun W hW => hst W m hW, hlk, fun h => by omega, fun _ W hW => hd W m hW, fun _ W hW => ⟨P4, es4, clock', hW, T4, fun d hd => ?_⟩⟩
    obtain ⟨h1, h2⟩ := (hc4 d).1 hd
    simp only [h2, if_false]
    exact hrest d h1 h2
  · refine ⟨_, .map es' clock', .map es3 clock', .map es3 clock', born, hm, fun W hW => T.look hW hc, fun W hW => hrun W m hW, fun W hW => T'.look hW hc, fun W hW => hst W m hW, hlk, fun _ W hW => ⟨P', es3, clock', hW, T3, fun d hd => ?_⟩, fun h => by omega, fun h => by omega⟩
    by_cases e : d = c
    · simp [e, h0]
    · simp only [e, if_false]
      exact hrest d hd e

set_option maxHeartbeats 400000 in
theorem remove7 (Z : Addr) (bc m c : Nat) (y bb : Int) (T : Nat) (N : Nat → Nat) (hT0 : 0 < T) (hT : T < 5000) (hN0 : 0 < N c) (hN : N c < 5000) (hcc : c < 48) (w : World) (h : HC Z N T bc (some m) w)
    (hK : Value.agg #[.int .u64 0, .int .u64 y, .pointer (some Z), .int .u8 bb] = KV Z c) :
    Calls Ybad.prog 7 #[.pointer (some ⟨bc, 0, none⟩), .agg #[.int .u64 0, .int .u64 y, .pointer (some Z), .int .u8 bb]] w fun e w' => e = .returned (.tuple #[]) ∧ HC Z (dec N c) (T - 1) bc (some m) w' ∧ Fr bc (some m) w w' := by
  obtain ⟨o1, o2, o3, o4, born, hm, hL, hE, hL2, hS, hL4, hfin, hD, hfin4⟩ := (h.map m rfl).down hcc hK (N c - 1)
  have hc := h.cells
  have hlt : bc < w.heap.size := (Array.getElem?_eq_some_iff.1 hc).1
  have hmb : m ≠ bc := by
    rintro rfl
    obtain ⟨P, es, clock, h1, _⟩ := h.map m rfl
    rw [hc] at h1
    cases h1
  have hmw : m ≠ w.heap.size := by
    have := (Array.getElem?_eq_some_iff.1 hm).1
    omega
  have hn1 : (N c : Int) < 5000 := by omega
  have hn0 : (0 : Int) < (N c : Int) := by omega
  have hT1 : (T : Int) < 5000 := by omega
  have hT2 : (0 : Int) < (T : Int) := by omega
  obtain ⟨h0', h1', f0'⟩ := two_cells (al_old (o' := .cells #[.int .u64 0, .int .u64 y, .pointer (some Z), .int .u8 bb] 36) hc)
  obtain ⟨W1, hW1⟩ : ∃ W1, (w.alloc (.cells #[.int .u64 0, .int .u64 y, .pointer (some Z), .int .u8 bb] 36)).setCell ⟨bc, 0, none⟩ (.int .i64 ((T : Int) - 1)) = W1 := ⟨_, rfl⟩
  have b1 : W1.heap[bc]? = some (.cells #[.int .i64 ((T : Int) - 1), .map (some m)] 25 (0, 0)) := by rw [← hW1]; exact sc_same0 (al_old hc)
  have b2 : W1.heap[w.heap.size]? = some (.cells #[.int .u64 0, .int .u64 y, .pointer (some Z), .int .u8 bb] 36 (0, 0)) := by
    rw [← hW1, sc_other (by omega)]
    exact al_new w _
  have b3 : W1.heap[m]? = some o1 := by
    rw [← hW1, sc_other hmb]
    exact al_old hm
  obtain ⟨-, c1, -⟩ := two_cells b1
  obtain ⟨c2, c3, c4, c5⟩ := four_cells b2
  obtain ⟨W2, hW2⟩ : ∃ W2, setBlock W1.drew m o2 = W2 := ⟨_, rfl⟩
  obtain ⟨W3, hW3⟩ : ∃ W3, setBlock W2 m o3 = W3 := ⟨_, rfl⟩
  have b4 : W2.heap[m]? = some o2 := by rw [← hW2]; exact sb_same _ b3
  have hE1 := hE W1.drew b3
  have hL1 := hL W1.drew b3
  have hL3 := hL2 W2 b4
  have hS1 := hS W2 b4
  rw [hW2] at hE1
  rw [hW3, show ((N c - 1 : Nat) : Int) = (N c : Int) - 1 by omega] at hS1
  have b5 : W3.heap[m]? = some o3 := by rw [← hW3]; exact sb_same _ b4
  have hold : ∀ k, k ≠ m → W3.heap[k]? = W1.heap[k]? := fun k hk => by rw [← hW3, sb_other _ hk, ← hW2, sb_other _ hk]; rfl
  have b6 := (hold bc (Ne.symm hmb)).trans b1
  have b7 := (hold w.heap.size (Ne.symm hmw)).trans b2
  obtain ⟨-, d1, -⟩ := two_cells b6
  obtain ⟨d2, d3, d4, d5⟩ := four_cells b7
  have hL5 := hL4 W3 b5
  have hL6 := hL4 W3.drew b5
  rw [show ((N c - 1 : Nat) : Int) = (N c : Int) - 1 by omega] at hL5 hL6
  have hsz : W3.heap.size = w.heap.size + 1 := by rw [← hW3, sb_size, ← hW2, sb_size, show W1.drew.heap.size = W1.heap.size from rfl, ← hW1, sc_size, World.size_alloc]
  have hos : W3.os = w.os ∧ W3.tape = w.tape ∧ W3.output = w.output := by subst hW3 hW2 hW1; exact ⟨rfl, rfl, rfl⟩
  have hold1 : ∀ k, k < w.heap.size → k ≠ bc → W1.heap[k]? = w.heap[k]? := fun k hk hne => by rw [← hW1, sc_other hne]; exact heap_alloc_old w _ hk
  have hpost : ∀ (W : World), W.os = W3.os → W.tape = W3.tape → W.output = W3.output → W.heap.size = W3.heap.size → (∀ k, k ≠ m → W.heap[k]? = W3.heap[k]?) → MapIs Z (dec N c) m W → HC Z (dec N c) (T - 1) bc (some m) W ∧ Fr bc (some m) w W := by
    intro W e1 e2 e3 e4 e5 e6
    refine ⟨⟨?_, by simp, ?_⟩, ⟨e1.trans hos.1, e2.trans hos.2.1, e3.trans hos.2.2, by omega, ?_⟩⟩
    · rw [e5 bc (Ne.symm hmb), b6, show ((T - 1 : Nat) : Int) = (T : Int) - 1 by omega]
    · rintro m' e
      cases e
      exact e6
    · intro k hk hne hmm
      rw [e5 k (fun e => hmm (by rw [e])), hold k (fun e => hmm (by rw [e])), hold1 k hk hne]
  have HP := hide hpost
  by_cases hone : N c = 1
  · have hz : N c - 1 = 0 := by omega
    have hD1 := hD hz
    have HF := hide (fun W hW => hfin4 hz W hW)
    have b5' := hide b5
    have hi1 : (N c : Int) = 1 := by omega
    rw [hi1] at hL5 hL6 hS1 hE1 hL1 hL3
    rw [show (1 : Int) - 1 = 0 from rfl] at hL5 hL6 hS1
    clear hE hL hL2 hS hW2 hW3 hfin hold hold1 hos hsz hK b1 b2 b3 b4 hm hc hcc hmb hlt h hpost b5 b6 b7 hL4 hD hfin4 hz hone hn1 hn0 hi1 hmw
    go_enter Ybad.func7, Ybad.ntmps7
    go_wp2
    clear hW1
    go_region
    go_wp2
    go_region
    have hD2 := hD1 W3.drew.drew b5'.out
    clear hD1
    go_wp2
    go_region
    go_end0
    exact ⟨rfl, HP.out _ rfl rfl rfl (sb_size W3.drew.drew m o4) (fun k hk => sb_other (w := W3.drew.drew) o4 hk) (HF.out _ (sb_same (w := W3.drew.drew) o4 b5'.out))⟩
  · have hz : 0 < N c - 1 := by omega
    have HF := hide (hfin hz)
    have b5' := hide b5
    have hi1 : (1 : Int) < (N c : Int) := by omega
    have hi2 : ((N c : Int) - 1 == 0) = false := by simp; omega
    clear hE hL hL2 hS hW2 hW3 hfin hold hold1 hos hsz hK b1 b2 b3 b4 hm hc hcc hmb hlt h hpost b5 b6 b7 hL4 hD hfin4 hz hone hmw
    go_enter Ybad.func7, Ybad.ntmps7
    go_wp2
    clear hW1
    go_region
    go_wp2
    go_region
    go_wp2
    go_end0
    exact ⟨rfl, HP.out _ rfl rfl rfl rfl (fun k hk => rfl) (HF.out _ b5'.out)⟩
end Go.Proofs.YbulkbmsqDoor
