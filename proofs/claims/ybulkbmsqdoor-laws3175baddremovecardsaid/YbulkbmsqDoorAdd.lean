import Derived.Test.YbulkbmsqDoorMap
import Derived.Deep.RegionHeld3
import Derived.Deep.LoopGhost
namespace Go.Proofs.YbulkbmsqDoor
open Go.RowKit Go.ChangeMaps

def inc (N : Nat → Nat) (c : Nat) : Nat → Nat := fun d => if d = c then N c + 1 else N d
def dec (N : Nat → Nat) (c : Nat) : Nat → Nat := fun d => if d = c then N c - 1 else N d
/-- Block m is a map of the counts N: a row for just those that have a count. -/
def MapIs (Z : Addr) (N : Nat → Nat) (m : Nat) (w : World) : Prop := ∃ P es clock, w.heap[m]? = some (.map es clock) ∧ Tab Z N P es clock ∧ ∀ c ∈ P.map Prod.fst, 0 < N c
/-- The counts at block bc: how many were added, and the map, which is nil where nothing was. -/
structure HC (Z : Addr) (N : Nat → Nat) (T bc : Nat) (mo : Option Nat) (w : World) : Prop where
  cells : w.heap[bc]? = some (.cells #[.int .i64 (T : Int), .map mo] 25 (0, 0))
  nil : mo = none → ∀ c, N c = 0
  map : ∀ m, mo = some m → MapIs Z N m w
/-- Nothing has turned but blocks bc and mo. -/
structure Fr (bc : Nat) (mo : Option Nat) (w W : World) : Prop where
  os : W.os = w.os
  tape : W.tape = w.tape
  output : W.output = w.output
  size : w.heap.size ≤ W.heap.size
  block : ∀ k, k < w.heap.size → k ≠ bc → mo ≠ some k → W.heap[k]? = w.heap[k]?

theorem sb_same {w : World} {b : Nat} {o0 : Obj} (o : Obj) (h : w.heap[b]? = some o0) : (setBlock w b o).heap[b]? = some o := (MapKept.heap_set h).1
theorem sb_other {w : World} {b k : Nat} (o : Obj) (h : k ≠ b) : (setBlock w b o).heap[k]? = w.heap[k]? := by simp [setBlock, Ne.symm h]
theorem sb_size (w : World) (b : Nat) (o : Obj) : (setBlock w b o).heap.size = w.heap.size := by simp [setBlock]
theorem sc_same0 {w : World} {b : Nat} {v0 v1 v : Value} {t : TypeId} (h : w.heap[b]? = some (.cells #[v0, v1] t (0, 0))) : (w.setCell ⟨b, 0, none⟩ v).heap[b]? = some (.cells #[v, v1] t (0, 0)) := by
  simp [World.setCell, Array.getElem?_modify, h]
theorem sc_same1 {w : World} {b : Nat} {v0 v1 v : Value} {t : TypeId} (h : w.heap[b]? = some (.cells #[v0, v1] t (0, 0))) : (w.setCell ⟨b, 1, none⟩ v).heap[b]? = some (.cells #[v0, v] t (0, 0)) := by
  simp [World.setCell, Array.getElem?_modify, h]
theorem sc_other {w : World} {b o k : Nat} {v : Value} (h : k ≠ b) : (w.setCell ⟨b, o, none⟩ v).heap[k]? = w.heap[k]? := Below.heap_setCell w ⟨b, o, none⟩ v k h
theorem sc_size (w : World) (a : Addr) (v : Value) : (w.setCell a v).heap.size = w.heap.size := by simp [World.setCell]
theorem al_old {w : World} {k : Nat} {o o' : Obj} (h : w.heap[k]? = some o) : (w.alloc o').heap[k]? = some o := (heap_alloc_old w o' (Array.getElem?_eq_some_iff.1 h).1).trans h
theorem al_new (w : World) (o : Obj) : (w.alloc o).heap[w.heap.size]? = some o := (MapKept.heap_alloc w o).1
theorem two_cells {w : World} {b : Nat} {v0 v1 : Value} {t : TypeId} (h : w.heap[b]? = some (.cells #[v0, v1] t (0, 0))) : w.cell? ⟨b, 0, none⟩ = some v0 ∧ w.cell? ⟨b, 1, none⟩ = some v1 ∧ ∀ i, w.frozen? ⟨b, i, none⟩ = false := by
  simp [World.cell?, World.frozen?, h]
theorem four_cells {w : World} {b : Nat} {v0 v1 v2 v3 : Value} {t : TypeId} (h : w.heap[b]? = some (.cells #[v0, v1, v2, v3] t (0, 0))) : w.cell? ⟨b, 0, none⟩ = some v0 ∧ w.cell? ⟨b, 1, none⟩ = some v1 ∧ w.cell? ⟨b, 2, none⟩ = some v2 ∧ w.cell? ⟨b, 3, none⟩ = some v3 := by
  simp [World.cell?, h]

theorem MapIs.step {Z : Addr} {N : Nat → Nat} {m c : Nat} {w : World} (h : MapIs Z N m w) (hc : c < 48) {K : Value} (hK : K = KV Z c) (v : Nat) (hv : 0 < v) :
    ∃ (o1 o2 o3 : Obj) (born : Nat), w.heap[m]? = some o1 ∧
      (∀ W : World, W.heap[m]? = some o1 → (Instr.lookup 23 (.map (some m)) K false).run Ybad.prog W = .ok (.int .i64 (N c : Int)) W) ∧
      (∀ W : World, W.heap[m]? = some o1 → (Instr.mapEntry 23 (.map (some m)) K).run Ybad.prog W = .ok (.tuple #[.int .i64 (N c : Int), .int .i64 (born : Nat)]) (setBlock W m o2)) ∧
      (∀ W : World, W.heap[m]? = some o2 → (Instr.lookup 23 (.map (some m)) K false).run Ybad.prog W = .ok (.int .i64 (N c : Int)) W) ∧
      (∀ W : World, W.heap[m]? = some o2 → (Instr.entryStore 23 (.map (some m)) (.int .i64 (born : Nat)) (.int .i64 (v : Int))).run Ybad.prog W = .ok () (setBlock W m o3)) ∧
      (∀ W : World, W.heap[m]? = some o3 → MapIs Z (fun d => if d = c then v else N d) m W) := by
  subst hK
  obtain ⟨P, es, clock, hm, T, hs⟩ := h
  obtain ⟨P', es', clock', born, hrun, T', hmem, hcod⟩ := T.entry hc
  obtain ⟨es3, hst, T3⟩ := T'.store hmem v
  refine ⟨_, .map es' clock', .map es3 clock', born, hm, fun W hW => T.look hW hc, fun W hW => hrun W m hW, fun W hW => T'.look hW hc, fun W hW => hst W m hW, fun W hW => ⟨P', es3, clock', hW, T3, fun d hd => ?_⟩⟩
  by_cases e : d = c
  · simp [e, hv]
  · simp only [e, if_false]
    exact hs d (((hcod d).1 hd).resolve_right e)

theorem MapIs.of_eq {Z : Addr} {N N' : Nat → Nat} {m : Nat} {w : World} (h : MapIs Z N m w) (e : ∀ c, N c = N' c) : MapIs Z N' m w := by
  have : N = N' := funext e
  rwa [← this]
theorem MapIs.empty {Z : Addr} {N : Nat → Nat} {m : Nat} {w : World} (h : w.heap[m]? = some (.map #[] 0)) (h0 : ∀ c, N c = 0) : MapIs Z N m w :=
  ⟨[], #[], 0, h, ⟨rfl, by simp, by simp, by simp, fun c hc => by have := h0 c; omega⟩, by simp⟩

set_option maxHeartbeats 400000 in
theorem add5_some (Z : Addr) (bc m c : Nat) (y bb : Int) (T : Nat) (N : Nat → Nat) (hT : T < 5000) (hN : N c < 5000) (hcc : c < 48) (w : World) (h : HC Z N T bc (some m) w)
    (hK : Value.agg #[.int .u64 0, .int .u64 y, .pointer (some Z), .int .u8 bb] = KV Z c) :
    Calls Ybad.prog 5 #[.pointer (some ⟨bc, 0, none⟩), .agg #[.int .u64 0, .int .u64 y, .pointer (some Z), .int .u8 bb]] w fun e w' => e = .returned (.tuple #[]) ∧ HC Z (inc N c) (T + 1) bc (some m) w' ∧ Fr bc (some m) w w' := by
  obtain ⟨o1, o2, o3, born, hm, hL, hE, hL2, hS, hfin⟩ := (h.map m rfl).step hcc hK (N c + 1) (Nat.succ_pos _)
  have hc := h.cells
  have hlt : bc < w.heap.size := (Array.getElem?_eq_some_iff.1 hc).1
  have hmb : m ≠ bc := by
    rintro rfl
    obtain ⟨P, es, clock, h1, _⟩ := h.map m rfl
    rw [hc] at h1
    cases h1
  have hn1 : (N c : Int) < 5000 := by omega
  have hT1 : (T : Int) < 5000 := by omega
  obtain ⟨h0', h1', f0'⟩ := two_cells (al_old (o' := .cells #[.int .u64 0, .int .u64 y, .pointer (some Z), .int .u8 bb] 36) hc)
  have q0 : ∀ W, (binOp .eql 23 (.map (some m)) (.map none)).run Ybad.prog W = .ok (.bool false) W := by intro W; kernel_rfl
  obtain ⟨W1, hW1⟩ : ∃ W1, (w.alloc (.cells #[.int .u64 0, .int .u64 y, .pointer (some Z), .int .u8 bb] 36)).setCell ⟨bc, 0, none⟩ (.int .i64 ((T : Int) + 1)) = W1 := ⟨_, rfl⟩
  have b1 : W1.heap[bc]? = some (.cells #[.int .i64 ((T : Int) + 1), .map (some m)] 25 (0, 0)) := by rw [← hW1]; exact sc_same0 (al_old hc)
  have b2 : W1.heap[w.heap.size]? = some (.cells #[.int .u64 0, .int .u64 y, .pointer (some Z), .int .u8 bb] 36 (0, 0)) := by
    rw [← hW1, sc_other (by omega)]
    exact al_new w _
  have b3 : W1.heap[m]? = some o1 := by
    rw [← hW1, sc_other hmb]
    exact al_old hm
  obtain ⟨-, c1, -⟩ := two_cells b1
  obtain ⟨c2, c3, c4, c5⟩ := four_cells b2
  obtain ⟨W2, hW2⟩ : ∃ W2, setBlock W1.drew m o2 = W2 := ⟨_, rfl⟩
  obtain ⟨W3, hW3⟩ : ∃ W3, setBlock W2 m o3 = W3 := ⟨_, rfl⟩
  have b4 : W2.heap[m]? = some o2 := by rw [← hW2]; exact sb_same _ b3
  have hE1 := hE W1.drew b3
  have hL1 := hL W1.drew b3
  have hL3 := hL2 W2 b4
  have hS1 := hS W2 b4
  rw [hW2] at hE1
  rw [hW3, show ((N c + 1 : Nat) : Int) = (N c : Int) + 1 by omega] at hS1
  have hfin3 := hfin W3 (by rw [← hW3]; exact sb_same _ b4)
  have hsz : W3.heap.size = w.heap.size + 1 := by rw [← hW3, sb_size, ← hW2, sb_size, show W1.drew.heap.size = W1.heap.size from rfl, ← hW1, sc_size, World.size_alloc]
  have hold : ∀ k, k ≠ m → W3.heap[k]? = W1.heap[k]? := fun k hk => by rw [← hW3, sb_other _ hk, ← hW2, sb_other _ hk]; rfl
  have hos : W3.os = w.os ∧ W3.tape = w.tape ∧ W3.output = w.output := by subst hW3 hW2 hW1; exact ⟨rfl, rfl, rfl⟩
  have hold1 : ∀ k, k < w.heap.size → k ≠ bc → W1.heap[k]? = w.heap[k]? := fun k hk hne => by rw [← hW1, sc_other hne]; exact heap_alloc_old w _ hk
  have hpost : HC Z (inc N c) (T + 1) bc (some m) W3 ∧ Fr bc (some m) w W3 := by
    refine ⟨⟨?_, by simp, ?_⟩, ⟨hos.1, hos.2.1, hos.2.2, by omega, ?_⟩⟩
    · rw [hold bc (Ne.symm hmb), b1]
      rfl
    · rintro m' e
      cases e
      exact hfin3
    · intro k hk hne hmm
      rw [hold k (fun e => hmm (by rw [e])), hold1 k hk hne]
  clear hE hL hL2 hS hW2 hW3 hfin hfin3 hold hold1 hos hsz hK b1 b2 b3 b4 hm hc hcc hmb hlt h
  go_enter Ybad.func5, Ybad.ntmps5
  go_wp2
  clear hW1
  go_region
  go_end0
  exact ⟨rfl, hpost⟩

set_option maxHeartbeats 400000 in
theorem add5_none (Z : Addr) (bc c : Nat) (y bb : Int) (T : Nat) (N : Nat → Nat) (hT : T < 5000) (hcc : c < 48) (w : World) (h : HC Z N T bc none w)
    (hK : Value.agg #[.int .u64 0, .int .u64 y, .pointer (some Z), .int .u8 bb] = KV Z c) :
    Calls Ybad.prog 5 #[.pointer (some ⟨bc, 0, none⟩), .agg #[.int .u64 0, .int .u64 y, .pointer (some Z), .int .u8 bb]] w fun e w' => e = .returned (.tuple #[]) ∧ HC Z (inc N c) (T + 1) bc (some (w.heap.size + 1)) w' ∧ Fr bc none w w' := by
  have hc := h.cells
  have hlt : bc < w.heap.size := (Array.getElem?_eq_some_iff.1 hc).1
  have hT1 : (T : Int) < 5000 := by omega
  have hn1 : (N c : Int) < 5000 := by have := h.nil rfl c; omega
  obtain ⟨W0, hW0⟩ : ∃ W0, w.alloc (.cells #[.int .u64 0, .int .u64 y, .pointer (some Z), .int .u8 bb] 36) = W0 := ⟨_, rfl⟩
  have s0 : W0.heap.size = w.heap.size + 1 := by rw [← hW0, World.size_alloc]
  have a1 : W0.heap[bc]? = some (.cells #[.int .i64 (T : Int), .map none] 25 (0, 0)) := by rw [← hW0]; exact al_old hc
  have a2 : W0.heap[w.heap.size]? = some (.cells #[.int .u64 0, .int .u64 y, .pointer (some Z), .int .u8 bb] 36 (0, 0)) := by rw [← hW0]; exact al_new w _
  obtain ⟨W4, hW4⟩ : ∃ W4, (W0.alloc (.map #[] 0)).setCell ⟨bc, 1, none⟩ (.map (some (w.heap.size + 1))) = W4 := ⟨_, rfl⟩
  have hm0 : (W0.alloc (.map #[] 0)).heap[w.heap.size + 1]? = some (.map #[] 0) := by rw [← s0]; exact al_new W0 _
  have a3 : W4.heap[bc]? = some (.cells #[.int .i64 (T : Int), .map (some (w.heap.size + 1))] 25 (0, 0)) := by rw [← hW4]; exact sc_same1 (al_old a1)
  have a4 : W4.heap[w.heap.size]? = some (.cells #[.int .u64 0, .int .u64 y, .pointer (some Z), .int .u8 bb] 36 (0, 0)) := by rw [← hW4, sc_other (by omega)]; exact al_old a2
  have a5 : W4.heap[w.heap.size + 1]? = some (.map #[] 0) := by rw [← hW4, sc_other (by omega)]; exact hm0
  obtain ⟨o1, o2, o3, born, hm, hL, hE, hL2, hS, hfin⟩ := (MapIs.empty (Z := Z) a5 (h.nil rfl)).step hcc hK (N c + 1) (Nat.succ_pos _)
  obtain ⟨h0', h1', f0'⟩ := two_cells a1
  obtain ⟨g0', g1', k0'⟩ := two_cells (al_old (o' := .map #[] 0) a1)
  obtain ⟨e0', e1', j0'⟩ := two_cells a3
  have q0 : ∀ W, (binOp .eql 23 (.map none) (.map none)).run Ybad.prog W = .ok (.bool true) W := by intro W; kernel_rfl
  have qm : (Instr.makeMap 23 none).run Ybad.prog W0 = .ok (.map (some (w.heap.size + 1))) (W0.alloc (.map #[] 0)) := by rw [← s0]; exact run_makeMap_plain W0 23
  obtain ⟨W1, hW1⟩ : ∃ W1, W4.setCell ⟨bc, 0, none⟩ (.int .i64 ((T : Int) + 1)) = W1 := ⟨_, rfl⟩
  have b1 : W1.heap[bc]? = some (.cells #[.int .i64 ((T : Int) + 1), .map (some (w.heap.size + 1))] 25 (0, 0)) := by rw [← hW1]; exact sc_same0 a3
  have b2 : W1.heap[w.heap.size]? = some (.cells #[.int .u64 0, .int .u64 y, .pointer (some Z), .int .u8 bb] 36 (0, 0)) := by
    rw [← hW1, sc_other (by omega)]
    exact a4
  have b3 : W1.heap[w.heap.size + 1]? = some o1 := by
    rw [← hW1, sc_other (by omega)]
    exact hm
  obtain ⟨-, c1, -⟩ := two_cells b1
  obtain ⟨c2, c3, c4, c5⟩ := four_cells b2
  obtain ⟨W2, hW2⟩ : ∃ W2, setBlock W1.drew (w.heap.size + 1) o2 = W2 := ⟨_, rfl⟩
  obtain ⟨W3, hW3⟩ : ∃ W3, setBlock W2 (w.heap.size + 1) o3 = W3 := ⟨_, rfl⟩
  have b4 : W2.heap[w.heap.size + 1]? = some o2 := by rw [← hW2]; exact sb_same _ b3
  have hE1 := hE W1.drew b3
  have hL1 := hL W1.drew b3
  have hL3 := hL2 W2 b4
  have hS1 := hS W2 b4
  rw [hW2] at hE1
  rw [hW3, show ((N c + 1 : Nat) : Int) = (N c : Int) + 1 by omega] at hS1
  have hfin3 := hfin W3 (by rw [← hW3]; exact sb_same _ b4)
  have hsz : W3.heap.size = w.heap.size + 2 := by rw [← hW3, sb_size, ← hW2, sb_size, show W1.drew.heap.size = W1.heap.size from rfl, ← hW1, sc_size, ← hW4, sc_size, World.size_alloc, s0]
  have hold : ∀ k, k ≠ w.heap.size + 1 → W3.heap[k]? = W1.heap[k]? := fun k hk => by rw [← hW3, sb_other _ hk, ← hW2, sb_other _ hk]; rfl
  have hos : W3.os = w.os ∧ W3.tape = w.tape ∧ W3.output = w.output := by subst hW3 hW2 hW1 hW4 hW0; exact ⟨rfl, rfl, rfl⟩
  have hold1 : ∀ k, k < w.heap.size → k ≠ bc → W1.heap[k]? = w.heap[k]? := fun k hk hne => by
    rw [← hW1, sc_other hne, ← hW4, sc_other hne, heap_alloc_old W0 _ (by omega), ← hW0]
    exact heap_alloc_old w _ hk
  have hpost : HC Z (inc N c) (T + 1) bc (some (w.heap.size + 1)) W3 ∧ Fr bc none w W3 := by
    refine ⟨⟨?_, by simp, ?_⟩, ⟨hos.1, hos.2.1, hos.2.2, by omega, ?_⟩⟩
    · rw [hold bc (by omega), b1]
      rfl
    · rintro m' e
      cases e
      exact hfin3
    · intro k hk hne _
      rw [hold k (by omega), hold1 k hk hne]
  clear hE hL hL2 hS hW2 hW3 hfin hfin3 hold hold1 hos hsz hK b1 b2 b3 b4 hm hc hcc hlt h a1 a2 a3 a4 a5 hm0 s0
  go_enter Ybad.func5, Ybad.ntmps5
  go_wp2
  clear hW1
  go_region
  go_end0
  exact ⟨rfl, hpost⟩
/-- 'add': one more in all and at its host. -/
theorem add5 (Z : Addr) (bc c : Nat) (mo : Option Nat) (y bb : Int) (T : Nat) (N : Nat → Nat) (hT : T < 5000) (hN : N c < 5000) (hcc : c < 48) (w : World) (h : HC Z N T bc mo w)
    (hK : Value.agg #[.int .u64 0, .int .u64 y, .pointer (some Z), .int .u8 bb] = KV Z c) :
    Calls Ybad.prog 5 #[.pointer (some ⟨bc, 0, none⟩), .agg #[.int .u64 0, .int .u64 y, .pointer (some Z), .int .u8 bb]] w fun e w' => e = .returned (.tuple #[]) ∧ ∃ mo', HC Z (inc N c) (T + 1) bc mo' w' ∧ Fr bc mo w w' ∧ (mo' = mo ∨ ∃ k, mo' = some k ∧ w.heap.size ≤ k) := by
  cases mo with
  | none => exact (add5_none Z bc c y bb T N hT hcc w h hK).mono fun e w' hp => ⟨hp.1, _, hp.2.1, hp.2.2, .inr ⟨_, rfl, by omega⟩⟩
  | some m => exact (add5_some Z bc m c y bb T N hT hN hcc w h hK).mono fun e w' hp => ⟨hp.1, _, hp.2.1, hp.2.2, .inl rfl⟩
end Go.Proofs.YbulkbmsqDoor
