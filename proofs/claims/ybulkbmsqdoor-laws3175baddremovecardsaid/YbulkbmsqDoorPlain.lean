import Derived.Test.YbulkbmsqDoorAdd
namespace Go.Proofs.YbulkbmsqDoor
open Go.RowKit Go.ChangeMaps

/-- How often each code comes up among the first k bytes. -/
def cnt (X : Nat → Nat) : Nat → Nat → Nat
  | 0 => fun _ => 0
  | k + 1 => inc (cnt X k) (cd (X k))
theorem cnt_le (X : Nat → Nat) (k c : Nat) : cnt X k c ≤ k := by
  induction k with
  | zero => exact Nat.le_refl _
  | succ k ih =>
    simp only [cnt, inc]
    split
    · rename_i h
      subst h
      omega
    · omega
theorem cnt_yes (X : Nat → Nat) {k c : Nat} (h : cd (X k) = c) : cnt X (k + 1) c = cnt X k c + 1 := by simp [cnt, inc, h]
theorem cnt_no (X : Nat → Nat) {k c : Nat} (h : cd (X k) ≠ c) : cnt X (k + 1) c = cnt X k c := by simp [cnt, inc, Ne.symm h]

theorem countP_flip {a : Nat} {p p' : Nat → Bool} (h1 : p a = false) (h2 : p' a = true) (h3 : ∀ d, d ≠ a → p' d = p d) : ∀ (R : List Nat), R.Nodup → a ∈ R → R.countP p' = R.countP p + 1 := by
  intro R
  induction R with
  | nil => intro _ h; cases h
  | cons x R ih =>
    intro hn hm
    rw [List.nodup_cons] at hn
    rw [List.countP_cons, List.countP_cons]
    by_cases hx : x = a
    · subst hx
      have e : R.countP p' = R.countP p := by
        apply List.countP_congr
        intro d hd
        rw [h3 d (fun e => hn.1 (e ▸ hd))]
      rw [e, h1, h2]
      simp
    · have hm' : a ∈ R := by
        rcases List.mem_cons.1 hm with h | h
        · exact absurd h.symm hx
        · exact h
      rw [ih hn.2 hm', h3 x hx]
      omega
/-- How many codes have a count. -/
def K (N : Nat → Nat) : Nat := (List.range 48).countP fun c => decide (0 < N c)
theorem K_new {N : Nat → Nat} {c : Nat} (hc : c < 48) (h : N c = 0) : K (inc N c) = K N + 1 := by
  refine countP_flip (a := c) ?_ ?_ ?_ _ List.nodup_range (List.mem_range.2 hc)
  · simp [h]
  · simp [inc]
  · intro d hd
    simp [inc, hd]
theorem K_old {N : Nat → Nat} {c : Nat} (h : 0 < N c) : K (inc N c) = K N := by
  apply List.countP_congr
  intro d _
  by_cases hd : d = c
  · subst hd
    simp [inc, h]
  · simp [inc, hd]
theorem K_zero : K (fun _ => 0) = 0 := by decide
theorem length_mem : ∀ (l : List Nat), l.Nodup → (∀ c ∈ l, c < 48) → (List.range 48).countP (fun c => decide (c ∈ l)) = l.length := by
  intro l
  induction l with
  | nil => intro _ _; simp
  | cons a l ih =>
    intro hn hs
    rw [List.nodup_cons] at hn
    rw [List.length_cons, ← ih hn.2 (fun c hc => hs c (List.mem_cons_of_mem _ hc))]
    refine countP_flip (a := a) ?_ ?_ ?_ _ List.nodup_range (List.mem_range.2 (hs a (by simp)))
    · simp [hn.1]
    · simp
    · intro d hd
      simp [hd]
theorem MapIs.len {Z : Addr} {N : Nat → Nat} {m : Nat} {w : World} (h : MapIs Z N m w) : ∃ es clock, w.heap[m]? = some (.map es clock) ∧ es.size = K N := by
  obtain ⟨P, es, clock, hm, T, hs⟩ := h
  refine ⟨es, clock, hm, ?_⟩
  rw [← Array.length_toList, T.rows, List.length_map, ← List.length_map (f := Prod.fst), ← length_mem _ T.codes (fun c hc => by
    obtain ⟨p, hp, rfl⟩ := List.mem_map.1 hc
    exact (T.small p hp).1)]
  apply List.countP_congr
  intro c _
  simp only [decide_eq_true_eq]
  exact ⟨hs c, T.full c⟩
theorem HC.kept {Z : Addr} {N : Nat → Nat} {T bc : Nat} {mo : Option Nat} {w w' : World} (h : HC Z N T bc mo w) (hb : Below w.heap.size w w') : HC Z N T bc mo w' := by
  refine ⟨(hb.block bc (Array.getElem?_eq_some_iff.1 h.cells).1).trans h.cells, h.nil, fun m hm => ?_⟩
  obtain ⟨P, es, clock, h1, T, hs⟩ := h.map m hm
  exact ⟨P, es, clock, (hb.block m (Array.getElem?_eq_some_iff.1 h1).1).trans h1, T, hs⟩
/-- Reading a count. -/
theorem HC.look {Z : Addr} {N : Nat → Nat} {T bc c : Nat} {mo : Option Nat} {w : World} (h : HC Z N T bc mo w) (hc : c < 48) {K : Value} (hK : K = KV Z c) : (Instr.lookup 23 (.map mo) K false).run Ybad.prog w = .ok (.int .i64 (N c : Int)) w := by
  subst hK
  cases mo with
  | none =>
    rw [h.nil rfl c]
    exact look_none c Z w
  | some m =>
    obtain ⟨P, es, clock, h1, T, hs⟩ := h.map m rfl
    exact T.look h1 hc
/-- The length of the map. -/
theorem HC.len {Z : Addr} {N : Nat → Nat} {T bc : Nat} {mo : Option Nat} {w : World} (h : HC Z N T bc mo w) (ty : TypeId) : (Builtin.len_ #[23] ty #[.map mo]).run Ybad.prog w = .ok (.int .i64 (K N : Int)) w := by
  cases mo with
  | none =>
    have e : N = fun _ => 0 := funext (h.nil rfl)
    rw [e, K_zero]
    exact (show (Builtin.len_ #[23] ty #[.map none]).run Ybad.prog w = .ok (.int .i64 0) w by kernel_rfl)
  | some m =>
    obtain ⟨es, clock, h1, h2⟩ := (h.map m rfl).len
    rw [← h2]
    exact run_len_map w 23 ty m es clock Ybad.underlying23 h1
end Go.Proofs.YbulkbmsqDoor
