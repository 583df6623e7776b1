import Derived.Test.YbulkbmsqDoorHost
import Derived.ChangeMaps4
import Derived.MapKept
import Derived.WideMake
namespace Go.Proofs.YbulkbmsqDoor
open Go.RowKit Go.ChangeMaps

/-- One row of the map: code, stamp. -/
def rw1 (Z : Addr) (N : Nat → Nat) (p : Nat × Nat) : MapEntry := ⟨KV Z p.1, .int .i64 (N p.1 : Int), p.2⟩
/-- The map's rows: each code once, each stamp once; what has a count has a row. -/
structure Tab (Z : Addr) (N : Nat → Nat) (P : List (Nat × Nat)) (es : Array MapEntry) (clock : Nat) : Prop where
  rows : es.toList = P.map (rw1 Z N)
  codes : (P.map Prod.fst).Nodup
  borns : (P.map Prod.snd).Nodup
  small : ∀ p ∈ P, p.1 < 48 ∧ p.2 < clock
  full : ∀ c, 0 < N c → c ∈ P.map Prod.fst

theorem find_asking (Z : Addr) (N : Nat → Nat) (c : Nat) (hc : c < 48) (w : World) : ∀ (P : List (Nat × Nat)), (∀ p ∈ P, p.1 < 48) → ∀ i,
    (Instr.findAsking 36 (KV Z c) (P.map (rw1 Z N)) i).run Ybad.prog w = .ok ((P.findIdx? (fun p => p.1 == c)).map fun j => (i + j, Value.int .i64 (N c : Int))) w := by
  intro P
  induction P with
  | nil => intro _ i; simp [Instr.findAsking]
  | cons p P ih =>
    intro hs i
    have h1 := equalKV (c := c) (c' := p.1) hc (hs p (by simp)) Z w
    have h2 := ih (fun q hq => hs q (List.mem_cons_of_mem _ hq)) (i + 1)
    have e : (Op.equal 36 (KV Z c) (rw1 Z N p).key).run Ybad.prog w = .ok (c == p.1) w := h1
    simp only [List.map_cons, Instr.findAsking, Sem.run_bind, e, Result.andThen_ok, List.findIdx?_cons]
    by_cases hcp : c = p.1
    · subst hcp
      simp [rw1]
    · have hpc : ¬ p.1 = c := fun h => hcp h.symm
      simp only [beq_iff_eq, hcp, hpc, if_false, h2, Option.map_map]
      congr 1
      cases P.findIdx? (fun p => p.1 == c) <;> simp
      omega
theorem find_key (Z : Addr) (N : Nat → Nat) (c : Nat) (hc : c < 48) (w : World) (P : List (Nat × Nat)) (hs : ∀ p ∈ P, p.1 < 48) :
    (Instr.findKey 36 (KV Z c) (P.map (rw1 Z N))).run Ybad.prog w = .ok ((P.findIdx? (fun p => p.1 == c)).map fun j => (j, Value.int .i64 (N c : Int))) w := by
  rw [run_findKey_eq w (by rw [st36]), find_asking Z N c hc w P hs 0]
  simp

section
variable {Z : Addr} {N : Nat → Nat} {P : List (Nat × Nat)} {es : Array MapEntry} {clock c : Nat}
theorem Tab.smalls (T : Tab Z N P es clock) : ∀ p ∈ P, p.1 < 48 := fun p hp => (T.small p hp).1
theorem Tab.zero (T : Tab Z N P es clock) (h : c ∉ P.map Prod.fst) : N c = 0 := by
  rcases Nat.eq_zero_or_pos (N c) with h0 | h0
  · exact h0
  · exact absurd (T.full c h0) h
theorem not_found (h : P.findIdx? (fun p => p.1 == c) = none) : c ∉ P.map Prod.fst := by
  intro hm
  obtain ⟨p, hp, rfl⟩ := List.mem_map.1 hm
  have := (List.findIdx?_eq_none_iff.1 h) p hp
  simp at this
theorem found {j : Nat} (h : P.findIdx? (fun p => p.1 == c) = some j) : ∃ born, P[j]? = some (c, born) := by
  obtain ⟨hj, h1, _⟩ := List.findIdx?_eq_some_iff_getElem.1 h
  refine ⟨(P[j]).2, ?_⟩
  rw [List.getElem?_eq_getElem hj]
  simp only [beq_iff_eq] at h1
  rw [← h1]
/-- A look-up reads the count. -/
theorem Tab.look {w : World} {b : Nat} (T : Tab Z N P es clock) (hb : w.heap[b]? = some (.map es clock)) (hc : c < 48) :
    (Instr.lookup 23 (.map (some b)) (KV Z c) false).run Ybad.prog w = .ok (.int .i64 (N c : Int)) w := by
  have hz : (zeroValue 3).run Ybad.prog w = .ok (.int .i64 0) w := by kernel_rfl
  have hf := find_key Z N c hc w P T.smalls
  rw [← T.rows] at hf
  cases hi : P.findIdx? (fun p => p.1 == c) with
  | none =>
    rw [hi] at hf
    have h0 := T.zero (not_found hi)
    simp [Instr.lookup, run_underlying Ybad.underlying23, MapKept.run_getObj_map hb, checkKV, hf, hz, h0, Result.andThen]
  | some j =>
    rw [hi] at hf
    simp [Instr.lookup, run_underlying Ybad.underlying23, MapKept.run_getObj_map hb, checkKV, hf, Result.andThen]
theorem look_none (c : Nat) (Z : Addr) (w : World) : (Instr.lookup 23 (.map none) (KV Z c) false).run Ybad.prog w = .ok (.int .i64 0) w := by kernel_rfl
/-- The row that an assignment writes. -/
theorem Tab.entry (T : Tab Z N P es clock) (hc : c < 48) :
    ∃ P' es' clock' born, (∀ (w : World) (b : Nat), w.heap[b]? = some (.map es clock) → (Instr.mapEntry 23 (.map (some b)) (KV Z c)).run Ybad.prog w = .ok (.tuple #[.int .i64 (N c : Int), .int .i64 (born : Nat)]) (setBlock w b (.map es' clock'))) ∧ Tab Z N P' es' clock' ∧ (c, born) ∈ P' ∧ ∀ d, d ∈ P'.map Prod.fst ↔ d ∈ P.map Prod.fst ∨ d = c := by
  have hz : ∀ w : World, (zeroValue 3).run Ybad.prog w = .ok (.int .i64 0) w := fun w => by kernel_rfl
  have hf := fun w => find_key Z N c hc w P T.smalls
  rw [← T.rows] at hf
  cases hi : P.findIdx? (fun p => p.1 == c) with
  | none =>
    rw [hi] at hf
    have hn := not_found hi
    have h0 := T.zero hn
    refine ⟨P ++ [(c, clock)], es.push ⟨KV Z c, .int .i64 0, clock⟩, clock + 1, clock, ?_, ?_, by simp, by simp⟩
    · intro w b hb
      simp [Instr.mapEntry, run_underlying Ybad.underlying23, MapKept.run_getObj_map hb, checkKV, hf, hz, h0, MapKept.run_setObj_map _ hb, Result.andThen, setBlock, goInt]
    · refine ⟨by simp [T.rows, rw1, h0], ?_, ?_, ?_, ?_⟩
      · rw [List.map_append, List.nodup_append]
        refine ⟨T.codes, by simp, ?_⟩
        intro a ha b hb e
        simp only [List.map_cons, List.map_nil, List.mem_singleton] at hb
        subst hb
        subst e
        exact hn ha
      · rw [List.map_append, List.nodup_append]
        refine ⟨T.borns, by simp, ?_⟩
        intro a ha b hb e
        simp only [List.map_cons, List.map_nil, List.mem_singleton] at hb
        subst hb
        subst e
        obtain ⟨p, hp, he⟩ := List.mem_map.1 ha
        have := (T.small p hp).2
        omega
      · intro p hp
        rcases List.mem_append.1 hp with hp | hp
        · have := T.small p hp
          omega
        · simp only [List.mem_singleton] at hp
          subst hp
          exact ⟨hc, Nat.lt_succ_self _⟩
      · intro d hd
        rw [List.map_append]
        exact List.mem_append_left _ (T.full d hd)
  | some j =>
    rw [hi] at hf
    obtain ⟨born, hj⟩ := found hi
    have hm : (c, born) ∈ P := List.mem_of_getElem? hj
    have hes : es[j]? = some (rw1 Z N (c, born)) := by
      rw [← Array.getElem?_toList, T.rows, List.getElem?_map, hj]; rfl
    have hmod : es.modify j (fun e => { e with key := KV Z c }) = es := by
      apply Array.ext'
      apply List.ext_getElem?
      intro k
      simp only [Array.getElem?_toList, Array.getElem?_modify]
      split
      · rename_i h
        subst h
        rw [hes]
        rfl
      · rfl
    refine ⟨P, es, clock, born, ?_, T, hm, fun d => ⟨Or.inl, fun h => h.elim id fun e => e ▸ List.mem_map.2 ⟨_, hm, rfl⟩⟩⟩
    intro w b hb
    have hk : (Instr.keyThatStays (KV Z c) (KV Z c)).run Ybad.prog w = .ok (KV Z c) w := by simp [Instr.keyThatStays, sameKV]
    simp [Instr.mapEntry, run_underlying Ybad.underlying23, MapKept.run_getObj_map hb, checkKV, hf, hes, rw1, hk, MapKept.run_setObj_map _ hb, Result.andThen, setBlock, goInt, hmod]
/-- The row written. -/
theorem Tab.store (T : Tab Z N P es clock) {born : Nat} (hm : (c, born) ∈ P) (v : Nat) :
    ∃ es', (∀ (w : World) (b : Nat), w.heap[b]? = some (.map es clock) → (Instr.entryStore 23 (.map (some b)) (.int .i64 (born : Nat)) (.int .i64 (v : Int))).run Ybad.prog w = .ok () (setBlock w b (.map es' clock))) ∧ Tab Z (fun d => if d = c then v else N d) P es' clock := by
  obtain ⟨j, hj⟩ := List.mem_iff_getElem?.1 hm
  have hjl : j < P.length := (List.getElem?_eq_some_iff.1 hj).1
  have hes : es[j]? = some (rw1 Z N (c, born)) := by
    rw [← Array.getElem?_toList, T.rows, List.getElem?_map, hj]; rfl
  have hsz : es.size = P.length := by rw [← Array.length_toList, T.rows, List.length_map]
  have hx : es.findIdx? (fun e => (e.born : Int) == (born : Int)) = some j := by
    rw [Array.findIdx?_eq_some_iff_getElem]
    refine ⟨by omega, ?_, ?_⟩
    · have h : es[j]'(by omega) = rw1 Z N (c, born) := by
        have := Array.getElem?_eq_getElem (xs := es) (i := j) (by omega)
        rw [hes] at this
        exact (Option.some.inj this).symm
      rw [h]
      simp [rw1]
    · intro i hi
      have hil : i < P.length := by omega
      have h : es[i]'(by omega) = rw1 Z N P[i] := by
        have h1 : es[i]? = some (rw1 Z N P[i]) := by
          rw [← Array.getElem?_toList, T.rows, List.getElem?_map, List.getElem?_eq_getElem hil]; rfl
        have := Array.getElem?_eq_getElem (xs := es) (i := i) (by omega)
        rw [h1] at this
        exact (Option.some.inj this).symm
      rw [h]
      simp only [rw1, beq_iff_eq]
      intro e
      have e' : P[i].2 = born := by omega
      have h2 := T.borns
      have h3 : (P.map Prod.snd)[i]? = some born := by rw [List.getElem?_map, List.getElem?_eq_getElem hil, Option.map_some, e']
      have h4 : (P.map Prod.snd)[j]? = some born := by rw [List.getElem?_map, hj]; rfl
      have := (List.getElem?_inj (by rw [List.length_map]; exact hil) h2).1 (h3.trans h4.symm)
      omega
  refine ⟨es.modify j (fun e => { e with val := .int .i64 (v : Int) }), ?_, ?_, T.codes, T.borns, T.small, ?_⟩
  · intro w b hb
    have ha : (asInt (.int .i64 (born : Nat))).run Ybad.prog w = .ok (born : Int) w := by kernel_rfl
    simp [Instr.entryStore, MapKept.run_getObj_map hb, ha, hx, MapKept.run_setObj_map _ hb, Result.andThen, setBlock]
  · apply List.ext_getElem?
    intro k
    rw [Array.getElem?_toList, Array.getElem?_modify, List.getElem?_map]
    have hk : es[k]? = P[k]?.map (rw1 Z N) := by rw [← Array.getElem?_toList, T.rows, List.getElem?_map]
    rw [hk]
    split
    · rename_i h
      subst h
      rw [hj]
      simp [rw1]
    · rename_i h
      cases hp : P[k]? with
      | none => rfl
      | some p =>
        simp only [Option.map_some, rw1, Option.some.injEq, MapEntry.mk.injEq, and_true, true_and]
        have hne : p.1 ≠ c := by
          intro e
          have h3 : (P.map Prod.fst)[k]? = some c := by rw [List.getElem?_map, hp, Option.map_some, e]
          have h4 : (P.map Prod.fst)[j]? = some c := by rw [List.getElem?_map, hj]; rfl
          have := (List.getElem?_inj (by rw [List.length_map]; exact (List.getElem?_eq_some_iff.1 hp).1) T.codes).1 (h3.trans h4.symm)
          omega
        rw [if_neg hne]
  · intro d hd
    by_cases e : d = c
    · subst e
      exact List.mem_map.2 ⟨_, hm, rfl⟩
    · simp only [e, if_false] at hd
      exact T.full d hd
/-- The row taken away. -/
theorem Tab.drop (T : Tab Z N P es clock) (hc : c < 48) (h0 : N c = 0) (hin : c ∈ P.map Prod.fst) (ty : TypeId) :
    ∃ P' es', (∀ (w : World) (b : Nat), w.heap[b]? = some (.map es clock) → (Builtin.delete_ #[23, 36] ty #[.map (some b), KV Z c]).run Ybad.prog w = .ok (.tuple #[]) (setBlock w b (.map es' clock))) ∧ Tab Z N P' es' clock ∧ ∀ d, d ∈ P'.map Prod.fst ↔ d ∈ P.map Prod.fst ∧ d ≠ c := by
  have hf := fun w => find_key Z N c hc w P T.smalls
  rw [← T.rows] at hf
  cases hi : P.findIdx? (fun p => p.1 == c) with
  | none => exact absurd hin (not_found hi)
  | some j =>
    rw [hi] at hf
    obtain ⟨born, hj⟩ := found hi
    have hjl : j < P.length := (List.getElem?_eq_some_iff.1 hj).1
    have hsz : es.size = P.length := by rw [← Array.length_toList, T.rows, List.length_map]
    have hjs : j < es.size := by omega
    have hsub : (es.eraseIdxIfInBounds j).toList = es.toList.eraseIdx j := by
      unfold Array.eraseIdxIfInBounds
      rw [dif_pos hjs]
      simp
    have hcm : (P.map Prod.fst)[j]? = some c := by rw [List.getElem?_map, hj]; rfl
    refine ⟨P.eraseIdx j, es.eraseIdxIfInBounds j, ?_, ⟨?_, ?_, ?_, ?_, ?_⟩, ?_⟩
    · intro w b hb
      simp [Builtin.delete_, run_underlying Ybad.underlying23, MapKept.run_getObj_map hb, checkKV, hf, MapKept.run_setObj_map _ hb, Result.andThen, setBlock]
    · rw [hsub, T.rows, map_eraseIdx]
    · rw [map_eraseIdx]
      exact T.codes.sublist (List.eraseIdx_sublist _ _)
    · rw [map_eraseIdx]
      exact T.borns.sublist (List.eraseIdx_sublist _ _)
    · exact fun p hp => T.small p ((List.eraseIdx_sublist _ _).subset hp)
    · intro d hd
      have hm := T.full d hd
      rw [map_eraseIdx]
      obtain ⟨k, hk⟩ := List.mem_iff_getElem?.1 hm
      refine List.mem_eraseIdx_iff_getElem?.2 ⟨k, ?_, hk⟩
      rintro rfl
      rw [hcm] at hk
      cases hk
      omega
    · intro d
      rw [map_eraseIdx, List.mem_eraseIdx_iff_getElem?]
      constructor
      · rintro ⟨k, hne, hk⟩
        refine ⟨List.mem_of_getElem? hk, ?_⟩
        rintro rfl
        have := (List.getElem?_inj (List.getElem?_eq_some_iff.1 hk).1 T.codes).1 (hk.trans hcm.symm)
        exact hne this
      · rintro ⟨hm, hne⟩
        obtain ⟨k, hk⟩ := List.mem_iff_getElem?.1 hm
        refine ⟨k, ?_, hk⟩
        rintro rfl
        rw [hcm] at hk
        cases hk
        exact hne rfl
end
end Go.Proofs.YbulkbmsqDoor
