import Derived.Test.YbulkbmqmProg
import Derived.Test.YbulkbmqmKeepInt
namespace Go.Proofs.Ybulkbmqm
open Go.RowKit
theorem gby_none {w a : World} (h : w.grownBy a none) : Below w.heap.size w a := ⟨h.os, h.tape, h.output, h.size, fun k hk => h.block k hk (by simp)⟩
theorem below_gby {w a : World} (h : Below w.heap.size w a) : w.grownBy a none := ⟨h.os, h.tape, h.output, h.size, fun k hk _ => h.block k hk⟩
def xr (c : Int) : Int := bits BinOp.xor IntKind.u8 c 255
set_option maxHeartbeats 400000 in
theorem clof_any (c t : Int) (q : Option Addr) (n cq : Nat) (b : Bool) (w : World) (hb : (t.tmod 3 != 0) = b) :
    Calls Yba.prog 14 #[.agg #[.int .u8 c, .int .u16 t, .slice q n cq]] w fun e' w' => e' = .returned (.tuple #[.agg #[.int .u8 (xr c), .int .u16 t, .slice q n cq], .bool b]) ∧ Below w.heap.size w w' := by
  have HB := hide hb
  clear hb
  go_enter Yba.func14, Yba.ntmps14
  go_wp2
  go_region_held3 (fun w' => w'.cell? ⟨w.heap.size, 0, none⟩ = some (.int .u8 c) ∧ w'.cell? ⟨w.heap.size, 1, none⟩ = some (.int .u16 t) ∧ w'.cell? ⟨w.heap.size, 2, none⟩ = some (.slice q n cq))
    (refine ⟨?_, ?_, ?_⟩ <;> with_reducible repeat (first | assumption | apply cell_dr | (simp; done) | apply cell_al))
    (fail)
  go_wp2
  rw [HB.out]
  exact bodyPost_ret (v := .tuple #[.agg #[.int .u8 (bits BinOp.xor IntKind.u8 c 255), .int .u16 t, .slice q n cq], .bool b]) (by simp [results, Yba.results14, go_sem]) rfl ⟨rfl, (((Below.refl _ _).alloc (Nat.le_refl _) _).alloc (by simp) _).drew⟩

/-- The offer, its parameter cells by a function. -/
def OffF (w : World) (g : Nat) (es : List Ent) (s : Nat → Value) : Prop := ∀ k e, es[k]? = some e →
  w.cell? ⟨g, k * 3, none⟩ = some (.int .u8 e.c) ∧ w.cell? ⟨g, k * 3 + 1, none⟩ = some (.int .u16 e.t) ∧ w.cell? ⟨g, k * 3 + 2, none⟩ = some (s k) ∧ ∃ p n cap, s k = .slice p n cap ∧ e.bs.length = n ∧ Lib.BytesIn w p n e.bs
theorem OffAt.fn {w : World} {g : Nat} {es : List Ent} (h : OffAt w g es) : ∃ s, OffF w g es s := by
  refine ⟨fun k => (w.cell? ⟨g, k * 3 + 2, none⟩).getD undef, fun k e he => ?_⟩
  obtain ⟨p, n, cap, h0, h1, h2, h3, h4⟩ := h k e he
  exact ⟨h0, h1, by simp [h2], p, n, cap, by simp [h2], h3, h4⟩
def isK (es : List Ent) (i : Nat) : Bool := (es[i]?.map fun e => (e.t.tmod 3 != 0)).getD false
def keptN (es : List Ent) (k : Nat) : Nat := ((List.range k).filter (isK es)).length
def trip (es : List Ent) (s : Nat → Value) (i : Nat) : List Value := match es[i]? with | some e => [.int .u8 (xr e.c), .int .u16 e.t, s i] | none => []
def keptV (es : List Ent) (s : Nat → Value) (k : Nat) : List Value := ((List.range k).filter (isK es)).flatMap (trip es s)
theorem keptN_le (es : List Ent) (k : Nat) : keptN es k ≤ k := by
  unfold keptN; exact Nat.le_trans (List.length_filter_le _ _) (by simp)
theorem keptN_no {es : List Ent} {k : Nat} {e : Ent} (he : es[k]? = some e) (hk : (e.t.tmod 3 != 0) = false) : keptN es (k + 1) = keptN es k := by
  unfold keptN; rw [List.range_succ, List.filter_append]; simp [isK, he, hk]
theorem keptN_yes {es : List Ent} {k : Nat} {e : Ent} (he : es[k]? = some e) (hk : (e.t.tmod 3 != 0) = true) : keptN es (k + 1) = keptN es k + 1 := by
  unfold keptN; rw [List.range_succ, List.filter_append]; simp [isK, he, hk]
theorem keptV_no {es : List Ent} {s : Nat → Value} {k : Nat} {e : Ent} (he : es[k]? = some e) (hk : (e.t.tmod 3 != 0) = false) : keptV es s (k + 1) = keptV es s k := by
  unfold keptV; rw [List.range_succ, List.filter_append]; simp [isK, he, hk]
theorem keptV_yes {es : List Ent} {s : Nat → Value} {k : Nat} {e : Ent} (he : es[k]? = some e) (hk : (e.t.tmod 3 != 0) = true) : keptV es s (k + 1) = keptV es s k ++ [.int .u8 (xr e.c), .int .u16 e.t, s k] := by
  unfold keptV; rw [List.range_succ, List.filter_append]; simp [isK, he, hk, trip]
theorem keptV_len {es : List Ent} {s : Nat → Value} : ∀ {k : Nat}, k ≤ es.length → (keptV es s k).length = keptN es k * 3
  | 0, _ => rfl
  | k + 1, h => by
    obtain ⟨e, he⟩ : ∃ e, es[k]? = some e := ⟨es[k]'(by omega), by rw [List.getElem?_eq_getElem]⟩
    have ih := keptV_len (es := es) (s := s) (k := k) (by omega)
    cases hk : (e.t.tmod 3 != 0)
    · rw [keptV_no he hk, keptN_no he hk, ih]
    · rw [keptV_yes he hk, keptN_yes he hk, List.length_append, ih]; simp; omega
theorem keptV_pre {es : List Ent} {s : Nat → Value} {k : Nat} : ∀ {m : Nat}, k + m ≤ es.length → ∃ r, keptV es s (k + m) = keptV es s k ++ r
  | 0, _ => ⟨[], by simp⟩
  | m + 1, h => by
    obtain ⟨r, hr⟩ := keptV_pre (es := es) (s := s) (k := k) (m := m) (by omega)
    obtain ⟨e, he⟩ : ∃ e, es[k + m]? = some e := ⟨es[k + m]'(by omega), by rw [List.getElem?_eq_getElem]⟩
    cases hk : (e.t.tmod 3 != 0)
    · exact ⟨r, by rw [← Nat.add_assoc, keptV_no he hk, hr]⟩
    · exact ⟨r ++ [.int .u8 (xr e.c), .int .u16 e.t, s (k + m)], by rw [← Nat.add_assoc, keptV_yes he hk, hr, List.append_assoc]⟩
theorem keptV_at {es : List Ent} {s : Nat → Value} {k : Nat} {e : Ent} (he : es[k]? = some e) (hk : (e.t.tmod 3 != 0) = true) :
    (keptV es s es.length)[keptN es k * 3]? = some (.int .u8 (xr e.c)) ∧ (keptV es s es.length)[keptN es k * 3 + 1]? = some (.int .u16 e.t) ∧ (keptV es s es.length)[keptN es k * 3 + 2]? = some (s k) := by
  have hl : k < es.length := (List.getElem?_eq_some_iff.1 he).1
  obtain ⟨r, hr⟩ := keptV_pre (es := es) (s := s) (k := k + 1) (m := es.length - (k + 1)) (by omega)
  rw [show k + 1 + (es.length - (k + 1)) = es.length by omega] at hr
  have hlen := keptV_len (es := es) (s := s) (k := k) (by omega)
  rw [hr, keptV_yes he hk, ← hlen, List.append_assoc]
  refine ⟨?_, ?_, ?_⟩
  · rw [List.getElem?_append_right (by omega)]; simp
  · rw [List.getElem?_append_right (by omega)]; simp [Nat.add_sub_cancel_left]
  · rw [List.getElem?_append_right (by omega)]; simp [Nat.add_sub_cancel_left]
theorem keptN_lt {es : List Ent} {k : Nat} {e : Ent} (he : es[k]? = some e) (hk : (e.t.tmod 3 != 0) = true) : keptN es k < keptN es es.length := by
  obtain ⟨h, _, _⟩ := keptV_at (s := fun _ => undef) he hk
  have h1 := (List.getElem?_eq_some_iff.1 h).1
  rw [keptV_len (Nat.le_refl _)] at h1
  omega

theorem cell_three_new (w : World) (a b c : Value) (t : TypeId) : ∀ j u, [a, b, c][j]? = some u → (w.alloc (.cells #[a, b, c] t)).cell? ((⟨w.heap.size, 0, none⟩ : Addr).add j) = some u := by
  intro j u hu
  rw [Go.WideShapes.add_plain, Nat.zero_add, World.cell?_alloc_new]
  simpa using hu
set_option maxHeartbeats 1000000 in
theorem keep_cod (es : List Ent) (s : Nat → Value) (len g : Nat) (w : World) (hlen : es.length = len) (hmax : len ≤ 1024) (hoff : OffF w g es s) :
    Calls Yba.prog 15 #[.slice (some ⟨g, 0, none⟩) len len, .func (.func 14) #[] #[]] w fun e' w' =>
      ∃ gg cg, e' = .returned (.slice (some ⟨gg, 0, none⟩) (keptN es len) cg) ∧ KR w w' none 43 3 (.slice (some ⟨gg, 0, none⟩) (keptN es len) cg) (keptN es len) (keptV es s len) := by
  have hmk := fun w => make43 0 len (Nat.zero_le _) hmax w
  simp only [Int.natCast_zero] at hmk
  have hlen' : Hid (es.length = len) := hlen
  have hoff' := hide hoff
  clear hlen hoff
  have hK0 : KR w (w.alloc (.cells (zer (len * 3)) 43)) none 43 3 (.slice (some ⟨w.heap.size, 0, none⟩) 0 len) (keptN es 0) (keptV es s 0) :=
    ⟨World.ownsRow_made w _ len (Nat.le_refl _) (by unfold maxLen; omega) (zer_size _), (fun e => by cases e), World.grownBy_alloc _ _ _⟩
  go_enter Yba.func15, Yba.ntmps15
  go_wp2
  clear hmk
  go_loopg [5, 15] len (fun gk v i wr => ∃ k : Nat, gk + k = len ∧ i = .int .i64 k ∧ KR w wr none 43 3 v (keptN es k) (keptV es s k))
  case atStart => exact ⟨0, by omega, rfl, hK0⟩
  case round =>
    obtain ⟨k, hk, rfl, hK⟩ := hrel
    clear hK0
    by_cases hlt : k < len
    · obtain ⟨e, he⟩ : ∃ e, es[k]? = some e := ⟨es[k]'(by rw [hlen'.out]; exact hlt), by rw [List.getElem?_eq_getElem]⟩
      obtain ⟨g0, g1, g2, q, n, cq, hsk, g3, g4⟩ := hoff'.out k e he
      rw [hsk] at g2
      have hbr : Below w.heap.size w wr := gby_none hK.2.2
      have d0 := cell_bl hbr g0
      have d1 := cell_bl hbr g1
      have d2 := cell_bl hbr g2
      have HKR := hide hK
      have HK : Hid (gk + k = len) := hk
      have HE : Hid (es[k]? = some e) := he
      have HSK := hide hsk
      have hkl := keptN_le es k
      obtain ⟨i0, hi0, hzz⟩ := Option.map_eq_some_iff.1 info43
      simp only [Prod.mk.injEq] at hzz
      obtain ⟨hz0, hz1, hz2⟩ := hzz
      have hwz := hbr.size
      clear hK hk he g0 g1 g2 hbr hsk g3 g4
      cases hek : (e.t.tmod 3 != 0)
      · have HEK := hide hek
        have HCL := hide (fun w => clof_any e.c e.t q n cq _ w hek)
        clear hek
        go_wp2_with (go_at_call 14; refine (Hid.out HCL _).mono ?_; rintro e' w2 ⟨rfl, hg2⟩; clear HCL)
        go_roundg (gk - 1)
        case measure => have := HK.out; omega
        case rel => exact ⟨k + 1, by have := HK.out; omega, by go_num, by rw [keptN_no HE.out HEK.out, keptV_no HE.out HEK.out]; exact HKR.out.drop (gby_trans (gby_trans (World.grownBy_alloc wr _ _) (below_gby hg2)) (World.grownBy_alloc _ _ _)) (fun j hj => by cases hj)⟩
      · have HEK := hide hek
        have HCL := hide (fun w => clof_any e.c e.t q n cq _ w hek)
        clear hek
        go_wp2_with (first
          | (at_builtin; refine wpList_append_own _ rfl _ _ 38 rfl w.heap.size 43 i0 (.agg #[.int .u8 0, .int .u16 0, .slice none 0 0]) 3 32 Yba.underlying38 hi0 hz0 hz1 hz2 rfl (by decide) _ _ _ rfl (HOWN.out.alloc _) ⟨w2.heap.size + 1, 0, none⟩ 1 1 [.int .u8 (xr e.c), .int .u16 e.t, .slice q n cq] rfl rfl ?hnews (fun x hx => by simp at hx; rcases hx with rfl | rfl | rfl <;> rfl) (by unfold maxLen; omega) (by omega) (by simp; omega) ?_)
          | (go_at_call 14; refine (Hid.out HCL _).mono ?_; rintro e' w2 ⟨rfl, hg2⟩; clear HCL; have HG2 := hide (gby_trans (gby_trans (World.grownBy_alloc wr _ _) (below_gby hg2)) (World.grownBy_alloc w2 (.cells #[.int .u8 (xr e.c), .int .u16 e.t, .slice q n cq] 43) none)); have HOWN := hide (HKR.out.row HG2.out (fun j hj => by cases hj)); have hw2 := Nat.le_trans hwz HG2.out.size; simp at hw2; clear hg2))
        case hnews =>
          have h := cell_three_new (w2.alloc (.cells #[.int .u8 (xr e.c), .int .u16 e.t, .slice q n cq] 43)) (.int .u8 (xr e.c)) (.int .u16 e.t) (.slice q n cq) 43
          rw [World.size_alloc] at h
          exact h
        intro v' w3 hown3 hg3 hnil
        have HO3 := hide hown3
        have HG3 := hide hg3
        have HN3 := hide hnil
        clear hown3 hg3 hnil
        go_wp2
        go_roundg (gk - 1)
        case measure => have := HK.out; omega
        case rel =>
          refine ⟨k + 1, by have := HK.out; omega, by go_num, ?_⟩
          rw [keptN_yes HE.out HEK.out, keptV_yes HE.out HEK.out, HSK.out]
          exact HKR.out.keep HG2.out HO3.out HG3.out HN3.out
    · go_wp2
      have hkk : k = len := by omega
      subst hkk
      go_ret
      obtain ⟨gg, cg, hv⟩ := hK.form
      subst hv
      exact ⟨gg, cg, rfl, hK⟩
end Go.Proofs.Ybulkbmqm
