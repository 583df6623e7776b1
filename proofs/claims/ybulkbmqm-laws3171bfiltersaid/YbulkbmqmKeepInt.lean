import Derived.Test.YbulkbmqmProg
import Derived.Test.YbulkbmqmBase
import Derived.Outline
import Derived.BigQuiet
import Derived.Deep.QuietTactic
namespace Go.Proofs.Ybulkbmqm
open Go.RowKit
theorem cell_one {w : World} {b : Nat} {v : Value} {t : TypeId} (h : w.heap[b]? = some (.cells #[v] t (0, 0))) : w.cell? ⟨b, 0, none⟩ = some v ∧ w.frozen? ⟨b, 0, none⟩ = false := by
  simp [World.cell?, World.frozen?, h]
set_option maxHeartbeats 800000 in
theorem clos_any (e : Ent) (es : List Ent) (q p : Option Addr) (n cq len cap g bc bi bb bo k : Nat) (w1 w : World) (hb : Below w1.heap.size w1 w) (hk : k < len) (hmax : len ≤ 1024)
    (hc : w.heap[bc]? = some (.cells #[.int .i64 k] 3 (0, 0))) (hi : w1.cell? ⟨bi, 0, none⟩ = some (.slice p len cap)) (ho : w.cell? ⟨bo, 0, none⟩ = some (.slice (some ⟨g, 0, none⟩) len len))
    (hcb : w1.heap.size ≤ bc) (hne : bc ≠ bo) (he : es[k]? = some e) (hin : InAt w1 p es)
    (g0 : w1.cell? ⟨g, k * 3, none⟩ = some (.int .u8 e.c)) (g1 : w1.cell? ⟨g, k * 3 + 1, none⟩ = some (.int .u16 e.t)) (g2 : w1.cell? ⟨g, k * 3 + 2, none⟩ = some (.slice q n cq)) (g3 : e.bs.length = n) (g4 : Lib.BytesIn w1 q n e.bs) :
    Calls Yba.prog 10 #[.agg #[.int .u8 e.c, .int .u16 e.t, .slice q n cq], .pointer (some ⟨bc, 0, none⟩), .pointer (some ⟨bi, 0, none⟩), .pointer (some ⟨bb, 0, none⟩), .pointer (some ⟨bo, 0, none⟩)] w fun e' w' =>
      e' = .returned (.tuple #[.int .i64 k, .bool e.k]) ∧ w.grownBy w' (some bc) ∧ w'.heap[bc]? = some (.cells #[.int .i64 ((k + 1 : Nat) : Int)] 3 (0, 0)) := by
  obtain ⟨hc0, hf0⟩ := cell_one hc
  obtain ⟨W, hW⟩ : ∃ W, W = w.setCell ⟨bc, 0, none⟩ (.int .i64 ((k : Int) + 1)) := ⟨_, rfl⟩
  have hbW : Below w1.heap.size w1 W := by rw [hW]; exact hb.setCell hcb _
  have hsz : W.heap.size = w.heap.size := by rw [hW]; simp [World.setCell]
  have hWc : W.heap[bc]? = some (.cells #[.int .i64 ((k + 1 : Nat) : Int)] 3 (0, 0)) := by
    rw [hW]; simp [World.setCell, Array.getElem?_modify, hc]
  have hgW : w.grownBy W (some bc) := by
    rw [hW]; exact ⟨rfl, rfl, rfl, by simp [World.setCell], fun j _ hj => Below.heap_setCell _ _ _ _ (fun h => hj (by simp [h]))⟩
  have i1 := cell_bl hbW hi
  have o1 : W.cell? ⟨bo, 0, none⟩ = some (.slice (some ⟨g, 0, none⟩) len len) := by rw [hW]; exact cell_st hne ho
  have d0 := cell_bl hbW g0
  have d1 := cell_bl hbW g1
  have d2 := cell_bl hbW g2
  have d4 := Bytes.mono g4 hbW
  obtain ⟨b, o, rfl, h0, h1, h2, h3, h4, h5, h6, h7⟩ := (hin.mono hbW) k e he
  have hst : w.setCell ⟨bc, 0, none⟩ (.int .i64 ((k : Int) + 1)) = W := hW.symm
  have li : bi < W.heap.size := World.block_lt_of_cell? _ _ i1
  have lo : bo < W.heap.size := World.block_lt_of_cell? _ _ o1
  have lg : g < W.heap.size := World.block_lt_of_cell? _ _ d0
  have lb : b < W.heap.size := World.block_lt_of_cell? _ _ h0
  have hszW : w.heap.size = W.heap.size := hsz.symm
  have hlt : bc < W.heap.size := by rw [hsz]; exact World.block_lt_of_cell? _ _ hc0
  have lo1 : bo < W.heap.size + 1 := by omega
  have lg1 : g < W.heap.size + 1 := by omega
  have hki : (k : Int) < (len : Int) := by omega
  clear hin hi ho g0 g1 g2 hb he hc hcb
  have HW : Hid (W.heap.size = w.heap.size) := hsz
  have HC : Hid (W.heap[bc]? = some (.cells #[.int .i64 ((k + 1 : Nat) : Int)] 3 (0, 0))) := hWc
  have HG : Hid (w.grownBy W (some bc)) := hgW
  have HWW : Hid (W = w.setCell ⟨bc, 0, none⟩ (.int .i64 ((k : Int) + 1))) := hW
  clear hsz hWc hgW hW
  go_enter Yba.func10, Yba.ntmps10
  go_wp2
  have hbw : Below W.heap.size W (W.alloc (.cells #[.int .u8 e.c, .int .u16 e.t, .slice q n cq] 43)) := (Below.refl _ _).alloc (Nat.le_refl _) _
  have c1 := Bytes.mono d4 hbw.drew
  go_region_held3 (fun w' => w'.cell? ⟨bo, 0, none⟩ = some (.slice (some ⟨g, 0, none⟩) len len) ∧ w'.cell? ⟨g, k * 3, none⟩ = some (.int .u8 e.c) ∧ w'.cell? ⟨g, k * 3 + 1, none⟩ = some (.int .u16 e.t) ∧ w'.cell? ⟨g, k * 3 + 2, none⟩ = some (.slice q n cq)
      ∧ w'.cell? ⟨W.heap.size, 0, none⟩ = some (.int .u8 e.c) ∧ w'.cell? ⟨W.heap.size, 1, none⟩ = some (.int .u16 e.t) ∧ w'.cell? ⟨W.heap.size, 2, none⟩ = some (.slice q n cq))
    (refine ⟨?_, ?_, ?_, ?_, ?_, ?_, ?_⟩ <;> with_reducible repeat (first | assumption | (simp; done) | apply cell_dr | apply cell_al | (apply cell_bl (by assumption))))
    (first | (go_at_call 11; refine (same_eq e.c e.t q q n n cq cq e.bs _ g3 g3 c1 c1).mono ?_; rintro e' w' ⟨rfl, rfl⟩))
  go_wp2
  go_region_held3 (fun w' => w'.cell? ⟨bi, 0, none⟩ = some (.slice (some ⟨b, o, none⟩) len cap) ∧ w'.cell? ⟨b, o + k * 4 + 3, none⟩ = some (.bool e.k))
    (refine ⟨?_, ?_⟩ <;> with_reducible repeat (first | assumption | apply cell_dr | apply cell_al))
    (fail)
  go_wp2
  go_ret2
  have hb3 : Below W.heap.size W ((((W.alloc (.cells #[.int .u8 e.c, .int .u16 e.t, .slice q n cq] 43)).alloc (.cells #[.int .u8 e.c, .int .u16 e.t, .slice q n cq] 43)).alloc (.cells #[.int .u8 e.c, .int .u16 e.t, .slice q n cq] 43)).drew.drew) :=
    (((((Below.refl _ _).alloc (Nat.le_refl _) _).alloc (by simp) _).alloc (by simp <;> omega) _).drew).drew
  refine ⟨rfl, ?_, ?_⟩
  · exact ⟨hb3.os.trans HG.out.os, hb3.tape.trans HG.out.tape, hb3.output.trans HG.out.output, Nat.le_trans HG.out.size hb3.size, fun j hj hn => (hb3.block j (by omega)).trans (HG.out.block j hj hn)⟩
  · exact (hb3.block bc hlt).trans HC.out

theorem hide {p : Prop} (h : p) : Hid p := h
theorem gby_trans {w a b : World} {ex : Option Nat} (h : w.grownBy a ex) (k : a.grownBy b ex) : w.grownBy b ex :=
  ⟨k.os.trans h.os, k.tape.trans h.tape, k.output.trans h.output, Nat.le_trans h.size k.size, fun j hj hn => (k.block j (Nat.lt_of_lt_of_le hj h.size) hn).trans (h.block j hj hn)⟩
theorem gby_own {w a b : World} {ex r : Option Nat} (h : w.grownBy a ex) (k : a.grownBy b r) (hr : ∀ j, r = some j → w.heap.size ≤ j) : w.grownBy b ex :=
  ⟨k.os.trans h.os, k.tape.trans h.tape, k.output.trans h.output, Nat.le_trans h.size k.size, fun j hj hn => (k.block j (Nat.lt_of_lt_of_le hj h.size) (fun e => by have := hr j e.symm; omega)).trans (h.block j hj hn)⟩
theorem gby_refl (w : World) (ex : Option Nat) : w.grownBy w ex := ⟨rfl, rfl, rfl, Nat.le_refl _, fun _ _ _ => rfl⟩
theorem gby_drew {w a : World} {ex : Option Nat} (h : w.grownBy a ex) : w.grownBy a.drew ex := ⟨h.os, h.tape, h.output, h.size, h.block⟩
theorem gby_below {w a b : World} {B bc : Nat} (hb : Below B w a) (h : a.grownBy b (some bc)) (hB : B ≤ a.heap.size) (hbc : B ≤ bc) : Below B w b := hb.grown h hB (fun k hk => by cases hk; exact hbc)
theorem gby_cell {w a : World} {ex : Option Nat} {p : Addr} {v : Value} (h : w.grownBy a ex) (hc : w.cell? p = some v) (hne : some p.block ≠ ex) : a.cell? p = some v := h.cell hc hne

/-- What keep has gathered so far. -/
def KR (w wr : World) (ex : Option Nat) (T size : Nat) (v : Value) (n : Nat) (xs : List Value) : Prop := wr.ownsRow w.heap.size T size v n xs ∧ v ≠ .slice none 0 0 ∧ w.grownBy wr ex
theorem KR.own {w wr : World} {ex : Option Nat} {T size n : Nat} {v : Value} {xs : List Value} (h : KR w wr ex T size v n xs) : ∀ j, v.ownBlock = some j → w.heap.size ≤ j := fun j hj => (h.1.lt j hj).1
theorem KR.row {w wr w2 : World} {ex : Option Nat} {T size n : Nat} {v : Value} {xs : List Value} (h : KR w wr ex T size v n xs) (g : wr.grownBy w2 ex) (hx : ∀ j, ex = some j → j < w.heap.size) : w2.ownsRow w.heap.size T size v n xs := by
  refine h.1.kept g ?_
  cases hv : v.ownBlock with
  | none => exact .inl rfl
  | some j => exact .inr fun e => by have h1 := h.own j hv; have h2 := hx j e.symm; omega
theorem KR.drop {w wr w2 : World} {ex : Option Nat} {T size n : Nat} {v : Value} {xs : List Value} (h : KR w wr ex T size v n xs) (g : wr.grownBy w2 ex) (hx : ∀ j, ex = some j → j < w.heap.size) : KR w w2 ex T size v n xs :=
  ⟨h.row g hx, h.2.1, gby_trans h.2.2 g⟩
theorem KR.keep {w wr w2 w3 : World} {ex : Option Nat} {T size n n' : Nat} {v v' : Value} {xs xs' : List Value} {D : Obj} (h : KR w wr ex T size v n xs) (g : wr.grownBy w2 ex)
    (ho : w3.ownsRow w.heap.size T size v' n' xs') (g3 : (w2.alloc D).grownBy w3 v.ownBlock) (hn : ¬ v' = .slice none 0 0) : KR w w3 ex T size v' n' xs' :=
  ⟨ho, hn, gby_own (gby_trans h.2.2 (gby_trans g (World.grownBy_alloc _ _ _))) g3 h.own⟩

theorem KR.form {w wr : World} {ex : Option Nat} {T size n : Nat} {v : Value} {xs : List Value} (h : KR w wr ex T size v n xs) : ∃ g c, v = .slice (some ⟨g, 0, none⟩) n c := by
  rcases h.1.2 with ⟨hv, _⟩ | ⟨g, cap, cur, hv, _⟩
  · exact absurd hv h.2.1
  · exact ⟨g, cap, hv⟩
theorem KR.cell {w wr : World} {ex : Option Nat} {T size n g c : Nat} {xs : List Value} (h : KR w wr ex T size (.slice (some ⟨g, 0, none⟩) n c) n xs) (j : Nat) (u : Value) (hu : xs[j]? = some u) : wr.cell? ⟨g, j, none⟩ = some u := by
  have := h.1.cells (g := g) rfl j u hu
  rwa [Go.WideShapes.add_plain, Nat.zero_add] at this
def keptI (es : List Ent) (k : Nat) : List Int := ((List.range k).filter fun i => (es[i]?.map Ent.k).getD false).map fun (i : Nat) => (i : Int)
theorem keptI_le (es : List Ent) (k : Nat) : (keptI es k).length ≤ k := by
  unfold keptI; rw [List.length_map]; exact Nat.le_trans (List.length_filter_le _ _) (by simp)
theorem keptI_yes (es : List Ent) (k : Nat) (e : Ent) (he : es[k]? = some e) (hk : e.k = true) : keptI es (k + 1) = keptI es k ++ [(k : Int)] := by
  unfold keptI; rw [List.range_succ, List.filter_append]; simp [he, hk]
theorem keptI_no (es : List Ent) (k : Nat) (e : Ent) (he : es[k]? = some e) (hk : e.k = false) : keptI es (k + 1) = keptI es k := by
  unfold keptI; rw [List.range_succ, List.filter_append]; simp [he, hk]

def zei (n : Nat) : Array Value := madeCells #[.int .i64 0] n
theorem zei_size (n : Nat) : (zei n).size = n := size_madeCells _ _
theorem info3 : (Yba.prog.info? 3).map (fun i => (i.zero, i.size, i.bytes)) = some (some (.int .i64 0), 1, 8) := by kernel_rfl
theorem make3 (n : Nat) (hn : n ≤ 1024) (w : World) :
    (Instr.makeSlice 48 (.int .i64 0) (.int .i64 (n : Int))).run Yba.prog w = .ok (.slice (some ⟨w.heap.size, 0, none⟩) 0 n) (w.alloc (.cells (zei n) 3)) := by
  obtain ⟨i, hi, hzz⟩ := Option.map_eq_some_iff.1 info3
  simp only [Prod.mk.injEq] at hzz
  obtain ⟨hz, hs, hb⟩ := hzz
  have hr := run_make (P := Yba.prog) w 48 3 i _ Yba.underlying48 hi hz .i64 .i64 0 n (by omega) (by omega) (by rw [hb]; omega) (by omega)
  simp only [Int.toNat_natCast, hs, Nat.mul_one] at hr
  exact hr

set_option maxHeartbeats 800000 in
theorem keep_int (es : List Ent) (p : Option Addr) (len cap g bc bi bb bo : Nat) (w1 w : World) (hb : Below w1.heap.size w1 w) (hlen : es.length = len) (hmax : len ≤ 1024)
    (hc : w.heap[bc]? = some (.cells #[.int .i64 0] 3 (0, 0))) (hi : w1.cell? ⟨bi, 0, none⟩ = some (.slice p len cap)) (ho : w.cell? ⟨bo, 0, none⟩ = some (.slice (some ⟨g, 0, none⟩) len len))
    (hcb : w1.heap.size ≤ bc) (hne : bc ≠ bo) (hin : InAt w1 p es) (hoff : OffAt w1 g es) :
    Calls Yba.prog 12 #[.slice (some ⟨g, 0, none⟩) len len, .func (.func 10) #[] #[.pointer (some ⟨bc, 0, none⟩), .pointer (some ⟨bi, 0, none⟩), .pointer (some ⟨bb, 0, none⟩), .pointer (some ⟨bo, 0, none⟩)]] w fun e' w' =>
      ∃ gg cg, e' = .returned (.slice (some ⟨gg, 0, none⟩) (keptI es len).length cg) ∧ KR w w' (some bc) 3 1 (.slice (some ⟨gg, 0, none⟩) (keptI es len).length cg) (keptI es len).length ((keptI es len).map (Value.int .i64)) ∧ w'.heap[bc]? = some (.cells #[.int .i64 len] 3 (0, 0)) := by
  have hmk := fun w => make3 len hmax w
  have hlen' : Hid (es.length = len) := hlen
  have hbcw : bc < w.heap.size := (Array.getElem?_eq_some_iff.1 hc).1
  have hsz1 := hb.size
  clear hlen
  have hK0 : KR w (w.alloc (.cells (zei len) 3)) (some bc) 3 1 (.slice (some ⟨w.heap.size, 0, none⟩) 0 len) (keptI es 0).length ((keptI es 0).map (Value.int .i64)) :=
    ⟨World.ownsRow_made w _ len (Nat.le_refl _) (by unfold maxLen; omega) ((zei_size len).trans (Nat.mul_one _).symm), (fun e => by cases e), World.grownBy_alloc _ _ _⟩
  have hC0 : (w.alloc (.cells (zei len) 3)).heap[bc]? = some (.cells #[.int .i64 ((0 : Nat) : Int)] 3 (0, 0)) := (heap_alloc_old w _ hbcw).trans hc
  go_enter Yba.func12, Yba.ntmps12
  go_wp2
  clear hmk
  go_loopg [5, 15] len (fun gk v i wr => ∃ k : Nat, gk + k = len ∧ i = .int .i64 k ∧ KR w wr (some bc) 3 1 v (keptI es k).length ((keptI es k).map (Value.int .i64)) ∧ wr.heap[bc]? = some (.cells #[.int .i64 k] 3 (0, 0)))
  case atStart => exact ⟨0, by omega, rfl, hK0, hC0⟩
  case round =>
    obtain ⟨k, hk, rfl, hK, hC⟩ := hrel
    clear hK0 hC0
    by_cases hlt : k < len
    · obtain ⟨e, he⟩ : ∃ e, es[k]? = some e := ⟨es[k]'(by rw [hlen'.out]; exact hlt), by rw [List.getElem?_eq_getElem]⟩
      obtain ⟨q, n, cq, g0, g1, g2, g3, g4⟩ := hoff k e he
      have hbr : Below w1.heap.size w1 wr := gby_below hb hK.2.2 hsz1 hcb
      have d0 := cell_bl hbr g0
      have d1 := cell_bl hbr g1
      have d2 := cell_bl hbr g2
      have hba : Below w1.heap.size w1 (wr.alloc (.cells #[.int .u8 e.c, .int .u16 e.t, .slice q n cq] 43)) := hbr.alloc hbr.size _
      have hbcr : bc < wr.heap.size := (Array.getElem?_eq_some_iff.1 hC).1
      have hca : (wr.alloc (.cells #[.int .u8 e.c, .int .u16 e.t, .slice q n cq] 43)).heap[bc]? = some (.cells #[.int .i64 k] 3 (0, 0)) := (heap_alloc_old wr _ hbcr).trans hC
      have hoa : (wr.alloc (.cells #[.int .u8 e.c, .int .u16 e.t, .slice q n cq] 43)).cell? ⟨bo, 0, none⟩ = some (.slice (some ⟨g, 0, none⟩) len len) := cell_al _ (gby_cell hK.2.2 ho (by simp; exact fun h => hne h.symm))
      have hcl := clos_any e es q p n cq len cap g bc bi bb bo k w1 _ hba hlt hmax hca hi hoa hcb hne he hin g0 g1 g2 g3 g4
      have HCL := hide hcl
      have HKR := hide hK
      have HK : Hid (gk + k = len) := hk
      have HE : Hid (es[k]? = some e) := he
      have hkl := keptI_le es k
      obtain ⟨i0, hi0, hzz⟩ := Option.map_eq_some_iff.1 info3
      simp only [Prod.mk.injEq] at hzz
      obtain ⟨hz0, hz1, hz2⟩ := hzz
      have hwz := hK.2.2.size
      clear hcl hK hk he hin hoff hC hca hoa hba ho hi hc g0 g1 g2
      have hxb : Hid (∀ j, some bc = some j → j < w.heap.size) := fun j hj => by cases hj; exact hbcw
      cases hek : e.k
      · have HEK := hide hek
        go_wp2_with (go_at_call 10; refine (Hid.out HCL).mono ?_; rintro e' w2 ⟨rfl, hg2, hc2⟩; clear HCL)
        go_roundg (gk - 1)
        case measure => have := HK.out; omega
        case rel => exact ⟨k + 1, by have := HK.out; omega, by go_num, by rw [keptI_no es k e HE.out HEK.out]; exact HKR.out.drop (gby_trans (World.grownBy_alloc wr _ _) hg2) hxb.out, hc2⟩
      · have HEK := hide hek
        go_wp2_with (first
          | (at_builtin; refine wpList_append_own _ rfl _ _ 48 rfl w.heap.size 3 i0 (.int .i64 0) 1 8 Yba.underlying48 hi0 hz0 hz1 hz2 rfl (by decide) _ _ _ rfl (HOWN.out.alloc _) ⟨w2.heap.size, 0, none⟩ 1 1 [.int .i64 (k : Int)] rfl rfl (cell_one_new _ _ _) (fun x hx => by simp at hx; subst hx; rfl) (by unfold maxLen; omega) (by omega) (by simp; omega) ?_)
          | (go_at_call 10; refine (Hid.out HCL).mono ?_; rintro e' w2 ⟨rfl, hg2, hc2⟩; clear HCL; have HG2 := hide (gby_trans (World.grownBy_alloc wr _ _) hg2); have HC2 := hide hc2; have HOWN := hide (HKR.out.row HG2.out hxb.out); have hw2 := Nat.le_trans hwz HG2.out.size; clear hg2 hc2))
        intro v' w3 hown3 hg3 hnil
        have HO3 := hide hown3
        have HG3 := hide hg3
        have HN3 := hide hnil
        clear hown3 hg3 hnil
        go_wp2
        go_roundg (gk - 1)
        case measure => have := HK.out; omega
        case rel =>
          refine ⟨k + 1, by have := HK.out; omega, by go_num, ?_, ?_⟩
          · rw [keptI_yes es k e HE.out HEK.out]
            have := HKR.out.keep HG2.out HO3.out HG3.out HN3.out
            simpa using this
          · have hlt2 : bc < w2.heap.size := (Array.getElem?_eq_some_iff.1 HC2.out).1
            rw [HG3.out.block bc (by simp; omega) (fun e => by have := HKR.out.own bc e.symm; omega)]
            exact (heap_alloc_old w2 _ hlt2).trans HC2.out
    · go_wp2
      have hkk : k = len := by omega
      subst hkk
      go_ret
      obtain ⟨gg, cg, hv⟩ := hK.form
      subst hv
      exact ⟨gg, cg, rfl, hK, hC⟩
end Go.Proofs.Ybulkbmqm
