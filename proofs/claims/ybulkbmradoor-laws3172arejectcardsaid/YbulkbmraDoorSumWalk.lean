import Derived.Test.YbulkbmraDoorSum
import Derived.Deep.RegionHeld3
import Derived.Deep.LoopGhost
namespace Go.Proofs.YbulkbmraDoor
open Go.RowKit
theorem cell_dr {w : World} {a : Addr} {v : Value} (h : w.cell? a = some v) : w.drew.cell? a = some v := h
theorem cell_bl {w w1 : World} {a : Addr} {v : Value} (hb : Below w.heap.size w w1) (h : w.cell? a = some v) : w1.cell? a = some v := (hb.cell (World.block_lt_of_cell? _ _ h)).trans h
theorem cell_st {w : World} {g j b o : Nat} {u v : Value} (hne : g ≠ b) (h : w.cell? ⟨b, o, none⟩ = some u) : (w.setCell ⟨g, j, none⟩ v).cell? ⟨b, o, none⟩ = some u :=
  (World.cell?_setCell_other _ _ _ _ (fun e => hne (by cases e; rfl))).trans h
/-- The numbers of a []int64 that came in. -/
def XAt (w : World) (p : Option Addr) (len : Nat) (X : Nat → Int) : Prop := ∀ k, k < len → ∃ b o, p = some ⟨b, o, none⟩ ∧ w.cell? ⟨b, o + k, none⟩ = some (.int .i64 (X k)) ∧ -9223372036854775808 ≤ X k ∧ X k ≤ 9223372036854775807
/-- The marks of a []bool that came in. -/
def BAt (w : World) (p : Option Addr) (len : Nat) (Y : Nat → Bool) : Prop := ∀ k, k < len → ∃ b o, p = some ⟨b, o, none⟩ ∧ w.cell? ⟨b, o + k, none⟩ = some (.bool (Y k))
theorem XAt.mono {w w' : World} {p : Option Addr} {len : Nat} {X : Nat → Int} (h : XAt w p len X) (hb : Below w.heap.size w w') : XAt w' p len X := fun k hk => by
  obtain ⟨b, o, hp, hc, h1, h2⟩ := h k hk
  exact ⟨b, o, hp, cell_bl hb hc, h1, h2⟩
theorem BAt.mono {w w' : World} {p : Option Addr} {len : Nat} {Y : Nat → Bool} (h : BAt w p len Y) (hb : Below w.heap.size w w') : BAt w' p len Y := fun k hk => by
  obtain ⟨b, o, hp, hc⟩ := h k hk
  exact ⟨b, o, hp, cell_bl hb hc⟩
/-- The row of strings, its first k laid. -/
def SRow (w : World) (g len : Nat) (ss : Nat → ByteArray) (k : Nat) : Prop := ∃ cur : Array Value, w.heap[g]? = some (.cells cur 9 (0, 0)) ∧ cur.size = len ∧ ∀ j, j < k → cur[j]? = some (.string (ss j))
theorem SRow.cell {w : World} {g len k : Nat} {ss : Nat → ByteArray} (h : SRow w g len ss k) (j : Nat) (hj : j < len) : ∃ v, w.cell? ⟨g, j, none⟩ = some v := by
  obtain ⟨cur, hc, hs, _⟩ := h
  exact ⟨cur[j]'(by omega), by simp [World.cell?, hc, hs, hj]⟩
theorem SRow.frozen {w : World} {g len k : Nat} {ss : Nat → ByteArray} (h : SRow w g len ss k) (j : Nat) : w.frozen? ⟨g, j, none⟩ = false := by
  obtain ⟨cur, hc, _⟩ := h
  simp [World.frozen?, hc]
theorem SRow.lt {w : World} {g len k : Nat} {ss : Nat → ByteArray} (h : SRow w g len ss k) : g < w.heap.size := by
  obtain ⟨cur, hc, _⟩ := h
  exact (Array.getElem?_eq_some_iff.1 hc).1
theorem SRow.at {w : World} {g len k : Nat} {ss : Nat → ByteArray} (h : SRow w g len ss k) (j : Nat) (hj : j < k) : w.cell? ⟨g, j, none⟩ = some (.string (ss j)) := by
  obtain ⟨cur, hc, hs, hx⟩ := h
  simp [World.cell?, hc, hx j hj]
theorem SRow.mono {w w' : World} {g len k : Nat} {ss : Nat → ByteArray} (h : SRow w g len ss k) (hb : Below w.heap.size w w') : SRow w' g len ss k := by
  have := h.lt
  obtain ⟨cur, hc, hs, hx⟩ := h
  exact ⟨cur, (hb.block g this).trans hc, hs, hx⟩
theorem SRow.step {w : World} {g len k : Nat} {ss : Nat → ByteArray} (h : SRow w g len ss k) (hk : k < len) : SRow (w.setCell ⟨g, k, none⟩ (.string (ss k))) g len ss (k + 1) := by
  obtain ⟨cur, hc, hs, hx⟩ := h
  refine ⟨cur.setIfInBounds k (.string (ss k)), by simp [World.setCell, Array.getElem?_modify, hc], by simp [hs], fun j hj => ?_⟩
  by_cases e : j = k
  · subst e; rw [Array.getElem?_setIfInBounds_self_of_lt (by omega)]
  · rw [Array.getElem?_setIfInBounds_ne (by omega)]; exact hx j (by omega)
def zes (n : Nat) : Array Value := madeCells #[.string ByteArray.empty] n
theorem zes_size (n : Nat) : (zes n).size = n := size_madeCells _ _
theorem make9 (l n : Nat) (hl : l ≤ n) (hn : n ≤ 2000) (w : World) :
    (Instr.makeSlice 24 (.int .i64 (l : Int)) (.int .i64 (n : Int))).run Ybad.prog w = .ok (.slice (some ⟨w.heap.size, 0, none⟩) l n) (w.alloc (.cells (zes n) 9)) := by
  obtain ⟨i, hi, hzz⟩ := Option.map_eq_some_iff.1 info9
  simp only [Prod.mk.injEq] at hzz
  obtain ⟨hz, hs, hb⟩ := hzz
  have hr := run_make (P := Ybad.prog) w 24 9 i _ Ybad.underlying24 hi hz .i64 .i64 l n (by omega) (by omega) (by rw [hb]; omega) (by omega)
  simp only [Int.toNat_natCast, hs, Nat.mul_one] at hr
  exact hr
theorem old_kept {w w1 : World} {g j : Nat} {v : Value} (hb : Below w.heap.size w w1) (hc : w.cell? ⟨g, j, none⟩ = some v) (hf : w.frozen? ⟨g, j, none⟩ = false) :
    w1.cell? ⟨g, j, none⟩ = some v ∧ w1.frozen? ⟨g, j, none⟩ = false :=
  ⟨cell_bl hb hc, (hb.frozen (p := ⟨g, j, none⟩) (World.block_lt_of_cell? _ _ hc)).trans hf⟩
def sgn (len2 : Nat) (Y : Nat → Bool) (k : Nat) : Bool := if k < len2 then Y k else false
def sst (X : Nat → Int) (len2 : Nat) (Y : Nat → Bool) (k : Nat) : ByteArray := ⟨(txt (X k) (sgn len2 Y k)).toArray⟩

set_option maxHeartbeats 1000000 in
theorem sum_walk (p p2 : Option Addr) (len cap len2 cap2 : Nat) (X : Nat → Int) (Y : Nat → Bool) (w : World) (hmax : len ≤ 1024) (hX : XAt w p len X) (hY : BAt w p2 len2 Y) (h5 : 1 ≤ w.heap.size)
    (htab : Lib.TabIs Ybad.prog w powName .u64 Lib.pow10Tab) :
    Calls Ybad.prog 3 #[.slice p len cap, .slice p2 len2 cap2] w fun e w' => e = .returned (.bool true) ∧ Below w.heap.size w w' := by
  have hgt : ¬ (1024 : Int) < (len : Int) := by omega
  have hmk := fun w => make9 len len (Nat.le_refl _) (by omega) w
  have hR0 : SRow ((w.alloc (.cells (zes len) 9)).alloc (.cells #[.slice (some ⟨w.heap.size, 0, none⟩) len len] 24)) w.heap.size len (sst X len2 Y) 0 :=
    ⟨zes len, (heap_alloc_old _ _ (by simp)).trans (heap_alloc_new w _), zes_size _, fun j hj => by omega⟩
  have hc0 : ((w.alloc (.cells (zes len) 9)).alloc (.cells #[.slice (some ⟨w.heap.size, 0, none⟩) len len] 24)).cell? ⟨w.heap.size + 1, 0, none⟩ = some (.slice (some ⟨w.heap.size, 0, none⟩) len len) := by
    have h := World.cell?_alloc_new (w.alloc (.cells (zes len) 9)) #[.slice (some ⟨w.heap.size, 0, none⟩) len len] 24 0
    rw [World.size_alloc] at h; exact h
  have hB0 : Below w.heap.size w ((w.alloc (.cells (zes len) 9)).alloc (.cells #[.slice (some ⟨w.heap.size, 0, none⟩) len len] 24)) := ((Below.refl _ w).alloc (Nat.le_refl _) _).alloc (by simp) _
  have HX := hide hX
  have HY := hide hY
  clear hX hY
  go_enter Ybad.func3, Ybad.ntmps3
  go_wp2
  clear hmk
  go_loopg [6, 7] len (fun gk s i wr => ∃ k : Nat, gk + k = len ∧ i = .int .i64 k ∧ s = .int .i64 (S X k) ∧ SRow wr w.heap.size len (sst X len2 Y) k ∧ wr.cell? ⟨w.heap.size + 1, 0, none⟩ = some (.slice (some ⟨w.heap.size, 0, none⟩) len len) ∧ Below w.heap.size w wr)
  case atStart => exact ⟨0, by omega, rfl, rfl, hR0, hc0, hB0⟩
  case round =>
    obtain ⟨k, hk, rfl, rfl, hR, hc, hbel⟩ := hrel
    clear hR0 hc0 hB0
    have HK := hide hk
    have hSb := S_bd X k
    by_cases hlt : k < len
    · obtain ⟨b, o, rfl, hx0, hx1, hx2⟩ := HX.out k hlt
      have hbb : b < w.heap.size := World.block_lt_of_cell? _ _ hx0
      have hx := cell_bl hbel hx0
      clear hx0
      have hki : (k : Int) < (len : Int) := by omega
      obtain ⟨v, hv⟩ := hR.cell k hlt
      have hf := hR.frozen k
      have HR := hide hR
      have HB := hide hbel
      have hws : w.heap.size + 1 < wr.heap.size := World.block_lt_of_cell? _ _ hc
      have hne : w.heap.size ≠ w.heap.size + 1 := by omega
      have HI := hide (fun w => itoa_any (X k) (sgn len2 Y k) w hx1 hx2)
      have hnb : w.heap.size ≠ b := by omega
      clear hk hR hbel
      by_cases hl : k < len2
      · obtain ⟨b', o', rfl, hy⟩ := (HY.out.mono HB.out) k hl
        have hdl : decide ((k : Int) < (len2 : Int)) = true := by simp; omega
        have hkl : (k : Int) < (len2 : Int) := by omega
        have HSG : Hid (sgn len2 Y k = Y k) := if_pos hl
        rw [HSG.out] at HI
        go_wp2
        go_region_held3 (fun w' => w'.cell? ⟨w.heap.size + 1, 0, none⟩ = some (.slice (some ⟨w.heap.size, 0, none⟩) len len) ∧ w'.cell? ⟨b, o + k, none⟩ = some (.int .i64 (X k)))
          (refine ⟨?_, ?_⟩ <;> with_reducible repeat (first | assumption | apply cell_dr | apply cell_st hne | apply cell_st hnb | (apply cell_bl (by assumption))))
          (first | (go_at_call 5; refine (Hid.out HI _).mono ?_; rintro e w' ⟨rfl, hb⟩; obtain ⟨hv', hf'⟩ := old_kept (w := wr.drew) hb hv hf))
        go_wp2
        go_roundg (gk - 1)
        case measure => have := HK.out; omega
        case rel =>
          have hR1 := ((HR.out.mono (w' := wr.drew) (Below.refl _ wr).drew).mono hb).step hlt
          have hb1 : Below w.heap.size w w' := HB.out.trans ((Below.refl _ wr).drew.trans (hb.mono (B' := w.heap.size) (by show _ ≤ wr.heap.size; omega)))
          refine ⟨k + 1, by have := HK.out; omega, by go_num, rfl, ?_, ?_, hb1.setCell (p := ⟨w.heap.size, k, none⟩) (Nat.le_refl _) _⟩
          · have e : sst X len2 Y k = ⟨(txt (X k) (Y k)).toArray⟩ := by unfold sst; rw [HSG.out]
            rw [e] at hR1
            exact hR1
          · exact cell_st hne (cell_bl hb (cell_dr hc))
      · have hdl : decide ((k : Int) < (len2 : Int)) = false := by simp; omega
        have hkl : ¬ (k : Int) < (len2 : Int) := by omega
        have HSG : Hid (sgn len2 Y k = false) := if_neg hl
        rw [HSG.out] at HI
        go_wp2
        go_region_held3 (fun w' => w'.cell? ⟨w.heap.size + 1, 0, none⟩ = some (.slice (some ⟨w.heap.size, 0, none⟩) len len) ∧ w'.cell? ⟨b, o + k, none⟩ = some (.int .i64 (X k)))
          (refine ⟨?_, ?_⟩ <;> with_reducible repeat (first | assumption | apply cell_dr | apply cell_st hne | apply cell_st hnb | (apply cell_bl (by assumption))))
          (first | (go_at_call 5; refine (Hid.out HI _).mono ?_; rintro e w' ⟨rfl, hb⟩; obtain ⟨hv', hf'⟩ := old_kept (w := wr.drew) hb hv hf))
        go_wp2
        go_roundg (gk - 1)
        case measure => have := HK.out; omega
        case rel =>
          have hR1 := ((HR.out.mono (w' := wr.drew) (Below.refl _ wr).drew).mono hb).step hlt
          have hb1 : Below w.heap.size w w' := HB.out.trans ((Below.refl _ wr).drew.trans (hb.mono (B' := w.heap.size) (by show _ ≤ wr.heap.size; omega)))
          refine ⟨k + 1, by have := HK.out; omega, by go_num, rfl, ?_, ?_, hb1.setCell (p := ⟨w.heap.size, k, none⟩) (Nat.le_refl _) _⟩
          · have e : sst X len2 Y k = ⟨(txt (X k) false).toArray⟩ := by unfold sst; rw [HSG.out]
            rw [e] at hR1
            exact hR1
          · exact cell_st hne (cell_bl hb (cell_dr hc))
    · have hkk : k = len := by omega
      subst hkk
      have hws : w.heap.size + 1 < wr.heap.size := World.block_lt_of_cell? _ _ hc
      obtain ⟨W0, hW0⟩ : ∃ W0, (wr.alloc (.cells #[.int .i64 0] 3)).alloc (.cells #[.slice none 0 0] 24) = W0 := ⟨_, rfl⟩
      have hb0 : Below wr.heap.size wr W0 := by rw [← hW0]; exact ((Below.refl _ wr).alloc (Nat.le_refl _) _).alloc (by simp) _
      have hs0 : W0.heap.size = wr.heap.size + 2 := by rw [← hW0]; simp
      have hC0 : W0.heap[wr.heap.size]? = some (.cells #[.int .i64 0] 3 (0, 0)) := by rw [← hW0, heap_alloc_old _ _ (by simp)]; exact heap_alloc_new wr _
      have hl0 : W0.heap[wr.heap.size + 1]? = some (.cells #[.slice none 0 0] 24 (0, 0)) := by
        rw [← hW0]; have h := heap_alloc_new (wr.alloc (.cells #[.int .i64 0] 3)) (.cells #[.slice none 0 0] 24); rw [World.size_alloc] at h; exact h
      have hcb := cell_bl hb0 hc
      have hst : StrsAt W0 (w.heap.size + 1) W0.heap.size k (sst X len2 Y) := ⟨w.heap.size, k, by omega, hcb, fun _ => by omega, fun j hj => cell_bl hb0 (hR.at j hj)⟩
      have htab0 : Lib.TabIs Ybad.prog W0 powName .u64 Lib.pow10Tab := var?_below (hbel.trans (hb0.mono hbel.size)) powG (by omega) htab
      have hsum := sum_ok (w.heap.size + 1) wr.heap.size (wr.heap.size + 1) k (sst X len2 Y) X W0 (by omega) hst hC0 (by omega) (fun g' c' h _ => by rw [hcb] at h; cases h; omega) hl0 (by omega) (by omega)
        (fun i hi => by
          obtain ⟨_, _, _, _, h1, h2⟩ := HX.out i hi
          exact ⟨by have := txt_len (X i) (sgn len2 Y i) h1 h2; show (txt (X i) (sgn len2 Y i)).toArray.size ≤ 1000; simp; omega, by show Lib.atoiAll (txt (X i) (sgn len2 Y i)).toArray.toList = _; rw [List.toList_toArray]; exact atoi_txt _ _ h1 h2⟩) htab0
      have HSUM := hide hsum
      have HB0 := hide (hbel.trans (hb0.mono hbel.size))
      have HI := hide (fun w => itoa_any (S X k) false w hSb.1 hSb.2)
      have HCB := hide hcb
      have HS0 := hide hs0
      clear hsum htab htab0 hst hl0 hC0 hb0 hcb hR hbel hk hc hs0
      go_wp2_with fail
      refine HSUM.out.mono ?_
      rintro e W1 ⟨rfl, hC1, hT1, gl, cl, hl1, hx1⟩
      have hc1 := (cell_one hC1).1
      have hbs1 : W1.cell? ⟨w.heap.size + 1, 0, none⟩ = some (.slice (some ⟨w.heap.size, 0, none⟩) k k) :=
        (World.cell?_of_block (a := ⟨w.heap.size + 1, 0, none⟩) (hT1.block _ (by have := HS0.out; show w.heap.size + 1 < W0.heap.size; omega) (by show w.heap.size + 1 ≠ wr.heap.size; omega) (by show w.heap.size + 1 ≠ wr.heap.size + 1; omega))).trans HCB.out
      have HT1 := hide hT1
      clear hT1 hC1
      have hb1 : Below w.heap.size w W1 := by
        have h := HB0.out
        have t := HT1.out
        have hs := HS0.out
        exact ⟨t.os.trans h.os, t.tape.trans h.tape, t.output.trans h.output, Nat.le_trans h.size t.size, fun j hj => (t.block j (by omega) (by omega) (by omega)).trans (h.block j hj)⟩
      have HB1 := hide hb1
      rw [show (txt (S X k) false) = Lib.itoa (S X k) from txt_itoa _] at HI
      clear hb1 hW0
      go_wp2
      go_region_held3 (fun w' => w'.cell? ⟨wr.heap.size + 1, 0, none⟩ = some (.slice (some ⟨gl, 0, none⟩) 1 cl) ∧ w'.cell? ⟨gl, 0, none⟩ = some (.string ⟨(Lib.itoa (S X k)).toArray⟩))
        (refine ⟨?_, ?_⟩ <;> with_reducible repeat (first | assumption | apply cell_dr | (apply cell_bl (by assumption))))
        (first | (go_at_call 5; refine (Hid.out HI _).mono ?_; rintro e w' ⟨rfl, hb⟩))
      go_wp2
      go_ret
      exact ⟨rfl, HB1.out.trans ((Below.refl _ W1).drew.trans (hb.mono (B' := w.heap.size) (by exact HB1.out.size)))⟩
theorem sum_big (p p2 : Option Addr) (len cap len2 cap2 : Nat) (w : World) (hmax : 1024 < len) :
    Calls Ybad.prog 3 #[.slice p len cap, .slice p2 len2 cap2] w fun e w' => e = .returned (.bool true) ∧ Below w.heap.size w w' := by
  have hgt : (1024 : Int) < (len : Int) := by omega
  go_enter Ybad.func3, Ybad.ntmps3
  go_wp2
  go_ret
  exact ⟨rfl, Below.refl _ _⟩
end Go.Proofs.YbulkbmraDoor
