import Derived.Test.YbulkbmsqDoorRemove
import Derived.Deep.OwnRows
namespace Go.Proofs.YbulkbmsqDoor
open Go.RowKit Go.ChangeMaps
theorem cell_st {w : World} {g j b o : Nat} {u v : Value} (hne : g ≠ b) (h : w.cell? ⟨b, o, none⟩ = some u) : (w.setCell ⟨g, j, none⟩ v).cell? ⟨b, o, none⟩ = some u :=
  (World.cell?_setCell_other _ _ _ _ (fun e => hne (by cases e; rfl))).trans h
/-- A row of numbers, its first k laid. -/
def BRow (w : World) (g len : Nat) (F : Nat → Nat) (k : Nat) : Prop := ∃ cur : Array Value, w.heap[g]? = some (.cells cur 3 (0, 0)) ∧ cur.size = len ∧ ∀ j, j < k → cur[j]? = some (.int .i64 (F j : Int))
theorem BRow.cell {w : World} {g len k : Nat} {F : Nat → Nat} (h : BRow w g len F k) (j : Nat) (hj : j < len) : ∃ v, w.cell? ⟨g, j, none⟩ = some v := by
  obtain ⟨cur, hc, hs, _⟩ := h
  exact ⟨cur[j]'(by omega), by simp [World.cell?, hc, hs, hj]⟩
theorem BRow.frozen {w : World} {g len k : Nat} {F : Nat → Nat} (h : BRow w g len F k) (j : Nat) : w.frozen? ⟨g, j, none⟩ = false := by
  obtain ⟨cur, hc, _⟩ := h
  simp [World.frozen?, hc]
theorem BRow.lt {w : World} {g len k : Nat} {F : Nat → Nat} (h : BRow w g len F k) : g < w.heap.size := by
  obtain ⟨cur, hc, _⟩ := h
  exact (Array.getElem?_eq_some_iff.1 hc).1
theorem BRow.val {w : World} {g len k : Nat} {F : Nat → Nat} (h : BRow w g len F k) (j : Nat) (hj : j < k) : w.cell? ⟨g, j, none⟩ = some (.int .i64 (F j : Int)) := by
  obtain ⟨cur, hc, hs, hv⟩ := h
  simp [World.cell?, hc, hv j hj]
theorem BRow.of_block {w w' : World} {g len k : Nat} {F : Nat → Nat} (h : BRow w g len F k) (hb : w'.heap[g]? = w.heap[g]?) : BRow w' g len F k := by
  obtain ⟨cur, hc, hs, hv⟩ := h
  exact ⟨cur, hb.trans hc, hs, hv⟩
theorem BRow.mono {w w' : World} {g len k : Nat} {F : Nat → Nat} (h : BRow w g len F k) (hb : Below w.heap.size w w') : BRow w' g len F k := h.of_block (hb.block g h.lt)
theorem BRow.step {w : World} {g len k : Nat} {F : Nat → Nat} (h : BRow w g len F k) (hk : k < len) : BRow (w.setCell ⟨g, k, none⟩ (.int .i64 (F k : Int))) g len F (k + 1) := by
  obtain ⟨cur, hc, hs, hv⟩ := h
  refine ⟨cur.setIfInBounds k (.int .i64 (F k : Int)), ?_, by simpa using hs, fun j hj => ?_⟩
  · simp [World.setCell, Array.getElem?_modify, hc]
  · rw [Array.getElem?_setIfInBounds]
    split
    · rename_i e
      subst e
      simp [hs, hk]
    · exact hv j (by omega)
theorem old_kept {w w' : World} {a : Addr} {v : Value} (hb : Below w.heap.size w w') (hv : w.cell? a = some v) (hf : w.frozen? a = false) : w'.cell? a = some v ∧ w'.frozen? a = false := by
  have hlt := World.block_lt_of_cell? _ _ hv
  refine ⟨(hb.cell hlt).trans hv, ?_⟩
  unfold World.frozen? at hf ⊢
  rw [hb.block _ hlt]
  exact hf
theorem Fr.refl (bc : Nat) (mo : Option Nat) (w : World) : Fr bc mo w w := ⟨rfl, rfl, rfl, Nat.le_refl _, fun _ _ _ _ => rfl⟩
theorem Fr.bl {bc : Nat} {mo : Option Nat} {w W X : World} (h : Fr bc mo w W) (hb : Below W.heap.size W X) : Fr bc mo w X :=
  ⟨hb.os.trans h.os, hb.tape.trans h.tape, hb.output.trans h.output, Nat.le_trans h.size hb.size, fun k hk h1 h2 => (hb.block k (Nat.lt_of_lt_of_le hk h.size)).trans (h.block k hk h1 h2)⟩
theorem Fr.set {bc : Nat} {mo : Option Nat} {w W : World} (h : Fr bc mo w W) (j : Nat) (v : Value) : Fr bc mo w (W.setCell ⟨bc, j, none⟩ v) :=
  ⟨h.os, h.tape, h.output, by rw [sc_size]; exact h.size, fun k hk h1 h2 => (sc_other h1).trans (h.block k hk h1 h2)⟩
theorem Fr.cell {bc : Nat} {mo : Option Nat} {w W : World} (h : Fr bc mo w W) {b o : Nat} {v : Value} (hv : w.cell? ⟨b, o, none⟩ = some v) (h1 : b ≠ bc) (h2 : mo ≠ some b) : W.cell? ⟨b, o, none⟩ = some v :=
  (World.cell?_of_block (a := ⟨b, o, none⟩) (h.block b (World.block_lt_of_cell? _ _ hv) h1 h2)).trans hv
theorem HC.fr {Z : Addr} {N : Nat → Nat} {T bc g : Nat} {mo : Option Nat} {w w' : World} (h : HC Z N T bc mo w) (hf : Fr g none w w') (h1 : bc ≠ g) (h2 : mo ≠ some g) : HC Z N T bc mo w' := by
  refine ⟨(hf.block bc (Array.getElem?_eq_some_iff.1 h.cells).1 h1 (by simp)).trans h.cells, h.nil, fun m hm => ?_⟩
  obtain ⟨P, es, clock, e1, T, hs⟩ := h.map m hm
  exact ⟨P, es, clock, (hf.block m (Array.getElem?_eq_some_iff.1 e1).1 (fun e => h2 (by rw [hm, e])) (by simp)).trans e1, T, hs⟩
theorem HC.low {Z : Addr} {N : Nat → Nat} {T bc : Nat} {mo : Option Nat} {w : World} (h : HC Z N T bc mo w) : bc < w.heap.size ∧ ∀ m, mo = some m → m < w.heap.size :=
  ⟨(Array.getElem?_eq_some_iff.1 h.cells).1, fun m hm => by
    obtain ⟨P, es, clock, e1, _⟩ := h.map m hm
    exact (Array.getElem?_eq_some_iff.1 e1).1⟩
theorem Below.ofFr {n g : Nat} {mo : Option Nat} {w0 w W : World} (h : Below n w0 w) (hf : Fr g mo w W) (hn : n ≤ w.heap.size) (h1 : n ≤ g) (h2 : ∀ m, mo = some m → n ≤ m) : Below n w0 W :=
  ⟨hf.os.trans h.os, hf.tape.trans h.tape, hf.output.trans h.output, Nat.le_trans h.size hf.size, fun k hk => (hf.block k (Nat.lt_of_lt_of_le hk hn) (by omega) (fun e => by have := h2 k e; omega)).trans (h.block k hk)⟩
theorem HC.apart {Z : Addr} {N : Nat → Nat} {T bc m b o : Nat} {v : Value} {w : World} (h : HC Z N T bc (some m) w) (hv : w.cell? ⟨b, o, none⟩ = some v) : Option.some m ≠ some b := by
  intro e
  cases e
  obtain ⟨P, es, clock, e9, _⟩ := h.map _ rfl
  simp [World.cell?, e9] at hv
theorem HC.apartRow {Z : Addr} {N F : Nat → Nat} {T bc m g len k : Nat} {w : World} (h : HC Z N T bc (some m) w) (hr : BRow w g len F k) : Option.some m ≠ some g := by
  intro e
  cases e
  obtain ⟨P, es, clock, e9, _⟩ := h.map _ rfl
  obtain ⟨cur, hc, _⟩ := hr
  rw [e9] at hc
  cases hc
theorem info3 : (Ybad.prog.info? 3).map (fun i => (i.zero, i.size, i.bytes)) = some (some (.int .i64 0), 1, 8) := by kernel_rfl
set_option maxRecDepth 4000 in
set_option maxHeartbeats 1000000 in
theorem addRemove4 (Z : Addr) (p p2 : Option Addr) (len cap len2 cap2 x : Nat) (X Y : Nat → Nat) (w : World) (hx256 : x < 256) (HX : Hid (XAt w p len X)) (HY : Hid (XAt w p2 len2 Y)) (HZ : Hid (Zs Z w)) :
    Calls Ybad.prog 4 #[.slice p len cap, .int .u8 (x : Int), .slice p2 len2 cap2] w fun e w' => e = .returned (.bool true) ∧ Below w.heap.size w w' := by
  by_cases hbig : 1024 < len
  · have hb : (1024 : Int) < (len : Int) := by omega
    go_enter Ybad.func4, Ybad.ntmps4
    go_wp2
    go_ret
    exact ⟨rfl, Below.refl _ _⟩
  have hb : ¬ (1024 : Int) < (len : Int) := by omega
  by_cases hbig2 : 1024 < len2
  · have hb2 : (1024 : Int) < (len2 : Int) := by omega
    go_enter Ybad.func4, Ybad.ntmps4
    go_wp2
    go_ret
    exact ⟨rfl, Below.refl _ _⟩
  have hb2 : ¬ (1024 : Int) < (len2 : Int) := by omega
  have hA0 : Adds Z X w 0 none (w.alloc (.cells #[.int .i64 0, .map none] 25)) := ⟨⟨al_new w _, fun _ _ => rfl, fun m e => (by cases e)⟩, fun _ => rfl, fun m e => (by cases e), (Below.refl _ _).alloc (Nat.le_refl _) _⟩
  go_enter Ybad.func4, Ybad.ntmps4
  go_wp2_with fail
  go_loopg [32] len (fun gk i wr => ∃ k mo, gk + k = len ∧ i = .int .i64 (k : Nat) ∧ Adds Z X w k mo wr)
  case atStart => exact ⟨0, none, by omega, rfl, hA0⟩
  case round =>
    obtain ⟨k, mo, hk, rfl, hA⟩ := hrel
    clear hA0
    have HK := hide hk
    have HA := hide hA
    by_cases hlt : k < len
    · obtain ⟨b, o, rfl, hx0, hx1⟩ := HX.out k hlt
      have hx := (hA.2.2.2.cell (World.block_lt_of_cell? _ _ hx0)).trans hx0
      have hki : (k : Int) < (len : Int) := by omega
      have hzr := HZ.out.bl hA.2.2.2
      have HC0 := hA.1
      clear hk hA hx0
      go_wp2_with (first | (go_at_call 6; refine (hostAg Z (X k) hx1 wr hzr).mono ?_; rintro e w1 ⟨rfl, hb1⟩) | (go_at_call 5; refine (add5 Z w.heap.size (cd (X k)) mo _ _ k (cnt X k) (by omega) (by have := cnt_le X k (cd (X k)); omega) (cd_lt _) w1 (HC0.kept hb1) rfl).mono ?_; rintro e w2 ⟨rfl, mo', h2, hf, hm⟩))
      go_roundg (gk - 1)
      case measure => have := HK.out; omega
      case rel => exact ⟨k + 1, mo', by have := HK.out; omega, by go_num, HA.out.step hb1 h2 hf hm⟩
    · have hkk : len = k := by omega
      subst hkk
      obtain ⟨hHC, -, hmm, hbel⟩ := hA
      have HH := hide hHC
      have HB := hide hbel
      have HM := hide hmm
      have hzS := HZ.out.bl hbel
      clear hk HA HK hlt hHC hmm hbel
      obtain ⟨wS, hwS⟩ : ∃ x, x = wr := ⟨_, rfl⟩
      subst hwS
      have hmk := run_make_row' (P := Ybad.prog) 39 3 (.int .i64 0) 8 Ybad.underlying39 info3 rfl .i64 .i64 len2 (by omega) (by omega)
      go_wp2_with (first | (go_at_call 6; refine (hostAg Z x hx256 wS hzS).mono ?_; rintro e w1 ⟨rfl, hb1⟩; have hC1 := HH.out.kept (hb1.alloc hb1.size (.cells #[.int .u64 0, .int .u64 (yy (cd x)), .pointer (some Z), .int .u8 (bz (cd x))] 36)); obtain ⟨t0, t1, -⟩ := two_cells hC1.cells; have hlk := hC1.look (cd_lt x) (agKV Z (cd x)); have hln := hC1.len 3))
      have hl1 := hb1.size
      have hbT := (hb1.alloc hb1.size (.cells #[.int .u64 0, .int .u64 (yy (cd x)), .pointer (some Z), .int .u8 (bz (cd x))] 36)).alloc (by rw [World.size_alloc]; omega) (.cells (madeCells #[.int .i64 0] len2) 3)
      have hnH := al_old (o' := .cells (madeCells #[.int .i64 0] len2) 3) (al_new w1 (.cells #[.int .u64 0, .int .u64 (yy (cd x)), .pointer (some Z), .int .u8 (bz (cd x))] 36))
      have hnB := al_new (w1.alloc (.cells #[.int .u64 0, .int .u64 (yy (cd x)), .pointer (some Z), .int .u8 (bz (cd x))] 36)) (.cells (madeCells #[.int .i64 0] len2) 3)
      have hsT : ((w1.alloc (.cells #[.int .u64 0, .int .u64 (yy (cd x)), .pointer (some Z), .int .u8 (bz (cd x))] 36)).alloc (.cells (madeCells #[.int .i64 0] len2) 3)).heap.size = w1.heap.size + 2 := by rw [World.size_alloc, World.size_alloc]
      rw [World.size_alloc] at hnB
      generalize (w1.alloc (.cells #[.int .u64 0, .int .u64 (yy (cd x)), .pointer (some Z), .int .u8 (bz (cd x))] 36)).alloc (.cells (madeCells #[.int .i64 0] len2) 3) = wT at hbT hnH hnB hsT ⊢
      have hR0 : BRow wT (w1.heap.size + 1) len2 (fun j => cnt X len (cd (Y j))) 0 := ⟨_, hnB, by simp [madeCells], fun j hj => by omega⟩
      have HHT := hide (HH.out.kept hbT)
      have HBT := hide hbT
      have HNH := hide hnH
      have hlow := HH.out.low
      have HL := hide hlow
      have HS1 := hide hl1
      have HST := hide hsT
      clear hC1 t0 t1 hlk hln hb1 hbT hnH hnB hmk hzS hlow hsT
      go_loopg [56] len2 (fun gk i wr => ∃ k : Nat, gk + k = len2 ∧ i = .int .i64 (k : Nat) ∧ BRow wr (w1.heap.size + 1) len2 (fun j => cnt X len (cd (Y j))) k ∧ Fr (w1.heap.size + 1) none wT wr)
      case atStart => exact ⟨0, by omega, rfl, hR0, Fr.refl _ _ _⟩
      case round =>
        obtain ⟨k, hk, rfl, hR, hF⟩ := hrel
        clear hR0
        have HK := hide hk
        have HR := hide hR
        have HF := hide hF
        have hC := HHT.out.fr hF (by have := HL.out.1; have := HS1.out; omega) (fun e => by have := HL.out.2 _ e; have := HS1.out; omega)
        have hbU : Below w.heap.size w wr := Below.ofFr (HB.out.trans (HBT.out.mono HB.out.size)) hF (by have := HB.out.size; have := HBT.out.size; omega) (by have := HB.out.size; have := HS1.out; omega) (fun m e => by cases e)
        have HBU := hide hbU
        have HCU := hide hC
        by_cases hlt : k < len2
        · obtain ⟨b, o, rfl, hx0, hx1⟩ := HY.out k hlt
          have hx := (hbU.cell (World.block_lt_of_cell? _ _ hx0)).trans hx0
          have hki : (k : Int) < (len2 : Int) := by omega
          have hzr := (HZ.out.bl hbU).dr
          obtain ⟨v, hv⟩ := hR.cell k hlt
          have hf := hR.frozen k
          obtain ⟨-, t1, -⟩ := two_cells hC.cells
          have hne : w1.heap.size + 1 ≠ w.heap.size := by have := HB.out.size; have := HS1.out; omega
          clear hk hR hF hC hbU hx0
          go_wp2
          go_region_held3 (fun w' => w'.cell? ⟨w.heap.size, 1, none⟩ = some (.map mo))
            (with_reducible repeat (first | assumption | apply cell_dr | apply cell_st hne | (apply cell_bl (by assumption))))
            (first | (go_at_call 6; refine (hostAg Z (Y k) hx1 _ hzr).mono ?_; rintro e w3 ⟨rfl, hb3⟩; obtain ⟨hv', hf'⟩ := old_kept (w := wr.drew) hb3 hv hf; have hlk := ((HCU.out.kept (Below.refl _ wr).drew).kept hb3).look (cd_lt (Y k)) (agKV Z (cd (Y k)))))
          go_wp2
          go_roundg (gk - 1)
          case measure => have := HK.out; omega
          case rel => exact ⟨k + 1, by have := HK.out; omega, by go_num, ((HR.out.mono (w' := wr.drew) (Below.refl _ wr).drew).mono hb3).step hlt, ((HF.out.bl (X := wr.drew) (Below.refl _ wr).drew).bl hb3).set k _⟩
        · have hkk : len2 = k := by omega
          subst hkk
          obtain ⟨wU, hwU⟩ : ∃ x, x = wr := ⟨_, rfl⟩
          subst hwU
          obtain ⟨c0, c1, c2, c3⟩ := four_cells HNH.out
          have n1 : w1.heap.size ≠ w1.heap.size + 1 := by omega
          have e0 := hF.cell c0 n1 (by simp)
          have e1 := hF.cell c1 n1 (by simp)
          have e2 := hF.cell c2 n1 (by simp)
          have e3 := hF.cell c3 n1 (by simp)
          have E0 := hide e0
          have E1 := hide e1
          have E2 := hide e2
          have E3 := hide e3
          have hcn := cnt_le X len (cd x)
          have n2 : w1.heap.size ≠ w.heap.size := by have := HL.out.1; have := HS1.out; omega
          have N2 := hide n2
          have N3 : Hid (mo ≠ some w1.heap.size) := fun e => by have := HL.out.2 _ e; have := HS1.out; omega
          have hti : (len : Int) ≤ 1024 := by omega
          have hci : ((cnt X len (cd x) : Nat) : Int) ≤ 1024 := by omega
          clear hk hlt hR hF hC hbU c0 c1 c2 c3 n1 n2
          go_wp2_with (first | (go_at_call 5; refine (add5 Z w.heap.size (cd x) mo _ _ len (cnt X len) (by omega) (by omega) (cd_lt _) wU HCU.out rfl).mono ?_; rintro e wV ⟨rfl, mo', h2, hfr, hm⟩; obtain ⟨t0, t1, -⟩ := two_cells h2.cells; rw [show ((len + 1 : Nat) : Int) = (len : Int) + 1 by omega] at t0; have hlk := h2.look (cd_lt x) (agKV Z (cd x)); have hlk2 := (h2.kept (Below.refl _ wV).drew).look (cd_lt x) (agKV Z (cd x)); rw [show inc (cnt X len) (cd x) (cd x) = cnt X len (cd x) + 1 by simp [inc], show ((cnt X len (cd x) + 1 : Nat) : Int) = (cnt X len (cd x) : Int) + 1 by omega] at hlk hlk2; have f0 := hfr.cell e0 N2.out N3.out; have f1 := hfr.cell e1 N2.out N3.out; have f2 := hfr.cell e2 N2.out N3.out; have f3 := hfr.cell e3 N2.out N3.out; have H2 := hide h2; have HFR := hide hfr; have HMM := hide hm; clear h2 hfr hm e0 e1 e2 e3))
          have hsU : w1.heap.size + 1 < wU.heap.size := HR.out.lt
          have n5 : w1.heap.size + 1 ≠ w.heap.size := by have := HL.out.1; have := HS1.out; omega
          have HRV : Hid (BRow wV (w1.heap.size + 1) len2 (fun j => cnt X len (cd (Y j))) len2) := HR.out.of_block (HFR.out.block _ hsU n5 (fun e => by have := HL.out.2 _ e; have := HS1.out; omega))
          have HBV : Hid (Below w.heap.size w wV) := Below.ofFr HBU.out HFR.out HBU.out.size (Nat.le_refl _) HM.out
          have F0 := hide f0
          have F1 := hide f1
          have F2 := hide f2
          have F3 := hide f3
          clear t0 t1 hlk hlk2 f0 f1 f2 f3 hsU n5
          go_loopg [88] len2 (fun gk i wr => ∃ k : Nat, gk + k = len2 ∧ i = .int .i64 (k : Nat) ∧ Below wV.heap.size wV wr)
          case atStart => exact ⟨0, by omega, rfl, Below.refl _ _⟩
          case round =>
            obtain ⟨k, hk, rfl, hbr⟩ := hrel
            have HK3 := hide hk
            have HB3 := hide hbr
            have hbw : Below w.heap.size w wr := HBV.out.trans (hbr.mono HBV.out.size)
            have HBW := hide hbw
            by_cases hlt : k < len2
            · obtain ⟨b, o, rfl, hx0, hx1⟩ := HY.out k hlt
              have hx := (hbw.cell (World.block_lt_of_cell? _ _ hx0)).trans hx0
              have hki : (k : Int) < (len2 : Int) := by omega
              have hzr := HZ.out.bl hbw
              clear hk hbr hbw hx0
              go_wp2_with (first | (go_at_call 6; refine (hostAg Z (Y k) hx1 wr hzr).mono ?_; rintro e w3 ⟨rfl, hb3⟩))
              have hbQ := hb3.alloc hb3.size (.cells #[.int .u64 0, .int .u64 (yy (cd (Y k))), .pointer (some Z), .int .u8 (bz (cd (Y k)))] 36)
              have hnQ := al_new w3 (.cells #[.int .u64 0, .int .u64 (yy (cd (Y k))), .pointer (some Z), .int .u8 (bz (cd (Y k)))] 36)
              generalize w3.alloc (.cells #[.int .u64 0, .int .u64 (yy (cd (Y k))), .pointer (some Z), .int .u8 (bz (cd (Y k)))] 36) = wQ at hbQ hnQ ⊢
              obtain ⟨q0, q1, q2, q3⟩ := four_cells hnQ
              have hbVQ : Below wV.heap.size wV wQ := HB3.out.trans (hbQ.mono HB3.out.size)
              have g0 := cell_bl hbVQ F0.out
              have g1 := cell_bl hbVQ F1.out
              have g2 := cell_bl hbVQ F2.out
              have g3 := cell_bl hbVQ F3.out
              have gB := cell_bl hbVQ (HRV.out.val k hlt)
              have hCQ := (H2.out.kept hbVQ).kept (Below.refl _ wQ).drew
              obtain ⟨-, t1, -⟩ := two_cells (H2.out.kept hbVQ).cells
              have hlk := hCQ.look (cd_lt (Y k)) (agKV Z (cd (Y k)))
              have HBQ := hide hbVQ
              clear hb3 hbQ hnQ hbVQ hCQ hx hzr
              by_cases hcd : cd (Y k) = cd x
              · have heq := neqAg Z (cd_lt (Y k)) (cd_lt x) (show (!(cd (Y k) == cd x)) = false by simp [hcd])
                clear hcd
                go_region
                go_wp2
                go_roundg (gk - 1)
                case measure => have := HK3.out; omega
                case rel => exact ⟨k + 1, by have := HK3.out; omega, by go_num, HBQ.out.drew⟩
              · have heq := neqAg Z (cd_lt (Y k)) (cd_lt x) (show (!(cd (Y k) == cd x)) = true by simp [hcd])
                rw [show inc (cnt X len) (cd x) (cd (Y k)) = cnt X len (cd (Y k)) by simp [inc, hcd]] at hlk
                clear hcd
                go_region
                go_wp2
                go_roundg (gk - 1)
                case measure => have := HK3.out; omega
                case rel => exact ⟨k + 1, by have := HK3.out; omega, by go_num, HBQ.out.drew⟩
            · have hkk : len2 = k := by omega
              subst hkk
              obtain ⟨wW, hwW⟩ : ∃ x, x = wr := ⟨_, rfl⟩
              subst hwW
              have hC := H2.out.kept hbr
              obtain ⟨m, rfl⟩ : ∃ m, mo' = some m := by
                cases mo' with
                | none =>
                  have h9 := hC.nil rfl (cd x)
                  simp [inc] at h9
                | some m => exact ⟨m, rfl⟩
              have e0 := cell_bl hbr F0.out
              have e1 := cell_bl hbr F1.out
              have e2 := cell_bl hbr F2.out
              have e3 := cell_bl hbr F3.out
              have hdi : dec (inc (cnt X len) (cd x)) (cd x) = cnt X len := by
                funext d
                by_cases hd : d = cd x <;> simp [dec, inc, hd]
              have HREM := hide (remove7 Z w.heap.size m (cd x) (yy (cd x)) (bz (cd x)) (len + 1) (inc (cnt X len) (cd x)) (by omega) (by omega) (by simp [inc]) (by simp [inc]; omega) (cd_lt _) wW hC rfl)
              rw [hdi, show len + 1 - 1 = len by omega] at HREM
              have N4 := hide (hC.apart e0)
              have HBR := hide hbr
              have hm0 : w.heap.size ≤ m := by
                rcases HMM.out with e | ⟨k', e, hk'⟩
                · exact HM.out m e.symm
                · cases e
                  exact Nat.le_trans HBU.out.size hk'
              have HBW2 : Hid (Below w.heap.size w wW) := HBW
              have HRW := hide (HRV.out.mono hbr)
              have HM0 := hide hm0
              have HCW := hide hC
              clear hk hlt hbr hbw hC hdi hm0 HMM
              go_wp2_with (first | (go_at_call 7; refine HREM.out.mono ?_; rintro e wY ⟨rfl, h5, hfy⟩; obtain ⟨t0, t1, -⟩ := two_cells h5.cells; have hlk := h5.look (cd_lt x) (agKV Z (cd x)); have hln := h5.len 3; have f0 := hfy.cell e0 N2.out N4.out; have f1 := hfy.cell e1 N2.out N4.out; have f2 := hfy.cell e2 N2.out N4.out; have f3 := hfy.cell e3 N2.out N4.out; have H5 := hide h5; have HFY := hide hfy; clear h5 hfy e0 e1 e2 e3))
              have HRY : Hid (BRow wY (w1.heap.size + 1) len2 (fun j => cnt X len (cd (Y j))) len2) := HRW.out.of_block (HFY.out.block _ HRW.out.lt (by have := HL.out.1; have := HS1.out; omega) (HCW.out.apartRow HRW.out))
              have HBY : Hid (Below w.heap.size w wY) := Below.ofFr HBW.out HFY.out HBW.out.size (Nat.le_refl _) (fun m' e => by cases e; exact HM0.out)
              clear t0 t1 hlk hln f0 f1 f2 f3
              go_loopg [133] len2 (fun gk i wr => ∃ k : Nat, gk + k = len2 ∧ i = .int .i64 (k : Nat) ∧ Below wY.heap.size wY wr)
              case atStart => exact ⟨0, by omega, rfl, Below.refl _ _⟩
              case round =>
                obtain ⟨k, hk, rfl, hbr⟩ := hrel
                have HK4 := hide hk
                have HB4 := hide hbr
                have hbw : Below w.heap.size w wr := HBY.out.trans (hbr.mono HBY.out.size)
                have HBZ := hide hbw
                by_cases hlt : k < len2
                · obtain ⟨b, o, rfl, hx0, hx1⟩ := HY.out k hlt
                  have hx := (hbw.cell (World.block_lt_of_cell? _ _ hx0)).trans hx0
                  have hki : (k : Int) < (len2 : Int) := by omega
                  have hzr := (HZ.out.bl hbw).dr
                  have hC := H5.out.kept hbr
                  obtain ⟨-, t1, -⟩ := two_cells hC.cells
                  have gB := cell_bl hbr (HRY.out.val k hlt)
                  have HCR := hide hC
                  have hsy := hbr.size
                  clear hk hbr hbw hx0 hC
                  go_wp2
                  go_region_held3 (fun w' => w'.cell? ⟨w.heap.size, 1, none⟩ = some (.map (some m)) ∧ w'.cell? ⟨w1.heap.size + 1, k, none⟩ = some (.int .i64 ((cnt X len (cd (Y k)) : Nat) : Int)))
                    (refine ⟨?_, ?_⟩ <;> with_reducible repeat (first | assumption | apply cell_dr | (apply cell_bl (by assumption))))
                    (first | (go_at_call 6; refine (hostAg Z (Y k) hx1 _ hzr).mono ?_; rintro e w3 ⟨rfl, hb3⟩; have hlk := ((HCR.out.kept (Below.refl _ wr).drew).kept hb3).look (cd_lt (Y k)) (agKV Z (cd (Y k)))))
                  go_wp2
                  go_roundg (gk - 1)
                  case measure => have := HK4.out; omega
                  case rel => exact ⟨k + 1, by have := HK4.out; omega, by go_num, HB4.out.trans ((Below.refl _ wr).drew.trans (hb3.mono hsy))⟩
                · have hkk : len2 = k := by omega
                  subst hkk
                  clear hk hbr hbw
                  go_wp2
                  go_ret
                  exact ⟨rfl, HBZ.out⟩
end Go.Proofs.YbulkbmsqDoor
