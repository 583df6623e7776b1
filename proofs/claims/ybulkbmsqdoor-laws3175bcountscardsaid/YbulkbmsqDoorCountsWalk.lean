import Derived.Test.YbulkbmsqDoorPlain
namespace Go.Proofs.YbulkbmsqDoor
open Go.RowKit Go.ChangeMaps
def Hid (p : Prop) : Prop := p
theorem hide {p : Prop} (h : p) : Hid p := h
theorem Hid.out {p : Prop} (h : Hid p) : p := h
theorem cell_bl {w w1 : World} {a : Addr} {v : Value} (hb : Below w.heap.size w w1) (h : w.cell? a = some v) : w1.cell? a = some v := (hb.cell (World.block_lt_of_cell? _ _ h)).trans h
/-- The bytes that came in. -/
def XAt (w : World) (p : Option Addr) (len : Nat) (X : Nat → Nat) : Prop := ∀ k, k < len → ∃ b o, p = some ⟨b, o, none⟩ ∧ w.cell? ⟨b, o + k, none⟩ = some (.int .u8 (X k : Int)) ∧ X k < 256
theorem XAt.bl {w w' : World} {p : Option Addr} {len : Nat} {X : Nat → Nat} (h : XAt w p len X) (hb : Below w.heap.size w w') : XAt w' p len X := fun k hk => by
  obtain ⟨b, o, hp, hc, h1⟩ := h k hk
  exact ⟨b, o, hp, cell_bl hb hc, h1⟩
def yy (c : Nat) : Int := ((281470849515520 + c % 16 : Nat) : Int)
def bz (c : Nat) : Int := ((33 - c / 16 : Nat) : Int)
theorem agKV (Z : Addr) (c : Nat) : Value.agg #[.int .u64 0, .int .u64 (yy c), .pointer (some Z), .int .u8 (bz c)] = KV Z c := rfl
theorem hostAg (Z : Addr) (x : Nat) (hx : x < 256) (w : World) (hz : Zs Z w) :
    Calls Ybad.prog 6 #[.int .u8 (x : Int)] w fun e w' => e = .returned (.agg #[.int .u64 0, .int .u64 (yy (cd x)), .pointer (some Z), .int .u8 (bz (cd x))]) ∧ Below w.heap.size w w' := host6 Z x hx _ rfl w hz
theorem eqAg (Z : Addr) {c c' : Nat} (hc : c < 48) (hc' : c' < 48) {r : Bool} (h : (c == c') = r) (W : World) :
    (binOp .eql 36 (.agg #[.int .u64 0, .int .u64 (yy c), .pointer (some Z), .int .u8 (bz c)]) (.agg #[.int .u64 0, .int .u64 (yy c'), .pointer (some Z), .int .u8 (bz c')])).run Ybad.prog W = .ok (.bool r) W := by
  rw [← h]; exact eqlKV hc hc' Z W
theorem neqAg (Z : Addr) {c c' : Nat} (hc : c < 48) (hc' : c' < 48) {r : Bool} (h : (!(c == c')) = r) (W : World) :
    (binOp .neq 36 (.agg #[.int .u64 0, .int .u64 (yy c), .pointer (some Z), .int .u8 (bz c)]) (.agg #[.int .u64 0, .int .u64 (yy c'), .pointer (some Z), .int .u8 (bz c')])).run Ybad.prog W = .ok (.bool r) W := by
  rw [← h]; exact neqKV hc hc' Z W
/-- What the loop of adds hands on. -/
def Adds (Z : Addr) (X : Nat → Nat) (w : World) (k : Nat) (mo : Option Nat) (wr : World) : Prop :=
  HC Z (cnt X k) k w.heap.size mo wr ∧ (k = 0 → mo = none) ∧ (∀ m, mo = some m → w.heap.size ≤ m) ∧ Below w.heap.size w wr
theorem Adds.step {Z : Addr} {X : Nat → Nat} {w wr w1 w2 : World} {k : Nat} {mo mo' : Option Nat} (h : Adds Z X w k mo wr) (hb : Below wr.heap.size wr w1)
    (h2 : HC Z (inc (cnt X k) (cd (X k))) (k + 1) w.heap.size mo' w2) (hf : Fr w.heap.size mo w1 w2) (hm : mo' = mo ∨ ∃ m, mo' = some m ∧ w1.heap.size ≤ m) : Adds Z X w (k + 1) mo' w2 := by
  obtain ⟨-, -, h3, h4⟩ := h
  have hb1 : Below w.heap.size w w1 := h4.trans (hb.mono h4.size)
  refine ⟨h2, fun e => by omega, fun m e => ?_, ⟨hf.os.trans hb1.os, hf.tape.trans hb1.tape, hf.output.trans hb1.output, Nat.le_trans hb1.size hf.size, fun j hj => (hf.block j (Nat.lt_of_lt_of_le hj hb1.size) (by omega) (fun e => by have := h3 j e; omega)).trans (hb1.block j hj)⟩⟩
  rcases hm with rfl | ⟨m', e', hm'⟩
  · exact h3 m e
  · rw [e] at e'
    cases e'
    exact Nat.le_trans hb1.size hm'
theorem Zs.dr {Z : Addr} {w : World} (h : Zs Z w) : Zs Z w.drew := ⟨h.z4, h.z0⟩
theorem cell_dr {w : World} {a : Addr} {v : Value} (h : w.cell? a = some v) : w.drew.cell? a = some v := h
/-- No byte before number k, among the first j, has the code c. -/
def fst1 (X : Nat → Nat) (k j c : Nat) : Bool := decide (cnt X (min k j) c = 0)
theorem fst_yes {X : Nat → Nat} {k j c : Nat} (h : j < k) (hc : cd (X j) = c) : fst1 X k (j + 1) c = false := by
  have e : min k (j + 1) = j + 1 := by omega
  unfold fst1
  rw [e, cnt_yes X hc]
  simp
theorem fst_late {X : Nat → Nat} {k j c : Nat} (h : ¬ j < k) : fst1 X k (j + 1) c = fst1 X k j c := by
  unfold fst1
  rw [show min k (j + 1) = min k j by omega]
theorem fst_no {X : Nat → Nat} {k j c : Nat} (hc : cd (X j) ≠ c) : fst1 X k (j + 1) c = fst1 X k j c := by
  by_cases h : j < k
  · unfold fst1
    rw [show min k (j + 1) = j + 1 by omega, show min k j = j by omega, cnt_no X hc]
  · exact fst_late h
theorem fst_end {X : Nat → Nat} {k len : Nat} (h : k < len) (c : Nat) : fst1 X k len c = decide (cnt X k c = 0) := by
  unfold fst1
  rw [show min k len = k by omega]
set_option maxHeartbeats 1000000 in
theorem counts3 (Z : Addr) (p : Option Addr) (len cap : Nat) (X : Nat → Nat) (w : World) (HX : Hid (XAt w p len X)) (HZ : Hid (Zs Z w)) :
    Calls Ybad.prog 3 #[.slice p len cap] w fun e w' => e = .returned (.bool true) ∧ Below w.heap.size w w' := by
  by_cases hbig : 1024 < len
  · have hb : (1024 : Int) < (len : Int) := by omega
    go_enter Ybad.func3, Ybad.ntmps3
    go_wp2
    go_ret
    exact ⟨rfl, Below.refl _ _⟩
  have hb : ¬ (1024 : Int) < (len : Int) := by omega
  have hA0 : Adds Z X w 0 none (w.alloc (.cells #[.int .i64 0, .map none] 25)) := ⟨⟨al_new w _, fun _ _ => rfl, fun m e => (by cases e)⟩, fun _ => rfl, fun m e => (by cases e), (Below.refl _ _).alloc (Nat.le_refl _) _⟩
  go_enter Ybad.func3, Ybad.ntmps3
  go_wp2_with fail
  go_loopg [19] len (fun gk i wr => ∃ k mo, gk + k = len ∧ i = .int .i64 (k : Nat) ∧ Adds Z X w k mo wr)
  case atStart => exact ⟨0, none, by omega, rfl, hA0⟩
  case round =>
    obtain ⟨k, mo, hk, rfl, hA⟩ := hrel
    clear hA0
    have HK := hide hk
    have HA := hide hA
    by_cases hlt : k < len
    · obtain ⟨b, o, rfl, hx0, hx1⟩ := HX.out k hlt
      have hx := (hA.2.2.2.cell (World.block_lt_of_cell? _ _ hx0)).trans hx0
      have hki : (k : Int) < (len : Int) := by omega
      have hzr := HZ.out.bl hA.2.2.2
      have HC0 := hA.1
      clear hk hA hx0
      go_wp2_with (first | (go_at_call 6; refine (hostAg Z (X k) hx1 wr hzr).mono ?_; rintro e w1 ⟨rfl, hb1⟩) | (go_at_call 5; refine (add5 Z w.heap.size (cd (X k)) mo _ _ k (cnt X k) (by omega) (by have := cnt_le X k (cd (X k)); omega) (cd_lt _) w1 (HC0.kept hb1) rfl).mono ?_; rintro e w2 ⟨rfl, mo', h2, hf, hm⟩))
      go_roundg (gk - 1)
      case measure => have := HK.out; omega
      case rel => exact ⟨k + 1, mo', by have := HK.out; omega, by go_num, HA.out.step hb1 h2 hf hm⟩
    · have hkk : len = k := by omega
      subst hkk
      obtain ⟨hHC, hmn, hmm, hbel⟩ := hA
      obtain ⟨t0, t1, -⟩ := two_cells hHC.cells
      have HH := hide hHC
      have HB := hide hbel
      by_cases h0 : len = 0
      · obtain rfl := hmn h0
        subst h0
        clear hk hmn hmm hHC hbel
        have q0 : ∀ W, (binOp .eql 23 (.map none) (.map none)).run Ybad.prog W = .ok (.bool true) W := by intro W; kernel_rfl
        go_wp2
        go_ret
        exact ⟨rfl, HB.out⟩
      · have h0i : ¬ (len : Int) = 0 := by omega
        have h0b : ((len : Int) == 0) = false := by simp; omega
        clear hk hmn hmm hHC hbel HA HK hlt
        obtain ⟨wS, hwS⟩ : ∃ x, x = wr := ⟨_, rfl⟩
        subst hwS
        go_wp2_with fail
        go_loopg [6, 40] len (fun gk2 d i wx => ∃ k : Nat, gk2 + k = len ∧ i = .int .i64 (k : Nat) ∧ d = .int .i64 (K (cnt X k) : Nat) ∧ Below wS.heap.size wS wx)
        case atStart => exact ⟨0, by omega, rfl, by rw [show K (cnt X 0) = 0 from K_zero]; rfl, Below.refl _ _⟩
        case round =>
          obtain ⟨k, hk, rfl, rfl, hbx⟩ := hrel
          have HK2 := hide hk
          have HB2 := hide hbx
          have hsz := hbx.size
          obtain ⟨wX, hwX⟩ : ∃ x, x = wr := ⟨_, rfl⟩
          subst hwX
          obtain ⟨gB, hgB⟩ : ∃ x, x = gk := ⟨_, rfl⟩
          subst hgB
          by_cases hlt2 : k < len
          · obtain ⟨b, o, rfl, hx0, hx1⟩ := HX.out k hlt2
            have hx := cell_bl hbx ((HB.out.cell (World.block_lt_of_cell? _ _ hx0)).trans hx0)
            have hki : (k : Int) < (len : Int) := by omega
            have hzr := (HZ.out.bl HB.out).bl hbx
            clear hk hbx
            go_wp2_with (first | (go_at_call 6; refine (hostAg Z (X k) hx1 wX hzr).mono ?_; rintro e w1 ⟨rfl, hb1⟩))
            have hbL : Below wX.heap.size wX (w1.alloc (.cells #[.int .u64 0, .int .u64 (yy (cd (X k))), .pointer (some Z), .int .u8 (bz (cd (X k)))] 36)) := hb1.alloc hb1.size _
            have hnL := al_new w1 (.cells #[.int .u64 0, .int .u64 (yy (cd (X k))), .pointer (some Z), .int .u8 (bz (cd (X k)))] 36)
            generalize w1.alloc (.cells #[.int .u64 0, .int .u64 (yy (cd (X k))), .pointer (some Z), .int .u8 (bz (cd (X k)))] 36) = wL at hbL hnL ⊢
            obtain ⟨g0, g1, g2, g3⟩ := four_cells hnL
            have HBL : Hid (Below wS.heap.size wS wL) := HB2.out.trans (hbL.mono hsz)
            clear hnL hbL hb1 hx hx0 hzr
            go_loopg [10, 11, 49] len (fun gk3 n f i wx => ∃ j : Nat, gk3 + j = len ∧ i = .int .i64 (j : Nat) ∧ n = .int .i64 (cnt X j (cd (X k)) : Nat) ∧ f = .bool (fst1 X k j (cd (X k))) ∧ Below wL.heap.size wL wx)
            case atStart => exact ⟨0, by omega, rfl, rfl, by simp [fst1, cnt], Below.refl _ _⟩
            case round =>
              obtain ⟨j, hj, rfl, rfl, rfl, hby⟩ := hrel
              have HK3 := hide hj
              have HB3 := hide hby
              have hsL := HBL.out.size
              have hsy := hby.size
              have k0 := cell_bl hby g0
              have k1 := cell_bl hby g1
              have k2 := cell_bl hby g2
              have k3 := cell_bl hby g3
              have hbS : Below wS.heap.size wS wr := HBL.out.trans (hby.mono hsL)
              have hcn := cnt_le X j (cd (X k))
              have hcn2 : ((cnt X j (cd (X k)) : Nat) : Int) ≤ 1024 := by omega
              by_cases hlt3 : j < len
              · obtain ⟨b', o', hp', hx0, hx1'⟩ := HX.out j hlt3
                cases hp'
                have hx := cell_bl hbS ((HB.out.cell (World.block_lt_of_cell? _ _ hx0)).trans hx0)
                have hji : (j : Int) < (len : Int) := by omega
                have hz3 := ((HZ.out.bl HB.out).bl hbS).dr
                clear hj hby hbS hx0
                by_cases hcd : cd (X j) = cd (X k)
                · have heq := eqAg Z (cd_lt (X j)) (cd_lt (X k)) (show (cd (X j) == cd (X k)) = true by simp [hcd])
                  have HCD := hide hcd
                  clear hcd
                  go_wp2
                  go_region_held3 (fun w' => w'.cell? ⟨w1.heap.size, 0, none⟩ = some (.int .u64 0) ∧ w'.cell? ⟨w1.heap.size, 1, none⟩ = some (.int .u64 (yy (cd (X k)))) ∧ w'.cell? ⟨w1.heap.size, 2, none⟩ = some (.pointer (some Z)) ∧ w'.cell? ⟨w1.heap.size, 3, none⟩ = some (.int .u8 (bz (cd (X k)))))
                    (refine ⟨?_, ?_, ?_, ?_⟩ <;> with_reducible repeat (first | assumption | apply cell_dr | (apply cell_bl (by assumption))))
                    (first | (go_at_call 6; refine (hostAg Z (X j) hx1' _ hz3).mono ?_; rintro e w3 ⟨rfl, hb3⟩))
                  have hb4 : Below wL.heap.size wL w3 := HB3.out.trans ((Below.refl _ wr).drew.trans (hb3.mono hsy))
                  clear hb3
                  by_cases hjk : j < k
                  · have hjki : (j : Int) < (k : Int) := by omega
                    go_wp2
                    go_roundg (gk - 1)
                    case measure => have := HK3.out; omega
                    case rel => exact ⟨j + 1, by have := HK3.out; omega, by go_num, by rw [cnt_yes X HCD.out]; go_num, by rw [fst_yes hjk HCD.out], hb4⟩
                  · have hjki : ¬ (j : Int) < (k : Int) := by omega
                    go_wp2
                    go_roundg (gk - 1)
                    case measure => have := HK3.out; omega
                    case rel => exact ⟨j + 1, by have := HK3.out; omega, by go_num, by rw [cnt_yes X HCD.out]; go_num, by rw [fst_late hjk], hb4⟩
                · have heq := eqAg Z (cd_lt (X j)) (cd_lt (X k)) (show (cd (X j) == cd (X k)) = false by simp [hcd])
                  have HCD := hide hcd
                  clear hcd
                  go_wp2
                  go_region_held3 (fun w' => w'.cell? ⟨w1.heap.size, 0, none⟩ = some (.int .u64 0) ∧ w'.cell? ⟨w1.heap.size, 1, none⟩ = some (.int .u64 (yy (cd (X k)))) ∧ w'.cell? ⟨w1.heap.size, 2, none⟩ = some (.pointer (some Z)) ∧ w'.cell? ⟨w1.heap.size, 3, none⟩ = some (.int .u8 (bz (cd (X k)))))
                    (refine ⟨?_, ?_, ?_, ?_⟩ <;> with_reducible repeat (first | assumption | apply cell_dr | (apply cell_bl (by assumption))))
                    (first | (go_at_call 6; refine (hostAg Z (X j) hx1' _ hz3).mono ?_; rintro e w3 ⟨rfl, hb3⟩))
                  have hb4 : Below wL.heap.size wL w3 := HB3.out.trans ((Below.refl _ wr).drew.trans (hb3.mono hsy))
                  clear hb3
                  go_wp2
                  go_roundg (gk - 1)
                  case measure => have := HK3.out; omega
                  case rel => exact ⟨j + 1, by have := HK3.out; omega, by go_num, by rw [cnt_no X HCD.out], by rw [fst_no HCD.out], hb4⟩
              · have hjl : j = len := by omega
                rw [hjl, fst_end hlt2]
                have hC := HH.out.kept hbS
                obtain ⟨t0, t1, -⟩ := two_cells hC.cells
                have hlk := hC.look (cd_lt (X k)) (agKV Z (cd (X k)))
                have hlk2 := (hC.kept (Below.refl _ wr).drew).look (cd_lt (X k)) (agKV Z (cd (X k)))
                have hji : ¬ (len : Int) < (len : Int) := by omega
                have HC1 := hide hbS
                clear hby hbS hC hj
                by_cases hf : cnt X k (cd (X k)) = 0
                · have HF := hide hf
                  rw [show decide (cnt X k (cd (X k)) = 0) = true by simp [hf]]
                  clear hf
                  have hKn := K_new (cd_lt (X k)) HF.out
                  have HKN := hide hKn
                  have hkb : K (cnt X k) ≤ 48 := by unfold K; exact Nat.le_trans List.countP_le_length (by simp)
                  clear hKn
                  go_wp2
                  go_roundg (gB - 1)
                  case measure => have := HK2.out; omega
                  case rel => exact ⟨k + 1, by have := HK2.out; omega, by go_num, by rw [show K (cnt X (k + 1)) = K (cnt X k) + 1 from HKN.out]; go_num, HC1.out⟩
                · have HF := hide hf
                  rw [show decide (cnt X k (cd (X k)) = 0) = false by simp [hf]]
                  clear hf
                  go_wp2
                  go_roundg (gB - 1)
                  case measure => have := HK2.out; omega
                  case rel => exact ⟨k + 1, by have := HK2.out; omega, by go_num, by rw [show K (cnt X (k + 1)) = K (cnt X k) from K_old (Nat.pos_of_ne_zero HF.out)], HC1.out⟩
          · have hkl : k = len := by omega
            subst hkl
            have hC := HH.out.kept hbx
            obtain ⟨t0, t1, -⟩ := two_cells hC.cells
            have hln := hC.len
            have HBZ : Hid (Below w.heap.size w wX) := HB.out.trans (hbx.mono HB.out.size)
            clear hbx hC hk
            go_wp2
            go_ret
            exact ⟨rfl, HBZ.out⟩
end Go.Proofs.YbulkbmsqDoor
