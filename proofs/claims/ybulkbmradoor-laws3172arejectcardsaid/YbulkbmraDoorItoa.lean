import Derived.Test.YbulkbmraDoorProg
import Derived.WalkKit
import Derived.WalkSpells
import Derived.Below
import Derived.Deep.LoopGhost
import Derived.Lib.ItoaNum
import Derived.Test.YbulkbmraDoorPlain
import Derived.Laws.BytesArg
namespace Go.Proofs.YbulkbmraDoor
open Go.RowKit
theorem hide {p : Prop} (h : p) : Hid p := h
/-- The buffer of 21 bytes, whose last bytes are L. -/
def Buf (wr : World) (B : Nat) (L : List UInt8) : Prop :=
  ∃ cur : Array Value, wr.heap[B]? = some (.cells cur 38 (0, 0)) ∧ cur.size = 21 ∧ L.length ≤ 21 ∧ ∀ j c, L[j]? = some c → cur[21 - L.length + j]? = some (.int .u8 (c.toNat : Int))
theorem Buf.cell {wr : World} {B : Nat} {L : List UInt8} (h : Buf wr B L) (i : Nat) (hi : i < 21) : ∃ v, wr.cell? ⟨B, i, none⟩ = some v := by
  obtain ⟨cur, hc, hs, _⟩ := h
  exact ⟨cur[i]'(by omega), by simp [World.cell?, hc, hs, hi]⟩
theorem Buf.frozen {wr : World} {B : Nat} {L : List UInt8} (h : Buf wr B L) (i : Nat) : wr.frozen? ⟨B, i, none⟩ = false := by
  obtain ⟨cur, hc, _⟩ := h
  simp [World.frozen?, hc]
theorem Buf.push {wr : World} {B : Nat} {L : List UInt8} (h : Buf wr B L) (hl : L.length < 21) (c : UInt8) (i : Nat) (hi : i = 20 - L.length) : Buf (wr.setCell ⟨B, i, none⟩ (.int .u8 (c.toNat : Int))) B (c :: L) := by
  obtain ⟨cur, hc, hs, hl2, hx⟩ := h
  subst hi
  refine ⟨cur.setIfInBounds (20 - L.length) (.int .u8 (c.toNat : Int)), by simp [World.setCell, Array.getElem?_modify, hc], by simp [hs], by simp; omega, fun j d hd => ?_⟩
  cases j with
  | zero =>
    simp only [List.getElem?_cons_zero, Option.some.injEq] at hd
    subst hd
    simp only [List.length_cons]
    rw [show 21 - (L.length + 1) + 0 = 20 - L.length by omega, Array.getElem?_setIfInBounds_self_of_lt (by omega)]
  | succ j =>
    simp only [List.getElem?_cons_succ] at hd
    have hj := hx j d hd
    simp only [List.length_cons]
    rw [show 21 - (L.length + 1) + (j + 1) = 21 - L.length + j by omega, Array.getElem?_setIfInBounds_ne (by omega)]
    exact hj
theorem Buf.at {wr : World} {B : Nat} {L : List UInt8} (h : Buf wr B L) (i : Nat) (hi : i = 21 - L.length) : ∀ j, j < L.length → wr.cell? ⟨B, i + j, none⟩ = some (.int .u8 ((L.map fun c => (c.toNat : Int)).getD j 0)) := fun j hj => by
  obtain ⟨cur, hc, hs, hl2, hx⟩ := h
  subst hi
  have := hx j L[j] (by simp)
  simp [World.cell?, hc, this, List.getD, hj]
theorem decDigits_ten (u : Nat) (h : ¬ u < 10) : Lib.decDigits u = Lib.decDigits (u / 10) ++ [UInt8.ofNat (48 + u % 10)] := by
  rw [Lib.decDigits, dif_neg h]
theorem digit_nat (u : Nat) : (UInt8.ofNat (48 + u % 10)).toNat = 48 + u % 10 := by
  rw [UInt8.toNat_ofNat']; omega
theorem nd_pow : ∀ (k u : Nat), u < 10 ^ (k + 1) → Lib.nDigits u ≤ k + 1
  | 0, u, h => by rw [Lib.nDigits_small (by simpa using h)]; exact Nat.le_refl _
  | k + 1, u, h => by
    by_cases h10 : u < 10
    · rw [Lib.nDigits_small h10]; omega
    · rw [Lib.nDigits_big h10]
      have := nd_pow k (u / 10) (by rw [Nat.pow_succ] at h; omega)
      omega
theorem nd_le (U : Nat) (h : U ≤ 9223372036854775808) : Lib.nDigits U ≤ 19 := nd_pow 18 U (by omega)
theorem al38 : Ybad.prog.arrayLen 38 = 21 := by kernel_rfl
theorem el38 : Ybad.prog.elem 38 = 5 := by kernel_rfl
theorem sl38 (B i : Nat) (hi : i ≤ 20) (W : World) :
    (Instr.sliceAt 38 (.pointer (some ⟨B, 0, none⟩)) (some (.int .i64 (i : Int))) none none).run Ybad.prog W = .ok (.slice (some ⟨B, i, none⟩) (21 - i) (21 - i)) W := by
  rw [run_sliceAt_array_l W 38 ⟨B, 0, none⟩ (by rw [al38, el38]; exact Ybad.underlying38) .i64 i (by omega) (by rw [al38]; omega), al38, el38]
  have hs : (sizeOf 5).run Ybad.prog W = .ok 1 W := by simp [go_sem]
  rw [hs]
  have hne : ¬ 21 = i := by omega
  simp [Result.andThen, slicedAt, hne, Go.WideShapes.add_plain]
theorem strOf (L : List UInt8) : strOfNums (L.map fun c => (c.toNat : Int)) = ⟨L.toArray⟩ := by
  unfold strOfNums
  rw [List.map_map]
  congr 2
  refine (List.map_congr_left fun c _ => ?_).trans (List.map_id L)
  simp
theorem Buf.conv {W : World} {B : Nat} {L : List UInt8} (h : Buf W B L) (i : Nat) (hi : i = 21 - L.length) (hl : L.length ≤ 21) :
    (convert 39 9 (.slice (some ⟨B, i, none⟩) (21 - i) (21 - i))).run Ybad.prog W = .ok (.string ⟨L.toArray⟩) W := by
  have h1 := run_convert_bytes_arg (P := Ybad.prog) W 39 5 Ybad.underlying39 Ybad.underlying5 B i (21 - i) (21 - i) (L.map fun c => (c.toNat : Int)) (by simp; omega) (fun j hj => h.at i hi j (by omega)) 9 Ybad.underlying9
  rw [strOf] at h1
  exact h1
theorem wrapneg (x : Int) (h0 : x < 0) (h1 : -9223372036854775808 ≤ x) : IntKind.u64.wrap (-IntKind.u64.wrap x) = -x := by
  have e1 : IntKind.u64.wrap x = x % 18446744073709551616 := rfl
  have e2 : IntKind.u64.wrap (-(x % 18446744073709551616)) = (-(x % 18446744073709551616)) % 18446744073709551616 := rfl
  rw [e1, e2]; omega
set_option maxHeartbeats 800000 in
theorem itoa_pos (x : Int) (U : Nat) (w : World) (h0 : 0 ≤ x) (h1 : x ≤ 9223372036854775807) (hU : x = U) :
    Calls Ybad.prog 5 #[.int .i64 x, .bool false] w fun e w' => e = .returned (.string ⟨(Lib.decDigits U).toArray⟩) ∧ Below w.heap.size w w' := by
  have hnd := nd_le U (by omega)
  have hUb : (U : Int) ≤ 9223372036854775808 := by omega
  have hB0 : Buf (w.alloc (.cells (Array.replicate 21 (.int .u8 0)) 38)) w.heap.size [] := ⟨_, heap_alloc_new w _, by simp, by simp, fun j c hc => by simp at hc⟩
  have hlt : ¬ x < 0 := by omega
  subst hU
  go_enter Ybad.func5, Ybad.ntmps5
  go_wp2
  go_loopg [5, 8] U (fun gk u i wr => ∃ L : List UInt8, Lib.decDigits U = Lib.decDigits gk ++ L ∧ gk ≤ U ∧ u = .int .u64 gk ∧ i = .int .i64 ((21 - L.length : Nat) : Int) ∧ Buf wr w.heap.size L ∧ Below w.heap.size w wr)
  case atStart => exact ⟨[], by simp, Nat.le_refl _, rfl, rfl, hB0, (Below.refl _ _).alloc (Nat.le_refl _) _⟩
  case round =>
    obtain ⟨L, hL, hgU, rfl, rfl, hB, hbel⟩ := hrel
    clear hB0
    have hlen : L.length + Lib.nDigits gk = Lib.nDigits U := by
      have := congrArg List.length hL
      rw [List.length_append, Lib.decDigits_length, Lib.decDigits_length] at this; omega
    have hp := Lib.nDigits_pos gk
    obtain ⟨i, hi⟩ : ∃ i, 20 - L.length = i := ⟨_, rfl⟩
    have hi21 : 21 - L.length = i + 1 := by omega
    rw [hi21]
    obtain ⟨v, hv⟩ := hB.cell i (by omega)
    have hf := hB.frozen i
    obtain ⟨W1, hW1⟩ : ∃ W1, wr.setCell ⟨w.heap.size, i, none⟩ (.int .u8 (48 + (gk : Int) % 10)) = W1 := ⟨_, rfl⟩
    have hdg := digit_nat gk
    have hB1 : Buf W1 w.heap.size (UInt8.ofNat (48 + gk % 10) :: L) := by
      have h := hB.push (by omega) (UInt8.ofNat (48 + gk % 10)) i hi.symm
      rw [hdg] at h
      rw [← hW1]
      have e : ((48 + gk % 10 : Nat) : Int) = 48 + (gk : Int) % 10 := by omega
      rw [e] at h
      exact h
    have hb1 : Below w.heap.size w W1 := by rw [← hW1]; exact hbel.setCell (p := ⟨w.heap.size, i, none⟩) (Nat.le_refl _) _
    have hi20 : i ≤ 20 := by omega
    have hi2 : 2 ≤ i := by omega
    have hgk : (gk : Int) ≤ 9223372036854775808 := by omega
    have HL := hide hL
    have HI := hide hi
    have HB1 := hide hB1
    have HB := hide hb1
    have HLEN := hide hlen
    clear hL hi hi21 hB hlen hB1 hb1 hbel hdg hnd hp
    by_cases h10 : gk < 10
    · have hq : ((gk : Int) / 10 == 0) = true := by simp; omega
      have HR : Hid (Lib.decDigits U = UInt8.ofNat (48 + gk % 10) :: L) := by
        show _ = _
        rw [HL.out, Lib.decDigits_one h10, Nat.mod_eq_of_lt h10]; rfl
      have hsl := sl38 w.heap.size i hi20
      have hcv := HB1.out.conv i (by have := HI.out; simp; omega) (by have := HI.out; simp; omega)
      rw [← HR.out] at hcv
      go_wp2
      go_ret
      exact ⟨rfl, HB.out⟩
    · have hq : ((gk : Int) / 10 == 0) = false := by simp; omega
      go_wp2
      go_roundg (gk / 10)
      case measure => omega
      case rel => exact ⟨_, by rw [HL.out, decDigits_ten gk h10, List.append_assoc]; rfl, by omega, by go_num, by have := HI.out; have := HLEN.out; simp only [List.length_cons]; congr 1; omega, HB1.out, HB.out⟩
set_option maxHeartbeats 800000 in
theorem itoa_plus (x : Int) (U : Nat) (w : World) (h0 : 0 ≤ x) (h1 : x ≤ 9223372036854775807) (hU : x = U) :
    Calls Ybad.prog 5 #[.int .i64 x, .bool true] w fun e w' => e = .returned (.string ⟨(43 :: Lib.decDigits U).toArray⟩) ∧ Below w.heap.size w w' := by
  have hnd := nd_le U (by omega)
  have hUb : (U : Int) ≤ 9223372036854775808 := by omega
  have hB0 : Buf (w.alloc (.cells (Array.replicate 21 (.int .u8 0)) 38)) w.heap.size [] := ⟨_, heap_alloc_new w _, by simp, by simp, fun j c hc => by simp at hc⟩
  have hlt : ¬ x < 0 := by omega
  subst hU
  go_enter Ybad.func5, Ybad.ntmps5
  go_wp2
  go_loopg [5, 8] U (fun gk u i wr => ∃ L : List UInt8, Lib.decDigits U = Lib.decDigits gk ++ L ∧ gk ≤ U ∧ u = .int .u64 gk ∧ i = .int .i64 ((21 - L.length : Nat) : Int) ∧ Buf wr w.heap.size L ∧ Below w.heap.size w wr)
  case atStart => exact ⟨[], by simp, Nat.le_refl _, rfl, rfl, hB0, (Below.refl _ _).alloc (Nat.le_refl _) _⟩
  case round =>
    obtain ⟨L, hL, hgU, rfl, rfl, hB, hbel⟩ := hrel
    clear hB0
    have hlen : L.length + Lib.nDigits gk = Lib.nDigits U := by
      have := congrArg List.length hL
      rw [List.length_append, Lib.decDigits_length, Lib.decDigits_length] at this; omega
    have hp := Lib.nDigits_pos gk
    obtain ⟨i, hi⟩ : ∃ i, 20 - L.length = i := ⟨_, rfl⟩
    have hi21 : 21 - L.length = i + 1 := by omega
    rw [hi21]
    obtain ⟨v, hv⟩ := hB.cell i (by omega)
    have hf := hB.frozen i
    obtain ⟨W1, hW1⟩ : ∃ W1, wr.setCell ⟨w.heap.size, i, none⟩ (.int .u8 (48 + (gk : Int) % 10)) = W1 := ⟨_, rfl⟩
    have hdg := digit_nat gk
    have hB1 : Buf W1 w.heap.size (UInt8.ofNat (48 + gk % 10) :: L) := by
      have h := hB.push (by omega) (UInt8.ofNat (48 + gk % 10)) i hi.symm
      rw [hdg] at h
      rw [← hW1]
      have e : ((48 + gk % 10 : Nat) : Int) = 48 + (gk : Int) % 10 := by omega
      rw [e] at h
      exact h
    have hb1 : Below w.heap.size w W1 := by rw [← hW1]; exact hbel.setCell (p := ⟨w.heap.size, i, none⟩) (Nat.le_refl _) _
    have hi20 : i ≤ 20 := by omega
    have hi2 : 2 ≤ i := by omega
    have hgk : (gk : Int) ≤ 9223372036854775808 := by omega
    have HL := hide hL
    have HI := hide hi
    have HB1 := hide hB1
    have HB := hide hb1
    have HLEN := hide hlen
    clear hL hi hi21 hB hlen hB1 hb1 hbel hdg hnd hp
    by_cases h10 : gk < 10
    · have hq : ((gk : Int) / 10 == 0) = true := by simp; omega
      have HR : Hid (Lib.decDigits U = UInt8.ofNat (48 + gk % 10) :: L) := by
        show _ = _
        rw [HL.out, Lib.decDigits_one h10, Nat.mod_eq_of_lt h10]; rfl
      obtain ⟨j, hj⟩ : ∃ j, i = j + 1 := ⟨i - 1, by omega⟩
      obtain ⟨v', hv'⟩ := HB1.out.cell j (by omega)
      have hf' := HB1.out.frozen j
      obtain ⟨W2, hW2⟩ : ∃ W2, W1.setCell ⟨w.heap.size, j, none⟩ (.int .u8 43) = W2 := ⟨_, rfl⟩
      have hB2 : Buf W2 w.heap.size (43 :: UInt8.ofNat (48 + gk % 10) :: L) := by
        rw [← hW2]
        exact HB1.out.push (by have := HI.out; simp; omega) 43 j (by have := HI.out; simp; omega)
      have hb2 : Below w.heap.size w W2 := by rw [← hW2]; exact HB.out.setCell (p := ⟨w.heap.size, j, none⟩) (Nat.le_refl _) _
      have hsl := sl38 w.heap.size j (by omega)
      have hcv := hB2.conv j (by have := HI.out; simp; omega) (by have := HI.out; simp; omega)
      rw [← HR.out] at hcv
      have HB2 := hide hb2
      clear hB2 hb2
      have hj20 : j ≤ 19 := by omega
      have HI2 := hide hi2
      clear hi2
      subst hj
      go_wp2
      go_ret
      exact ⟨rfl, HB2.out⟩
    · have hq : ((gk : Int) / 10 == 0) = false := by simp; omega
      go_wp2
      go_roundg (gk / 10)
      case measure => omega
      case rel => exact ⟨_, by rw [HL.out, decDigits_ten gk h10, List.append_assoc]; rfl, by omega, by go_num, by have := HI.out; have := HLEN.out; simp only [List.length_cons]; congr 1; omega, HB1.out, HB.out⟩
set_option maxHeartbeats 800000 in
theorem itoa_neg (x : Int) (U : Nat) (plus : Bool) (w : World) (h0 : x < 0) (h1 : -9223372036854775808 ≤ x) (hU : x = -(U : Int)) :
    Calls Ybad.prog 5 #[.int .i64 x, .bool plus] w fun e w' => e = .returned (.string ⟨(45 :: Lib.decDigits U).toArray⟩) ∧ Below w.heap.size w w' := by
  have hnd := nd_le U (by omega)
  have hUb : (U : Int) ≤ 9223372036854775808 := by omega
  have hB0 : Buf (w.alloc (.cells (Array.replicate 21 (.int .u8 0)) 38)) w.heap.size [] := ⟨_, heap_alloc_new w _, by simp, by simp, fun j c hc => by simp at hc⟩
  subst hU
  have hwn := wrapneg (-(U : Int)) h0 h1
  rw [Int.neg_neg] at hwn
  go_enter Ybad.func5, Ybad.ntmps5
  go_wp2
  go_loopg [5, 8] U (fun gk u i wr => ∃ L : List UInt8, Lib.decDigits U = Lib.decDigits gk ++ L ∧ gk ≤ U ∧ u = .int .u64 gk ∧ i = .int .i64 ((21 - L.length : Nat) : Int) ∧ Buf wr w.heap.size L ∧ Below w.heap.size w wr)
  case atStart => exact ⟨[], by simp, Nat.le_refl _, rfl, rfl, hB0, (Below.refl _ _).alloc (Nat.le_refl _) _⟩
  case round =>
    obtain ⟨L, hL, hgU, rfl, rfl, hB, hbel⟩ := hrel
    clear hB0
    have hlen : L.length + Lib.nDigits gk = Lib.nDigits U := by
      have := congrArg List.length hL
      rw [List.length_append, Lib.decDigits_length, Lib.decDigits_length] at this; omega
    have hp := Lib.nDigits_pos gk
    obtain ⟨i, hi⟩ : ∃ i, 20 - L.length = i := ⟨_, rfl⟩
    have hi21 : 21 - L.length = i + 1 := by omega
    rw [hi21]
    obtain ⟨v, hv⟩ := hB.cell i (by omega)
    have hf := hB.frozen i
    obtain ⟨W1, hW1⟩ : ∃ W1, wr.setCell ⟨w.heap.size, i, none⟩ (.int .u8 (48 + (gk : Int) % 10)) = W1 := ⟨_, rfl⟩
    have hdg := digit_nat gk
    have hB1 : Buf W1 w.heap.size (UInt8.ofNat (48 + gk % 10) :: L) := by
      have h := hB.push (by omega) (UInt8.ofNat (48 + gk % 10)) i hi.symm
      rw [hdg] at h
      rw [← hW1]
      have e : ((48 + gk % 10 : Nat) : Int) = 48 + (gk : Int) % 10 := by omega
      rw [e] at h
      exact h
    have hb1 : Below w.heap.size w W1 := by rw [← hW1]; exact hbel.setCell (p := ⟨w.heap.size, i, none⟩) (Nat.le_refl _) _
    have hi20 : i ≤ 20 := by omega
    have hi2 : 2 ≤ i := by omega
    have hgk : (gk : Int) ≤ 9223372036854775808 := by omega
    have HL := hide hL
    have HI := hide hi
    have HB1 := hide hB1
    have HB := hide hb1
    have HLEN := hide hlen
    clear hL hi hi21 hB hlen hB1 hb1 hbel hdg hnd hp
    by_cases h10 : gk < 10
    · have hq : ((gk : Int) / 10 == 0) = true := by simp; omega
      have HR : Hid (Lib.decDigits U = UInt8.ofNat (48 + gk % 10) :: L) := by
        show _ = _
        rw [HL.out, Lib.decDigits_one h10, Nat.mod_eq_of_lt h10]; rfl
      obtain ⟨j, hj⟩ : ∃ j, i = j + 1 := ⟨i - 1, by omega⟩
      obtain ⟨v', hv'⟩ := HB1.out.cell j (by omega)
      have hf' := HB1.out.frozen j
      obtain ⟨W2, hW2⟩ : ∃ W2, W1.setCell ⟨w.heap.size, j, none⟩ (.int .u8 45) = W2 := ⟨_, rfl⟩
      have hB2 : Buf W2 w.heap.size (45 :: UInt8.ofNat (48 + gk % 10) :: L) := by
        rw [← hW2]
        exact HB1.out.push (by have := HI.out; simp; omega) 45 j (by have := HI.out; simp; omega)
      have hb2 : Below w.heap.size w W2 := by rw [← hW2]; exact HB.out.setCell (p := ⟨w.heap.size, j, none⟩) (Nat.le_refl _) _
      have hsl := sl38 w.heap.size j (by omega)
      have hcv := hB2.conv j (by have := HI.out; simp; omega) (by have := HI.out; simp; omega)
      rw [← HR.out] at hcv
      have HB2 := hide hb2
      clear hB2 hb2
      have hj20 : j ≤ 19 := by omega
      have HI2 := hide hi2
      clear hi2
      subst hj
      go_wp2
      go_ret
      exact ⟨rfl, HB2.out⟩
    · have hq : ((gk : Int) / 10 == 0) = false := by simp; omega
      go_wp2
      go_roundg (gk / 10)
      case measure => omega
      case rel => exact ⟨_, by rw [HL.out, decDigits_ten gk h10, List.append_assoc]; rfl, by omega, by go_num, by have := HI.out; have := HLEN.out; simp only [List.length_cons]; congr 1; omega, HB1.out, HB.out⟩

theorem itoa_any (x : Int) (plus : Bool) (w : World) (h0 : -9223372036854775808 ≤ x) (h1 : x ≤ 9223372036854775807) :
    Calls Ybad.prog 5 #[.int .i64 x, .bool plus] w fun e w' => e = .returned (.string ⟨(txt x plus).toArray⟩) ∧ Below w.heap.size w w' := by
  unfold txt
  by_cases hx : x < 0
  · rw [if_pos hx]; exact itoa_neg x x.natAbs plus w hx h0 (by omega)
  · rw [if_neg hx]
    cases plus
    · exact itoa_pos x x.toNat w (by omega) h1 (by omega)
    · exact itoa_plus x x.toNat w (by omega) h1 (by omega)
end Go.Proofs.YbulkbmraDoor
