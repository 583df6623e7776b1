import Derived.Test.YbulkbmraDoorBad
import Derived.Test.YbulkbmraDoorSumWalk
import Derived.Deep.AppendLies
import Derived.Deep.RegionLaw
namespace Go.Proofs.YbulkbmraDoor
open Go.RowKit
def tS (x : Int) : ByteArray := ⟨(txt x false).toArray⟩
/-- The values in order: the malformed one at place kk. -/
def sr (X : Nat → Int) (kk m : Nat) (j : Nat) : ByteArray := if j < kk then tS (X j) else if j = kk then badS m else tS (X (j - 1))
def Lr (f : Nat → ByteArray) (n : Nat) : List Value := (List.range n).map fun j => .string (f j)
theorem Lr_succ (f : Nat → ByteArray) (n : Nat) : Lr f (n + 1) = Lr f n ++ [.string (f n)] := by unfold Lr; rw [List.range_succ, List.map_append]; rfl
/-- The box bs holds the slice of the first n values, which the call owns from base on. -/
def Bx (w : World) (base bs : Nat) (f : Nat → ByteArray) (n g c : Nat) : Prop :=
  w.heap[bs]? = some (.cells #[.slice (some ⟨g, 0, none⟩) n c] 24 (0, 0)) ∧ w.ownsRow base 9 1 (.slice (some ⟨g, 0, none⟩) n c) n (Lr f n) ∧ g ≠ bs
theorem Bx.below {w w' : World} {base bs n g c : Nat} {f : Nat → ByteArray} (h : Bx w base bs f n g c) (hb : Below w.heap.size w w') : Bx w' base bs f n g c :=
  ⟨(hb.block bs (Array.getElem?_eq_some_iff.1 h.1).1).trans h.1, h.2.1.kept (row := none) ⟨hb.os, hb.tape, hb.output, hb.size, fun k hk _ => hb.block k hk⟩ (.inr (by simp [Value.ownBlock])), h.2.2⟩
theorem Bx.lt {w : World} {base bs n g c : Nat} {f : Nat → ByteArray} (h : Bx w base bs f n g c) : bs < w.heap.size := (Array.getElem?_eq_some_iff.1 h.1).1
/-- Behind the append, ahead of the store. -/
theorem Bx.app {w w1 : World} {base bs n g c : Nat} {f : Nat → ByteArray} {o : Obj} (h : Bx w base bs f n g c) (hg : (w.alloc o).grownBy w1 (Value.slice (some ⟨g, 0, none⟩) n c).ownBlock) : w1.heap[bs]? = some (.cells #[.slice (some ⟨g, 0, none⟩) n c] 24 (0, 0)) := by
  have hl := h.lt
  rw [hg.block bs (by simp; omega) (by simp [Value.ownBlock]; exact fun e => h.2.2 e.symm), heap_alloc_old _ _ hl]
  exact h.1
theorem Bx.done {w1 : World} {base bs n g c g' c' : Nat} {f : Nat → ByteArray} (h1 : w1.heap[bs]? = some (.cells #[.slice (some ⟨g, 0, none⟩) n c] 24 (0, 0)))
    (ho : w1.ownsRow base 9 1 (.slice (some ⟨g', 0, none⟩) (n + 1) c') (n + 1) (Lr f n ++ [.string (f n)])) (hne : g' ≠ bs) : Bx (w1.setCell ⟨bs, 0, none⟩ (.slice (some ⟨g', 0, none⟩) (n + 1) c')) base bs f (n + 1) g' c' := by
  refine ⟨set_one h1, ?_, hne⟩
  rw [Lr_succ]
  refine ho.kept (row := some bs) ⟨rfl, rfl, rfl, by simp [World.setCell], fun k _ hn => Below.heap_setCell _ _ _ _ (fun e => hn (by simp [e]))⟩ (.inr ?_)
  simp [Value.ownBlock]; exact hne
theorem Bx.below_store {w w' w1 : World} {base bs g c n : Nat} {o : Obj} {v : Value} {f : Nat → ByteArray} (h : Bx w' base bs f n g c) (hw : Below base w w') (hbase : base ≤ w'.heap.size) (hbs : base ≤ bs) (hg : (w'.alloc o).grownBy w1 (Value.slice (some ⟨g, 0, none⟩) n c).ownBlock) :
    Below base w (w1.setCell ⟨bs, 0, none⟩ v) :=
  (((hw.alloc hbase o).grown hg (by simp; omega) (fun k hk => (h.2.1.lt k hk).1))).setCell (p := ⟨bs, 0, none⟩) hbs v

theorem bad_any2 (m : Nat) (hm : m < 8) (w : World) : Calls Ybad.prog 9 #[.int .i64 (m : Int)] w fun e w' => e = .returned (.string (badS m)) ∧ Below w.heap.size w w' :=
  (bad_any m hm w).mono fun e w' ⟨h1, h2⟩ => ⟨h1, by rw [h2]; exact Below.refl _ _⟩
theorem bad_any3 (x : Int) (m : Nat) (hm : m < 8) (hx : x = (m : Int)) (w : World) : Calls Ybad.prog 9 #[.int .i64 x] w fun e w' => e = .returned (.string (badS m)) ∧ Below w.heap.size w w' := by
  subst hx; exact bad_any2 m hm w
theorem app_ne {g n c g' H bs : Nat} (hat : (Value.slice (some ⟨g, 0, none⟩) n c).ownBlock = some g' ∨ g' = H) (hg : g ≠ bs) (hH : bs < H) : g' ≠ bs := by
  rcases hat with h | h
  · simp [Value.ownBlock] at h; omega
  · omega
theorem undrew {w w' : World} (h : Below w.drew.heap.size w.drew w') : Below w.heap.size w w' := ⟨h.os, h.tape, h.output, h.size, h.block⟩
set_option maxHeartbeats 800000 in
theorem reject_walk (p : Option Addr) (len cap A Bd : Nat) (X : Nat → Int) (w : World) (hmax : len ≤ 1024) (hA : A ≤ 65535) (hBd : Bd ≤ 255) (hX : XAt w p len X)
    (t1 t2 : TypeId) (p1 p2 : Value) (h1 : w.cell? ⟨1, 0, none⟩ = some (.iface t1 p1)) (h2 : w.cell? ⟨2, 0, none⟩ = some (.iface t2 p2)) :
    Calls Ybad.prog 4 #[.slice p len cap, .int .u16 A, .int .u8 Bd] w fun e w' => e = .returned (.bool true) ∧ Below w.heap.size w w' := by
  have hgt : ¬ (1024 : Int) < (len : Int) := by omega
  obtain ⟨kk, hkk⟩ : ∃ kk, kk = A % (len + 1) := ⟨_, rfl⟩
  obtain ⟨m, hm⟩ : ∃ m, m = Bd % 8 := ⟨_, rfl⟩
  have hkl : kk ≤ len := by rw [hkk]; have := Nat.mod_lt A (show 0 < len + 1 by omega); omega
  have hm8 : m < 8 := by omega
  have hmodk : (A : Int) % ((len : Int) + 1) = (kk : Int) := by rw [hkk, Int.natCast_emod, show ((len + 1 : Nat) : Int) = (len : Int) + 1 by omega]
  have hmodm : (Bd : Int) % 8 = (m : Int) := by omega
  have HMM : Hid ((IntKind.i64.wrap (Bd : Int)).tmod 8 = (m : Int)) := by
    show (IntKind.i64.wrap (Bd : Int)).tmod 8 = (m : Int)
    have e : IntKind.i64.wrap (Bd : Int) = (Bd : Int) := by rw [IntKind.wrap_i64]; omega
    rw [e, Int.tmod_eq_emod_of_nonneg (by omega)]; exact hmodm
  have hmk : ∀ w : World, (Instr.makeSlice 24 (.int .i64 0) (.int .i64 ((len : Int) + 1))).run Ybad.prog w = .ok (.slice (some ⟨w.heap.size, 0, none⟩) 0 (len + 1)) (w.alloc (.cells (zes (len + 1)) 9)) := fun w => by
    have h := make9 0 (len + 1) (by omega) (by omega) w
    rwa [show ((len + 1 : Nat) : Int) = (len : Int) + 1 by omega, Int.natCast_zero] at h
  have hBx0 : Bx ((w.alloc (.cells (zes (len + 1)) 9)).alloc (.cells #[.slice (some ⟨w.heap.size, 0, none⟩) 0 (len + 1)] 24)) w.heap.size (w.heap.size + 1) (sr X kk m) 0 w.heap.size (len + 1) := by
    refine ⟨?_, ?_, by omega⟩
    · have h := heap_alloc_new (w.alloc (.cells (zes (len + 1)) 9)) (.cells #[.slice (some ⟨w.heap.size, 0, none⟩) 0 (len + 1)] 24)
      rw [World.size_alloc] at h; exact h
    · exact (World.ownsRow_made w _ (len + 1) (Nat.le_refl _) (by unfold maxLen; omega) ((zes_size _).trans (Nat.mul_one _).symm)).alloc _
  have hB0 : Below w.heap.size w ((w.alloc (.cells (zes (len + 1)) 9)).alloc (.cells #[.slice (some ⟨w.heap.size, 0, none⟩) 0 (len + 1)] 24)) := ((Below.refl _ w).alloc (Nat.le_refl _) _).alloc (by simp) _
  have HX := hide hX
  have H1 := hide h1
  have H2 := hide h2
  clear hX h1 h2 hkk hm
  go_enter Ybad.func4, Ybad.ntmps4
  go_wp2
  go_loopg [9] kk (fun gk i wr => ∃ n g c : Nat, gk + n = kk ∧ i = .int .i64 n ∧ Bx wr w.heap.size (w.heap.size + 1) (sr X kk m) n g c ∧ Below w.heap.size w wr)
  case atStart => exact ⟨0, _, _, by omega, rfl, hBx0, hB0⟩
  case round =>
    obtain ⟨n, g, c, hn, rfl, hBx, hbel⟩ := hrel
    clear hBx0 hB0 hmk
    have HN := hide hn
    have HB := hide hbel
    have HBx := hide hBx
    obtain ⟨hc, hf⟩ := cell_one hBx.1
    have hbl := hBx.lt
    obtain ⟨i0, hi0, hzz⟩ := Option.map_eq_some_iff.1 info9
    simp only [Prod.mk.injEq] at hzz
    obtain ⟨hz0, hz1, hz2⟩ := hzz
    by_cases hlt : n < kk
    · obtain ⟨b, o, rfl, hx0, hx1, hx2⟩ := HX.out n (by omega)
      have hbb : b < w.heap.size := World.block_lt_of_cell? _ _ hx0
      have hx := cell_bl hbel hx0
      have HI := hide (fun w => itoa_any (X n) false w hx1 hx2)
      have hnl : (n : Int) < (kk : Int) := by omega
      have hnl2 : (n : Int) < (len : Int) := by omega
      have HSR : Hid (sr X kk m n = ⟨(txt (X n) false).toArray⟩) := if_pos hlt
      clear hx0 hn hbel hBx
      go_wp2
      go_region_law (first
        | (refine step_append_lies _ rfl _ _ 24 rfl w.heap.size 9 i0 (.string ByteArray.empty) 1 16 Ybad.underlying24 hi0 hz0 hz1 hz2 rfl (by decide) _ n (Lr (sr X kk m) n) rfl (HBx'.out.2.1.alloc _) ⟨w'.heap.size, 0, none⟩ 1 1 [.string ⟨(txt (X n) false).toArray⟩] rfl rfl (cell_one_new _ _ _) (fun x hx => by simp at hx; subst hx; rfl) (by decide) (by unfold maxLen; omega) (by omega) (by simp; omega) _ rfl ?_; intro g' c' w1 hown1 hg1 hat hlt1; have hbs1 := HBx'.out.app hg1; obtain ⟨hc1, hf1⟩ := cell_one hbs1; have HNE := hide (app_ne (bs := w.heap.size + 1) hat HBx'.out.2.2 (by simp; omega)); have HO1 := hide hown1; have HG1 := hide hg1; have HS1 := hide hbs1; clear hown1 hg1 hat hbs1)
        | (go_simp; go_at_call 5; refine (Hid.out HI _).mono ?_; rintro e w' ⟨rfl, hb⟩; have hBx' := HBx.out.below (undrew hb); obtain ⟨hc', hf'⟩ := cell_one hBx'.1; have HBx' := hide hBx'; have hbl' := hBx'.lt; clear hBx'))
      all_goals
        go_wp2
        go_roundg (gk - 1)
        case measure => have := HN.out; omega
        case rel =>
          refine ⟨n + 1, g', c', by have := HN.out; omega, by go_num, Bx.done HS1.out (by rw [HSR.out]; exact HO1.out) HNE.out, ?_⟩
          exact HBx'.out.below_store (HB.out.trans ((undrew hb).mono HB.out.size)) (Nat.le_trans HB.out.size (undrew hb).size) (by omega) HG1.out
    · obtain rfl : n = kk := by omega
      have HSR : Hid (sr X n m n = badS m) := by show sr X n m n = badS m; unfold sr; rw [if_neg (by omega), if_pos rfl]
      clear hn hbel hBx hlt
      go_wp2
      go_region_law (first
        | (refine step_append_lies _ rfl _ _ 24 rfl w.heap.size 9 i0 (.string ByteArray.empty) 1 16 Ybad.underlying24 hi0 hz0 hz1 hz2 rfl (by decide) _ n (Lr (sr X n m) n) rfl (HBx'.out.2.1.alloc _) ⟨w'.heap.size, 0, none⟩ 1 1 [.string (badS m)] rfl rfl (cell_one_new _ _ _) (fun x hx => by simp at hx; subst hx; rfl) (by decide) (by unfold maxLen; omega) (by omega) (by simp; omega) _ rfl ?_; intro g' c' w1 hown1 hg1 hat hlt1; have hbs1 := HBx'.out.app hg1; obtain ⟨hc1, hf1⟩ := cell_one hbs1; have HNE := hide (app_ne (bs := w.heap.size + 1) hat HBx'.out.2.2 (by simp; omega)); have HO1 := hide hown1; have HG1 := hide hg1; have HS1 := hide hbs1; clear hown1 hg1 hat hbs1)
        | (go_simp; go_at_call 9; refine (bad_any3 _ m hm8 (by first | rfl | exact HMM.out) _).mono ?_; rintro e w' ⟨rfl, hb⟩; have hBx' := HBx.out.below (undrew hb); obtain ⟨hc', hf'⟩ := cell_one hBx'.1; have HBx' := hide hBx'; have hbl' := hBx'.lt; clear hBx'))
      all_goals
        have hBx2 : Bx (w1.setCell ⟨w.heap.size + 1, 0, none⟩ (.slice (some ⟨g', 0, none⟩) (n + 1) c')) w.heap.size (w.heap.size + 1) (sr X n m) (n + 1) g' c' := Bx.done HS1.out (by rw [HSR.out]; exact HO1.out) HNE.out
        have hB2 : Below w.heap.size w (w1.setCell ⟨w.heap.size + 1, 0, none⟩ (.slice (some ⟨g', 0, none⟩) (n + 1) c')) := HBx'.out.below_store (HB.out.trans ((undrew hb).mono HB.out.size)) (Nat.le_trans HB.out.size (undrew hb).size) (by omega) HG1.out
        have HBX2 := hide hBx2
        have HB2 := hide hB2
        clear hBx2 hB2
        go_wp2
        go_loopg [10] (len - n) (fun gk i wr => ∃ q gq cq : Nat, gk + q = len ∧ n ≤ q ∧ i = .int .i64 q ∧ Bx wr w.heap.size (w.heap.size + 1) (sr X n m) (q + 1) gq cq ∧ Below w.heap.size w wr)
        case atStart => exact ⟨n, g', c', by omega, Nat.le_refl _, rfl, HBX2.out, HB2.out⟩
        case round =>
          obtain ⟨q, gq, cq, hq, hnq, rfl, hBxq, hbelq⟩ := hrel
          have HQ := hide hq
          have HBq := hide hbelq
          have HBxq := hide hBxq
          obtain ⟨hcq, hfq⟩ := cell_one hBxq.1
          have hblq := hBxq.lt
          clear HBX2 HB2 HBx' HBx HO1 HG1 HS1 HNE hc1 hf1 hc' hf' hc hf hbl' hbl hlt1 hb
          by_cases hlt : q < len
          · obtain ⟨b, o, rfl, hx0, hx1, hx2⟩ := HX.out q hlt
            have hx := cell_bl hbelq hx0
            have HI := hide (fun w => itoa_any (X q) false w hx1 hx2)
            have hql : (q : Int) < (len : Int) := by omega
            have HSQ : Hid (sr X n m (q + 1) = ⟨(txt (X q) false).toArray⟩) := by
              show sr X n m (q + 1) = _
              unfold sr; rw [if_neg (by omega), if_neg (by omega)]; rfl
            clear hx0 hq hbelq hBxq
            go_wp2
            go_region_law (first
              | (refine step_append_lies _ rfl _ _ 24 rfl w.heap.size 9 i0 (.string ByteArray.empty) 1 16 Ybad.underlying24 hi0 hz0 hz1 hz2 rfl (by decide) _ (q + 1) (Lr (sr X n m) (q + 1)) rfl (HBx'.out.2.1.alloc _) ⟨w'.heap.size, 0, none⟩ 1 1 [.string ⟨(txt (X q) false).toArray⟩] rfl rfl (cell_one_new _ _ _) (fun x hx => by simp at hx; subst hx; rfl) (by decide) (by unfold maxLen; omega) (by omega) (by simp; omega) _ rfl ?_; intro g' c' w1 hown1 hg1 hat hlt1; have hbs1 := HBx'.out.app hg1; obtain ⟨hc1, hf1⟩ := cell_one hbs1; have HNE := hide (app_ne (bs := w.heap.size + 1) hat HBx'.out.2.2 (by simp; omega)); have HO1 := hide hown1; have HG1 := hide hg1; have HS1 := hide hbs1; clear hown1 hg1 hat hbs1)
              | (go_simp; go_at_call 5; refine (Hid.out HI _).mono ?_; rintro e w' ⟨rfl, hb⟩; have hBx' := HBxq.out.below (undrew hb); obtain ⟨hc', hf'⟩ := cell_one hBx'.1; have HBx' := hide hBx'; have hbl' := hBx'.lt; clear hBx'))
            all_goals
              go_wp2
              go_roundg (gk - 1)
              case measure => have := HQ.out; omega
              case rel =>
                refine ⟨q + 1, _, _, by have := HQ.out; omega, by omega, by go_num, Bx.done HS1.out (by rw [HSQ.out]; exact HO1.out) HNE.out, ?_⟩
                exact HBx'.out.below_store (HBq.out.trans ((undrew hb).mono HBq.out.size)) (Nat.le_trans HBq.out.size (undrew hb).size) (by omega) HG1.out
          · obtain rfl : q = len := by omega
            have hqc : ∀ j, j < q + 1 → wr.cell? ⟨gq, j, none⟩ = some (.string (sr X n m j)) := fun j hj => by
              have h := hBxq.2.1.cells (g := gq) rfl j (.string (sr X n m j)) (by unfold Lr; simp [hj])
              rwa [Go.WideShapes.add_plain, Nat.zero_add] at h
            have hgq : gq < wr.heap.size := World.block_lt_of_cell? _ _ (hqc 0 (by omega))
            obtain ⟨W0, hW0⟩ : ∃ W0, (wr.alloc (.cells #[.int .i64 0] 3)).alloc (.cells #[.int .i64 0] 3) = W0 := ⟨_, rfl⟩
            have hb0 : Below wr.heap.size wr W0 := by rw [← hW0]; exact ((Below.refl _ wr).alloc (Nat.le_refl _) _).alloc (by simp) _
            have hs0 : W0.heap.size = wr.heap.size + 2 := by rw [← hW0]; simp
            have hC0 : W0.heap[wr.heap.size]? = some (.cells #[.int .i64 0] 3 (0, 0)) := by rw [← hW0, heap_alloc_old _ _ (by simp)]; exact heap_alloc_new wr _
            have he0 : W0.heap[wr.heap.size + 1]? = some (.cells #[.int .i64 0] 3 (0, 0)) := by
              rw [← hW0]; have h := heap_alloc_new (wr.alloc (.cells #[.int .i64 0] 3)) (.cells #[.int .i64 0] 3); rw [World.size_alloc] at h; exact h
            have hcb := cell_bl hb0 hcq
            have hst : StrsAt W0 (w.heap.size + 1) W0.heap.size (q + 1) (sr X n m) := ⟨gq, cq, by omega, hcb, fun _ => by omega, fun j hj => cell_bl hb0 (hqc j hj)⟩
            have hbw : Below w.heap.size w W0 := hbelq.trans (hb0.mono hbelq.size)
            obtain ⟨hb1, hb2, hb3⟩ := bad_facts ⟨m, hm8⟩
            have hsn : sr X n m n = badS m := by unfold sr; rw [if_neg (by omega), if_pos rfl]
            have hsum := sum_bad (w.heap.size + 1) wr.heap.size (wr.heap.size + 1) (q + 1) n (sr X n m) X W0 (by omega) hst hC0 (by omega) (fun g' c' h _ => by rw [hcb] at h; cases h; omega) (by have := World.block_lt_of_cell? _ _ H2.out; have := hbelq.size; omega) (by omega)
              (fun i hi => by
                obtain ⟨_, _, _, _, h1, h2⟩ := HX.out i (by omega)
                have e : sr X n m i = tS (X i) := if_pos hi
                rw [e]
                exact ⟨by have := txt_len (X i) false h1 h2; show (txt (X i) false).toArray.size ≤ 1000; simp; omega, by show Lib.atoiAll (txt (X i) false).toArray.toList = _; rw [List.toList_toArray]; exact atoi_txt _ _ h1 h2⟩)
              (by rw [hsn]; exact hb1) (by rw [hsn]; exact not_ok hb2) (by rw [hsn]; exact not_ok hb3) t1 t2 p1 p2 (cell_bl hbw H1.out) (cell_bl hbw H2.out)
            have HSUM := hide hsum
            have HBW := hide hbw
            have HE0 := hide he0
            have HS0 := hide hs0
            have hws : w.heap.size ≤ wr.heap.size := hbelq.size
            clear hsum hst he0 hC0 hb0 hcb hqc hbelq hBxq hq hcq hs0 hbw hsn hb1 hb2 hb3
            have HW0 := hide hW0
            clear hW0
            go_wp2_with fail
            rw [HW0.out]
            refine HSUM.out.mono ?_
            rintro e W1 ⟨⟨N', rfl⟩, hC1, hT1⟩
            have hc1 := (cell_one hC1).1
            have he1 := (cell_one (HE0.out ▸ hT1.block (wr.heap.size + 1) (by have := HS0.out; omega) (by omega) (by omega))).1
            have hB1 : Below w.heap.size w W1 := by
              have h := HBW.out
              have hs := HS0.out
              exact ⟨hT1.os.trans h.os, hT1.tape.trans h.tape, hT1.output.trans h.output, Nat.le_trans h.size hT1.size, fun j hj => (hT1.block j (by omega) (by omega) (by omega)).trans (h.block j hj)⟩
            have HB1 := hide hB1
            clear hB1 hT1 hC1
            go_wp2
            go_ret
            exact ⟨rfl, HB1.out⟩
theorem reject_big (p : Option Addr) (len cap : Nat) (a b : Int) (w : World) (hmax : 1024 < len) :
    Calls Ybad.prog 4 #[.slice p len cap, .int .u16 a, .int .u8 b] w fun e w' => e = .returned (.bool true) ∧ Below w.heap.size w w' := by
  have hgt : (1024 : Int) < (len : Int) := by omega
  go_enter Ybad.func4, Ybad.ntmps4
  go_wp2
  go_ret
  exact ⟨rfl, Below.refl _ _⟩
end Go.Proofs.YbulkbmraDoor
