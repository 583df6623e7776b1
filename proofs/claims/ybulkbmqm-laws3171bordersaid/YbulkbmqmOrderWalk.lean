import Derived.Test.YbulkbmqmProg
import Derived.Test.YbulkbmqmKeepInt
namespace Go.Proofs.Ybulkbmqm
open Go.RowKit
theorem boxes (w1 : World) (v : Value) :
    Below w1.heap.size w1 (((w1.alloc (.cells #[v] 38)).alloc (.cells #[.int .i64 0] 3)).alloc (.cells #[.bool false] 4)) ∧
    (((w1.alloc (.cells #[v] 38)).alloc (.cells #[.int .i64 0] 3)).alloc (.cells #[.bool false] 4)).heap[w1.heap.size + 1]? = some (.cells #[.int .i64 0] 3 (0, 0)) ∧
    (((w1.alloc (.cells #[v] 38)).alloc (.cells #[.int .i64 0] 3)).alloc (.cells #[.bool false] 4)).cell? ⟨w1.heap.size, 0, none⟩ = some v ∧
    (((w1.alloc (.cells #[v] 38)).alloc (.cells #[.int .i64 0] 3)).alloc (.cells #[.bool false] 4)).cell? ⟨w1.heap.size + 1 + 1, 0, none⟩ = some (.bool false) ∧
    (((w1.alloc (.cells #[v] 38)).alloc (.cells #[.int .i64 0] 3)).alloc (.cells #[.bool false] 4)).heap.size = w1.heap.size + 3 := by
  refine ⟨(((Below.refl _ _).alloc (Nat.le_refl _) _).alloc (by simp) _).alloc (by simp <;> omega) _, ?_, ?_, ?_, ?_⟩
  · have h := heap_alloc_new (w1.alloc (.cells #[v] 38)) (.cells #[.int .i64 0] 3)
    have hs : (w1.alloc (.cells #[v] 38)).heap.size = w1.heap.size + 1 := by simp
    rw [hs] at h
    rw [heap_alloc_old _ _ (by simp)]
    exact h
  · refine cell_al _ (cell_al _ ?_); simp
  · have hs : ((w1.alloc (.cells #[v] 38)).alloc (.cells #[.int .i64 0] 3)).heap.size = w1.heap.size + 1 + 1 := by simp
    have h := World.cell?_alloc_new ((w1.alloc (.cells #[v] 38)).alloc (.cells #[.int .i64 0] 3)) #[.bool false] 4 0
    rw [hs] at h
    exact h
  · simp
theorem gby_none {w a : World} (h : w.grownBy a none) : Below w.heap.size w a := ⟨h.os, h.tape, h.output, h.size, fun k hk => h.block k hk (by simp)⟩
set_option maxHeartbeats 1000000 in
theorem order_walk (p : Option Addr) (len cap : Nat) (es : List Ent) (w : World) (hlen : es.length = len) (hmax : len ≤ 1024) (hin : InAt w p es) :
    Calls Yba.prog 5 #[.slice p len cap] w fun e w' => e = .returned (.bool true) ∧ Below w.heap.size w w' := by
  have hb0 : Below w.heap.size w (w.alloc (.cells #[.slice p len cap] 37)) := (Below.refl _ _).alloc (Nat.le_refl _) _
  have hin0 := hin.mono hb0
  have hs0 : (w.alloc (.cells #[.slice p len cap] 37)).heap.size = w.heap.size + 1 := by simp
  have hc0 : (w.alloc (.cells #[.slice p len cap] 37)).cell? ⟨w.heap.size, 0, none⟩ = some (.slice p len cap) := by simp
  have hbd := build_any p len cap es _ hlen hmax hin0
  rw [hs0] at hbd
  have hlen' := hide hlen
  have hbd' := hide hbd
  have hin' := hide hin0
  have hb0' := hide hb0
  have hc0' := hide hc0
  clear hin hin0 hlen hbd hb0 hc0 hs0
  have hgt : ¬ (1024 : Int) < (len : Int) := by omega
  have heq := fun (a : Option Addr) (n c : Nat) (w : World) => Lib.run_eql_slice_nil (P := Yba.prog) w 48 3 a n c 0 0 Yba.underlying48
  go_enter Yba.func5, Yba.ntmps5
  go_wp2_with (go_at_call 9; refine (Hid.out hbd').mono ?_; rintro e w1 ⟨rfl, hL, hb1⟩)
  have hin1 : InAt w1 p es := hin'.out.mono (by simpa using hb1)
  have hoff1 := hL.off hlen'.out
  have hI := cell_bl (w1 := w1) (by simpa using hb1) hc0'.out
  obtain ⟨B1, B2, B3, B4, B5⟩ := boxes w1 (.slice (some ⟨w.heap.size + 1, 0, none⟩) len len)
  have hL1 := hL.lt
  have hkp := keep_int es p len cap (w.heap.size + 1) (w1.heap.size + 1) w.heap.size (w1.heap.size + 1 + 1) w1.heap.size w1 _ B1 hlen'.out hmax B2 hI B3 (by omega) (by omega) hin1 hoff1
  refine hkp.mono ?_
  rintro e w4 ⟨gg, cg, rfl, hK, hC⟩
  have hbel4 : Below w1.heap.size w1 w4 := gby_below B1 hK.2.2 B1.size (by omega)
  have hin4 : InAt w4 p es := hin1.mono hbel4
  have hoff4 := hoff1.mono hbel4
  have hI4 := cell_bl hbel4 hI
  have hO4 := gby_cell hK.2.2 B3 (by simp)
  have hBB4 := gby_cell hK.2.2 B4 (by simp)
  have hC4 := (cell_one hC).1
  have hbw4 : Below w.heap.size w w4 := hb0'.out.trans ((by simpa using hb1 : Below (w.heap.size + 1) _ w1).mono (by omega) |>.trans (hbel4.mono (by omega)))
  have hls : w.heap.size < w4.heap.size := by have := hbel4.size; omega
  have HIN := hide hin4
  have HOF := hide hoff4
  have HK4 := hide hK
  have HB4 := hide hbw4
  have HL := hide hL
  have hkl := keptI_le es len
  clear hkp hin1 hoff1 hI B1 B2 B3 B4 B5 hK hC hb1 hbel4 hin4 hoff4 hbw4 hL hL1 hbd' hin' hb0' hc0'
  go_wp2
  have hK0 : KR w4 (w4.alloc (.cells #[] 3)) none 3 1 (.slice (some ⟨w4.heap.size, 0, none⟩) 0 0) (keptI es 0).length ((keptI es 0).map (Value.int .i64)) :=
    ⟨World.ownsRow_made w4 _ 0 (Nat.le_refl _) (by unfold maxLen; omega) rfl, (fun e => by cases e), World.grownBy_alloc _ _ _⟩
  go_loopg [8, 35] len (fun gk v i wr => ∃ k gw cw : Nat, gk + k = len ∧ i = .int .i64 k ∧ v = .slice (some ⟨gw, 0, none⟩) (keptI es k).length cw ∧ KR w4 wr none 3 1 v (keptI es k).length ((keptI es k).map (Value.int .i64)))
  case atStart => exact ⟨0, w4.heap.size, 0, by omega, rfl, rfl, hK0⟩
  case round =>
    obtain ⟨k, gw, cw, hk, rfl, rfl, hK⟩ := hrel
    clear hK0
    have HK : Hid (gk + k = len) := hk
    have HKR := hide hK
    have hbr : Below w4.heap.size w4 wr := gby_none hK.2.2
    have hwz := hbr.size
    by_cases hlt : k < len
    · obtain ⟨e, he⟩ : ∃ e, es[k]? = some e := ⟨es[k]'(by rw [hlen'.out]; exact hlt), by rw [List.getElem?_eq_getElem]⟩
      obtain ⟨b, o, rfl, h0, h1, h2, h3, h4, h5, h6, h7⟩ := (HIN.out.mono hbr) k e he
      have HE := hide he
      have hkl2 := keptI_le es k
      obtain ⟨i0, hi0, hzz⟩ := Option.map_eq_some_iff.1 info3
      simp only [Prod.mk.injEq] at hzz
      obtain ⟨hz0, hz1, hz2⟩ := hzz
      have HOWN := hide hK.1
      clear hk hK he h6 hbr
      cases hek : e.k
      · have HEK := hide hek
        go_wp2
        go_roundg (gk - 1)
        case measure => have := HK.out; omega
        case rel => exact ⟨k + 1, gw, cw, by have := HK.out; omega, by go_num, by rw [keptI_no es k e HE.out HEK.out], by rw [keptI_no es k e HE.out HEK.out]; exact HKR.out.drop (World.grownBy_alloc wr _ _) (fun j hj => by cases hj)⟩
      · have HEK := hide hek
        go_wp2_with (at_builtin; refine wpList_append_own _ rfl _ _ 48 rfl w4.heap.size 3 i0 (.int .i64 0) 1 8 Yba.underlying48 hi0 hz0 hz1 hz2 rfl (by decide) _ _ _ rfl ((HOWN.out.alloc _).alloc _) ⟨wr.heap.size + 1, 0, none⟩ 1 1 [.int .i64 (k : Int)] rfl rfl ?hnews (fun x hx => by simp at hx; subst hx; rfl) (by unfold maxLen; omega) (by omega) (by simp; omega) ?_)
        case hnews => 
          have h := cell_one_new (wr.alloc (.cells #[.int .u8 e.c, .int .u16 e.t, .slice e.p e.n e.cap, .bool true] 46)) (.int .i64 k) 3
          simpa using h
        intro v' w3 hown3 hg3 hnil
        have HO3 := hide hown3
        have HG3 := hide hg3
        have HN3 := hide hnil
        clear hown3 hg3 hnil
        go_wp2
        go_roundg (gk - 1)
        case measure => have := HK.out; omega
        case rel =>
          have hkr := HKR.out.keep (World.grownBy_alloc wr _ _) HO3.out HG3.out HN3.out
          obtain ⟨g', c', hv'⟩ := hkr.form
          refine ⟨k + 1, g', c', by have := HK.out; omega, by go_num, ?_, ?_⟩
          · rw [keptI_yes es k e HE.out HEK.out, hv']; simp
          · rw [keptI_yes es k e HE.out HEK.out]; simpa using hkr
    · have hkk : k = len := by omega
      subst hkk
      clear HK hk hlt
      go_wp2
      have G1 : Hid (∀ j u, ((keptI es k).map (Value.int .i64))[j]? = some u → wr.cell? ⟨gg, j, none⟩ = some u ∧ wr.cell? ⟨gw, j, none⟩ = some u) := fun j u hu => ⟨cell_bl hbr (HK4.out.cell j u hu), hK.cell j u hu⟩
      have IN6 := hide (HIN.out.mono hbr)
      have OF6 := hide (HOF.out.mono hbr)
      have I6 := hide (cell_bl hbr hI4)
      have O6 := hide (cell_bl hbr hO4)
      have B6 := hide (HB4.out.trans (hbr.mono HB4.out.size))
      have hw6 := hwz
      clear HIN HOF HK4 HB4 hbr hK HKR hI4 hO4 hC4 hBB4 HL
      go_loopg [54] (keptI es k).length (fun gk2 i wx => ∃ j : Nat, gk2 + j = (keptI es k).length ∧ i = .int .i64 j ∧ Below wr.heap.size wr wx)
      case atStart => exact ⟨0, by omega, rfl, Below.refl _ _⟩
      case round =>
        obtain ⟨j, hj, rfl, hb2⟩ := hrel
        by_cases hjl : j < (keptI es k).length
        · have hjj : ((keptI es k).map (Value.int .i64))[j]? = some (.int .i64 ((keptI es k)[j])) := by simp [hjl]
          obtain ⟨c1, c2⟩ := G1.out j _ hjj
          have d1 := cell_bl hb2 c1
          have d2 := cell_bl hb2 c2
          have HJ := hide hj
          have HB2 := hide hb2
          have hji : (j : Int) < ((keptI es k).length : Int) := by omega
          clear hj hjj c1 c2 hb2
          obtain ⟨x, hx⟩ : ∃ x, (keptI es k)[j] = x := ⟨_, rfl⟩
          rw [hx] at d1 d2
          clear hx
          go_wp2
          go_region_held3 (fun w' => w'.cell? ⟨gg, j, none⟩ = some (.int .i64 x) ∧ w'.cell? ⟨gw, j, none⟩ = some (.int .i64 x))
            (refine ⟨?_, ?_⟩ <;> with_reducible repeat (first | assumption | apply cell_dr | apply cell_al))
            (fail)
          go_wp2
          go_roundg (gk - 1)
          case measure => have := HJ.out; omega
          case rel => exact ⟨j + 1, by have := HJ.out; omega, by go_num, HB2.out.drew⟩
        · have e1 := cell_bl hb2 I6.out
          have e2 := cell_bl hb2 O6.out
          have hun := unchanged_any p k cap (w.heap.size + 1) k es _ hlen'.out hmax (IN6.out.mono hb2) (OF6.out.mono hb2)
          have HU := hide hun
          have HB7 := hide (B6.out.trans (hb2.mono B6.out.size))
          clear hun hb2 hj
          go_wp2_with (go_at_call 13; refine (Hid.out HU).mono ?_; rintro e w' ⟨rfl, hb8⟩)
          go_ret
          exact ⟨rfl, HB7.out.trans (hb8.mono HB7.out.size)⟩
end Go.Proofs.Ybulkbmqm
