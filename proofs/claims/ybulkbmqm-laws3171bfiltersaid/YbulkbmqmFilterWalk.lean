import Derived.Test.YbulkbmqmProg
import Derived.Test.YbulkbmqmKeepCod
namespace Go.Proofs.Ybulkbmqm
open Go.RowKit
set_option maxHeartbeats 1000000 in
theorem filter_walk (p : Option Addr) (len cap : Nat) (es : List Ent) (w : World) (hlen : es.length = len) (hmax : len ≤ 1024) (hin : InAt w p es) :
    Calls Yba.prog 6 #[.slice p len cap] w fun e w' => e = .returned (.bool true) ∧ Below w.heap.size w w' := by
  have hbd' := hide (build_any p len cap es w hlen hmax hin)
  have hlen' := hide hlen
  have hin' := hide hin
  clear hin hlen
  have hgt : ¬ (1024 : Int) < (len : Int) := by omega
  have heq := fun (a : Option Addr) (n c : Nat) (w : World) => Lib.run_eql_slice_nil (P := Yba.prog) w 38 43 a n c 0 0 Yba.underlying38
  go_enter Yba.func6, Yba.ntmps6
  go_wp2_with (go_at_call 9; refine (Hid.out hbd').mono ?_; rintro e w1 ⟨rfl, hL, hb1⟩)
  obtain ⟨s, hs⟩ := (hL.off hlen'.out).fn
  refine (keep_cod es s len w.heap.size w1 hlen'.out hmax hs).mono ?_
  rintro e w4 ⟨gg, cg, rfl, hK⟩
  obtain ⟨N, hN⟩ : ∃ N, keptN es len = N := ⟨_, rfl⟩
  have hkl := keptN_le es len
  rw [hN] at hK hkl ⊢
  have HN := hide hN
  have hbel4 : Below w1.heap.size w1 w4 := gby_none hK.2.2
  have HIN := hide (hin'.out.mono (hb1.trans (hbel4.mono hb1.size)))
  have HOF := hide ((hL.off hlen'.out).mono hbel4)
  have HB4 := hide (hb1.trans (hbel4.mono hb1.size))
  have HK4 := hide hK
  have HS : Hid (OffF w4 w.heap.size es s) := fun k e he => by
    obtain ⟨h0, h1, h2, q, n, c, h3, h4, h5⟩ := hs k e he
    exact ⟨cell_bl hbel4 h0, cell_bl hbel4 h1, cell_bl hbel4 h2, q, n, c, h3, h4, Bytes.mono h5 hbel4⟩
  clear hN hK hs hb1 hbel4 hL hbd' hin'
  go_wp2
  go_loopg [6, 21] len (fun gk j i wr => ∃ k : Nat, gk + k = len ∧ i = .int .i64 k ∧ j = .int .i64 (keptN es k) ∧ Below w4.heap.size w4 wr)
  case atStart => exact ⟨0, by omega, rfl, rfl, Below.refl _ _⟩
  case round =>
    obtain ⟨k, hk, rfl, rfl, hbr⟩ := hrel
    by_cases hlt : k < len
    · obtain ⟨e, he⟩ : ∃ e, es[k]? = some e := ⟨es[k]'(by rw [hlen'.out]; exact hlt), by rw [List.getElem?_eq_getElem]⟩
      obtain ⟨b, o, rfl, h0, h1, h2, h3, h4, h5, h6, h7⟩ := (HIN.out.mono hbr) k e he
      obtain ⟨_, _, _, q, n, cq, hsk, g3, g4⟩ := HS.out k e he
      have HK := hide hk
      have HE := hide he
      have HB := hide hbr
      have hkl2 := keptN_le es k
      have hwz := hbr.size
      cases hek : (e.t.tmod 3 != 0)
      · have HEK := hide hek
        have hz : (e.t % 3 == 0) = true := by rw [← Int.tmod_eq_emod_of_nonneg h7]; simpa using hek
        clear hek hk he hbr g4 h6
        go_wp2
        go_roundg (gk - 1)
        case measure => have := HK.out; omega
        case rel => exact ⟨k + 1, by have := HK.out; omega, by go_num, by rw [keptN_no HE.out HEK.out], HB.out.alloc HB.out.size _⟩
      · have HEK := hide hek
        have hz : (e.t % 3 == 0) = false := by rw [← Int.tmod_eq_emod_of_nonneg h7]; simpa using hek
        obtain ⟨c0, c1, c2⟩ := keptV_at (s := s) he hek
        have hjl := keptN_lt he hek
        rw [hlen'.out] at c0 c1 c2 hjl
        rw [HN.out] at hjl
        have d0 := cell_bl hbr (HK4.out.cell _ _ c0)
        have d1 := cell_bl hbr (HK4.out.cell _ _ c1)
        have d2 := cell_bl hbr (HK4.out.cell _ _ c2)
        rw [hsk] at d2
        have b4 := Bytes.mono g4 hbr
        obtain ⟨j, hj⟩ : ∃ j, keptN es k = j := ⟨_, rfl⟩
        rw [hj] at d0 d1 d2 hjl hkl2
        have hji : (j : Int) < (N : Int) := by omega
        have hji2 : ¬ (N : Int) ≤ (j : Int) := by omega
        have HJ := hide hj
        clear hek hk he hbr g4 c0 c1 c2 hj
        rw [HJ.out]
        go_wp2
        have gb : gg < wr.heap.size := World.block_lt_of_cell? _ _ d0
        have hbw : Below wr.heap.size wr (wr.alloc (.cells #[.int .u8 e.c, .int .u16 e.t, .slice e.p e.n e.cap, .bool e.k] 46)) := (Below.refl _ _).alloc (Nat.le_refl _) _
        have e1 := Bytes.mono b4 hbw.drew
        have e2 := Bytes.mono h6 hbw.drew
        go_region_held3 (fun w' => w'.cell? ⟨gg, j * 3, none⟩ = some (.int .u8 (xr e.c)) ∧ w'.cell? ⟨gg, j * 3 + 1, none⟩ = some (.int .u16 e.t) ∧ w'.cell? ⟨gg, j * 3 + 2, none⟩ = some (.slice q n cq)
            ∧ w'.cell? ⟨wr.heap.size, 0, none⟩ = some (.int .u8 e.c) ∧ w'.cell? ⟨wr.heap.size, 1, none⟩ = some (.int .u16 e.t) ∧ w'.cell? ⟨wr.heap.size, 2, none⟩ = some (.slice e.p e.n e.cap))
          (refine ⟨?_, ?_, ?_, ?_, ?_, ?_⟩ <;> with_reducible repeat (first | assumption | (simp; done) | apply cell_dr | apply cell_al))
          (first | (go_at_call 11; refine (same_eq (xr e.c) e.t q e.p n e.n cq e.cap e.bs _ g3 h4 e1 e2).mono ?_; rintro e' w' ⟨rfl, rfl⟩))
        go_wp2
        go_roundg (gk - 1)
        case measure => have := HK.out; omega
        case rel => exact ⟨k + 1, by have := HK.out; omega, by go_num, by rw [keptN_yes HE.out HEK.out, HJ.out]; go_num, HB.out.trans ((((((Below.refl _ _).alloc (Nat.le_refl _) _).alloc (by simp <;> omega) _).alloc (by simp <;> omega) _).drew).mono hwz)⟩
    · have hkk : k = len := by omega
      subst hkk
      have hN' := HN.out
      have HU := hide (unchanged_any p k cap w.heap.size k es _ hlen'.out hmax (HIN.out.mono hbr) (HOF.out.mono hbr))
      have HB7 := hide (HB4.out.trans (hbr.mono HB4.out.size))
      clear hbr hk
      go_wp2_with (go_at_call 13; refine (Hid.out HU).mono ?_; rintro e w' ⟨rfl, hb8⟩)
      go_ret
      exact ⟨rfl, HB7.out.trans (hb8.mono HB7.out.size)⟩
end Go.Proofs.Ybulkbmqm
