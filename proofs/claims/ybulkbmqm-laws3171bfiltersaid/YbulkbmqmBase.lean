import Derived.Test.YbulkbmqmProg
import Derived.Test.YbulkbmqmShelf
import Derived.WalkKit
import Derived.WalkSpells
import Derived.Below
import Derived.Deep.RegionHeld3
import Derived.Deep.LoopGhost
import Derived.LoopTactic
namespace Go.Proofs.Ybulkbmqm
open Go.RowKit

theorem Bytes.mono {w w' : World} {p : Option Addr} {n : Nat} {xs : List Int} (h : Lib.BytesIn w p n xs) (hb : Below w.heap.size w w') : Lib.BytesIn w' p n xs := fun hn => by
  obtain ⟨b, o, rfl, hc⟩ := h hn
  refine ⟨b, o, rfl, fun i hi => ?_⟩
  have := hc i hi
  rw [hb.cell (p := ⟨b, o + i, none⟩) (World.block_lt_of_cell? _ _ this)]
  exact this

theorem same_eq (c t : Int) (p1 p2 : Option Addr) (n1 n2 k1 k2 : Nat) (bs : List Int) (w : World) (h1 : bs.length = n1) (h2 : bs.length = n2) (b1 : Lib.BytesIn w p1 n1 bs) (b2 : Lib.BytesIn w p2 n2 bs) :
    Calls Yba.prog 11 #[.agg #[.int .u8 c, .int .u16 t, .slice p1 n1 k1], .agg #[.int .u8 c, .int .u16 t, .slice p2 n2 k2]] w fun e w' => e = .returned (.bool true) ∧
      w' = (w.alloc (.cells #[.int .u8 c, .int .u16 t, .slice p1 n1 k1] 43)).alloc (.cells #[.int .u8 c, .int .u16 t, .slice p2 n2 k2] 43) := by
  have hb : Below w.heap.size w ((w.alloc (.cells #[.int .u8 c, .int .u16 t, .slice p1 n1 k1] 43)).alloc (.cells #[.int .u8 c, .int .u16 t, .slice p2 n2 k2] 43)) := ((Below.refl _ _).alloc (Nat.le_refl _) _).alloc (by simp) _
  have c1 := Bytes.mono b1 hb
  have c2 := Bytes.mono b2 hb
  clear hb
  go_enter Yba.func11, Yba.ntmps11
  go_wp2_with (go_at_call 17; refine (Yba.bytes_Equal_all p1 p2 n1 k1 n2 k2 bs bs _ h1 h2 c1 c2).mono ?_; rintro e w' ⟨rfl, rfl⟩)
  go_ret
  exact ⟨rfl, rfl⟩

theorem cell_al {w : World} {a : Addr} {v : Value} (o : Obj) (h : w.cell? a = some v) : (w.alloc o).cell? a = some v := (World.cell?_alloc_lt _ _ _ (World.block_lt_of_cell? _ _ h)).trans h
theorem cell_dr {w : World} {a : Addr} {v : Value} (h : w.cell? a = some v) : w.drew.cell? a = some v := h

/-- What one entry of the input holds. -/
structure Ent where
  c : Int
  t : Int
  p : Option Addr
  n : Nat
  cap : Nat
  bs : List Int
  k : Bool

def EntAt (w : World) (b o : Nat) (e : Ent) : Prop :=
  w.cell? ⟨b, o, none⟩ = some (.int .u8 e.c) ∧ w.cell? ⟨b, o + 1, none⟩ = some (.int .u16 e.t) ∧ w.cell? ⟨b, o + 2, none⟩ = some (.slice e.p e.n e.cap) ∧ w.cell? ⟨b, o + 3, none⟩ = some (.bool e.k) ∧
    e.bs.length = e.n ∧ e.n ≤ 140737488355328 ∧ Lib.BytesIn w e.p e.n e.bs ∧ 0 ≤ e.t
def InAt (w : World) (p : Option Addr) (es : List Ent) : Prop := ∀ k e, es[k]? = some e → ∃ b o, p = some ⟨b, o, none⟩ ∧ EntAt w b (o + k * 4) e
def CodAt (w : World) (g o : Nat) (c t : Int) (bs : List Int) : Prop :=
  ∃ p n cap, w.cell? ⟨g, o, none⟩ = some (.int .u8 c) ∧ w.cell? ⟨g, o + 1, none⟩ = some (.int .u16 t) ∧ w.cell? ⟨g, o + 2, none⟩ = some (.slice p n cap) ∧ bs.length = n ∧ Lib.BytesIn w p n bs
def OffAt (w : World) (g : Nat) (es : List Ent) : Prop := ∀ k e, es[k]? = some e → CodAt w g (k * 3) e.c e.t e.bs

theorem EntAt.mono {w w' : World} {b o : Nat} {e : Ent} (h : EntAt w b o e) (hb : Below w.heap.size w w') : EntAt w' b o e := by
  obtain ⟨h0, h1, h2, h3, h4, h5, h6, h7⟩ := h
  refine ⟨?_, ?_, ?_, ?_, h4, h5, Bytes.mono h6 hb, h7⟩
  · rw [hb.cell (p := ⟨b, o, none⟩) (World.block_lt_of_cell? _ _ h0)]; exact h0
  · rw [hb.cell (p := ⟨b, o + 1, none⟩) (World.block_lt_of_cell? _ _ h1)]; exact h1
  · rw [hb.cell (p := ⟨b, o + 2, none⟩) (World.block_lt_of_cell? _ _ h2)]; exact h2
  · rw [hb.cell (p := ⟨b, o + 3, none⟩) (World.block_lt_of_cell? _ _ h3)]; exact h3
theorem InAt.mono {w w' : World} {p : Option Addr} {es : List Ent} (h : InAt w p es) (hb : Below w.heap.size w w') : InAt w' p es := fun k e he => by
  obtain ⟨b, o, hp, hx⟩ := h k e he
  exact ⟨b, o, hp, hx.mono hb⟩
theorem CodAt.mono {w w' : World} {g o : Nat} {c t : Int} {bs : List Int} (h : CodAt w g o c t bs) (hb : Below w.heap.size w w') : CodAt w' g o c t bs := by
  obtain ⟨p, n, cap, h0, h1, h2, h3, h4⟩ := h
  refine ⟨p, n, cap, ?_, ?_, ?_, h3, Bytes.mono h4 hb⟩
  · rw [hb.cell (p := ⟨g, o, none⟩) (World.block_lt_of_cell? _ _ h0)]; exact h0
  · rw [hb.cell (p := ⟨g, o + 1, none⟩) (World.block_lt_of_cell? _ _ h1)]; exact h1
  · rw [hb.cell (p := ⟨g, o + 2, none⟩) (World.block_lt_of_cell? _ _ h2)]; exact h2
theorem OffAt.mono {w w' : World} {g : Nat} {es : List Ent} (h : OffAt w g es) (hb : Below w.heap.size w w') : OffAt w' g es := fun k e he => (h k e he).mono hb

set_option maxHeartbeats 400000 in
theorem unchanged_any (p : Option Addr) (len cap g cap2 : Nat) (es : List Ent) (w : World) (hlen : es.length = len) (hmax : len ≤ 1024) (hin : InAt w p es) (hoff : OffAt w g es) :
    Calls Yba.prog 13 #[.slice p len cap, .slice (some ⟨g, 0, none⟩) len cap2] w fun e w' => e = .returned (.bool true) ∧ Below w.heap.size w w' := by
  have hlen' : Hid (es.length = len) := hlen
  clear hlen
  go_enter Yba.func13, Yba.ntmps13
  go_wp2
  go_loopg [14] len (fun gk i wr => ∃ k : Nat, gk + k = len ∧ i = .int .i64 k ∧ Below w.heap.size w wr)
  case atStart => exact ⟨0, by omega, rfl, Below.refl _ _⟩
  case round =>
    obtain ⟨k, hk, rfl, hbel⟩ := hrel
    by_cases hlt : k < len
    · obtain ⟨e, he⟩ : ∃ e, es[k]? = some e := ⟨es[k]'(by rw [hlen'.out]; exact hlt), by rw [List.getElem?_eq_getElem]⟩
      obtain ⟨b, o, rfl, h0, h1, h2, h3, h4, h5, h6, h7⟩ := (hin.mono hbel) k e he
      obtain ⟨q, n, c, g0, g1, g2, g3, g4⟩ := (hoff.mono hbel) k e he
      have HK : Hid (gk + k = len) := hk
      clear hk hin hoff he
      go_wp2
      have hki : (k : Int) < (len : Int) := by omega
      have gb : g < wr.heap.size := World.block_lt_of_cell? _ _ g0
      have gb1 : g < wr.heap.size + 1 := by omega
      have gb2 : g < wr.heap.size + 1 + 1 := by omega
      have hbw : Below wr.heap.size wr (wr.alloc (.cells #[.int .u8 e.c, .int .u16 e.t, .slice e.p e.n e.cap, .bool e.k] 46)) := (Below.refl _ _).alloc (Nat.le_refl _) _
      have c1 := Bytes.mono g4 hbw.drew
      have c2 := Bytes.mono h6 hbw.drew
      go_region_held3 (fun w' => w'.cell? ⟨g, k * 3, none⟩ = some (.int .u8 e.c) ∧ w'.cell? ⟨g, k * 3 + 1, none⟩ = some (.int .u16 e.t) ∧ w'.cell? ⟨g, k * 3 + 2, none⟩ = some (.slice q n c)
          ∧ w'.cell? ⟨wr.heap.size, 0, none⟩ = some (.int .u8 e.c) ∧ w'.cell? ⟨wr.heap.size, 1, none⟩ = some (.int .u16 e.t) ∧ w'.cell? ⟨wr.heap.size, 2, none⟩ = some (.slice e.p e.n e.cap)) (refine ⟨?_, ?_, ?_, ?_, ?_, ?_⟩ <;> with_reducible repeat (first | assumption | (simp; done) | apply cell_dr | apply cell_al))
        (first | (go_at_call 11; refine (same_eq e.c e.t q e.p n e.n c e.cap e.bs _ g3 h4 c1 c2).mono ?_; rintro e' w' ⟨rfl, rfl⟩))
      go_wp2
      go_roundg (gk - 1)
      case measure => have := HK.out; omega
      case rel => exact ⟨k + 1, by have := HK.out; omega, by go_num, hbel.trans ((((((Below.refl _ _).alloc (Nat.le_refl _) _).alloc (by simp <;> omega) _).alloc (by simp <;> omega) _).drew).mono hbel.size)⟩
    · go_wp2
      go_ret
      exact ⟨rfl, hbel⟩

theorem cell_bl {w w1 : World} {a : Addr} {v : Value} (hb : Below w.heap.size w w1) (h : w.cell? a = some v) : w1.cell? a = some v := (hb.cell (World.block_lt_of_cell? _ _ h)).trans h
theorem froz_bl {w w1 : World} {a : Addr} (hb : Below w.heap.size w w1) (hl : a.block < w.heap.size) (h : w.frozen? a = false) : w1.frozen? a = false := (hb.frozen hl).trans h

theorem clone_any (p : Option Addr) (n cap : Nat) (bs : List Int) (w : World) (h : bs.length = n) (hn : n ≤ 140737488355328) (hb : Lib.BytesIn w p n bs) :
    Calls Yba.prog 16 #[.slice p n cap] w fun e w' => ∃ p' c', e = .returned (.slice p' n c') ∧ Lib.BytesIn w' p' n bs ∧ (∀ a, p' = some a → w.heap.size ≤ a.block) ∧ Below w.heap.size w w' := by
  cases p with
  | none =>
    have h0 : n = 0 := by
      rcases Nat.eq_zero_or_pos n with h | h
      · exact h
      · obtain ⟨b, o, hx, _⟩ := hb h; cases hx
    subst h0
    refine (Yba.bytes_Clone_nil 0 cap w).mono ?_
    rintro e w' ⟨rfl, rfl⟩
    exact ⟨none, 0, rfl, Lib.BytesIn.nil _ _ _, fun a ha => (by cases ha), Below.refl _ _⟩
  | some a =>
    refine (Yba.bytes_Clone_at a n cap bs w h hn ?_).mono ?_
    · intro i hi
      obtain ⟨b, o, hx, hc⟩ := hb (by omega)
      cases hx
      have := hc i hi
      rw [Go.WideShapes.add_plain]; exact this
    · rintro e w' ⟨v', rfl, hown, hne, hbel⟩
      rcases hown.2 with ⟨rfl, _⟩ | ⟨g, cap', cur, rfl, hg, hh, hle, hmx, hsz, htk⟩
      · exact absurd rfl hne
      · refine ⟨some ⟨g, 0, none⟩, cap', rfl, fun hn0 => ⟨g, 0, rfl, fun i hi => ?_⟩, fun a ha => by cases ha; exact hg, hbel⟩
        have := hown.cells (g := g) rfl i (.int .u8 (bs.getD i 0)) (by simp [List.getD, List.getElem?_eq_getElem (show i < bs.length by omega)])
        rw [Go.WideShapes.add_plain] at this
        exact this

def zer (n : Nat) : Array Value := madeCells #[.int .u8 0, .int .u16 0, .slice none 0 0] n
theorem zer_size (n : Nat) : (zer n).size = n := size_madeCells _ _
theorem info43 : (Yba.prog.info? 43).map (fun i => (i.zero, i.size, i.bytes)) = some (some (.agg #[.int .u8 0, .int .u16 0, .slice none 0 0]), 3, 32) := by kernel_rfl
theorem make43 (l n : Nat) (hl : l ≤ n) (hn : n ≤ 1024) (w : World) :
    (Instr.makeSlice 38 (.int .i64 (l : Int)) (.int .i64 (n : Int))).run Yba.prog w = .ok (.slice (some ⟨w.heap.size, 0, none⟩) l n) (w.alloc (.cells (zer (n * 3)) 43)) := by
  obtain ⟨i, hi, hzz⟩ := Option.map_eq_some_iff.1 info43
  simp only [Prod.mk.injEq] at hzz
  obtain ⟨hz, hs, hb⟩ := hzz
  have hr := run_make (P := Yba.prog) w 38 43 i _ Yba.underlying38 hi hz .i64 .i64 l n (by omega) (by omega) (by rw [hb]; omega) (by omega)
  simp only [Int.toNat_natCast, hs] at hr
  exact hr

/-- The offer as the build lays it, its first k elements. -/
def Laid (w : World) (g len : Nat) (es : List Ent) (k : Nat) : Prop :=
  (∃ cur : Array Value, w.heap[g]? = some (.cells cur 43 (0, 0)) ∧ cur.size = len * 3) ∧
  ∀ j e, j < k → es[j]? = some e → ∃ p n cap, w.cell? ⟨g, j * 3, none⟩ = some (.int .u8 e.c) ∧ w.cell? ⟨g, j * 3 + 1, none⟩ = some (.int .u16 e.t) ∧ w.cell? ⟨g, j * 3 + 2, none⟩ = some (.slice p n cap) ∧
    e.bs.length = n ∧ Lib.BytesIn w p n e.bs ∧ ∀ a, p = some a → g < a.block
theorem Laid.off {w : World} {g len : Nat} {es : List Ent} (h : Laid w g len es len) (hl : es.length = len) : OffAt w g es := fun k e he => by
  obtain ⟨p, n, cap, h0, h1, h2, h3, h4, _⟩ := h.2 k e (by rw [← hl]; exact (List.getElem?_eq_some_iff.1 he).1) he
  exact ⟨p, n, cap, h0, h1, h2, h3, h4⟩
theorem Laid.mono {w w' : World} {g len k : Nat} {es : List Ent} (h : Laid w g len es k) (hb : Below w.heap.size w w') : Laid w' g len es k := by
  obtain ⟨⟨cur, hc, hs⟩, hx⟩ := h
  refine ⟨⟨cur, by rw [hb.block g (Array.getElem?_eq_some_iff.1 hc).1]; exact hc, hs⟩, fun j e hj he => ?_⟩
  obtain ⟨p, n, cap, h0, h1, h2, h3, h4, h5⟩ := hx j e hj he
  exact ⟨p, n, cap, cell_bl hb h0, cell_bl hb h1, cell_bl hb h2, h3, Bytes.mono h4 hb, h5⟩
theorem Laid.cell {w : World} {g len k : Nat} {es : List Ent} (h : Laid w g len es k) (j : Nat) (hj : j < len * 3) : ∃ v, w.cell? ⟨g, j, none⟩ = some v := by
  obtain ⟨⟨cur, hc, hs⟩, _⟩ := h
  exact ⟨cur[j]'(by omega), by simp [World.cell?, hc, hs, hj]⟩
theorem Laid.lt {w : World} {g len k : Nat} {es : List Ent} (h : Laid w g len es k) : g < w.heap.size := by
  obtain ⟨⟨cur, hc, hs⟩, _⟩ := h
  exact (Array.getElem?_eq_some_iff.1 hc).1
theorem Laid.frozen {w : World} {g len k : Nat} {es : List Ent} (h : Laid w g len es k) (j : Nat) : w.frozen? ⟨g, j, none⟩ = false := by
  obtain ⟨⟨cur, hc, hs⟩, _⟩ := h
  simp [World.frozen?, hc]
theorem blk_set (w : World) (g o : Nat) (v : Value) (cur : Array Value) (h : w.heap[g]? = some (.cells cur 43 (0, 0))) : (w.setCell ⟨g, o, none⟩ v).heap[g]? = some (.cells (cur.setIfInBounds o v) 43 (0, 0)) := by
  simp [World.setCell, Array.getElem?_modify, h]
theorem Bytes.set {w : World} {p : Option Addr} {n : Nat} {xs : List Int} {g o : Nat} {v : Value} (h : Lib.BytesIn w p n xs) (hp : ∀ a, p = some a → g < a.block) : Lib.BytesIn (w.setCell ⟨g, o, none⟩ v) p n xs := fun hn => by
  obtain ⟨b, o', rfl, hc⟩ := h hn
  refine ⟨b, o', rfl, fun i hi => ?_⟩
  rw [World.cell?_setCell_other]
  · exact hc i hi
  · have := hp _ rfl; intro e; cases e; simp at this

theorem froz_al {w : World} {a : Addr} (o : Obj) (hl : a.block < w.heap.size) (h : w.frozen? a = false) : (w.alloc o).frozen? a = false := (World.frozen?_alloc_old w o a (Nat.ne_of_lt hl)).trans h
theorem old_store {w w1 : World} {o : Obj} {g j : Nat} {v : Value} (hb : Below (w.alloc o).drew.heap.size (w.alloc o).drew w1) (hc : w.cell? ⟨g, j, none⟩ = some v) (hf : w.frozen? ⟨g, j, none⟩ = false) :
    w1.cell? ⟨g, j, none⟩ = some v ∧ w1.frozen? ⟨g, j, none⟩ = false := by
  have hl : g < w.heap.size := World.block_lt_of_cell? _ _ hc
  exact ⟨cell_bl hb (cell_dr (cell_al _ hc)), froz_bl (w := (w.alloc o).drew) hb (by show g < (w.alloc o).heap.size; simp; omega) (froz_al (w := w) o hl hf)⟩
theorem cell_st {w : World} {g j b o : Nat} {u v : Value} (hne : g ≠ b) (h : w.cell? ⟨b, o, none⟩ = some u) : (w.setCell ⟨g, j, none⟩ v).cell? ⟨b, o, none⟩ = some u :=
  (World.cell?_setCell_other _ _ _ _ (fun e => hne (by cases e; rfl))).trans h
theorem set_other {w : World} {g o o' : Nat} {v : Value} (h : o ≠ o') : (w.setCell ⟨g, o, none⟩ v).cell? ⟨g, o', none⟩ = w.cell? ⟨g, o', none⟩ :=
  World.cell?_setCell_other _ _ _ _ (fun e => h (by cases e; rfl))
theorem Laid.step {w : World} {g len k : Nat} {es : List Ent} {e : Ent} {p : Option Addr} {n cap : Nat} (h : Laid w g len es k) (hk : k < len) (he : es[k]? = some e) (hn : e.bs.length = n) (hb : Lib.BytesIn w p n e.bs) (hp : ∀ a, p = some a → g < a.block) :
    Laid (((w.setCell ⟨g, k * 3, none⟩ (.int .u8 e.c)).setCell ⟨g, k * 3 + 1, none⟩ (.int .u16 e.t)).setCell ⟨g, k * 3 + 2, none⟩ (.slice p n cap)) g len es (k + 1) := by
  obtain ⟨v0, e0⟩ := h.cell (k * 3) (by omega)
  obtain ⟨v1, e1⟩ := h.cell (k * 3 + 1) (by omega)
  obtain ⟨v2, e2⟩ := h.cell (k * 3 + 2) (by omega)
  obtain ⟨⟨cur, hc, hs⟩, hx⟩ := h
  refine ⟨⟨_, blk_set _ _ _ _ _ (blk_set _ _ _ _ _ (blk_set _ _ _ _ _ hc)), by simp [hs]⟩, fun j e' hj he' => ?_⟩
  by_cases hjk : j = k
  · subst hjk
    rw [he] at he'
    cases he'
    refine ⟨p, n, cap, ?_, ?_, ?_, hn, Bytes.set (Bytes.set (Bytes.set hb hp) hp) hp, hp⟩
    · rw [set_other (by omega), set_other (by omega)]; exact World.cell?_setCell_same _ _ _ e0
    · rw [set_other (by omega)]; exact World.cell?_setCell_same _ _ _ (by rw [set_other (by omega)]; exact e1)
    · exact World.cell?_setCell_same _ _ _ (by rw [set_other (by omega), set_other (by omega)]; exact e2)
  · obtain ⟨p', n', cap', h0, h1, h2, h3, h4, h5⟩ := hx j e' (by omega) he'
    refine ⟨p', n', cap', ?_, ?_, ?_, h3, Bytes.set (Bytes.set (Bytes.set h4 h5) h5) h5, h5⟩
    · rw [set_other (by omega), set_other (by omega), set_other (by omega)]; exact h0
    · rw [set_other (by omega), set_other (by omega), set_other (by omega)]; exact h1
    · rw [set_other (by omega), set_other (by omega), set_other (by omega)]; exact h2

set_option maxHeartbeats 800000 in
theorem build_any (p : Option Addr) (len cap : Nat) (es : List Ent) (w : World) (hlen : es.length = len) (hmax : len ≤ 1024) (hin : InAt w p es) :
    Calls Yba.prog 9 #[.slice p len cap] w fun e w' => e = .returned (.slice (some ⟨w.heap.size, 0, none⟩) len len) ∧ Laid w' w.heap.size len es len ∧ Below w.heap.size w w' := by
  have hlen' : Hid (es.length = len) := hlen
  clear hlen
  have hmk := fun w => make43 len len (Nat.le_refl _) hmax w
  have hL0 : Laid (w.alloc (.cells (zer (len * 3)) 43)) w.heap.size len es 0 := ⟨⟨zer (len * 3), heap_alloc_new w _, zer_size _⟩, fun j e hj => by omega⟩
  go_enter Yba.func9, Yba.ntmps9
  go_wp2
  clear hmk
  go_loopg [11] len (fun gk i wr => ∃ k : Nat, gk + k = len ∧ i = .int .i64 k ∧ Laid wr w.heap.size len es k ∧ Below w.heap.size w wr)
  case atStart => exact ⟨0, by omega, rfl, hL0, (Below.refl _ _).alloc (Nat.le_refl _) _⟩
  case round =>
    obtain ⟨k, hk, rfl, hL, hbel⟩ := hrel
    clear hL0
    by_cases hlt : k < len
    · obtain ⟨e, he⟩ : ∃ e, es[k]? = some e := ⟨es[k]'(by rw [hlen'.out]; exact hlt), by rw [List.getElem?_eq_getElem]⟩
      obtain ⟨b, o, rfl, h0, h1, h2, h3, h4, h5, h6, h7⟩ := (hin.mono hbel) k e he
      have HK : Hid (gk + k = len) := hk
      have HE : Hid (es[k]? = some e) := he
      have HL : Hid (Laid wr w.heap.size len es k) := hL
      have hgw : w.heap.size < wr.heap.size := hL.lt
      obtain ⟨v0, d0⟩ := hL.cell (k * 3) (by omega)
      obtain ⟨v1, d1⟩ := hL.cell (k * 3 + 1) (by omega)
      obtain ⟨v2, d2⟩ := hL.cell (k * 3 + 2) (by omega)
      have f0 := hL.frozen (k * 3)
      have f1 := hL.frozen (k * 3 + 1)
      have f2 := hL.frozen (k * 3 + 2)
      clear hk hin he hL
      go_wp2
      have hki : (k : Int) < (len : Int) := by omega
      have hne : w.heap.size ≠ wr.heap.size := Nat.ne_of_lt hgw
      have hbw : Below wr.heap.size wr (wr.alloc (.cells #[.int .u8 e.c, .int .u16 e.t, .slice e.p e.n e.cap, .bool e.k] 46)) := (Below.refl _ _).alloc (Nat.le_refl _) _
      have c2 := Bytes.mono h6 hbw.drew
      go_region_held3 (fun w' => w'.cell? ⟨wr.heap.size, 0, none⟩ = some (.int .u8 e.c) ∧ w'.cell? ⟨wr.heap.size, 1, none⟩ = some (.int .u16 e.t) ∧ w'.cell? ⟨wr.heap.size, 2, none⟩ = some (.slice e.p e.n e.cap)) 
        (refine ⟨?_, ?_, ?_⟩ <;> with_reducible repeat (first | assumption | (simp; done) | apply cell_dr | apply cell_al | apply cell_st hne | (apply cell_bl (by assumption))))
        (first | (go_at_call 16; refine (clone_any e.p e.n e.cap e.bs _ h4 h5 c2).mono ?_; rintro e' w' ⟨p', c', rfl, hp1, hp2, hp3⟩; obtain ⟨d0', f0'⟩ := old_store hp3 d0 f0; obtain ⟨d1', f1'⟩ := old_store hp3 d1 f1; obtain ⟨d2', f2'⟩ := old_store hp3 d2 f2))
      go_wp2
      go_roundg (gk - 1)
      case measure => have := HK.out; omega
      case rel =>
        have hL1 := (HL.out.mono hbw.drew).mono hp3
        have hb1 : Below w.heap.size w w' := hbel.trans ((hbw.drew.mono hbel.size).trans (hp3.mono (by show _ ≤ (World.alloc _ _).heap.size; simp; omega)))
        have hpp : ∀ a, p' = some a → w.heap.size < a.block := fun a ha => by
          have := hp2 a ha
          have h9 : (World.drew (wr.alloc (.cells #[.int .u8 e.c, .int .u16 e.t, .slice e.p e.n e.cap, .bool e.k] 46))).heap.size = wr.heap.size + 1 := by show (World.alloc _ _).heap.size = _; simp
          omega
        exact ⟨k + 1, by have := HK.out; omega, by go_num, hL1.step hlt HE.out h4 hp1 hpp, ((hb1.setCell (Nat.le_refl _) _).setCell (Nat.le_refl _) _).setCell (Nat.le_refl _) _⟩
    · go_wp2
      go_ret
      have : k = len := by omega
      subst this
      exact ⟨rfl, hL, hbel⟩
end Go.Proofs.Ybulkbmqm
