import Derived.Test.YbulkbmraDoorCount
import Derived.Test.YbulkbmraDoorIter
import Derived.Shelf.Abstract
import Derived.Shelf.RegionOpen
import Derived.WalkKit
import Derived.OwnWalkIn
import Derived.TacticsInMore
import Derived.LoopNIn
import Derived.LoopIn
import Derived.WalkSmall
namespace Go.Proofs.YbulkbmraDoor
open Go.RowKit Go.Shelf
attribute [local go_sem] Oper.semAt_some

/-- Below block n₀ nothing has turned but the blocks a and b. -/
structure Two (n₀ a b : Nat) (w W : World) : Prop where
  os : W.os = w.os
  tape : W.tape = w.tape
  output : W.output = w.output
  size : w.heap.size ≤ W.heap.size
  block : ∀ k, k < n₀ → k ≠ a → k ≠ b → W.heap[k]? = w.heap[k]?
theorem Two.refl (n₀ a b : Nat) (w : World) : Two n₀ a b w w := ⟨rfl, rfl, rfl, Nat.le_refl _, fun _ _ _ _ => rfl⟩
theorem Two.below {n₀ a b B : Nat} {w W X : World} (h : Two n₀ a b w W) (k : Below B W X) (hB : n₀ ≤ B) : Two n₀ a b w X :=
  ⟨k.os.trans h.os, k.tape.trans h.tape, k.output.trans h.output, Nat.le_trans h.size k.size, fun j hj ha hb => (k.block j (by omega)).trans (h.block j hj ha hb)⟩
theorem Two.grown {n₀ a b : Nat} {w W X : World} {row : Option Nat} (h : Two n₀ a b w W) (g : W.grownBy X row) (hn : n₀ ≤ W.heap.size) (hr : ∀ r, row = some r → n₀ ≤ r ∨ r = a ∨ r = b) : Two n₀ a b w X :=
  ⟨g.os.trans h.os, g.tape.trans h.tape, g.output.trans h.output, Nat.le_trans h.size g.size, fun j hj ha hb => (g.block j (by omega) (fun e => by rcases hr j e.symm with h | h | h <;> omega)).trans (h.block j hj ha hb)⟩
theorem Two.set {n₀ a b : Nat} {w W : World} (h : Two n₀ a b w W) {p : Addr} (hp : n₀ ≤ p.block ∨ p.block = a ∨ p.block = b) (v : Value) : Two n₀ a b w (W.setCell p v) :=
  ⟨h.os, h.tape, h.output, by simpa [World.setCell] using h.size, fun j hj ha hb => (Below.heap_setCell W p v j (by omega)).trans (h.block j hj ha hb)⟩

def S (vs : Nat → Int) : Nat → Int
  | 0 => 0
  | k + 1 => wrap64 (S vs k + vs k)

theorem cell_one {w : World} {b : Nat} {v : Value} {t : TypeId} (h : w.heap[b]? = some (.cells #[v] t (0, 0))) : w.cell? ⟨b, 0, none⟩ = some v ∧ w.frozen? ⟨b, 0, none⟩ = false := by
  simp [World.cell?, World.frozen?, h]
theorem set_one {w : World} {b : Nat} {v u : Value} {t : TypeId} (h : w.heap[b]? = some (.cells #[v] t (0, 0))) : (w.setCell ⟨b, 0, none⟩ u).heap[b]? = some (.cells #[u] t (0, 0)) := by
  simp [World.setCell, Array.getElem?_modify, h]

theorem info9 : (Ybad.prog.info? 9).map (fun i => (i.zero, i.size, i.bytes)) = some (some (.string ByteArray.empty), 1, 16) := by kernel_rfl
theorem cell_al {w : World} {a : Addr} {v : Value} (o : Obj) (h : w.cell? a = some v) : (w.alloc o).cell? a = some v := (World.cell?_alloc_lt _ _ _ (World.block_lt_of_cell? _ _ h)).trans h
set_option maxHeartbeats 400000 in
theorem emit7 (bl : Nat) (s : ByteArray) (w : World) (hl : w.heap[bl]? = some (.cells #[.slice none 0 0] 24 (0, 0))) :
    Calls Ybad.prog 7 #[.string s, .pointer (some ⟨bl, 0, none⟩)] w fun e w' => (∃ v, e = .returned v) ∧ ∃ gl cl, w'.heap[bl]? = some (.cells #[.slice (some ⟨gl, 0, none⟩) 1 cl] 24 (0, 0)) ∧ w'.cell? ⟨gl, 0, none⟩ = some (.string s) ∧ w.grownBy w' (some bl) := by
  obtain ⟨hc, hf⟩ := cell_one hl
  have hlt : bl < w.heap.size := (Array.getElem?_eq_some_iff.1 hl).1
  obtain ⟨i0, hi0, hzz⟩ := Option.map_eq_some_iff.1 info9
  simp only [Prod.mk.injEq] at hzz
  obtain ⟨hz0, hz1, hz2⟩ := hzz
  go_enter Ybad.func7, Ybad.ntmps7
  go_wp2_with (at_builtin; refine wpList_append_own _ rfl _ _ 24 rfl w.heap.size 9 i0 (.string ByteArray.empty) 1 16 Ybad.underlying24 hi0 hz0 hz1 hz2 rfl (by decide) _ _ _ rfl (World.ownsRow_nil _ _ _ _) ⟨w.heap.size, 0, none⟩ 1 1 [.string s] rfl rfl (cell_one_new _ _ _) (fun x hx => by simp at hx; subst hx; rfl) (by unfold maxLen; omega) (by omega) (by simp) ?_)
  intro v' w3 hown hg hnil
  rcases hown.2 with ⟨hv, _⟩ | ⟨gl, cl, cur, hv, hgl, _⟩
  · exact absurd hv hnil
  subst hv
  have hg0 : w.grownBy w3 none := ⟨hg.os, hg.tape, hg.output, Nat.le_trans (by simp) hg.size, fun k hk _ => (hg.block k (by simp; omega) (by simp [Value.ownBlock])).trans (heap_alloc_old w _ hk)⟩
  have hl3 : w3.heap[bl]? = some (.cells #[.slice none 0 0] 24 (0, 0)) := (hg0.block bl hlt (by simp)).trans hl
  obtain ⟨hc3, hf3⟩ := cell_one hl3
  have hx : w3.cell? ⟨gl, 0, none⟩ = some (.string s) := by
    have h := hown.cells (g := gl) rfl 0 (.string s) rfl
    rwa [Go.WideShapes.add_plain] at h
  have H1 := hide hown
  have H2 := hide hg0
  have H3 := hide hl3
  have H4 := hide hx
  clear hown hg hg0 hl3 hx hnil
  go_wp2
  go_end0
  refine ⟨⟨_, rfl⟩, gl, cl, set_one H3.out, ?_, ?_⟩
  · exact (World.cell?_setCell_other _ _ _ _ (fun e => by have : bl = gl := by cases e; rfl
                                                          omega)).trans H4.out
  · exact ⟨H2.out.os, H2.out.tape, H2.out.output, by simpa [World.setCell] using H2.out.size, fun k hk hn => (Below.heap_setCell _ _ _ _ (fun h => hn (by simp [h]))).trans (H2.out.block k hk (by simp))⟩
theorem S_bd (vs : Nat → Int) (N : Nat) : -9223372036854775808 ≤ S vs N ∧ S vs N ≤ 9223372036854775807 := by
  cases N with
  | zero => simp [S]
  | succ k => simp only [S]; unfold wrap64; omega
theorem powG : Ybad.prog.globalNamed powName = some 0 := by kernel_rfl

set_option maxRecDepth 100000 in
set_option maxHeartbeats 1000000 in
theorem sum_ok (bs bc bl N : Nat) (ss : Nat → ByteArray) (vs : Nat → Int) (w : World) (hN : N ≤ 2000) (hst : StrsAt w bs w.heap.size N ss) (hC : w.heap[bc]? = some (.cells #[.int .i64 0] 3 (0, 0)))
    (hne : bs ≠ bc) (hgb : ∀ g cap, w.cell? ⟨bs, 0, none⟩ = some (.slice (some ⟨g, 0, none⟩) N cap) → 0 < N → g ≠ bc)
    (hlog : w.heap[bl]? = some (.cells #[.slice none 0 0] 24 (0, 0))) (hbl : bl ≠ bc) (hglo : 0 < bc) (hss : ∀ i, i < N → (ss i).size ≤ 1000 ∧ Lib.atoiAll (ss i).data.toList = .ok (vs i))
    (htab : Lib.TabIs Ybad.prog w powName .u64 Lib.pow10Tab) :
    Calls Ybad.prog 8 #[.string ⟨#[107]⟩, .func (.func 6) #[] #[.pointer (some ⟨bs, 0, none⟩), .pointer (some ⟨bc, 0, none⟩)], .func (.func 7) #[] #[.pointer (some ⟨bl, 0, none⟩)]] w fun e W' =>
      e = .returned .nilIface ∧ W'.heap[bc]? = some (.cells #[.int .i64 N] 3 (0, 0)) ∧ Two w.heap.size bc bl w W' ∧
      ∃ gl cl, W'.cell? ⟨bl, 0, none⟩ = some (.slice (some ⟨gl, 0, none⟩) 1 cl) ∧ W'.cell? ⟨gl, 0, none⟩ = some (.string ⟨(Lib.itoa (S vs N)).toArray⟩) := by
  have hbc : bc < w.heap.size := (Array.getElem?_eq_some_iff.1 hC).1
  have hbll : bl < w.heap.size := (Array.getElem?_eq_some_iff.1 hlog).1
  refine (callsIn_wide (n := 3)).1 ?_
  refine callsIn_of_wp_marks Ybad.func8 rfl trivial ?_ rfl
  simp only [Ybad.ntmps8, List.size_toArray, List.length_cons, List.length_nil, Nat.reduceAdd, Nat.reduceSub, Array.replicate_succ, Array.replicate_zero, List.push_toArray, List.append_toArray, List.nil_append, List.cons_append]
  gi_wp2
  obtain ⟨w2, hw2⟩ : ∃ w2, (w.alloc (.cells #[.nilIface] 31)).alloc (.cells #[.int .i64 0] 2) = w2 := ⟨_, rfl⟩
  have hs2 : w2.heap.size = w.heap.size + 2 := by rw [← hw2]; simp
  have hb2 : Below w.heap.size w w2 := by rw [← hw2]; exact ((Below.refl _ w).alloc (Nat.le_refl _) _).alloc (by simp) _
  have hr2 : w2.heap[w.heap.size]? = some (.cells #[.nilIface] 31 (0, 0)) := by
    rw [← hw2, heap_alloc_old _ _ (by simp)]; exact heap_alloc_new w _
  have hm2 : w2.heap[w.heap.size + 1]? = some (.cells #[.int .i64 (S vs 0)] 2 (0, 0)) := by
    rw [← hw2]; have h := heap_alloc_new (w.alloc (.cells #[.nilIface] 31)) (.cells #[.int .i64 0] 2); rw [World.size_alloc] at h; exact h
  rw [hw2]
  have hst2 : StrsAt w2 bs w.heap.size N ss := by
    obtain ⟨g, cap, h1, h2, h3, h4⟩ := hst
    exact ⟨g, cap, h1, (hb2.cell (p := ⟨bs, 0, none⟩) h1).trans h2, h3, fun i hi => (hb2.cell (p := ⟨g, i, none⟩) (h3 (by omega))).trans (h4 i hi)⟩
  have hbs : bs < w.heap.size := by obtain ⟨_, _, h1, _⟩ := hst; exact h1
  refine range_cnt (F := Fence.wide) (n := 3) rfl (by omega) (gf := 6) (bs := bs) (bc := bc) (n₀ := w.heap.size) (N := N) (ss := ss) rfl trivial (enters_of Ybad.func6 (by kernel_rfl) rfl)
    (iter6 Fence.wide _ trivial rfl (by omega) bs bc w.heap.size N ss hN) (by omega) hst2 hbc hne ((hb2.block bc hbc).trans hC) (fun g cap h => hgb g cap ((hb2.cell (p := ⟨bs, 0, none⟩) hbs).symm.trans h)) rfl
    (fun i W => W.heap[w.heap.size + 1]? = some (.cells #[.int .i64 (S vs i)] 2 (0, 0)) ∧ W.heap[w.heap.size]? = some (.cells #[.nilIface] 31 (0, 0)) ∧ Two w.heap.size bc bc w W)
    (fun _ _ => False)
    (fun i A B row hs hg hr => ⟨(hg.block _ (Array.getElem?_eq_some_iff.1 hs.1).1 (fun e => by have := (hr _ e.symm).1; omega)).trans hs.1, (hg.block _ (Array.getElem?_eq_some_iff.1 hs.2.1).1 (fun e => by have := (hr _ e.symm).1; omega)).trans hs.2.1,
      hs.2.2.grown hg (by have := hs.2.2.size; omega) (fun r e => .inl (by have := (hr r e).1; omega))⟩)
    (fun _ _ _ _ hs _ _ => hs)
    (fun i W v hs => ⟨(Below.heap_setCell W _ v _ (by show _ ≠ bc; omega)).trans hs.1, (Below.heap_setCell W _ v _ (by show _ ≠ bc; omega)).trans hs.2.1, hs.2.2.set (.inr (.inl rfl)) v⟩)
    ⟨hm2, hr2, (Two.refl _ _ _ _).below hb2 (Nat.le_refl _)⟩
    (fun x => { tmps := #[.string ⟨#[107]⟩, .func (.func 6) #[] #[.pointer (some ⟨bs, 0, none⟩), .pointer (some ⟨bc, 0, none⟩)], .func (.func 7) #[] #[.pointer (some ⟨bl, 0, none⟩)], undef, undef, undef, .pointer (some ⟨w.heap.size, 0, none⟩), .pointer (some ⟨w.heap.size + 1, 0, none⟩), .string x, undef, undef,
      .func (.func 6) #[] #[.pointer (some ⟨bs, 0, none⟩), .pointer (some ⟨bc, 0, none⟩)], .string x, undef, undef, undef, undef, undef, undef, undef, undef, undef, undef, undef, undef, undef, undef, undef], defers := [] }) ?assign ?body ?done ?stop
  case assign =>
    intro l x W K hK
    gi_wp2
    exact hK
  case stop => intro D i W _ h; exact h.elim
  case body =>
    rintro l i W ⟨hm, hr, hT⟩ hi hsz
    obtain ⟨hsl, hat⟩ := hss i hi
    have HC := hide (count_ok (ss i) hsl (vs i) hat W)
    obtain ⟨hmc, hmf⟩ := cell_one hm
    have hml : w.heap.size + 1 < W.heap.size := (Array.getElem?_eq_some_iff.1 hm).1
    gi_wp2_with (refine ⟨trivial, ?_⟩; gi_at_call 12; refine (CallsIn.inRound l (callsIn_wide.2 (Hid.out HC))).mono ?_; rintro e w' ⟨rfl, hb⟩; have hm' := (hb.block _ hml).trans hm; obtain ⟨hmc', hmf'⟩ := cell_one hm')
    refine ⟨(KeepsFrom.of_grownBy (row := none) ⟨hb.os, hb.tape, hb.output, hb.size, fun k hk _ => hb.block k hk⟩ (fun j e => by cases e)).trans ((KeepsOthers.setCell _ _ _).from _), (hb.mono (by omega)).setCell (p := ⟨w.heap.size + 1, 0, none⟩) (by show _ ≤ w.heap.size + 1; omega) _, set_one hm', ?_, ?_⟩
    · exact (Below.heap_setCell _ _ _ _ (by show w.heap.size ≠ w.heap.size + 1; omega)).trans ((hb.block _ (by omega)).trans hr)
    · exact (hT.below hb (by omega)).set (.inl (by show _ ≤ w.heap.size + 1; omega)) _
  case done =>
    rintro D W ⟨hm, hr, hT⟩ hCN hD hK
    obtain ⟨hmc, hmf⟩ := cell_one hm
    have hsw := hT.size
    have htabW : Lib.TabIs Ybad.prog W powName .u64 Lib.pow10Tab := by
      have hb : Below 1 w W := ⟨hT.os, hT.tape, hT.output, hT.size, fun k hk => hT.block k (by omega) (by omega) (by omega)⟩
      exact var?_below hb powG (by omega) htab
    have hlW : W.heap[bl]? = some (.cells #[.slice none 0 0] 24 (0, 0)) := (hT.block bl hbll hbl hbl).trans hlog
    have HF := hide (format_any (S vs N) (S_bd vs N).1 (S_bd vs N).2 W htabW)
    have HE := hide (emit7 bl ⟨(Lib.itoa (S vs N)).toArray⟩)
    clear hss htab
    have hrl : w.heap.size < W.heap.size := (Array.getElem?_eq_some_iff.1 hr).1
    gi_wp2_with (refine ⟨trivial, ?_⟩; gi_at_call 13; refine (callsIn_wide.2 (Hid.out HF)).mono ?_; rintro e w' ⟨rfl, hb⟩)
    have hl' := (hb.block bl (by omega)).trans hlW
    refine ⟨trivial, ?_⟩
    refine (callsIn_wide.2 (HE.out _ hl')).mono ?_
    rintro e w'' ⟨⟨v, rfl⟩, gl, cl, hl'', hx, hg⟩
    have hr'' : w''.heap[w.heap.size]? = some (.cells #[.nilIface] 31 (0, 0)) := (hg.block _ (by have := hb.size; omega) (by simp; omega)).trans ((hb.block _ (by omega)).trans hr)
    obtain ⟨hrc, hrf⟩ := cell_one hr''
    have hDl : D < W.heap.size := (Array.getElem?_eq_some_iff.1 hK).1
    have hK2 : w''.heap[D]? = some (.deferred (some [])) := (hg.block _ (by have := hb.size; omega) (by simp; omega)).trans ((hb.block _ hDl).trans hK)
    have hT2 : Two w.heap.size bc bl w w'' := ⟨hg.os.trans (hb.os.trans hT.os), hg.tape.trans (hb.tape.trans hT.tape), hg.output.trans (hb.output.trans hT.output), Nat.le_trans hT.size (Nat.le_trans hb.size hg.size),
      fun k hk h1 h2 => (hg.block k (by have := hb.size; omega) (by simp; omega)).trans ((hb.block k (by omega)).trans (hT.block k hk h1 h1))⟩
    have hC2 : w''.heap[bc]? = some (.cells #[.int .i64 N] 3 (0, 0)) := (hg.block _ (by have := hb.size; omega) (by simp; omega)).trans ((hb.block _ (by omega)).trans hCN)
    have hl2 := (cell_one hl'').1
    have A1 := hide hT2
    have A2 := hide hC2
    have A3 := hide hl2
    have A4 := hide hx
    have A5 := hide hr''
    clear hT2 hC2 hl2 hx hr'' hl'' hg
    gi_wp2
    have hK3 : (w''.setCell ⟨w.heap.size, 0, none⟩ .nilIface).heap[D]? = some (.deferred (some [])) := (Below.heap_setCell _ _ _ _ (by show D ≠ w.heap.size; omega)).trans hK2
    refine ⟨by simp, .inl ⟨_, _, rfl, run_takeDeferred hK3, ?_⟩⟩
    have key : ∀ b, b ≠ D → ((w''.setCell ⟨w.heap.size, 0, none⟩ .nilIface).putObj D (.deferred none)).heap[b]? = (w''.setCell ⟨w.heap.size, 0, none⟩ .nilIface).heap[b]? := fun b hb => World.putObj_heap_other hb
    have key2 : ∀ b, b ≠ D → b ≠ w.heap.size → ((w''.setCell ⟨w.heap.size, 0, none⟩ .nilIface).putObj D (.deferred none)).heap[b]? = w''.heap[b]? := fun b hb hb' => (key b hb).trans (Below.heap_setCell _ _ _ _ hb')
    have hc5 : ((w''.setCell ⟨w.heap.size, 0, none⟩ .nilIface).putObj D (.deferred none)).cell? ⟨w.heap.size, 0, none⟩ = some .nilIface :=
      (cell_one (t := 31) ((key _ (by omega)).trans (set_one A5.out))).1
    refine ⟨.nilIface, ?_, rfl, ?_, ?_, gl, cl, ?_, ?_⟩
    · simp [results, Ybad.f8, go_sem, hc5]
    · exact (key2 bc (by omega) (by omega)).trans A2.out
    · exact ⟨A1.out.os, A1.out.tape, A1.out.output, by simpa [World.setCell] using A1.out.size, fun k hk h1 h2 => (key2 k (by omega) (by omega)).trans (A1.out.block k hk h1 h2)⟩
    · exact (World.cell?_of_block (a := ⟨bl, 0, none⟩) (key2 bl (by omega) (by omega))).trans A3.out
    · have hgl : gl ≠ D := fun e => by have h := A4.out; rw [e] at h; simp [World.cell?, hK2] at h
      have hgl2 : gl ≠ w.heap.size := fun e => by have h := A4.out; rw [e, hrc] at h; cases h
      exact (World.cell?_of_block (a := ⟨gl, 0, none⟩) (key2 gl hgl hgl2)).trans A4.out
end Go.Proofs.YbulkbmraDoor
