import Derived.Test.YbulkbmraDoorShelf
import Derived.Test.YbulkbmraDoorItoa
import Derived.WalkKit
import Derived.WalkSpells
namespace Go.Proofs.YbulkbmraDoor
open Go.RowKit
set_option maxHeartbeats 400000 in
theorem count_ok (s : ByteArray) (hmax : s.size ≤ 1000) (v : Int) (h : Lib.atoiAll s.data.toList = .ok v) (w : World) :
    Calls Ybad.prog 12 #[.string s] w fun e w' => e = .returned (.tuple #[.int .i64 v, .nilIface]) ∧ Below w.heap.size w w' := by
  have H := hide (atoi_ok s (by omega) v h)
  clear h
  go_enter Ybad.func12, Ybad.ntmps12
  go_wp2_with (go_at_call 14; refine (Hid.out H _).mono ?_; rintro e w' ⟨rfl, hb⟩)
  go_ret2
  exact ⟨rfl, hb⟩
set_option maxHeartbeats 400000 in
theorem count_bad (s : ByteArray) (hmax : s.size ≤ 1000) (ha : ∀ v, Lib.atoiAll s.data.toList ≠ .ok v) (hp : ∀ v, Lib.parseIntB 64 s.data.toList ≠ .ok v) (t1 t2 : TypeId) (p1 p2 : Value) (w : World)
    (h1 : w.cell? ⟨1, 0, none⟩ = some (.iface t1 p1)) (h2 : w.cell? ⟨2, 0, none⟩ = some (.iface t2 p2)) :
    Calls Ybad.prog 12 #[.string s] w fun e w' => ∃ v N, e = .returned (.tuple #[.int .i64 v, .iface 53 (.pointer (some ⟨N, 0, none⟩))]) ∧ Below w.heap.size w w' := by
  have HA := hide (atoi_bad s (by omega) ha t1 t2 p1 p2 w h1 h2)
  have HP : Hid (∀ w', Below w.heap.size w w' → _) := fun w' hb => parse_bad s (by omega) hp t1 t2 p1 p2 w' ((hb.cell (World.block_lt_of_cell? _ _ h1)).trans h1) ((hb.cell (World.block_lt_of_cell? _ _ h2)).trans h2)
  clear ha hp h1 h2
  go_enter Ybad.func12, Ybad.ntmps12
  go_wp2_with (first
    | (go_at_call 14; refine (Hid.out HA).mono ?_; rintro e w' ⟨v, N, rfl, hb⟩)
    | (go_at_call 15; refine (Hid.out HP _ hb).mono ?_; rintro e w'' ⟨v', N', rfl, hb'⟩))
  go_ret2
  exact ⟨v', N', rfl, hb.trans (hb'.mono hb.size)⟩
end Go.Proofs.YbulkbmraDoor
