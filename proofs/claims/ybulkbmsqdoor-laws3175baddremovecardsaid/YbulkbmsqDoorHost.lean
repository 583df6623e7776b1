import Derived.Test.YbulkbmsqDoorKey
namespace Go.Proofs.YbulkbmsqDoor
open Go.RowKit

theorem cell_al {w : World} {a : Addr} {v : Value} (o : Obj) (h : w.cell? a = some v) : (w.alloc o).cell? a = some v := (World.cell?_alloc_lt _ _ _ (World.block_lt_of_cell? _ _ h)).trans h
/-- The package's two handles as they were laid. -/
structure Zs (Z : Addr) (w : World) : Prop where
  z4 : w.cell? ⟨0, 0, none⟩ = some (.pointer (some Z))
  z0 : w.cell? ⟨1, 0, none⟩ = some (.pointer none)
theorem Zs.al {Z : Addr} {w : World} (h : Zs Z w) (o : Obj) : Zs Z (w.alloc o) := ⟨cell_al o h.z4, cell_al o h.z0⟩
theorem Zs.bl {Z : Addr} {w w' : World} (h : Zs Z w) (k : Below w.heap.size w w') : Zs Z w' := ⟨(k.cell (World.block_lt_of_cell? _ _ h.z4)).trans h.z4, (k.cell (World.block_lt_of_cell? _ _ h.z0)).trans h.z0⟩

set_option maxHeartbeats 400000 in
theorem isZero10 (Z : Addr) (x y : Int) (w : World) (hz : Zs Z w) :
    Calls Ybad.prog 10 #[.agg #[.int .u64 x, .int .u64 y, .pointer (some Z)]] w fun e w' => e = .returned (.bool false) ∧ w' = w.alloc (.cells #[.int .u64 x, .int .u64 y, .pointer (some Z)] 34) := by
  have h1 := eql32nil Z
  have h2 := fun o => (hz.al o).z0
  go_enter Ybad.func10, Ybad.ntmps10
  go_wp2
  go_ret
  exact ⟨rfl, rfl⟩

set_option maxHeartbeats 400000 in
theorem bitLen11 (Z : Addr) (x y : Int) (w : World) (hz : Zs Z w) :
    Calls Ybad.prog 11 #[.agg #[.int .u64 x, .int .u64 y, .pointer (some Z)]] w fun e w' => e = .returned (.int .i64 32) ∧ w' = w.alloc (.cells #[.int .u64 x, .int .u64 y, .pointer (some Z)] 34) := by
  have h1 := eql32nil Z
  have h1' := eql32 Z
  have h2 := fun o => (hz.al o).z0
  have h3 := fun o => (hz.al o).z4
  go_enter Ybad.func11, Ybad.ntmps11
  go_wp2
  go_ret
  exact ⟨rfl, rfl⟩

set_option maxHeartbeats 400000 in
theorem isSix13 (Z : Addr) (x y : Int) (w : World) (hz : Zs Z w) :
    Calls Ybad.prog 13 #[.agg #[.int .u64 x, .int .u64 y, .pointer (some Z)]] w fun e w' => e = .returned (.bool false) ∧ w' = w.alloc (.cells #[.int .u64 x, .int .u64 y, .pointer (some Z)] 34) := by
  have h1 := neq32nil Z
  have h1' := neq32 Z
  have h2 := fun o => (hz.al o).z0
  have h3 := fun o => (hz.al o).z4
  go_enter Ybad.func13, Ybad.ntmps13
  go_wp2
  go_ret
  exact ⟨rfl, rfl⟩

set_option maxHeartbeats 400000 in
theorem withoutZone12 (Z : Addr) (x y : Int) (w : World) (hz : Zs Z w) :
    Calls Ybad.prog 12 #[.agg #[.int .u64 x, .int .u64 y, .pointer (some Z)]] w fun e w' => e = .returned (.agg #[.int .u64 x, .int .u64 y, .pointer (some Z)]) ∧ w' = ((w.alloc (.cells #[.int .u64 x, .int .u64 y, .pointer (some Z)] 34)).alloc (.cells #[.int .u64 x, .int .u64 y, .pointer (some Z)] 34)).alloc (.cells #[.int .u64 x, .int .u64 y, .pointer (some Z)] 34) := by
  go_enter Ybad.func12, Ybad.ntmps12
  go_wp2_with (go_at_call 13; refine (isSix13 Z x y _ ((hz.al _).al _)).mono ?_; rintro e w1 ⟨rfl, rfl⟩)
  exact bodyPost_ret (v := .agg #[.int .u64 x, .int .u64 y, .pointer (some Z)]) (by simp [results, Ybad.results12, go_sem]) rfl ⟨rfl, rfl⟩

theorem or_small (k : Nat) (hk : k < 16) : (bits BinOp.or IntKind.u64 (bits BinOp.or IntKind.u64 (bits BinOp.or IntKind.u64 (bits BinOp.or IntKind.u64 281470681743360 167772160) 0) 0) (k : Int)) = ((281470849515520 + k : Nat) : Int) :=
  (show ∀ k : Fin 16, bits BinOp.or IntKind.u64 (bits BinOp.or IntKind.u64 (bits BinOp.or IntKind.u64 (bits BinOp.or IntKind.u64 281470681743360 167772160) 0) 0) (k.val : Int) = ((281470849515520 + k.val : Nat) : Int) by decide) ⟨k, hk⟩
set_option maxHeartbeats 400000 in
theorem addrFrom8 (Z : Addr) (k y : Int) (hy : bits BinOp.or IntKind.u64 (bits BinOp.or IntKind.u64 (bits BinOp.or IntKind.u64 (bits BinOp.or IntKind.u64 281470681743360 167772160) 0) 0) k = y) (h0 : 0 ≤ k) (h1 : k < 16) (w : World) (hz : Zs Z w) :
    Calls Ybad.prog 8 #[.agg #[.int .u8 10, .int .u8 0, .int .u8 0, .int .u8 k]] w fun e w' => e = .returned (.agg #[.int .u64 0, .int .u64 y, .pointer (some Z)]) ∧ w' = (w.alloc (.cells #[.int .u8 10, .int .u8 0, .int .u8 0, .int .u8 k] 43)).alloc (.cells #[.int .u64 0, .int .u64 y, .pointer (some Z)] 34) := by
  have h3 := fun o => (hz.al o).z4
  go_enter Ybad.func8, Ybad.ntmps8
  go_wp2
  subst hy
  exact bodyPost_ret (v := .agg #[.int .u64 0, .int .u64 (bits BinOp.or IntKind.u64 (bits BinOp.or IntKind.u64 (bits BinOp.or IntKind.u64 (bits BinOp.or IntKind.u64 281470681743360 167772160) 0) 0) k), .pointer (some Z)]) (by simp [results, Ybad.results8, go_sem]) rfl ⟨rfl, rfl⟩
set_option maxHeartbeats 400000 in
theorem prefixFrom9 (Z : Addr) (x y : Int) (b : Int) (hb : b = 32 ∨ b = 31 ∨ b = 30) (w : World) (hz : Zs Z w) :
    Calls Ybad.prog 9 #[.agg #[.int .u64 x, .int .u64 y, .pointer (some Z)], .int .i64 b] w fun e w' => e = .returned (.agg #[.int .u64 x, .int .u64 y, .pointer (some Z), .int .u8 (b + 1)]) ∧ w' = (((((((w.alloc (.cells #[.int .u64 x, .int .u64 y, .pointer (some Z)] 34)).alloc (.cells #[.int .u64 x, .int .u64 y, .pointer (some Z), .int .u8 (b + 1)] 36)).alloc (.cells #[.int .u64 x, .int .u64 y, .pointer (some Z)] 34)).alloc (.cells #[.int .u64 x, .int .u64 y, .pointer (some Z)] 34)).alloc (.cells #[.int .u64 x, .int .u64 y, .pointer (some Z)] 34)).alloc (.cells #[.int .u64 x, .int .u64 y, .pointer (some Z)] 34)).alloc (.cells #[.int .u64 x, .int .u64 y, .pointer (some Z)] 34)) := by
  rcases hb with rfl | rfl | rfl
  · go_enter Ybad.func9, Ybad.ntmps9
    go_wp2_with (first | (go_at_call 10; refine (isZero10 Z x y _ (by with_reducible repeat (first | exact hz | apply Zs.al))).mono ?_; rintro e w1 ⟨rfl, rfl⟩) | (go_at_call 11; refine (bitLen11 Z x y _ (by with_reducible repeat (first | exact hz | apply Zs.al))).mono ?_; rintro e w1 ⟨rfl, rfl⟩) | (go_at_call 12; refine (withoutZone12 Z x y _ (by with_reducible repeat (first | exact hz | apply Zs.al))).mono ?_; rintro e w1 ⟨rfl, rfl⟩))
    exact bodyPost_ret (v := .agg #[.int .u64 x, .int .u64 y, .pointer (some Z), .int .u8 33]) (by simp [results, Ybad.results9, go_sem]) rfl ⟨rfl, rfl⟩
  · go_enter Ybad.func9, Ybad.ntmps9
    go_wp2_with (first | (go_at_call 10; refine (isZero10 Z x y _ (by with_reducible repeat (first | exact hz | apply Zs.al))).mono ?_; rintro e w1 ⟨rfl, rfl⟩) | (go_at_call 11; refine (bitLen11 Z x y _ (by with_reducible repeat (first | exact hz | apply Zs.al))).mono ?_; rintro e w1 ⟨rfl, rfl⟩) | (go_at_call 12; refine (withoutZone12 Z x y _ (by with_reducible repeat (first | exact hz | apply Zs.al))).mono ?_; rintro e w1 ⟨rfl, rfl⟩))
    exact bodyPost_ret (v := .agg #[.int .u64 x, .int .u64 y, .pointer (some Z), .int .u8 32]) (by simp [results, Ybad.results9, go_sem]) rfl ⟨rfl, rfl⟩
  · go_enter Ybad.func9, Ybad.ntmps9
    go_wp2_with (first | (go_at_call 10; refine (isZero10 Z x y _ (by with_reducible repeat (first | exact hz | apply Zs.al))).mono ?_; rintro e w1 ⟨rfl, rfl⟩) | (go_at_call 11; refine (bitLen11 Z x y _ (by with_reducible repeat (first | exact hz | apply Zs.al))).mono ?_; rintro e w1 ⟨rfl, rfl⟩) | (go_at_call 12; refine (withoutZone12 Z x y _ (by with_reducible repeat (first | exact hz | apply Zs.al))).mono ?_; rintro e w1 ⟨rfl, rfl⟩))
    exact bodyPost_ret (v := .agg #[.int .u64 x, .int .u64 y, .pointer (some Z), .int .u8 31]) (by simp [results, Ybad.results9, go_sem]) rfl ⟨rfl, rfl⟩

/-- The code of a byte: 48 of them. -/
def cd (x : Nat) : Nat := x % 16 + 16 * (x / 16 % 3)
theorem cd_lt (x : Nat) : cd x < 48 := by unfold cd; omega
set_option maxHeartbeats 400000 in
theorem host6 (Z : Addr) (x : Nat) (hx : x < 256) (xx : Int) (hxx : xx = (x : Int)) (w : World) (hz : Zs Z w) :
    Calls Ybad.prog 6 #[.int .u8 xx] w fun e w' => e = .returned (KV Z (cd x)) ∧ Below w.heap.size w w' := by
  subst hxx
  go_enter Ybad.func6, Ybad.ntmps6
  go_wp2_with (first | (go_at_call 8; refine (addrFrom8 Z _ ((281470849515520 + x % 16 : Nat) : Int) (or_small (x % 16) (by omega)) (by omega) (by omega) _ (by with_reducible repeat (first | exact hz | apply Zs.al))).mono ?_; rintro e w1 ⟨rfl, rfl⟩) | (go_at_call 9; refine (prefixFrom9 Z _ _ _ (by omega) _ (by with_reducible repeat (first | exact hz | apply Zs.al))).mono ?_; rintro e w2 ⟨rfl, rfl⟩))
  have hv : (Value.agg #[.int .u64 0, .int .u64 (281470849515520 + (x : Int) % 16), .pointer (some Z), .int .u8 (32 - (x : Int) / 16 % 3 + 1)]) = KV Z (cd x) := by
    unfold KV cd
    rw [show (281470849515520 + (x : Int) % 16) = ((281470849515520 + (x % 16 + 16 * (x / 16 % 3)) % 16 : Nat) : Int) by omega, show (32 - (x : Int) / 16 % 3 + 1) = ((33 - (x % 16 + 16 * (x / 16 % 3)) / 16 : Nat) : Int) by omega]
  refine bodyPost_ret (v := .agg #[.int .u64 0, .int .u64 (281470849515520 + (x : Int) % 16), .pointer (some Z), .int .u8 (32 - (x : Int) / 16 % 3 + 1)]) (by simp [results, Ybad.results6, go_sem]) rfl ⟨by rw [hv], ?_⟩
  exact ((((((((((((Below.refl _ _).alloc (Nat.le_refl _) _).alloc (by simp only [World.size_alloc]; omega) _).alloc (by simp only [World.size_alloc]; omega) _).alloc (by simp only [World.size_alloc]; omega) _).alloc (by simp only [World.size_alloc]; omega) _).alloc (by simp only [World.size_alloc]; omega) _).alloc (by simp only [World.size_alloc]; omega) _).alloc (by simp only [World.size_alloc]; omega) _).alloc (by simp only [World.size_alloc]; omega) _).alloc (by simp only [World.size_alloc]; omega) _).alloc (by simp only [World.size_alloc]; omega) _)
end Go.Proofs.YbulkbmsqDoor
