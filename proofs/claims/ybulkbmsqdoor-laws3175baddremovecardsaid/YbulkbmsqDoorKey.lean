import Derived.Test.YbulkbmsqDoorRows
import Derived.WalkKit
import Derived.WalkSpells
import Derived.WalkLawsBesides
import Derived.WideKeyRuns
import Derived.LaidEqlPtr
namespace Go.Proofs.YbulkbmsqDoor
open Go.RowKit
theorem fields32 : (Ybad.prog.fieldsOf 32).toList.map (fun f => (f.name != "_", f.type, f.offset)) = [(true, 30, 0)] := by kernel_rfl
theorem fields34 : (Ybad.prog.fieldsOf 34).toList.map (fun f => (f.name != "_", f.type, f.offset)) = [(true, 29, 0), (true, 32, 2)] := by kernel_rfl
theorem fields29 : (Ybad.prog.fieldsOf 29).toList.map (fun f => (f.name != "_", f.type, f.offset)) = [(true, 27, 0), (true, 27, 1)] := by kernel_rfl
theorem fields36 : (Ybad.prog.fieldsOf 36).toList.map (fun f => (f.name != "_", f.type, f.offset)) = [(true, 34, 0), (true, 5, 3)] := by kernel_rfl
theorem st36 : Ybad.prog.underlying 36 = some (.struct (Ybad.prog.fieldsOf 36)) := by kernel_rfl
theorem st34 : Ybad.prog.underlying 34 = some (.struct (Ybad.prog.fieldsOf 34)) := by kernel_rfl
theorem st32 : Ybad.prog.underlying 32 = some (.struct (Ybad.prog.fieldsOf 32)) := by kernel_rfl
theorem st29 : Ybad.prog.underlying 29 = some (.struct (Ybad.prog.fieldsOf 29)) := by kernel_rfl
theorem si36 : Ybad.prog.stoodInHeld 36 = false := by kernel_rfl
theorem si34 : Ybad.prog.stoodInHeld 34 = false := by kernel_rfl
theorem si32 : Ybad.prog.stoodInHeld 32 = false := by kernel_rfl
theorem si29 : Ybad.prog.stoodInHeld 29 = false := by kernel_rfl

/-- The key of a host: code c below 48. -/
def KV (Z : Addr) (c : Nat) : Value := .agg #[.int .u64 0, .int .u64 ((281470849515520 + c % 16 : Nat) : Int), .pointer (some Z), .int .u8 ((33 - c / 16 : Nat) : Int)]

theorem checkKV (em : Bool) (Z : Addr) (c : Nat) (w : World) : (Instr.checkKey em 10000 36 (KV Z c)).run Ybad.prog w = .ok () w := by kernel_rfl

theorem eqf_one {d : Nat} {xs ys : Array Value} {l : List Field} {t o : Nat} (h : l.map (fun f => (f.name != "_", f.type, f.offset)) = [(true, t, o)]) {a b : Value} {w : World} {r : Bool}
    (ha : (part t xs o).run Ybad.prog w = .ok a w) (hb : (part t ys o).run Ybad.prog w = .ok b w) (hr : (Op.equalIn d t a b).run Ybad.prog w = .ok r w) : (Op.eqFields d xs ys l).run Ybad.prog w = .ok r w := by
  obtain ⟨f, l1, rfl⟩ : ∃ f l1, l = f :: l1 := by cases l <;> simp at h ⊢
  obtain rfl : l1 = [] := by cases l1 <;> simp at h ⊢
  · simp only [List.map_cons, List.map_nil, List.cons.injEq, Prod.mk.injEq, bne_iff_ne, and_true] at h
    obtain ⟨h1, h2, h3⟩ := h
    subst h2 h3
    cases r <;> simp [Op.eqFields, h1, ha, hb, hr]
theorem eqf_two {d : Nat} {xs ys : Array Value} {l : List Field} {t o t' o' : Nat} (h : l.map (fun f => (f.name != "_", f.type, f.offset)) = [(true, t, o), (true, t', o')]) {a b a' b' : Value} {w : World} {r r' : Bool}
    (ha : (part t xs o).run Ybad.prog w = .ok a w) (hb : (part t ys o).run Ybad.prog w = .ok b w) (hr : (Op.equalIn d t a b).run Ybad.prog w = .ok r w)
    (ha' : (part t' xs o').run Ybad.prog w = .ok a' w) (hb' : (part t' ys o').run Ybad.prog w = .ok b' w) (hr' : (Op.equalIn d t' a' b').run Ybad.prog w = .ok r' w) : (Op.eqFields d xs ys l).run Ybad.prog w = .ok (r && r') w := by
  obtain ⟨f, l1, rfl⟩ : ∃ f l1, l = f :: l1 := by cases l <;> simp at h ⊢
  obtain ⟨g, l2, rfl⟩ : ∃ f l2, l1 = f :: l2 := by cases l1 <;> simp at h ⊢
  obtain rfl : l2 = [] := by cases l2 <;> simp at h ⊢
  · simp only [List.map_cons, List.map_nil, List.cons.injEq, Prod.mk.injEq, bne_iff_ne, and_true] at h
    obtain ⟨⟨h1, h2, h3⟩, h4, h5, h6⟩ := h
    subst h2 h3 h5 h6
    cases r <;> cases r' <;> simp [Op.eqFields, h1, h4, ha, hb, hr, ha', hb', hr']

theorem eq30 (d : Nat) (Z : Addr) (w : World) : (Op.equalIn (d + 1) 30 (.pointer (some Z)) (.pointer (some Z))).run Ybad.prog w = .ok true w := by
  obtain ⟨j, hj, _⟩ := Option.map_eq_some_iff.1 (show (Ybad.prog.info? 65).map (fun _ => ()) = some () by kernel_rfl)
  simp [Op.equalIn, run_underlying Ybad.underlying30, sizeOf, typeInfo, hj, run_sameAddr_same]
theorem eq30nil (d : Nat) (Z : Addr) (w : World) : (Op.equalIn (d + 1) 30 (.pointer (some Z)) (.pointer none)).run Ybad.prog w = .ok false w := by
  simp [Op.equalIn, run_underlying Ybad.underlying30]
theorem eq32 (d : Nat) (Z : Addr) (w : World) : (Op.equalIn (d + 2) 32 (.agg #[.pointer (some Z)]) (.agg #[.pointer (some Z)])).run Ybad.prog w = .ok true w :=
  (run_equalIn_struct w (d + 1) 32 _ _ st32 si32).trans (eqf_one fields32 (by kernel_rfl) (by kernel_rfl) (eq30 d Z w))
theorem eq32nil (d : Nat) (Z : Addr) (w : World) : (Op.equalIn (d + 2) 32 (.agg #[.pointer (some Z)]) (.agg #[.pointer none])).run Ybad.prog w = .ok false w :=
  (run_equalIn_struct w (d + 1) 32 _ _ st32 si32).trans (eqf_one fields32 (by kernel_rfl) (by kernel_rfl) (eq30nil d Z w))
theorem eq29 (d : Nat) (x y x' y' : Int) (w : World) : (Op.equalIn (d + 2) 29 (.agg #[.int .u64 x, .int .u64 y]) (.agg #[.int .u64 x', .int .u64 y'])).run Ybad.prog w = .ok (x == x' && y == y') w :=
  (run_equalIn_struct w (d + 1) 29 _ _ st29 si29).trans (eqf_two fields29 (by kernel_rfl) (by kernel_rfl) (run_equalIn_int w d 27 .u64 .u64 x x' Ybad.underlying27) (by kernel_rfl) (by kernel_rfl) (run_equalIn_int w d 27 .u64 .u64 y y' Ybad.underlying27))
theorem eq34 (d : Nat) (x y x' y' : Int) (Z : Addr) (w : World) : (Op.equalIn (d + 3) 34 (.agg #[.int .u64 x, .int .u64 y, .pointer (some Z)]) (.agg #[.int .u64 x', .int .u64 y', .pointer (some Z)])).run Ybad.prog w = .ok ((x == x' && y == y') && true) w :=
  (run_equalIn_struct w (d + 2) 34 _ _ st34 si34).trans (eqf_two fields34 (by kernel_rfl) (by kernel_rfl) (eq29 d x y x' y' w) (by kernel_rfl) (by kernel_rfl) (eq32 d Z w))
theorem eq36 (d : Nat) (x y b x' y' b' : Int) (Z : Addr) (w : World) : (Op.equalIn (d + 4) 36 (.agg #[.int .u64 x, .int .u64 y, .pointer (some Z), .int .u8 b]) (.agg #[.int .u64 x', .int .u64 y', .pointer (some Z), .int .u8 b'])).run Ybad.prog w = .ok (((x == x' && y == y') && true) && b == b') w :=
  (run_equalIn_struct w (d + 3) 36 _ _ st36 si36).trans (eqf_two fields36 (by kernel_rfl) (by kernel_rfl) (eq34 d x y x' y' Z w) (by kernel_rfl) (by kernel_rfl) (run_equalIn_int w (d + 2) 5 .u8 .u8 b b' Ybad.underlying5))
theorem equalKV {c c' : Nat} (hc : c < 48) (hc' : c' < 48) (Z : Addr) (w : World) : (Op.equalIn 10000 36 (KV Z c) (KV Z c')).run Ybad.prog w = .ok (c == c') w := by
  have h := eq36 9996 0 ((281470849515520 + c % 16 : Nat) : Int) ((33 - c / 16 : Nat) : Int) 0 ((281470849515520 + c' % 16 : Nat) : Int) ((33 - c' / 16 : Nat) : Int) Z w
  have e : (((((0 : Int) == 0) && (((281470849515520 + c % 16 : Nat) : Int) == ((281470849515520 + c' % 16 : Nat) : Int))) && true) && (((33 - c / 16 : Nat) : Int) == ((33 - c' / 16 : Nat) : Int))) = (c == c') := by
    rw [Bool.eq_iff_iff]
    simp only [Bool.and_eq_true, beq_iff_eq, and_true, true_and]
    omega
  rw [e] at h
  exact h
theorem sameKV (Z : Addr) (c : Nat) : Instr.sameBits 10000 (KV Z c) (KV Z c) = true := by
  show Instr.sameBits (9999 + 1) (.agg #[_, _, _, _]) (.agg #[_, _, _, _]) = true
  simp [Instr.sameBits]
theorem eql32 (Z : Addr) (w : World) : (binOp .eql 32 (.agg #[.pointer (some Z)]) (.agg #[.pointer (some Z)])).run Ybad.prog w = .ok (.bool true) w := by
  rw [run_eql_struct, show (10000 : Nat) = 9998 + 2 from rfl, eq32]; rfl
theorem eql32nil (Z : Addr) (w : World) : (binOp .eql 32 (.agg #[.pointer (some Z)]) (.agg #[.pointer none])).run Ybad.prog w = .ok (.bool false) w := by
  rw [run_eql_struct, show (10000 : Nat) = 9998 + 2 from rfl, eq32nil]; rfl
theorem neq32 (Z : Addr) (w : World) : (binOp .neq 32 (.agg #[.pointer (some Z)]) (.agg #[.pointer (some Z)])).run Ybad.prog w = .ok (.bool false) w := by
  rw [run_neq_struct, show (10000 : Nat) = 9998 + 2 from rfl, eq32]; rfl
theorem neq32nil (Z : Addr) (w : World) : (binOp .neq 32 (.agg #[.pointer (some Z)]) (.agg #[.pointer none])).run Ybad.prog w = .ok (.bool true) w := by
  rw [run_neq_struct, show (10000 : Nat) = 9998 + 2 from rfl, eq32nil]; rfl
theorem eqlKV {c c' : Nat} (hc : c < 48) (hc' : c' < 48) (Z : Addr) (w : World) : (binOp .eql 36 (KV Z c) (KV Z c')).run Ybad.prog w = .ok (.bool (c == c')) w := by
  have h := run_eql_struct (P := Ybad.prog) w 36 #[.int .u64 0, .int .u64 ((281470849515520 + c % 16 : Nat) : Int), .pointer (some Z), .int .u8 ((33 - c / 16 : Nat) : Int)] #[.int .u64 0, .int .u64 ((281470849515520 + c' % 16 : Nat) : Int), .pointer (some Z), .int .u8 ((33 - c' / 16 : Nat) : Int)]
  rw [show Value.agg #[.int .u64 0, .int .u64 ((281470849515520 + c % 16 : Nat) : Int), .pointer (some Z), .int .u8 ((33 - c / 16 : Nat) : Int)] = KV Z c from rfl, show Value.agg #[.int .u64 0, .int .u64 ((281470849515520 + c' % 16 : Nat) : Int), .pointer (some Z), .int .u8 ((33 - c' / 16 : Nat) : Int)] = KV Z c' from rfl, equalKV hc hc'] at h
  exact h
theorem neqKV {c c' : Nat} (hc : c < 48) (hc' : c' < 48) (Z : Addr) (w : World) : (binOp .neq 36 (KV Z c) (KV Z c')).run Ybad.prog w = .ok (.bool (!(c == c'))) w := by
  have h := run_neq_struct (P := Ybad.prog) w 36 #[.int .u64 0, .int .u64 ((281470849515520 + c % 16 : Nat) : Int), .pointer (some Z), .int .u8 ((33 - c / 16 : Nat) : Int)] #[.int .u64 0, .int .u64 ((281470849515520 + c' % 16 : Nat) : Int), .pointer (some Z), .int .u8 ((33 - c' / 16 : Nat) : Int)]
  rw [show Value.agg #[.int .u64 0, .int .u64 ((281470849515520 + c % 16 : Nat) : Int), .pointer (some Z), .int .u8 ((33 - c / 16 : Nat) : Int)] = KV Z c from rfl, show Value.agg #[.int .u64 0, .int .u64 ((281470849515520 + c' % 16 : Nat) : Int), .pointer (some Z), .int .u8 ((33 - c' / 16 : Nat) : Int)] = KV Z c' from rfl, equalKV hc hc'] at h
  exact h
end Go.Proofs.YbulkbmsqDoor
