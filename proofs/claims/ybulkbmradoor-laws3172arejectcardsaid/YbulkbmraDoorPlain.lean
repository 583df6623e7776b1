import Derived.Lib.ItoaNum
import Derived.Lib.AtoiAll
import Derived.Lib.ParseIntB
namespace Go.Proofs.YbulkbmraDoor
open Go.Lib
/-- What the law's own writer spells. -/
def txt (x : Int) (plus : Bool) : List UInt8 := if x < 0 then 45 :: decDigits x.natAbs else if plus = true then 43 :: decDigits x.toNat else decDigits x.toNat
theorem txt_itoa (x : Int) : txt x false = itoa x := by unfold txt itoa; simp
theorem pu_app : ∀ (l : List UInt8) (acc a : Nat) (r : List UInt8), parseUint10 acc l = .ok a → parseUint10 acc (l ++ r) = parseUint10 a r
  | [], acc, a, r, h => by
    simp only [parseUint10] at h
    injection h with h
    subst h; rfl
  | c :: l, acc, a, r, h => by
    simp only [List.cons_append, parseUint10] at h ⊢
    split at h
    · rename_i h1
      rw [if_pos h1]
      split at h
      · cases h
      · rename_i h2
        rw [if_neg h2]
        split at h
        · cases h
        · rename_i h3
          rw [if_neg h3]
          exact pu_app l _ a r h
    · cases h
theorem dg_nat (d : Nat) (h : d < 10) : (UInt8.ofNat (48 + d)).toNat = 48 + d := by rw [UInt8.toNat_ofNat']; omega
theorem pu_one (acc d : Nat) (hd : d < 10) (h : acc * 10 + d < 18446744073709551616) : parseUint10 acc [UInt8.ofNat (48 + d)] = .ok (acc * 10 + d) := by
  simp only [parseUint10, dg_nat d hd]
  rw [if_pos (by omega), if_neg (by omega), if_neg (by omega)]
  congr 1; omega
theorem pu_dec : ∀ (u : Nat), u < 18446744073709551616 → parseUint10 0 (decDigits u) = .ok u := by
  intro u
  induction u using Nat.strongRecOn with
  | _ u ih =>
    intro h
    by_cases h10 : u < 10
    · rw [decDigits_one h10, pu_one 0 u h10 (by omega)]; congr 1; omega
    · rw [decDigits, dif_neg h10, pu_app _ _ _ _ (ih (u / 10) (by omega) (by omega)), pu_one _ _ (by omega) (by omega)]
      congr 1; omega
theorem dec_head : ∀ (u : Nat), ∃ c r, decDigits u = c :: r ∧ 48 ≤ c.toNat ∧ c.toNat ≤ 57 := by
  intro u
  induction u using Nat.strongRecOn with
  | _ u ih =>
    by_cases h10 : u < 10
    · exact ⟨_, [], decDigits_one h10, by rw [dg_nat u h10]; omega, by rw [dg_nat u h10]; omega⟩
    · obtain ⟨c, r, hc, h1, h2⟩ := ih (u / 10) (by omega)
      exact ⟨c, r ++ [UInt8.ofNat (48 + u % 10)], by rw [decDigits, dif_neg h10, hc]; rfl, h1, h2⟩
theorem mag_dec (u : Nat) (h : u < 18446744073709551616) : parseMag (decDigits u) = .ok u := by
  obtain ⟨c, r, hc, _⟩ := dec_head u
  unfold parseMag
  rw [if_neg (by rw [hc]; simp)]
  exact pu_dec u h
theorem atoi_txt (x : Int) (plus : Bool) (h0 : -9223372036854775808 ≤ x) (h1 : x ≤ 9223372036854775807) : atoiAll (txt x plus) = .ok x := by
  unfold txt
  split
  · simp only [atoiAll]
    rw [if_pos (by decide), mag_dec _ (by omega)]
    have e : (45 : UInt8).toNat = 45 := rfl
    simp only [e, not_true_eq_false, false_and, if_false, true_and, if_true]
    rw [if_neg (by omega)]
    congr 1; omega
  · split
    · simp only [atoiAll]
      rw [if_pos (by decide), mag_dec _ (by omega)]
      have e : ((43 : UInt8).toNat = 45) = False := by simp
      simp only [e, not_false_eq_true, true_and, false_and, if_false]
      rw [if_neg (by omega)]
      congr 1; omega
    · obtain ⟨c, r, hc, hc1, hc2⟩ := dec_head x.toNat
      have hm := mag_dec x.toNat (by omega)
      rw [hc] at hm ⊢
      simp only [atoiAll]
      rw [if_neg (by omega), hm]
      have e : (c.toNat = 45) = False := by simp; omega
      simp only [e, not_false_eq_true, true_and, false_and, if_false]
      rw [if_neg (by omega)]
      congr 1; omega
theorem txt_len (x : Int) (plus : Bool) (h0 : -9223372036854775808 ≤ x) (h1 : x ≤ 9223372036854775807) : (txt x plus).length ≤ 40 := by
  have key : ∀ (k u : Nat), u < 10 ^ (k + 1) → nDigits u ≤ k + 1 := by
    intro k
    induction k with
    | zero => intro u h; rw [nDigits_small (by simpa using h)]; exact Nat.le_refl _
    | succ k ih =>
      intro u h
      by_cases h10 : u < 10
      · rw [nDigits_small h10]; omega
      · rw [nDigits_big h10]
        have := ih (u / 10) (by rw [Nat.pow_succ] at h; omega)
        omega
  have k1 := key 18 x.natAbs (by omega)
  have k2 := key 18 x.toNat (by omega)
  unfold txt
  split
  · simp only [List.length_cons, decDigits_length]; omega
  · split
    · simp only [List.length_cons, decDigits_length]; omega
    · rw [decDigits_length]; omega
end Go.Proofs.YbulkbmraDoor
