import Derived.Lib.ItoaMem
namespace Go.Proofs.Qxb6601209aDoor

/-- the ten statuses' names -/
def names : List (List UInt8) := [
  [103, 114, 97, 110, 116, 101, 100],
  [104, 101, 108, 100],
  [119, 97, 105, 116, 105, 110, 103],
  [100, 101, 97, 100, 108, 111, 99, 107, 101, 100],
  [116, 105, 109, 101, 100, 32, 111, 117, 116],
  [101, 115, 99, 97, 108, 97, 116, 101, 100],
  [111, 118, 101, 114, 32, 108, 105, 109, 105, 116],
  [108, 111, 110, 103, 32, 119, 97, 105, 116],
  [97, 118, 111, 105, 100, 101, 100],
  [108, 111, 99, 107, 101, 100]]

/-- what String gives for v -/
def stL (v : Nat) : List UInt8 := if 1 ≤ v ∧ v ≤ 10 then names.getD (v - 1) [] else [83, 116, 97, 116, 117, 115, 40] ++ Lib.itoa (v : Int) ++ [41]

def decVal (l : List UInt8) : Nat := l.foldl (fun a c => a * 10 + (c.toNat - 48)) 0

theorem decVal_snoc (l : List UInt8) (c : UInt8) : decVal (l ++ [c]) = decVal l * 10 + (c.toNat - 48) := by simp [decVal]

theorem digit_toNat (d : Nat) (h : d < 10) : (UInt8.ofNat (48 + d)).toNat = 48 + d := by
  rw [UInt8.toNat_ofNat']
  omega

theorem decVal_digits : ∀ (m u : Nat), u ≤ m → decVal (Lib.decDigits u) = u
  | 0, u, h => by
    have : u = 0 := by omega
    subst this
    rw [Lib.decDigits_one (by omega)]
    decide
  | m + 1, u, h => by
    by_cases hu : u < 10
    · rw [Lib.decDigits_one hu]
      have := decVal_snoc [] (UInt8.ofNat (48 + u))
      rw [List.nil_append] at this
      rw [this, digit_toNat u hu]
      simp [decVal]
    · rw [Lib.decDigits, dif_neg hu, decVal_snoc, digit_toNat _ (by omega), decVal_digits m (u / 10) (by omega)]
      omega

theorem digits_len : ∀ (m u : Nat), u ≤ m → (Lib.decDigits u).length ≤ u + 1
  | 0, u, h => by
    have : u = 0 := by omega
    subst this
    rw [Lib.decDigits_one (by omega)]
    simp
  | m + 1, u, h => by
    by_cases hu : u < 10
    · rw [Lib.decDigits_one hu]; simp
    · rw [Lib.decDigits, dif_neg hu, List.length_append]
      have := digits_len m (u / 10) (by omega)
      simp
      omega

theorem itoa_len (v : Nat) : (Lib.itoa (v : Int)).length ≤ v + 1 := by
  rw [Lib.itoa_nonneg]; exact digits_len v v (Nat.le_refl _)

theorem itoa_inj {a b : Nat} (h : Lib.itoa (a : Int) = Lib.itoa (b : Int)) : a = b := by
  rw [Lib.itoa_nonneg, Lib.itoa_nonneg] at h
  rw [← decVal_digits a a (Nat.le_refl _), ← decVal_digits b b (Nat.le_refl _), h]

theorem names_nodup : ∀ i j : Fin 10, i ≠ j → names.getD i.val [] ≠ names.getD j.val [] := by decide
theorem names_head : ∀ i : Fin 10, (names.getD i.val []).head? ≠ some 83 := by decide

theorem stL_in {v : Nat} (h : 1 ≤ v ∧ v ≤ 10) : stL v = names.getD (v - 1) [] := by simp [stL, h]
theorem stL_out {v : Nat} (h : ¬ (1 ≤ v ∧ v ≤ 10)) : stL v = [83, 116, 97, 116, 117, 115, 40] ++ Lib.itoa (v : Int) ++ [41] := by unfold stL; rw [if_neg h]

theorem head_in {v : Nat} (h : 1 ≤ v ∧ v ≤ 10) : (stL v).head? ≠ some 83 := by
  rw [stL_in h]; exact names_head ⟨v - 1, by omega⟩
theorem head_out {v : Nat} (h : ¬ (1 ≤ v ∧ v ≤ 10)) : (stL v).head? = some 83 := by
  rw [stL_out h]; rfl

theorem stL_inj {a b : Nat} (hab : a ≠ b) : stL a ≠ stL b := by
  intro e
  by_cases ha : 1 ≤ a ∧ a ≤ 10
  · by_cases hb : 1 ≤ b ∧ b ≤ 10
    · rw [stL_in ha, stL_in hb] at e
      refine names_nodup ⟨a - 1, by omega⟩ ⟨b - 1, by omega⟩ (fun h => ?_) e
      simp at h
      omega
    · exact head_in ha (by rw [e]; exact head_out hb)
  · by_cases hb : 1 ≤ b ∧ b ≤ 10
    · exact head_in hb (by rw [← e]; exact head_out ha)
    · rw [stL_out ha, stL_out hb, List.append_assoc, List.append_assoc] at e
      have e2 := List.append_cancel_left e
      exact hab (itoa_inj (List.append_cancel_right e2))

def lowC (c : UInt8) : Bool := c == 32 || (97 ≤ c.toNat && c.toNat ≤ 122)
theorem names_low : ∀ i : Fin 10, (names.getD i.val []).all lowC = true ∧ 0 < (names.getD i.val []).length ∧ (names.getD i.val []).length ≤ 10 := by decide

end Go.Proofs.Qxb6601209aDoor
