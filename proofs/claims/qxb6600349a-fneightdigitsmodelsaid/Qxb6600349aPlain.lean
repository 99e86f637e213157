namespace Go.Proofs.Qxb6600349a.Eight

def tops : Nat := 0x8080808080808080

theorem tops_bit (j : Nat) : tops.testBit j = (decide (j < 64) && (j % 8 == 7)) := by
  by_cases h : j < 64
  · have : ∀ i : Fin 64, tops.testBit i.val = (decide (i.val < 64) && (i.val % 8 == 7)) := by decide +kernel
    exact this ⟨j, h⟩
  · have : tops < 2 ^ j := Nat.lt_of_lt_of_le (by decide : tops < 2 ^ 64) (Nat.pow_le_pow_right (by decide) (by omega))
    rw [Nat.testBit_lt_two_pow this]; simp [h]

/-- no top bit set, iff every byte is below 128 -/
theorem and_tops (n : Nat) : n &&& tops = 0 ↔ ∀ i, i < 8 → (n / 256 ^ i) % 256 < 128 := by
  have key : ∀ i, n.testBit (8 * i + 7) = decide (128 ≤ (n / 256 ^ i) % 256) := by
    intro i
    rw [Nat.testBit_eq_decide_div_mod_eq]
    have e : n / 2 ^ (8 * i + 7) = (n / 256 ^ i) / 128 := by
      rw [Nat.pow_add, Nat.pow_mul, Nat.div_div_eq_div_mul]
    rw [e]
    have : ((n / 256 ^ i) / 128 % 2 = 1) ↔ (128 ≤ (n / 256 ^ i) % 256) := by omega
    simp [this]
  constructor
  · intro h i hi
    have hb : (n &&& tops).testBit (8 * i + 7) = false := by rw [h]; simp
    rw [Nat.testBit_and, tops_bit, key] at hb
    have a1 : 8 * i + 7 < 64 := by omega
    have a2 : (8 * i + 7) % 8 = 7 := by omega
    simp [a1, a2] at hb
    omega
  · intro h
    apply Nat.eq_of_testBit_eq
    intro j
    rw [Nat.testBit_and, tops_bit]
    by_cases hj : j < 64 ∧ j % 8 = 7
    · have e : j = 8 * (j / 8) + 7 := by omega
      have := h (j / 8) (by omega)
      rw [e, key]
      simp; omega
    · have : (decide (j < 64) && (j % 8 == 7)) = false := by
        simp; omega
      rw [this]; simp

theorem all8 (p : Nat → Prop) : (∀ i, i < 8 → p i) ↔ p 0 ∧ p 1 ∧ p 2 ∧ p 3 ∧ p 4 ∧ p 5 ∧ p 6 ∧ p 7 := by
  constructor
  · intro h; exact ⟨h 0 (by omega), h 1 (by omega), h 2 (by omega), h 3 (by omega), h 4 (by omega), h 5 (by omega), h 6 (by omega), h 7 (by omega)⟩
  · rintro ⟨h0, h1, h2, h3, h4, h5, h6, h7⟩ i hi
    match i, hi with
    | 0, _ => exact h0
    | 1, _ => exact h1
    | 2, _ => exact h2
    | 3, _ => exact h3
    | 4, _ => exact h4
    | 5, _ => exact h5
    | 6, _ => exact h6
    | 7, _ => exact h7

/-- byte i of x -/
def byt (x i : Nat) : Nat := (x / 256 ^ i) % 256

def digB (x i : Nat) : Prop := 48 ≤ byt x i ∧ byt x i ≤ 57

def W : Nat := 18446744073709551616

theorem ofBytes (b0 b1 b2 b3 b4 b5 b6 b7 : Nat) (h0 : b0 < 256) (h1 : b1 < 256) (h2 : b2 < 256) (h3 : b3 < 256) (h4 : b4 < 256) (h5 : b5 < 256) (h6 : b6 < 256) (h7 : b7 < 256) (x : Nat)
  (hx : x = b0 + 256 * (b1 + 256 * (b2 + 256 * (b3 + 256 * (b4 + 256 * (b5 + 256 * (b6 + 256 * b7))))))) :
   byt x 0 = b0 ∧ byt x 1 = b1 ∧ byt x 2 = b2 ∧ byt x 3 = b3 ∧ byt x 4 = b4 ∧ byt x 5 = b5 ∧ byt x 6 = b6 ∧ byt x 7 = b7 := by
  simp only [byt]
  subst hx
  refine ⟨?_, ?_, ?_, ?_, ?_, ?_, ?_, ?_⟩ <;> simp only [Nat.reducePow] <;> omega

theorem toBytes (x : Nat) (hx : x < 18446744073709551616) :
   x = byt x 0 + 256 * (byt x 1 + 256 * (byt x 2 + 256 * (byt x 3 + 256 * (byt x 4 + 256 * (byt x 5 + 256 * (byt x 6 + 256 * byt x 7)))))) := by
  simp only [byt, Nat.reducePow]
  omega

theorem byt_lt (x i : Nat) : byt x i < 256 := by unfold byt; omega

theorem and_tops' (n : Nat) : n &&& tops = 0 ↔ byt n 0 < 128 ∧ byt n 1 < 128 ∧ byt n 2 < 128 ∧ byt n 3 < 128 ∧ byt n 4 < 128 ∧ byt n 5 < 128 ∧ byt n 6 < 128 ∧ byt n 7 < 128 := by
  rw [and_tops, all8]; rfl

/-- bytewise sum: no carry -/
theorem addBytes (d c : Nat) (hd : d < 18446744073709551616) (h : ∀ i, i < 8 → byt d i + c < 256) :
   d + c * 72340172838076673 < 18446744073709551616 ∧ ∀ i, i < 8 → byt (d + c * 72340172838076673) i = byt d i + c := by
  rw [all8] at h ⊢
  obtain ⟨a0, a1, a2, a3, a4, a5, a6, a7⟩ := h
  have D := toBytes d hd
  have O := ofBytes (byt d 0 + c) (byt d 1 + c) (byt d 2 + c) (byt d 3 + c) (byt d 4 + c) (byt d 5 + c) (byt d 6 + c) (byt d 7 + c) a0 a1 a2 a3 a4 a5 a6 a7 (d + c * 72340172838076673)
  generalize byt d 0 = d0 at *
  generalize byt d 1 = d1 at *
  generalize byt d 2 = d2 at *
  generalize byt d 3 = d3 at *
  generalize byt d 4 = d4 at *
  generalize byt d 5 = d5 at *
  generalize byt d 6 = d6 at *
  generalize byt d 7 = d7 at *
  exact ⟨by clear O; omega, O (by clear O; omega)⟩

/-- bytewise difference: no borrow -/
theorem subBytes (x c : Nat) (hx : x < 18446744073709551616) (h : ∀ i, i < 8 → c ≤ byt x i) :
   c * 72340172838076673 ≤ x ∧ ∀ i, i < 8 → byt (x - c * 72340172838076673) i = byt x i - c := by
  rw [all8] at h ⊢
  obtain ⟨a0, a1, a2, a3, a4, a5, a6, a7⟩ := h
  have D := toBytes x hx
  have l := byt_lt x
  have O := ofBytes (byt x 0 - c) (byt x 1 - c) (byt x 2 - c) (byt x 3 - c) (byt x 4 - c) (byt x 5 - c) (byt x 6 - c) (byt x 7 - c)
    (Nat.lt_of_le_of_lt (Nat.sub_le _ _) (l 0)) (Nat.lt_of_le_of_lt (Nat.sub_le _ _) (l 1)) (Nat.lt_of_le_of_lt (Nat.sub_le _ _) (l 2)) (Nat.lt_of_le_of_lt (Nat.sub_le _ _) (l 3)) (Nat.lt_of_le_of_lt (Nat.sub_le _ _) (l 4)) (Nat.lt_of_le_of_lt (Nat.sub_le _ _) (l 5)) (Nat.lt_of_le_of_lt (Nat.sub_le _ _) (l 6)) (Nat.lt_of_le_of_lt (Nat.sub_le _ _) (l 7)) (x - c * 72340172838076673)
  clear l
  generalize byt x 0 = d0 at *
  generalize byt x 1 = d1 at *
  generalize byt x 2 = d2 at *
  generalize byt x 3 = d3 at *
  generalize byt x 4 = d4 at *
  generalize byt x 5 = d5 at *
  generalize byt x 6 = d6 at *
  generalize byt x 7 = d7 at *
  exact ⟨by clear O; omega, O (by clear O; omega)⟩

/-- the flag word is 0 exactly on eight digits -/
theorem flag (x d s : Nat) (hx : x < 18446744073709551616) (hd : d = (x + 14974415777481871312) % 18446744073709551616)
   (hs : s = (d + 8536140394893047414) % 18446744073709551616) :
   (d ||| s) &&& tops = 0 ↔ ∀ i, i < 8 → digB x i := by
  rw [Nat.and_or_distrib_right, Nat.or_eq_zero_iff, and_tops, and_tops]
  have hdl : d < 18446744073709551616 := by omega
  constructor
  · rintro ⟨ha, hc⟩
    have A : ∀ i, i < 8 → byt d i < 128 := ha
    have C : ∀ i, i < 8 → byt s i < 128 := hc
    have S := addBytes d 118 hdl (fun i hi => by have := A i hi; omega)
    have E := addBytes d 48 hdl (fun i hi => by have := A i hi; omega)
    have e1 : s = d + 118 * 72340172838076673 := by have := S.1; omega
    have e2 : x = d + 48 * 72340172838076673 := by have := E.1; omega
    intro i hi
    have := C i hi
    rw [e1, S.2 i hi] at this
    unfold digB
    rw [e2, E.2 i hi]
    omega
  · intro h
    have E := subBytes x 48 hx (fun i hi => (h i hi).1)
    have e1 : d = x - 48 * 72340172838076673 := by have := E.1; omega
    have A : ∀ i, i < 8 → byt d i ≤ 9 := fun i hi => by rw [e1, E.2 i hi]; have := (h i hi).2; omega
    have S := addBytes d 118 hdl (fun i hi => by have := A i hi; omega)
    have e2 : s = d + 118 * 72340172838076673 := by have := S.1; omega
    refine ⟨fun i hi => Nat.lt_of_le_of_lt (A i hi) (by decide), fun i hi => ?_⟩
    show byt s i < 128
    rw [e2, S.2 i hi]
    have := A i hi
    omega

/-! the three joining steps -/
theorem and_low (x k m c : Nat) (hm : m = (2 ^ c - 1) + 2 ^ k * (m / 2 ^ k)) (hc : c ≤ k) :
   x &&& m = x % 2 ^ c + 2 ^ k * (x / 2 ^ k &&& m / 2 ^ k) := by
  have h1 : (x &&& m) / 2 ^ k = x / 2 ^ k &&& m / 2 ^ k := Nat.and_div_two_pow
  have hlt : 2 ^ c - 1 < 2 ^ k := by
    have := Nat.pow_le_pow_right (n := 2) (by decide) hc
    have : 0 < 2 ^ c := Nat.pow_pos (by decide)
    omega
  have h3 : m % 2 ^ k = 2 ^ c - 1 := by
    rw [hm, Nat.add_mul_mod_self_left]; exact Nat.mod_eq_of_lt hlt
  have h2 : (x &&& m) % 2 ^ k = x % 2 ^ c := by
    rw [Nat.and_mod_two_pow, h3, Nat.and_two_pow_sub_one_eq_mod, Nat.mod_mod_of_dvd _ (Nat.pow_dvd_pow 2 hc)]
  have := Nat.div_add_mod (x &&& m) (2 ^ k)
  rw [h1, h2] at this
  omega

theorem mask1 (x : Nat) (_hx : x < 18446744073709551616) : x &&& 0x00ff00ff00ff00ff =
   x % 256 + 65536 * (x / 65536 % 256 + 65536 * (x / 4294967296 % 256 + 65536 * (x / 281474976710656 % 256))) := by
  rw [and_low x 16 0x00ff00ff00ff00ff 8 (by decide) (by decide), and_low (x / 2 ^ 16) 16 (0x00ff00ff00ff00ff / 2 ^ 16) 8 (by decide) (by decide),
    and_low (x / 2 ^ 16 / 2 ^ 16) 16 (0x00ff00ff00ff00ff / 2 ^ 16 / 2 ^ 16) 8 (by decide) (by decide)]
  have : 0x00ff00ff00ff00ff / 2 ^ 16 / 2 ^ 16 / 2 ^ 16 = 2 ^ 8 - 1 := by decide
  rw [this, Nat.and_two_pow_sub_one_eq_mod]
  simp only [Nat.reducePow]
  omega

theorem mask2 (x : Nat) (_hx : x < 18446744073709551616) : x &&& 0x0000ffff0000ffff =
   x % 65536 + 4294967296 * (x / 4294967296 % 65536) := by
  rw [and_low x 32 0x0000ffff0000ffff 16 (by decide) (by decide)]
  have : 0x0000ffff0000ffff / 2 ^ 32 = 2 ^ 16 - 1 := by decide
  rw [this, Nat.and_two_pow_sub_one_eq_mod]

theorem mask3 (x : Nat) : x &&& 0xffffffff = x % 4294967296 := Nat.and_two_pow_sub_one_eq_mod x 32

def step1 (d : Nat) : Nat := (((d * 10) % W + d / 256) % W) &&& 0x00ff00ff00ff00ff
def step2 (d : Nat) : Nat := (((d * 100) % W + d / 65536) % W) &&& 0x0000ffff0000ffff
def step3 (d : Nat) : Nat := (((d * 10000) % W + d / 4294967296) % W) &&& 0xffffffff

theorem join (e0 e1 e2 e3 e4 e5 e6 e7 d : Nat) (h0 : e0 ≤ 9) (h1 : e1 ≤ 9) (h2 : e2 ≤ 9) (h3 : e3 ≤ 9) (h4 : e4 ≤ 9) (h5 : e5 ≤ 9) (h6 : e6 ≤ 9) (h7 : e7 ≤ 9)
   (hd : d = e0 + 256 * (e1 + 256 * (e2 + 256 * (e3 + 256 * (e4 + 256 * (e5 + 256 * (e6 + 256 * e7))))))) :
   step3 (step2 (step1 d)) = ((((((e0 * 10 + e1) * 10 + e2) * 10 + e3) * 10 + e4) * 10 + e5) * 10 + e6) * 10 + e7 := by
  have s1 : step1 d = (10 * e0 + e1) + 65536 * ((10 * e2 + e3) + 65536 * ((10 * e4 + e5) + 65536 * (10 * e6 + e7))) := by
    have q : d / 256 = e1 + 256 * (e2 + 256 * (e3 + 256 * (e4 + 256 * (e5 + 256 * (e6 + 256 * e7))))) := by omega
    have y : ((d * 10) % W + d / 256) % W = (10 * e0 + e1) + 256 * ((10 * e1 + e2) + 256 * ((10 * e2 + e3) + 256 * ((10 * e3 + e4) + 256 * ((10 * e4 + e5) + 256 * ((10 * e5 + e6) + 256 * ((10 * e6 + e7) + 256 * (10 * e7))))))) := by
      rw [q, hd]; unfold W
      rw [Nat.mod_eq_of_lt (by omega : (e0 + 256 * (e1 + 256 * (e2 + 256 * (e3 + 256 * (e4 + 256 * (e5 + 256 * (e6 + 256 * e7))))))) * 10 < 18446744073709551616)]
      clear q hd
      rw [Nat.mod_eq_of_lt (by omega)]
      omega
    unfold step1
    rw [y, mask1 _ (by omega)]
    generalize hz : (10 * e0 + e1) + 256 * ((10 * e1 + e2) + 256 * ((10 * e2 + e3) + 256 * ((10 * e3 + e4) + 256 * ((10 * e4 + e5) + 256 * ((10 * e5 + e6) + 256 * ((10 * e6 + e7) + 256 * (10 * e7))))))) = z
    have O := ofBytes (10 * e0 + e1) (10 * e1 + e2) (10 * e2 + e3) (10 * e3 + e4) (10 * e4 + e5) (10 * e5 + e6) (10 * e6 + e7) (10 * e7) (by omega) (by omega) (by omega) (by omega) (by omega) (by omega) (by omega) (by omega) z hz.symm
    simp only [byt, Nat.reducePow] at O
    rw [show z % 256 = z / 1 % 256 by rw [Nat.div_one], O.1, O.2.2.1, O.2.2.2.2.1, O.2.2.2.2.2.2.1]
  have s2 : step2 (step1 d) = (100 * (10 * e0 + e1) + (10 * e2 + e3)) + 4294967296 * (100 * (10 * e4 + e5) + (10 * e6 + e7)) := by
    rw [s1]
    clear s1 hd
    generalize ha : 10 * e0 + e1 = a
    generalize hb : 10 * e2 + e3 = b
    generalize hc : 10 * e4 + e5 = c
    generalize hf : 10 * e6 + e7 = f
    have la : a ≤ 99 := by omega
    have lb : b ≤ 99 := by omega
    have lc : c ≤ 99 := by omega
    have lf : f ≤ 99 := by omega
    clear ha hb hc hf h0 h1 h2 h3 h4 h5 h6 h7
    have q : (a + 65536 * (b + 65536 * (c + 65536 * f))) / 65536 = b + 65536 * (c + 65536 * f) := by omega
    unfold step2 W
    rw [q, Nat.mod_eq_of_lt (by omega : (a + 65536 * (b + 65536 * (c + 65536 * f))) * 100 < 18446744073709551616)]
    have y : (a + 65536 * (b + 65536 * (c + 65536 * f))) * 100 + (b + 65536 * (c + 65536 * f)) = (100 * a + b) + 65536 * ((100 * b + c) + 65536 * ((100 * c + f) + 65536 * (100 * f))) := by clear q; omega
    rw [y]
    clear y q
    generalize hA : 100 * a + b = A
    generalize hB : 100 * b + c = B
    generalize hC : 100 * c + f = C
    generalize hF : 100 * f = F
    have kA : A ≤ 9999 := by omega
    have kB : B ≤ 9999 := by omega
    have kC : C ≤ 9999 := by omega
    have kF : F ≤ 9999 := by omega
    clear hA hB hC hF la lb lc lf
    rw [Nat.mod_eq_of_lt (by omega)]
    rw [mask2 _ (by omega)]
    have r1 : (A + 65536 * (B + 65536 * (C + 65536 * F))) % 65536 = A := by rw [Nat.add_mul_mod_self_left]; omega
    have r2 : (A + 65536 * (B + 65536 * (C + 65536 * F))) / 4294967296 = C + 65536 * F := by omega
    rw [r1, r2, Nat.add_mul_mod_self_left]
    omega
  rw [s2]
  clear s1 s2 hd
  generalize ha : 100 * (10 * e0 + e1) + (10 * e2 + e3) = a
  generalize hb : 100 * (10 * e4 + e5) + (10 * e6 + e7) = b
  have la : a ≤ 9999 := by omega
  have lb : b ≤ 9999 := by omega
  have G : step3 (a + 4294967296 * b) = 10000 * a + b := by
    clear ha hb h0 h1 h2 h3 h4 h5 h6 h7
    unfold step3 W
    rw [mask3]
    have q : (a + 4294967296 * b) / 4294967296 = b := by omega
    rw [q, Nat.mod_eq_of_lt (by omega : (a + 4294967296 * b) * 10000 < 18446744073709551616)]
    have y : (a + 4294967296 * b) * 10000 + b = (10000 * a + b) + 4294967296 * (10000 * b) := by clear q; omega
    rw [y]
    clear y q
    rw [Nat.mod_eq_of_lt (by omega : 10000 * a + b + 4294967296 * (10000 * b) < 18446744073709551616), Nat.add_mul_mod_self_left]
    omega
  rw [G]
  omega


/-- the number that the first k bytes spell -/
def hor (x : Nat) : Nat → Nat
  | 0 => 0
  | k + 1 => hor x k * 10 + (byt x k - 48)

theorem hor_le (x : Nat) : ∀ k, k ≤ 8 → (∀ i, i < k → digB x i) → hor x k < 10 ^ k
  | 0, _, _ => by simp [hor]
  | k + 1, hk, h => by
    have a := hor_le x k (by omega) (fun i hi => h i (by omega))
    have b := (h k (by omega)).2
    rw [hor, Nat.pow_succ]
    omega

/-- what the three steps make of eight digits -/
theorem eight (x d : Nat) (hx : x < 18446744073709551616) (hd : d = (x + 14974415777481871312) % 18446744073709551616) (h : ∀ i, i < 8 → digB x i) :
   step3 (step2 (step1 d)) = hor x 8 := by
  have E := subBytes x 48 hx (fun i hi => (h i hi).1)
  have e1 : d = x - 48 * 72340172838076673 := by have := E.1; omega
  have D := toBytes d (by omega)
  have A : ∀ i, i < 8 → byt d i = byt x i - 48 := fun i hi => by rw [e1, E.2 i hi]
  have B : ∀ i, i < 8 → byt d i ≤ 9 := fun i hi => by rw [A i hi]; have := (h i hi).2; omega
  rw [join _ _ _ _ _ _ _ _ d (B 0 (by omega)) (B 1 (by omega)) (B 2 (by omega)) (B 3 (by omega)) (B 4 (by omega)) (B 5 (by omega)) (B 6 (by omega)) (B 7 (by omega)) D]
  rw [A 0 (by omega), A 1 (by omega), A 2 (by omega), A 3 (by omega), A 4 (by omega), A 5 (by omega), A 6 (by omega), A 7 (by omega)]
  simp only [hor]
  omega

end Go.Proofs.Qxb6600349a.Eight
