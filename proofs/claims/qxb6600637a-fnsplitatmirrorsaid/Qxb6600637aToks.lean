import Derived.Test.Qxb6600637aSmall
namespace Go.Proofs.Qxb6600637a

/-- the tokens: each one's byte, place, object and name -/
structure Toks where
  op : Nat → Int
  pl : Nat → Int
  ob : Nat → Int
  nm : Nat → ByteArray

/-- the parity of the marks at 0 .. p -/
def par (f : Nat → Bool) : Nat → Bool
  | 0 => f 0
  | p + 1 => Bool.xor (par f p) (f (p + 1))

def tog (f : Nat → Bool) (s : Nat) : Nat → Bool := fun j => if j = s then !(f j) else f j

theorem par_tog (f : Nat → Bool) (s : Nat) : ∀ p, par (tog f s) p = if s ≤ p then !(par f p) else par f p
  | 0 => by
    by_cases h : s = 0
    · subst h; simp [par, tog]
    · have h1 : ¬ s ≤ 0 := by omega
      have h2 : ¬ 0 = s := by omega
      simp [par, tog, h, h2]
  | p + 1 => by
    rw [par, par_tog f s p, par]
    by_cases h : s ≤ p
    · have h1 : ¬ p + 1 = s := by omega
      have h2 : s ≤ p + 1 := by omega
      simp [tog, h, h1, h2]
    · by_cases h1 : s = p + 1
      · subst h1; simp [tog]
      · have h2 : ¬ s ≤ p + 1 := by omega
        have h3 : ¬ p + 1 = s := by omega
        simp [tog, h, h2, h3]

theorem par_tog2 (f : Nat → Bool) (s i p : Nat) (hsi : s ≤ i) : par (tog (tog f s) i) p = if s ≤ p ∧ p < i then !(par f p) else par f p := by
  rw [par_tog, par_tog]
  by_cases h1 : i ≤ p
  · have h2 : s ≤ p := by omega
    have h3 : ¬ (s ≤ p ∧ p < i) := by omega
    simp [h1, h2]
  · by_cases h2 : s ≤ p
    · have h3 : p < i := by omega
      simp [h1, h2, h3]
    · simp [h1, h2]

def isLeaf (t : Toks) (p : Nat) : Bool := leafB (t.op p) (t.ob p) (t.nm p)

def oneT (t : Toks) (f : Nat → Bool) (p : Nat) : List (Int × Int) := if isLeaf t p then [(t.pl p, if par f p then -1 else 1)] else []
def oneA (t : Toks) (p : Nat) : List (Int × Int × ByteArray) := if t.op p = 114 ∧ isLeaf t p = false then [(t.pl p, t.ob p, t.nm p)] else []

def leafT (t : Toks) (f : Nat → Bool) (s e : Nat) : List (Int × Int) := (List.range' s (e - s)).flatMap (oneT t f)
def leafA (t : Toks) (s e : Nat) : List (Int × Int × ByteArray) := (List.range' s (e - s)).flatMap (oneA t)

theorem leafT_succ (t : Toks) (f : Nat → Bool) {s e : Nat} (h : s ≤ e) : leafT t f s (e + 1) = leafT t f s e ++ oneT t f e := by
  unfold leafT
  rw [show e + 1 - s = (e - s) + 1 by omega, List.range'_1_concat, show s + (e - s) = e by omega]
  simp

theorem leafA_succ (t : Toks) {s e : Nat} (h : s ≤ e) : leafA t s (e + 1) = leafA t s e ++ oneA t e := by
  unfold leafA
  rw [show e + 1 - s = (e - s) + 1 by omega, List.range'_1_concat, show s + (e - s) = e by omega]
  simp

theorem leafT_self (t : Toks) (f : Nat → Bool) (s : Nat) : leafT t f s s = [] := by simp [leafT]
theorem leafA_self (t : Toks) (s : Nat) : leafA t s s = [] := by simp [leafA]

theorem leafT_cat (t : Toks) (f : Nat → Bool) {a b : Nat} (h1 : a ≤ b) : ∀ c, b ≤ c → leafT t f a b ++ leafT t f b c = leafT t f a c := by
  intro c hc
  induction c with
  | zero => have : b = 0 := by omega
            subst this; simp [leafT_self]
  | succ c ih =>
    by_cases h : b = c + 1
    · subst h; simp [leafT_self]
    · rw [leafT_succ t f (by omega : b ≤ c), leafT_succ t f (by omega : a ≤ c), ← List.append_assoc, ih (by omega)]

theorem leafA_cat (t : Toks) {a b : Nat} (h1 : a ≤ b) : ∀ c, b ≤ c → leafA t a b ++ leafA t b c = leafA t a c := by
  intro c hc
  induction c with
  | zero => have : b = 0 := by omega
            subst this; simp [leafA_self]
  | succ c ih =>
    by_cases h : b = c + 1
    · subst h; simp [leafA_self]
    · rw [leafA_succ t (by omega : b ≤ c), leafA_succ t (by omega : a ≤ c), ← List.append_assoc, ih (by omega)]

theorem leafT_congr (t : Toks) {f g : Nat → Bool} {s : Nat} : ∀ e, (∀ p, s ≤ p → p < e → par g p = par f p) → leafT t g s e = leafT t f s e := by
  intro e
  induction e with
  | zero => intro _; simp [leafT]
  | succ e ih =>
    intro h
    by_cases hs : s ≤ e
    · rw [leafT_succ t g hs, leafT_succ t f hs, ih (fun p h1 h2 => h p h1 (by omega))]
      unfold oneT
      rw [h e hs (by omega)]
    · have : e + 1 - s = 0 := by omega
      simp [leafT, this]

theorem leafT_neg (t : Toks) {f g : Nat → Bool} {s : Nat} : ∀ e, (∀ p, s ≤ p → p < e → par g p = !(par f p)) → leafT t g s e = negT (leafT t f s e) := by
  intro e
  induction e with
  | zero => intro _; simp [leafT, negT]
  | succ e ih =>
    intro h
    by_cases hs : s ≤ e
    · rw [leafT_succ t g hs, leafT_succ t f hs, ih (fun p h1 h2 => h p h1 (by omega))]
      unfold negT
      rw [List.map_append]
      congr 1
      unfold oneT
      rw [h e hs (by omega)]
      cases isLeaf t e
      · simp
      · cases par f e <;> simp
    · have : e + 1 - s = 0 := by omega
      simp [leafT, this, negT]

theorem negT_neg (T : List (Int × Int)) : negT (negT T) = T := by
  unfold negT
  rw [List.map_map]
  conv => rhs; rw [← List.map_id T]
  apply List.map_congr_left
  intro t _
  simp

theorem negT_app (T U : List (Int × Int)) : negT (T ++ U) = negT T ++ negT U := by simp [negT]

theorem leafT_len (t : Toks) (f : Nat → Bool) (s : Nat) : ∀ e, (leafT t f s e).length ≤ e - s := by
  intro e
  induction e with
  | zero => simp [leafT]
  | succ e ih =>
    by_cases hs : s ≤ e
    · rw [leafT_succ t f hs, List.length_append]
      have : (oneT t f e).length ≤ 1 := by unfold oneT; split <;> simp
      omega
    · have : e + 1 - s = 0 := by omega
      simp [leafT, this]

theorem leafA_len (t : Toks) (s : Nat) : ∀ e, (leafA t s e).length ≤ e - s := by
  intro e
  induction e with
  | zero => simp [leafA]
  | succ e ih =>
    by_cases hs : s ≤ e
    · rw [leafA_succ t hs, List.length_append]
      have : (oneA t e).length ≤ 1 := by unfold oneA; split <;> simp
      omega
    · have : e + 1 - s = 0 := by omega
      simp [leafA, this]

theorem leafT_mem (t : Toks) (f : Nat → Bool) (s e : Nat) (x : Int × Int) (h : x ∈ leafT t f s e) : ∃ p, s ≤ p ∧ p < e ∧ t.op p = 114 ∧ x.1 = t.pl p ∧ -1 ≤ x.2 ∧ x.2 ≤ 1 := by
  unfold leafT at h
  obtain ⟨p, hp, hx⟩ := List.mem_flatMap.1 h
  rw [List.mem_range'_1] at hp
  unfold oneT at hx
  by_cases hl : isLeaf t p
  · rw [if_pos hl] at hx
    simp only [List.mem_singleton] at hx
    subst hx
    refine ⟨p, hp.1, by omega, ?_, rfl, ?_, ?_⟩
    · unfold isLeaf leafB at hl
      simp only [Bool.and_eq_true, beq_iff_eq] at hl
      exact hl.1
    · show (-1 : Int) ≤ if par f p then -1 else 1
      split <;> omega
    · show (if par f p then (-1 : Int) else 1) ≤ 1
      split <;> omega
  · rw [if_neg hl] at hx; simp at hx

theorem leafA_mem (t : Toks) (s e : Nat) (x : Int × Int × ByteArray) (h : x ∈ leafA t s e) : ∃ p, s ≤ p ∧ p < e ∧ t.op p = 114 ∧ x.1 = t.pl p := by
  unfold leafA at h
  obtain ⟨p, hp, hx⟩ := List.mem_flatMap.1 h
  rw [List.mem_range'_1] at hp
  unfold oneA at hx
  by_cases hl : t.op p = 114 ∧ isLeaf t p = false
  · rw [if_pos hl] at hx
    simp only [List.mem_singleton] at hx
    subst hx
    exact ⟨p, hp.1, by omega, hl.1, rfl⟩
  · rw [if_neg hl] at hx; simp at hx

end Go.Proofs.Qxb6600637a
