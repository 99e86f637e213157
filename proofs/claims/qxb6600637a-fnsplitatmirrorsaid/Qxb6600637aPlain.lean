namespace Go.Proofs.Qxb6600637a

/-! ### what splitAt reckons of a list of times (place, sign) and of a list of other references -/
def cntP (p : Int) (L : List (Int × Int)) : Int := L.foldl (fun c t => if t.1 = p then c + 1 else c) 0
def sgnP (p : Int) (L : List (Int × Int)) : Int := L.foldl (fun c t => if t.1 = p then t.2 else c) 0
def recP (p : Int) (L : List (Int × Int)) : Bool := L.foldl (fun c t => if t.1 = p then true else c) false
def knT (pk : Int → Bool) (L : List (Int × Int)) : Bool := L.foldl (fun c t => c && pk t.1) true
def knA (pk : Int → Bool) (c0 : Bool) (A : List (Int × Int × ByteArray)) : Bool := A.foldl (fun c a => c && pk a.1) c0
def owA (p : Int) (A : List (Int × Int × ByteArray)) : Bool := A.foldl (fun c a => c && (a.1 == p)) true

theorem cntP_snoc (p : Int) (L : List (Int × Int)) (t : Int × Int) : cntP p (L ++ [t]) = if t.1 = p then cntP p L + 1 else cntP p L := by simp [cntP]
theorem sgnP_snoc (p : Int) (L : List (Int × Int)) (t : Int × Int) : sgnP p (L ++ [t]) = if t.1 = p then t.2 else sgnP p L := by simp [sgnP]
theorem recP_snoc (p : Int) (L : List (Int × Int)) (t : Int × Int) : recP p (L ++ [t]) = if t.1 = p then true else recP p L := by simp [recP]
theorem knT_snoc (pk : Int → Bool) (L : List (Int × Int)) (t : Int × Int) : knT pk (L ++ [t]) = (knT pk L && pk t.1) := by simp [knT]
theorem knA_snoc (pk : Int → Bool) (c0 : Bool) (A : List (Int × Int × ByteArray)) (a : Int × Int × ByteArray) : knA pk c0 (A ++ [a]) = (knA pk c0 A && pk a.1) := by simp [knA]
theorem owA_snoc (p : Int) (A : List (Int × Int × ByteArray)) (a : Int × Int × ByteArray) : owA p (A ++ [a]) = (owA p A && (a.1 == p)) := by simp [owA]

theorem take_snoc {α : Type} (L : List α) (k : Nat) (h : k < L.length) : L.take (k + 1) = L.take k ++ [L[k]] := List.take_succ_eq_append_getElem h

theorem cntP_gen (p : Int) (L : List (Int × Int)) : ∀ c : Int, 0 ≤ c → 0 ≤ L.foldl (fun c t => if t.1 = p then c + 1 else c) c ∧ L.foldl (fun c t => if t.1 = p then c + 1 else c) c ≤ c + L.length := by
  induction L with
  | nil => intro c hc; simp; exact hc
  | cons t L ih =>
    intro c hc
    rw [List.foldl_cons, List.length_cons]
    by_cases h : t.1 = p
    · rw [if_pos h]; have := ih (c + 1) (by omega); omega
    · rw [if_neg h]; have := ih c hc; omega

theorem cntP_bd (p : Int) (L : List (Int × Int)) : 0 ≤ cntP p L ∧ cntP p L ≤ L.length := by
  have := cntP_gen p L 0 (by omega)
  unfold cntP
  omega

theorem sgnP_gen (p : Int) (L : List (Int × Int)) (h : ∀ t ∈ L, -1 ≤ t.2 ∧ t.2 ≤ 1) : ∀ c : Int, -1 ≤ c → c ≤ 1 → -1 ≤ L.foldl (fun c t => if t.1 = p then t.2 else c) c ∧ L.foldl (fun c t => if t.1 = p then t.2 else c) c ≤ 1 := by
  induction L with
  | nil => intro c h1 h2; exact ⟨h1, h2⟩
  | cons t L ih =>
    intro c h1 h2
    rw [List.foldl_cons]
    have ht := h t (by simp)
    have ih := ih (fun u hu => h u (by simp [hu]))
    by_cases e : t.1 = p
    · rw [if_pos e]; exact ih _ ht.1 ht.2
    · rw [if_neg e]; exact ih _ h1 h2

theorem sgnP_bd (p : Int) (L : List (Int × Int)) (h : ∀ t ∈ L, -1 ≤ t.2 ∧ t.2 ≤ 1) : -1 ≤ sgnP p L ∧ sgnP p L ≤ 1 := sgnP_gen p L h 0 (by omega) (by omega)

end Go.Proofs.Qxb6600637a
