import Derived.Test.Qxb6600637aZZ
import Derived.Test.Qxb6600637aToks
namespace Go.Proofs.Qxb6600637a

/-- the signs of a place, in order -/
def sgs (p : Int) (L : List (Int × Int)) : List Int := (L.filter fun t => t.1 == p).map fun t => t.2

theorem sgs_cons (p : Int) (t : Int × Int) (L : List (Int × Int)) : sgs p (t :: L) = if t.1 = p then t.2 :: sgs p L else sgs p L := by
  unfold sgs
  by_cases h : t.1 = p
  · simp [h]
  · simp [h]

theorem sgs_app (p : Int) (L M : List (Int × Int)) : sgs p (L ++ M) = sgs p L ++ sgs p M := by simp [sgs]

theorem sgs_neg (p : Int) (L : List (Int × Int)) : sgs p (negT L) = (sgs p L).map fun x => -x := by
  induction L with
  | nil => rfl
  | cons t L ih =>
    show sgs p ((t.1, -t.2) :: negT L) = _
    rw [sgs_cons, sgs_cons, ih]
    by_cases h : t.1 = p
    · simp [h]
    · simp [h]

theorem cnt_sgs (p : Int) (L : List (Int × Int)) : cntP p L = ((sgs p L).length : Int) := by
  have gen : ∀ c : Int, L.foldl (fun c t => if t.1 = p then c + 1 else c) c = c + ((sgs p L).length : Int) := by
    induction L with
    | nil => intro c; simp [sgs]
    | cons t L ih =>
      intro c
      rw [List.foldl_cons, sgs_cons, ih]
      by_cases h : t.1 = p
      · rw [if_pos h, if_pos h, List.length_cons]; omega
      · rw [if_neg h, if_neg h]
  have := gen 0
  unfold cntP
  omega

theorem sgn_sgs (p : Int) (L : List (Int × Int)) : sgnP p L = (sgs p L).getLastD 0 := by
  have gen : ∀ c : Int, L.foldl (fun c t => if t.1 = p then t.2 else c) c = (sgs p L).getLastD c := by
    induction L with
    | nil => intro c; rfl
    | cons t L ih =>
      intro c
      rw [List.foldl_cons, sgs_cons, ih]
      by_cases h : t.1 = p
      · rw [if_pos h, if_pos h, List.getLastD_cons]
      · rw [if_neg h, if_neg h]
  exact gen 0

theorem rec_sgs (p : Int) (L : List (Int × Int)) : recP p L = !(sgs p L).isEmpty := by
  have gen : ∀ c : Bool, L.foldl (fun c t => if t.1 = p then true else c) c = (c || !(sgs p L).isEmpty) := by
    induction L with
    | nil => intro c; simp [sgs]
    | cons t L ih =>
      intro c
      rw [List.foldl_cons, sgs_cons, ih]
      by_cases h : t.1 = p
      · rw [if_pos h, if_pos h]; simp
      · rw [if_neg h, if_neg h]
  have := gen false
  unfold recP
  simpa using this

theorem two_places (p q : Int) (hpq : p ≠ q) (L : List (Int × Int)) : (sgs p L).length + (sgs q L).length ≤ L.length := by
  induction L with
  | nil => simp [sgs]
  | cons t L ih =>
    rw [sgs_cons, sgs_cons, List.length_cons]
    by_cases h : t.1 = p
    · have h2 : ¬ t.1 = q := fun e => hpq (h.symm.trans e)
      rw [if_pos h, if_neg h2, List.length_cons]; omega
    · rw [if_neg h]
      by_cases h2 : t.1 = q
      · rw [if_pos h2, List.length_cons]; omega
      · rw [if_neg h2]; omega

theorem sgs_le (p : Int) (L : List (Int × Int)) : (sgs p L).length ≤ L.length := by
  unfold sgs
  rw [List.length_map]
  exact List.length_filter_le _ _

/-- all signs are 1 or -1 -/
def Sgd (L : List (Int × Int)) : Prop := ∀ t ∈ L, t.2 = 1 ∨ t.2 = -1

theorem sgs_mem (p : Int) (L : List (Int × Int)) (h : Sgd L) : ∀ x ∈ sgs p L, x = 1 ∨ x = -1 := by
  intro x hx
  unfold sgs at hx
  obtain ⟨t, ht, rfl⟩ := List.mem_map.1 hx
  exact h t (List.mem_filter.1 ht).1

theorem last_mem (l : List Int) (h : ∀ x ∈ l, x = 1 ∨ x = -1) (hn : l ≠ []) : l.getLastD 0 = 1 ∨ l.getLastD 0 = -1 := by
  have : l.getLastD 0 ∈ l := by
    rw [List.getLastD_eq_getLast?, List.getLast?_eq_some_getLast hn]
    exact List.getLast_mem hn
  exact h _ this

section
variable {X Y : List (Int × Int)}

theorem mir_cnt (p : Int) (X Y : List (Int × Int)) : cntP p (X ++ negT Y) = cntP p (Y ++ negT X) := by
  rw [cnt_sgs, cnt_sgs, sgs_app, sgs_app, sgs_neg, sgs_neg]
  simp
  omega

theorem mir_rec (p : Int) (X Y : List (Int × Int)) : recP p (X ++ negT Y) = recP p (Y ++ negT X) := by
  rw [rec_sgs, rec_sgs, sgs_app, sgs_app, sgs_neg, sgs_neg]
  cases sgs p X <;> cases sgs p Y <;> simp

theorem mir_len (X Y : List (Int × Int)) : (X ++ negT Y).length = (Y ++ negT X).length := by simp [negT]; omega

theorem mir_sgn (p : Int) (X Y : List (Int × Int)) (h : (sgs p (X ++ negT Y)).length ≤ 1) : sgnP p (Y ++ negT X) = -(sgnP p (X ++ negT Y)) := by
  rw [sgn_sgs, sgn_sgs, sgs_app, sgs_app, sgs_neg, sgs_neg]
  rw [sgs_app, sgs_neg] at h
  match hx : sgs p X, hy : sgs p Y with
  | [], [] => simp
  | [a], [] => simp
  | [], [b] => simp
  | a :: b :: r, _ => rw [hx] at h; simp at h
  | _, a :: b :: r => rw [hy] at h; simp at h; omega
  | [a], [b] => rw [hx, hy] at h; simp at h

theorem kn_all (pk : Int → Bool) (L : List (Int × Int)) : knT pk L = L.all fun t => pk t.1 := by
  have gen : ∀ c : Bool, L.foldl (fun c t => c && pk t.1) c = (c && L.all fun t => pk t.1) := by
    induction L with
    | nil => intro c; simp
    | cons t L ih => intro c; rw [List.foldl_cons, ih, List.all_cons, Bool.and_assoc]
  have := gen true
  unfold knT
  simpa using this

theorem knA_all (pk : Int → Bool) (A : List (Int × Int × ByteArray)) : ∀ c : Bool, knA pk c A = (c && A.all fun t => pk t.1) := by
  induction A with
  | nil => intro c; simp [knA]
  | cons t A ih =>
    intro c
    show knA pk (c && pk t.1) A = _
    rw [ih, List.all_cons, Bool.and_assoc]

theorem ow_all (p : Int) (A : List (Int × Int × ByteArray)) : owA p A = A.all fun t => t.1 == p := by
  have gen : ∀ c : Bool, A.foldl (fun c a => c && (a.1 == p)) c = (c && A.all fun t => t.1 == p) := by
    induction A with
    | nil => intro c; simp
    | cons t A ih => intro c; rw [List.foldl_cons, ih, List.all_cons, Bool.and_assoc]
  have := gen true
  unfold owA
  simpa using this

theorem negT_all (pk : Int → Bool) (L : List (Int × Int)) : ((negT L).all fun t => pk t.1) = L.all fun t => pk t.1 := by
  unfold negT
  rw [List.all_map]
  rfl

theorem mir_kn (pk : Int → Bool) (X Y : List (Int × Int)) (A B : List (Int × Int × ByteArray)) : knA pk (knT pk (X ++ negT Y)) (A ++ B) = knA pk (knT pk (Y ++ negT X)) (B ++ A) := by
  rw [knA_all, knA_all, kn_all, kn_all, List.all_append, List.all_append, List.all_append, List.all_append, negT_all, negT_all]
  cases X.all fun t => pk t.1 <;> cases Y.all fun t => pk t.1 <;> cases A.all fun t => pk t.1 <;> cases B.all fun t => pk t.1 <;> rfl

theorem mir_ow (p : Int) (A B : List (Int × Int × ByteArray)) : owA p (A ++ B) = owA p (B ++ A) := by
  rw [ow_all, ow_all, List.all_append, List.all_append, Bool.and_comm]

theorem Sgd.mir (h : Sgd (X ++ negT Y)) : Sgd (Y ++ negT X) := by
  intro t ht
  rcases List.mem_append.1 ht with h1 | h1
  · have := h (t.1, -t.2) (List.mem_append_right _ (List.mem_map.2 ⟨t, h1, rfl⟩))
    have : -t.2 = 1 ∨ -t.2 = -1 := this
    omega
  · obtain ⟨u, hu, rfl⟩ := List.mem_map.1 h1
    have := h u (List.mem_append_left _ hu)
    show -u.2 = 1 ∨ -u.2 = -1
    omega

theorem mir_tr (pi hand : Int) (X Y : List (Int × Int)) (ow : Bool) (hs : Sgd (X ++ negT Y)) (h : cntP pi (X ++ negT Y) ≤ 1) :
    trB (recP hand (X ++ negT Y)) (X ++ negT Y).length (sgnP hand (X ++ negT Y)) (sgnP pi (X ++ negT Y)) ow = trB (recP hand (Y ++ negT X)) (Y ++ negT X).length (sgnP hand (Y ++ negT X)) (sgnP pi (Y ++ negT X)) ow := by
  rw [← mir_rec hand X Y, ← mir_len X Y]
  have hc : (sgs pi (X ++ negT Y)).length ≤ 1 := by rw [cnt_sgs] at h; omega
  rw [mir_sgn pi X Y hc]
  unfold trB
  by_cases hl : (X ++ negT Y).length = 2
  · cases hr : recP hand (X ++ negT Y)
    · simp
    · have e : (sgnP hand (X ++ negT Y) == -(sgnP pi (X ++ negT Y))) = (sgnP hand (Y ++ negT X) == -(-(sgnP pi (X ++ negT Y)))) := by
        by_cases hh : (sgs hand (X ++ negT Y)).length ≤ 1
        · rw [mir_sgn hand X Y hh, Bool.eq_iff_iff]
          simp only [beq_iff_eq]
          omega
        · have hne : pi ≠ hand := by
            intro e
            rw [e] at hc
            exact hh hc
          have h2 := two_places pi hand hne (X ++ negT Y)
          have hz : sgs pi (X ++ negT Y) = [] := List.eq_nil_of_length_eq_zero (by omega)
          have z1 : sgnP pi (X ++ negT Y) = 0 := by rw [sgn_sgs, hz]; rfl
          have m1 : sgs hand (X ++ negT Y) ≠ [] := by intro e; rw [e] at hh; simp at hh
          have hcc := mir_cnt hand X Y
          rw [cnt_sgs, cnt_sgs] at hcc
          have m2 : sgs hand (Y ++ negT X) ≠ [] := by intro e; rw [e] at hcc; simp at hcc; exact m1 hcc
          have n1 := last_mem _ (sgs_mem hand _ hs) m1
          have n2 := last_mem _ (sgs_mem hand _ hs.mir) m2
          rw [← sgn_sgs] at n1 n2
          rw [z1]
          have f1 : (sgnP hand (X ++ negT Y) == -(0 : Int)) = false := by rw [beq_eq_false_iff_ne]; omega
          have f2 : (sgnP hand (Y ++ negT X) == -(-(0 : Int))) = false := by rw [beq_eq_false_iff_ne]; omega
          rw [f1, f2]
      rw [e]
  · have : ((X ++ negT Y).length == 2) = false := by rw [beq_eq_false_iff_ne]; exact hl
    rw [this]
    simp

theorem mir_fav (s : ByteArray) (sg : Int) : favB s sg = favB (mirS s) (-sg) := by
  unfold favB mirS belB
  cases h1 : (s.toList == [60])
  · cases h2 : (s.toList == [60, 61])
    · cases h3 : (s.toList == [62])
      · simp
      · simp
    · simp
  · simp
end

end Go.Proofs.Qxb6600637a
