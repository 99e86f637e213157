import Derived.Test.Qxb6601209aDoorWalk
namespace Go.Proofs.Qxb6601209aDoor
open Go.ChangeShapes Go.WideShapes Go.ChangeAt Go.RowKit

set_option maxHeartbeats 1000000 in
theorem inj_walk (a b : Nat) (ha : a ≤ 255) (hb : b ≤ 255) (w : World) (htab : Tab w) (h0 : 0 < w.heap.size) :
    Calls Tryd.prog 3 #[.int .u8 a, .int .u8 b] w fun e w' => e = .returned (.bool true) ∧ Below w.heap.size w w' := by
  by_cases e : a = b
  · subst e
    clear htab
    go_enter Tryd.func3, Tryd.ntmps3
    go_wp2_with fail
    go_ret
    exact ⟨rfl, Below.refl _ _⟩
  · have hne : (((⟨(stL a).toArray⟩ : ByteArray)).toList == ((⟨(stL b).toArray⟩ : ByteArray)).toList) = false := by
      rw [beq_eq_false_iff_ne, ByteArray.toList_eq, ByteArray.toList_eq]
      exact stL_inj e
    have H1 := string_any a ha w htab
    have H2 := fun w' hb' => string_any b hb w' (htab.below hb' h0)
    have e' : ((a : Int) == (b : Int)) = false := by rw [beq_eq_false_iff_ne]; omega
    generalize (⟨(stL a).toArray⟩ : ByteArray) = s1 at *
    generalize (⟨(stL b).toArray⟩ : ByteArray) = s2 at *
    clear htab e
    go_enter Tryd.func3, Tryd.ntmps3
    go_wp2_with fail
    refine H1.mono ?_
    rintro e w1 ⟨rfl, hb1⟩
    have H3 := H2 w1 hb1
    clear H1 H2
    go_wp2_with fail
    refine H3.mono ?_
    rintro e w2 ⟨rfl, hb2⟩
    go_wp2_with fail
    go_ret
    exact ⟨rfl, hb1.trans (hb2.mono hb1.size)⟩

theorem low_of {l : List UInt8} (h : l.all lowC = true) (k : Nat) (hk : k < (⟨l.toArray⟩ : ByteArray).size) : (((⟨l.toArray⟩ : ByteArray)[k].toNat : Nat) : Int) = 32 ∨ (97 ≤ (((⟨l.toArray⟩ : ByteArray)[k].toNat : Nat) : Int) ∧ (((⟨l.toArray⟩ : ByteArray)[k].toNat : Nat) : Int) ≤ 122) := by
  have hk' : k < l.length := hk
  have hg : (⟨l.toArray⟩ : ByteArray)[k] = l[k] := rfl
  rw [hg]
  have := List.all_eq_true.1 h l[k] (List.getElem_mem hk')
  unfold lowC at this
  simp at this
  rcases this with h1 | ⟨h1, h2⟩
  · left; rw [h1]; rfl
  · right; omega

set_option maxHeartbeats 1000000 in
theorem low_walk (v : Nat) (hv : v ≤ 255) (w : World) (htab : Tab w) :
    Calls Tryd.prog 4 #[.int .u8 v] w fun e w' => e = .returned (.bool true) ∧ Below w.heap.size w w' := by
  have H1 := string_any v hv w htab
  clear htab
  by_cases hin : 1 ≤ v ∧ v ≤ 10
  · obtain ⟨n1, n2, n3⟩ := names_low ⟨v - 1, by omega⟩
    rw [stL_in hin] at H1
    have H2 := fun w' => lower_yes ⟨(names.getD (v - 1) []).toArray⟩ w' n2 n3 (low_of n1)
    obtain ⟨i1, i2⟩ := hin
    clear n1 n2 n3
    generalize (⟨(names.getD (v - 1) []).toArray⟩ : ByteArray) = s at *
    have d1 : decide ((v : Int) ≤ 10) = true := by simp; omega
    go_enter Tryd.func4, Tryd.ntmps4
    go_wp2_with (first | (go_at_call 5; refine H1.mono ?_; rintro e w1 ⟨rfl, hb1⟩) | (go_at_call 6; refine (H2 _).mono ?_; rintro e w2 ⟨rfl, rfl⟩))
    go_ret
    exact ⟨rfl, hb1⟩
  · rw [stL_out hin] at H1
    have H2 := fun w' => lower_no ⟨([83, 116, 97, 116, 117, 115, 40] ++ Lib.itoa (v : Int) ++ [41]).toArray⟩ w' (by show 0 < ([83, 116, 97, 116, 117, 115, 40] ++ Lib.itoa (v : Int) ++ [41]).toArray.size; simp) (by show ¬ ((83 : UInt8).toNat : Int) = 32; decide) (by show ((83 : UInt8).toNat : Int) < 97; decide)
    generalize (⟨([83, 116, 97, 116, 117, 115, 40] ++ Lib.itoa (v : Int) ++ [41]).toArray⟩ : ByteArray) = s at *
    rcases (show v = 0 ∨ 11 ≤ v by omega) with c | c
    · subst c
      clear hin
      go_enter Tryd.func4, Tryd.ntmps4
      go_wp2_with (first | (go_at_call 5; refine H1.mono ?_; rintro e w1 ⟨rfl, hb1⟩) | (go_at_call 6; refine (H2 _).mono ?_; rintro e w2 ⟨rfl, rfl⟩))
      go_ret
      exact ⟨rfl, hb1⟩
    · have d1 : decide ((v : Int) ≤ 10) = false := by simp; omega
      clear hin
      go_enter Tryd.func4, Tryd.ntmps4
      go_wp2_with (first | (go_at_call 5; refine H1.mono ?_; rintro e w1 ⟨rfl, hb1⟩) | (go_at_call 6; refine (H2 _).mono ?_; rintro e w2 ⟨rfl, rfl⟩))
      go_ret
      exact ⟨rfl, hb1⟩

end Go.Proofs.Qxb6601209aDoor
