import Derived.Test.Qxb6601209aDoorShelf
import Derived.Test.Qxb6601209aDoorPlain
import Derived.WalkKit
import Derived.ProofKit
import Derived.WalkLawsBesides
import Derived.WalkSpells
import Derived.WalkSmall
namespace Go.Proofs.Qxb6601209aDoor
open Go.ChangeShapes Go.WideShapes Go.ChangeAt Go.RowKit

/-- the table of the powers of ten lies there -/
def Tab (w : World) : Prop := Lib.TabIs Tryd.prog w powName .u64 Lib.pow10Tab

theorem powAt : Tryd.prog.globalNamed powName = some 0 := by kernel_rfl

theorem Tab.below {B : Nat} {w w' : World} (h : Tab w) (hb : Below B w w') (hB : 0 < B) : Tab w' := var?_below hb powAt hB h

theorem below_grow (w : World) (k : Nat) (os : Array Obj) : Below w.heap.size w (Sort.grow (w.drewN k) os) :=
  ⟨rfl, rfl, rfl, by show w.heap.size ≤ (Sort.grow (w.drewN k) os).heap.size; rw [Sort.size_grow]; exact Nat.le_add_right _ _, fun j hj => Sort.heap_grow_old (w.drewN k) os hj⟩

theorem join_bytes (l : List UInt8) : (⟨#[83, 116, 97, 116, 117, 115, 40]⟩ : ByteArray) ++ ⟨l.toArray⟩ ++ ⟨#[41]⟩ = ⟨([83, 116, 97, 116, 117, 115, 40] ++ l ++ [41]).toArray⟩ := by
  apply Go.WideShapes.bytes_inj
  simp

set_option maxHeartbeats 1000000 in
theorem string_any (v : Nat) (hv : v ≤ 255) (w : World) (htab : Tab w) :
    Calls Tryd.prog 5 #[.int .u8 v] w fun e w' => e = .returned (.string ⟨(stL v).toArray⟩) ∧ Below w.heap.size w w' := by
  rcases (show v = 1 ∨ v ≠ 1 by omega) with e | n1
  · subst e
    clear htab
    go_enter Tryd.func5, Tryd.ntmps5
    go_wp2_with fail
    go_ret
    exact ⟨rfl, Below.refl _ _⟩
  rcases (show v = 2 ∨ v ≠ 2 by omega) with e | n2
  · subst e
    clear htab
    go_enter Tryd.func5, Tryd.ntmps5
    go_wp2_with fail
    go_ret
    exact ⟨rfl, Below.refl _ _⟩
  rcases (show v = 3 ∨ v ≠ 3 by omega) with e | n3
  · subst e
    clear htab
    go_enter Tryd.func5, Tryd.ntmps5
    go_wp2_with fail
    go_ret
    exact ⟨rfl, Below.refl _ _⟩
  rcases (show v = 4 ∨ v ≠ 4 by omega) with e | n4
  · subst e
    clear htab
    go_enter Tryd.func5, Tryd.ntmps5
    go_wp2_with fail
    go_ret
    exact ⟨rfl, Below.refl _ _⟩
  rcases (show v = 5 ∨ v ≠ 5 by omega) with e | n5
  · subst e
    clear htab
    go_enter Tryd.func5, Tryd.ntmps5
    go_wp2_with fail
    go_ret
    exact ⟨rfl, Below.refl _ _⟩
  rcases (show v = 6 ∨ v ≠ 6 by omega) with e | n6
  · subst e
    clear htab
    go_enter Tryd.func5, Tryd.ntmps5
    go_wp2_with fail
    go_ret
    exact ⟨rfl, Below.refl _ _⟩
  rcases (show v = 7 ∨ v ≠ 7 by omega) with e | n7
  · subst e
    clear htab
    go_enter Tryd.func5, Tryd.ntmps5
    go_wp2_with fail
    go_ret
    exact ⟨rfl, Below.refl _ _⟩
  rcases (show v = 8 ∨ v ≠ 8 by omega) with e | n8
  · subst e
    clear htab
    go_enter Tryd.func5, Tryd.ntmps5
    go_wp2_with fail
    go_ret
    exact ⟨rfl, Below.refl _ _⟩
  rcases (show v = 9 ∨ v ≠ 9 by omega) with e | n9
  · subst e
    clear htab
    go_enter Tryd.func5, Tryd.ntmps5
    go_wp2_with fail
    go_ret
    exact ⟨rfl, Below.refl _ _⟩
  rcases (show v = 10 ∨ v ≠ 10 by omega) with e | n10
  · subst e
    clear htab
    go_enter Tryd.func5, Tryd.ntmps5
    go_wp2_with fail
    go_ret
    exact ⟨rfl, Below.refl _ _⟩
  have H := Tryd.strconv_Itoa v (by omega) (by omega) w htab
  have hlen := itoa_len v
  have HS : Hid (stL v = [83, 116, 97, 116, 117, 115, 40] ++ Lib.itoa (v : Int) ++ [41]) := stL_out (by omega)
  generalize Lib.itoa (v : Int) = l at *
  have m1 : ¬ 9223372036854775807 < 7 + l.length := by omega
  have m2 : ¬ 9223372036854775807 < 7 + l.length + 1 := by omega
  clear htab
  go_enter Tryd.func5, Tryd.ntmps5
  go_wp2_with (go_at_call 7; refine H.mono ?_; rintro e w' ⟨rfl, k, os, rfl⟩)
  go_ret
  exact ⟨by rw [HS.out, ← join_bytes]; rfl, below_grow w k os⟩

set_option maxHeartbeats 400000 in
theorem lower_no (s : ByteArray) (w : World) (h0 : 0 < s.size) (hh : ¬ (s[0].toNat : Int) = 32) (hh2 : (s[0].toNat : Int) < 97) :
    Calls Tryd.prog 6 #[.string s] w fun e w' => e = .returned (.bool false) ∧ w' = w := by
  go_enter Tryd.func6, Tryd.ntmps6
  go_wp2
  go_loop [3] (fun i => i = .int .i64 0) (fun _ => 1)
  case atStart => rfl
  case round =>
    subst hrel
    go_wp2
    go_ret
    exact ⟨rfl, rfl⟩

set_option maxHeartbeats 400000 in
theorem lower_yes (s : ByteArray) (w : World) (h0 : 0 < s.size) (hs : s.size ≤ 10) (hall : ∀ (k : Nat) (hk : k < s.size), (s[k].toNat : Int) = 32 ∨ (97 ≤ (s[k].toNat : Int) ∧ (s[k].toNat : Int) ≤ 122)) :
    Calls Tryd.prog 6 #[.string s] w fun e w' => e = .returned (.bool true) ∧ w' = w := by
  have HA : Hid (∀ (k : Nat) (hk : k < s.size), (s[k].toNat : Int) = 32 ∨ (97 ≤ (s[k].toNat : Int) ∧ (s[k].toNat : Int) ≤ 122)) := hall
  clear hall
  go_enter Tryd.func6, Tryd.ntmps6
  go_wp2
  go_loop [3] (fun i => ∃ k : Nat, k ≤ s.size ∧ i = .int .i64 k) (fun i => s.size - (intOf i).toNat)
  case atStart => exact ⟨0, by omega, rfl⟩
  case round =>
    obtain ⟨k, hk, rfl⟩ := hrel
    by_cases hlt : k < s.size
    · rcases HA.out k hlt with c1 | ⟨c1, c2⟩
      · have c1' : ((s[k].toNat : Int) == 32) = true := by simp [c1]
        clear c1
        go_wp2
        go_round
        case rel => exact ⟨k + 1, by omega, by go_num⟩
        case measure => simp [intOf]; omega
      · have c3 : ((s[k].toNat : Int) == 32) = false := by rw [beq_eq_false_iff_ne]; omega
        go_wp2
        go_round
        case rel => exact ⟨k + 1, by omega, by go_num⟩
        case measure => simp [intOf]; omega
    · go_wp2
      go_ret
      exact ⟨rfl, rfl⟩

end Go.Proofs.Qxb6601209aDoor
