import Derived.Test.Qxb6601216aRows
import Derived.WalkKit
import Derived.WalkSpells
import Derived.WalkLawsBesides
import Derived.StillTactics
import Derived.Laws.Pointers
import Derived.Deep.RegionHeld3
import Derived.RowKit3
import Derived.Below
namespace Go.Proofs.Qxb6601216a
open Go.RowKit

/-! ### the small functions. A struct that is a parameter or a result lies in a block of its own: so the world behind each call has new blocks. -/
theorem toClaim_any (w : World) (n h s r : ByteArray) (t : Int) (a : Bool) :
    Calls Try.prog 10 #[.agg #[.string n, .string h, .string s, .string r, .int .i64 t, .bool a]] w fun e w' =>
      e = .returned (.agg #[.string n, .string h, .string s, .string r, .int .i64 t, .bool a]) ∧ ∃ o1 o2 : Obj, w' = (w.alloc o1).alloc o2 := by
  go_enter Try.func10, Try.ntmps10
  go_wp2
  refine bodyPost_ret (v := .agg #[.string n, .string h, .string s, .string r, .int .i64 t, .bool a]) (by simp [results, Try.results10, go_sem]) rfl ⟨rfl, _, _, rfl⟩

theorem claimBytes_any (w : World) (n h s r : ByteArray) (t : Int) (a : Bool) (hl : n.size + h.size + s.size + r.size ≤ 1048576) :
    Calls Try.prog 8 #[.agg #[.string n, .string h, .string s, .string r, .int .i64 t, .bool a]] w fun e w' =>
      e = .returned (.int .i64 ((n.size : Int) + h.size + s.size + r.size)) ∧ ∃ o1 : Obj, w' = w.alloc o1 := by
  go_enter Try.func8, Try.ntmps8
  go_wp2
  go_ret
  exact ⟨rfl, _, rfl⟩

/-- alike in hub and site -/
def sameB (h s h' s' : ByteArray) : Bool := (h.toList == h'.toList) && (s.toList == s'.toList)

theorem same_any (w : World) (n h s r n' h' s' r' : ByteArray) (t t' : Int) (a a' : Bool) :
    Calls Try.prog 13 #[.agg #[.string n, .string h, .string s, .string r, .int .i64 t, .bool a], .agg #[.string n', .string h', .string s', .string r', .int .i64 t', .bool a']] w fun e w' =>
      e = .returned (.bool (sameB h s h' s')) ∧ ∃ o1 o2 : Obj, w' = (w.alloc o1).alloc o2 := by
  go_enter Try.func13, Try.ntmps13
  go_wp2
  all_goals (go_ret; exact ⟨by simp [sameB, *], _, _, rfl⟩)

/-- the text "active" -/
def actL : List UInt8 := [97, 99, 116, 105, 118, 101]

/-- what outranks answers -/
def outB (n h s r n' h' s' : ByteArray) (t t' : Int) (a a' : Bool) : Bool :=
  if sameB h s h' s' = true then
    if (n.toList == n'.toList) = true then decide (t' < t)
    else if (!a == a') = true then a
    else if (!r.toList == actL) = true then false
    else decide (t' < t) || (decide (t = t') && Op.bytesLess n.toList n'.toList)
  else false

set_option maxHeartbeats 1000000 in
theorem outranks_any (w : World) (n h s r n' h' s' r' : ByteArray) (t t' : Int) (a a' : Bool) :
    Calls Try.prog 16 #[.agg #[.string n, .string h, .string s, .string r, .int .i64 t, .bool a], .agg #[.string n', .string h', .string s', .string r', .int .i64 t', .bool a']] w fun e w' =>
      e = .returned (.bool (outB n h s r n' h' s' t t' a a')) ∧ ∃ o1 o2 : Obj, w' = (w.alloc o1).alloc o2 := by
  go_enter Try.func16, Try.ntmps16
  go_wp2
  all_goals (go_ret; exact ⟨by simp [outB, sameB, actL, *], _, _, rfl⟩)
end Go.Proofs.Qxb6601216a
