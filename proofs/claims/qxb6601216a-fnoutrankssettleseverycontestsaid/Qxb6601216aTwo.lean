import Derived.Test.Qxb6601216aSmall
namespace Go.Proofs.Qxb6601216a
open Go.RowKit

theorem zzoutranks_any (w : World) (n h s r n' h' s' r' : ByteArray) (t t' : Int) (a a' : Bool) :
    Calls Try.prog 9 #[.agg #[.string n, .string h, .string s, .string r, .int .i64 t, .bool a], .agg #[.string n', .string h', .string s', .string r', .int .i64 t', .bool a']] w fun e w' =>
      e = .returned (.bool (outB n h s r n' h' s' t t' a a')) ∧ ∃ o1 o2 o3 o4 : Obj, w' = (((w.alloc o1).alloc o2).alloc o3).alloc o4 := by
  go_enter Try.func9, Try.ntmps9
  go_wp2_with (go_at_call 16; refine (outranks_any _ n h s r n' h' s' r' t t' a a').mono ?_; rintro e w' ⟨rfl, o1, o2, rfl⟩)
  go_ret
  exact ⟨rfl, _, _, _, _, rfl⟩

/-- what contested answers -/
def conB (n h s r n' h' s' r' : ByteArray) (t t' : Int) (a a' : Bool) : Bool :=
  if sameB h s h' s' = true then
    if (n.toList == n'.toList) = true then (t != t')
    else if (!a == a') = true then true
    else (r.toList == actL) && (r'.toList == actL)
  else false

set_option maxHeartbeats 1000000 in
theorem contested_any (w : World) (n h s r n' h' s' r' : ByteArray) (t t' : Int) (a a' : Bool) :
    Calls Try.prog 14 #[.agg #[.string n, .string h, .string s, .string r, .int .i64 t, .bool a], .agg #[.string n', .string h', .string s', .string r', .int .i64 t', .bool a']] w fun e w' =>
      e = .returned (.bool (conB n h s r n' h' s' r' t t' a a')) ∧ ∃ o1 o2 o3 o4 : Obj, w' = (((w.alloc o1).alloc o2).alloc o3).alloc o4 := by
  have hS := fun v : World => same_any v n h s r n' h' s' r' t t' a a'
  unfold conB
  generalize sameB h s h' s' = c at hS ⊢
  cases c
  all_goals (
    go_enter Try.func14, Try.ntmps14
    go_wp2_with (go_at_call 13; refine (hS _).mono ?_; rintro e w' ⟨rfl, o1, o2, rfl⟩)
    all_goals (go_ret; exact ⟨by simp [actL, *], _, _, _, _, rfl⟩))

/-- the bound on the strings' total length -/
def lenB (n h s r n' h' s' r' : ByteArray) : Bool := decide (n.size + h.size + s.size + r.size + n'.size + h'.size + s'.size + r'.size ≤ 1048576)

set_option maxHeartbeats 2000000 in
theorem zzBytes_any (w : World) (n h s r n' h' s' r' : ByteArray) (t t' : Int) (a a' : Bool) :
    Calls Try.prog 12 #[.agg #[.string n, .string h, .string s, .string r, .int .i64 t, .bool a], .agg #[.string n', .string h', .string s', .string r', .int .i64 t', .bool a']] w fun e w' =>
      e = .returned (.bool (lenB n h s r n' h' s' r')) ∧ ∃ o1 o2 : Obj, w' = (w.alloc o1).alloc o2 := by
  go_enter Try.func12, Try.ntmps12
  go_wp2
  all_goals (go_ret; exact ⟨by first | (rw [show lenB n h s r n' h' s' r' = true from decide_eq_true (by omega)]; rfl) | (rw [show lenB n h s r n' h' s' r' = false from decide_eq_false (by omega)]; rfl), _, _, rfl⟩)
end Go.Proofs.Qxb6601216a
