import Derived.Test.Qxb6600637aRows
import Derived.WalkKit
import Derived.ProofKit
import Derived.WalkLawsBesides
import Derived.WalkSpells
namespace Go.Proofs.Qxb6600637a
open Go.ChangeShapes Go.WideShapes Go.ChangeAt Go.RowKit

/-- what a walk asks of a slice whose elements take one cell each: element i reads 'V i'; all lies below block B -/
def Sl (B : Nat) (w : World) (ao : Option Addr) (len : Nat) (V : Nat → Value) : Prop :=
  ∀ i, i < len → ∃ b off, ao = some ⟨b, off, none⟩ ∧ b < B ∧ w.cell? ⟨b, off + i, none⟩ = some (V i)

theorem Sl.below {B : Nat} {w w' : World} {ao : Option Addr} {len : Nat} {V : Nat → Value} (h : Sl B w ao len V) (hb : Below B w w') : Sl B w' ao len V := by
  intro i hi
  obtain ⟨b, off, h1, h2, h3⟩ := h i hi
  exact ⟨b, off, h1, h2, (hb.cell (p := ⟨b, off + i, none⟩) h2).trans h3⟩

/-- what stands at place k of a list, or the zero value -/
def atI (len : Nat) (f : Nat → Int) (k : Nat) : Int := if k < len then f k else 0
def atS (len : Nat) (f : Nat → ByteArray) (k : Nat) : ByteArray := if k < len then f k else ⟨#[]⟩

theorem atI_in {len : Nat} {f : Nat → Int} {k : Nat} (h : k < len) : atI len f k = f k := by simp [atI, h]
theorem atI_out {len : Nat} {f : Nat → Int} {k : Nat} (h : ¬ k < len) : atI len f k = 0 := by simp [atI, h]
theorem atS_in {len : Nat} {f : Nat → ByteArray} {k : Nat} (h : k < len) : atS len f k = f k := by simp [atS, h]
theorem atS_out {len : Nat} {f : Nat → ByteArray} {k : Nat} (h : ¬ k < len) : atS len f k = ⟨#[]⟩ := by simp [atS, h]

set_option maxHeartbeats 400000 in
theorem tokPlace_any (B : Nat) (w : World) (ao : Option Addr) (len cap : Nat) (f : Nat → Int) (h : Sl B w ao len (fun i => .int .i64 (f i))) (k : Nat) :
    Calls Try.prog 27 #[.slice ao len cap, .int .i64 k] w fun e w' => e = .returned (.int .i64 (atI len f k)) ∧ w' = w := by
  by_cases hlt : k < len
  · obtain ⟨b, off, rfl, -, hc⟩ := h k hlt
    clear h
    go_enter Try.func27, Try.ntmps27
    go_wp2
    go_ret
    exact ⟨by rw [atI_in hlt]; rfl, rfl⟩
  · clear h
    go_enter Try.func27, Try.ntmps27
    go_wp2
    go_ret
    exact ⟨by rw [atI_out hlt]; rfl, rfl⟩

set_option maxHeartbeats 400000 in
theorem tokObj_any (B : Nat) (w : World) (ao : Option Addr) (len cap : Nat) (f : Nat → Int) (h : Sl B w ao len (fun i => .int .u8 (f i))) (k : Nat) :
    Calls Try.prog 36 #[.slice ao len cap, .int .i64 k] w fun e w' => e = .returned (.int .u8 (atI len f k)) ∧ w' = w := by
  by_cases hlt : k < len
  · obtain ⟨b, off, rfl, -, hc⟩ := h k hlt
    clear h
    go_enter Try.func36, Try.ntmps36
    go_wp2
    go_ret
    exact ⟨by rw [atI_in hlt]; rfl, rfl⟩
  · clear h
    go_enter Try.func36, Try.ntmps36
    go_wp2
    go_ret
    exact ⟨by rw [atI_out hlt]; rfl, rfl⟩

set_option maxHeartbeats 400000 in
theorem tokName_any (B : Nat) (w : World) (ao : Option Addr) (len cap : Nat) (f : Nat → ByteArray) (h : Sl B w ao len (fun i => .string (f i))) (k : Nat) :
    Calls Try.prog 37 #[.slice ao len cap, .int .i64 k] w fun e w' => e = .returned (.string (atS len f k)) ∧ w' = w := by
  by_cases hlt : k < len
  · obtain ⟨b, off, rfl, -, hc⟩ := h k hlt
    clear h
    go_enter Try.func37, Try.ntmps37
    go_wp2
    go_ret
    exact ⟨by rw [atS_in hlt]; rfl, rfl⟩
  · clear h
    go_enter Try.func37, Try.ntmps37
    go_wp2
    go_ret
    exact ⟨by rw [atS_out hlt]; rfl, rfl⟩

end Go.Proofs.Qxb6600637a
