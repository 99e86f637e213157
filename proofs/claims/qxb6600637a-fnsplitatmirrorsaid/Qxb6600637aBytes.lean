import Derived.Test.Qxb6600637aToks
import Derived.Test.Qxb6600637aPlain
namespace Go.Proofs.Qxb6600637a
open Go.ChangeShapes Go.WideShapes Go.ChangeAt Go.RowKit

def SomeBool (e : Ending) : Prop := ∃ c : Bool, e = .returned (.bool c)

set_option maxHeartbeats 400000 in
theorem strings_any (B : Nat) (w : World) (an : Option Addr) (ln cn : Nat) (fs : Nat → ByteArray) (hs : Sl B w an ln (fun i => .string (fs i))) (hl : ln ≤ 9223372036854775807) :
    Calls Try.prog 11 #[.slice an ln cn] w fun e w' => (∃ z : Int, e = .returned (.int .i64 z)) ∧ w = w' := by
  go_enter Try.func11, Try.ntmps11
  go_wp2
  go_loop [3, 4] (fun n i => ∃ (k : Nat) (z : Int), k ≤ ln ∧ i = .int .i64 k ∧ n = .int .i64 z ∧ 0 ≤ z ∧ z ≤ 1048576) (fun _ i => ln - (intOf i).toNat)
  case atStart => exact ⟨0, 0, by omega, rfl, rfl, by omega, by omega⟩
  case round =>
    obtain ⟨k, z, hk, rfl, rfl, hz1, hz2⟩ := hrel
    by_cases hlt : k < ln
    · obtain ⟨b, off, rfl, -, hc0⟩ := hs k hlt
      have hc : w.cell? ⟨b, off + k, none⟩ = some (.string (fs k)) := hc0
      clear hc0
      by_cases g1 : (1048576 : Int) < ((fs k).size : Int)
      · go_wp2
        go_ret
        exact ⟨⟨_, rfl⟩, rfl⟩
      · by_cases g2 : (1048576 : Int) < z + (16 + ((fs k).size : Int))
        · go_wp2
          go_ret
          exact ⟨⟨_, rfl⟩, rfl⟩
        · go_wp2
          go_round
          case rel => exact ⟨k + 1, _, by omega, by go_num, rfl, by omega, by omega⟩
          case measure => simp [intOf]; omega
    · go_wp2
      go_ret
      exact ⟨⟨_, rfl⟩, rfl⟩

set_option maxHeartbeats 1000000 in
theorem zzCase_any (B : Nat) (w : World) (cmp : ByteArray) (ao apl aob an ap : Option Addr) (lo co lpl cpl lob cob ln cn lp cp : Nat) (pi hand : Int) (fs : Nat → ByteArray) (hs : Sl B w an ln (fun i => .string (fs i))) (hl : ln ≤ 9223372036854775807) :
    Calls Try.prog 24 #[.string cmp, .slice ao lo co, .slice apl lpl cpl, .slice aob lob cob, .slice an ln cn, .int .i64 pi, .int .i64 hand, .slice ap lp cp] w fun e w' => SomeBool e ∧ w = w' := by
  go_enter Try.func24, Try.ntmps24
  go_wp2_with fail
  all_goals (try (go_ret; exact ⟨⟨_, rfl⟩, rfl⟩))
  go_loop [17, 18] (fun n i => ∃ (k : Nat) (z : Int), k ≤ ln ∧ i = .int .i64 k ∧ n = .int .i64 z ∧ 0 ≤ z ∧ z ≤ 1048576) (fun _ i => ln - (intOf i).toNat)
  case atStart => exact ⟨0, _, by omega, rfl, rfl, by omega, by omega⟩
  case round =>
    obtain ⟨k, z, hk, rfl, rfl, hz1, hz2⟩ := hrel
    by_cases hlt : k < ln
    · obtain ⟨b, off, rfl, -, hc0⟩ := hs k hlt
      have hc : w.cell? ⟨b, off + k, none⟩ = some (.string (fs k)) := hc0
      clear hc0
      by_cases g1 : (1048576 : Int) < ((fs k).size : Int)
      · go_wp2
        go_ret
        exact ⟨⟨_, rfl⟩, rfl⟩
      · by_cases g2 : (1048576 : Int) < z + ((fs k).size : Int)
        · go_wp2
          go_ret
          exact ⟨⟨_, rfl⟩, rfl⟩
        · go_wp2
          go_round
          case rel => exact ⟨k + 1, _, by omega, by go_num, rfl, by omega, by omega⟩
          case measure => simp [intOf]; omega
    · go_wp2
      all_goals go_ret
      all_goals exact ⟨⟨_, rfl⟩, rfl⟩

set_option maxHeartbeats 1000000 in
theorem zzMirror_any (B : Nat) (w : World) (cmp : ByteArray) (ao apl aob an ap : Option Addr) (lo co lpl cpl lob cob ln cn lp cp : Nat) (pi hand : Int) (fs : Nat → ByteArray) (hs : Sl B w an ln (fun i => .string (fs i))) (hl : ln ≤ 9223372036854775807) :
    Calls Try.prog 30 #[.string cmp, .slice ao lo co, .slice apl lpl cpl, .slice aob lob cob, .slice an ln cn, .int .i64 pi, .int .i64 hand, .slice ap lp cp] w fun e w' => SomeBool e ∧ w = w' := by
  go_enter Try.func30, Try.ntmps30
  go_wp2_with fail
  all_goals (try (go_ret; exact ⟨⟨_, rfl⟩, rfl⟩))
  go_loop [17, 18] (fun n i => ∃ (k : Nat) (z : Int), k ≤ ln ∧ i = .int .i64 k ∧ n = .int .i64 z ∧ 0 ≤ z ∧ z ≤ 1048576) (fun _ i => ln - (intOf i).toNat)
  case atStart => exact ⟨0, _, by omega, rfl, rfl, by omega, by omega⟩
  case round =>
    obtain ⟨k, z, hk, rfl, rfl, hz1, hz2⟩ := hrel
    by_cases hlt : k < ln
    · obtain ⟨b, off, rfl, -, hc0⟩ := hs k hlt
      have hc : w.cell? ⟨b, off + k, none⟩ = some (.string (fs k)) := hc0
      clear hc0
      by_cases g1 : (1048576 : Int) < ((fs k).size : Int)
      · go_wp2
        go_ret
        exact ⟨⟨_, rfl⟩, rfl⟩
      · by_cases g2 : (1048576 : Int) < z + ((fs k).size : Int)
        · go_wp2
          go_ret
          exact ⟨⟨_, rfl⟩, rfl⟩
        · go_wp2
          go_round
          case rel => exact ⟨k + 1, _, by omega, by go_num, rfl, by omega, by omega⟩
          case measure => simp [intOf]; omega
    · go_wp2
      all_goals go_ret
      all_goals exact ⟨⟨_, rfl⟩, rfl⟩

end Go.Proofs.Qxb6600637a
